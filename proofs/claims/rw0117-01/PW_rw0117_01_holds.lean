import PyProof.Rows.All
import Wide.All
import OpenK.AllK
import Wide.FinOn
import Lean
import PySem.Challenge.RW_rw0117_01
set_option Elab.async false

/-! TL1 -/
section
open PySem PySem.W PyProof.Rows PySem.Calls
set_option maxRecDepth 100000
set_option autoImplicit false
set_option linter.unusedVariables false
namespace Mine

/-- the frozen part of the heap -/
abbrev Frz := Addr → Option Obj
def Frz.le (Z Z' : Frz) : Prop := ∀ a o, Z a = some o → Z' a = some o
theorem Frz.le.refl (Z : Frz) : Z.le Z := fun _ _ e => e
theorem Frz.le.trans {Z Z' Z'' : Frz} (h : Z.le Z') (k : Z'.le Z'') : Z.le Z'' := fun a o e => k a o (h a o e)
def LisO (o : Obj) (xs : List Value) : Prop := o.cls = .type "list" ∧ ∃ n, o.data = .seq xs.toArray n
def TupO (o : Obj) (xs : List Value) : Prop := o.cls = .type "tuple" ∧ ∃ n, o.data = .seq xs.toArray n

/-- an own dict's keys, in order -/
def KeysAre : List Str → List DictEntry → Prop
  | [], [] => True
  | n :: ns, e :: es => (∃ t, e.key = .str n t) ∧ KeysAre ns es
  | _, _ => False

/-- abstract values: tokens are forgotten; frozen containers are values -/
inductive V where
  | int (i : Int)
  | str (x : List Nat)
  | bool (b : Bool)
  | none
  | val (y : Value)
  | lst (vs : List V)
  | tup (vs : List V)
  | rng (a b c : Int)
  | inst (C : Addr) (ns : List Str) (vs : List V)
mutual
def V.is (Z : Frz) : V → Value → Prop
  | .int i, v => ∃ t, v = .int i t
  | .str x, v => ∃ t, v = .str ⟨x.toArray⟩ t
  | .bool b, v => v = .bool b
  | .none, v => v = .none
  | .val y, v => v = y
  | .lst vs, v => ∃ a xs o, v = .ref a ∧ Z a = some o ∧ LisO o xs ∧ AllIs Z vs xs
  | .tup vs, v => ∃ a xs o, v = .ref a ∧ Z a = some o ∧ TupO o xs ∧ AllIs Z vs xs
  | .rng a b c, v => ∃ r o, v = .ref r ∧ Z r = some o ∧ ∃ t u v', ∀ h : Heap, h.get? r = some o → IsRange h r a b c t u v'
  | .inst C ns vs, v => ∃ a d es n, v = .ref a ∧ Z a = some (instObj C d) ∧ Z d = some (dictOf es n) ∧ KeysAre ns es ∧ AllIs Z vs (es.map fun e => e.val)
def AllIs (Z : Frz) : List V → List Value → Prop
  | [], l => l = []
  | v :: vs, l => ∃ x xs, l = x :: xs ∧ v.is Z x ∧ AllIs Z vs xs
end
abbrev V.ref (a : Addr) : V := .val (.ref a)
theorem AllIs.nil {Z : Frz} : AllIs Z [] [] := by simp [AllIs]
theorem AllIs.cons {Z : Frz} {v : V} {vs : List V} {x : Value} {xs : List Value} (h : v.is Z x) (k : AllIs Z vs xs) : AllIs Z (v :: vs) (x :: xs) := by
  simp only [AllIs]; exact ⟨x, xs, rfl, h, k⟩
theorem AllIs.inv {Z : Frz} {v : V} {vs : List V} {l : List Value} (h : AllIs Z (v :: vs) l) : ∃ x xs, l = x :: xs ∧ v.is Z x ∧ AllIs Z vs xs := by
  simpa only [AllIs] using h
theorem AllIs.inv0 {Z : Frz} {l : List Value} (h : AllIs Z [] l) : l = [] := by simpa only [AllIs] using h
mutual
theorem V.is.mono {Z Z' : Frz} (k : Z.le Z') : ∀ {v : V} {x : Value}, v.is Z x → v.is Z' x
  | .int i, v, h => by simpa only [V.is] using h
  | .str x, v, h => by simpa only [V.is] using h
  | .bool b, v, h => by simpa only [V.is] using h
  | .none, v, h => by simpa only [V.is] using h
  | .val y, v, h => by simpa only [V.is] using h
  | .lst vs, v, h => by
    simp only [V.is] at h ⊢
    obtain ⟨a, xs, o, e, z, l, q⟩ := h
    exact ⟨a, xs, o, e, k _ _ z, l, AllIs.mono k q⟩
  | .tup vs, v, h => by
    simp only [V.is] at h ⊢
    obtain ⟨a, xs, o, e, z, l, q⟩ := h
    exact ⟨a, xs, o, e, k _ _ z, l, AllIs.mono k q⟩
  | .rng a b c, v, h => by
    simp only [V.is] at h ⊢
    obtain ⟨r, o, e, z, q⟩ := h
    exact ⟨r, o, e, k _ _ z, q⟩
  | .inst C ns vs, v, h => by
    simp only [V.is] at h ⊢
    obtain ⟨a, d, es, n, e, z1, z2, q1, q2⟩ := h
    exact ⟨a, d, es, n, e, k _ _ z1, k _ _ z2, q1, AllIs.mono k q2⟩
theorem AllIs.mono {Z Z' : Frz} (k : Z.le Z') : ∀ {vs : List V} {xs : List Value}, AllIs Z vs xs → AllIs Z' vs xs
  | [], xs, h => by simpa only [AllIs] using h
  | v :: vs, xs, h => by
    obtain ⟨x, xs', rfl, hv, hvs⟩ := AllIs.inv h
    exact AllIs.cons (V.is.mono k hv) (AllIs.mono k hvs)
end
section
variable {Z : Frz}
theorem AllIs.length : ∀ {vs : List V} {xs : List Value}, AllIs Z vs xs → xs.length = vs.length
  | [], xs, h => by rw [h.inv0]; rfl
  | v :: vs, xs, h => by obtain ⟨x, xs', rfl, _, k⟩ := h.inv; simp [AllIs.length k]
theorem AllIs.append : ∀ {vs : List V} {xs : List Value} {us : List V} {ys : List Value}, AllIs Z vs xs → AllIs Z us ys → AllIs Z (vs ++ us) (xs ++ ys)
  | [], xs, _, _, h, k => by rw [h.inv0]; exact k
  | v :: vs, xs, _, _, h, k => by obtain ⟨x, xs', rfl, hx, h'⟩ := h.inv; exact AllIs.cons hx (h'.append k)
theorem AllIs.get : ∀ {vs : List V} {xs : List Value}, AllIs Z vs xs → ∀ {i : Nat} {v : V}, vs[i]? = some v → ∃ x, xs[i]? = some x ∧ v.is Z x
  | [], _, _, i, _, e => by simp at e
  | v :: _, xs, h, 0, u, e => by obtain ⟨x, xs', rfl, hx, _⟩ := h.inv; simp at e; exact ⟨x, rfl, e ▸ hx⟩
  | v :: vs, xs, h, i + 1, u, e => by
    obtain ⟨x, xs', rfl, _, h'⟩ := h.inv
    simpa using h'.get (i := i) (by simpa using e)
theorem AllIs.get' {vs : List V} {xs : List Value} (h : AllIs Z vs xs) {i : Nat} {x : Value} (e : xs[i]? = some x) : ∃ v, vs[i]? = some v ∧ v.is Z x := by
  obtain ⟨hlt, _⟩ := List.getElem?_eq_some_iff.mp e
  obtain ⟨y, e', k⟩ := h.get (i := i) (v := vs[i]'(by rw [← h.length]; exact hlt)) (by simp)
  rw [e'] at e; cases e
  exact ⟨_, List.getElem?_eq_getElem _, k⟩
theorem AllIs.set : ∀ {vs : List V} {xs : List Value}, AllIs Z vs xs → ∀ (i : Nat) {v : V} {x : Value}, v.is Z x → AllIs Z (vs.set i v) (xs.set i x)
  | [], _, h, _, _, _, _ => by rw [h.inv0]; exact AllIs.nil
  | _ :: _, _, h, 0, _, _, k => by obtain ⟨x, xs', rfl, _, h'⟩ := h.inv; exact AllIs.cons k h'
  | _ :: _, _, h, i + 1, _, _, k => by obtain ⟨x, xs', rfl, hx, h'⟩ := h.inv; exact AllIs.cons hx (h'.set i k)
theorem AllIs.take : ∀ {vs : List V} {xs : List Value}, AllIs Z vs xs → ∀ (i : Nat), AllIs Z (vs.take i) (xs.take i)
  | [], _, h, i => by rw [h.inv0]; simpa using AllIs.nil
  | _ :: _, _, _, 0 => by simpa using AllIs.nil
  | _ :: _, _, h, i + 1 => by obtain ⟨x, xs', rfl, hx, h'⟩ := h.inv; exact AllIs.cons hx (h'.take i)
theorem AllIs.one {v : V} {x : Value} (h : v.is Z x) : AllIs Z [v] [x] := AllIs.cons h AllIs.nil
theorem isInt {i : Int} {x : Value} (h : (V.int i).is Z x) : ∃ t, x = .int i t := by simpa only [V.is] using h
theorem isStr {l : List Nat} {x : Value} (h : (V.str l).is Z x) : ∃ t, x = .str ⟨l.toArray⟩ t := by simpa only [V.is] using h
theorem isBool {b : Bool} {x : Value} (h : (V.bool b).is Z x) : x = .bool b := by simpa only [V.is] using h
theorem isNone {x : Value} (h : V.none.is Z x) : x = .none := by simpa only [V.is] using h
theorem isVal {y x : Value} (h : (V.val y).is Z x) : x = y := by simpa only [V.is] using h
theorem isLst {vs : List V} {x : Value} (h : (V.lst vs).is Z x) : ∃ a xs o, x = .ref a ∧ Z a = some o ∧ LisO o xs ∧ AllIs Z vs xs := by simpa only [V.is] using h
theorem isTup {vs : List V} {x : Value} (h : (V.tup vs).is Z x) : ∃ a xs o, x = .ref a ∧ Z a = some o ∧ TupO o xs ∧ AllIs Z vs xs := by simpa only [V.is] using h
theorem mkIsInt {i : Int} {t : Tok} : (V.int i).is Z (.int i t) := by simp only [V.is]; exact ⟨t, rfl⟩
theorem mkIsStr {l : List Nat} {t : Tok} : (V.str l).is Z (.str ⟨l.toArray⟩ t) := by simp only [V.is]; exact ⟨t, rfl⟩
theorem mkIsBool {b : Bool} : (V.bool b).is Z (.bool b) := by simp only [V.is]
theorem mkIsNone : V.none.is Z .none := by simp only [V.is]
theorem mkIsVal {y : Value} : (V.val y).is Z y := by simp only [V.is]
theorem mkIsLst {vs : List V} {a : Addr} {xs : List Value} {o : Obj} (z : Z a = some o) (l : LisO o xs) (k : AllIs Z vs xs) : (V.lst vs).is Z (.ref a) := by simp only [V.is]; exact ⟨a, xs, o, rfl, z, l, k⟩
theorem mkIsTup {vs : List V} {a : Addr} {xs : List Value} {o : Obj} (z : Z a = some o) (l : TupO o xs) (k : AllIs Z vs xs) : (V.tup vs).is Z (.ref a) := by simp only [V.is]; exact ⟨a, xs, o, rfl, z, l, k⟩
end

/-- ledger objects: what the frame may change -/
inductive LO where
  | lst (vs : List V)
  | tup (vs : List V)
  | cell (v : Option V)
  | exact (o : Obj)
  | ns (names : List Str) (vs : List V)
def CelIs (Z : Frz) : Option V → Option Value → Prop
  | some v, some x => v.is Z x
  | none, none => True
  | _, _ => False
def LO.is (Z : Frz) : LO → Obj → Prop
  | .lst vs, o => ∃ xs n, o = listOf (List.toArray xs) n ∧ AllIs Z vs xs
  | .tup vs, o => ∃ xs, TupO o xs ∧ AllIs Z vs xs
  | .cell v, o => ∃ x, o.data = .cell x ∧ CelIs Z v x
  | .exact o', o => o = o'
  | .ns names vs, o => ∃ es n, o = dictOf es n ∧ KeysAre names es ∧ AllIs Z vs (es.map fun e => e.val)
theorem LO.is.mono {Z Z' : Frz} (k : Z.le Z') : ∀ {l : LO} {o : Obj}, l.is Z o → l.is Z' o
  | .lst _, _, ⟨xs, n, e, q⟩ => ⟨xs, n, e, q.mono k⟩
  | .tup _, _, ⟨xs, e, q⟩ => ⟨xs, e, q.mono k⟩
  | .cell v, _, ⟨x, e, q⟩ => ⟨x, e, by cases v <;> cases x <;> first | exact q | exact q.mono k⟩
  | .exact _, _, e => e
  | .ns _ _, _, ⟨es, n, e, q1, q2⟩ => ⟨es, n, e, q1, q2.mono k⟩

abbrev Led := List (Addr × LO)
def Vars (Z : Frz) (names : List Str) (G : List (Option V)) (m : Str → Option Value) : Prop :=
  ∀ (i : Nat) (x : Str) (v : V), names[i]? = some x → G[i]? = some (some v) → ∃ y, m x = some y ∧ v.is Z y
theorem Vars.mono {Z Z' : Frz} {names : List Str} {G : List (Option V)} {m : Str → Option Value} (k : Z.le Z') (h : Vars Z names G m) : Vars Z' names G m :=
  fun i x v a b => let ⟨y, e, q⟩ := h i x v a b; ⟨y, e, q.mono k⟩

/-- what stands still during the law's call -/
structure St where
  prog : Program
  w : World
  K : Frag
  p : Program
  loose : List Str
  mean : ExcName → Option Value
  mg : Str → Option Value
  mb : Str → Option Value
  h₀ : Heap
abbrev St.M (S : St) : Model := model S.prog S.w
structure Fm where
  S : St
  env : Env
  P : Frz
  Z₀ : Frz
  ns : List Str
abbrev Fm.L (F : Fm) : Addr := F.env.locals
abbrev Fm.M (F : Fm) : Model := F.S.M

structure StOk (S : St) : Prop where
  X : S.K.In S.h₀
  T : Top S.p S.loose S.mean S.mg S.mb S.h₀
structure Room (A : Around) (n : Nat) : Prop where
  hd : A.handled = none
  depth : A.depth + n + 5 < recursionLimit
  units : A.units + 50 * n + 50 < cLine
structure Good (F : Fm) (A : Around) (n : Nat) : Prop extends StOk F.S, Room A n where
  st : ∀ a o, F.S.h₀.get? a = some o → F.P a = some o ∨ F.Z₀ a = some o
  fk : F.env.scope.kind = .function
  nd : F.ns.Nodup

structure At (F : Fm) (Z N : Frz) (G : List (Option V)) (Λ : Led) (h : Heap) : Prop where
  ns : ∃ m, h.Ns F.L m ∧ Vars Z F.ns G m
  fix : ∀ a o, F.P a = some o → N a = some o
  pin : ∀ a o, N a = some o → h.get? a = some o
  frz : ∀ a o, Z a = some o → h.get? a = some o
  led : ∀ p ∈ Λ, ∃ o, h.get? p.1 = some o ∧ p.2.is Z o
  nodup : (F.L :: Λ.map Prod.fst).Nodup
  offN : ∀ a ∈ F.L :: Λ.map Prod.fst, N a = none
  offZ : ∀ a ∈ F.L :: Λ.map Prod.fst, Z a = none
  dis : ∀ a o, Z a = some o → N a = none
  old : ∀ a o, F.Z₀ a = some o → Z a = some o

section
variable {F : Fm} {A : Around} {Z Z' N N' : Frz} {G G' : List (Option V)} {Λ Λ' X : Led} {h h' : Heap} {n : Nat}

theorem At.st (a : At F Z N G Λ h) (g : Good F A n) : ∀ b o, F.S.h₀.get? b = some o → h.get? b = some o := fun b o e => (g.st _ _ e).elim (fun e => a.pin _ _ (a.fix _ _ e)) fun e => a.frz _ _ (a.old _ _ e)
theorem At.K (a : At F Z N G Λ h) (g : Good F A n) : F.S.K.In h := fun b o e => a.st g b o (g.X b o e)
theorem At.top (a : At F Z N G Λ h) (g : Good F A n) : Top F.S.p F.S.loose F.S.mean F.S.mg F.S.mb h := g.T.keeps (a.st g)
theorem At.lt (a : At F Z N G Λ h) : F.L < h.objs.size := let ⟨_, hn, _⟩ := a.ns; hn.lt
theorem At.keeps (a : At F Z N G Λ h) (hk : ∀ b o, h.get? b = some o → h'.get? b = some o) : At F Z N G Λ h' where
  ns := let ⟨m, hn, hv⟩ := a.ns; ⟨m, hn.keeps hk, hv⟩
  fix := a.fix
  pin := fun b o e => hk b o (a.pin b o e)
  frz := fun b o e => hk b o (a.frz b o e)
  led := fun p hp => let ⟨o, e, k⟩ := a.led p hp; ⟨o, hk _ _ e, k⟩
  nodup := a.nodup
  offN := a.offN
  offZ := a.offZ
  dis := a.dis
  old := a.old
/-- weakening: fewer entries -/
def Wk (Λ Λ' : Led) : Prop := (∀ p ∈ Λ', p ∈ Λ) ∧ ((Λ.map Prod.fst).Nodup → (Λ'.map Prod.fst).Nodup)
theorem Wk.refl (Λ : Led) : Wk Λ Λ := ⟨fun _ hp => hp, id⟩
theorem Wk.trans {Λ₁ Λ₂ Λ₃ : Led} (h : Wk Λ₁ Λ₂) (k : Wk Λ₂ Λ₃) : Wk Λ₁ Λ₃ := ⟨fun p hp => h.1 p (k.1 p hp), fun n => k.2 (h.2 n)⟩
theorem Wk.drop {e : Addr × LO} (h : Wk Λ Λ') : Wk (e :: Λ) Λ' := ⟨fun p hp => .tail _ (h.1 p hp), fun n => h.2 (List.nodup_cons.mp n).2⟩
theorem Wk.keys (h : Wk Λ Λ') {a : Addr} (ha : a ∈ Λ'.map Prod.fst) : a ∈ Λ.map Prod.fst := by
  obtain ⟨p, hp, rfl⟩ := List.mem_map.mp ha
  exact List.mem_map.mpr ⟨p, h.1 p hp, rfl⟩
theorem Wk.cons {e : Addr × LO} (h : Wk Λ Λ') : Wk (e :: Λ) (e :: Λ') := ⟨fun p hp => by
    rcases List.mem_cons.mp hp with rfl | hp
    · exact .head _
    · exact .tail _ (h.1 p hp), fun n => by
    have n' := List.nodup_cons.mp n
    exact List.nodup_cons.mpr ⟨fun hm => n'.1 (h.keys hm), h.2 n'.2⟩⟩
theorem Wk.nil (Λ : Led) : Wk Λ [] := ⟨fun _ hp => (by cases hp), fun _ => List.Pairwise.nil⟩
theorem Wk.perm (h : Λ.Perm Λ') : Wk Λ Λ' := ⟨fun p hp => h.symm.subset hp, fun n => (h.map Prod.fst).nodup_iff.mp n⟩
theorem At.wk (a : At F Z N G Λ h) (k : Wk Λ Λ') : At F Z N G Λ' h where
  ns := a.ns
  fix := a.fix
  pin := a.pin
  frz := a.frz
  led := fun p hp => a.led p (k.1 p hp)
  nodup := by
    have := List.nodup_cons.mp a.nodup
    exact List.nodup_cons.mpr ⟨fun hm => this.1 (k.keys hm), k.2 this.2⟩
  offN := fun b hb => a.offN b (by rcases List.mem_cons.mp hb with rfl | hb; exact .head _; exact .tail _ (k.keys hb))
  offZ := fun b hb => a.offZ b (by rcases List.mem_cons.mp hb with rfl | hb; exact .head _; exact .tail _ (k.keys hb))
  dis := a.dis
  old := a.old
theorem At.fresh (a : At F Z N G Λ h) : ∀ b ∈ F.L :: Λ.map Prod.fst, b < h.objs.size := fun b hb => by
  rcases List.mem_cons.mp hb with rfl | hb
  · exact a.lt
  · obtain ⟨p, hp, rfl⟩ := List.mem_map.mp hb
    obtain ⟨o, e, _⟩ := a.led p hp
    exact Heap.lt_size e
theorem At.newN (a : At F Z N G Λ h) {b : Addr} (hb : h.get? b = none) : N b = none := by
  cases e : N b with
  | none => rfl
  | some o => rw [a.pin _ _ e] at hb; cases hb
theorem At.newZ (a : At F Z N G Λ h) {b : Addr} (hb : h.get? b = none) : Z b = none := by
  cases e : Z b with
  | none => rfl
  | some o => rw [a.frz _ _ e] at hb; cases hb
theorem At.newL (a : At F Z N G Λ h) {b : Addr} (hb : h.get? b = none) : b ∉ F.L :: Λ.map Prod.fst := fun hm => by
  rcases List.mem_cons.mp hm with rfl | hm
  · obtain ⟨m, hn, _⟩ := a.ns
    obtain ⟨o, es, ep, e, _⟩ := hn
    rw [e] at hb; cases hb
  · obtain ⟨p, hp, rfl⟩ := List.mem_map.mp hm
    obtain ⟨o, e, _⟩ := a.led p hp
    rw [e] at hb; cases hb
theorem get?_size (h : Heap) : h.get? h.objs.size = none := by
  cases e : h.get? h.objs.size with
  | none => rfl
  | some o => exact absurd (Heap.lt_size e) (Nat.lt_irrefl _)
/-- a new object, any that the heap now bears -/
theorem At.add (a : At F Z N G Λ h) (hk : ∀ b o, h.get? b = some o → h'.get? b = some o) {d : Addr} {o : Obj} {q : LO} (hd : h.get? d = none) (ho : h'.get? d = some o) (hq : q.is Z o) : At F Z N G ((d, q) :: Λ) h' := by
  have a' := a.keeps hk
  refine ⟨a'.ns, a'.fix, a'.pin, a'.frz, fun p hp => ?_, ?_, fun b hb => ?_, fun b hb => ?_, a'.dis, a'.old⟩
  · rcases List.mem_cons.mp hp with rfl | hp
    · exact ⟨o, ho, hq⟩
    · exact a'.led p hp
  · have hn := a.newL hd
    simp only [List.map_cons, List.mem_cons, not_or] at hn ⊢
    have hnd := List.nodup_cons.mp a.nodup
    refine List.nodup_cons.mpr ⟨?_, List.nodup_cons.mpr ⟨hn.2, hnd.2⟩⟩
    simp only [List.mem_cons, not_or]
    exact ⟨fun e => hn.1 e.symm, hnd.1⟩
  · simp only [List.map_cons, List.mem_cons] at hb
    rcases hb with rfl | rfl | hb
    · exact a.offN _ (.head _)
    · exact a.newN hd
    · exact a.offN _ (.tail _ hb)
  · simp only [List.map_cons, List.mem_cons] at hb
    rcases hb with rfl | rfl | hb
    · exact a.offZ _ (.head _)
    · exact a.newZ hd
    · exact a.offZ _ (.tail _ hb)
theorem At.push (a : At F Z N G Λ h) {o : Obj} {q : LO} (hq : q.is Z o) (hf : o.isFreed = false) : At F Z N G ((h.objs.size, q) :: Λ) (h.push o) :=
  a.add (fun b x e => Heap.get?_push_of_some _ e) (get?_size h) (Heap.get?_push_size _ hf) hq

/-- freezing: an entry becomes a value -/
def Frz.put (Z : Frz) (d : Addr) (o : Obj) : Frz := fun b => if b = d then some o else Z b
theorem Frz.put_le {d : Addr} {o : Obj} (hd : Z d = none) : Z.le (Z.put d o) := fun b x e => by
  unfold Frz.put
  split
  · rename_i q; subst q; rw [hd] at e; cases e
  · exact e
theorem Frz.put_self (Z : Frz) (d : Addr) (o : Obj) : (Z.put d o) d = some o := by simp [Frz.put]
theorem At.freezeO (a : At F Z N G Λ h) {d : Addr} {q : LO} (hm : (d, q) ∈ Λ) : ∃ o, q.is Z o ∧ h.get? d = some o ∧ Z.le (Z.put d o) ∧ At F (Z.put d o) N G (Λ.filter fun p => p.1 != d) h := by
  obtain ⟨o, e, k⟩ := a.led _ hm
  have hmem : d ∈ F.L :: Λ.map Prod.fst := .tail _ (List.mem_map.mpr ⟨_, hm, rfl⟩)
  have hz := a.offZ d hmem
  have le : Z.le (Z.put d o) := Frz.put_le hz
  have sub : ∀ b ∈ F.L :: (Λ.filter fun p => p.1 != d).map Prod.fst, b ∈ F.L :: Λ.map Prod.fst ∧ b ≠ d := fun b hb => by
    have hL : F.L ≠ d := fun q => (List.nodup_cons.mp a.nodup).1 (q ▸ List.mem_map.mpr ⟨_, hm, rfl⟩)
    rcases List.mem_cons.mp hb with rfl | hb
    · exact ⟨.head _, hL⟩
    · obtain ⟨p, hp, rfl⟩ := List.mem_map.mp hb
      obtain ⟨h1, h2⟩ := List.mem_filter.mp hp
      exact ⟨.tail _ (List.mem_map.mpr ⟨p, h1, rfl⟩), by simpa using h2⟩
  refine ⟨o, k, e, le, ?_, a.fix, a.pin, fun b x q => ?_, fun p hp => ?_, ?_, fun b hb => a.offN b (sub b hb).1, fun b hb => ?_, fun b x q => ?_, fun b x q => le _ _ (a.old _ _ q)⟩
  · obtain ⟨m, hn, hv⟩ := a.ns; exact ⟨m, hn, hv.mono le⟩
  · unfold Frz.put at q
    split at q
    · rename_i q'; cases q; rw [q']; exact e
    · exact a.frz _ _ q
  · obtain ⟨o', e', k'⟩ := a.led p (List.mem_filter.mp hp).1
    exact ⟨o', e', k'.mono le⟩
  · refine List.nodup_cons.mpr ⟨fun hb => (List.nodup_cons.mp a.nodup).1 ?_, ?_⟩
    · obtain ⟨p, hp, q⟩ := List.mem_map.mp hb; exact List.mem_map.mpr ⟨p, (List.mem_filter.mp hp).1, q⟩
    · exact ((List.nodup_cons.mp a.nodup).2).sublist ((List.filter_sublist).map _)
  · have := sub b hb
    unfold Frz.put
    rw [if_neg this.2]; exact a.offZ b this.1
  · unfold Frz.put at q
    split at q
    · rename_i q'; rw [q']; exact a.offN d hmem
    · exact a.dis _ _ q
theorem At.freeze (a : At F Z N G Λ h) {d : Addr} {vs : List V} (hm : (d, .lst vs) ∈ Λ) : ∃ Z', Z.le Z' ∧ (V.lst vs).is Z' (.ref d) ∧ At F Z' N G (Λ.filter fun p => p.1 != d) h := by
  obtain ⟨o, ⟨xs, n, rfl, k⟩, e, le, a'⟩ := a.freezeO hm
  exact ⟨_, le, mkIsLst (Frz.put_self _ _ _) ⟨rfl, n, rfl⟩ (k.mono le), a'⟩
theorem At.freeze1 {d : Addr} {vs : List V} (a : At F Z N G ((d, .lst vs) :: Λ) h) : ∃ Z', Z.le Z' ∧ (V.lst vs).is Z' (.ref d) ∧ At F Z' N G Λ h := by
  obtain ⟨Z', l, k, a'⟩ := a.freeze (d := d) (vs := vs) (.head _)
  refine ⟨Z', l, k, ?_⟩
  have nd := (List.nodup_cons.mp (List.nodup_cons.mp a.nodup).2).1
  have : (((d, LO.lst vs) :: Λ).filter fun p => p.1 != d) = Λ := by
    rw [List.filter_cons_of_neg (by simp)]
    refine List.filter_eq_self.mpr fun p hp => ?_
    simp only [bne_iff_ne, ne_eq]
    rintro rfl
    exact nd (List.mem_map.mpr ⟨p, hp, rfl⟩)
  rwa [this] at a'

/-- a new object, frozen at once -/
theorem At.addZ (a : At F Z N G Λ h) (hk : ∀ b o, h.get? b = some o → h'.get? b = some o) {d : Addr} {o : Obj} (hd : h.get? d = none) (ho : h'.get? d = some o) : Z.le (Z.put d o) ∧ At F (Z.put d o) N G Λ h' := by
  have a₁ := a.add (q := .exact o) hk hd ho rfl
  obtain ⟨o', rfl, e, le, a₂⟩ := a₁.freezeO (d := d) (q := .exact o) (.head _)
  refine ⟨le, ?_⟩
  have nd := (List.nodup_cons.mp (List.nodup_cons.mp a₁.nodup).2).1
  have : (((d, LO.exact o') :: Λ).filter fun p => p.1 != d) = Λ := by
    rw [List.filter_cons_of_neg (by simp)]
    refine List.filter_eq_self.mpr fun p hp => ?_
    simp only [bne_iff_ne, ne_eq]
    rintro rfl
    exact nd (List.mem_map.mpr ⟨p, hp, rfl⟩)
  rwa [this] at a₂
theorem At.pushZ (a : At F Z N G Λ h) {o : Obj} (hf : o.isFreed = false) : Z.le (Z.put h.objs.size o) ∧ At F (Z.put h.objs.size o) N G Λ (h.push o) :=
  a.addZ (fun b x e => Heap.get?_push_of_some _ e) (get?_size h) (Heap.get?_push_size _ hf)

/-- an entry changed in its place -/
inductive Up (a : Addr) (q q' : LO) : Led → Led → Prop where
  | head {Y : Led} : Up a q q' ((a, q) :: Y) ((a, q') :: Y)
  | tail {e : Addr × LO} {Y Y' : Led} : Up a q q' Y Y' → Up a q q' (e :: Y) (e :: Y')
theorem Up.mem {a : Addr} {q q' : LO} (u : Up a q q' Λ Λ') : (a, q) ∈ Λ := by
  induction u with
  | head => exact .head _
  | tail _ ih => exact .tail _ ih
theorem Up.keys {a : Addr} {q q' : LO} (u : Up a q q' Λ Λ') : Λ'.map Prod.fst = Λ.map Prod.fst := by
  induction u with
  | head => rfl
  | tail _ ih => simp [ih]
theorem Up.cases {a : Addr} {q q' : LO} (u : Up a q q' Λ Λ') (n : (Λ.map Prod.fst).Nodup) : ∀ p ∈ Λ', p = (a, q') ∨ (p ∈ Λ ∧ p.1 ≠ a) := by
  induction u with
  | head =>
    intro p hp
    rcases List.mem_cons.mp hp with rfl | hp
    · exact .inl rfl
    · refine .inr ⟨.tail _ hp, fun e => ?_⟩
      have := (List.nodup_cons.mp n).1
      exact this (List.mem_map.mpr ⟨p, hp, e⟩)
  | @tail e Λ Λ' u ih =>
    intro p hp
    have n' := List.nodup_cons.mp n
    rcases List.mem_cons.mp hp with rfl | hp
    · refine .inr ⟨.head _, fun e' => n'.1 (List.mem_map.mpr ⟨_, u.mem, e'.symm⟩)⟩
    · exact (ih n'.2 p hp).imp id fun x => ⟨.tail _ x.1, x.2⟩
theorem At.set (a : At F Z N G Λ h) {d : Addr} {q q' : LO} {o' : Obj} (u : Up d q q' Λ Λ') (hs : Heap.SameBut d h h') (ho : h'.get? d = some o') (hq : q'.is Z o') : At F Z N G Λ' h' := by
  have hmem : d ∈ Λ.map Prod.fst := List.mem_map.mpr ⟨_, u.mem, rfl⟩
  have nL : F.L ≠ d := fun q => (List.nodup_cons.mp a.nodup).1 (q ▸ hmem)
  have nN := a.offN d (.tail _ hmem)
  have nZ := a.offZ d (.tail _ hmem)
  refine ⟨?_, a.fix, fun b o e => ?_, fun b o e => ?_, fun p hp => ?_, u.keys ▸ a.nodup, u.keys ▸ a.offN, u.keys ▸ a.offZ, a.dis, a.old⟩
  · obtain ⟨m, hn, hv⟩ := a.ns
    exact ⟨m, hn.sameBut hs nL, hv⟩
  · have : b ≠ d := by rintro rfl; rw [nN] at e; cases e
    exact (hs.2 b this).trans (a.pin b o e)
  · have : b ≠ d := by rintro rfl; rw [nZ] at e; cases e
    exact (hs.2 b this).trans (a.frz b o e)
  · rcases u.cases (List.nodup_cons.mp a.nodup).2 p hp with rfl | ⟨hm, hne⟩
    · exact ⟨o', ho, hq⟩
    · obtain ⟨o, e, k⟩ := a.led p hm
      exact ⟨o, (hs.2 _ hne).trans e, k⟩
theorem At.get (a : At F Z N G Λ h) {d : Addr} {q : LO} (hm : (d, q) ∈ Λ) : ∃ o, h.get? d = some o ∧ q.is Z o := a.led _ hm

theorem Vars.set {names : List Str} {m : Str → Option Value} {i : Nat} {x : Str} {v : V} {y : Value} (hv : Vars Z names G m) (nd : names.Nodup) (hx : names[i]? = some x) (k : v.is Z y) :
    Vars Z names (G.set i (some v)) (fun z => if z = x then some y else m z) := by
  intro j z u hz hu
  by_cases hij : i = j
  · subst hij
    rw [hx] at hz; cases hz
    have : (G.set i (some v))[i]? = some (some v) := by
      rw [List.getElem?_set] at hu ⊢
      simp only [if_true] at hu ⊢
      split at hu
      · rename_i hlt; simp [hlt]
      · cases hu
    rw [this] at hu; cases hu
    exact ⟨y, by simp, k⟩
  · rw [List.getElem?_set_ne hij] at hu
    obtain ⟨y', e, k'⟩ := hv j z u hz hu
    refine ⟨y', ?_, k'⟩
    have hne : z ≠ x := by
      rintro rfl
      obtain ⟨h1, e1⟩ := List.getElem?_eq_some_iff.mp hx
      obtain ⟨h2, e2⟩ := List.getElem?_eq_some_iff.mp hz
      exact hij ((List.getElem_inj nd).mp (e1.trans e2.symm))
    simp [hne, e]
theorem At.store (a : At F Z N G Λ h) {m : Str → Option Value} (hn : h'.Ns F.L m) (hv : Vars Z F.ns G' m) (hs : Heap.SameBut F.L h h') : At F Z N G' Λ h' where
  ns := ⟨m, hn, hv⟩
  fix := a.fix
  pin := fun b o e => (hs.2 b (fun q => by rw [q, a.offN _ (.head _)] at e; cases e)).trans (a.pin b o e)
  frz := fun b o e => (hs.2 b (fun q => by rw [q, a.offZ _ (.head _)] at e; cases e)).trans (a.frz b o e)
  led := fun p hp => let ⟨o, e, k⟩ := a.led p hp; ⟨o, (hs.2 _ fun q => (List.nodup_cons.mp a.nodup).1 (q ▸ List.mem_map.mpr ⟨p, hp, rfl⟩)).trans e, k⟩
  nodup := a.nodup
  offN := a.offN
  offZ := a.offZ
  dis := a.dis
  old := a.old
/-- the locals told anew -/
theorem At.vars (a : At F Z N G Λ h) (hG : ∀ m, Vars Z F.ns G m → Vars Z F.ns G' m) : At F Z N G' Λ h := { a with ns := let ⟨m, hn, hv⟩ := a.ns; ⟨m, hn, hG m hv⟩ }
/-- a pin more for a while -/
theorem At.pinned (a : At F Z N G Λ h) {I : Addr} {o : Obj} (hI : h.get? I = some o) (hL : I ∉ F.L :: Λ.map Prod.fst) (hZ : Z I = none) (hN : N I = none) : At F Z (N.put I o) G Λ h where
  ns := a.ns
  fix := fun b x e => Frz.put_le hN _ _ (a.fix b x e)
  pin := fun b x e => by
    unfold Frz.put at e
    split at e
    · rename_i q; cases e; rw [q]; exact hI
    · exact a.pin _ _ e
  frz := a.frz
  led := a.led
  nodup := a.nodup
  offN := fun b hb => by
    have hne : b ≠ I := fun q => hL (by rw [← q]; exact hb)
    unfold Frz.put
    rw [if_neg hne]; exact a.offN b hb
  offZ := a.offZ
  dis := fun b x e => by
    unfold Frz.put
    split
    · rename_i q; rw [q, hZ] at e; cases e
    · exact a.dis _ _ e
  old := a.old
theorem At.unpin {I : Addr} {o : Obj} (a : At F Z (N.put I o) G Λ h) (hN : N I = none) (hP : F.P I = none) : At F Z N G Λ h ∧ h.get? I = some o ∧ I ∉ F.L :: Λ.map Prod.fst ∧ Z I = none := by
  refine ⟨⟨a.ns, fun b x e => ?_, fun b x e => a.pin b x (Frz.put_le hN _ _ e), a.frz, a.led, a.nodup, fun b hb => ?_, a.offZ, fun b x e => ?_, a.old⟩, a.pin I o (Frz.put_self _ _ _), fun hm => ?_, ?_⟩
  · have := a.fix b x e
    unfold Frz.put at this
    split at this
    · rename_i q; rw [q, hP] at e; cases e
    · exact this
  · have := a.offN b hb
    unfold Frz.put at this
    split at this
    · cases this
    · exact this
  · have := a.dis b x e
    unfold Frz.put at this
    split at this
    · cases this
    · exact this
  · have := a.offN I hm; rw [Frz.put_self] at this; cases this
  · cases e : Z I with
    | none => rfl
    | some x => have := a.dis I x e; rw [Frz.put_self] at this; cases this
/-- the pinned object moved on -/
theorem At.moved (a : At F Z N G Λ h) {I : Addr} (hk : ∀ b o, b ≠ I → h.get? b = some o → h'.get? b = some o) (hL : I ∉ F.L :: Λ.map Prod.fst) (hZ : Z I = none) (hN : N I = none) : At F Z N G Λ h' where
  ns := let ⟨m, hn, hv⟩ := a.ns; ⟨m, hn.at' fun o e => hk _ o (fun q => hL (q ▸ .head _)) e, hv⟩
  fix := a.fix
  pin := fun b o e => hk b o (fun q => by rw [q, hN] at e; cases e) (a.pin b o e)
  frz := fun b o e => hk b o (fun q => by rw [q, hZ] at e; cases e) (a.frz b o e)
  led := fun p hp => let ⟨o, e, k⟩ := a.led p hp; ⟨o, hk _ o (fun q => hL (q ▸ .tail _ (List.mem_map.mpr ⟨p, hp, rfl⟩))) e, k⟩
  nodup := a.nodup
  offN := a.offN
  offZ := a.offZ
  dis := a.dis
  old := a.old
end
end Mine
end

/-! TL2 -/
section
open PySem PySem.W PyProof.Rows PySem.Calls
set_option maxRecDepth 100000
set_option autoImplicit false
set_option linter.unusedVariables false
namespace Mine

section
variable (F : Fm) (A : Around)
/-- what stands behind an evaluation -/
abbrev Then (N : Frz) (G : List (Option V)) (Λ : Led) (s : Shared) (Z : Frz) (v : V) (Q : Value → Shared → Prop) : Prop :=
  ∀ x h tk Z', Z.le Z' → v.is Z' x → At F Z' N G Λ h → Q x { s with heap := h, toks := tk }
abbrev ThenU (N : Frz) (G : List (Option V)) (Λ : Led) (s : Shared) (Z : Frz) (Q : Shared → Prop) : Prop :=
  ∀ h tk Z', Z.le Z' → At F Z' N G Λ h → Q { s with heap := h, toks := tk }
def Pu (G : List (Option V)) (Λ : Led) (e : Expr) (v : V) : Prop :=
  ∀ (s : Shared) (Z N : Frz) (Q E : Value → Shared → Prop), At F Z N G Λ s.heap → Then F N G Λ s Z v Q → wpAny F.M A (eval e F.env) Q E s
def Ev (G : List (Option V)) (Λ : Led) (e : Expr) (P : V → Led → Prop) : Prop :=
  ∀ (s : Shared) (Z N : Frz) (Q E : Value → Shared → Prop), At F Z N G Λ s.heap → (∀ v Λ', P v Λ' → Then F N G Λ' s Z v Q) → wpAny F.M A (eval e F.env) Q E s
/-- a value that is itself: a def, a class, a built-in -/
def Nm (G : List (Option V)) (Λ : Led) (e : Expr) (y : Value) : Prop := Pu F A G Λ e (.val y)
def Evs (G : List (Option V)) (Λ : Led) (es : List Expr) (P : List V → Led → Prop) : Prop :=
  ∀ (pos : Pos) (s : Shared) (Z N : Frz) (Q : List Value → Shared → Prop) (E : Value → Shared → Prop), At F Z N G Λ s.heap →
    (∀ vs Λ' xs h tk Z', P vs Λ' → Z.le Z' → AllIs Z' vs xs → At F Z' N G Λ' h → Q xs { s with heap := h, toks := tk }) → wpAny F.M A (spliced (backTo pos (starEach es F.env))) Q E s
def Tst (G : List (Option V)) (Λ : Led) (e : Expr) (b : Bool) : Prop :=
  ∀ (s : Shared) (Z N : Frz) (Q : Bool → Shared → Prop) (E : Value → Shared → Prop), At F Z N G Λ s.heap → ThenU F N G Λ s Z (Q b) → wpAny F.M A (isTrue e F.env (eval e F.env)) Q E s
inductive Fl where
  | next | brk | cont
  | ret (v : V)
def Fl.is (Z : Frz) : Fl → Flow → Prop
  | .next, f => f = .next
  | .brk, f => f = .brk
  | .cont, f => f = .cont
  | .ret v, f => ∃ x, f = .ret x ∧ v.is Z x
abbrev Post := Fl → List (Option V) → Led → Prop
abbrev ThenF (N : Frz) (s : Shared) (Z : Frz) (P : Post) (Q : Flow → Shared → Prop) : Prop :=
  ∀ f G' Λ' fl h tk Z', P f G' Λ' → Z.le Z' → f.is Z' fl → At F Z' N G' Λ' h → Q fl { s with heap := h, toks := tk }
def Ex (G : List (Option V)) (Λ : Led) (ss : List Stmt) (P : Post) : Prop :=
  ∀ (s : Shared) (Z N : Frz) (Q : Flow → Shared → Prop) (E : Value → Shared → Prop), At F Z N G Λ s.heap → ThenF F N s Z P Q → wpAny F.M A (execs ss F.env) Q E s
def Ex1 (G : List (Option V)) (Λ : Led) (st : Stmt) (P : Post) : Prop :=
  ∀ (s : Shared) (Z N : Frz) (Q : Flow → Shared → Prop) (E : Value → Shared → Prop), At F Z N G Λ s.heap → ThenF F N s Z P Q → wpAny F.M A (exec st F.env) Q E s
/-- behind a statement: the rest, or the way out -/
def On (rest : List Stmt) (P : Post) : Post := fun f G Λ => match f with
  | .next => Ex F A G Λ rest P
  | f => P f G Λ
end

inductive VarAt : List Str → List (Option V) → Str → V → Prop where
  | head {x : Str} {v : V} {ns : List Str} {G : List (Option V)} : VarAt (x :: ns) (some v :: G) x v
  | tail {x y : Str} {v : V} {o : Option V} {ns : List Str} {G : List (Option V)} : VarAt ns G x v → VarAt (y :: ns) (o :: G) x v
theorem VarAt.get {ns : List Str} {G : List (Option V)} {x : Str} {v : V} (h : VarAt ns G x v) : ∃ i : Nat, ns[i]? = some x ∧ G[i]? = some (some v) := by
  induction h with
  | head => exact ⟨0, rfl, rfl⟩
  | tail _ ih => obtain ⟨i, a, b⟩ := ih; exact ⟨i + 1, by simpa using a, by simpa using b⟩
inductive VarSet : List Str → List (Option V) → Str → V → List (Option V) → Prop where
  | head {x : Str} {v : V} {o : Option V} {ns : List Str} {G : List (Option V)} : VarSet (x :: ns) (o :: G) x v (some v :: G)
  | tail {x y : Str} {v : V} {o : Option V} {ns : List Str} {G G' : List (Option V)} : VarSet ns G x v G' → VarSet (y :: ns) (o :: G) x v (o :: G')
theorem VarSet.get {ns : List Str} {G G' : List (Option V)} {x : Str} {v : V} (h : VarSet ns G x v G') : ∃ i : Nat, ns[i]? = some x ∧ G' = G.set i (some v) := by
  induction h with
  | head => exact ⟨0, rfl, rfl⟩
  | tail _ ih => obtain ⟨i, a, b⟩ := ih; exact ⟨i + 1, by simpa using a, by simp [b]⟩
inductive GlAt : List (Str × Value) → Str → Value → Prop where
  | head {x : Str} {y : Value} {l : List (Str × Value)} : GlAt ((x, y) :: l) x y
  | tail {x : Str} {y : Value} {p : Str × Value} {l : List (Str × Value)} : GlAt l x y → GlAt (p :: l) x y
theorem GlAt.mem {l : List (Str × Value)} {x : Str} {y : Value} (h : GlAt l x y) : (x, y) ∈ l := by
  induction h with
  | head => exact .head _
  | tail _ ih => exact .tail _ ih
/-- a name of the top's, or a built-in -/
def TopName (S : St) (x : Str) (y : Value) : Prop := nsIn S.K mainGlobals x = some (some y) ∨ (nsIn S.K mainGlobals x = some none ∧ bootBuiltins x = some y ∧ x ≠ "__name__")
/-- the frame's own names and the names that it takes from the top -/
structure Loc (F : Fm) (ns : List Str) (gl : List (Str × Value)) : Prop where
  names : F.ns = ns
  kind : ∀ x ∈ ns, F.env.kindOf x = some .local
  plain : ∀ x ∈ ns, (x == ("__debug__" : Str)) = false
  glob : F.env.globals = mainGlobals
  blt : F.env.builtins = builtinsNs
  gkind : ∀ p ∈ gl, F.env.kindOf p.1 = some .globalImplicit
  gplain : ∀ p ∈ gl, (p.1 == ("__debug__" : Str)) = false
  gtop : ∀ p ∈ gl, TopName F.S p.1 p.2

section
variable {F : Fm} {A : Around} {G G' : List (Option V)} {Λ Λ' Λ₁ X : Led} {e l r : Expr} {v u a b c : V} {P P' : V → Led → Prop} {PS : List V → Led → Prop} {R R' : Post} {n : Nat} {rest ss body orelse : List Stmt} {st : Stmt} {pos px : Pos} {x : Str} {ns : List Str} {gl : List (Str × Value)} {i j : Int} {xs ys : List Nat} {es : List Expr} {vs us : List V} {y : Value} {id : String} {op : Operator}

theorem Pu.ev (h : Pu F A G Λ e v) (hp : P v Λ) : Ev F A G Λ e P := fun s Z N Q E a k => h s Z N Q E a (k v Λ hp)
theorem Ev.pu (h : Ev F A G Λ e P) (hp : ∀ u Λ', P u Λ' → u = v ∧ Wk Λ' Λ) : Pu F A G Λ e v := fun s Z N Q E a k => h s Z N Q E a fun u Λ' q x h tk Z' le hx ha => by
  obtain ⟨rfl, w⟩ := hp u Λ' q
  exact k x h tk Z' le hx (ha.wk w)
theorem Ev.mono (h : Ev F A G Λ e P) (hp : ∀ u Λ', P u Λ' → P' u Λ') : Ev F A G Λ e P' := fun s Z N Q E a k => h s Z N Q E a fun u Λ' q => k u Λ' (hp u Λ' q)
theorem Ev.wk (k : Wk Λ Λ') (h : Ev F A G Λ' e P) : Ev F A G Λ e P := fun s Z N Q E a t => h s Z N Q E (a.wk k) t
theorem Ex.wk (k : Wk Λ Λ') (h : Ex F A G Λ' ss R) : Ex F A G Λ ss R := fun s Z N Q E a t => h s Z N Q E (a.wk k) t
theorem Ex.mono (h : Ex F A G Λ ss R) (hp : ∀ f G' Λ', R f G' Λ' → R' f G' Λ') : Ex F A G Λ ss R' := fun s Z N Q E a t => h s Z N Q E a fun f G' Λ' fl h tk Z' q => t f G' Λ' fl h tk Z' (hp f G' Λ' q)
theorem ex_nil (h : R .next G Λ) : Ex F A G Λ [] R := fun s Z N Q E a t => wpAny_execs_nil (t .next G Λ .next s.heap s.toks Z h (.refl _) rfl a)
theorem ex_cons (h : Ex1 F A G Λ st (On F A rest R)) : Ex F A G Λ (st :: rest) R := fun s Z N Q E a t => by
  refine wpAny_execs_cons (h s Z N _ E a fun f G' Λ' fl h tk Z' q le hf ha => ?_)
  cases f with
  | next => cases hf; exact q { s with heap := h, toks := tk } Z' N Q E ha fun f' G'' Λ'' fl' h' tk' Z'' q' le' => t f' G'' Λ'' fl' h' tk' Z'' q' (le.trans le')
  | brk => cases hf; exact t .brk G' Λ' _ h tk Z' q le rfl ha
  | cont => cases hf; exact t .cont G' Λ' _ h tk Z' q le rfl ha
  | ret v => obtain ⟨x, rfl, hx⟩ := hf; exact t (.ret v) G' Λ' _ h tk Z' q le ⟨x, rfl, hx⟩ ha
/-- cut: what holds behind a block, then the rest -/
theorem Ex.seq {J : Post} (h : Ex1 F A G Λ st J) (k : ∀ f G' Λ', J f G' Λ' → On F A rest R f G' Λ') : Ex F A G Λ (st :: rest) R :=
  ex_cons fun s Z N Q E a t => h s Z N Q E a fun f G' Λ' fl h tk Z' q => t f G' Λ' fl h tk Z' (k f G' Λ' q)

/-! leaves -/
theorem pu_int {i : Int} {k : Nat} {pos : Pos} : Pu F A G Λ (.Constant (.int i) k pos) (.int i) := fun s Z N Q E a t => wpAny_Constant_int (t _ _ _ Z (.refl _) mkIsInt a)
theorem pu_str {x : Str} {k : Nat} {pos : Pos} : Pu F A G Λ (.Constant (.str x) k pos) (.str x.cps.toList) := fun s Z N Q E a t => wpAny_Constant_str (t _ _ _ Z (.refl _) (by simp only [V.is]; exact ⟨s.toks, by cases x; simp⟩) a)
theorem pu_bool {b : Bool} {k : Nat} {pos : Pos} : Pu F A G Λ (.Constant (.bool b) k pos) (.bool b) := fun s Z N Q E a t => wpAny_Constant_bool (t _ s.heap s.toks Z (.refl _) mkIsBool a)
theorem pu_none {k : Nat} {pos : Pos} : Pu F A G Λ (.Constant .none k pos) .none := fun s Z N Q E a t => wpAny_Constant_none (t _ s.heap s.toks Z (.refl _) mkIsNone a)
theorem pu_var (g : Good F A n) (lc : Loc F ns gl) (h : VarAt ns G x v) : Pu F A G Λ (.Name x pos) v := fun s Z N Q E a t => by
  obtain ⟨i, hi, hv⟩ := h.get
  have hm : x ∈ ns := List.mem_of_getElem? hi
  obtain ⟨m, hn, hq⟩ := a.ns
  obtain ⟨y, e, ky⟩ := hq i x v (lc.names ▸ hi) hv
  exact wpAny_Name (wpAny_loadName_local g.fk (lc.kind x hm) hn e (t y s.heap s.toks Z (.refl _) ky a)) (lc.plain x hm)
theorem pu_gl (g : Good F A n) (lc : Loc F ns gl) (h : GlAt gl x y) : Pu F A G Λ (.Name x pos) (.val y) := fun s Z N Q E a t => by
  have hm := h.mem
  rcases lc.gtop _ hm with e | ⟨e, hb, hn⟩
  · exact Name_function_global g.fk (lc.gkind _ hm) (loadGlobal_global (lc.glob ▸ (a.top g).g) (mg_of g.X g.T.g e) (t y s.heap s.toks Z (.refl _) mkIsVal a)) (lc.gplain _ hm)
  · exact Name_function_global g.fk (lc.gkind _ hm) (loadGlobal_builtin (lc.glob ▸ (a.top g).g) (mg_none_of g.X g.T.g e) (lc.blt ▸ (a.top g).b) ((g.T.builtins x hn).trans hb) (t y s.heap s.toks Z (.refl _) mkIsVal a)) (lc.gplain _ hm)
/-- an int of the top's -/
theorem pu_glI (g : Good F A n) (lc : Loc F ns gl) {t : Tok} (h : GlAt gl x (.int i t)) : Pu F A G Λ (.Name x pos) (.int i) := fun s Z N Q E a k =>
  pu_gl g lc h s Z N Q E a fun y h tk Z' le hy ha => by have := isVal hy; subst this; exact k _ h tk Z' le mkIsInt ha
/-- a value from a pinned cell -/
def CelAt (F : Fm) (x : Str) (v : V) : Prop := ∃ c o y, F.env.cells.lookup x = some c ∧ F.P c = some o ∧ o.data = .cell (some y) ∧ F.env.kindOf x = some .free ∧ (x == ("__debug__" : Str)) = false ∧ True

/-! statements -/
theorem store_loc (g : Good F A n) (lc : Loc F ns gl) (hs : VarSet ns G x v G') {y : Value} {s : Shared} {Z N : Frz} (hv : v.is Z y) {Q : Unit → Shared → Prop} {E : Value → Shared → Prop} (a : At F Z N G Λ s.heap)
    (t : ∀ h tk, At F Z N G' Λ h → Q () { s with heap := h, toks := tk }) : wpAny F.M A (storeName F.env x y) Q E s := by
  obtain ⟨i, hx, rfl⟩ := hs.get
  obtain ⟨m, hn, hm⟩ := a.ns
  have hx' := lc.names ▸ hx
  exact wpAny_storeName_local (lc.kind x (List.mem_of_getElem? hx)) hn (fun h' hn' hs => t h' _ (a.store hn' (hm.set g.nd hx' hv) hs)) (by rw [g.fk]; rfl)
theorem asn (g : Good F A n) (lc : Loc F ns gl) (hs : swapsWith e (some (.Name x px)) pos.line F.env = pure false) (h : Ev F A G Λ e (fun v Λ' => ∃ G', VarSet ns G x v G' ∧ R .next G' Λ')) : Ex1 F A G Λ (.Assign [.Name x px] e pos) R := fun s Z N Q E a t =>
  wpAny_Assign_Name (h s Z N _ E a fun v Λ' ⟨G', hv, q⟩ y h tk Z' le hy ha => store_loc g lc hv hy ha fun h' tk' a' => t .next _ _ .next h' tk' Z' q le rfl a') hs
theorem s_asn (g : Good F A n) (lc : Loc F ns gl) (h : Pu F A G Λ e v) (hv : VarSet ns G x v G') (k : Ex F A G' Λ rest R) (hs : swapsWith e (some (.Name x px)) pos.line F.env = pure false) : Ex F A G Λ (.Assign [.Name x px] e pos :: rest) R :=
  ex_cons (asn g lc hs (h.ev ⟨G', hv, k⟩))
theorem s_asnE (g : Good F A n) (lc : Loc F ns gl) (h : Ev F A G Λ e (fun v Λ' => ∃ G', VarSet ns G x v G' ∧ Ex F A G' Λ' rest R)) (hs : swapsWith e (some (.Name x px)) pos.line F.env = pure false) : Ex F A G Λ (.Assign [.Name x px] e pos :: rest) R :=
  ex_cons (asn g lc hs h)
theorem ex_if {b : Bool} {test : Expr} (ht : Tst F A G Λ test b) (h1 : b = true → Ex F A G Λ body R) (h2 : b = false → Ex F A G Λ orelse R) : Ex1 F A G Λ (.If test body orelse pos) R := fun s Z N Q E a t =>
  wpAny_If (ht s Z N _ E a fun h tk Z' le a' => by
    cases b with
    | true => exact h1 rfl { s with heap := h, toks := tk } Z' N Q E a' fun f G' Λ' fl h' tk' Z'' q le' => t f G' Λ' fl h' tk' Z'' q (le.trans le')
    | false => exact h2 rfl { s with heap := h, toks := tk } Z' N Q E a' fun f G' Λ' fl h' tk' Z'' q le' => t f G' Λ' fl h' tk' Z'' q (le.trans le'))
theorem s_if {b : Bool} {test : Expr} (ht : Tst F A G Λ test b) (h1 : b = true → Ex F A G Λ body (On F A rest R)) (h2 : b = false → Ex F A G Λ orelse (On F A rest R)) : Ex F A G Λ (.If test body orelse pos :: rest) R := ex_cons (ex_if ht h1 h2)
theorem ex_ret (h : Ev F A G Λ e (fun v Λ' => R (.ret v) G Λ')) : Ex1 F A G Λ (.Return (some e) pos) R := fun s Z N Q E a t =>
  wpAny_Return_some (h s Z N _ E a fun v Λ' q x h tk Z' le hx ha => t (.ret v) G Λ' _ h tk Z' q le ⟨x, rfl, hx⟩ ha)
theorem s_ret (h : Pu F A G Λ e v) (k : R (.ret v) G Λ) : Ex F A G Λ (.Return (some e) pos :: rest) R := ex_cons (ex_ret (h.ev k))
theorem ex_brk (h : R .brk G Λ) : Ex1 F A G Λ (.Break pos) R := fun s Z N Q E a t => wpAny_Break (t .brk G Λ .brk s.heap s.toks Z h (.refl _) rfl a)
theorem s_brk (h : R .brk G Λ) : Ex F A G Λ (.Break pos :: rest) R := ex_cons (ex_brk h)
theorem ex_expr (hi : interactive F.env = false) (hs : swapsWith e none pos.line F.env = pure false) (h : Ev F A G Λ e (fun v Λ' => R .next G Λ')) : Ex1 F A G Λ (.Expr e pos) R := fun s Z N Q E a t => by
  rw [exec_Expr F.env e pos hi hs]
  exact wpAny_bind (wpAny_standAt (wpAny_bind (h s Z N _ E a fun v Λ' q x h tk Z' le hx ha => wpAny_dropValue (t .next G Λ' .next h tk Z' q le rfl ha))))
theorem s_expr (h : Ev F A G Λ e (fun v Λ' => Ex F A G Λ' rest R)) (hi : interactive F.env = false) (hs : swapsWith e none pos.line F.env = pure false) : Ex F A G Λ (.Expr e pos :: rest) R := ex_cons (ex_expr hi hs h)
/-- behind a turn -/
def Turn (I : List (Option V) → Led → Prop) (R : Post) : Post := fun f G' Λ' => match f with
  | .next | .cont => I G' Λ'
  | .brk => R .next G' Λ'
  | .ret v => R (.ret v) G' Λ'
theorem ex_while {test : Expr} (I : Nat → List (Option V) → Led → Prop) (m : Nat) (h0 : I m G Λ)
    (turn : ∀ m G Λ, I m G Λ → ∃ b, Tst F A G Λ test b ∧ (b = true → Ex F A G Λ body (Turn (fun G' Λ' => ∃ m', m' < m ∧ I m' G' Λ') R)) ∧ (b = false → R .next G Λ)) :
    Ex1 F A G Λ (.While test body [] pos) R := fun s Z N Q E a t => by
  refine wpAny_While (codeAny_whileLoop (fun m s' => ∃ G Λ h tk Z', s' = { s with heap := h, toks := tk } ∧ Z.le Z' ∧ At F Z' N G Λ h ∧ I m G Λ) ?_ m ⟨G, Λ, s.heap, s.toks, Z, rfl, .refl _, a, h0⟩)
  rintro m s' ⟨G, Λ, h, tk, Z', rfl, le, a, hI⟩
  obtain ⟨b, ht, h1, h2⟩ := turn m G Λ hI
  refine ht _ Z' N _ _ a fun h' tk' Z₂ le₂ a' => ?_
  cases b with
  | false => exact wpAny_execs_nil (t .next G Λ .next h' tk' Z₂ (h2 rfl) (le.trans le₂) rfl a')
  | true =>
    refine h1 rfl _ Z₂ N _ _ a' fun f G' Λ' fl h'' tk'' Z₃ q le₃ hf ha => ?_
    have le' := (le.trans le₂).trans le₃
    cases f with
    | next => cases hf; obtain ⟨m', hm, hI'⟩ := q; exact ⟨m', hm, G', Λ', h'', tk'', Z₃, rfl, le', ha, hI'⟩
    | cont => cases hf; obtain ⟨m', hm, hI'⟩ := q; exact ⟨m', hm, G', Λ', h'', tk'', Z₃, rfl, le', ha, hI'⟩
    | brk => cases hf; exact t .next G' Λ' .next h'' tk'' Z₃ q le' rfl ha
    | ret v => obtain ⟨x, rfl, hx⟩ := hf; exact t (.ret v) G' Λ' _ h'' tk'' Z₃ q le' ⟨x, rfl, hx⟩ ha

/-! a step on two values -/
def Bin (F : Fm) (A : Around) (G : List (Option V)) (Λ : Led) (op : Operator) (a b : V) (P : V → Led → Prop) : Prop :=
  ∀ x y (s : Shared) (Z N : Frz) (Q E : Value → Shared → Prop), a.is Z x → b.is Z y → At F Z N G Λ s.heap → (∀ v Λ', P v Λ' → Then F N G Λ' s Z v Q) → wpAny F.M A (binaryOp op x y) Q E s
theorem ev_bin (hl : Pu F A G Λ l a) (hr : Pu F A G Λ r b) (h : Bin F A G Λ op a b P) : Ev F A G Λ (.BinOp l op r pos) P := fun s Z N Q E at0 t =>
  wpAny_BinOp (hl s Z N _ E at0 fun x h1 tk Z1 le1 hx ha => hr { s with heap := h1, toks := tk } Z1 N _ E ha fun y h2 tk' Z2 le2 hy ha' => h x y { s with heap := h2, toks := tk' } Z2 N Q E (hx.mono le2) hy ha' fun v Λ' hv x' h' tk' Z' le' => t v Λ' hv x' h' tk' Z' ((le1.trans le2).trans le'))
theorem pu_bin (hl : Pu F A G Λ l a) (hr : Pu F A G Λ r b) (ho : Bin F A G Λ op a b (fun v Λ' => v = c ∧ Λ' = Λ)) : Pu F A G Λ (.BinOp l op r pos) c := fun s Z N Q E a t =>
  ev_bin hl hr ho s Z N Q E a fun v Λ' ⟨e1, e2⟩ => by rw [e1, e2]; exact t
theorem bin_add (h : P (.int (i + j)) Λ) : Bin F A G Λ .Add (.int i) (.int j) P := by
  intro x y s Z N Q E hx hy a k
  obtain ⟨t, rfl⟩ := isInt hx; obtain ⟨u, rfl⟩ := isInt hy
  exact PyProof.Rows.add_int (k _ _ h _ _ _ Z (.refl _) mkIsInt a)
theorem bin_sub (h : P (.int (i - j)) Λ) : Bin F A G Λ .Sub (.int i) (.int j) P := by
  intro x y s Z N Q E hx hy a k
  obtain ⟨t, rfl⟩ := isInt hx; obtain ⟨u, rfl⟩ := isInt hy
  exact PyProof.Rows.sub_int (k _ _ h _ _ _ Z (.refl _) mkIsInt a)
theorem bits_small (h : i.natAbs < 2 ^ 62) : Builtin.Int.intBits i ≤ 64 := intBits_le_64 (by omega) (by omega)
theorem bin_mul (hm : i.natAbs < 2 ^ 62 ∨ j.natAbs < 2 ^ 62) (h : P (.int (i * j)) Λ) : Bin F A G Λ .Mult (.int i) (.int j) P := by
  intro x y s Z N Q E hx hy a k
  obtain ⟨t, rfl⟩ := isInt hx; obtain ⟨u, rfl⟩ := isInt hy
  exact PyProof.Rows.mul_int (k _ _ h _ _ _ Z (.refl _) mkIsInt a) (hm.elim (fun q => IntMulOk.of_left (bits_small q)) fun q => IntMulOk.of_right (bits_small q))
theorem bin_div (g : Good F A n) (hj : 0 < j) (hj' : j < 1000000000) (h : P (.int (i / j)) Λ) : Bin F A G Λ .FloorDiv (.int i) (.int j) P := by
  intro x y s Z N Q E hx hy a k
  obtain ⟨t, rfl⟩ := isInt hx; obtain ⟨u, rfl⟩ := isInt hy
  refine PyProof.Rows.floordiv_int_or g.hd (fun e => absurd e (by omega)) (fun _ => ?_) (fun _ => .inl (PyProof.noPylong_small (by omega)))
  rw [Int.fdiv_eq_ediv_of_nonneg _ (by omega)]
  exact k _ _ h _ _ _ Z (.refl _) mkIsInt a
theorem bin_mod (g : Good F A n) (hj : 0 < j) (h : P (.int (i % j)) Λ) : Bin F A G Λ .Mod (.int i) (.int j) P := by
  intro x y s Z N Q E hx hy a k
  obtain ⟨t, rfl⟩ := isInt hx; obtain ⟨u, rfl⟩ := isInt hy
  refine PyProof.Rows.mod_int_or g.hd (fun e => absurd e (by omega)) (fun _ => ?_)
  rw [Int.fmod_eq_emod_of_nonneg _ (by omega)]
  exact k _ _ h _ _ _ Z (.refl _) mkIsInt a
theorem bin_pow (hi : i.natAbs < 2 ^ 62) (hj : 0 ≤ j) (hj' : j ≤ 100) (h : P (.int (i ^ j.toNat)) Λ) : Bin F A G Λ .Pow (.int i) (.int j) P := by
  intro x y s Z N Q E hx hy a k
  obtain ⟨t, rfl⟩ := isInt hx; obtain ⟨u, rfl⟩ := isInt hy
  refine PyProof.Rows.pow_int hj ?_ (k _ _ h _ _ _ Z (.refl _) mkIsInt a)
  have := bits_small hi
  have h1 : (Builtin.Int.intBits i : Int) * j ≤ 64 * j := Int.mul_le_mul_of_nonneg_right (by omega) hj
  omega
theorem toStr (l : List Nat) : (⟨l.toArray⟩ : Str).length = l.length := by show l.toArray.size = _; simp
theorem bin_cat (hs : xs.length + ys.length ≤ sizeLine) (h : P (.str (xs ++ ys)) Λ) : Bin F A G Λ .Add (.str xs) (.str ys) P := by
  intro x y s Z N Q E hx hy a k
  obtain ⟨t, rfl⟩ := isStr hx; obtain ⟨u, rfl⟩ := isStr hy
  refine PyProof.Rows.add_str (fun t' tk => ?_) (by rw [toStr, toStr]; exact hs)
  refine k _ _ h _ s.heap tk Z (.refl _) ?_ a
  simp only [V.is]
  refine ⟨t', ?_⟩
  congr 1
  show (⟨xs.toArray ++ ys.toArray⟩ : Str) = _
  simp
theorem pu_add (hl : Pu F A G Λ l (.int i)) (hr : Pu F A G Λ r (.int j)) : Pu F A G Λ (.BinOp l .Add r pos) (.int (i + j)) := pu_bin hl hr (bin_add ⟨rfl, rfl⟩)
theorem pu_sub (hl : Pu F A G Λ l (.int i)) (hr : Pu F A G Λ r (.int j)) : Pu F A G Λ (.BinOp l .Sub r pos) (.int (i - j)) := pu_bin hl hr (bin_sub ⟨rfl, rfl⟩)
theorem pu_mul (hl : Pu F A G Λ l (.int i)) (hr : Pu F A G Λ r (.int j)) (hm : i.natAbs < 2 ^ 62 ∨ j.natAbs < 2 ^ 62) : Pu F A G Λ (.BinOp l .Mult r pos) (.int (i * j)) := pu_bin hl hr (bin_mul hm ⟨rfl, rfl⟩)
theorem pu_div (g : Good F A n) (hl : Pu F A G Λ l (.int i)) (hr : Pu F A G Λ r (.int j)) (hj : 0 < j) (hj' : j < 1000000000) : Pu F A G Λ (.BinOp l .FloorDiv r pos) (.int (i / j)) := pu_bin hl hr (bin_div g hj hj' ⟨rfl, rfl⟩)
theorem pu_mod (g : Good F A n) (hl : Pu F A G Λ l (.int i)) (hr : Pu F A G Λ r (.int j)) (hj : 0 < j) : Pu F A G Λ (.BinOp l .Mod r pos) (.int (i % j)) := pu_bin hl hr (bin_mod g hj ⟨rfl, rfl⟩)
theorem pu_pow (hl : Pu F A G Λ l (.int i)) (hr : Pu F A G Λ r (.int j)) (hi : i.natAbs < 2 ^ 62) (hj : 0 ≤ j) (hj' : j ≤ 100) : Pu F A G Λ (.BinOp l .Pow r pos) (.int (i ^ j.toNat)) := pu_bin hl hr (bin_pow hi hj hj' ⟨rfl, rfl⟩)
theorem pu_cat (hl : Pu F A G Λ l (.str xs)) (hr : Pu F A G Λ r (.str ys)) (hs : xs.length + ys.length ≤ sizeLine) : Pu F A G Λ (.BinOp l .Add r pos) (.str (xs ++ ys)) := pu_bin hl hr (bin_cat hs ⟨rfl, rfl⟩)
theorem pu_neg (hl : Pu F A G Λ l (.int i)) : Pu F A G Λ (.UnaryOp .USub l pos) (.int (-i)) := fun s Z N Q E a t =>
  wpAny_UnaryOp (hl s Z N _ E a fun x h tk Z' le hx ha => by obtain ⟨t', rfl⟩ := isInt hx; exact PyProof.Rows.neg_int (t _ _ _ Z' le mkIsInt ha))

/-! comparisons -/
def Cm (F : Fm) (A : Around) (G : List (Option V)) (Λ : Led) (op : CmpOp) (a b : V) (c : Bool) : Prop :=
  ∀ x y (s : Shared) (Z N : Frz) (Q E : Value → Shared → Prop), a.is Z x → b.is Z y → At F Z N G Λ s.heap → ThenU F N G Λ s Z (Q (.bool c)) → wpAny F.M A (compareOp op x y) Q E s
theorem pu_cmp {op : CmpOp} {c : Bool} (hl : Pu F A G Λ l a) (hr : Pu F A G Λ r b) (ho : Cm F A G Λ op a b c) (hm : behindInMarks op r = false) : Pu F A G Λ (.Compare l [op] [r] pos) (.bool c) := fun s Z N Q E at0 t =>
  wpAny_Compare1 (hl s Z N _ E at0 fun x h tk Z1 le1 hx ha => hr { s with heap := h, toks := tk } Z1 N _ E ha fun y h' tk' Z2 le2 hy ha' => ho x y { s with heap := h', toks := tk' } Z2 N Q E (hx.mono le2) hy ha' fun h tk Z3 le3 a => t _ h tk Z3 ((le1.trans le2).trans le3) mkIsBool a) hm
theorem ts_cmp {op : CmpOp} {c : Bool} (hl : Pu F A G Λ l a) (hr : Pu F A G Λ r b) (ho : Cm F A G Λ op a b c) (hm : behindInMarks op r = false) : Tst F A G Λ (.Compare l [op] [r] pos) c := fun s Z N Q E at0 t =>
  wpAny_isTrue_Compare1 (hl s Z N _ E at0 fun x h tk Z1 le1 hx ha => hr { s with heap := h, toks := tk } Z1 N _ E ha fun y h' tk' Z2 le2 hy ha' => ho x y { s with heap := h', toks := tk' } Z2 N _ E (hx.mono le2) hy ha' fun h tk Z3 le3 a => wpAny_truthy_bool (t h tk Z3 ((le1.trans le2).trans le3) a)) hm
theorem cm_lt : Cm F A G Λ .Lt (.int i) (.int j) (decide (i < j)) := by
  intro x y s Z N Q E hx hy a k; obtain ⟨t, rfl⟩ := isInt hx; obtain ⟨u, rfl⟩ := isInt hy; exact PyProof.Rows.lt_int (k s.heap s.toks Z (.refl _) a)
theorem cm_le : Cm F A G Λ .LtE (.int i) (.int j) (decide (i ≤ j)) := by
  intro x y s Z N Q E hx hy a k; obtain ⟨t, rfl⟩ := isInt hx; obtain ⟨u, rfl⟩ := isInt hy; exact PyProof.Rows.le_int (k s.heap s.toks Z (.refl _) a)
theorem cm_gt : Cm F A G Λ .Gt (.int i) (.int j) (decide (i > j)) := by
  intro x y s Z N Q E hx hy a k; obtain ⟨t, rfl⟩ := isInt hx; obtain ⟨u, rfl⟩ := isInt hy; exact PyProof.Rows.gt_int (k s.heap s.toks Z (.refl _) a)
theorem cm_ge : Cm F A G Λ .GtE (.int i) (.int j) (decide (i ≥ j)) := by
  intro x y s Z N Q E hx hy a k; obtain ⟨t, rfl⟩ := isInt hx; obtain ⟨u, rfl⟩ := isInt hy; exact PyProof.Rows.ge_int (k s.heap s.toks Z (.refl _) a)
theorem cm_eq : Cm F A G Λ .Eq (.int i) (.int j) (i == j) := by
  intro x y s Z N Q E hx hy a k; obtain ⟨t, rfl⟩ := isInt hx; obtain ⟨u, rfl⟩ := isInt hy; exact PyProof.Rows.eq_int (k s.heap s.toks Z (.refl _) a)
theorem cm_ne : Cm F A G Λ .NotEq (.int i) (.int j) (i != j) := by
  intro x y s Z N Q E hx hy a k; obtain ⟨t, rfl⟩ := isInt hx; obtain ⟨u, rfl⟩ := isInt hy; exact PyProof.Rows.ne_int (k s.heap s.toks Z (.refl _) a)
theorem cm_eqb {p q : Bool} : Cm F A G Λ .Eq (.bool p) (.bool q) (p == q) := by
  intro x y s Z N Q E hx hy a k; have := isBool hx; subst this; have := isBool hy; subst this; exact PyProof.Rows.eq_bool (k s.heap s.toks Z (.refl _) a)
theorem strEq (xs ys : List Nat) : ((⟨xs.toArray⟩ : Str) == (⟨ys.toArray⟩ : Str)) = (xs == ys) := by
  rw [Bool.eq_iff_iff, beq_iff_eq, beq_iff_eq]
  constructor
  · intro h; injection h with h; simpa using h
  · rintro rfl; rfl
theorem cm_eqs : Cm F A G Λ .Eq (.str xs) (.str ys) (xs == ys) := by
  intro x y s Z N Q E hx hy a k; obtain ⟨t, rfl⟩ := isStr hx; obtain ⟨u, rfl⟩ := isStr hy; exact PyProof.Rows.eq_str (by rw [strEq]; exact k s.heap s.toks Z (.refl _) a)
theorem cm_nes : Cm F A G Λ .NotEq (.str xs) (.str ys) (xs != ys) := by
  intro x y s Z N Q E hx hy a k; obtain ⟨t, rfl⟩ := isStr hx; obtain ⟨u, rfl⟩ := isStr hy
  refine PyProof.Rows.ne_str ?_
  have : ((⟨xs.toArray⟩ : Str) != (⟨ys.toArray⟩ : Str)) = (xs != ys) := by show (!_) = !_; rw [strEq]
  first | (rw [this]; exact k s.heap s.toks Z (.refl _) a) | (rw [strEq]; exact k s.heap s.toks Z (.refl _) a)

/-! truth -/
def Tr (F : Fm) (A : Around) (G : List (Option V)) (Λ : Led) (a : V) (c : Bool) : Prop :=
  ∀ x (s : Shared) (Z N : Frz) (Q : Bool → Shared → Prop) (E : Value → Shared → Prop), a.is Z x → At F Z N G Λ s.heap → ThenU F N G Λ s Z (Q c) → wpAny F.M A (truthy x) Q E s
theorem tr_int : Tr F A G Λ (.int i) (i != 0) := by intro x s Z N Q E hx a k; obtain ⟨t, rfl⟩ := isInt hx; exact PyProof.Rows.truthy_int (k s.heap s.toks Z (.refl _) a)
theorem tr_bool {q : Bool} : Tr F A G Λ (.bool q) q := by intro x s Z N Q E hx a k; have := isBool hx; subst this; exact wpAny_truthy_bool (k s.heap s.toks Z (.refl _) a)
theorem tr_none : Tr F A G Λ .none false := by intro x s Z N Q E hx a k; have := isNone hx; subst this; exact PyProof.Rows.truthy_none (k s.heap s.toks Z (.refl _) a)
theorem tr_str (hs : xs.length ≤ sizeLine) : Tr F A G Λ (.str xs) (!xs.isEmpty) := by
  intro x s Z N Q E hx a k; obtain ⟨t, rfl⟩ := isStr hx
  refine PySem.P.truthy_str (by rw [toStr]; rw [sizeLine_eq] at hs; omega) ?_
  have : (((⟨xs.toArray⟩ : Str).length : Int) != 0) = !xs.isEmpty := by
    rw [toStr]; cases xs <;> simp <;> omega
  rw [this]; exact k s.heap _ Z (.refl _) a
/-- a test that is a value's truth -/
theorem ts_val {c : Bool} (h : Pu F A G Λ e a) (ht : Tr F A G Λ a c) (he : ∀ whole, isTrue e F.env whole = (do let v ← whole; standAt e.pos; holding [v] (truthy v))) : Tst F A G Λ e c := fun s Z N Q E at0 t =>
  isTrue_plain (h s Z N _ E at0 fun x h tk Z' le hx ha => ht x { s with heap := h, toks := tk } Z' N Q E hx ha fun h' tk' Z'' le' => t h' tk' Z'' (le.trans le')) (he _)
theorem ts_not {c : Bool} (h : Tst F A G Λ e c) : Tst F A G Λ (.UnaryOp .Not e pos) (!c) := fun s Z N Q E a t => wpAny_isTrue_Not (h s Z N _ E a t)
def TsAll (F : Fm) (A : Around) (G : List (Option V)) (Λ : Led) (op : BoolOp) (es : List Expr) (c : Bool) : Prop :=
  ∀ (s : Shared) (Z N : Frz) (Q : Bool → Shared → Prop) (E : Value → Shared → Prop), At F Z N G Λ s.heap → ThenU F N G Λ s Z (Q c) → wpAny F.M A (allTrue op es F.env) Q E s
theorem ts_bool {op : BoolOp} {c : Bool} (h : TsAll F A G Λ op es c) : Tst F A G Λ (.BoolOp op es pos) c := fun s Z N Q E a t => wpAny_isTrue_BoolOp (h s Z N Q E a t)
theorem ta_and0 : TsAll F A G Λ .And [] true := fun s Z N Q E a t => wpAny_allTrue_And_nil (t s.heap s.toks Z (.refl _) a)
theorem ta_or0 : TsAll F A G Λ .Or [] false := fun s Z N Q E a t => wpAny_allTrue_Or_nil (t s.heap s.toks Z (.refl _) a)
theorem ta_and {c d : Bool} (h0 : Tst F A G Λ e c) (k : c = true → TsAll F A G Λ .And es d) : TsAll F A G Λ .And (e :: es) (c && d) := fun s Z N Q E a t =>
  wpAny_allTrue_And_cons (h0 s Z N _ E a fun h tk Z' le a' => by cases c with
    | true => exact k rfl { s with heap := h, toks := tk } Z' N Q E a' fun h' tk' Z'' le' => t h' tk' Z'' (le.trans le')
    | false => exact t h tk Z' le a')
theorem ta_or {c d : Bool} (h0 : Tst F A G Λ e c) (k : c = false → TsAll F A G Λ .Or es d) : TsAll F A G Λ .Or (e :: es) (c || d) := fun s Z N Q E a t =>
  wpAny_allTrue_Or_cons (h0 s Z N _ E a fun h tk Z' le a' => by cases c with
    | true => exact t h tk Z' le a'
    | false => exact k rfl { s with heap := h, toks := tk } Z' N Q E a' fun h' tk' Z'' le' => t h' tk' Z'' (le.trans le'))
/-- «x or y» as a value -/
theorem pu_or {c : Bool} (h : Pu F A G Λ l a) (ht : Tr F A G Λ a c) (k : c = false → Pu F A G Λ r b) : Pu F A G Λ (.BoolOp .Or [l, r] pos) (if c then a else b) := fun s Z N Q E at0 t =>
  wpAny_Or2 (h s Z N _ E at0 fun x h tk Z1 le1 hx ha => ht x { s with heap := h, toks := tk } Z1 N _ E hx ha fun h' tk' Z2 le2 ha' => by cases c with
    | true => exact t x h' tk' Z2 (le1.trans le2) (hx.mono le2) ha'
    | false => exact k rfl { s with heap := h', toks := tk' } Z2 N Q E ha' fun y h3 tk3 Z3 le3 => t y h3 tk3 Z3 ((le1.trans le2).trans le3))
theorem pu_ifexp {c : Bool} {test : Expr} (ht : Tst F A G Λ test c) (h1 : c = true → Pu F A G Λ l a) (h2 : c = false → Pu F A G Λ r b) : Pu F A G Λ (.IfExp test l r pos) (if c then a else b) := fun s Z N Q E at0 t =>
  wpAny_IfExp (ht s Z N _ E at0 fun h tk Z1 le1 a' => by cases c with
    | true => exact h1 rfl { s with heap := h, toks := tk } Z1 N Q E a' fun y h3 tk3 Z3 le3 => t y h3 tk3 Z3 (le1.trans le3)
    | false => exact h2 rfl { s with heap := h, toks := tk } Z1 N Q E a' fun y h3 tk3 Z3 le3 => t y h3 tk3 Z3 (le1.trans le3))

/-! items -/
theorem evs_nil (h : PS [] Λ) : Evs F A G Λ [] PS := fun pos s Z N Q E a t => spliced_none (t [] Λ [] s.heap s.toks Z h (.refl _) .nil a)
theorem evs_cons (h : Ev F A G Λ e (fun v Λ₁ => Evs F A G Λ₁ es (fun vs Λ₂ => PS (v :: vs) Λ₂))) (he : starEach (e :: es) F.env = (false, eval e F.env) :: starEach es F.env) : Evs F A G Λ (e :: es) PS := fun pos s Z N Q E a t =>
  spliced_more (h s Z N _ E a fun v Λ₁ q x h tk Z1 le1 hx ha => q pos { s with heap := h, toks := tk } Z1 N _ E ha fun vs Λ₂ xs h' tk' Z2 q' le2 hxs ha' => t (v :: vs) Λ₂ (x :: xs) h' tk' Z2 q' (le1.trans le2) (.cons (hx.mono le2) hxs) ha') he
/-- pure items -/
inductive PuL (F : Fm) (A : Around) (G : List (Option V)) (Λ : Led) : List Expr → List V → Prop where
  | nil : PuL F A G Λ [] []
  | cons {e : Expr} {v : V} {es : List Expr} {vs : List V} (h : Pu F A G Λ e v) (k : PuL F A G Λ es vs) (he : starEach (e :: es) F.env = (false, eval e F.env) :: starEach es F.env) : PuL F A G Λ (e :: es) (v :: vs)
theorem PuL.evs (h : PuL F A G Λ es vs) (k : PS vs Λ) : Evs F A G Λ es PS := by
  induction h generalizing PS with
  | nil => exact evs_nil k
  | cons h _ he ih => exact evs_cons (h.ev (ih k)) he

/-! calls -/
def Cl (F : Fm) (A : Around) (G : List (Option V)) (Λ : Led) (f : Value) (vs : List V) (P : V → Led → Prop) : Prop :=
  ∀ xs (s : Shared) (Z N : Frz) (Q E : Value → Shared → Prop), AllIs Z vs xs → At F Z N G Λ s.heap → (∀ v Λ', P v Λ' → Then F N G Λ' s Z v Q) → wpAny F.M A (call f xs) Q E s
/-- a callee that a call reaches as it stands -/
def Callee (K : Frag) : Value → Bool
  | .builtin _ => true
  | .type _ => true
  | .ref f => keepIn K (.ref f)
  | _ => false
theorem ev_call {func : Expr} {f : Value} (g : Good F A n) (hf : Pu F A G Λ func (.val f)) (h : Evs F A G Λ (e :: es) (fun vs Λ₁ => Cl F A G Λ₁ f vs P)) (hk : Callee F.S.K f = true)
    (hc : eval (.Call func (e :: es) [] pos) F.env = (do callWith pos (← eval func F.env) [] (backTo pos (starEach (e :: es) F.env)) (backToKw pos (keywordEach [] F.env))))
    (he : starEach (e :: es) F.env = (false, eval e F.env) :: starEach es F.env) (hp : (backTo pos (starEach es F.env)).any (·.1) = false) : Ev F A G Λ (.Call func (e :: es) [] pos) P := fun s Z N Q E a t =>
  Call_ (hf s Z N _ E a fun y h₁ tk₁ Z₁ le₁ hy a₁ => by
    have := isVal hy; subst this
    have go : wpAny F.M A (spliced (backTo pos (starEach (e :: es) F.env))) (fun vs s₁ => F.S.K.In s₁.heap ∧ wpAny F.M A (call y vs) Q E s₁) E { s with heap := h₁, toks := tk₁ } :=
      h pos { s with heap := h₁, toks := tk₁ } Z₁ N _ E a₁ fun vs Λ₁ xs h₂ tk₂ Z₂ q le₂ hxs a₂ => ⟨a₂.K g, q xs { s with heap := h₂, toks := tk₂ } Z₂ N Q E hxs a₂ fun v Λ' hv x h₃ tk₃ Z₃ le₃ => t v Λ' hv x h₃ tk₃ Z₃ ((le₁.trans le₂).trans le₃)⟩
    cases y with
    | builtin id => exact PyProof.Rows.callWith_builtin1 (wpAny_mono go (fun _ _ q => q.2) fun _ _ q => q) he hp
    | type id => exact PyProof.Rows.callWith_type1 (wpAny_mono go (fun _ _ q => q.2) fun _ _ q => q) he hp
    | ref f => exact callWith_K g.X hk go he hp
    | _ => cases hk) hc
theorem cl_mono {f : Value} (h : Cl F A G Λ f vs P) (k : ∀ v Λ', P v Λ' → P' v Λ') : Cl F A G Λ f vs P' := fun xs s Z N Q E hx a t => h xs s Z N Q E hx a fun v Λ' q => t v Λ' (k v Λ' q)
theorem pu_call {func : Expr} {f : Value} (g : Good F A n) (hf : Pu F A G Λ func (.val f)) (h : PuL F A G Λ (e :: es) vs) (k : Cl F A G Λ f vs (fun v' Λ' => v' = v ∧ Λ' = Λ)) (hk : Callee F.S.K f = true)
    (hc : eval (.Call func (e :: es) [] pos) F.env = (do callWith pos (← eval func F.env) [] (backTo pos (starEach (e :: es) F.env)) (backToKw pos (keywordEach [] F.env))))
    (he : starEach (e :: es) F.env = (false, eval e F.env) :: starEach es F.env) (hp : (backTo pos (starEach es F.env)).any (·.1) = false) : Pu F A G Λ (.Call func (e :: es) [] pos) v :=
  (ev_call g hf (h.evs k) hk hc he hp).pu fun _ _ ⟨a, b⟩ => ⟨a, b ▸ .refl _⟩
theorem ev_call' {func : Expr} {f : Value} (g : Good F A n) (hf : Pu F A G Λ func (.val f)) (h : PuL F A G Λ (e :: es) vs) (k : Cl F A G Λ f vs P) (hk : Callee F.S.K f = true)
    (hc : eval (.Call func (e :: es) [] pos) F.env = (do callWith pos (← eval func F.env) [] (backTo pos (starEach (e :: es) F.env)) (backToKw pos (keywordEach [] F.env))))
    (he : starEach (e :: es) F.env = (false, eval e F.env) :: starEach es F.env) (hp : (backTo pos (starEach es F.env)).any (·.1) = false) : Ev F A G Λ (.Call func (e :: es) [] pos) P :=
  ev_call g hf (h.evs k) hk hc he hp
end
end Mine
end

/-! TL3 -/
section
open PySem PySem.W PyProof.Rows PySem.Calls
set_option maxRecDepth 100000
set_option autoImplicit false
set_option linter.unusedVariables false
namespace Mine

/-- a target's store -/
def Tgt (F : Fm) (A : Around) (G : List (Option V)) (Λ : Led) (target : Expr) (v : V) (K : List (Option V) → Led → Prop) : Prop :=
  ∀ y (s : Shared) (Z N : Frz) (Q : Unit → Shared → Prop) (E : Value → Shared → Prop), v.is Z y → At F Z N G Λ s.heap →
    (∀ G₁ Λ₁ h tk Z', K G₁ Λ₁ → Z.le Z' → At F Z' N G₁ Λ₁ h → Q () { s with heap := h, toks := tk }) → wpAny F.M A (assign target F.env y) Q E s
/-- several targets, in order -/
def TgtL (F : Fm) (A : Around) : List Expr → List V → List (Option V) → Led → (List (Option V) → Led → Prop) → Prop
  | [], [], G, Λ, K => K G Λ
  | e :: es, v :: vs, G, Λ, K => Tgt F A G Λ e v (fun G₁ Λ₁ => TgtL F A es vs G₁ Λ₁ K) ∧ assignEach (e :: es) F.env = (false, assign e F.env) :: assignEach es F.env
  | _, _, _, _, _ => False

/-- an iterator at work -/
structure Itr (F : Fm) (A : Around) (Z N : Frz) (I : Addr) (items : List V) (fp : List Addr) (Pi : Nat → Value → Prop) (St : Nat → Heap → Prop) : Prop where
  W : Walks F.S.prog F.S.w A I fp [I] items.length Pi St
  other : ∀ b ∈ fp, b ≠ I → (∃ o, Z b = some o) ∨ (∃ o, N b = some o)
  val : ∀ i y, Pi i y → ∃ v, items[i]? = some v ∧ v.is Z y
  obj : ∀ i h, St i h → ∃ o, h.get? I = some o
  go : ∀ (target : Expr) (v : Value) i (s : Shared) (Q : Unit → Shared → Prop) (E : Value → Shared → Prop), St i s.heap → Q () s → wpAny F.M A (letOwnedTupleGo target (.ref I) v) Q E s
/-- what can be walked, and its items -/
def Itb (F : Fm) (A : Around) (a : V) (items : List V) : Prop :=
  ∀ G Λ x (s : Shared) (Z N : Frz) (Q E : Value → Shared → Prop), a.is Z x → At F Z N G Λ s.heap →
    (∀ I fp Pi St h tk, Itr F A Z N I items fp Pi St → St 0 h → (∀ b o, s.heap.get? b = some o → h.get? b = some o) → s.heap.get? I = none → Q (.ref I) { s with heap := h, toks := tk }) → wpAny F.M A (pyIter x) Q E s

section
variable {F : Fm} {A : Around} {G G' : List (Option V)} {Λ Λ' Λ₁ X : Led} {e l r : Expr} {v u a b c : V} {P P' : V → Led → Prop} {PS : List V → Led → Prop} {R R' : Post} {n : Nat} {rest ss body orelse : List Stmt} {st : Stmt} {pos px : Pos} {x : Str} {ns : List Str} {gl : List (Str × Value)} {i j : Int} {xs ys : List Nat} {es : List Expr} {vs us items : List V} {y : Value} {id : String} {op : Operator}

theorem Itr.mono {Z Z' N N' : Frz} {I : Addr} {fp : List Addr} {Pi : Nat → Value → Prop} {St : Nat → Heap → Prop} (k : Itr F A Z N I items fp Pi St) (le : Z.le Z') (ln : N.le N') : Itr F A Z' N' I items fp Pi St where
  W := k.W
  other := fun b hb hn => (k.other b hb hn).imp (fun ⟨o, e⟩ => ⟨o, le _ _ e⟩) (fun ⟨o, e⟩ => ⟨o, ln _ _ e⟩)
  val := fun i y h => let ⟨v, e, q⟩ := k.val i y h; ⟨v, e, q.mono le⟩
  obj := k.obj
  go := k.go

/-- the loop over an iterator -/
theorem for_core {target : Expr} {I : Addr} {fp : List Addr} {Pi : Nat → Value → Prop} {St : Nat → Heap → Prop} {s : Shared} {Z N : Frz} {Q : Flow → Shared → Prop} {E : Value → Shared → Prop}
    (k : Itr F A Z N I items fp Pi St) (J : Nat → List (Option V) → Led → Prop)
    (a : At F Z N G Λ s.heap) (hI : I ∉ F.L :: Λ.map Prod.fst) (hZ : Z I = none) (hN : N I = none) (st0 : St 0 s.heap) (h0 : J 0 G Λ)
    (turn : ∀ (i : Nat) G Λ v, i < items.length → items[i]? = some v → J i G Λ → Tgt F A G Λ target v (fun G₁ Λ₁ => Ex F A G₁ Λ₁ body (Turn (J (i + 1)) R)))
    (fin : ∀ G Λ, J items.length G Λ → R .next G Λ) (t : ThenF F N s Z R Q) :
    codeAny F.M A (.forLoop target (.ref I) body [] F.env) (fun r s' => match r with | .ok f => Q f s' | .error e => cameBackBy F.M A F.env E e s') s := by
  refine codeAny_forLoop_any (fun m s' => ∃ i G Λ h tk Z', s' = { s with heap := h, toks := tk } ∧ Z.le Z' ∧ At F Z' N G Λ h ∧ I ∉ F.L :: Λ.map Prod.fst ∧ Z' I = none ∧ J i G Λ ∧ St i h ∧ i ≤ items.length ∧ m = items.length - i) ?_ items.length
    ⟨0, G, Λ, s.heap, s.toks, Z, rfl, .refl _, a, hI, hZ, h0, st0, Nat.zero_le _, rfl⟩
  rintro m s' ⟨i, G, Λ, h, tk, Z₁, rfl, le₁, a, hI, hZ, hJ, hst, hle, rfl⟩
  by_cases hlt : i < items.length
  · refine k.W.item i _ _ _ hlt hst fun y h₁ tk₁ hy st₁ hk₁ => ?_
    have a₁ := a.moved (h' := h₁) (fun b o hb e => hk₁ b o (by simpa using hb) e) hI hZ hN
    obtain ⟨oI, eI⟩ := k.obj _ _ st₁
    obtain ⟨v, hv, hy'⟩ := k.val i y hy
    refine k.go target y (i + 1) _ _ _ st₁ ?_
    have a₂ := a₁.pinned eI hI hZ hN
    refine turn i G Λ v hlt hv hJ y { s with heap := h₁, toks := tk₁ } Z₁ _ _ _ (hy'.mono le₁) a₂ fun G₁ Λ₁ h₂ tk₂ Z₂ q le₂ a₃ => ?_
    refine q { s with heap := h₂, toks := tk₂ } Z₂ _ _ _ a₃ fun f G' Λ' fl h₃ tk₃ Z₃ q' le₃ hf a₄ => ?_
    have hP : F.P I = none := by
      cases e : F.P I with
      | none => rfl
      | some o => have := a.fix _ _ e; rw [hN] at this; cases this
    obtain ⟨a₅, eI₃, hI₃, hZ₃⟩ := a₄.unpin hN hP
    have le' := (le₁.trans le₂).trans le₃
    have st₃ : St (i + 1) h₃ := k.W.frame _ _ _ st₁ fun b hb o e => by
      by_cases hbI : b = I
      · subst hbI; rw [eI] at e; cases e; exact eI₃
      · rcases k.other b hb hbI with ⟨o', e'⟩ | ⟨o', e'⟩
        · have h1 := a₁.frz b o' (le₁ _ _ e')
          rw [h1] at e; cases e
          exact a₅.frz _ _ (le' _ _ e')
        · have h1 := a₁.pin b o' e'
          rw [h1] at e; cases e
          exact a₅.pin _ _ e'
    cases f with
    | next => cases hf; exact ⟨items.length - (i + 1), by omega, i + 1, G', Λ', h₃, tk₃, Z₃, rfl, le', a₅, hI₃, hZ₃, q', st₃, hlt, rfl⟩
    | cont => cases hf; exact ⟨items.length - (i + 1), by omega, i + 1, G', Λ', h₃, tk₃, Z₃, rfl, le', a₅, hI₃, hZ₃, q', st₃, hlt, rfl⟩
    | brk => cases hf; exact t .next G' Λ' .next h₃ tk₃ Z₃ q' le' rfl a₅
    | ret v => obtain ⟨x, rfl, hx⟩ := hf; exact t (.ret v) G' Λ' _ h₃ tk₃ Z₃ q' le' ⟨x, rfl, hx⟩ a₅
  · obtain rfl : i = items.length := by omega
    exact k.W.done _ _ _ hst fun h' tk' hk => wpAny_execs_nil (t .next G Λ .next h' tk' Z₁ (fin G Λ hJ) le₁ rfl (a.moved (fun b o hb e => hk b o (by simpa using hb) e) hI hZ hN))

theorem ex_for {target iter : Expr} (hi : Pu F A G Λ iter a) (hit : Itb F A a items) (J : Nat → List (Option V) → Led → Prop) (h0 : J 0 G Λ)
    (turn : ∀ (i : Nat) G Λ v, i < items.length → items[i]? = some v → J i G Λ → Tgt F A G Λ target v (fun G₁ Λ₁ => Ex F A G₁ Λ₁ body (Turn (J (i + 1)) R)))
    (fin : ∀ G Λ, J items.length G Λ → R .next G Λ) (hf : ∀ x : Value, foldedSetIterable iter F.env x = pure x) : Ex1 F A G Λ (.For target iter body [] pos) R := fun s Z N Q E a t =>
  wpAny_For (hi s Z N _ E a fun x h tk Z₁ le₁ hx a₁ => hit G Λ x { s with heap := h, toks := tk } Z₁ N _ E hx a₁ fun I fp Pi St h₂ tk₂ k st₂ hk hI =>
    for_core (s := { s with heap := h₂, toks := tk₂ }) k J (a₁.keeps hk) (a₁.newL hI) (a₁.newZ hI) (a₁.newN hI) st₂ h0 turn fin fun f G' Λ' fl h' tk' Z' q le => t f G' Λ' fl h' tk' Z' q (le₁.trans le)) hf

/-! iterables -/
theorem isListAt {h : Heap} {d : Addr} {o : Obj} {xs : List Value} (e : h.get? d = some o) (l : LisO o xs) : h.IsList d xs.toArray := ⟨o, e, l.1, l.2⟩
theorem isTupAt {h : Heap} {d : Addr} {o : Obj} {xs : List Value} (e : h.get? d = some o) (l : TupO o xs) : h.IsTuple d xs.toArray := ⟨o, e, l.1, l.2⟩
theorem itb_lst (hd : A.handled = none) : Itb F A (.lst vs) vs := fun G Λ x s Z N Q E hx a t => by
  obtain ⟨d, xs, o, rfl, z, l, k⟩ := isLst hx
  have ho := a.frz _ _ z
  have hL := isListAt ho l
  have hne : d ≠ s.heap.objs.size := Nat.ne_of_lt (Heap.lt_size ho)
  refine wpAny_pyIter_list hL (t s.heap.objs.size [s.heap.objs.size, d] (fun i y => xs[i]? = some y) (fun i h => h.IsListIter s.heap.objs.size d i ∧ h.IsList d xs.toArray) _ s.toks ?_ ⟨⟨_, Heap.get?_push_size _ rfl, rfl, rfl⟩, hL.push _⟩ (fun b x e => Heap.get?_push_of_some _ e) (get?_size _))
  have W := Walks.list (prog := F.S.prog) (w := F.S.w) (A := A) hd s.heap.objs.size d hne xs.toArray
  refine ⟨by simpa [k.length] using W, fun b hb hn => ?_, fun i y e => k.get' e, fun i h st => ?_, fun target v i s Q E st q => ?_⟩
  · simp only [List.mem_cons, List.not_mem_nil, or_false] at hb
    rcases hb with rfl | rfl
    · exact absurd rfl hn
    · exact .inl ⟨o, z⟩
  · obtain ⟨⟨o, e, _⟩, _⟩ := st; exact ⟨o, e⟩
  · exact letGo_listiter st.1 q
theorem itb_tup (hd : A.handled = none) : Itb F A (.tup vs) vs := fun G Λ x s Z N Q E hx a t => by
  obtain ⟨d, xs, o, rfl, z, l, k⟩ := isTup hx
  have ho := a.frz _ _ z
  have hL := isTupAt ho l
  have hne : d ≠ s.heap.objs.size := Nat.ne_of_lt (Heap.lt_size ho)
  refine wpAny_pyIter_tuple hL (t s.heap.objs.size [s.heap.objs.size, d] (fun i y => xs[i]? = some y) (fun i h => h.IsTupleIter s.heap.objs.size d i ∧ h.IsTuple d xs.toArray) _ s.toks ?_ ⟨⟨_, Heap.get?_push_size _ rfl, rfl, rfl⟩, isTupAt (Heap.get?_push_of_some _ ho) l⟩ (fun b x e => Heap.get?_push_of_some _ e) (get?_size _))
  have W := Walks.tuple (prog := F.S.prog) (w := F.S.w) (A := A) hd s.heap.objs.size d hne xs.toArray
  refine ⟨by simpa [k.length] using W, fun b hb hn => ?_, fun i y e => k.get' e, fun i h st => ?_, fun target v i s Q E st q => ?_⟩
  · simp only [List.mem_cons, List.not_mem_nil, or_false] at hb
    rcases hb with rfl | rfl
    · exact absurd rfl hn
    · exact .inl ⟨o, z⟩
  · obtain ⟨⟨o, e, _⟩, _⟩ := st; exact ⟨o, e⟩
  · exact letGo_tupleiter st.1 q
def rangeL (a c : Int) (n : Nat) : List V := (List.range n).map fun (i : Nat) => V.int (a + i * c)
theorem rangeL_len (a c : Int) (n : Nat) : (rangeL a c n).length = n := by simp [rangeL]
theorem rangeL_get {a c : Int} {n i : Nat} (h : i < n) : (rangeL a c n)[i]? = some (.int (a + i * c)) := by simp [rangeL, h]
theorem letGo_rangeiter {prog : Program} {w : World} {target : Expr} {I : Addr} {x left step : Int} {v : Value} {s : Shared} {Q : Unit → Shared → Prop} {E : Value → Shared → Prop} (hit : IsRangeIter s.heap I x left step) (q : Q () s) :
    wpAny (model prog w) A (letOwnedTupleGo target (.ref I) v) Q E s := by
  unfold letOwnedTupleGo
  split
  all_goals first
    | exact wpAny_pure q
    | (split
       · rename_i q1; injection q1 with q1 q2; cases q1; subst q2
         exact wpAny_bind (wpAny_load hit (wpAny_pure q))
       · exact wpAny_pure q)
theorem itb_rng {p q st : Int} {m : Nat} (hd : A.handled = none) (hs : Builtin.Range.small p q st = true) (hm : Builtin.Range.rangeSize p q st = m) : Itb F A (.rng p q st) (rangeL p st m) := fun G Λ x s Z N Q E hx a t => by
  simp only [V.is] at hx
  obtain ⟨r, o, rfl, z, t1, t2, t3, hr⟩ := hx
  have ho := a.frz _ _ z
  refine wpAny_pyIter_range (hr _ ho) hs (t s.heap.objs.size [s.heap.objs.size] (fun i y => i < m ∧ ∃ t, y = .int (p + i * st) t) (fun i h => IsRangeIter h s.heap.objs.size (p + (i : Nat) * st) ((m : Int) - (i : Nat)) st) _ s.toks ?_ ?_ (fun b x e => Heap.get?_push_of_some _ e) (get?_size _))
  · have W := (Walks.range (prog := F.S.prog) (w := F.S.w) (A := A) hd s.heap.objs.size p st m).bound
    refine ⟨by simpa [rangeL_len] using W, fun b hb hn => ?_, fun i y e => ?_, fun i h st => ⟨_, st⟩, fun target v i s Q E st q => letGo_rangeiter st q⟩
    · simp only [List.mem_cons, List.not_mem_nil, or_false] at hb
      exact absurd hb hn
    · obtain ⟨hlt, t, rfl⟩ := e
      exact ⟨_, rangeL_get hlt, mkIsInt⟩
  · show (s.heap.push _).get? _ = _
    rw [Heap.get?_push_size _ rfl, hm]
    simp
/-- the signs of a text -/
def signs (xs : List Nat) : List V := xs.map fun c => V.str [c]
theorem itb_str (hd : A.handled = none) : Itb F A (.str xs) (signs xs) := fun G Λ x s Z N Q E hx a t => by
  obtain ⟨tk, rfl⟩ := isStr hx
  have go : ∀ (T : String) (o : Obj), (∀ A' : Around, A'.handled = none → Walks F.S.prog F.S.w A' s.heap.objs.size [s.heap.objs.size] [s.heap.objs.size] (Str.cps ⟨xs.toArray⟩).size (SignAt ⟨xs.toArray⟩) (fun i h => h.IsStrIter s.heap.objs.size T ⟨xs.toArray⟩ tk i)) →
      (s.heap.push o).IsStrIter s.heap.objs.size T ⟨xs.toArray⟩ tk 0 → (T = "str_ascii_iterator" ∨ T = "str_iterator") → Q (.ref s.heap.objs.size) { s with heap := s.heap.push o } := fun T o W h0 hT => by
    refine t s.heap.objs.size [s.heap.objs.size] _ _ _ s.toks ⟨by simpa [signs] using W A hd, fun b hb hn => ?_, fun i y e => ?_, fun i h st => ?_, fun target v i s Q E st q => ?_⟩ h0 (fun b x e => Heap.get?_push_of_some _ e) (get?_size _)
    · simp only [List.mem_cons, List.not_mem_nil, or_false] at hb
      exact absurd hb hn
    · obtain ⟨c, t', hc, rfl⟩ := e
      have hc' : xs[i]? = some c := by simpa using hc
      refine ⟨.str [c], by simp [signs, hc'], ?_⟩
      exact mkIsStr
    · obtain ⟨o, e, _⟩ := st; exact ⟨o, e⟩
    · obtain ⟨o, e, hc, hd⟩ := st
      unfold letOwnedTupleGo
      split
      all_goals first
        | exact wpAny_pure q
        | (split
           · rename_i q1; injection q1 with q1 q2; cases q1; subst q2
             refine wpAny_bind (wpAny_load e ?_)
             rw [hc, hd]
             rcases hT with rfl | rfl <;> exact wpAny_pure q
           · exact wpAny_pure q)
  by_cases ha : (Str.cps ⟨xs.toArray⟩).all (· < 128) = true
  · exact wpAny_pyIter_ascii ha (go "str_ascii_iterator" _ (fun A' hA => Walks.strAscii hA _ _ _) ⟨_, Heap.get?_push_size _ rfl, rfl, rfl⟩ (.inl rfl))
  · exact wpAny_pyIter_wide (by simpa using ha) (go "str_iterator" _ (fun A' hA => Walks.strWide hA _ _ _) ⟨_, Heap.get?_push_size _ rfl, rfl, rfl⟩ (.inr rfl))
end
end Mine
end

/-! TL4 -/
section
open PySem PySem.W PyProof.Rows PySem.Calls
set_option maxRecDepth 100000
set_option autoImplicit false
set_option linter.unusedVariables false
namespace Mine

/-! the library's frames and ledgers, from ours -/
def noHeap : Heap := { objs := #[] }
theorem noHeap_get (b : Addr) : noHeap.get? b = none := by
  cases e : noHeap.get? b with
  | none => rfl
  | some o => have := Heap.lt_size e; exact absurd this (Nat.not_lt_zero _)
/-- every object but the locals' -/
def allBut (h : Heap) (L : Addr) : List (Addr × Obj) := (List.range h.objs.size).filterMap fun a => if a = L then none else (h.get? a).map fun o => (a, o)
theorem mem_allBut {h : Heap} {L b : Addr} {o : Obj} : (b, o) ∈ allBut h L ↔ b ≠ L ∧ h.get? b = some o := by
  simp only [allBut, List.mem_filterMap, List.mem_range]
  constructor
  · rintro ⟨a, _, e⟩
    split at e
    · cases e
    · rename_i hne
      cases q : h.get? a with
      | none => rw [q] at e; cases e
      | some x => rw [q] at e; cases e; exact ⟨hne, q⟩
  · rintro ⟨hne, e⟩
    exact ⟨b, Heap.lt_size e, by rw [if_neg hne, e]; rfl⟩
section
variable {F : Fm} {A : Around} {Z Z' N N' : Frz} {G G' : List (Option V)} {Λ Λ' X : Led} {h h' : Heap} {n : Nat}
theorem At.fr (a : At F Z N G Λ h) : ∃ m, Fr noHeap F.L h m ∧ Vars Z F.ns G m := by
  obtain ⟨m, hn, hv⟩ := a.ns
  exact ⟨m, ⟨hn, fun b o e => (by rw [noHeap_get] at e; cases e), Nat.zero_le _⟩, hv⟩
theorem At.news (a : At F Z N G Λ h) : News noHeap F.L h (allBut h F.L) := fun p hp => by
  obtain ⟨h1, h2⟩ := mem_allBut.mp hp
  exact ⟨h2, h1, noHeap_get _⟩
theorem keepBut {L : Addr} {news : List (Addr × Obj)} (k : News noHeap L h' (news ++ allBut h L)) : ∀ b o, b ≠ L → h.get? b = some o → h'.get? b = some o := fun b o hb e =>
  (k (b, o) (List.mem_append.mpr (.inr (mem_allBut.mpr ⟨hb, e⟩)))).1
/-- the way back: the locals as they were, all else kept -/
theorem At.back (a : At F Z N G Λ h) {m : Str → Option Value} (hv : Vars Z F.ns G m) (fr : Fr noHeap F.L h' m) (hk : ∀ b o, b ≠ F.L → h.get? b = some o → h'.get? b = some o) : At F Z N G Λ h' where
  ns := ⟨m, fr.ns, hv⟩
  fix := a.fix
  pin := fun b o e => hk b o (fun q => by rw [q, a.offN _ (.head _)] at e; cases e) (a.pin b o e)
  frz := fun b o e => hk b o (fun q => by rw [q, a.offZ _ (.head _)] at e; cases e) (a.frz b o e)
  led := fun p hp => let ⟨o, e, k⟩ := a.led p hp; ⟨o, hk _ o (fun q => (List.nodup_cons.mp a.nodup).1 (q ▸ List.mem_map.mpr ⟨p, hp, rfl⟩)) e, k⟩
  nodup := a.nodup
  offN := a.offN
  offZ := a.offZ
  dis := a.dis
  old := a.old
/-- a new object behind such a step -/
theorem At.addBut (a : At F Z N G Λ h) (a' : At F Z N G Λ h') {d : Addr} {o : Obj} {q : LO} (hd : h.get? d = none) (ho : h'.get? d = some o) (hq : q.is Z o) : At F Z N G ((d, q) :: Λ) h' := by
  have hn := a.newL hd
  refine ⟨a'.ns, a'.fix, a'.pin, a'.frz, fun p hp => ?_, ?_, fun b hb => ?_, fun b hb => ?_, a'.dis, a'.old⟩
  · rcases List.mem_cons.mp hp with rfl | hp
    · exact ⟨o, ho, hq⟩
    · exact a'.led p hp
  · simp only [List.map_cons, List.mem_cons, not_or] at hn ⊢
    have hnd := List.nodup_cons.mp a.nodup
    refine List.nodup_cons.mpr ⟨?_, List.nodup_cons.mpr ⟨hn.2, hnd.2⟩⟩
    simp only [List.mem_cons, not_or]
    exact ⟨fun e => hn.1 e.symm, hnd.1⟩
  · simp only [List.map_cons, List.mem_cons] at hb
    rcases hb with rfl | rfl | hb
    · exact a.offN _ (.head _)
    · exact a.newN hd
    · exact a.offN _ (.tail _ hb)
  · simp only [List.map_cons, List.mem_cons] at hb
    rcases hb with rfl | rfl | hb
    · exact a.offZ _ (.head _)
    · exact a.newZ hd
    · exact a.offZ _ (.tail _ hb)
end

section
variable {F : Fm} {A : Around} {G G' G₁ : List (Option V)} {Λ Λ' Λ₁ X : Led} {e l r : Expr} {v u a b c : V} {P P' : V → Led → Prop} {PS : List V → Led → Prop} {R R' : Post} {n : Nat} {rest ss body orelse : List Stmt} {st : Stmt} {pos px py pt : Pos} {x : Str} {ns : List Str} {gl : List (Str × Value)} {i j : Int} {xs ys : List Nat} {es : List Expr} {vs us items : List V} {y : Value} {id : String} {op : Operator} {K : List (Option V) → Led → Prop}

/-! targets -/
theorem tgt_loc (g : Good F A n) (lc : Loc F ns gl) (hs : VarSet ns G x v G') (k : K G' Λ) : Tgt F A G Λ (.Name x pos) v K := fun y s Z N Q E hy a t =>
  PyProof.Rows.assign_Name (store_loc g lc hs hy a fun h tk a' => t G' Λ h tk Z k (.refl _) a')
/-- a cell of the frame's own -/
def CellOf (F : Fm) (x : Str) (c : Addr) : Prop := F.env.cells.lookup x = some c ∧ F.env.kindOf x = some .cell ∧ (x == ("__debug__" : Str)) = false
theorem pu_cell (g : Good F A n) {c : Addr} (hc : CellOf F x c) (hm : (c, LO.cell (some v)) ∈ Λ) : Pu F A G Λ (.Name x pos) v := fun s Z N Q E a t => by
  obtain ⟨o, ho, y, hy, hv⟩ := a.get hm
  cases y with
  | none => exact hv.elim
  | some y => exact wpAny_Name (wpAny_loadName_cell g.fk hc.2.1 hc.1 ⟨o, ho, hy⟩ (t y s.heap s.toks Z (.refl _) hv a)) hc.2.2
theorem store_cell (g : Good F A n) {c : Addr} {v₀ : Option V} (hc : CellOf F x c) (U : Up c (.cell v₀) (.cell (some v)) Λ Λ') {y : Value} {s : Shared} {Z N : Frz} (hv : v.is Z y) {Q : Unit → Shared → Prop} {E : Value → Shared → Prop} (a : At F Z N G Λ s.heap)
    (t : ∀ h tk, At F Z N G Λ' h → Q () { s with heap := h, toks := tk }) : wpAny F.M A (storeName F.env x y) Q E s := by
  obtain ⟨o, ho, z, hz, _⟩ := a.get U.mem
  refine wpAny_storeName_cell g.fk hc.2.1 hc.1 ⟨o, ho, hz⟩ fun h' hv' hs => ?_
  obtain ⟨o', ho', hd'⟩ := hv'
  exact t h' s.toks (a.set U hs ho' ⟨some y, hd', hv⟩)
theorem tgt_cell (g : Good F A n) {c : Addr} {v₀ : Option V} (hc : CellOf F x c) (U : Up c (.cell v₀) (.cell (some v)) Λ Λ') (k : K G Λ') : Tgt F A G Λ (.Name x pos) v K := fun y s Z N Q E hy a t =>
  PyProof.Rows.assign_Name (store_cell g hc U hy a fun h tk a' => t G Λ' h tk Z k (.refl _) a')
theorem tgtL_run : ∀ {es : List Expr} {vs : List V} {G : List (Option V)} {Λ : Led} {s : Shared} {Z N : Frz} {ys : List Value} {Q : Unit → Shared → Prop} {E : Value → Shared → Prop}, TgtL F A es vs G Λ K → AllIs Z vs ys → At F Z N G Λ s.heap →
    (∀ G₁ Λ₁ h tk Z', K G₁ Λ₁ → Z.le Z' → At F Z' N G₁ Λ₁ h → Q () { s with heap := h, toks := tk }) → wpAny F.M A (assignInOrder ((assignEach es F.env).map (·.2)) ys) Q E s
  | [], [], G, Λ, s, Z, N, ys, Q, E, h, k, a, t => by rw [k.inv0]; exact wpAny_assignInOrder_none (t G Λ s.heap s.toks Z h (.refl _) a)
  | e :: es, v :: vs, G, Λ, s, Z, N, ys, Q, E, ⟨h, he⟩, k, a, t => by
    obtain ⟨y, ys', rfl, hy, hys⟩ := k.inv
    rw [he]
    exact wpAny_assignInOrder_more (h y s Z N _ E hy a fun G₁ Λ₁ h' tk' Z' q le a' => tgtL_run (s := { s with heap := h', toks := tk' }) q (hys.mono le) a' fun G₂ Λ₂ h2 tk2 Z2 k2 le2 => t G₂ Λ₂ h2 tk2 Z2 k2 (le.trans le2))
  | [], _ :: _, _, _, _, _, _, _, _, _, h, _, _, _ => h.elim
  | _ :: _, [], _, _, _, _, _, _, _, _, h, _, _, _ => h.elim
theorem isTupRAt {h : Heap} {d : Addr} {o : Obj} {xs : List Value} (e : h.get? d = some o) (l : TupO o xs) : IsTup h d xs.toArray := ⟨o, e, l.1, l.2⟩
theorem tgt_tup {k : Nat} (hd : A.handled = none) (h : TgtL F A es vs G Λ K) (hn : (assignEach es F.env).length = vs.length) (hstar : (assignEach es F.env).findIdx? (·.1) = none) : Tgt F A G Λ (.Tuple es k pos) (.tup vs) K := fun y s Z N Q E hy a t => by
  obtain ⟨d, xs, o, rfl, z, l, q⟩ := isTup hy
  have ho := a.frz _ _ z
  refine assign_Tuple_tuple hd (isTupRAt ho l) (by simpa [q.length] using hn) hstar fun h' he => ?_
  have a' : At F Z N G Λ h' := a.keeps fun b o e => he b o (Nat.ne_of_lt (Heap.lt_size e)) e
  exact tgtL_run (s := { s with heap := h' }) h (by simpa using q) a' t

/-! stores -/
theorem s_asnC (g : Good F A n) {c : Addr} {v₀ : Option V} (hc : CellOf F x c) (h : Pu F A G Λ e v) (U : Up c (.cell v₀) (.cell (some v)) Λ Λ') (k : Ex F A G Λ' rest R) (hs : swapsWith e (some (.Name x px)) pos.line F.env = pure false := by rfl) : Ex F A G Λ (.Assign [.Name x px] e pos :: rest) R :=
  ex_cons fun s Z N Q E a t => wpAny_Assign_Name (h s Z N _ E a fun y h₁ tk₁ Z₁ le₁ hy ha => store_cell g hc U hy ha fun h' tk' a' => t .next _ _ .next h' tk' Z₁ k le₁ rfl a') hs
theorem s_asnCE (g : Good F A n) {c : Addr} (hc : CellOf F x c) (h : Ev F A G Λ e (fun v Λ₁ => ∃ v₀ Λ', Up c (.cell v₀) (.cell (some v)) Λ₁ Λ' ∧ Ex F A G Λ' rest R)) (hs : swapsWith e (some (.Name x px)) pos.line F.env = pure false := by rfl) : Ex F A G Λ (.Assign [.Name x px] e pos :: rest) R :=
  ex_cons fun s Z N Q E a t => wpAny_Assign_Name (h s Z N _ E a fun v Λ₁ ⟨_, _, U, k⟩ y h₁ tk₁ Z₁ le₁ hy ha => store_cell g hc U hy ha fun h' tk' a' => t .next _ _ .next h' tk' Z₁ k le₁ rfl a') hs
theorem s_asn2 {t₁ t₂ : Expr} (h : Pu F A G Λ e v) (k : Tgt F A G Λ t₁ v (fun G₁ Λ₁ => Tgt F A G₁ Λ₁ t₂ v (fun G₂ Λ₂ => Ex F A G₂ Λ₂ rest R)))
    (he : (assignEach [t₁, t₂] F.env).map (·.2) = [assign t₁ F.env, assign t₂ F.env] := by rfl) (hw : swappedStores [t₁, t₂] e F.env = pure none := by rfl) : Ex F A G Λ (.Assign [t₁, t₂] e pos :: rest) R :=
  ex_cons fun s Z N Q E a t => wpAny_Assign_two (h s Z N _ E a fun y h₁ tk₁ Z₁ le₁ hy a₁ => k y { s with heap := h₁, toks := tk₁ } Z₁ N _ E hy a₁ fun G₂ Λ₂ h₂ tk₂ Z₂ k₂ le₂ a₂ =>
    k₂ y { s with heap := h₂, toks := tk₂ } Z₂ N _ E (hy.mono le₂) a₂ fun G₃ Λ₃ h₃ tk₃ Z₃ k₃ le₃ a₃ => t .next G₃ Λ₃ .next h₃ tk₃ Z₃ k₃ ((le₁.trans le₂).trans le₃) rfl a₃) he hw
theorem s_asn3 {t₁ t₂ t₃ : Expr} (h : Pu F A G Λ e v) (k : Tgt F A G Λ t₁ v (fun G₁ Λ₁ => Tgt F A G₁ Λ₁ t₂ v (fun G₂ Λ₂ => Tgt F A G₂ Λ₂ t₃ v (fun G₃ Λ₃ => Ex F A G₃ Λ₃ rest R))))
    (he : (assignEach [t₁, t₂, t₃] F.env).map (·.2) = [assign t₁ F.env, assign t₂ F.env, assign t₃ F.env] := by rfl) (hw : swappedStores [t₁, t₂, t₃] e F.env = pure none := by rfl) : Ex F A G Λ (.Assign [t₁, t₂, t₃] e pos :: rest) R :=
  ex_cons fun s Z N Q E a t => wpAny_Assign_three (h s Z N _ E a fun y h₁ tk₁ Z₁ le₁ hy a₁ => k y { s with heap := h₁, toks := tk₁ } Z₁ N _ E hy a₁ fun G₂ Λ₂ h₂ tk₂ Z₂ k₂ le₂ a₂ =>
    k₂ y { s with heap := h₂, toks := tk₂ } Z₂ N _ E (hy.mono le₂) a₂ fun G₃ Λ₃ h₃ tk₃ Z₃ k₃ le₃ a₃ =>
    k₃ y { s with heap := h₃, toks := tk₃ } Z₃ N _ E (hy.mono (le₂.trans le₃)) a₃ fun G₄ Λ₄ h₄ tk₄ Z₄ k₄ le₄ a₄ => t .next G₄ Λ₄ .next h₄ tk₄ Z₄ k₄ (((le₁.trans le₂).trans le₃).trans le₄) rfl a₄) he hw
/-- «a, b = e», e a frozen pair -/
theorem s_asnT {k : Nat} (h : Pu F A G Λ e v) (hk : Tgt F A G Λ (.Tuple es k px) v (fun G₁ Λ₁ => Ex F A G₁ Λ₁ rest R))
    (hs : swapsWithSole [.Tuple es k px] e pos.line F.env = pure false := by rfl) (hw : swappedStores [.Tuple es k px] e F.env = pure none := by rfl) : Ex F A G Λ (.Assign [.Tuple es k px] e pos :: rest) R :=
  ex_cons fun s Z N Q E a t => PyProof.Rows.Assign_Tuple (h s Z N _ E a fun y h₁ tk₁ Z₁ le₁ hy a₁ => hk y { s with heap := h₁, toks := tk₁ } Z₁ N _ E hy a₁ fun G₂ Λ₂ h₂ tk₂ Z₂ k₂ le₂ a₂ => t .next G₂ Λ₂ .next h₂ tk₂ Z₂ k₂ (le₁.trans le₂) rfl a₂) hs hw
/-- «a, b = (e₁, e₂)», both locals -/
theorem s_asnSw {k : Nat} {x₁ x₂ : Str} {v₁ v₂ : V} (g : Good F A n) (lc : Loc F ns gl) (h : Pu F A G Λ e (.tup [v₁, v₂])) (h2 : VarSet ns G x₂ v₂ G₁) (h1 : VarSet ns G₁ x₁ v₁ G') (hk : Ex F A G' Λ rest R)
    (hs : swapsWithSole [.Tuple es k px] e pos.line F.env = pure false := by rfl) (hw : swappedStores [.Tuple es k px] e F.env = pure (some [x₁, x₂]) := by rfl) : Ex F A G Λ (.Assign [.Tuple es k px] e pos :: rest) R :=
  ex_cons fun s Z N Q E a t => PyProof.Rows.Assign_Tuple_swapped (names := [x₁, x₂]) (h s Z N _ E a fun y h₁ tk₁ Z₁ le₁ hy a₁ => by
    obtain ⟨d, xs, o, rfl, z, l, q⟩ := isTup hy
    obtain ⟨y₁, xs₁, rfl, hy1, q⟩ := q.inv
    obtain ⟨y₂, xs₂, rfl, hy2, q⟩ := q.inv
    rw [q.inv0] at l
    have ho := a₁.frz _ _ z
    refine PyProof.Rows.unpackItems_tuple (items := #[y₁, y₂]) g.hd (isTupRAt ho l) fun h' he => ?_
    have a₂ : At F Z₁ N G Λ h' := a₁.keeps fun b o e => he b o (Nat.ne_of_lt (Heap.lt_size e)) e
    show wpAny F.M A (assignInOrder [bindName F.env x₂, bindName F.env x₁] [y₂, y₁]) _ _ _
    refine wpAny_assignInOrder_more (wpAny_bindName (store_loc (s := { s with heap := h', toks := tk₁ }) g lc h2 hy2 a₂ fun h₃ tk₃ a₃ => ?_))
    refine wpAny_assignInOrder_more (wpAny_bindName (store_loc (s := { s with heap := h₃, toks := tk₃ }) g lc h1 hy1 a₃ fun h₄ tk₄ a₄ => ?_))
    exact wpAny_assignInOrder_none (t .next G' Λ .next h₄ tk₄ Z₁ hk le₁ rfl a₄)) hs hw

/-! a step in place -/
def Inp (F : Fm) (A : Around) (G : List (Option V)) (Λ : Led) (op : Operator) (a b c : V) : Prop :=
  ∀ x y (s : Shared) (Z N : Frz) (Q E : Value → Shared → Prop), a.is Z x → b.is Z y → At F Z N G Λ s.heap → Then F N G Λ s Z c Q → wpAny F.M A (inplaceOp op x y) Q E s
theorem inp_add : Inp F A G Λ .Add (.int i) (.int j) (.int (i + j)) := by
  intro x y s Z N Q E hx hy a k
  obtain ⟨t, rfl⟩ := isInt hx; obtain ⟨u, rfl⟩ := isInt hy
  exact PyProof.Rows.iadd_int (k _ _ _ Z (.refl _) mkIsInt a)
theorem inp_sub : Inp F A G Λ .Sub (.int i) (.int j) (.int (i - j)) := by
  intro x y s Z N Q E hx hy a k
  obtain ⟨t, rfl⟩ := isInt hx; obtain ⟨u, rfl⟩ := isInt hy
  exact PyProof.Rows.isub_int (k _ _ _ Z (.refl _) mkIsInt a)
theorem inp_cat (hs : xs.length + ys.length ≤ sizeLine) : Inp F A G Λ .Add (.str xs) (.str ys) (.str (xs ++ ys)) := by
  intro x y s Z N Q E hx hy a k
  obtain ⟨t, rfl⟩ := isStr hx; obtain ⟨u, rfl⟩ := isStr hy
  refine PyProof.Rows.iadd_str (fun t' tk => ?_) (by rw [toStr, toStr]; exact hs)
  refine k _ s.heap tk Z (.refl _) ?_ a
  simp only [V.is]
  refine ⟨t', ?_⟩
  congr 1
  show (⟨xs.toArray ++ ys.toArray⟩ : Str) = _
  simp
theorem s_aug (g : Good F A n) (lc : Loc F ns gl) (h0 : VarAt ns G x a) (h : Pu F A G Λ e b) (ho : Inp F A G Λ op a b c) (hs : VarSet ns G x c G') (k : Ex F A G' Λ rest R) : Ex F A G Λ (.AugAssign (.Name x px) op e pos :: rest) R :=
  ex_cons fun s Z N Q E at0 t => wpAny_AugAssign_Name (by
    obtain ⟨i, hi, hv⟩ := h0.get
    have hm : x ∈ ns := List.mem_of_getElem? hi
    obtain ⟨m, hn, hq⟩ := at0.ns
    obtain ⟨y, e, ky⟩ := hq i x a (lc.names ▸ hi) hv
    exact wpAny_loadName_local g.fk (lc.kind x hm) hn e (h s Z N _ E at0 fun y' h₁ tk₁ Z₁ le₁ hy' a₁ => ho y y' { s with heap := h₁, toks := tk₁ } Z₁ N _ E (ky.mono le₁) hy' a₁ fun z h₂ tk₂ Z₂ le₂ hz a₂ =>
      store_loc (s := { s with heap := h₂, toks := tk₂ }) g lc hs hz a₂ fun h₃ tk₃ a₃ => t .next G' Λ .next h₃ tk₃ Z₂ k (le₁.trans le₂) rfl a₃))
theorem s_augC (g : Good F A n) {c' : Addr} (hc : CellOf F x c') (hm : (c', LO.cell (some a)) ∈ Λ) (h : Pu F A G Λ e b) (ho : Inp F A G Λ op a b c) {v₀ : Option V} (U : Up c' (.cell v₀) (.cell (some c)) Λ Λ') (k : Ex F A G Λ' rest R) : Ex F A G Λ (.AugAssign (.Name x px) op e pos :: rest) R :=
  ex_cons fun s Z N Q E at0 t => wpAny_AugAssign_Name (by
    obtain ⟨o, ho', y, hy, hv⟩ := at0.get hm
    cases y with
    | none => exact hv.elim
    | some y =>
      exact wpAny_loadName_cell g.fk hc.2.1 hc.1 ⟨o, ho', hy⟩ (h s Z N _ E at0 fun y' h₁ tk₁ Z₁ le₁ hy' a₁ => ho y y' { s with heap := h₁, toks := tk₁ } Z₁ N _ E (V.is.mono le₁ hv) hy' a₁ fun z h₂ tk₂ Z₂ le₂ hz a₂ =>
        store_cell (s := { s with heap := h₂, toks := tk₂ }) g hc U hz a₂ fun h₃ tk₃ a₃ => t .next G Λ' .next h₃ tk₃ Z₂ k (le₁.trans le₂) rfl a₃))

/-! subscripts -/
/-- an item: a step on values -/
def Itm (F : Fm) (A : Around) (G : List (Option V)) (Λ : Led) (a b c : V) : Prop :=
  ∀ (vl sl : Expr) x y (s : Shared) (Z N : Frz) (Q E : Value → Shared → Prop), (∀ o i, subscripted sl false o i = operate [o, i] (getItem o i)) → a.is Z x → b.is Z y → At F Z N G Λ s.heap → Then F N G Λ s Z c Q → wpAny F.M A (subscriptTail vl sl x y) Q E s
theorem pu_item (hl : Pu F A G Λ l a) (hr : Pu F A G Λ r b) (ho : Itm F A G Λ a b c) (hs : ∀ o i, subscripted r false o i = operate [o, i] (getItem o i) := by intros; rfl) : Pu F A G Λ (.Subscript l r pos) c := fun s Z N Q E at0 t =>
  PyProof.Rows.Subscript_ (hl s Z N _ E at0 fun x h1 tk Z1 le1 hx ha => hr { s with heap := h1, toks := tk } Z1 N _ E ha fun y h2 tk' Z2 le2 hy ha' => ho l r x y { s with heap := h2, toks := tk' } Z2 N Q E hs (hx.mono le2) hy ha' fun x' h' tk' Z' le' => t x' h' tk' Z' ((le1.trans le2).trans le'))
theorem itm_str {k ch : Nat} (hi : seqIndex? i xs.length = some k) (hx : xs[k]? = some ch) (hlo : -2 ^ 63 ≤ i) (hhi : i < 2 ^ 63) : Itm F A G Λ (.str xs) (.int i) (.str [ch]) := by
  intro vl sl x y s Z N Q E hs hx' hy a k'
  obtain ⟨t, rfl⟩ := isStr hx'; obtain ⟨u, rfl⟩ := isInt hy
  refine tail_any (typeIs_str s _ t) PySem.F.slot_str_getitem.lookup (PyProof.Rows.getItem_str (c := ch) ?_ ?_ ?_) (hs _ _)
  · simp only [Bool.or_eq_false_iff, decide_eq_false_iff_not]; exact ⟨by omega, by omega⟩
  · rw [toStr, hi]; simpa using hx
  · exact k' _ _ _ Z (.refl _) (by simp only [V.is]; exact ⟨_, rfl⟩) a
/-- a list, frozen or in the ledger -/
def Has (Λ : Led) (v : V) (vs : List V) : Prop := v = .lst vs ∨ ∃ a, v = .val (.ref a) ∧ (a, LO.lst vs) ∈ Λ
theorem Has.at {Z N : Frz} {h : Heap} {x : Value} (k : Has Λ v vs) (a : At F Z N G Λ h) (hx : v.is Z x) : ∃ d o xs, x = .ref d ∧ h.get? d = some o ∧ LisO o xs ∧ AllIs Z vs xs := by
  rcases k with rfl | ⟨d, rfl, hm⟩
  · obtain ⟨d, xs, o, rfl, z, l, q⟩ := isLst hx
    exact ⟨d, o, xs, rfl, a.frz _ _ z, l, q⟩
  · obtain ⟨o, e, xs, n, l, q⟩ := a.get hm
    exact ⟨d, o, xs, isVal hx, e, l ▸ ⟨rfl, n, rfl⟩, q⟩
theorem seqIndex_some {i : Int} {m k : Nat} (h : seqIndex? i m = some k) : (0 ≤ i ∧ i.toNat = k ∧ k < m) ∨ (i < 0 ∧ -(m : Int) ≤ i ∧ (i + m).toNat = k ∧ k < m) := by
  unfold seqIndex? at h
  simp only [Bool.and_eq_true, decide_eq_true_eq] at h
  by_cases hneg : i < 0
  · rw [if_pos hneg] at h
    split at h
    · rename_i q; injection h with h; exact .inr ⟨hneg, by omega, h, by omega⟩
    · cases h
  · rw [if_neg hneg] at h
    split at h
    · rename_i q; injection h with h; exact .inl ⟨by omega, h, by omega⟩
    · cases h
theorem itm_lst {k : Nat} (hv : Has Λ v vs) (hi : seqIndex? i vs.length = some k) (hx : vs[k]? = some c) (hlo : -2 ^ 63 ≤ i) (hhi : i < 2 ^ 63) : Itm F A G Λ v (.int i) c := by
  intro vl sl x y s Z N Q E hs hx' hy a k'
  obtain ⟨u, rfl⟩ := isInt hy
  obtain ⟨d, o, xs, rfl, ho, l, q⟩ := hv.at a hx'
  obtain ⟨z, hz, hc⟩ := q.get hx
  have hL := isListAt ho l
  refine tail_any hL.typeIs slot_list_getitem.lookup ?_ (hs _ _)
  have fin : Q z s := k' z s.heap s.toks Z (.refl _) hc a
  have hlen := q.length
  rcases seqIndex_some hi with ⟨h1, h2, h3⟩ | ⟨h1, h2, h3, h4⟩
  · exact wpAny_getItem_list hL h1 hhi (by rw [h2]; simpa using hz) fin
  · exact wpAny_getItem_list_neg hL h1 (by simp [hlen]; omega) hlo (by simp only [List.size_toArray, hlen]; rw [h3]; simpa using hz) fin
theorem itm_tup {k : Nat} (hi : seqIndex? i vs.length = some k) (hx : vs[k]? = some c) (hlo : -2 ^ 63 ≤ i) (hhi : i < 2 ^ 63) : Itm F A G Λ (.tup vs) (.int i) c := by
  intro vl sl x y s Z N Q E hs hx' hy a k'
  obtain ⟨u, rfl⟩ := isInt hy
  obtain ⟨d, xs, o, rfl, z, l, q⟩ := isTup hx'
  have ho := a.frz _ _ z
  obtain ⟨z, hz, hc⟩ := q.get hx
  have hT := isTupRAt ho l
  exact tail_any hT.typeIs slot_tuple_getitem.lookup (PyProof.Rows.getItem_tuple hT hlo hhi (by simpa [q.length] using hi) (by simpa using hz) (k' z s.heap s.toks Z (.refl _) hc a)) (hs _ _)

/-! slices of texts -/
def clipI (v : Option Int) (d n : Int) : Int := match v with
  | none => d
  | some i => max 0 (min (if i < 0 then i + n else i) n)
def pySlice (xs : List Nat) (lo hi : Option Int) : List Nat := (xs.drop (clipI lo 0 xs.length).toNat).take (clipI hi xs.length xs.length - clipI lo 0 xs.length).toNat
theorem pick_range {α : Type} (xs : List α) (a m : Nat) (h : a + m ≤ xs.length) : ((List.range m).map fun k => a + k).filterMap (xs[·]?) = (xs.drop a).take m := by
  induction m generalizing a with
  | zero => simp
  | succ m ih =>
    rw [List.range_succ_eq_map]
    simp only [List.map_cons, List.map_map, Nat.add_zero]
    have ha : a < xs.length := by omega
    rw [List.filterMap_cons]
    simp only [List.getElem?_eq_getElem ha]
    rw [List.drop_eq_getElem_cons ha, List.take_succ_cons, ← ih (a + 1) (by omega)]
    congr 2
    refine List.map_congr_left fun k _ => ?_
    simp only [Function.comp]; omega
theorem pick_slice (xs : List Nat) (lo hi : Option Int) : (Builtin.Str.strSliceIndices lo hi 1 xs.length).filterMap (xs[·]?) = pySlice xs lo hi := by
  have h0 : ∀ v : Option Int, 0 ≤ clipI v 0 xs.length ∧ clipI v 0 xs.length ≤ xs.length := fun v => by cases v <;> simp only [clipI] <;> (try split) <;> omega
  have h1 : ∀ v : Option Int, 0 ≤ clipI v xs.length xs.length ∧ clipI v xs.length xs.length ≤ xs.length := fun v => by cases v <;> simp only [clipI] <;> (try split) <;> omega
  have e : Builtin.Str.strSliceIndices lo hi 1 xs.length = sliceRange (clipI lo 0 xs.length) (clipI hi xs.length xs.length) 1 := by
    unfold Builtin.Str.strSliceIndices
    cases lo <;> cases hi <;> rfl
  rw [e]
  unfold sliceRange pySlice
  generalize ha : clipI lo 0 xs.length = a
  generalize hb : clipI hi xs.length xs.length = b
  have A1 := h0 lo; have B1 := h1 hi
  rw [ha] at A1; rw [hb] at B1
  dsimp only
  rw [if_pos (by decide)]
  by_cases hab : a < b
  · rw [if_pos hab]
    have ec : ((b - a + 1 - 1) / 1).toNat = (b - a).toNat := by rw [Int.ediv_one]; congr 1; omega
    rw [ec, ← pick_range xs a.toNat (b - a).toNat (by omega)]
    congr 1
    refine List.map_congr_left fun k _ => ?_
    omega
  · rw [if_neg hab]
    have : (b - a).toNat = 0 := by omega
    rw [this]; simp
/-- a slice's part: left out, None, or an int -/
inductive PartIs : V → Option Int → Prop where
  | none : PartIs .none none
  | int {i : Int} : PartIs (.int i) (some i)
def PuO (F : Fm) (A : Around) (G : List (Option V)) (Λ : Led) : Option Expr → V → Prop
  | some e, v => Pu F A G Λ e v
  | none, v => v = .none
theorem PuO.run {lo : Option Expr} (h : PuO F A G Λ lo v) : ∀ (s : Shared) (Z N : Frz) (Q E : Value → Shared → Prop), At F Z N G Λ s.heap → Then F N G Λ s Z v Q → wpAny F.M A (evalPart lo F.env) Q E s := by
  intro s Z N Q E a t
  cases lo with
  | none => have : v = .none := h; subst this; exact evalPart_none_step (t _ s.heap s.toks Z (.refl _) mkIsNone a)
  | some e => exact evalPart_some_step (h s Z N Q E a t)
theorem partV {Z : Frz} {o : Option Int} {y : Value} (h : PartIs v o) (hy : v.is Z y) : ∃ p : Option (Int × Tok), y = partValue p ∧ p.map (·.1) = o := by
  cases h with
  | none => exact ⟨none, isNone hy, rfl⟩
  | int => obtain ⟨t, rfl⟩ := isInt hy; exact ⟨some (_, t), rfl, rfl⟩
theorem pu_slice {lo hi : Option Expr} {vl vh : V} {pl ph : Option Int} (hl : Pu F A G Λ l (.str xs)) (h1 : PuO F A G Λ lo vl) (h2 : PuO F A G Λ hi vh) (k1 : PartIs vl pl) (k2 : PartIs vh ph) (hsz : xs.length ≤ sizeLine)
    (ht : ∀ o r, letTemporaryGo l o r = pure () := by intro _ _; rfl) : Pu F A G Λ (.Subscript l (.Slice lo hi none px) pos) (.str (pySlice xs pl ph)) := fun s Z N Q E at0 t =>
  wpAny_Subscript_str_slice (hl s Z N _ E at0 fun x h₁ tk₁ Z₁ le₁ hx a₁ => h1.run { s with heap := h₁, toks := tk₁ } Z₁ N _ E a₁ fun y h₂ tk₂ Z₂ le₂ hy a₂ => h2.run { s with heap := h₂, toks := tk₂ } Z₂ N _ E a₂ fun z h₃ tk₃ Z₃ le₃ hz a₃ => by
    obtain ⟨tx, rfl⟩ := isStr hx
    obtain ⟨p, rfl, ep⟩ := partV k1 hy
    obtain ⟨q, rfl, eq⟩ := partV k2 hz
    refine ⟨_, tx, p, q, rfl, rfl, rfl, ?_⟩
    have le := (le₁.trans le₂).trans le₃
    have a₄ : At F Z₃ N G Λ (h₃.push { cls := .type "slice", data := .fields #[partValue p, partValue q, .none] }) := a₃.keeps fun b o e => Heap.get?_push_of_some _ e
    unfold sliceMade slicePicked
    rw [ep, eq, toStr]
    have hpick := pick_slice xs pl ph
    split
    · rename_i hc
      simp only [Option.map_none, Option.getD_none, beq_self_eq_true, Bool.true_and, beq_iff_eq] at hc
      have : pySlice xs pl ph = xs := by
        have e : Builtin.Str.strSliceIndices pl ph 1 xs.length = sliceRange (clipI pl 0 xs.length) (clipI ph xs.length xs.length) 1 := by
          unfold Builtin.Str.strSliceIndices
          cases pl <;> cases ph <;> rfl
        rw [e] at hc
        unfold sliceRange at hc
        have h0 : ∀ v : Option Int, 0 ≤ clipI v 0 xs.length ∧ clipI v 0 xs.length ≤ xs.length := fun v => by cases v <;> simp only [clipI] <;> (try split) <;> omega
        have h1 : ∀ v : Option Int, 0 ≤ clipI v xs.length xs.length ∧ clipI v xs.length xs.length ≤ xs.length := fun v => by cases v <;> simp only [clipI] <;> (try split) <;> omega
        unfold pySlice
        have A1 := h0 pl; have B1 := h1 ph
        generalize clipI pl 0 xs.length = a at *
        generalize clipI ph xs.length xs.length = b at *
        dsimp only at hc
        rw [if_pos (by decide)] at hc
        rw [List.length_map, List.length_range] at hc
        split at hc
        · have e2 : (b - a + 1 - 1) / 1 = b - a := by rw [Int.ediv_one]; omega
          rw [e2] at hc
          have ha : a.toNat = 0 := by omega
          rw [ha, List.drop_zero, List.take_of_length_le (by omega)]
        · have : xs.length = 0 := by simpa using hc.symm
          rw [List.length_eq_zero_iff] at this; subst this; simp
      rw [this] at t
      exact t _ _ tk₃ Z₃ le mkIsStr a₄
    · have : (⟨(((Builtin.Str.strSliceIndices pl ph 1 xs.length).filterMap ((⟨xs.toArray⟩ : Str).cps[·]?))).toArray⟩ : Str) = ⟨(pySlice xs pl ph).toArray⟩ := by
        rw [← hpick]; simp
      show Made.post (.str ⟨_⟩) Q _
      simp only [Option.map_none, Option.getD_none]
      rw [this]
      refine ⟨?_, t _ _ _ Z₃ le mkIsStr a₄⟩
      rw [toStr]
      have : (pySlice xs pl ph).length ≤ xs.length := by unfold pySlice; simp only [List.length_take, List.length_drop]; omega
      omega) ht
end
end Mine
end

/-! TL5 -/
section
open PySem PySem.W PyProof.Rows PySem.Calls
set_option maxRecDepth 100000
set_option autoImplicit false
set_option linter.unusedVariables false
namespace Mine

section
variable {F : Fm} {A : Around} {G G' G₁ : List (Option V)} {Λ Λ' Λ₁ X : Led} {e l r : Expr} {v u a b c : V} {P P' : V → Led → Prop} {PS : List V → Led → Prop} {R R' : Post} {n : Nat} {rest ss body orelse : List Stmt} {st : Stmt} {pos px py pt : Pos} {x : Str} {ns : List Str} {gl : List (Str × Value)} {i j : Int} {xs ys : List Nat} {es : List Expr} {vs us items : List V} {y : Value} {id : String} {op : Operator} {K : List (Option V) → Led → Prop} {S : St}

/-! displays -/
/-- a new list, to be changed -/
theorem ev_list (h : PuL F A G Λ es vs) (hz : vs.length ≤ sizeLine) (k : ∀ d, P (.ref d) ((d, .lst vs) :: Λ)) : Ev F A G Λ (.List es pos) P := fun s Z N Q E a t =>
  wpAny_List (h.evs (PS := fun us Λ' => us = vs ∧ Λ' = Λ) ⟨rfl, rfl⟩ pos s Z N _ E a fun us Λ' xs h' tk Z' ⟨e1, e2⟩ le hxs a' => by
    subst e1 e2
    refine ⟨by rw [hxs.length]; exact hz, t _ _ (k h'.objs.size) _ _ tk Z' le mkIsVal ?_⟩
    exact a'.push ⟨xs, 0, rfl, hxs⟩ rfl)
/-- a new list that stays as it is -/
theorem pu_list (h : PuL F A G Λ es vs) (hz : vs.length ≤ sizeLine) : Pu F A G Λ (.List es pos) (.lst vs) := fun s Z N Q E a t =>
  wpAny_List (h.evs (PS := fun us Λ' => us = vs ∧ Λ' = Λ) ⟨rfl, rfl⟩ pos s Z N _ E a fun us Λ' xs h' tk Z' ⟨e1, e2⟩ le hxs a' => by
    subst e1 e2
    obtain ⟨le2, a2⟩ := a'.pushZ (o := { cls := .type "list", data := .seq xs.toArray }) rfl
    exact ⟨by rw [hxs.length]; exact hz, t _ _ tk _ (le.trans le2) (mkIsLst (Frz.put_self _ _ _) ⟨rfl, 0, rfl⟩ (hxs.mono le2)) a2⟩)
theorem pu_tup {k : Nat} (h : PuL F A G Λ es vs) (hz : vs.length ≤ sizeLine) : Pu F A G Λ (.Tuple es k pos) (.tup vs) := fun s Z N Q E a t =>
  wpAny_Tuple (h.evs (PS := fun us Λ' => us = vs ∧ Λ' = Λ) ⟨rfl, rfl⟩ pos s Z N _ E a fun us Λ' xs h' tk Z' ⟨e1, e2⟩ le hxs a' => by
    subst e1 e2
    obtain ⟨le2, a2⟩ := a'.pushZ (o := { cls := .type "tuple", data := .seq xs.toArray }) rfl
    exact ⟨by rw [hxs.length]; exact hz, t _ _ tk _ (le.trans le2) (mkIsTup (Frz.put_self _ _ _) ⟨rfl, 0, rfl⟩ (hxs.mono le2)) a2⟩)
/-- the ledger's list as a value from here on -/
theorem Pu.freeze {d : Addr} (h : Ev F A G Λ e (fun v Λ' => ∃ d, v = .ref d ∧ Λ' = (d, LO.lst vs) :: Λ)) : Pu F A G Λ e (.lst vs) := fun s Z N Q E a t =>
  h s Z N Q E a fun v Λ' ⟨d, e1, e2⟩ x h' tk Z' le hx a' => by
    subst e1 e2
    have := isVal hx; subst this
    obtain ⟨Z'', le2, k, a''⟩ := a'.freeze1
    exact t _ h' tk Z'' (le.trans le2) k a''
/-- a local's list as a value from here on -/
theorem Ex.freeze {d : Addr} (U : ∀ Z m, (V.lst vs).is Z (.ref d) → Vars Z F.ns G m → Vars Z F.ns G' m) (h : Ex F A G' Λ ss R) : Ex F A G ((d, LO.lst vs) :: Λ) ss R := fun s Z N Q E a t => by
  obtain ⟨Z', le, k, a'⟩ := a.freeze1
  exact h s Z' N Q E (a'.vars fun m => U Z' m k) fun f G' Λ' fl h tk Z'' q le' => t f G' Λ' fl h tk Z'' q (le.trans le')
/-- the places that hold it are told anew -/
inductive Melt (d : Addr) (vs : List V) : List (Option V) → List (Option V) → Prop where
  | nil : Melt d vs [] []
  | keep {o : Option V} {G G' : List (Option V)} : Melt d vs G G' → Melt d vs (o :: G) (o :: G')
  | here {G G' : List (Option V)} : Melt d vs G G' → Melt d vs (some (.val (.ref d)) :: G) (some (.lst vs) :: G')
theorem Melt.vars {d : Addr} {Z : Frz} {m : Str → Option Value} (hm : Melt d vs G G') (k : (V.lst vs).is Z (.ref d)) : ∀ {names : List Str}, Vars Z names G m → Vars Z names G' m := by
  induction hm with
  | nil => exact fun h => h
  | keep _ ih =>
    intro names h i x v hx hv
    cases names with
    | nil => simp at hx
    | cons y names =>
      cases i with
      | zero => exact h 0 x v hx hv
      | succ i => exact ih (names := names) (fun i x v hx hv => h (i + 1) x v hx hv) i x v hx hv
  | here _ ih =>
    intro names h i x v hx hv
    cases names with
    | nil => simp at hx
    | cons y names =>
      cases i with
      | zero =>
        simp at hv; subst hv
        obtain ⟨z, e, q⟩ := h 0 x _ hx rfl
        have := isVal q; subst this
        exact ⟨_, e, k⟩
      | succ i => exact ih (names := names) (fun i x v hx hv => h (i + 1) x v hx hv) i x v hx hv
theorem ex_melt {d : Addr} (hm : Melt d vs G G') (h : Ex F A G' Λ ss R) : Ex F A G ((d, LO.lst vs) :: Λ) ss R := Ex.freeze (fun Z m k => hm.vars k) h
/-- a cell's list as a value from here on -/
theorem ex_meltC {d c' : Addr} (U : Up c' (.cell (some (.val (.ref d)))) (.cell (some (.lst vs))) Λ Λ') (h : Ex F A G Λ' ss R) : Ex F A G ((d, LO.lst vs) :: Λ) ss R := fun s Z N Q E a t => by
  obtain ⟨Z', le, k, a'⟩ := a.freeze1
  obtain ⟨o, ho, y, hy, hv⟩ := a'.get U.mem
  cases y with
  | none => exact hv.elim
  | some y =>
    have e : y = .ref d := isVal (Z := Z') hv
    subst e
    exact h s Z' N Q E (a'.set U ⟨rfl, fun _ _ => rfl⟩ ho ⟨_, hy, k⟩) fun f G' Λ' fl h tk Z'' q le' => t f G' Λ' fl h tk Z'' q (le.trans le')

/-! lists that change -/
theorem s_setItem {d : Addr} {k : Nat} {pe : Expr} {sl : Expr} (ha : Pu F A G Λ e v) (hb : Pu F A G Λ pe (.ref d)) (hc : Pu F A G Λ sl (.int i)) (U : Up d (.lst vs) (.lst (vs.set k v)) Λ Λ') (h0 : 0 ≤ i) (hk : i.toNat = k) (hlt : k < vs.length) (hfit : i < 2 ^ 63) (hr : Ex F A G Λ' rest R)
    (hs : swapsWith e (some (.Subscript pe sl px)) pos.line F.env = pure false := by rfl) : Ex F A G Λ (.Assign [.Subscript pe sl px] e pos :: rest) R :=
  ex_cons fun s Z N Q E a t => wpAny_Assign_Subscript (ha s Z N _ E a fun y h₁ tk₁ Z₁ le₁ hy a₁ => hb { s with heap := h₁, toks := tk₁ } Z₁ N _ E a₁ fun z h₂ tk₂ Z₂ le₂ hz a₂ => hc { s with heap := h₂, toks := tk₂ } Z₂ N _ E a₂ fun w h₃ tk₃ Z₃ le₃ hw a₃ => by
    have := isVal hz; subst this
    obtain ⟨u, rfl⟩ := isInt hw
    obtain ⟨o, ho, ys, m, rfl, q⟩ := a₃.get U.mem
    refine ki_setAt ho h0 hfit (by simp only [List.size_toArray, q.length]; omega) ?_
    have hset := PySem.IsL.update (h := h₃) (l := d) (items := ys.toArray) (n := m) ho (fun x => x.setIfInBounds i.toNat y)
    refine t .next G Λ' .next _ tk₃ Z₃ hr ((le₁.trans le₂).trans le₃) rfl (a₃.set U (Heap.SameBut.update ..) hset ⟨ys.set k y, (if ((ys.toArray.setIfInBounds i.toNat y).size == ys.toArray.size) = true then m else m + 1), ?_, q.set k (hy.mono (le₂.trans le₃))⟩)
    have : ys.toArray.setIfInBounds i.toNat y = (ys.set k y).toArray := by rw [hk]; simp
    rw [this]) hs
theorem getMethod_lst {h : Heap} {d : Addr} {ys : List Value} {m : Nat} {name : Str} {id : String} {pl : Sem Bool} {M : Model} {s : Shared} {Q : Value × List Value → Shared → Prop} {E : Value → Shared → Prop} (ho : s.heap.get? d = some (W.listOf ys.toArray m)) (slot : Slot "list" name id) (hty : typeOf (.builtin id) = pure (.type "method_descriptor"))
    (q : Q (.builtin id, [.ref d]) s) : wpAny M A (getMethod (.ref d) name pl) Q E s :=
  getMethod_builtin ⟨_, ho, rfl⟩ PySem.F.plainAttrs_list slot hty (fun a e => by cases e; exact ⟨_, ho, rfl⟩) q
/-- the tree of a method's call -/
def MTree (o : Expr) (name : Str) (apos pos : Pos) (args : List Expr) (env : Env) (pl : Sem Bool) : Prop :=
  eval (.Call (.Attribute o name apos) args [] pos) env = (do
      let ov ← eval o env
      standAt apos.atName
      let (f, first) ← holding [ov] (getMethod ov name pl)
      callWith pos f first (backTo pos (starEach args env)) [])
theorem ev_append {d : Addr} {o : Expr} {apos : Pos} {pl : Sem Bool} (ho : Pu F A G Λ o (.ref d)) (he : Pu F A G Λ e v) (U : Up d (.lst vs) (.lst (vs ++ [v])) Λ Λ') (hz : vs.length ≤ sizeLine) (k : P .none Λ')
    (ht : MTree o (Str.ofString "append") apos pos [e] F.env pl) (hst : starEach [e] F.env = (false, eval e F.env) :: starEach [] F.env := by rfl) : Ev F A G Λ (.Call (.Attribute o (Str.ofString "append") apos) [e] [] pos) P := fun s Z N Q E a t =>
  PyProof.Rows.MethodCall_ (pl := pl) (ho s Z N _ E a fun y h₁ tk₁ Z₁ le₁ hy a₁ => by
    have := isVal hy; subst this
    obtain ⟨ob, hob, ys, m, rfl, q⟩ := a₁.get U.mem
    refine getMethod_lst (s := { s with heap := h₁, toks := tk₁ }) (h := h₁) hob PySem.F.slot_list_append PySem.F.type_list_append ?_
    refine callWith_method1 ?_ hst rfl
    refine (PuL.cons he .nil hst).evs (PS := fun us Λ'' => us = [v] ∧ Λ'' = Λ) ⟨rfl, rfl⟩ pos { s with heap := h₁, toks := tk₁ } Z₁ N _ E a₁ fun us Λ'' xs h₂ tk₂ Z₂ ⟨e1, e2⟩ le₂ hxs a₂ => ?_
    subst e1 e2
    obtain ⟨z, zs, rfl, hz', hn⟩ := hxs.inv
    rw [hn.inv0]
    obtain ⟨ob, hob, ys, m, rfl, q⟩ := a₂.get U.mem
    refine append_at (s := { s with heap := h₂, toks := tk₂ }) hob (fun h' hs hd => ?_) (by simp only [List.size_toArray, q.length]; exact hz)
    refine t _ _ k _ h' tk₂ Z₂ (le₁.trans le₂) mkIsNone (a₂.set U hs hd ⟨ys ++ [z], m + 1, ?_, q.append (.one hz')⟩)
    simp [W.listOf]) ht
theorem ev_pop {d : Addr} {o : Expr} {apos : Pos} {pl : Sem Bool} (ho : Pu F A G Λ o (.ref d)) (U : Up d (.lst (vs ++ [v])) (.lst vs) Λ Λ') (hz : vs.length + 1 ≤ sizeLine) (k : P v Λ')
    (ht : MTree o (Str.ofString "pop") apos pos [] F.env pl) : Ev F A G Λ (.Call (.Attribute o (Str.ofString "pop") apos) [] [] pos) P := fun s Z N Q E a t =>
  PyProof.Rows.MethodCall_ (pl := pl) (ho s Z N _ E a fun y h₁ tk₁ Z₁ le₁ hy a₁ => by
    have := isVal hy; subst this
    obtain ⟨ob, hob, ys, m, rfl, q⟩ := a₁.get U.mem
    refine getMethod_lst (s := { s with heap := h₁, toks := tk₁ }) (h := h₁) hob PySem.F.slot_list_pop PySem.F.type_list_pop ?_
    refine callWith_method0 ?_
    have hlen : ys.length = vs.length + 1 := by rw [q.length]; simp
    obtain ⟨ys', z, rfl⟩ : ∃ ys' z, ys = ys' ++ [z] := ⟨ys.dropLast, ys.getLast (by intro e; rw [e] at hlen; simp at hlen), (List.dropLast_concat_getLast _).symm⟩
    have hl' : ys'.length = vs.length := by simpa using hlen
    have hq : AllIs Z₁ vs ys' ∧ v.is Z₁ z := by
      have h1 := q.take vs.length
      rw [List.take_left' rfl, List.take_left' hl'] at h1
      obtain ⟨w, hw, hw'⟩ := q.get (i := vs.length) (v := v) (by simp)
      rw [← hl', List.getElem?_append_right (by omega)] at hw
      simp at hw; subst hw
      exact ⟨h1, hw'⟩
    have hy : (ys' ++ [z]).toArray[(ys' ++ [z]).toArray.size - 1]? = some z := by simp
    refine call_meets (s := { s with heap := h₁, toks := tk₁ }) PySem.F.slot_list_pop ⟨_, hob, rfl⟩ PySem.F.entry_list_pop (PySem.F.args_list_pop_1 _) (PySem.MeetsSeq.list_pop_last d _ m z hy (by simp only [List.size_toArray, List.length_append, List.length_cons, List.length_nil]; omega)) ⟨hob, ?_⟩
    have hset := PySem.IsL.update (h := h₁) (l := d) (items := (ys' ++ [z]).toArray) (n := m) hob (fun xs => xs.eraseIdxIfInBounds ((ys' ++ [z]).toArray.size - 1))
    refine t _ _ k z _ tk₁ Z₁ le₁ hq.2 (a₁.set U (Heap.SameBut.update ..) hset ⟨ys', (if (((ys' ++ [z]).toArray.eraseIdxIfInBounds ((ys' ++ [z]).toArray.size - 1)).size == (ys' ++ [z]).toArray.size) = true then m else m + 1), ?_, hq.1⟩)
    have : (ys' ++ [z]).toArray.eraseIdxIfInBounds ((ys' ++ [z]).toArray.size - 1) = ys'.toArray := by
      rw [show (ys' ++ [z]).toArray.size - 1 = ys'.length by simp]
      simpa using kl_erase ys' [] z
    rw [this]) ht

/-! own defs -/
structure Def (S : St) (f : Addr) (fd : FuncData) : Prop where
  look : ∃ o, S.K.lookup f = some o ∧ o.data = .func fd
  code : codeIn S.K fd.code fd.qualname = true
  keep : keepIn S.K (.ref f) = true
/-- what a def does: called with these, it gives this, and leaves all that was -/
def Fn (S : St) (f : Addr) (n : Nat) (vs : List V) (v : V) : Prop :=
  ∀ (A : Around) (s : Shared) (Z : Frz) (xs : List Value) (Q E : Value → Shared → Prop), Room A n → (∀ b o, S.h₀.get? b = some o → s.heap.get? b = some o) → (∀ b o, Z b = some o → s.heap.get? b = some o) → AllIs Z vs xs →
    (∀ x h tk Z', Z.le Z' → v.is Z' x → (∀ b o, s.heap.get? b = some o → h.get? b = some o) → (∀ b o, Z' b = some o → h.get? b = some o) → (∀ b o, Z' b = some o → Z b = some o ∨ s.heap.get? b = none) → Q x { s with heap := h, toks := tk }) →
    wpAny S.M A (call (.ref f) xs) Q E s
theorem Room.less {A : Around} {n m : Nat} (h : Room A n) (hm : m ≤ n) : Room A m := ⟨h.hd, by have := h.depth; omega, by have := h.units; omega⟩
theorem Room.deeper {A : Around} {env : Env} (h : Room A (n + 1)) : Room (A.deeper env) n := ⟨h.hd, by have := h.depth; show A.depth + 1 + n + 5 < _; omega, by have := h.units; show A.units + 3 + 50 * n + 50 < _; omega⟩
theorem Fn.less {f : Addr} {m : Nat} (h : Fn S f m vs v) (hm : m ≤ n) : Fn S f n vs v := fun A s Z xs Q E r => h A s Z xs Q E (r.less hm)
theorem cl_fn {f : Addr} (g : Good F A n) (h : Fn F.S f n vs v) : Cl F A G Λ (.ref f) vs (fun v' Λ' => v' = v ∧ Λ' = Λ) := fun xs s Z N Q E hxs a t =>
  h A s Z xs Q E g.toRoom (a.st g) a.frz hxs fun x h' tk Z' le hx hk hz hnew => t v Λ ⟨rfl, rfl⟩ x h' tk Z' le hx (by
    have a' := a.keeps hk
    have none_of : ∀ b, N b = none → s.heap.get? b ≠ none ∨ True := fun _ _ => .inr trivial
    refine ⟨?_, a'.fix, a'.pin, hz, fun p hp => ?_, a'.nodup, a'.offN, fun b hb => ?_, fun b o e => ?_, fun b o e => le _ _ (a'.old _ _ e)⟩
    · obtain ⟨m, hn, hv⟩ := a'.ns; exact ⟨m, hn, hv.mono le⟩
    · obtain ⟨o, e, k⟩ := a'.led p hp; exact ⟨o, e, k.mono le⟩
    · cases e : Z' b with
      | none => rfl
      | some o =>
        rcases hnew b o e with e' | e'
        · rw [a.offZ b hb] at e'; cases e'
        · exact absurd hb (a.newL e')
    · rcases hnew b o e with e' | e'
      · exact a.dis _ _ e'
      · exact a.newN e')
theorem At.adopt {Z Z' N : Frz} {h h' : Heap} (a : At F Z N G Λ h) (hk : ∀ b o, h.get? b = some o → h'.get? b = some o) (le : Z.le Z') (hz : ∀ b o, Z' b = some o → h'.get? b = some o) (hnew : ∀ b o, Z' b = some o → Z b = some o ∨ h.get? b = none) : At F Z' N G Λ h' := by
  have a' := a.keeps hk
  refine ⟨?_, a'.fix, a'.pin, hz, fun p hp => ?_, a'.nodup, a'.offN, fun b hb => ?_, fun b o e => ?_, fun b o e => le _ _ (a'.old _ _ e)⟩
  · obtain ⟨m, hn, hv⟩ := a'.ns; exact ⟨m, hn, hv.mono le⟩
  · obtain ⟨o, e, k⟩ := a'.led p hp; exact ⟨o, e, k.mono le⟩
  · cases e : Z' b with
    | none => rfl
    | some o =>
      rcases hnew b o e with e' | e'
      · rw [a.offZ b hb] at e'; cases e'
      · exact absurd hb (a.newL e')
  · rcases hnew b o e with e' | e'
    · exact a.dis _ _ e'
    · exact a.newN e'
/-- the zip of a call's arguments, looked up from behind -/
theorem lookup_zip {names : List Str} : ∀ {xs : List Value}, names.Nodup → names.length = xs.length → ∀ {i : Nat} {x : Str} {y : Value}, names[i]? = some x → xs[i]? = some y → ((names.zip xs).reverse).lookup x = some y := by
  intro xs nd hl i x y hx hy
  have hm : (x, y) ∈ (names.zip xs).reverse := by
    rw [List.mem_reverse, List.mem_iff_getElem?]
    exact ⟨i, by rw [List.getElem?_zip_eq_some]; exact ⟨hx, hy⟩⟩
  have uniq : ∀ z, (x, z) ∈ (names.zip xs).reverse → z = y := fun z hz => by
    rw [List.mem_reverse, List.mem_iff_getElem?] at hz
    obtain ⟨j, hj⟩ := hz
    rw [List.getElem?_zip_eq_some] at hj
    obtain ⟨h1, e1⟩ := List.getElem?_eq_some_iff.mp hx
    obtain ⟨h2, e2⟩ := List.getElem?_eq_some_iff.mp hj.1
    have : i = j := (List.getElem_inj nd).mp (e1.trans e2.symm)
    subst this
    rw [hy] at hj; exact Option.some.inj hj.2.symm
  generalize (names.zip xs).reverse = l at hm uniq
  induction l with
  | nil => cases hm
  | cons p l ih =>
    obtain ⟨k, z⟩ := p
    rw [List.lookup_cons]
    by_cases hk : x = k
    · subst hk
      simp only [beq_self_eq_true]
      exact congrArg some (uniq z (.head _))
    · have hb : (x == k) = false := by simpa using hk
      rw [hb]
      refine ih ?_ fun z hz => uniq z (.tail _ hz)
      rcases List.mem_cons.mp hm with e | hm
      · exact absurd (congrArg Prod.fst e) hk
      · exact hm
/-- a def's frame -/
abbrev defFm (S : St) (fd : FuncData) (f L : Addr) (P Z₀ : Frz) (ns : List Str) : Fm := { S := S, env := callEnv fd L f, P := P, Z₀ := Z₀, ns := ns }
/-- behind a def's body -/
def Gives (v : V) : Post := fun f _ _ => match f with
  | .ret u => u = v
  | .next => v = .none
  | _ => False
/-- behind a def's body, told of what it leaves -/
def RetP (P : V → Led → Prop) : Post := fun f _ Λ => match f with
  | .ret u => P u Λ
  | .next => P .none Λ
  | _ => False
theorem def_core {f : Addr} {fd : FuncData} {names more : List Str} {s : Shared} {Z N : Frz} {xs : List Value} {Rr : Result → Shared → Prop} {Λ₀ : Led} (ok : StOk S) (d : Def S f fd) (hbody : fd.body = .stmts body) (hlen : names.length = vs.length)
    (hb : ∀ xs : List Value, xs.length = names.length → bindArgs fd ⟨xs, []⟩ = pure (names.zip xs)) (hnd : (names ++ more).Nodup) (hcell : ∀ x ∈ fd.scope.names, x.2 ≠ .cell) (hloc : ∀ x ∈ names, fd.scope.names.lookup x = some .local)
    (h : ∀ L Pf Z₀ A, Good (defFm S fd f L Pf Z₀ (names ++ more)) A n → Ex (defFm S fd f L Pf Z₀ (names ++ more)) A (vs.map some ++ more.map fun _ => none) Λ₀ body (RetP P))
    (room : Room A (n + 1)) (hst : ∀ b o, S.h₀.get? b = some o → s.heap.get? b = some o) (hz : ∀ b o, Z b = some o → s.heap.get? b = some o) (hxs : AllIs Z vs xs)
    (hN : ∀ b o, N b = some o → s.heap.get? b = some o) (hstN : ∀ b o, S.h₀.get? b = some o → N b = some o ∨ Z b = some o) (hdis : ∀ b o, Z b = some o → N b = none)
    (hled : ∀ p ∈ Λ₀, ∃ o, s.heap.get? p.1 = some o ∧ p.2.is Z o) (hnod : (Λ₀.map Prod.fst).Nodup) (hoffN : ∀ b ∈ Λ₀.map Prod.fst, N b = none) (hoffZ : ∀ b ∈ Λ₀.map Prod.fst, Z b = none)
    (t : ∀ u x F' G' Λ' h tk Z', P u Λ' → Z.le Z' → u.is Z' x → At F' Z' N G' Λ' h → Rr (.ok (.ret x)) { s with heap := h, toks := tk })
    (hco : fd.scope.isCoroutine = false := by rfl) (hgen : fd.scope.isGenerator = false := by rfl) (hk : fd.scope.kind = .function := by rfl) : codeAny S.M A (.call (.ref f) ⟨xs, []⟩) Rr s := by
  obtain ⟨o, ho, hd⟩ := d.look
  have hX : S.K.In s.heap := fun b o e => hst b o (ok.X b o e)
  have hT := ok.T.keeps hst
  have hxl : xs.length = names.length := by rw [hxs.length, hlen]
  refine codeAny_call_def (fd := fd) (binds := names.zip xs) (by have := room.depth; omega) (hX _ _ ho) hd hT.nolimit (codeRec_of hX d.code) hbody (BindsTo.of_eq (hb xs hxl)) hcell (fun p hp => hloc _ (List.of_mem_zip hp).1) (fun h₁ hns hk₁ => ?_) hco hgen hk
  have szN : N s.heap.objs.size = none := by
    cases e : N s.heap.objs.size with
    | none => rfl
    | some o => have := hN _ _ e; rw [get?_size] at this; cases this
  have szZ : Z s.heap.objs.size = none := by
    cases e : Z s.heap.objs.size with
    | none => rfl
    | some o => have := hz _ _ e; rw [get?_size] at this; cases this
  have g : Good (defFm S fd f s.heap.objs.size N Z (names ++ more)) (A.deeper (callEnv fd s.heap.objs.size f)) n :=
    { ok, room.deeper with
      st := hstN
      fk := hk
      nd := hnd }
  have a : At (defFm S fd f s.heap.objs.size N Z (names ++ more)) Z N (vs.map some ++ more.map fun _ => none) Λ₀ h₁ := by
    refine ⟨⟨_, hns, fun i x v' hx hv => ?_⟩, fun _ _ e => e, fun b o e => hk₁ b o (hN b o e), fun b o e => hk₁ b o (hz b o e), fun p hp => ?_, ?_, fun b hb => ?_, fun b hb => ?_, hdis, fun _ _ e => e⟩
    · by_cases hi : i < names.length
      · rw [List.getElem?_append_left hi] at hx
        rw [List.getElem?_append_left (by simpa [← hlen] using hi), List.getElem?_map] at hv
        obtain ⟨v'', e, e'⟩ := Option.map_eq_some_iff.mp hv
        cases e'
        obtain ⟨y, ey, ky⟩ := hxs.get e
        exact ⟨y, lookup_zip (List.nodup_append.mp hnd).1 hxl.symm hx ey, ky⟩
      · rw [List.getElem?_append_right (by simp [← hlen]; omega), List.getElem?_map] at hv
        obtain ⟨_, _, e'⟩ := Option.map_eq_some_iff.mp hv
        cases e'
    · obtain ⟨o, e, k⟩ := hled p hp; exact ⟨o, hk₁ _ _ e, k⟩
    · refine List.nodup_cons.mpr ⟨fun hm => ?_, hnod⟩
      obtain ⟨p, hp, e⟩ := List.mem_map.mp hm
      obtain ⟨o, e', _⟩ := hled p hp
      have : p.1 = s.heap.objs.size := e
      rw [this, get?_size] at e'; cases e'
    · rcases List.mem_cons.mp hb with rfl | hb
      · exact szN
      · exact hoffN b hb
    · rcases List.mem_cons.mp hb with rfl | hb
      · exact szZ
      · exact hoffZ b hb
  refine h _ N Z _ g { s with heap := h₁, toks := s.toks + (names.zip xs).length } Z N _ _ a fun fl G' Λ' fw h₂ tk₂ Z' q le hf a' => ?_
  cases fl with
  | ret u => obtain ⟨x, rfl, hx⟩ := hf; exact t u x _ G' Λ' h₂ tk₂ Z' q le hx a'
  | next => cases hf; exact t .none .none _ G' Λ' h₂ tk₂ Z' q le mkIsNone a'
  | brk => exact q.elim
  | cont => exact q.elim
theorem fn_of {f : Addr} {fd : FuncData} {names more : List Str} (ok : StOk S) (d : Def S f fd) (hbody : fd.body = .stmts body) (hlen : names.length = vs.length)
    (hb : ∀ xs : List Value, xs.length = names.length → bindArgs fd ⟨xs, []⟩ = pure (names.zip xs)) (hnd : (names ++ more).Nodup) (hcell : ∀ x ∈ fd.scope.names, x.2 ≠ .cell) (hloc : ∀ x ∈ names, fd.scope.names.lookup x = some .local)
    (h : ∀ L P Z₀ A, Good (defFm S fd f L P Z₀ (names ++ more)) A n → Ex (defFm S fd f L P Z₀ (names ++ more)) A (vs.map some ++ more.map fun _ => none) [] body (Gives v))
    (hco : fd.scope.isCoroutine = false := by rfl) (hgen : fd.scope.isGenerator = false := by rfl) (hk : fd.scope.kind = .function := by rfl) : Fn S f (n + 1) vs v := fun A s Z xs Q E room hst hz hxs t => by
  let N : Frz := fun b => if (Z b).isSome then none else s.heap.get? b
  have hN : ∀ b o, N b = some o → s.heap.get? b = some o := fun b o e => by
    simp only [N] at e
    split at e
    · cases e
    · exact e
  refine wpAny_call (def_core (P := fun u _ => u = v) (N := N) (Λ₀ := []) (Z := Z) ok d hbody hlen hb hnd hcell hloc (fun L P Z₀ A g => (h L P Z₀ A g).mono fun f G Λ q => ?_) room hst hz hxs hN (fun b o e => ?_) (fun b o e => by simp only [N, e]; rfl) (fun p hp => (by cases hp)) (by simp) (fun b hb => (by cases hb)) (fun b hb => (by cases hb)) ?_ hco hgen hk)
  · cases f with
    | ret u => exact q
    | next => exact (show v = .none from q).symm
    | brk => exact q
    | cont => exact q
  · cases e' : Z b with
    | none => left; show (if (Z b).isSome then none else s.heap.get? b) = some o; rw [e']; exact hst b o e
    | some o' => right; have h1 := hst b o e; rw [hz _ _ e'] at h1; exact h1
  · rintro u x F' G' Λ' h₂ tk₂ Z' rfl le hx a'
    refine t x h₂ tk₂ Z' le hx (fun b o e => ?_) a'.frz fun b o e => ?_
    · cases e' : Z b with
      | none => exact a'.pin b o (by simp only [N]; rw [e']; exact e)
      | some o' => have h1 := hz _ _ e'; rw [e] at h1; cases h1; exact a'.frz _ _ (le _ _ e')
    · cases e' : Z b with
      | some o' => left; have := le _ _ e'; rw [e] at this; exact this.symm
      | none =>
        right
        have h1 := a'.dis b o e
        simp only [N] at h1
        rw [e'] at h1; simpa using h1
end
end Mine
end

/-! TL6 -/
section
open PySem PySem.W PyProof.Rows PySem.Calls
set_option maxRecDepth 100000
set_option autoImplicit false
set_option linter.unusedVariables false
namespace Mine

section
variable {F : Fm} {A : Around} {G G' G₁ : List (Option V)} {Λ Λ' Λ₁ X : Led} {e l r : Expr} {v u a b c : V} {P P' : V → Led → Prop} {PS : List V → Led → Prop} {R R' : Post} {n : Nat} {rest ss body orelse : List Stmt} {st : Stmt} {pos px py pt : Pos} {x : Str} {ns : List Str} {gl : List (Str × Value)} {i j k : Int} {xs ys : List Nat} {es : List Expr} {vs us items : List V} {y : Value} {id : String} {op : Operator} {K : List (Option V) → Led → Prop} {S : St}

theorem one_arg {Z : Frz} {ys : List Value} (h : AllIs Z [v] ys) : ∃ y, ys = [y] ∧ v.is Z y := by
  obtain ⟨y, zs, rfl, hy, h⟩ := h.inv
  exact ⟨y, by rw [h.inv0], hy⟩
theorem two_args {Z : Frz} {ys : List Value} (h : AllIs Z [v, u] ys) : ∃ y z, ys = [y, z] ∧ v.is Z y ∧ u.is Z z := by
  obtain ⟨y, zs, rfl, hy, h⟩ := h.inv
  obtain ⟨z, rfl, hz⟩ := one_arg h
  exact ⟨y, z, rfl, hy, hz⟩
theorem three_args {Z : Frz} {ys : List Value} (h : AllIs Z [v, u, a] ys) : ∃ y z w, ys = [y, z, w] ∧ v.is Z y ∧ u.is Z z ∧ a.is Z w := by
  obtain ⟨y, zs, rfl, hy, h⟩ := h.inv
  obtain ⟨z, w, rfl, hz, hw⟩ := two_args h
  exact ⟨y, z, w, rfl, hy, hz, hw⟩
/-- a call's value, nothing else changed -/
abbrev ClV (F : Fm) (A : Around) (G : List (Option V)) (Λ : Led) (f : Value) (vs : List V) (v : V) : Prop := Cl F A G Λ f vs (fun v' Λ' => v' = v ∧ Λ' = Λ)

theorem cl_lenS (hz : xs.length ≤ sizeLine) : ClV F A G Λ (.builtin "len") [.str xs] (.int xs.length) := fun zs s Z N Q E h a t => by
  obtain ⟨y, rfl, hy⟩ := one_arg h
  obtain ⟨tk, rfl⟩ := isStr hy
  refine PySem.P.len_str (by rw [toStr]; rw [sizeLine_eq] at hz; omega) ?_
  rw [toStr]
  exact t _ _ ⟨rfl, rfl⟩ _ s.heap _ Z (.refl _) mkIsInt a
theorem cl_lenL (hv : Has Λ v vs) (hz : vs.length ≤ sizeLine) : ClV F A G Λ (.builtin "len") [v] (.int vs.length) := fun zs s Z N Q E h a t => by
  obtain ⟨y, rfl, hy⟩ := one_arg h
  obtain ⟨d, o, ys, rfl, ho, l, q⟩ := hv.at a hy
  refine PyProof.Rows.len_list (isListAt ho l) (by simp only [List.size_toArray, q.length]; rw [sizeLine_eq] at hz; omega) ?_
  simp only [List.size_toArray, q.length]
  exact t _ _ ⟨rfl, rfl⟩ _ s.heap _ Z (.refl _) mkIsInt a
theorem cl_min2 (hd : A.handled = none) : ClV F A G Λ (.builtin "min") [.int i, .int j] (.int (min i j)) := fun zs s Z N Q E h a t => by
  obtain ⟨y, z, rfl, hy, hz⟩ := two_args h
  obtain ⟨t1, rfl⟩ := isInt hy; obtain ⟨t2, rfl⟩ := isInt hz
  refine min_two_ints hd fun h' tk hk => ?_
  by_cases hlt : j < i
  · rw [if_pos hlt]; exact t _ _ ⟨rfl, rfl⟩ _ h' tk Z (.refl _) (by rw [Int.min_def, if_neg (by omega)]; exact mkIsInt) (a.keeps hk)
  · rw [if_neg hlt]; exact t _ _ ⟨rfl, rfl⟩ _ h' tk Z (.refl _) (by rw [Int.min_def, if_pos (by omega)]; exact mkIsInt) (a.keeps hk)
theorem cl_max2 (hd : A.handled = none) : ClV F A G Λ (.builtin "max") [.int i, .int j] (.int (max i j)) := fun zs s Z N Q E h a t => by
  obtain ⟨y, z, rfl, hy, hz⟩ := two_args h
  obtain ⟨t1, rfl⟩ := isInt hy; obtain ⟨t2, rfl⟩ := isInt hz
  refine max_two_ints hd fun h' tk hk => ?_
  by_cases hlt : j > i
  · rw [if_pos hlt]; exact t _ _ ⟨rfl, rfl⟩ _ h' tk Z (.refl _) (by rw [Int.max_def, if_pos (by omega)]; exact mkIsInt) (a.keeps hk)
  · rw [if_neg hlt]
    refine t _ _ ⟨rfl, rfl⟩ _ h' tk Z (.refl _) ?_ (a.keeps hk)
    have : max i j = i := by omega
    rw [this]; exact mkIsInt
def vInts (l : List Int) : List V := l.map V.int
theorem intsAre {Z : Frz} : ∀ {l : List Int} {ys : List Value}, AllIs Z (vInts l) ys → IntsAre ys l
  | [], ys, h => by
    have h : AllIs Z [] ys := h
    rw [h.inv0]; exact .nil
  | i :: l, ys, h => by
    have h : AllIs Z (V.int i :: vInts l) ys := h
    obtain ⟨y, zs, rfl, hy, hr⟩ := h.inv
    obtain ⟨t, rfl⟩ := isInt hy
    exact .cons i t (intsAre hr)
theorem ofIntsAre {Z : Frz} {l : List Int} {ys : List Value} (h : IntsAre ys l) : AllIs Z (vInts l) ys := by
  induction h with
  | nil => exact .nil
  | cons n t _ ih => exact .cons mkIsInt ih
theorem At.backN {Z N : Frz} {h h' : Heap} {m : Str → Option Value} (a : At F Z N G Λ h) (hv : Vars Z F.ns G m) (fr : Fr noHeap F.L h' m) (k : News noHeap F.L h' (allBut h F.L)) : At F Z N G Λ h' :=
  a.back hv fr fun b o hb e => (k (b, o) (mem_allBut.mpr ⟨hb, e⟩)).1
theorem cl_minL {l : List Int} {M : Int} (hd : A.handled = none) (hv : Has Λ v (vInts l)) (hM : M ∈ l) (hle : ∀ a ∈ l, M ≤ a) : ClV F A G Λ (.builtin "min") [v] (.int M) := fun zs s Z N Q E h a t => by
  obtain ⟨y, rfl, hy⟩ := one_arg h
  obtain ⟨d, o, ys, rfl, ho, l', q⟩ := hv.at a hy
  obtain ⟨m, fr, hv⟩ := a.fr
  refine min_list_N hd fr a.news (isListAt ho l') (intsAre q) (by cases l with | nil => cases hM | cons _ _ => simp) fun h' M' t' tk fr' N' hm hl => ?_
  have : M' = M := by have := hl _ hM; have := hle _ hm; omega
  subst this
  exact t _ _ ⟨rfl, rfl⟩ _ h' tk Z (.refl _) mkIsInt (a.backN hv fr' N')
theorem cl_sum {l : List Int} (hd : A.handled = none) (hv : Has Λ v (vInts l)) : ClV F A G Λ (.builtin "sum") [v] (.int l.sum) := fun zs s Z N Q E h a t => by
  obtain ⟨y, rfl, hy⟩ := one_arg h
  obtain ⟨d, o, ys, rfl, ho, l', q⟩ := hv.at a hy
  obtain ⟨m, fr, hv⟩ := a.fr
  exact LSm.sum_ints fr a.news hd (isListAt ho l') (intsAre q) fun h' tk t' fr' N' => t _ _ ⟨rfl, rfl⟩ _ h' tk Z (.refl _) mkIsInt (a.backN hv fr' N')
def vBools (l : List Bool) : List V := l.map V.bool
theorem boolsAre {Z : Frz} : ∀ {l : List Bool} {ys : List Value}, AllIs Z (vBools l) ys → LSm.BoolsAre ys l
  | [], ys, h => by
    have h : AllIs Z [] ys := h
    rw [h.inv0]; exact .nil
  | i :: l, ys, h => by
    have h : AllIs Z (V.bool i :: vBools l) ys := h
    obtain ⟨y, zs, rfl, hy, hr⟩ := h.inv
    have := isBool hy; subst this
    exact .cons i (boolsAre hr)
theorem cl_all {l : List Bool} (hd : A.handled = none) (hv : Has Λ v (vBools l)) : ClV F A G Λ (.builtin "all") [v] (.bool (l.all fun b => b)) := fun zs s Z N Q E h a t => by
  obtain ⟨y, rfl, hy⟩ := one_arg h
  obtain ⟨d, o, ys, rfl, ho, l', q⟩ := hv.at a hy
  obtain ⟨m, fr, hv⟩ := a.fr
  exact LSm.all_bools fr a.news hd (isListAt ho l') (boolsAre q) fun h' tk fr' N' => t _ _ ⟨rfl, rfl⟩ _ h' tk Z (.refl _) mkIsBool (a.backN hv fr' N')
theorem cl_abs : ClV F A G Λ (.builtin "abs") [.int i] (.int i.natAbs) := fun zs s Z N Q E h a t => by
  obtain ⟨y, rfl, hy⟩ := one_arg h
  obtain ⟨t1, rfl⟩ := isInt hy
  refine call_abs_int fun u tk => t _ _ ⟨rfl, rfl⟩ _ s.heap tk Z (.refl _) ?_ a
  have : (if i < 0 then -i else i) = (i.natAbs : Int) := by split <;> omega
  rw [this]; exact mkIsInt
theorem cl_chr {m : Nat} (hi : i = m) (hm : m ≤ 1114111) : ClV F A G Λ (.builtin "chr") [.int i] (.str [m]) := fun zs s Z N Q E h a t => by
  obtain ⟨y, rfl, hy⟩ := one_arg h
  obtain ⟨t1, rfl⟩ := isInt hy
  subst hi
  refine PySem.P.chr_of_int (by simp only [Bool.or_eq_false_iff, decide_eq_false_iff_not]; omega) (t _ _ ⟨rfl, rfl⟩ _ s.heap _ Z (.refl _) ?_ a)
  simp only [V.is]; exact ⟨_, rfl⟩
theorem cl_ord {m : Nat} : ClV F A G Λ (.builtin "ord") [.str [m]] (.int m) := fun zs s Z N Q E h a t => by
  obtain ⟨y, rfl, hy⟩ := one_arg h
  obtain ⟨t1, rfl⟩ := isStr hy
  exact PySem.P.ord_of_char (t _ _ ⟨rfl, rfl⟩ _ s.heap _ Z (.refl _) mkIsInt a)
theorem cl_isBool : ClV F A G Λ (.builtin "isinstance") [.int i, .val (.type "bool")] (.bool false) := fun zs s Z N Q E h a t => by
  obtain ⟨y, z, rfl, hy, hz⟩ := two_args h
  obtain ⟨t1, rfl⟩ := isInt hy
  have := isVal hz; subst this
  exact IsiPair.int_bool (t _ _ ⟨rfl, rfl⟩ _ s.heap _ Z (.refl _) mkIsBool a)
theorem rng_push {Z N : Frz} {s : Shared} {Q : Value → Shared → Prop} {t1 t2 t3 : Tok} {tk : Nat} (a : At F Z N G Λ s.heap) (t : Then F N G Λ s Z (.rng i j k) Q) :
    Q (.ref s.heap.objs.size) { s with heap := s.heap.push { cls := .type "range", data := .fields #[.int i t1, .int j t2, .int k t3] }, toks := tk } := by
  obtain ⟨le, a'⟩ := a.pushZ (o := { cls := .type "range", data := .fields #[.int i t1, .int j t2, .int k t3] }) rfl
  refine t _ _ tk _ le ?_ a'
  simp only [V.is]
  exact ⟨_, _, rfl, Frz.put_self _ _ _, t1, t2, t3, fun h e => e⟩
theorem cl_range1 : ClV F A G Λ (.type "range") [.int j] (.rng 0 j 1) := fun zs s Z N Q E h a t => by
  obtain ⟨y, rfl, hy⟩ := one_arg h
  obtain ⟨t1, rfl⟩ := isInt hy
  exact call_range_1 (rng_push a (t _ _ ⟨rfl, rfl⟩))
theorem cl_range2 : ClV F A G Λ (.type "range") [.int i, .int j] (.rng i j 1) := fun zs s Z N Q E h a t => by
  obtain ⟨y, z, rfl, hy, hz⟩ := two_args h
  obtain ⟨t1, rfl⟩ := isInt hy; obtain ⟨t2, rfl⟩ := isInt hz
  exact call_range_2 (rng_push a (t _ _ ⟨rfl, rfl⟩))
theorem cl_range3 (hk : k ≠ 0) (hp : Builtin.divisionGoesByPylong (j - i) k = false) : ClV F A G Λ (.type "range") [.int i, .int j, .int k] (.rng i j k) := fun zs s Z N Q E h a t => by
  obtain ⟨y, z, w, rfl, hy, hz, hw⟩ := three_args h
  obtain ⟨t1, rfl⟩ := isInt hy; obtain ⟨t2, rfl⟩ := isInt hz; obtain ⟨t3, rfl⟩ := isInt hw
  exact call_range_3 hk (rng_push a (t _ _ ⟨rfl, rfl⟩)) (.inl hp)
theorem carried_ints {Z : Frz} : ∀ {l : List Int} {ys : List Value}, CarriedAll ys (l.map PyData.int) → AllIs Z (vInts l) ys
  | [], ys, h => by cases h; exact .nil
  | i :: l, ys, h => by
    cases h with
    | cons hx hr =>
      cases hx
      exact .cons mkIsInt (carried_ints hr)
/-- list(range(..)), to be changed -/
theorem cl_listRange {m : Nat} (hd : A.handled = none) (hs : Builtin.Range.small i j k = true) (hm : Builtin.Range.rangeSize i j k = m) (hz : m ≤ 2 ^ 24) (kp : ∀ d, P (.ref d) ((d, .lst (vInts (rangeInts i k m))) :: Λ)) : Cl F A G Λ (.type "list") [.rng i j k] P := fun zs s Z N Q E h a t => by
  obtain ⟨y, rfl, hy⟩ := one_arg h
  simp only [V.is] at hy
  obtain ⟨r, o, rfl, z, t1, t2, t3, hr⟩ := hy
  obtain ⟨m', fr, hv⟩ := a.fr
  refine list_rangeD hd fr a.news (hr _ (a.frz _ _ z)) hs hm hz fun h' tk ys fr' N' hk hn hl hp hc => ?_
  obtain ⟨n', hpl⟩ := hp.1
  exact t _ _ (kp s.heap.objs.size) _ h' tk Z (.refl _) mkIsVal (a.add hk (get?_size _) hpl ⟨ys, n', rfl, carried_ints hc⟩)
/-- tuple(xs) -/
theorem cl_tuple (hv : Has Λ v vs) (hz : vs.length ≤ sizeLine) : ClV F A G Λ (.type "tuple") [v] (.tup vs) := fun zs s Z N Q E h a t => by
  obtain ⟨y, rfl, hy⟩ := one_arg h
  obtain ⟨d, o, ys, rfl, ho, l', q⟩ := hv.at a hy
  refine call_tuple_list (isListAt ho l') (fun h' hk => ?_) (by simp only [List.size_toArray, q.length]; exact hz)
  obtain ⟨le, a'⟩ := (a.keeps hk).pushZ (o := { cls := .type "tuple", data := .seq ys.toArray }) rfl
  exact t _ _ ⟨rfl, rfl⟩ _ _ s.toks _ le (mkIsTup (Frz.put_self _ _ _) ⟨rfl, 0, rfl⟩ (q.mono le)) a'

/-! lists made of lists -/
theorem bin_catL (hv : Has Λ v vs) (hu : Has Λ u us) (hz : vs.length + us.length ≤ sizeLine) (k : ∀ d, P (.ref d) ((d, .lst (vs ++ us)) :: Λ)) : Bin F A G Λ .Add v u P := fun x y s Z N Q E hx hy a t => by
  obtain ⟨d, o, ys, rfl, ho, l, q⟩ := hv.at a hx
  obtain ⟨d', o', ys', rfl, ho', l', q'⟩ := hu.at a hy
  obtain ⟨m, fr, hv⟩ := a.fr
  refine add_arrays fr a.news (isListAt ho l) (isListAt ho' l') (fun h' fr' N' => ?_) (by simp only [List.size_toArray, q.length, q'.length]; exact hz)
  have hkb := fun b o hb e => keepBut (news := [(s.heap.objs.size, _)]) N' b o hb e
  have a' := a.back hv fr' hkb
  have e := (N' _ (.head _)).1
  exact t _ _ (k s.heap.objs.size) _ h' s.toks Z (.refl _) mkIsVal (a.addBut a' (get?_size _) e ⟨ys ++ ys', 0, by simp [W.listOf], q.append q'⟩)
theorem pu_catL (hl : Pu F A G Λ l v) (hr : Pu F A G Λ r u) (hv : Has Λ v vs) (hu : Has Λ u us) (hz : vs.length + us.length ≤ sizeLine) : Pu F A G Λ (.BinOp l .Add r pos) (.lst (vs ++ us)) :=
  Pu.freeze (d := 0) (ev_bin hl hr (bin_catL hv hu hz fun d => ⟨d, rfl, rfl⟩))

/-! texts' methods -/
def lowerL (xs : List Nat) : List Nat := (Txt.lower ⟨xs.toArray⟩).cps.toList
theorem pu_lower {o : Expr} {apos : Pos} {pl : Sem Bool} (ho : Pu F A G Λ o (.str xs)) (hz : xs.length ≤ 5592405) (ht : MTree o (Str.ofString "lower") apos pos [] F.env pl) : Pu F A G Λ (.Call (.Attribute o (Str.ofString "lower") apos) [] [] pos) (.str (lowerL xs)) := fun s Z N Q E a t =>
  PyProof.Rows.MethodCall_ (pl := pl) (ho s Z N _ E a fun y h₁ tk₁ Z₁ le₁ hy a₁ => by
    obtain ⟨tk, rfl⟩ := isStr hy
    refine GM.lower ?_
    refine callWith_method0 ?_
    refine PyProof.Rows.SCL.lower (by rw [toStr]; exact hz) fun _ => ?_
    refine t _ h₁ _ Z₁ le₁ ?_ a₁
    simp only [V.is, lowerL]; exact ⟨_, rfl⟩) ht
end
end Mine
end

/-! W1 -/
section
open PySem PySem.W PyProof.Rows PySem.Calls
set_option maxRecDepth 100000
set_option autoImplicit false
set_option linter.unusedVariables false
namespace Mine

/-! the text's defs -/
def stAt (k : Nat) : Stmt := (PySem.Challenge.pw_rw0117_01.main.body[k]?).getD (.Pass ⟨0, 0, 0, 0⟩)
def inCls (j : Nat) : Stmt → Stmt
  | .ClassDef _ _ _ body _ _ _ _ _ _ _ => (body[j]?).getD (.Pass ⟨0, 0, 0, 0⟩)
  | s => s
def bodyOf : Stmt → List Stmt
  | .FunctionDef _ _ body _ _ _ _ _ _ _ => body
  | _ => []
def argsOf : Stmt → Arguments
  | .FunctionDef _ args _ _ _ _ _ _ _ _ => args
  | _ => ⟨[], [], none, [], [], none, []⟩
def scopeOf : Stmt → Scope
  | .FunctionDef _ _ _ _ _ _ scope _ _ _ => scope
  | _ => { kind := .function, names := [], isGenerator := false, isCoroutine := false, more := [] }
/-- a def of the text's, as it stands in the heap -/
structure Rest where
  name : Str
  qual : Str
  doc : Value
  pm : Value
  an : Option Addr
  cdv : Value
  ct : Value
abbrev fdOf (st : Stmt) (r : Rest) : FuncData := fnOf r.name r.qual (argsOf st) (bodyOf st) (scopeOf st) .none .none r.doc r.pm r.an r.cdv r.ct
theorem loc_def {S : St} {fd : FuncData} {f L : Addr} {P Z₀ : Frz} {ns : List Str} {gl : List (Str × Value)} (hg : fd.globals = mainGlobals) (hb : fd.builtins = builtinsNs)
    (h1 : (ns.all fun x => decide (fd.scope.names.lookup x = some .local) && !(x == ("__debug__" : Str))) = true)
    (h2 : (gl.all fun p => decide (fd.scope.names.lookup p.1 = some .globalImplicit) && !(p.1 == ("__debug__" : Str))) = true) (h3 : ∀ p ∈ gl, TopName S p.1 p.2) : Loc (defFm S fd f L P Z₀ ns) ns gl where
  names := rfl
  kind := fun x hx => by have := List.all_eq_true.mp h1 x hx; simp only [Bool.and_eq_true, decide_eq_true_eq] at this; exact this.1
  plain := fun x hx => by have := List.all_eq_true.mp h1 x hx; simp only [Bool.and_eq_true, Bool.not_eq_true'] at this; exact this.2
  glob := hg
  blt := hb
  gkind := fun p hp => by have := List.all_eq_true.mp h2 p hp; simp only [Bool.and_eq_true, decide_eq_true_eq] at this; exact this.1
  gplain := fun p hp => by have := List.all_eq_true.mp h2 p hp; simp only [Bool.and_eq_true, Bool.not_eq_true'] at this; exact this.2
  gtop := h3

theorem swapped2 {F : Fm} {ns : List Str} {gl : List (Str × Value)} {x1 x2 : Str} {p1 p2 pos pos2 : Pos} {e1 e2 : Expr} {k k2 : Nat} (lc : Loc F ns gl) (hk : F.env.scope.kind = .function) (h1 : x1 ∈ ns) (h2 : x2 ∈ ns)
    (hl : (p1.line == p1.line && p2.line == p1.line) = true) (hne : ([x1, x2] : List Str).eraseDups.length = 2)
    (hs : ([e1, e2].any fun | .Starred .. => true | _ => false) = false) (hf : [e1, e2].all (foldedForSure 8) = false) (hc : [e1, e2].all (constantsAlone 8) = false) :
    swappedStores [.Tuple [.Name x1 p1, .Name x2 p2] k pos] (.Tuple [e1, e2] k2 pos2) F.env = pure (some [x1, x2]) := by
  have k1 := lc.kind x1 h1
  have k2 := lc.kind x2 h2
  have hb : F.env.blockKind = .function := by unfold Env.blockKind; rw [hk]; rfl
  simp only [Bool.and_eq_true] at hl
  unfold swappedStores
  simp only [hb, k1, k2, hs, hf, hc, hl.2, List.filterMap_cons, List.filterMap_nil, List.head?_cons, Option.map_some, Option.getD_some, List.length_cons, List.length_nil, Expr.pos, beq_self_eq_true, Bool.and_self, if_true]
  simp only [List.any_cons, List.any_nil, Bool.or_false, Bool.or_eq_false_iff] at hs
  simp [hne]
  intro hx
  rcases hx with hx | hx
  · exact Bool.noConfusion (hs.1.symm.trans hx)
  · exact Bool.noConfusion (hs.2.symm.trans hx)

abbrev nsSub : List Str := [Str.ofString "ch_a", Str.ofString "ch_b"]
def glSub (t1 t2 : Tok) : List (Str × Value) := [(Str.ofString "_CASE_COST", .int 1 t1), (Str.ofString "_MOVE_COST", .int 2 t2)]
/-- two letters' distance -/
def subC (c d : Nat) : Int := if c = d then 0 else if lowerL [c] = lowerL [d] then 1 else 2
theorem walk_sub {F : Fm} {A : Around} {n : Nat} {t1 t2 : Tok} (g : Good F A n) (lc : Loc F nsSub [(Str.ofString "_CASE_COST", .int 1 t1), (Str.ofString "_MOVE_COST", .int 2 t2)]) (c d : Nat) :
    Ex F A [some (.str [c]), some (.str [d])] [] (bodyOf (stAt 5)) (Gives (.int (subC c d))) := by
  refine s_if (ts_cmp (pu_var g lc .head) (pu_var g lc (.tail .head)) cm_eqs rfl) (fun h => ?_) (fun h => ?_)
  · refine s_ret pu_int ?_
    simp only [Gives, On, subC] at *
    simp at h
    simp [h]
  · refine ex_nil ?_
    refine s_if (ts_cmp (pu_lower (pu_var g lc .head) (by simp) rfl) (pu_lower (pu_var g lc (.tail .head)) (by simp) rfl) cm_eqs rfl) (fun h2 => ?_) (fun h2 => ?_)
    · refine s_ret (pu_glI g lc .head) ?_
      simp only [Gives, On, subC] at *
      simp at h h2
      simp [h, h2]
    · refine ex_nil ?_
      refine s_ret (pu_glI g lc (.tail .head)) ?_
      simp only [Gives, subC] at *
      simp at h h2
      simp [h, h2]
end Mine
end

/-! W2 -/
section
open PySem PySem.W PyProof.Rows PySem.Calls
set_option maxRecDepth 100000
set_option autoImplicit false
set_option linter.unusedVariables false
namespace Mine

theorem pySlice_from {xs : List Nat} {k : Nat} : pySlice xs (some (k : Int)) none = xs.drop k := by
  unfold pySlice clipI
  dsimp only
  rw [if_neg (by omega)]
  by_cases h : k ≤ xs.length
  · rw [show max 0 (min (k : Int) xs.length) = k by omega, Int.toNat_natCast]
    rw [List.take_of_length_le (by simp)]
  · rw [show max 0 (min (k : Int) xs.length) = xs.length by omega, Int.toNat_natCast]
    rw [List.drop_eq_nil_of_le (Nat.le_refl _), List.drop_eq_nil_of_le (by omega)]; simp
theorem pySlice_to {xs : List Nat} {k : Nat} (h : k ≤ xs.length) : pySlice xs none (if (-(k : Int)) != 0 then some (-(k : Int)) else none) = xs.take (xs.length - k) := by
  by_cases hk : k = 0
  · subst hk; simp [pySlice, clipI]
  · rw [if_pos (by simp; omega)]
    unfold pySlice clipI
    dsimp only
    rw [if_pos (by omega), show max 0 (min (-(k : Int) + xs.length) xs.length) = ((xs.length - k : Nat) : Int) by omega]
    simp
theorem partOr {c : Bool} {i : Int} : PartIs (if c then V.int i else V.none) (if c then some i else none) := by cases c <;> constructor

theorem seqIndex_neg {j n : Nat} (h : j < n) : seqIndex? (-(j : Int) - 1) n = some (n - 1 - j) := by
  unfold seqIndex?
  simp only [Bool.and_eq_true, decide_eq_true_eq]
  rw [if_pos (by omega : -(j : Int) - 1 < 0), if_pos (by omega)]
  congr 1; omega
theorem seqIndex_pos {j n : Nat} (h : j < n) : seqIndex? (j : Int) n = some j := by
  unfold seqIndex?
  simp only [Bool.and_eq_true, decide_eq_true_eq]
  rw [if_neg (by omega : ¬ (j : Int) < 0), if_pos (by omega)]
  congr 1
def dropPre : List Nat → List Nat → List Nat × List Nat
  | x :: a, y :: b => if x = y then dropPre a b else (x :: a, y :: b)
  | a, b => (a, b)
def dropPost (a b : List Nat) : List Nat × List Nat := let p := dropPre a.reverse b.reverse; (p.1.reverse, p.2.reverse)
/-- a row's step: what is done, distance, result, minimum -/
def inS (c : Nat) (a : List Nat) (row : List Int) (d : Int) : Nat → List Int × Int × Int × Int
  | 0 => ([], d, d, 9223372036854775807)
  | k + 1 =>
    let s := inS c a row d k
    let o := row.getD k 0
    let r := min (min s.2.2.1 o + 2) (s.2.1 + subC c (a.getD k 0))
    (s.1 ++ [r], o, r, if r < s.2.2.2 then r else s.2.2.2)
def outer (a : List Nat) (m : Int) : List Nat → Nat → List Int → Int → Int
  | [], _, _, res => res
  | c :: b, j, row, _ =>
    let s := inS c a row (j * 2) a.length
    if s.2.2.2 > m then m + 1 else outer a m b (j + 1) s.1 s.2.2.1
def levC (a b : List Nat) (m : Int) : Int :=
  if ((b.length : Int) - a.length) * 2 > m then m + 1 else outer a m b 0 (rangeInts 2 2 a.length) 0
def levB (a b : List Nat) (m : Int) : Int :=
  if a = [] ∨ b = [] then 2 * ((a.length : Int) + b.length) else if b.length < a.length then levC b a m else levC a b m
def levF (a b : List Nat) (m : Int) : Int :=
  if a = b then 0 else levB (dropPost (dropPre a b).1 (dropPre a b).2).1 (dropPost (dropPre a b).1 (dropPre a b).2).2 m
theorem inS_len (c : Nat) (a : List Nat) (row : List Int) (d : Int) : ∀ k, (inS c a row d k).1.length = k
  | 0 => rfl
  | k + 1 => by simp [inS, inS_len c a row d k]
theorem dropPre_step {a b : List Nat} {k : Nat} (ha : k < a.length) (hb : k < b.length) (e : a.getD k 0 = b.getD k 0) : dropPre (a.drop (k + 1)) (b.drop (k + 1)) = dropPre (a.drop k) (b.drop k) := by
  rw [List.drop_eq_getElem_cons ha, List.drop_eq_getElem_cons hb]
  have : a[k] = b[k] := by simpa [List.getD_eq_getElem?_getD, ha, hb] using e
  conv => rhs; unfold dropPre
  rw [if_pos this]
theorem dropPre_stop {a b : List Nat} {k : Nat} (h : a.length ≤ k ∨ b.length ≤ k ∨ a.getD k 0 ≠ b.getD k 0) : dropPre (a.drop k) (b.drop k) = (a.drop k, b.drop k) := by
  by_cases ha : k < a.length
  · by_cases hb : k < b.length
    · rw [List.drop_eq_getElem_cons ha, List.drop_eq_getElem_cons hb]
      have : a[k] ≠ b[k] := by
        rcases h with h | h | h
        · omega
        · omega
        · simpa [List.getD_eq_getElem?_getD, ha, hb] using h
      unfold dropPre
      rw [if_neg this]
    · rw [List.drop_eq_nil_of_le (by omega : b.length ≤ k)]
      unfold dropPre; split <;> simp_all
  · rw [List.drop_eq_nil_of_le (by omega : a.length ≤ k)]
    unfold dropPre; rfl
theorem dropPre_le : ∀ (a b : List Nat), (dropPre a b).1.length ≤ a.length ∧ (dropPre a b).2.length ≤ b.length
  | [], _ => by unfold dropPre; exact ⟨Nat.le_refl _, Nat.le_refl _⟩
  | _ :: _, [] => by unfold dropPre; exact ⟨Nat.le_refl _, Nat.le_refl _⟩
  | x :: a, y :: b => by
    unfold dropPre
    split
    · have := dropPre_le a b; simp only [List.length_cons]; omega
    · exact ⟨Nat.le_refl _, Nat.le_refl _⟩
theorem dropPost_le (a b : List Nat) : (dropPost a b).1.length ≤ a.length ∧ (dropPost a b).2.length ≤ b.length := by
  have := dropPre_le a.reverse b.reverse
  simpa [dropPost] using this

abbrev nsLev : List Str := [Str.ofString "a", Str.ofString "b", Str.ofString "max_cost", Str.ofString "pre", Str.ofString "post", Str.ofString "row", Str.ofString "result", Str.ofString "bindex", Str.ofString "bchar",
  Str.ofString "distance", Str.ofString "minimum", Str.ofString "index", Str.ofString "substitute", Str.ofString "insert_delete"]
abbrev glLev (fs : Addr) (t1 t2 t3 : Tok) : List (Str × Value) := [(Str.ofString "_MOVE_COST", .int 2 t1), (Str.ofString "_MAX_STRING_SIZE", .int 40 t2), (Str.ofString "len", .builtin "len"), (Str.ofString "list", .type "list"), (Str.ofString "range", .type "range"),
  (Str.ofString "min", .builtin "min"), (Str.ofString "_substitution_cost", .ref fs)]
section
variable {F : Fm} {A : Around} {n : Nat} {fs : Addr} {t1 t2 t3 : Tok}
theorem sz40 {l : Nat} (h : l ≤ 40) : l ≤ sizeLine := by rw [sizeLine_eq]; omega
/-- behind the two cuts: both texts are what is left -/
def LevTail : List Stmt := (bodyOf (stAt 6)).drop 9
theorem walk_lev (g : Good F A n) (lc : Loc F nsLev (glLev fs t1 t2 t3)) (hs : ∀ c d, Fn F.S fs n [.str [c], .str [d]] (.int (subC c d))) (a b : List Nat) (m : Int) (ha : a.length ≤ 40) (hb : b.length ≤ 40)
    (tail : ∀ (x y : List Nat) (o1 o2 : Option V), x.length ≤ 40 → y.length ≤ 40 → Ex F A [some (.str x), some (.str y), some (.int m), o1, o2, none, none, none, none, none, none, none, none, none] [] LevTail (Gives (.int (levB x y m)))) :
    Ex F A [some (.str a), some (.str b), some (.int m), none, none, none, none, none, none, none, none, none, none, none] [] (bodyOf (stAt 6)) (Gives (.int (levF a b m))) := by
  refine s_if (ts_cmp (pu_var g lc .head) (pu_var g lc (.tail .head)) cm_eqs rfl) (fun h => ?_) (fun h => ?_)
  · refine s_ret pu_int ?_
    simp only [Gives, On, levF] at *
    simp at h
    simp [h]
  refine ex_nil ?_
  have hne : a ≠ b := by simpa using h
  refine s_asn g lc pu_int (.tail (.tail (.tail .head))) ?_ rfl
  refine Ex.seq (J := fun f G Λ => f = .next ∧ Λ = [] ∧ ∃ k : Nat, k ≤ a.length ∧ k ≤ b.length ∧ dropPre a b = (a.drop k, b.drop k) ∧ G = [some (.str a), some (.str b), some (.int m), some (.int k), none, none, none, none, none, none, none, none, none, none]) ?_ ?_
  · refine ex_while (fun j G Λ => ∃ k : Nat, j = a.length - k ∧ k ≤ a.length ∧ k ≤ b.length ∧ dropPre (a.drop k) (b.drop k) = dropPre a b ∧ Λ = [] ∧ G = [some (.str a), some (.str b), some (.int m), some (.int k), none, none, none, none, none, none, none, none, none, none]) a.length ⟨0, rfl, by omega, by omega, rfl, rfl, rfl⟩ ?_
    rintro j G Λ ⟨k, rfl, hk1, hk2, hd, rfl, rfl⟩
    refine ⟨_, ts_bool (ta_and (ts_val (pu_slice (pu_var g lc .head) (pu_var g lc (.tail (.tail (.tail .head)))) rfl .int .none (sz40 ha)) (tr_str (sz40 (by rw [pySlice_from]; simp; omega))) (fun _ => rfl)) fun h1 =>
      ta_and (ts_val (pu_slice (pu_var g lc (.tail .head)) (pu_var g lc (.tail (.tail (.tail .head)))) rfl .int .none (sz40 hb)) (tr_str (sz40 (by rw [pySlice_from]; simp; omega))) (fun _ => rfl)) fun h2 =>
      ta_and (ts_cmp (pu_item (pu_var g lc .head) (pu_var g lc (.tail (.tail (.tail .head)))) (itm_str (k := k) (ch := a.getD k 0) ?_ ?_ (by omega) (by omega))) (pu_item (pu_var g lc (.tail .head)) (pu_var g lc (.tail (.tail (.tail .head)))) (itm_str (k := k) (ch := b.getD k 0) ?_ ?_ (by omega) (by omega))) cm_eqs rfl) fun _ => ta_and0), fun hb => ?_, fun hb => ?_⟩
    all_goals rw [pySlice_from] at *
    · simp at h1; simp [seqIndex?]; omega
    · simp at h1; simp [h1]
    · simp at h2; simp [seqIndex?]; omega
    · simp at h2; simp [h2]
    · rw [pySlice_from] at hb
      simp at hb
      refine s_aug g lc (.tail (.tail (.tail .head))) pu_int inp_add (.tail (.tail (.tail .head))) (ex_nil ?_)
      exact ⟨a.length - (k + 1), by omega, k + 1, rfl, by omega, by omega, by rw [dropPre_step hb.1 hb.2.1 (by simpa [List.getD_eq_getElem?_getD] using hb.2.2), hd], rfl, rfl⟩
    · rw [pySlice_from] at hb
      refine ⟨rfl, rfl, k, hk1, hk2, ?_, rfl⟩
      rw [← hd]
      refine dropPre_stop ?_
      by_cases e1 : k < a.length
      · by_cases e2 : k < b.length
        · right; right
          intro e3
          simp [e1, e2] at hb
          simp [List.getD_eq_getElem?_getD, e1, e2] at e3
          exact hb e3
        · right; left; omega
      · left; omega
  rintro f G Λ ⟨rfl, rfl, k, hk1, hk2, hd, rfl⟩
  refine s_asn g lc (pu_slice (pu_var g lc .head) (pu_var g lc (.tail (.tail (.tail .head)))) rfl .int .none (sz40 ha)) .head ?_ rfl
  refine s_asn g lc (pu_slice (pu_var g lc (.tail .head)) (pu_var g lc (.tail (.tail (.tail .head)))) rfl .int .none (sz40 hb)) (.tail .head) ?_ rfl
  rw [pySlice_from, pySlice_from]
  have e1 : (dropPre a b).1 = a.drop k := by rw [hd]
  have e2 : (dropPre a b).2 = b.drop k := by rw [hd]
  have hla : (a.drop k).length ≤ 40 := by simp; omega
  have hlb : (b.drop k).length ≤ 40 := by simp; omega
  have hgoal : levF a b m = levB (dropPost (a.drop k) (b.drop k)).1 (dropPost (a.drop k) (b.drop k)).2 m := by unfold levF; rw [if_neg hne, e1, e2]
  rw [hgoal]
  clear hgoal e1 e2 hd hne h
  generalize a.drop k = x at hla hlb ⊢
  generalize b.drop k = y at hla hlb ⊢
  refine s_asn g lc pu_int (.tail (.tail (.tail (.tail .head)))) ?_ rfl
  refine Ex.seq (J := fun f G Λ => f = .next ∧ Λ = [] ∧ ∃ j : Nat, j ≤ x.length ∧ j ≤ y.length ∧ dropPost x y = (x.take (x.length - j), y.take (y.length - j)) ∧ G = [some (.str x), some (.str y), some (.int m), some (.int k), some (.int (-(j : Int))), none, none, none, none, none, none, none, none, none]) ?_ ?_
  · refine ex_while (fun q G Λ => ∃ j : Nat, q = x.length - j ∧ j ≤ x.length ∧ j ≤ y.length ∧ dropPre (x.reverse.drop j) (y.reverse.drop j) = dropPre x.reverse y.reverse ∧ Λ = [] ∧ G = [some (.str x), some (.str y), some (.int m), some (.int k), some (.int (-(j : Int))), none, none, none, none, none, none, none, none, none]) x.length ⟨0, rfl, by omega, by omega, rfl, rfl, rfl⟩ ?_
    rintro q G Λ ⟨j, rfl, hj1, hj2, hd, rfl, rfl⟩
    refine ⟨_, ts_bool (ta_and (ts_val (pu_slice (hi := some _) (pu_var g lc .head) rfl (pu_or (pu_var g lc (.tail (.tail (.tail (.tail .head))))) tr_int fun _ => pu_none) .none partOr (sz40 hla)) (tr_str (sz40 (by rw [pySlice_to hj1]; simp; omega))) (fun _ => rfl)) fun h1 =>
      ta_and (ts_val (pu_slice (hi := some _) (pu_var g lc (.tail .head)) rfl (pu_or (pu_var g lc (.tail (.tail (.tail (.tail .head))))) tr_int fun _ => pu_none) .none partOr (sz40 hlb)) (tr_str (sz40 (by rw [pySlice_to hj2]; simp; omega))) (fun _ => rfl)) fun h2 =>
      ta_and (ts_cmp (pu_item (pu_var g lc .head) (pu_sub (pu_var g lc (.tail (.tail (.tail (.tail .head))))) pu_int) (itm_str (k := x.length - 1 - j) (ch := x.reverse.getD j 0) ?_ ?_ (by omega) (by omega))) (pu_item (pu_var g lc (.tail .head)) (pu_sub (pu_var g lc (.tail (.tail (.tail (.tail .head))))) pu_int) (itm_str (k := y.length - 1 - j) (ch := y.reverse.getD j 0) ?_ ?_ (by omega) (by omega))) cm_eqs rfl) fun _ => ta_and0), fun hb => ?_, fun hb => ?_⟩
    · rw [pySlice_to hj1] at h1
      have : j < x.length := by simp at h1; omega
      exact seqIndex_neg this
    · rw [pySlice_to hj1] at h1
      have : j < x.length := by simp at h1; omega
      simp [this]
    · rw [pySlice_to hj2] at h2
      have : j < y.length := by simp at h2; omega
      exact seqIndex_neg this
    · rw [pySlice_to hj2] at h2
      have : j < y.length := by simp at h2; omega
      simp [this]
    · rw [pySlice_to hj1, pySlice_to hj2] at hb
      have h1 : j < x.length := by simp at hb; omega
      have h2 : j < y.length := by simp at hb; omega
      refine s_aug g lc (.tail (.tail (.tail (.tail .head)))) pu_int inp_sub (.tail (.tail (.tail (.tail .head)))) (ex_nil ?_)
      refine ⟨x.length - (j + 1), by omega, j + 1, rfl, by omega, by omega, ?_, rfl, ?_⟩
      · rw [dropPre_step (by simpa using h1) (by simpa using h2) ?_, hd]
        simp at hb; exact hb.2.2
      · have : (-(j : Int)) - 1 = -((j + 1 : Nat) : Int) := by omega
        rw [this]
    · rw [pySlice_to hj1, pySlice_to hj2] at hb
      refine ⟨rfl, rfl, j, hj1, hj2, ?_, rfl⟩
      unfold dropPost
      rw [← hd, dropPre_stop]
      · simp [List.drop_reverse]
      · by_cases e1 : j < x.length
        · by_cases e2 : j < y.length
          · right; right
            intro e3
            have z1 : x.length - j ≠ 0 := by omega
            have z2 : y.length - j ≠ 0 := by omega
            simp at hb
            exact hb (by omega) (by rintro rfl; simp at e1) (by omega) (by rintro rfl; simp at e2) e3
          · right; left; simp; omega
        · left; simp; omega
  rintro f G Λ ⟨rfl, rfl, j, hj1, hj2, hd, rfl⟩
  refine s_asn g lc (pu_slice (hi := some _) (pu_var g lc .head) rfl (pu_or (pu_var g lc (.tail (.tail (.tail (.tail .head))))) tr_int fun _ => pu_none) .none partOr (sz40 hla)) .head ?_ rfl
  refine s_asn g lc (pu_slice (hi := some _) (pu_var g lc (.tail .head)) rfl (pu_or (pu_var g lc (.tail (.tail (.tail (.tail .head))))) tr_int fun _ => pu_none) .none partOr (sz40 hlb)) (.tail .head) ?_ rfl
  rw [pySlice_to hj1, pySlice_to hj2, hd]
  exact tail _ _ _ _ (by simp; omega) (by simp; omega)
end
end Mine
end

/-! W3 -/
section
open PySem PySem.W PyProof.Rows PySem.Calls
set_option maxRecDepth 100000
set_option autoImplicit false
set_option linter.unusedVariables false
namespace Mine

/-! ranges from nought -/
def natsV (n : Nat) : List V := (List.range n).map fun (i : Nat) => V.int (i : Int)
theorem natsV_len (n : Nat) : (natsV n).length = n := by simp [natsV]
theorem natsV_get {n i : Nat} {v : V} (h : (natsV n)[i]? = some v) : i < n ∧ v = .int (i : Int) := by
  simp only [natsV, List.getElem?_map] at h
  obtain ⟨k, hk, rfl⟩ := Option.map_eq_some_iff.mp h
  obtain ⟨h1, h2⟩ := List.getElem?_eq_some_iff.mp hk
  simp at h1 h2
  exact ⟨h1, by rw [h2]⟩
theorem fits_small (n : Nat) (hn : n ≤ 1000) : Builtin.Range.small 0 (n : Int) 1 = true ∧ Builtin.Range.rangeSize 0 (n : Int) 1 = n := by
  have : ∀ k : Fin 1001, Builtin.Range.small 0 (k.val : Int) 1 = true ∧ Builtin.Range.rangeSize 0 (k.val : Int) 1 = k.val := by decide +kernel
  exact this ⟨n, by omega⟩
theorem itb_nats {F : Fm} {A : Around} {n : Nat} (hd : A.handled = none) (hn : n ≤ 1000) : Itb F A (.rng 0 (n : Int) 1) (natsV n) := by
  have h := itb_rng (F := F) (A := A) (m := n) hd (fits_small n hn).1 (fits_small n hn).2
  have e : rangeL 0 1 n = natsV n := by
    unfold rangeL natsV
    refine List.map_congr_left fun i _ => ?_
    congr 1; omega
  rw [e] at h; exact h
theorem vInts_set (l : List Int) (k : Nat) (r : Int) : (vInts l).set k (.int r) = vInts (l.set k r) := by unfold vInts; rw [List.map_set]
theorem vInts_get {l : List Int} {k : Nat} (h : k < l.length) : (vInts l)[k]? = some (.int (l.getD k 0)) := by simp [vInts, h]
theorem vInts_len (l : List Int) : (vInts l).length = l.length := by simp [vInts]
theorem row_range : ∀ l : Nat, l ≤ 40 → 0 < l → Builtin.Range.small 2 (2 * ((l : Int) + 1)) 2 = true ∧ Builtin.Range.rangeSize 2 (2 * ((l : Int) + 1)) 2 = l ∧ Builtin.divisionGoesByPylong (2 * ((l : Int) + 1) - 2) 2 = false := by
  intro l h1 h2
  have : ∀ k : Fin 41, 0 < k.val → Builtin.Range.small 2 (2 * ((k.val : Int) + 1)) 2 = true ∧ Builtin.Range.rangeSize 2 (2 * ((k.val : Int) + 1)) 2 = k.val ∧ Builtin.divisionGoesByPylong (2 * ((k.val : Int) + 1) - 2) 2 = false := by decide +kernel
  exact this ⟨l, by omega⟩ h2
theorem rangeInts_len (a c : Int) (n : Nat) : (rangeInts a c n).length = n := by
  unfold rangeInts; simp
theorem getD_append_right {l r : List Int} {k : Nat} (h : l.length = k) : (l ++ r.drop k).getD k 0 = r.getD k 0 := by
  subst h
  simp [List.getD_eq_getElem?_getD, List.getElem?_append_right]
theorem set_append_drop {l r : List Int} {k : Nat} {x : Int} (h : l.length = k) (hk : k < r.length) : (l ++ r.drop k).set k x = (l ++ [x]) ++ r.drop (k + 1) := by
  subst h
  rw [List.set_append_right _ _ (Nat.le_refl _), Nat.sub_self]
  simp only [List.append_assoc, List.singleton_append]
  congr 1
  rw [List.drop_eq_getElem_cons hk]; rfl

section
variable {F : Fm} {A : Around} {n : Nat} {fs : Addr} {t1 t2 t3 : Tok}
theorem walk_tail2 (g : Good F A n) (lc : Loc F nsLev (glLev fs t1 t2 t3)) (hk : keepIn F.S.K (.ref fs) = true) (hs : ∀ c d, Fn F.S fs n [.str [c], .str [d]] (.int (subC c d))) (x y : List Nat) (m : Int) (o1 o2 : Option V)
    (hx : x.length ≤ 40) (hy : y.length ≤ 40) (hx0 : 0 < x.length) (hle : x.length ≤ y.length) :
    Ex F A [some (.str x), some (.str y), some (.int m), o1, o2, none, none, none, none, none, none, none, none, none] [] ((bodyOf (stAt 6)).drop 12) (Gives (.int (levC x y m))) := by
  have hd := g.hd
  have ln : ∀ {G Λ} {o : Expr} {xs : List Nat} {pos pos' : Pos}, Pu F A G Λ (.Name (Str.ofString "len") pos') (.val (.builtin "len")) → xs.length ≤ 40 → Pu F A G Λ o (.str xs) → starEach [o] F.env = (false, eval o F.env) :: starEach [] F.env → Pu F A G Λ (.Call (.Name (Str.ofString "len") pos') [o] [] pos) (.int xs.length) :=
    fun hf hl ho he => pu_call g hf (.cons ho .nil he) (cl_lenS (sz40 hl)) rfl rfl he rfl
  refine s_if (ts_cmp (pu_mul (pu_sub (ln (pu_gl g lc (.tail (.tail .head))) hy (pu_var g lc (.tail .head)) rfl) (ln (pu_gl g lc (.tail (.tail .head))) hx (pu_var g lc .head) rfl)) (pu_glI g lc .head) (.inr (by decide))) (pu_var g lc (.tail (.tail .head))) cm_gt rfl) (fun h => ?_) (fun h => ?_)
  · refine s_ret (pu_add (pu_var g lc (.tail (.tail .head))) pu_int) ?_
    simp only [decide_eq_true_eq] at h
    simp only [On, Gives, levC]
    rw [if_pos h]
  refine ex_nil ?_
  simp only [decide_eq_false_iff_not] at h
  have hgoal : levC x y m = outer x m y 0 (rangeInts 2 2 x.length) 0 := by unfold levC; rw [if_neg h]
  rw [hgoal]
  obtain ⟨r1, r2, r3⟩ := row_range x.length hx hx0
  refine s_asnE g lc (ev_call' g (pu_gl g lc (.tail (.tail (.tail .head)))) (.cons (pu_call g (pu_gl g lc (.tail (.tail (.tail (.tail .head))))) (.cons (pu_glI g lc .head) (.cons (pu_mul (pu_glI g lc .head) (pu_add (ln (pu_gl g lc (.tail (.tail .head))) hx (pu_var g lc .head) rfl) pu_int) (.inl (by decide))) (.cons (pu_glI g lc .head) .nil rfl) rfl) rfl) (cl_range3 (by decide) r3) rfl rfl rfl rfl) .nil rfl)
    (cl_listRange hd r1 r2 (by omega) (fun d => ⟨_, .tail (.tail (.tail (.tail (.tail .head)))), ?_⟩)) rfl rfl rfl rfl) rfl
  refine s_asn g lc pu_int (.tail (.tail (.tail (.tail (.tail (.tail .head)))))) ?_ rfl
  have hout : ∀ row : List Int, row.length = x.length → True := fun _ _ => trivial
  refine Ex.seq (J := fun f G Λ => match f with
      | .next => ∃ (res : Int) (row : List Int) (o3 o4 o5 o6 o7 o8 o9 : Option V), outer x m y 0 (rangeInts 2 2 x.length) 0 = res ∧ Λ = [(d, .lst (vInts row))] ∧ G = [some (.str x), some (.str y), some (.int m), o1, o2, some (.ref d), some (.int res), o3, o4, o5, o6, o7, o8, o9]
      | .ret v => v = .int (outer x m y 0 (rangeInts 2 2 x.length) 0)
      | _ => False) ?_ ?_
  · refine ex_for (pu_call g (pu_gl g lc (.tail (.tail (.tail (.tail .head))))) (.cons (ln (pu_gl g lc (.tail (.tail .head))) hy (pu_var g lc (.tail .head)) rfl) .nil rfl) cl_range1 rfl rfl rfl rfl) (itb_nats hd (by omega))
      (fun j G Λ => ∃ (res : Int) (row : List Int) (o3 o4 o5 o6 o7 o8 o9 : Option V), row.length = x.length ∧ outer x m y 0 (rangeInts 2 2 x.length) 0 = outer x m (y.drop j) j row res ∧ Λ = [(d, .lst (vInts row))] ∧ G = [some (.str x), some (.str y), some (.int m), o1, o2, some (.ref d), some (.int res), o3, o4, o5, o6, o7, o8, o9])
      ⟨0, _, _, _, _, _, _, _, _, rangeInts_len _ _ _, rfl, rfl, rfl⟩ ?_ ?_ (fun _ => rfl)
    · rintro j G Λ v hj hv ⟨res, row, o3, o4, o5, o6, o7, o8, o9, hrow, hout, rfl, rfl⟩
      obtain ⟨hjy, rfl⟩ := natsV_get hv
      refine tgt_loc g lc (.tail (.tail (.tail (.tail (.tail (.tail (.tail .head))))))) ?_
      refine s_asn g lc (pu_item (pu_var g lc (.tail .head)) (pu_var g lc (.tail (.tail (.tail (.tail (.tail (.tail (.tail .head)))))))) (itm_str (k := j) (ch := y.getD j 0) (seqIndex_pos hjy) (by simp [hjy]) (by omega) (by omega))) (.tail (.tail (.tail (.tail (.tail (.tail (.tail (.tail .head)))))))) ?_ rfl
      refine s_asn2 (pu_mul (pu_var g lc (.tail (.tail (.tail (.tail (.tail (.tail (.tail .head)))))))) (pu_glI g lc .head) (.inr (by decide))) (tgt_loc g lc (.tail (.tail (.tail (.tail (.tail (.tail (.tail (.tail (.tail .head))))))))) (tgt_loc g lc (.tail (.tail (.tail (.tail (.tail (.tail .head)))))) ?_))
      refine s_asn g lc pu_int (.tail (.tail (.tail (.tail (.tail (.tail (.tail (.tail (.tail (.tail .head)))))))))) ?_ rfl
      generalize hc : y.getD j 0 = c
      refine Ex.seq (J := fun f G Λ => f = .next ∧ ∃ (o7 o8 o9 : Option V), Λ = [(d, .lst (vInts (inS c x row (j * 2) x.length).1))] ∧ G = [some (.str x), some (.str y), some (.int m), o1, o2, some (.ref d), some (.int (inS c x row (j * 2) x.length).2.2.1), some (.int j), some (.str [c]), some (.int (inS c x row (j * 2) x.length).2.1), some (.int (inS c x row (j * 2) x.length).2.2.2), o7, o8, o9]) ?_ ?_
      · refine ex_for (pu_call g (pu_gl g lc (.tail (.tail (.tail (.tail .head))))) (.cons (ln (pu_gl g lc (.tail (.tail .head))) hx (pu_var g lc .head) rfl) .nil rfl) cl_range1 rfl rfl rfl rfl) (itb_nats hd (by omega))
          (fun k G Λ => ∃ (o7 o8 o9 : Option V), Λ = [(d, .lst (vInts ((inS c x row (j * 2) k).1 ++ row.drop k)))] ∧ G = [some (.str x), some (.str y), some (.int m), o1, o2, some (.ref d), some (.int (inS c x row (j * 2) k).2.2.1), some (.int j), some (.str [c]), some (.int (inS c x row (j * 2) k).2.1), some (.int (inS c x row (j * 2) k).2.2.2), o7, o8, o9])
          ⟨_, _, _, rfl, rfl⟩ ?_ ?_ (fun _ => rfl)
        · rintro k G Λ v hk' hv ⟨p7, p8, p9, rfl, rfl⟩
          obtain ⟨hkx, rfl⟩ := natsV_get hv
          have hil := inS_len c x row (j * 2) k
          have hlen : ((inS c x row (j * 2) k).1 ++ row.drop k).length = x.length := by simp [hil]; omega
          have hget : (vInts ((inS c x row (j * 2) k).1 ++ row.drop k))[k]? = some (.int (row.getD k 0)) := by rw [vInts_get (by omega), getD_append_right hil]
          refine tgt_loc g lc (.tail (.tail (.tail (.tail (.tail (.tail (.tail (.tail (.tail (.tail (.tail .head))))))))))) ?_
          refine s_asn g lc (pu_add (pu_var g lc (.tail (.tail (.tail (.tail (.tail (.tail (.tail (.tail (.tail .head)))))))))) (pu_call g (pu_gl g lc (.tail (.tail (.tail (.tail (.tail (.tail .head))))))) (.cons (pu_var g lc (.tail (.tail (.tail (.tail (.tail (.tail (.tail (.tail .head))))))))) (.cons (pu_item (pu_var g lc .head) (pu_var g lc (.tail (.tail (.tail (.tail (.tail (.tail (.tail (.tail (.tail (.tail (.tail .head)))))))))))) (itm_str (k := k) (ch := x.getD k 0) (seqIndex_pos hkx) (by simp [hkx]) (by omega) (by omega))) .nil rfl) rfl) (cl_fn g (hs _ _)) hk rfl rfl rfl))
            (.tail (.tail (.tail (.tail (.tail (.tail (.tail (.tail (.tail (.tail (.tail (.tail .head)))))))))))) ?_ rfl
          refine s_asn g lc (pu_item (pu_var g lc (.tail (.tail (.tail (.tail (.tail .head)))))) (pu_var g lc (.tail (.tail (.tail (.tail (.tail (.tail (.tail (.tail (.tail (.tail (.tail .head)))))))))))) (itm_lst (k := k) (.inr ⟨d, rfl, .head _⟩) (by rw [vInts_len, hlen]; exact seqIndex_pos hkx) hget (by omega) (by omega))) (.tail (.tail (.tail (.tail (.tail (.tail (.tail (.tail (.tail .head))))))))) ?_ rfl
          refine s_asn g lc (pu_add (pu_call g (pu_gl g lc (.tail (.tail (.tail (.tail (.tail .head)))))) (.cons (pu_var g lc (.tail (.tail (.tail (.tail (.tail (.tail .head))))))) (.cons (pu_var g lc (.tail (.tail (.tail (.tail (.tail (.tail (.tail (.tail (.tail .head)))))))))) .nil rfl) rfl) (cl_min2 hd) rfl rfl rfl rfl) (pu_glI g lc .head)) (.tail (.tail (.tail (.tail (.tail (.tail (.tail (.tail (.tail (.tail (.tail (.tail (.tail .head))))))))))))) ?_ rfl
          refine s_asn g lc (pu_call g (pu_gl g lc (.tail (.tail (.tail (.tail (.tail .head)))))) (.cons (pu_var g lc (.tail (.tail (.tail (.tail (.tail (.tail (.tail (.tail (.tail (.tail (.tail (.tail (.tail .head)))))))))))))) (.cons (pu_var g lc (.tail (.tail (.tail (.tail (.tail (.tail (.tail (.tail (.tail (.tail (.tail (.tail .head))))))))))))) .nil rfl) rfl) (cl_min2 hd) rfl rfl rfl rfl) (.tail (.tail (.tail (.tail (.tail (.tail .head)))))) ?_ rfl
          refine s_setItem (k := k) (pu_var g lc (.tail (.tail (.tail (.tail (.tail (.tail .head))))))) (pu_var g lc (.tail (.tail (.tail (.tail (.tail .head)))))) (pu_var g lc (.tail (.tail (.tail (.tail (.tail (.tail (.tail (.tail (.tail (.tail (.tail .head)))))))))))) .head (by omega) (by omega) (by rw [vInts_len, hlen]; exact hkx) (by omega) ?_
          rw [vInts_set, set_append_drop hil (by omega)]
          refine s_if (ts_cmp (pu_var g lc (.tail (.tail (.tail (.tail (.tail (.tail .head))))))) (pu_var g lc (.tail (.tail (.tail (.tail (.tail (.tail (.tail (.tail (.tail (.tail .head))))))))))) cm_lt rfl) (fun h => ?_) (fun h => ?_)
          · refine s_asn g lc (pu_var g lc (.tail (.tail (.tail (.tail (.tail (.tail .head))))))) (.tail (.tail (.tail (.tail (.tail (.tail (.tail (.tail (.tail (.tail .head)))))))))) ?_ rfl
            refine ex_nil (ex_nil ?_)
            simp only [decide_eq_true_eq] at h
            refine ⟨some (.int k), some (.int ((inS c x row (j * 2) k).2.1 + subC c (x.getD k 0))), some (.int (min (inS c x row (j * 2) k).2.2.1 (row.getD k 0) + 2)), rfl, ?_⟩
            simp only [inS]
            rw [if_pos h]
          · refine ex_nil (ex_nil ?_)
            simp only [decide_eq_false_iff_not] at h
            refine ⟨some (.int k), some (.int ((inS c x row (j * 2) k).2.1 + subC c (x.getD k 0))), some (.int (min (inS c x row (j * 2) k).2.2.1 (row.getD k 0) + 2)), rfl, ?_⟩
            simp only [inS]
            rw [if_neg h]
        · rintro G Λ ⟨p7, p8, p9, rfl, rfl⟩
          rw [natsV_len]
          refine ⟨rfl, p7, p8, p9, ?_, rfl⟩
          rw [List.drop_eq_nil_of_le (by omega), List.append_nil]
      · rintro f G Λ ⟨rfl, p7, p8, p9, rfl, rfl⟩
        have hstep : outer x m (y.drop j) j row res = if (inS c x row (j * 2) x.length).2.2.2 > m then m + 1 else outer x m (y.drop (j + 1)) (j + 1) (inS c x row (j * 2) x.length).1 (inS c x row (j * 2) x.length).2.2.1 := by
          rw [List.drop_eq_getElem_cons hjy]
          have : y[j] = c := by rw [← hc]; simp [hjy]
          rw [this]; rfl
        refine s_if (ts_cmp (pu_var g lc (.tail (.tail (.tail (.tail (.tail (.tail (.tail (.tail (.tail (.tail .head))))))))))) (pu_var g lc (.tail (.tail .head))) cm_gt rfl) (fun h => ?_) (fun h => ?_)
        · refine s_ret (pu_add (pu_var g lc (.tail (.tail .head))) pu_int) ?_
          simp only [decide_eq_true_eq] at h
          rw [if_pos h] at hstep
          show V.int (m + 1) = _
          rw [hout, hstep]
        · refine ex_nil (ex_nil ?_)
          simp only [decide_eq_false_iff_not] at h
          rw [if_neg h] at hstep
          exact ⟨_, _, _, _, _, _, _, _, _, inS_len _ _ _ _ _, by rw [hout, hstep], rfl, rfl⟩
    · rintro G Λ ⟨res, row, o3, o4, o5, o6, o7, o8, o9, hrow, hout, rfl, rfl⟩
      rw [natsV_len, List.drop_eq_nil_of_le (Nat.le_refl _)] at hout
      exact ⟨res, row, o3, o4, o5, o6, o7, o8, o9, hout, rfl, rfl⟩
  · rintro f G Λ hJ
    cases f with
    | next =>
      obtain ⟨res, row, o3, o4, o5, o6, o7, o8, o9, hout, rfl, rfl⟩ := hJ
      refine s_ret (pu_var g lc (.tail (.tail (.tail (.tail (.tail (.tail .head))))))) ?_
      show V.int res = _
      rw [hout]
    | ret v => exact hJ
    | brk => exact hJ.elim
    | cont => exact hJ.elim
end
end Mine
end

/-! W4 -/
section
open PySem PySem.W PyProof.Rows PySem.Calls
set_option maxRecDepth 100000
set_option autoImplicit false
set_option linter.unusedVariables false
namespace Mine
section
variable {F : Fm} {A : Around} {n : Nat} {fs : Addr} {t1 t2 t3 : Tok}
theorem walk_tail (g : Good F A n) (lc : Loc F nsLev (glLev fs t1 t2 t3)) (hk : keepIn F.S.K (.ref fs) = true) (hs : ∀ c d, Fn F.S fs n [.str [c], .str [d]] (.int (subC c d))) (x y : List Nat) (m : Int) (o1 o2 : Option V)
    (hx : x.length ≤ 40) (hy : y.length ≤ 40) :
    Ex F A [some (.str x), some (.str y), some (.int m), o1, o2, none, none, none, none, none, none, none, none, none] [] LevTail (Gives (.int (levB x y m))) := by
  have hd := g.hd
  have ln : ∀ {G Λ} {o : Expr} {xs : List Nat} {pos pos' : Pos}, Pu F A G Λ (.Name (Str.ofString "len") pos') (.val (.builtin "len")) → xs.length ≤ 40 → Pu F A G Λ o (.str xs) → starEach [o] F.env = (false, eval o F.env) :: starEach [] F.env → Pu F A G Λ (.Call (.Name (Str.ofString "len") pos') [o] [] pos) (.int xs.length) :=
    fun hf hl ho he => pu_call g hf (.cons ho .nil he) (cl_lenS (sz40 hl)) rfl rfl he rfl
  refine s_if (ts_bool (ta_or (ts_not (ts_val (pu_var g lc .head) (tr_str (sz40 hx)) (fun _ => rfl))) fun _ => ta_or (ts_not (ts_val (pu_var g lc (.tail .head)) (tr_str (sz40 hy)) (fun _ => rfl))) fun _ => ta_or0)) (fun h => ?_) (fun h => ?_)
  · refine s_ret (pu_mul (pu_glI g lc .head) (pu_add (ln (pu_gl g lc (.tail (.tail .head))) hx (pu_var g lc .head) rfl) (ln (pu_gl g lc (.tail (.tail .head))) hy (pu_var g lc (.tail .head)) rfl)) (.inl (by decide))) ?_
    simp at h
    simp only [On, Gives, levB]
    rw [if_pos h]
  refine ex_nil ?_
  simp at h
  have hx0 : 0 < x.length := by cases x with | nil => exact absurd rfl h.1 | cons _ _ => simp
  have hy0 : 0 < y.length := by cases y with | nil => exact absurd rfl h.2 | cons _ _ => simp
  have hgoal : levB x y m = if y.length < x.length then levC y x m else levC x y m := by unfold levB; rw [if_neg (by simp [h])]
  rw [hgoal]
  refine s_if (ts_bool (ta_or (ts_cmp (ln (pu_gl g lc (.tail (.tail .head))) hx (pu_var g lc .head) rfl) (pu_glI g lc (.tail .head)) cm_gt rfl) fun _ => ta_or (ts_cmp (ln (pu_gl g lc (.tail (.tail .head))) hy (pu_var g lc (.tail .head)) rfl) (pu_glI g lc (.tail .head)) cm_gt rfl) fun _ => ta_or0)) (fun h => ?_) (fun h => ?_)
  · simp at h; omega
  refine ex_nil ?_
  refine s_if (ts_cmp (ln (pu_gl g lc (.tail (.tail .head))) hy (pu_var g lc (.tail .head)) rfl) (ln (pu_gl g lc (.tail (.tail .head))) hx (pu_var g lc .head) rfl) cm_lt rfl) (fun h => ?_) (fun h => ?_)
  · simp only [decide_eq_true_eq] at h
    rw [if_pos (by omega)]
    refine s_asnSw g lc (pu_tup (.cons (pu_var g lc (.tail .head)) (.cons (pu_var g lc .head) .nil rfl) rfl) (sz40 (by simp))) (.tail .head) .head (ex_nil ?_) rfl (swapped2 lc g.fk (.head _) (.tail _ (.head _)) rfl (by decide +kernel) rfl rfl rfl)
    exact walk_tail2 g lc hk hs y x m o1 o2 hy hx hy0 (by omega)
  · simp only [decide_eq_false_iff_not] at h
    rw [if_neg (by omega)]
    refine ex_nil ?_
    exact walk_tail2 g lc hk hs x y m o1 o2 hx hy hx0 (by omega)
end

/-- the contracts -/
theorem fn_sub {S : St} {f : Addr} {r : Rest} {t1 t2 : Tok} (ok : StOk S) (d : Def S f (fdOf (stAt 5) r)) (h1 : TopName S (Str.ofString "_CASE_COST") (.int 1 t1)) (h2 : TopName S (Str.ofString "_MOVE_COST") (.int 2 t2)) (n : Nat) (x y : Nat) :
    Fn S f (n + 1) [.str [x], .str [y]] (.int (subC x y)) := by
  refine fn_of (names := nsSub) (more := []) ok d rfl rfl (fun xs hx => ?_) (by decide +kernel) (by decide +kernel : ∀ x ∈ (scopeOf (stAt 5)).names, x.2 ≠ NameKind.cell) (by decide +kernel : ∀ x ∈ nsSub, (scopeOf (stAt 5)).names.lookup x = some NameKind.local) (fun L P Z₀ A g => ?_)
  · match xs, hx with
    | [a, b], _ => rfl
  · refine walk_sub (t1 := t1) (t2 := t2) g (loc_def rfl rfl (by decide +kernel : (nsSub.all fun x => decide ((scopeOf (stAt 5)).names.lookup x = some .local) && !(x == ("__debug__" : Str))) = true) ?_ ?_) x y
    · rfl
    · intro p hp
      simp only [List.mem_cons, List.not_mem_nil, or_false] at hp
      rcases hp with rfl | rfl
      · exact h1
      · exact h2
theorem fn_lev {S : St} {f fs : Addr} {r : Rest} {t1 t2 t3 : Tok} (ok : StOk S) (d : Def S f (fdOf (stAt 6) r)) (hk : keepIn S.K (.ref fs) = true) (hg : ∀ p ∈ glLev fs t1 t2 t3, TopName S p.1 p.2) {n : Nat} (hs : ∀ c d, Fn S fs n [.str [c], .str [d]] (.int (subC c d))) (a b : List Nat) (m : Int) (ha : a.length ≤ 40) (hb : b.length ≤ 40) :
    Fn S f (n + 1) [.str a, .str b, .int m] (.int (levF a b m)) := by
  refine fn_of (names := nsLev.take 3) (more := nsLev.drop 3) ok d rfl rfl (fun xs hx => ?_) (by decide +kernel) (by decide +kernel : ∀ x ∈ (scopeOf (stAt 6)).names, x.2 ≠ NameKind.cell) (by decide +kernel : ∀ x ∈ nsLev.take 3, (scopeOf (stAt 6)).names.lookup x = some NameKind.local) (fun L P Z₀ A g => ?_)
  · match xs, hx with
    | [a, b, c], _ => rfl
  · have lc : Loc (defFm S (fdOf (stAt 6) r) f L P Z₀ nsLev) nsLev (glLev fs t1 t2 t3) := loc_def rfl rfl (by decide +kernel : (nsLev.all fun x => decide ((scopeOf (stAt 6)).names.lookup x = some .local) && !(x == ("__debug__" : Str))) = true) rfl hg
    exact walk_lev g lc hs a b m ha hb fun x y o1 o2 hx hy => walk_tail g lc hk hs x y m o1 o2 hx hy
end Mine
end

/-! TL7 -/
section
open PySem PySem.W PyProof.Rows PySem.Calls
set_option maxRecDepth 100000
set_option autoImplicit false
set_option linter.unusedVariables false
namespace Mine

/-- an attribute by its name -/
inductive AttrAt : List Str → List V → Str → V → Prop where
  | head {x : Str} {v : V} {ns : List Str} {vs : List V} : AttrAt (x :: ns) (v :: vs) x v
  | tail {x y : Str} {v u : V} {ns : List Str} {vs : List V} (hn : (y == x) = false) : AttrAt ns vs x v → AttrAt (y :: ns) (u :: vs) x v
theorem KeysAre.get {Z : Frz} {ns : List Str} {vs : List V} {x : Str} {v : V} (h : AttrAt ns vs x v) : ∀ {es : List DictEntry}, KeysAre ns es → AllIs Z vs (es.map fun e => e.val) → ∃ y, getL x es = some (some y) ∧ v.is Z y := by
  induction h with
  | head =>
    intro es k q
    cases es with
    | nil => exact k.elim
    | cons e es =>
      obtain ⟨⟨t, hk⟩, _⟩ := k
      obtain ⟨y, ys, e1, hy, _⟩ := q.inv
      cases e1
      refine ⟨_, ?_, hy⟩
      simp only [getL, List.find?_cons, hk, Value.isStr, beq_self_eq_true]
  | tail hn _ ih =>
    intro es k q
    cases es with
    | nil => exact k.elim
    | cons e es =>
      obtain ⟨⟨t, hk⟩, k'⟩ := k
      obtain ⟨y, ys, e1, _, q'⟩ := q.inv
      cases e1
      obtain ⟨z, hz, hv⟩ := ih k' q'
      refine ⟨z, ?_, hv⟩
      have h2 : e.refKey = false := by simp only [DictEntry.refKey, hk]
      simp only [getL, List.find?_cons, hk, Value.isStr, hn, List.any_cons, h2, Bool.false_or] at hz ⊢
      exact hz
theorem KeysAre.none {ns : List Str} {x : Str} : ∀ {es : List DictEntry}, KeysAre ns es → (ns.all fun y => !(y == x)) = true → getL x es = some none := by
  induction ns with
  | nil => intro es k _; cases es with | nil => rfl | cons e es => exact k.elim
  | cons n ns ih =>
    intro es k h
    cases es with
    | nil => exact k.elim
    | cons e es =>
      obtain ⟨⟨t, hk⟩, k'⟩ := k
      simp only [List.all_cons, Bool.and_eq_true, Bool.not_eq_true'] at h
      have h1 : e.key.isStr x = false := by rw [hk]; exact h.1
      have h2 : e.refKey = false := by simp only [DictEntry.refKey, hk]
      have := ih k' h.2
      simp only [getL, List.find?_cons, h1, List.any_cons, h2, Bool.false_or] at this ⊢
      exact this
theorem KeysAre.put {ns : List Str} {x : Str} {hs : Int} {t : Tok} {v : Value} : ∀ {es : List DictEntry}, KeysAre ns es → (ns.all fun y => !(y == x)) = true → KeysAre (ns ++ [x]) (putL x hs (.str x t) v es) ∧ (putL x hs (.str x t) v es).map (fun e => e.val) = es.map (fun e => e.val) ++ [v] := by
  induction ns with
  | nil => intro es k _; cases es with | nil => exact ⟨⟨⟨t, rfl⟩, trivial⟩, rfl⟩ | cons e es => exact k.elim
  | cons n ns ih =>
    intro es k h
    cases es with
    | nil => exact k.elim
    | cons e es =>
      obtain ⟨⟨t', hk⟩, k'⟩ := k
      simp only [List.all_cons, Bool.and_eq_true, Bool.not_eq_true'] at h
      have h1 : e.key.isStr x = false := by rw [hk]; exact h.1
      obtain ⟨a, b⟩ := ih k' h.2
      simp only [putL, h1]
      exact ⟨⟨⟨t', hk⟩, a⟩, by simp [b]⟩
theorem KeysAre.length : ∀ {ns : List Str} {es : List DictEntry}, KeysAre ns es → es.length = ns.length
  | [], [], _ => rfl
  | _ :: _, _ :: _, k => by simp [KeysAre.length k.2]
  | [], _ :: _, k => k.elim
  | _ :: _, [], k => k.elim

/-- what the class is -/
structure ClsOk (S : St) (C : Addr) (attrs : List Str) : Prop where
  plain : plainGet S.K C (Str.ofString "") = true
  hasD : hasDictIn S.K C = true
  setA : findIn S.K (.ref C) "__setattr__" = some (some (.builtin "object.__setattr__"))
  over : plainOver S.K C = true
  none : ∀ x ∈ attrs, findIn S.K (.ref C) x = some none
/-- a value that an attribute may hand on -/
def Handed : V → Prop
  | .val y => handedIn y = true
  | _ => True
theorem Handed.of {Z : Frz} {v : V} {y : Value} (h : Handed v) (k : v.is Z y) : handedIn y = true := by
  cases v with
  | val z => have := isVal k; subst this; exact h
  | int i => obtain ⟨t, rfl⟩ := isInt k; rfl
  | str x => obtain ⟨t, rfl⟩ := isStr k; rfl
  | bool b => have := isBool k; subst this; rfl
  | none => have := isNone k; subst this; rfl
  | lst vs => obtain ⟨a, _, _, rfl, _⟩ := isLst k; rfl
  | tup vs => obtain ⟨a, _, _, rfl, _⟩ := isTup k; rfl
  | rng a b c => simp only [V.is] at k; obtain ⟨r, _, rfl, _⟩ := k; rfl
  | inst C ns vs => simp only [V.is] at k; obtain ⟨r, _, _, _, rfl, _⟩ := k; rfl

section
variable {F : Fm} {A : Around} {G G' G₁ : List (Option V)} {Λ Λ' Λ₁ X : Led} {e l r : Expr} {v u a b c : V} {P P' : V → Led → Prop} {PS : List V → Led → Prop} {R R' : Post} {n : Nat} {rest ss body orelse : List Stmt} {st : Stmt} {pos px py pt apos : Pos} {x : Str} {ns nms attrs : List Str} {gl : List (Str × Value)} {i j k : Int} {xs ys : List Nat} {es : List Expr} {vs us items : List V} {y : Value} {id : String} {op : Operator} {K : List (Option V) → Led → Prop} {S : St} {C : Addr}

/-- the tree of an attribute's load -/
def ATree (o : Expr) (name : Str) (pos : Pos) (env : Env) : Prop :=
  eval (.Attribute o name pos) env = (do
      let v ← eval o env
      standAt pos.atName
      let r ← holding [v] (getAttr v name true)
      letTemporaryGo o v r
      pure r)
theorem pu_attr (g : Good F A n) (ck : ClsOk F.S C attrs) (ho : Pu F A G Λ e (.inst C nms vs)) (h : AttrAt nms vs x v) (hx : x ∈ attrs) (hh : Handed v) (ht : ATree e x pos F.env := by rfl) : Pu F A G Λ (.Attribute e x pos) v := fun s Z N Q E a t =>
  PyProof.Rows.Attribute_any_ (ho s Z N _ E a fun y h₁ tk₁ Z₁ le₁ hy a₁ => by
    simp only [V.is] at hy
    obtain ⟨d, dx, en, m, rfl, z1, z2, k, q⟩ := hy
    obtain ⟨w, hw, hv⟩ := k.get h q
    obtain ⟨mm, fr, hvars⟩ := a₁.fr
    have I : InstAt h₁ d (instObj C dx) C (some (dictOf en m)) := ⟨a₁.frz _ _ z1, rfl, rfl, a₁.frz _ _ z2⟩
    exact get_value (s := { s with heap := h₁, toks := tk₁ }) (a₁.K g) I (plainGet_of ck.plain).1 (findObj_own ck.hasD (ck.none x hx) rfl hw) (hh.of hv) (t w h₁ _ Z₁ le₁ hv a₁)) ht
/-- an attribute of an object that the frame is making -/
theorem pu_attrL {d dx : Addr} (g : Good F A n) (ck : ClsOk F.S C attrs) (ho : Pu F A G Λ e (.ref d)) (h1 : (d, LO.exact (instObj C dx)) ∈ Λ) (h2 : (dx, LO.ns nms vs) ∈ Λ) (h : AttrAt nms vs x v) (hx : x ∈ attrs) (hh : Handed v) (ht : ATree e x pos F.env := by rfl) : Pu F A G Λ (.Attribute e x pos) v := fun s Z N Q E a t =>
  PyProof.Rows.Attribute_any_ (ho s Z N _ E a fun y h₁ tk₁ Z₁ le₁ hy a₁ => by
    have := isVal hy; subst this
    obtain ⟨o1, e1, rfl⟩ := a₁.get h1
    obtain ⟨o2, e2, en, m, rfl, k, q⟩ := a₁.get h2
    obtain ⟨w, hw, hv⟩ := k.get h q
    have I : InstAt h₁ d (instObj C dx) C (some (dictOf en m)) := ⟨e1, rfl, rfl, e2⟩
    exact get_value (s := { s with heap := h₁, toks := tk₁ }) (a₁.K g) I (plainGet_of ck.plain).1 (findObj_own ck.hasD (ck.none x hx) rfl hw) (hh.of hv) (t w h₁ _ Z₁ le₁ hv a₁)) ht
/-- a plain value of the class's own -/
theorem pu_clsAttr {mc : Value} (g : Good F A n) (ho : Pu F A G Λ e (.ref C)) (hm : typeIn F.S.K (.ref C) = some mc) (hr : readsIn F.S.K C mc = true) (he : findCls F.S.K (.ref C) mc x = some (.val y)) (hh : handedIn y = true) (ht : ATree e x pos F.env := by rfl) : Pu F A G Λ (.Attribute e x pos) (.val y) := fun s Z N Q E a t =>
  PyProof.Rows.Attribute_any_ (ho s Z N _ E a fun z h₁ tk₁ Z₁ le₁ hy a₁ => by
    have := isVal hy; subst this
    exact cls_value (s := { s with heap := h₁, toks := tk₁ }) (a₁.K g) hr he hh (t y h₁ _ Z₁ le₁ mkIsVal a₁)) ht
theorem Pu.str {z : Str} {tk0 : Tok} (h : Pu F A G Λ e (.val (.str z tk0))) : Pu F A G Λ e (.str z.cps.toList) := fun s Z N Q E a t => h s Z N Q E a fun x h tk Z' le hx a' => t x h tk Z' le (by have := isVal hx; subst this; simp only [V.is]; exact ⟨tk0, by cases z; simp⟩) a'

theorem At.setN {Z N : Frz} {h h' : Heap} {m : Str → Option Value} (a : At F Z N G Λ h) {d : Addr} {q q' : LO} {o' : Obj} (u : Up d q q' Λ Λ') (hv : Vars Z F.ns G m) (hn : h'.Ns F.L m) (hk : ∀ b o, b ≠ d → b ≠ F.L → h.get? b = some o → h'.get? b = some o) (ho : h'.get? d = some o') (hq : q'.is Z o') : At F Z N G Λ' h' := by
  have hmem : d ∈ Λ.map Prod.fst := List.mem_map.mpr ⟨_, u.mem, rfl⟩
  have nN := a.offN d (.tail _ hmem)
  have nZ := a.offZ d (.tail _ hmem)
  have lN := a.offN F.L (.head _)
  have lZ := a.offZ F.L (.head _)
  refine ⟨⟨m, hn, hv⟩, a.fix, fun b o e => ?_, fun b o e => ?_, fun p hp => ?_, u.keys ▸ a.nodup, u.keys ▸ a.offN, u.keys ▸ a.offZ, a.dis, a.old⟩
  · exact hk b o (by rintro rfl; rw [nN] at e; cases e) (by rintro rfl; rw [lN] at e; cases e) (a.pin b o e)
  · exact hk b o (by rintro rfl; rw [nZ] at e; cases e) (by rintro rfl; rw [lZ] at e; cases e) (a.frz b o e)
  · rcases u.cases (List.nodup_cons.mp a.nodup).2 p hp with rfl | ⟨hm, hne⟩
    · exact ⟨o', ho, hq⟩
    · obtain ⟨o, e, k⟩ := a.led p hm
      refine ⟨o, hk _ _ hne (fun q => ?_) e, k⟩
      exact (List.nodup_cons.mp a.nodup).1 (q ▸ List.mem_map.mpr ⟨p, hm, rfl⟩)
/-- an own attribute, for the first time -/
theorem s_setAttr {d dx : Addr} {o : Expr} (g : Good F A n) (ck : ClsOk F.S C attrs) (he : Pu F A G Λ e v) (ho : Pu F A G Λ o (.ref d)) (h1 : (d, LO.exact (instObj C dx)) ∈ Λ) (U : Up dx (.ns nms vs) (.ns (nms ++ [x]) (vs ++ [v])) Λ Λ') (hne : (nms.all fun y => !(y == x)) = true) (hx : x ∈ attrs) (hz : nms.length ≤ 900)
    (hr : Ex F A G Λ' rest R) (hs : swapsWith e (some (.Attribute o x px)) pos.line F.env = pure false := by rfl) : Ex F A G Λ (.Assign [.Attribute o x px] e pos :: rest) R :=
  ex_cons fun s Z N Q E a t => plainObj_wpAny_Assign_Attribute (he s Z N _ E a fun y h₁ tk₁ Z₁ le₁ hy a₁ => ho { s with heap := h₁, toks := tk₁ } Z₁ N _ E a₁ fun w h₂ tk₂ Z₂ le₂ hw a₂ => by
    have := isVal hw; subst this
    obtain ⟨o1, e1, rfl⟩ := a₂.get h1
    obtain ⟨o2, e2, en, m, rfl, k, q⟩ := a₂.get U.mem
    have I : InstAt h₂ d (instObj C dx) C (some (dictOf en m)) := ⟨e1, rfl, rfl, e2⟩
    obtain ⟨mm, fr, hvars⟩ := a₂.fr
    have hdL : dx ≠ F.L := fun q => (List.nodup_cons.mp a₂.nodup).1 (q ▸ List.mem_map.mpr ⟨_, U.mem, rfl⟩)
    have N2 : News noHeap F.L h₂ ([] ++ (dx, dictOf en m) :: (allBut h₂ F.L).filter fun p => p.1 != dx) := fun p hp => by
      rcases List.mem_cons.mp hp with rfl | hp
      · exact ⟨e2, hdL, noHeap_get _⟩
      · exact a₂.news p (List.mem_filter.mp hp).1
    have hget := k.none hne
    have hput := fun (hs : Int) (t : Tok) (v : Value) => k.put (hs := hs) (t := t) (v := v) hne
    refine set_plain (s := { s with heap := h₂, toks := tk₂ }) (a₂.K g) I ck.setA ?_
    refine osa_dict (s := { s with heap := h₂, toks := tk₂ + 1 }) fr N2 (a₂.K g) I rfl ck.over (by unfold takerIn; rw [ck.none x hx]; rfl) ck.hasD (by rw [lookIn_dict, hget]; rfl) (fun p hp => (by cases hp)) (fun p hp => by simpa using (List.mem_filter.mp hp).2)
      (putName_dict ..) rfl (by have h2 := (hput (PyData.keyHash F.S.w.params x) (tk₂ + 1) y).1.length; simp only [List.length_append, List.length_cons, List.length_nil] at h2; show (putL x _ (.str x (tk₂ + 1)) y en).length ≤ 1000; omega) fun h' fr' N' => ?_
    obtain ⟨p1, p2⟩ := hput (PyData.keyHash F.S.w.params x) (tk₂ + 1) y
    refine t .next G Λ' .next h' _ Z₂ hr (le₁.trans le₂) rfl (a₂.setN U hvars fr'.ns (fun b o hb hL e => ?_) (N' _ (.head _)).1 ⟨_, _, rfl, p1, ?_⟩)
    · exact (N' (b, o) (.tail _ (List.mem_filter.mpr ⟨mem_allBut.mpr ⟨hL, e⟩, by simpa using hb⟩))).1
    · rw [p2]; exact q.append (.one (hy.mono le₂))) hs

/-! methods -/
theorem PuL.args (h : PuL F A G Λ es vs) (hp : (backTo pos (starEach es F.env)).any (·.1) = false) : (backTo pos (starEach es F.env)).any (·.1) = false := hp
/-- a method of the class's own, on a frozen object: the def's value -/
theorem pu_meth {f : Addr} {o : Expr} {pl : Sem Bool} (g : Good F A n) (ck : ClsOk F.S C attrs) (ho : Pu F A G Λ o (.inst C nms vs)) (hf : findIn F.S.K (.ref C) x = some (some (.ref f))) (hft : isFn F.S.K (.ref f) = true) (hk : keepIn F.S.K (.ref f) = true) (hne : (nms.all fun y => !(y == x)) = true)
    (h : PuL F A G Λ es us) (hc : Fn F.S f n (.inst C nms vs :: us) v) (ht : MTree o x apos pos es F.env pl)
    (he : es = [] ∨ ∃ e es', es = e :: es' ∧ starEach es F.env = (false, eval e F.env) :: starEach es' F.env ∧ (backTo pos (starEach es' F.env)).any (·.1) = false) : Pu F A G Λ (.Call (.Attribute o x apos) es [] pos) v := fun s Z N Q E a t =>
  PyProof.Rows.MethodCall_ (pl := pl) (ho s Z N _ E a fun y h₁ tk₁ Z₁ le₁ hy a₁ => by
    have hy0 := hy
    simp only [V.is] at hy
    obtain ⟨d, dx, en, m, rfl, z1, z2, k, q⟩ := hy
    have I : InstAt h₁ d (instObj C dx) C (some (dictOf en m)) := ⟨a₁.frz _ _ z1, rfl, rfl, a₁.frz _ _ z2⟩
    refine method_fn (s := { s with heap := h₁, toks := tk₁ }) (a₁.K g) I (plainGet_of ck.plain).1 (plainGet_of ck.plain).2 hf (beq_iff_eq.mp hft) (by show (lookIn x (dictOf en m)).map _ = _; rw [lookIn_dict, k.none hne]; rfl) ?_
    have fin : ∀ (zs : List Value) (h₂ : Heap) (tk₂ : Nat) (Z₂ : Frz), Z₁.le Z₂ → AllIs Z₂ us zs → At F Z₂ N G Λ h₂ → wpAny F.M A (call (.ref f) ([.ref d] ++ zs)) Q E { s with heap := h₂, toks := tk₂ } := fun zs h₂ tk₂ Z₂ le₂ hzs a₂ =>
      cl_fn g hc ([.ref d] ++ zs) { s with heap := h₂, toks := tk₂ } Z₂ N Q E (.cons (hy0.mono le₂) hzs) a₂ fun v' Λ' ⟨e1, e2⟩ x h₃ tk₃ Z₃ le₃ => by rw [e1, e2]; exact t x h₃ tk₃ Z₃ ((le₁.trans le₂).trans le₃)
    rcases he with rfl | ⟨e, es', rfl, he1, he2⟩
    · refine callWith_K0 (a₁.K g) hk ?_
      cases h
      exact fin [] h₁ tk₁ Z₁ (.refl _) .nil a₁
    · refine callWith_K g.X hk ?_ he1 he2
      refine h.evs (PS := fun us' Λ'' => us' = us ∧ Λ'' = Λ) ⟨rfl, rfl⟩ pos { s with heap := h₁, toks := tk₁ } Z₁ N _ E a₁ fun us' Λ'' zs h₂ tk₂ Z₂ ⟨e1, e2⟩ le₂ hzs a₂ => ?_
      subst e1 e2
      exact ⟨a₂.K g, fin zs h₂ tk₂ Z₂ le₂ hzs a₂⟩) ht

/-! an object made -/
theorem cl_make {fI : Addr} {fd : FuncData} {names more : List Str} (g : Good F A (n + 2)) (hm : makesIn F.S.K C = true) (hi : findIn F.S.K (.ref C) "__init__" = some (some (.ref fI))) (hf : typeIn F.S.K (.ref fI) = some (.type "function"))
    (d : Def F.S fI fd) (hbody : fd.body = .stmts body) (hlen : names.length = us.length + 1)
    (hb : ∀ xs : List Value, xs.length = names.length → bindArgs fd ⟨xs, []⟩ = pure (names.zip xs)) (hnd : (names ++ more).Nodup) (hcell : ∀ x ∈ fd.scope.names, x.2 ≠ .cell) (hloc : ∀ x ∈ names, fd.scope.names.lookup x = some .local)
    (h : ∀ x dx L Pf Z₀ A, Good (defFm F.S fd fI L Pf Z₀ (names ++ more)) A n → Ex (defFm F.S fd fI L Pf Z₀ (names ++ more)) A ((V.ref x :: us).map some ++ more.map fun _ => none) [(x, .exact (instObj C dx)), (dx, .ns [] [])] body (RetP fun u Λ => u = .none ∧ Λ = [(x, .exact (instObj C dx)), (dx, .ns nms vs)]))
    (hco : fd.scope.isCoroutine = false := by rfl) (hgen : fd.scope.isGenerator = false := by rfl) (hk : fd.scope.kind = .function := by rfl) : ClV F A G Λ (.ref C) us (.inst C nms vs) := fun xs s Z N Q E hxs a t => by
  obtain ⟨hh, gg, dd, tt, os⟩ := s
  have X := a.K g
  refine wpAny_call (make_core (makes_of X hm) (looks_findIn X hi) (fun self => bind_fn X self hf) (.inl rfl) ?_)
  let M : Frz := fun b => if (Z b).isSome then none else hh.get? b
  have hM : ∀ b o, M b = some o → hh.get? b = some o := fun b o e => by
    simp only [M] at e
    split at e
    · cases e
    · exact e
  have hk2 : ∀ b o, hh.get? b = some o → ((hh.push emptyDict).push (instObj C hh.objs.size)).get? b = some o := fun b o e => Heap.get?_push_of_some _ (Heap.get?_push_of_some _ e)
  have sz0 : hh.get? hh.objs.size = none := get?_size hh
  have sz1 : hh.get? (hh.objs.size + 1) = none := by
    cases e : hh.get? (hh.objs.size + 1) with
    | none => rfl
    | some o => exact absurd (Heap.lt_size e) (Nat.not_lt.mpr (Nat.le_succ _))
  have hd0 : ((hh.push emptyDict).push (instObj C hh.objs.size)).get? hh.objs.size = some emptyDict := Heap.get?_push_of_some _ (Heap.get?_push_size _ rfl)
  have hd1 : ((hh.push emptyDict).push (instObj C hh.objs.size)).get? (hh.objs.size + 1) = some (instObj C hh.objs.size) := by
    have := Heap.get?_push_size (hh.push emptyDict) (o := instObj C hh.objs.size) rfl
    rwa [Heap.size_push] at this
  have zN : ∀ b, hh.get? b = none → Z b = none := fun b hb => a.newZ hb
  have room : Room (A.under (.builtin "type.__call__" ⟨.ref C :: xs, []⟩)) (n + 1) := by
    have h1 : (A.under (.builtin "type.__call__" ⟨.ref C :: xs, []⟩)).depth = A.depth + 1 := rfl
    have h2 : (A.under (.builtin "type.__call__" ⟨.ref C :: xs, []⟩)).units ≤ A.units + 10 := by
      show A.units + _ ≤ A.units + 10
      refine Nat.add_le_add_left ?_ _
      have : Code.cUnits (.builtin "type.__call__" ⟨.ref C :: xs, []⟩) = 1 := by rfl
      omega
    exact ⟨g.hd, by have := g.depth; omega, by have := g.units; omega⟩
  refine def_core (s := { heap := (hh.push emptyDict).push (instObj C hh.objs.size), gens := gg, drawn := dd, toks := tt, os := os }) (Z := Z) (N := M) (Λ₀ := [(hh.objs.size + 1, .exact (instObj C hh.objs.size)), (hh.objs.size, .ns [] [])]) (vs := V.ref (hh.objs.size + 1) :: us)
    g.toStOk d hbody (by simpa using hlen) hb hnd hcell hloc (fun L Pf Z₀ A g => h _ _ L Pf Z₀ A g) room (fun b o e => hk2 b o (a.st g b o e)) (fun b o e => hk2 b o (a.frz b o e)) (.cons mkIsVal hxs) (fun b o e => hk2 b o (hM b o e)) (fun b o e => ?_) (fun b o e => by simp only [M, e]; rfl)
    (fun p hp => ?_) (by simp) (fun b hb => ?_) (fun b hb => ?_) ?_ hco hgen hk
  · cases e' : Z b with
    | none => left; show (if (Z b).isSome then none else hh.get? b) = some o; rw [e']; exact a.st g b o e
    | some o' => right; have h1 := a.st g b o e; rw [a.frz _ _ e'] at h1; exact h1
  · simp only [List.mem_cons, List.not_mem_nil, or_false] at hp
    rcases hp with rfl | rfl
    · exact ⟨_, hd1, rfl⟩
    · exact ⟨_, hd0, [], 0, rfl, trivial, .nil⟩
  · simp only [List.map_cons, List.map_nil, List.mem_cons, List.not_mem_nil, or_false] at hb
    rcases hb with rfl | rfl
    · simp only [M]; rw [zN _ sz1, sz1]; rfl
    · simp only [M]; rw [zN _ sz0, sz0]; rfl
  · simp only [List.map_cons, List.map_nil, List.mem_cons, List.not_mem_nil, or_false] at hb
    rcases hb with rfl | rfl
    · exact zN _ sz1
    · exact zN _ sz0
  · rintro u y F' G' Λ' h₂ tk₂ Z' ⟨rfl, rfl⟩ le hy a'
    have := isNone hy; subst this
    refine ⟨rfl, ?_⟩
    obtain ⟨o1, e1, rfl⟩ := a'.led _ (.head _)
    obtain ⟨o2, e2, en, m, rfl, kk, q⟩ := a'.led _ (.tail _ (.head _))
    have z1 := a'.offZ (hh.objs.size + 1) (.tail _ (.head _))
    have z2 := a'.offZ hh.objs.size (.tail _ (.tail _ (.head _)))
    have le1 : Z'.le (Z'.put hh.objs.size (dictOf en m)) := Frz.put_le z2
    have z1' : (Z'.put hh.objs.size (dictOf en m)) (hh.objs.size + 1) = none := by unfold Frz.put; rw [if_neg (Nat.succ_ne_self _)]; exact z1
    have le2 := Frz.put_le (o := instObj C hh.objs.size) z1'
    have keep : ∀ b o, hh.get? b = some o → h₂.get? b = some o := fun b o e => by
      cases e' : Z b with
      | none => exact a'.pin b o (by simp only [M]; rw [e']; exact e)
      | some o' => have h1 := a.frz _ _ e'; rw [e] at h1; cases h1; exact a'.frz _ _ (le _ _ e')
    refine t _ _ ⟨rfl, rfl⟩ _ h₂ tk₂ ((Z'.put hh.objs.size (dictOf en m)).put (hh.objs.size + 1) (instObj C hh.objs.size)) ((le.trans le1).trans le2) ?_ (a.adopt keep ((le.trans le1).trans le2) (fun b o e => ?_) (fun b o e => ?_))
    · simp only [V.is]
      exact ⟨_, _, en, m, rfl, Frz.put_self _ _ _, le2 _ _ (Frz.put_self _ _ _), kk, q.mono (le1.trans le2)⟩
    · unfold Frz.put at e
      split at e
      · rename_i hb; cases e; rw [hb]; exact e1
      · split at e
        · rename_i hb; cases e; rw [hb]; exact e2
        · exact a'.frz _ _ e
    · unfold Frz.put at e
      split at e
      · rename_i hb; right; rw [hb]; exact sz1
      · split at e
        · rename_i hb; right; rw [hb]; exact sz0
        · cases e' : Z b with
          | some o' => left; have := le _ _ e'; rw [e] at this; exact this.symm
          | none =>
            right
            have h1 := a'.dis b o e
            simp only [M] at h1
            rw [e'] at h1; simpa using h1
end
end Mine
end

/-! W5 -/
section
open PySem PySem.W PyProof.Rows PySem.Calls
set_option maxRecDepth 100000
set_option autoImplicit false
set_option linter.unusedVariables false
namespace Mine

section
variable {F : Fm} {A : Around} {G G' G₁ : List (Option V)} {Λ Λ' Λ₁ X : Led} {e l r : Expr} {v u a b c : V} {P P' : V → Led → Prop} {R R' : Post} {n : Nat} {pos : Pos} {i j k : Int} {vs us : List V} {op : Operator}
theorem Pu.cast (h : Pu F A G Λ e v) (q : v = u) : Pu F A G Λ e u := q ▸ h
theorem ev_binE (hl : Ev F A G Λ l (fun a Λ₁ => Ev F A G Λ₁ r (fun b Λ₂ => ∃ a', a = a' ∧ Bin F A G Λ₂ op a b P))) : Ev F A G Λ (.BinOp l op r pos) P := fun s Z N Q E at0 t =>
  wpAny_BinOp (hl s Z N _ E at0 fun a Λ₁ q x h1 tk Z1 le1 hx ha => q { s with heap := h1, toks := tk } Z1 N _ E ha fun b Λ₂ ⟨_, _, h⟩ y h2 tk' Z2 le2 hy ha' => h x y { s with heap := h2, toks := tk' } Z2 N Q E (hx.mono le2) hy ha' fun v Λ' hv x' h' tk' Z' le' => t v Λ' hv x' h' tk' Z' ((le1.trans le2).trans le'))
theorem bin_rep {d : Addr} (hm : (d, LO.lst [a]) ∈ Λ) (h0 : -2 ^ 63 ≤ i) (h1 : i ≤ 1000000) (k : ∀ d', P (.ref d') ((d', .lst (List.replicate i.toNat a)) :: Λ)) : Bin F A G Λ .Mult (.ref d) (.int i) P := fun x y s Z N Q E hx hy at0 t => by
  have := isVal hx; subst this
  obtain ⟨u, rfl⟩ := isInt hy
  obtain ⟨o, ho, ys, m, rfl, q⟩ := at0.get hm
  obtain ⟨z, zs, rfl, hz, q'⟩ := q.inv
  rw [q'.inv0] at ho
  obtain ⟨mm, fr, hv⟩ := at0.fr
  refine mul_list fr at0.news (k := m) ho h0 (by omega) (by simp; omega) (fun h' fr' N' => ?_)
  have a' := at0.back hv fr' (fun b o hb e => keepBut (news := [(s.heap.objs.size, _)]) N' b o hb e)
  have e := (N' _ (.head _)).1
  refine t _ _ (k s.heap.objs.size) _ h' s.toks Z (.refl _) mkIsVal (at0.addBut a' (get?_size _) e ⟨List.replicate i.toNat z, 0, ?_, ?_⟩)
  · have : ∀ m : Nat, List.foldl (fun x1 x2 => x1 ++ x2) #[] (List.replicate m #[z]) = (List.replicate m z).toArray := by
      intro m
      have gen : ∀ (m : Nat) (acc : List Value), List.foldl (fun x1 x2 => x1 ++ x2) acc.toArray (List.replicate m #[z]) = (acc ++ List.replicate m z).toArray := by
        intro m
        induction m with
        | zero => simp
        | succ m ih =>
          intro acc
          rw [List.replicate_succ, List.foldl_cons]
          have : acc.toArray ++ #[z] = (acc ++ [z]).toArray := by simp
          rw [this, ih]; simp [List.replicate_succ]
      simpa using gen m []
    simp [W.listOf, this]
  · have : ∀ m : Nat, AllIs Z (List.replicate m a) (List.replicate m z) := fun m => by
      induction m with
      | zero => exact .nil
      | succ m ih => exact .cons hz ih
    exact this _
/-- «[e] * k» as a value -/
theorem pu_rep {pl : Pos} (he : Pu F A G Λ e a) (hr : ∀ d, Pu F A G ((d, LO.lst [a]) :: Λ) r (.int i)) (h0 : -2 ^ 63 ≤ i) (h1 : i ≤ 1000000) (hst : starEach [e] F.env = (false, eval e F.env) :: starEach [] F.env := by rfl) : Pu F A G Λ (.BinOp (.List [e] pl) .Mult r pos) (.lst (List.replicate i.toNat a)) := by
  have h : Ev F A G Λ (.BinOp (.List [e] pl) .Mult r pos) (fun v Λ' => ∃ d d', v = .ref d' ∧ Λ' = (d', LO.lst (List.replicate i.toNat a)) :: (d, .lst [a]) :: Λ) :=
    ev_binE (ev_list (.cons he .nil hst) (by simp [sizeLine_eq]) fun d => (hr _).ev ⟨_, rfl, bin_rep (.head _) h0 h1 fun d' => ⟨d, d', rfl, rfl⟩⟩)
  exact fun s Z N Q E at0 t => h s Z N Q E at0 fun v Λ' ⟨d, d', e1, e2⟩ x h' tk Z' le hx a' => by
    subst e1 e2
    have := isVal hx; subst this
    obtain ⟨Z'', le2, k, a''⟩ := a'.freeze1
    exact t _ h' tk Z'' (le.trans le2) k (a''.wk (Wk.drop (Wk.refl _)))
theorem cl_lenT (hz : vs.length ≤ sizeLine) : ClV F A G Λ (.builtin "len") [.tup vs] (.int vs.length) := fun zs s Z N Q E h a t => by
  obtain ⟨y, rfl, hy⟩ := one_arg h
  obtain ⟨d, ys, o, rfl, z, l, q⟩ := isTup hy
  refine PyProof.Rows.len_tuple (isTupRAt (a.frz _ _ z) l) (by simp only [List.size_toArray, q.length]; rw [sizeLine_eq] at hz; omega) ?_
  simp only [List.size_toArray, q.length]
  exact t _ _ ⟨rfl, rfl⟩ _ s.heap _ Z (.refl _) mkIsInt a
end

/-! the blanks' shape -/
def bump (cnt : List Int) (b : Nat) : List Int :=
  let c := if cnt.length ≤ b then cnt ++ List.replicate (b - cnt.length + 1) 0 else cnt
  c.set b (c.getD b 0 + 1)
structure WsSt where
  cnt : List Int
  b : Nat
  n : Nat
  nt : Nat
def wsGo : List Nat → WsSt → WsSt
  | [], s => s
  | c :: cs, s => if c = 32 then wsGo cs ⟨s.cnt, s.b + 1, s.n + 1, s.nt⟩ else if c = 9 then wsGo cs ⟨bump s.cnt s.b, 0, s.n + 1, s.nt + 1⟩ else s
def wsOf (ws : List Nat) : WsSt := wsGo ws ⟨[], 0, 0, 0⟩
abbrev atWs : List Str := [Str.ofString "raw", Str.ofString "n", Str.ofString "nt", Str.ofString "norm", Str.ofString "is_simple"]
def wsV (C : Addr) (ws : List Nat) : V := .inst C atWs [.str ws, .int (wsOf ws).n, .int (wsOf ws).nt, .tup [.tup (vInts (wsOf ws).cnt), .int (wsOf ws).b], .bool (decide (((wsOf ws).cnt.length : Int) ≤ 1))]
theorem bump_len (cnt : List Int) (b : Nat) : (bump cnt b).length = max cnt.length (b + 1) := by
  unfold bump
  dsimp only
  split <;> simp <;> omega

abbrev nsInit : List Str := [Str.ofString "self", Str.ofString "ws", Str.ofString "S", Str.ofString "T", Str.ofString "count", Str.ofString "b", Str.ofString "n", Str.ofString "nt", Str.ofString "ch"]
abbrev glInit (C : Addr) : List (Str × Value) := [(Str.ofString "Whitespace", .ref C), (Str.ofString "len", .builtin "len"), (Str.ofString "tuple", .type "tuple")]
structure WsCls (S : St) (C : Addr) : Prop extends ClsOk S C atWs where
  read : ∃ mc, typeIn S.K (.ref C) = some mc ∧ readsIn S.K C mc = true ∧ ∃ t1 t2, findCls S.K (.ref C) mc (Str.ofString "S") = some (.val (.str (Str.ofString " ") t1)) ∧ findCls S.K (.ref C) mc (Str.ofString "T") = some (.val (.str (Str.ofString "\t") t2))
section
variable {F : Fm} {A : Around} {n : Nat} {C x dx : Addr}
theorem sz1000 {l : Nat} (h : l ≤ 1000) : l ≤ sizeLine := by rw [sizeLine_eq]; omega
theorem walk_init (g : Good F A n) (lc : Loc F nsInit (glInit C)) (ck : WsCls F.S C) (ws : List Nat) (hw : ws.length ≤ 900) :
    Ex F A [some (.ref x), some (.str ws), none, none, none, none, none, none, none] [(x, .exact (instObj C dx)), (dx, .ns [] [])] (bodyOf (inCls 1 (stAt 8)))
      (RetP fun u Λ => u = .none ∧ Λ = [(x, .exact (instObj C dx)), (dx, .ns atWs [.str ws, .int (wsOf ws).n, .int (wsOf ws).nt, .tup [.tup (vInts (wsOf ws).cnt), .int (wsOf ws).b], .bool (decide (((wsOf ws).cnt.length : Int) ≤ 1))])]) := by
  have hd := g.hd
  have ck' := ck.toClsOk
  obtain ⟨mc, hm, hr, t1, t2, hS, hT⟩ := ck.read
  refine s_setAttr g ck' (pu_var g lc (.tail .head)) (pu_var g lc .head) (.head _) (.tail .head) rfl (.head _) (by decide) ?_
  refine s_asnSw g lc (pu_tup (.cons (Pu.str (pu_clsAttr g (pu_gl g lc .head) hm hr hS rfl)) (.cons (Pu.str (pu_clsAttr g (pu_gl g lc .head) hm hr hT rfl)) .nil rfl) rfl) (sz40 (by simp))) (.tail (.tail (.tail .head))) (.tail (.tail .head)) ?_ rfl
    (swapped2 lc g.fk (.tail _ (.tail _ (.head _))) (.tail _ (.tail _ (.tail _ (.head _)))) rfl (by decide +kernel) rfl rfl rfl)
  have e1 : (Str.ofString " ").cps.toList = [32] := by decide +kernel
  have e2 : (Str.ofString "\t").cps.toList = [9] := by decide +kernel
  rw [e1, e2]
  refine s_asnE g lc (ev_list .nil (by simp) fun d => ⟨_, .tail (.tail (.tail (.tail .head))), ?_⟩) rfl
  refine s_asn3 pu_int (tgt_loc g lc (.tail (.tail (.tail (.tail (.tail .head))))) (tgt_loc g lc (.tail (.tail (.tail (.tail (.tail (.tail .head)))))) (tgt_loc g lc (.tail (.tail (.tail (.tail (.tail (.tail (.tail .head))))))) ?_)))
  refine Ex.seq (J := fun f G Λ => f = .next ∧ ∃ (d : Addr) (o : Option V), (wsOf ws).cnt.length ≤ 900 ∧ Λ = [(d, .lst (vInts (wsOf ws).cnt)), (x, .exact (instObj C dx)), (dx, .ns [Str.ofString "raw"] [.str ws])] ∧ G = [some (.ref x), some (.str ws), some (.str [32]), some (.str [9]), some (.ref d), some (.int (wsOf ws).b), some (.int (wsOf ws).n), some (.int (wsOf ws).nt), o]) ?_ ?_
  · refine ex_for (pu_attrL g ck' (pu_var g lc .head) (.tail _ (.head _)) (.tail _ (.tail _ (.head _))) .head (.head _) trivial) (itb_str hd)
      (fun k G Λ => ∃ (d : Addr) (o : Option V) (s : WsSt), wsGo (ws.drop k) s = wsOf ws ∧ s.b ≤ k ∧ s.cnt.length ≤ k ∧ k ≤ ws.length ∧ Λ = [(d, .lst (vInts s.cnt)), (x, .exact (instObj C dx)), (dx, .ns [Str.ofString "raw"] [.str ws])] ∧ G = [some (.ref x), some (.str ws), some (.str [32]), some (.str [9]), some (.ref d), some (.int s.b), some (.int s.n), some (.int s.nt), o])
      ⟨d, _, ⟨[], 0, 0, 0⟩, rfl, by simp, by simp, by omega, rfl, rfl⟩ ?_ ?_ (fun _ => rfl)
    · rintro k G Λ v hk hv ⟨d, o, s, hgo, hb, hc, hkw, rfl, rfl⟩
      have hk' : k < ws.length := by simpa [signs] using hk
      have hv' : v = .str [ws.getD k 0] := by simp [signs, hk'] at hv; rw [← hv]; simp [hk']
      subst hv'
      generalize hch : ws.getD k 0 = ch
      have hdrop : ws.drop k = ch :: ws.drop (k + 1) := by rw [List.drop_eq_getElem_cons hk', ← hch]; simp [hk']
      rw [hdrop] at hgo
      refine tgt_loc g lc (.tail (.tail (.tail (.tail (.tail (.tail (.tail (.tail .head)))))))) ?_
      refine s_if (ts_cmp (pu_var g lc (.tail (.tail (.tail (.tail (.tail (.tail (.tail (.tail .head))))))))) (pu_var g lc (.tail (.tail .head))) cm_eqs rfl) (fun h => ?_) (fun h => ?_)
      · have h32 : ch = 32 := by simpa using h
        refine s_asn g lc (pu_add (pu_var g lc (.tail (.tail (.tail (.tail (.tail (.tail .head))))))) pu_int) (.tail (.tail (.tail (.tail (.tail (.tail .head)))))) ?_ rfl
        refine s_asn g lc (pu_add (pu_var g lc (.tail (.tail (.tail (.tail (.tail .head)))))) pu_int) (.tail (.tail (.tail (.tail (.tail .head))))) ?_ rfl
        refine ex_nil (ex_nil ⟨d, some (.str [ch]), ⟨s.cnt, s.b + 1, s.n + 1, s.nt⟩, ?_, by simp; omega, by simp; omega, by omega, rfl, ?_⟩)
        · rw [← hgo]; simp only [wsGo, h32, if_true]
        · simp
      refine s_if (ts_cmp (pu_var g lc (.tail (.tail (.tail (.tail (.tail (.tail (.tail (.tail .head))))))))) (pu_var g lc (.tail (.tail (.tail .head)))) cm_eqs rfl) (fun h2 => ?_) (fun h2 => ?_)
      · have h32 : ch ≠ 32 := by simpa using h
        have h9 : ch = 9 := by simpa using h2
        refine s_asn g lc (pu_add (pu_var g lc (.tail (.tail (.tail (.tail (.tail (.tail .head))))))) pu_int) (.tail (.tail (.tail (.tail (.tail (.tail .head)))))) ?_ rfl
        refine s_asn g lc (pu_add (pu_var g lc (.tail (.tail (.tail (.tail (.tail (.tail (.tail .head)))))))) pu_int) (.tail (.tail (.tail (.tail (.tail (.tail (.tail .head))))))) ?_ rfl
        have hgo' : wsGo (ws.drop (k + 1)) ⟨bump s.cnt s.b, 0, s.n + 1, s.nt + 1⟩ = wsOf ws := by rw [← hgo]; simp only [wsGo, h9]; rfl
        have hcl : (vInts s.cnt).length ≤ sizeLine := sz1000 (by rw [vInts_len]; omega)
        -- the list, long enough
        refine Ex.seq (J := fun f G Λ => f = .next ∧ ∃ (d : Addr) (cn : List Int), cn = (if s.cnt.length ≤ s.b then s.cnt ++ List.replicate (s.b - s.cnt.length + 1) 0 else s.cnt) ∧ Λ = [(d, .lst (vInts cn)), (x, .exact (instObj C dx)), (dx, .ns [Str.ofString "raw"] [.str ws])] ∧ G = [some (.ref x), some (.str ws), some (.str [32]), some (.str [9]), some (.ref d), some (.int s.b), some (.int (s.n + 1)), some (.int (s.nt + 1)), some (.str [ch])]) ?_ ?_
        · refine ex_if (ts_cmp (pu_var g lc (.tail (.tail (.tail (.tail (.tail .head)))))) (pu_call g (pu_gl g lc (.tail .head)) (.cons (pu_var g lc (.tail (.tail (.tail (.tail .head))))) .nil rfl) (cl_lenL (.inr ⟨d, rfl, .head _⟩) hcl) rfl rfl rfl rfl) cm_ge rfl) (fun h3 => ?_) (fun h3 => ?_)
          · have hle : s.cnt.length ≤ s.b := by rw [vInts_len] at h3; simpa using h3
            refine s_asnE g lc (ev_bin (pu_var g lc (.tail (.tail (.tail (.tail .head))))) (pu_rep (i := (s.b : Int) - s.cnt.length + 1) pu_int (fun dd => ?_) (by omega) (by omega)) (bin_catL (.inr ⟨d, rfl, .head _⟩) (.inl rfl) ?_ fun d' => ⟨_, .tail (.tail (.tail (.tail .head))), ?_⟩)) rfl
            · refine Pu.cast (pu_add (pu_sub (pu_var g lc (.tail (.tail (.tail (.tail (.tail .head)))))) (pu_call g (pu_gl g lc (.tail .head)) (.cons (pu_var g lc (.tail (.tail (.tail (.tail .head))))) .nil rfl) (cl_lenL (.inr ⟨d, rfl, .tail _ (.head _)⟩) hcl) rfl rfl rfl rfl)) pu_int) ?_
              rw [vInts_len]
            · rw [vInts_len]; simp; exact sz1000 (by omega)
            · refine Ex.wk (Wk.cons (Wk.drop (Wk.refl _))) (ex_nil ⟨rfl, d', _, rfl, ?_, rfl⟩)
              rw [if_pos hle]
              have : ((s.b : Int) - s.cnt.length + 1).toNat = s.b - s.cnt.length + 1 := by omega
              rw [this]
              simp [vInts]
          · have hle : ¬ s.cnt.length ≤ s.b := by rw [vInts_len] at h3; simpa using h3
            exact ex_nil ⟨rfl, d, _, rfl, by rw [if_neg hle], rfl⟩
        · rintro f G Λ ⟨rfl, d, cn, hcn, rfl, rfl⟩
          have hlt : s.b < cn.length := by
            rw [hcn]
            split
            · rw [List.length_append, List.length_replicate]; omega
            · omega
          refine s_setItem (k := s.b) (pu_add (pu_item (pu_var g lc (.tail (.tail (.tail (.tail .head))))) (pu_var g lc (.tail (.tail (.tail (.tail (.tail .head)))))) (itm_lst (k := s.b) (.inr ⟨d, rfl, .head _⟩) (by rw [vInts_len]; exact seqIndex_pos hlt) (vInts_get hlt) (by omega) (by omega))) pu_int) (pu_var g lc (.tail (.tail (.tail (.tail .head))))) (pu_var g lc (.tail (.tail (.tail (.tail (.tail .head)))))) .head (by omega) (by omega) (by rw [vInts_len]; exact hlt) (by omega) ?_
          rw [vInts_set]
          refine s_asn g lc pu_int (.tail (.tail (.tail (.tail (.tail .head))))) ?_ rfl
          have hb' : cn.set s.b (cn.getD s.b 0 + 1) = bump s.cnt s.b := by rw [hcn]; rfl
          rw [hb']
          refine ex_nil (ex_nil (ex_nil ⟨d, some (.str [ch]), ⟨bump s.cnt s.b, 0, s.n + 1, s.nt + 1⟩, hgo', by simp, ?_, by omega, rfl, ?_⟩))
          · show (bump s.cnt s.b).length ≤ k + 1
            rw [bump_len]; omega
          · simp
      · have h32 : ch ≠ 32 := by simpa using h
        have h9 : ch ≠ 9 := by simpa using h2
        refine s_brk ?_
        have hs : s = wsOf ws := by rw [← hgo]; simp only [wsGo, h32, h9, if_false]
        subst hs
        exact ⟨rfl, d, _, by omega, rfl, rfl⟩
    · rintro G Λ ⟨d, o, s, hgo, hb, hc, hkw, rfl, rfl⟩
      have hl : (signs ws).length = ws.length := by simp [signs]
      rw [hl, List.drop_eq_nil_of_le (Nat.le_refl _)] at hgo
      have hs : s = wsOf ws := hgo
      subst hs
      exact ⟨rfl, d, o, by omega, rfl, rfl⟩
  · rintro f G Λ ⟨rfl, d, o, hlen, rfl, rfl⟩
    have hcl : (vInts (wsOf ws).cnt).length ≤ sizeLine := sz1000 (by rw [vInts_len]; omega)
    refine s_setAttr g ck' (pu_var g lc (.tail (.tail (.tail (.tail (.tail (.tail .head))))))) (pu_var g lc .head) (.tail _ (.head _)) (.tail (.tail .head)) rfl (.tail _ (.head _)) (by decide) ?_
    refine s_setAttr g ck' (pu_var g lc (.tail (.tail (.tail (.tail (.tail (.tail (.tail .head)))))))) (pu_var g lc .head) (.tail _ (.head _)) (.tail (.tail .head)) rfl (.tail _ (.tail _ (.head _))) (by decide) ?_
    refine s_setAttr g ck' (pu_tup (.cons (pu_call g (pu_gl g lc (.tail (.tail .head))) (.cons (pu_var g lc (.tail (.tail (.tail (.tail .head))))) .nil rfl) (cl_tuple (.inr ⟨d, rfl, .head _⟩) hcl) rfl rfl rfl rfl) (.cons (pu_var g lc (.tail (.tail (.tail (.tail (.tail .head)))))) .nil rfl) rfl) (sz40 (by simp))) (pu_var g lc .head) (.tail _ (.head _)) (.tail (.tail .head)) rfl (.tail _ (.tail _ (.tail _ (.head _)))) (by decide) ?_
    refine s_setAttr g ck' (pu_cmp (pu_call g (pu_gl g lc (.tail .head)) (.cons (pu_var g lc (.tail (.tail (.tail (.tail .head))))) .nil rfl) (cl_lenL (.inr ⟨d, rfl, .head _⟩) hcl) rfl rfl rfl rfl) pu_int cm_le rfl) (pu_var g lc .head) (.tail _ (.head _)) (.tail (.tail .head)) rfl (.tail _ (.tail _ (.tail _ (.tail _ (.head _))))) (by decide) ?_
    refine Ex.wk (Wk.drop (Wk.refl _)) (ex_nil ⟨rfl, ?_⟩)
    rw [vInts_len]; rfl
end
end Mine
end

/-! W6 -/
section
open PySem PySem.W PyProof.Rows PySem.Calls
set_option maxRecDepth 100000
set_option autoImplicit false
set_option linter.unusedVariables false
namespace Mine

theorem fitsL {i : Int} (h1 : -5000 ≤ i) (h2 : i ≤ 5000) : Builtin.Range.rangeFitsLong i = true := by
  unfold Builtin.Range.rangeFitsLong
  simp only [Bool.and_eq_true, decide_eq_true_eq]
  constructor <;> omega
theorem fits2 (p q : Nat) (hp : p ≤ 2000) (hq : q ≤ 2000) : Builtin.Range.small (p : Int) (q : Int) 1 = true ∧ Builtin.Range.rangeSize (p : Int) (q : Int) 1 = ((q - p : Nat) : Int) := by
  have e : Builtin.Range.rangeSize (p : Int) (q : Int) 1 = ((q - p : Nat) : Int) := by
    unfold Builtin.Range.rangeSize
    rw [if_pos (by decide)]
    split
    · rw [Int.ediv_one]; omega
    · omega
  refine ⟨?_, e⟩
  unfold Builtin.Range.small
  rw [e, fitsL (by omega) (by omega), fitsL (by omega) (by omega), fitsL (by omega) (by omega), fitsL (i := ((q - p : Nat) : Int)) (by omega) (by omega), if_pos (by decide), fitsL (i := (q : Int) + (1 - 1)) (by omega) (by omega)]
  simp
theorem itb_from {F : Fm} {A : Around} {p q : Nat} (hd : A.handled = none) (hp : p ≤ 2000) (hq : q ≤ 2000) : Itb F A (.rng (p : Int) (q : Int) 1) (rangeL p 1 (q - p)) :=
  itb_rng hd (fits2 p q hp hq).1 (fits2 p q hp hq).2
theorem rangeL_at {p m i : Nat} {v : V} (h : (rangeL (p : Int) 1 m)[i]? = some v) : i < m ∧ v = .int ((p + i : Nat) : Int) := by
  simp only [rangeL, List.getElem?_map] at h
  obtain ⟨k, hk, rfl⟩ := Option.map_eq_some_iff.mp h
  obtain ⟨h1, h2⟩ := List.getElem?_eq_some_iff.mp hk
  simp at h1 h2
  subst h2
  exact ⟨h1, by congr 1; omega⟩

def longF (s : WsSt) : Int := max ((s.cnt.length : Int) - 1) s.b
def ilF (cnt : List Int) (ts : Nat) : Nat → Int
  | 0 => 0
  | k + 1 => ilF cnt ts k + ((ts + k : Nat) : Int) / (ts : Int) * cnt.getD (ts + k) 0
def indentF (s : WsSt) (ts : Nat) : Int := s.b + ts * (ilF s.cnt ts (s.cnt.length - ts) + s.nt)
def lessF (s u : WsSt) : Bool :=
  if s.n ≥ u.n then false else if s.cnt.length ≤ 1 ∧ u.cnt.length ≤ 1 then decide (s.nt ≤ u.nt)
  else (List.range (max (longF s) (longF u)).toNat).all fun i => decide (indentF s (2 + i) < indentF u (2 + i))
theorem wsGo_le : ∀ (ws : List Nat) (s : WsSt) (m : Nat), s.b ≤ m → s.cnt.length ≤ m → s.nt ≤ m → s.n ≤ m → (wsGo ws s).b ≤ m + ws.length ∧ (wsGo ws s).cnt.length ≤ m + ws.length ∧ (wsGo ws s).nt ≤ m + ws.length ∧ (wsGo ws s).n ≤ m + ws.length
  | [], s, m, h1, h2, h3, h4 => ⟨h1, h2, h3, h4⟩
  | c :: cs, s, m, h1, h2, h3, h4 => by
    unfold wsGo
    split
    · have := wsGo_le cs ⟨s.cnt, s.b + 1, s.n + 1, s.nt⟩ (m + 1) (by simp; omega) (by simp; omega) (by simp; omega) (by simp; omega)
      simp only [List.length_cons]; omega
    · split
      · have := wsGo_le cs ⟨bump s.cnt s.b, 0, s.n + 1, s.nt + 1⟩ (m + 1) (by simp) (by simp only [bump_len]; omega) (by simp; omega) (by simp; omega)
        simp only [List.length_cons]; omega
      · simp only [List.length_cons]; omega
theorem wsOf_le (ws : List Nat) : (wsOf ws).b ≤ ws.length ∧ (wsOf ws).cnt.length ≤ ws.length ∧ (wsOf ws).nt ≤ ws.length ∧ (wsOf ws).n ≤ ws.length := by
  have := wsGo_le ws ⟨[], 0, 0, 0⟩ 0 (by simp) (by simp) (by simp) (by simp)
  simpa [wsOf] using this

section
variable {a b c d e : V}
theorem at_raw : AttrAt atWs [a, b, c, d, e] (Str.ofString "raw") a := .head
theorem at_n : AttrAt atWs [a, b, c, d, e] (Str.ofString "n") b := .tail (by decide +kernel) .head
theorem at_nt : AttrAt atWs [a, b, c, d, e] (Str.ofString "nt") c := .tail (by decide +kernel) (.tail (by decide +kernel) .head)
theorem at_norm : AttrAt atWs [a, b, c, d, e] (Str.ofString "norm") d := .tail (by decide +kernel) (.tail (by decide +kernel) (.tail (by decide +kernel) .head))
theorem at_simple : AttrAt atWs [a, b, c, d, e] (Str.ofString "is_simple") e := .tail (by decide +kernel) (.tail (by decide +kernel) (.tail (by decide +kernel) (.tail (by decide +kernel) .head)))
end
theorem mem_n : Str.ofString "n" ∈ atWs := .tail _ (.head _)
theorem mem_nt : Str.ofString "nt" ∈ atWs := .tail _ (.tail _ (.head _))
theorem mem_norm : Str.ofString "norm" ∈ atWs := .tail _ (.tail _ (.tail _ (.head _)))
theorem mem_simple : Str.ofString "is_simple" ∈ atWs := .tail _ (.tail _ (.tail _ (.tail _ (.head _))))

abbrev nsLong : List Str := [Str.ofString "self", Str.ofString "count", Str.ofString "trailing"]
abbrev glLong : List (Str × Value) := [(Str.ofString "len", .builtin "len"), (Str.ofString "max", .builtin "max")]
abbrev nsInd : List Str := [Str.ofString "self", Str.ofString "tabsize", Str.ofString "count", Str.ofString "trailing", Str.ofString "il", Str.ofString "i"]
abbrev glInd : List (Str × Value) := [(Str.ofString "len", .builtin "len"), (Str.ofString "range", .type "range")]
abbrev nsLess : List Str := [Str.ofString "self", Str.ofString "other", Str.ofString "n", Str.ofString "ts"]
abbrev glLess : List (Str × Value) := [(Str.ofString "max", .builtin "max"), (Str.ofString "range", .type "range")]
section
variable {F : Fm} {A : Around} {n : Nat} {C : Addr}
theorem walk_long (g : Good F A n) (lc : Loc F nsLong glLong) (ck : ClsOk F.S C atWs) (ws : List Nat) (hw : ws.length ≤ 900) :
    Ex F A [some (wsV C ws), none, none] [] (bodyOf (inCls 2 (stAt 8))) (Gives (.int (longF (wsOf ws)))) := by
  have hd := g.hd
  obtain ⟨b1, b2, b3, b4⟩ := wsOf_le ws
  refine s_asnT (pu_attr g ck (pu_var g lc .head) at_norm mem_norm trivial) (tgt_tup hd ⟨tgt_loc g lc (.tail .head) ⟨tgt_loc g lc (.tail (.tail .head)) ?_, rfl⟩, rfl⟩ rfl rfl)
  refine s_ret (pu_call g (pu_gl g lc (.tail .head)) (.cons (pu_sub (pu_call g (pu_gl g lc .head) (.cons (pu_var g lc (.tail .head)) .nil rfl) (cl_lenT (sz1000 (by rw [vInts_len]; omega))) rfl rfl rfl rfl) pu_int) (.cons (pu_var g lc (.tail (.tail .head))) .nil rfl) rfl) (cl_max2 hd) rfl rfl rfl rfl) ?_
  rw [vInts_len]; rfl
theorem walk_ind (g : Good F A n) (lc : Loc F nsInd glInd) (ck : ClsOk F.S C atWs) (ws : List Nat) (hw : ws.length ≤ 900) (ts : Nat) (h0 : 0 < ts) (h1 : ts ≤ 2000) :
    Ex F A [some (wsV C ws), some (.int ts), none, none, none, none] [] (bodyOf (inCls 3 (stAt 8))) (Gives (.int (indentF (wsOf ws) ts))) := by
  have hd := g.hd
  obtain ⟨b1, b2, b3, b4⟩ := wsOf_le ws
  refine s_asnT (pu_attr g ck (pu_var g lc .head) at_norm mem_norm trivial) (tgt_tup hd ⟨tgt_loc g lc (.tail (.tail .head)) ⟨tgt_loc g lc (.tail (.tail (.tail .head))) ?_, rfl⟩, rfl⟩ rfl rfl)
  refine s_asn g lc pu_int (.tail (.tail (.tail (.tail .head)))) ?_ rfl
  have hlen := pu_call (pos := ⟨0, 0, 0, 0⟩) g (pu_gl (pos := ⟨0, 0, 0, 0⟩) g lc .head) (.cons (pu_var (pos := ⟨0, 0, 0, 0⟩) (G := [some (wsV C ws), some (.int ts), some (.tup (vInts (wsOf ws).cnt)), some (.int (wsOf ws).b), some (.int 0), none]) (Λ := []) g lc (.tail (.tail .head))) .nil rfl) (cl_lenT (sz1000 (by rw [vInts_len]; omega))) rfl rfl rfl rfl
  refine Ex.seq (J := fun f G Λ => f = .next ∧ Λ = [] ∧ ∃ o, G = [some (wsV C ws), some (.int ts), some (.tup (vInts (wsOf ws).cnt)), some (.int (wsOf ws).b), some (.int (ilF (wsOf ws).cnt ts ((wsOf ws).cnt.length - ts))), o]) ?_ ?_
  · refine ex_for (pu_call g (pu_gl g lc (.tail .head)) (.cons (pu_var g lc (.tail .head)) (.cons (pu_call g (pu_gl g lc .head) (.cons (pu_var g lc (.tail (.tail .head))) .nil rfl) (cl_lenT (sz1000 (by rw [vInts_len]; omega))) rfl rfl rfl rfl) .nil rfl) rfl) cl_range2 rfl rfl rfl rfl) (itb_from hd h1 (by rw [vInts_len]; omega))
      (fun k G Λ => Λ = [] ∧ ∃ o, G = [some (wsV C ws), some (.int ts), some (.tup (vInts (wsOf ws).cnt)), some (.int (wsOf ws).b), some (.int (ilF (wsOf ws).cnt ts k)), o]) ⟨rfl, _, rfl⟩ ?_ ?_ (fun _ => rfl)
    · rintro k G Λ v hk hv ⟨rfl, o, rfl⟩
      obtain ⟨hlt, rfl⟩ := rangeL_at hv
      rw [vInts_len] at hlt
      refine tgt_loc g lc (.tail (.tail (.tail (.tail (.tail .head))))) ?_
      have hdiv : (((ts + k : Nat) : Int) / (ts : Int)).natAbs < 2 ^ 62 := by
        have e : ((ts + k : Nat) : Int) / (ts : Int) = (((ts + k) / ts : Nat) : Int) := rfl
        rw [e, Int.natAbs_natCast]
        have := Nat.div_le_self (ts + k) ts
        omega
      refine s_asn g lc (pu_add (pu_var g lc (.tail (.tail (.tail (.tail .head))))) (pu_mul (pu_div g (pu_var g lc (.tail (.tail (.tail (.tail (.tail .head)))))) (pu_var g lc (.tail .head)) (by omega) (by omega)) (pu_item (pu_var g lc (.tail (.tail .head))) (pu_var g lc (.tail (.tail (.tail (.tail (.tail .head)))))) (itm_tup (k := ts + k) (by rw [vInts_len]; exact seqIndex_pos (by omega)) (vInts_get (by omega)) (by omega) (by omega))) (.inl hdiv))) (.tail (.tail (.tail (.tail .head)))) (ex_nil ?_) rfl
      exact ⟨rfl, _, rfl⟩
    · rintro G Λ ⟨rfl, o, rfl⟩
      rw [rangeL_len, vInts_len]
      exact ⟨rfl, rfl, o, rfl⟩
  · rintro f G Λ ⟨rfl, rfl, o, rfl⟩
    refine s_ret (pu_add (pu_var g lc (.tail (.tail (.tail .head)))) (pu_mul (pu_var g lc (.tail .head)) (pu_add (pu_var g lc (.tail (.tail (.tail (.tail .head))))) (pu_attr g ck (pu_var g lc .head) at_nt mem_nt trivial)) (.inl (by omega)))) rfl
/-- the methods that less calls -/
structure WsMeth (S : St) (C fl fi : Addr) : Prop where
  long : findIn S.K (.ref C) (Str.ofString "longest_run_of_spaces") = some (some (.ref fl))
  longF : isFn S.K (.ref fl) = true
  longK : keepIn S.K (.ref fl) = true
  ind : findIn S.K (.ref C) (Str.ofString "indent_level") = some (some (.ref fi))
  indF : isFn S.K (.ref fi) = true
  indK : keepIn S.K (.ref fi) = true
theorem walk_less {fl fi : Addr} (g : Good F A n) (lc : Loc F nsLess glLess) (ck : ClsOk F.S C atWs) (cm : WsMeth F.S C fl fi)
    (hl : ∀ ws : List Nat, ws.length ≤ 900 → Fn F.S fl n [wsV C ws] (.int (longF (wsOf ws)))) (hi : ∀ (ws : List Nat) (ts : Nat), ws.length ≤ 900 → 0 < ts → ts ≤ 2000 → Fn F.S fi n [wsV C ws, .int ts] (.int (indentF (wsOf ws) ts)))
    (ws us : List Nat) (hw : ws.length ≤ 900) (hu : us.length ≤ 900) :
    Ex F A [some (wsV C ws), some (wsV C us), none, none] [] (bodyOf (inCls 6 (stAt 8))) (Gives (.bool (lessF (wsOf ws) (wsOf us)))) := by
  have hd := g.hd
  obtain ⟨b1, b2, b3, b4⟩ := wsOf_le ws
  obtain ⟨c1, c2, c3, c4⟩ := wsOf_le us
  refine s_if (ts_cmp (pu_attr g ck (pu_var g lc .head) at_n mem_n trivial) (pu_attr g ck (pu_var g lc (.tail .head)) at_n mem_n trivial) cm_ge rfl) (fun h => ?_) (fun h => ?_)
  · refine s_ret pu_bool ?_
    have h' : (wsOf ws).n ≥ (wsOf us).n := by simpa using h
    simp only [On, Gives, lessF]
    rw [if_pos h']
  refine ex_nil ?_
  have h' : ¬ (wsOf ws).n ≥ (wsOf us).n := by simpa using h
  refine s_if (ts_bool (ta_and (ts_val (pu_attr g ck (pu_var g lc .head) at_simple mem_simple trivial) tr_bool (fun _ => rfl)) fun _ => ta_and (ts_val (pu_attr g ck (pu_var g lc (.tail .head)) at_simple mem_simple trivial) tr_bool (fun _ => rfl)) fun _ => ta_and0)) (fun h2 => ?_) (fun h2 => ?_)
  · refine s_ret (pu_cmp (pu_attr g ck (pu_var g lc .head) at_nt mem_nt trivial) (pu_attr g ck (pu_var g lc (.tail .head)) at_nt mem_nt trivial) cm_le rfl) ?_
    have h3 : (wsOf ws).cnt.length ≤ 1 ∧ (wsOf us).cnt.length ≤ 1 := by
      simp only [Bool.and_true, Bool.and_eq_true, decide_eq_true_eq] at h2; omega
    simp only [On, Gives, lessF]
    rw [if_neg h', if_pos h3]
    congr 1
    by_cases h4 : (wsOf ws).nt ≤ (wsOf us).nt
    · simp [h4]
    · simp [h4]
  refine ex_nil ?_
  have h3 : ¬ ((wsOf ws).cnt.length ≤ 1 ∧ (wsOf us).cnt.length ≤ 1) := by
    simp only [Bool.and_true, Bool.and_eq_false_iff, decide_eq_false_iff_not] at h2; omega
  have hgoal : lessF (wsOf ws) (wsOf us) = (List.range (max (longF (wsOf ws)) (longF (wsOf us))).toNat).all fun i => decide (indentF (wsOf ws) (2 + i) < indentF (wsOf us) (2 + i)) := by
    unfold lessF; rw [if_neg h', if_neg h3]
  rw [hgoal]
  generalize hm : (max (longF (wsOf ws)) (longF (wsOf us))).toNat = m
  have hpos : (m : Int) = max (longF (wsOf ws)) (longF (wsOf us)) := by rw [← hm]; unfold longF; omega
  have hmle : m ≤ 900 := by unfold longF at hpos; omega
  refine s_asn g lc (pu_add (pu_call g (pu_gl g lc .head) (.cons (pu_meth g ck (pu_var g lc .head) cm.long cm.longF cm.longK (by decide +kernel) .nil (hl ws hw) rfl (.inl rfl)) (.cons (pu_meth g ck (pu_var g lc (.tail .head)) cm.long cm.longF cm.longK (by decide +kernel) .nil (hl us hu) rfl (.inl rfl)) .nil rfl) rfl) (cl_max2 hd) rfl rfl rfl rfl) pu_int) (.tail (.tail .head)) ?_ rfl
  rw [← hpos]
  refine Ex.seq (J := fun f G Λ => match f with
    | .next => Λ = [] ∧ ((List.range m).all fun i => decide (indentF (wsOf ws) (2 + i) < indentF (wsOf us) (2 + i))) = true
    | .ret v => v = .bool false ∧ ((List.range m).all fun i => decide (indentF (wsOf ws) (2 + i) < indentF (wsOf us) (2 + i))) = false
    | _ => False) ?_ ?_
  · refine ex_for (pu_call g (pu_gl g lc (.tail .head)) (.cons pu_int (.cons (Pu.cast (u := .int ((m + 2 : Nat) : Int)) (pu_add (pu_var g lc (.tail (.tail .head))) pu_int) ?_) .nil rfl) rfl) cl_range2 rfl rfl rfl rfl) (itb_from (p := 2) (q := m + 2) hd (by omega) (by omega))
      (fun k G Λ => Λ = [] ∧ (∀ i, i < k → indentF (wsOf ws) (2 + i) < indentF (wsOf us) (2 + i)) ∧ ∃ o, G = [some (wsV C ws), some (wsV C us), some (.int ((m : Int) + 1)), o]) ⟨rfl, fun i hi => by omega, _, rfl⟩ ?_ ?_ (fun _ => rfl)
    · congr 1
    · rintro k G Λ v hk hv ⟨rfl, hall, o, rfl⟩
      obtain ⟨hlt, rfl⟩ := rangeL_at (p := 2) hv
      refine tgt_loc g lc (.tail (.tail (.tail .head))) ?_
      refine s_if (ts_cmp (pu_meth g ck (pu_var g lc .head) cm.ind cm.indF cm.indK (by decide +kernel) (.cons (pu_var g lc (.tail (.tail (.tail .head)))) .nil rfl) (hi ws (2 + k) hw (by omega) (by omega)) rfl (.inr ⟨_, _, rfl, rfl, rfl⟩)) (pu_meth g ck (pu_var g lc (.tail .head)) cm.ind cm.indF cm.indK (by decide +kernel) (.cons (pu_var g lc (.tail (.tail (.tail .head)))) .nil rfl) (hi us (2 + k) hu (by omega) (by omega)) rfl (.inr ⟨_, _, rfl, rfl, rfl⟩)) cm_ge rfl) (fun h4 => ?_) (fun h4 => ?_)
      · refine s_ret pu_bool ⟨rfl, ?_⟩
        have h5 : ¬ indentF (wsOf ws) (2 + k) < indentF (wsOf us) (2 + k) := by simpa using h4
        rw [List.all_eq_false]
        exact ⟨k, List.mem_range.mpr (by omega), by simpa using h5⟩
      · have h5 : indentF (wsOf ws) (2 + k) < indentF (wsOf us) (2 + k) := by simpa using h4
        refine ex_nil (ex_nil ⟨rfl, fun i hi' => ?_, _, rfl⟩)
        by_cases hik : i = k
        · rw [hik]; exact h5
        · exact hall i (by omega)
    · rintro G Λ ⟨rfl, hall, o, rfl⟩
      refine ⟨rfl, List.all_eq_true.mpr fun i hi => ?_⟩
      rw [rangeL_len] at hall
      exact decide_eq_true (hall i (by have := List.mem_range.mp hi; omega))
  · rintro f G Λ hJ
    cases f with
    | next => obtain ⟨rfl, h6⟩ := hJ; refine s_ret pu_bool ?_; rw [h6]; rfl
    | ret v => obtain ⟨rfl, h6⟩ := hJ; show _ = _; rw [h6]
    | brk => exact hJ.elim
    | cont => exact hJ.elim
end

/-! the contracts -/
theorem fn_long {S : St} {f C : Addr} {r : Rest} (ok : StOk S) (d : Def S f (fdOf (inCls 2 (stAt 8)) r)) (hg : ∀ p ∈ glLong, TopName S p.1 p.2) (ck : ClsOk S C atWs) (n : Nat) (ws : List Nat) (hw : ws.length ≤ 900) : Fn S f (n + 1) [wsV C ws] (.int (longF (wsOf ws))) := by
  refine fn_of (names := nsLong.take 1) (more := nsLong.drop 1) ok d rfl rfl (fun xs hx => ?_) (by decide +kernel) (by decide +kernel : ∀ x ∈ (scopeOf (inCls 2 (stAt 8))).names, x.2 ≠ NameKind.cell) (by decide +kernel : ∀ x ∈ nsLong.take 1, (scopeOf (inCls 2 (stAt 8))).names.lookup x = some NameKind.local) (fun L P Z₀ A g => ?_)
  · match xs, hx with
    | [a], _ => rfl
  · exact walk_long g (loc_def rfl rfl (by decide +kernel : (nsLong.all fun x => decide ((scopeOf (inCls 2 (stAt 8))).names.lookup x = some .local) && !(x == ("__debug__" : Str))) = true) rfl hg) ck ws hw
theorem fn_ind {S : St} {f C : Addr} {r : Rest} (ok : StOk S) (d : Def S f (fdOf (inCls 3 (stAt 8)) r)) (hg : ∀ p ∈ glInd, TopName S p.1 p.2) (ck : ClsOk S C atWs) (n : Nat) (ws : List Nat) (ts : Nat) (hw : ws.length ≤ 900) (h0 : 0 < ts) (h1 : ts ≤ 2000) : Fn S f (n + 1) [wsV C ws, .int ts] (.int (indentF (wsOf ws) ts)) := by
  refine fn_of (names := nsInd.take 2) (more := nsInd.drop 2) ok d rfl rfl (fun xs hx => ?_) (by decide +kernel) (by decide +kernel : ∀ x ∈ (scopeOf (inCls 3 (stAt 8))).names, x.2 ≠ NameKind.cell) (by decide +kernel : ∀ x ∈ nsInd.take 2, (scopeOf (inCls 3 (stAt 8))).names.lookup x = some NameKind.local) (fun L P Z₀ A g => ?_)
  · match xs, hx with
    | [a, b], _ => rfl
  · exact walk_ind g (loc_def rfl rfl (by decide +kernel : (nsInd.all fun x => decide ((scopeOf (inCls 3 (stAt 8))).names.lookup x = some .local) && !(x == ("__debug__" : Str))) = true) rfl hg) ck ws hw ts h0 h1
theorem fn_less {S : St} {f C fl fi : Addr} {r : Rest} (ok : StOk S) (d : Def S f (fdOf (inCls 6 (stAt 8)) r)) (hg : ∀ p ∈ glLess, TopName S p.1 p.2) (ck : ClsOk S C atWs) (cm : WsMeth S C fl fi) (n : Nat)
    (hl : ∀ ws : List Nat, ws.length ≤ 900 → Fn S fl n [wsV C ws] (.int (longF (wsOf ws)))) (hi : ∀ (ws : List Nat) (ts : Nat), ws.length ≤ 900 → 0 < ts → ts ≤ 2000 → Fn S fi n [wsV C ws, .int ts] (.int (indentF (wsOf ws) ts)))
    (ws us : List Nat) (hw : ws.length ≤ 900) (hu : us.length ≤ 900) : Fn S f (n + 1) [wsV C ws, wsV C us] (.bool (lessF (wsOf ws) (wsOf us))) := by
  refine fn_of (names := nsLess.take 2) (more := nsLess.drop 2) ok d rfl rfl (fun xs hx => ?_) (by decide +kernel) (by decide +kernel : ∀ x ∈ (scopeOf (inCls 6 (stAt 8))).names, x.2 ≠ NameKind.cell) (by decide +kernel : ∀ x ∈ nsLess.take 2, (scopeOf (inCls 6 (stAt 8))).names.lookup x = some NameKind.local) (fun L P Z₀ A g => ?_)
  · match xs, hx with
    | [a, b], _ => rfl
  · exact walk_less g (loc_def rfl rfl (by decide +kernel : (nsLess.all fun x => decide ((scopeOf (inCls 6 (stAt 8))).names.lookup x = some .local) && !(x == ("__debug__" : Str))) = true) rfl hg) ck cm hl hi ws us hw hu
/-- an object made -/
theorem cl_ws {F : Fm} {A : Around} {G : List (Option V)} {Λ : Led} {n : Nat} {C fI : Addr} {r : Rest} (g : Good F A (n + 2)) (ck : WsCls F.S C) (hm : makesIn F.S.K C = true) (hi : findIn F.S.K (.ref C) "__init__" = some (some (.ref fI))) (hf : typeIn F.S.K (.ref fI) = some (.type "function"))
    (d : Def F.S fI (fdOf (inCls 1 (stAt 8)) r)) (hg : ∀ p ∈ glInit C, TopName F.S p.1 p.2) (ws : List Nat) (hw : ws.length ≤ 900) : ClV F A G Λ (.ref C) [.str ws] (wsV C ws) := by
  refine cl_make (names := nsInit.take 2) (more := nsInit.drop 2) g hm hi hf d rfl rfl (fun xs hx => ?_) (by decide +kernel) (by decide +kernel : ∀ x ∈ (scopeOf (inCls 1 (stAt 8))).names, x.2 ≠ NameKind.cell) (by decide +kernel : ∀ x ∈ nsInit.take 2, (scopeOf (inCls 1 (stAt 8))).names.lookup x = some NameKind.local) (fun x dx L P Z₀ A g => ?_)
  · match xs, hx with
    | [a, b], _ => rfl
  · exact walk_init g (loc_def rfl rfl (by decide +kernel : (nsInit.all fun x => decide ((scopeOf (inCls 1 (stAt 8))).names.lookup x = some .local) && !(x == ("__debug__" : Str))) = true) rfl hg) ck ws hw
end Mine
end

/-! W7 -/
section
open PySem PySem.W PyProof.Rows PySem.Calls
set_option maxRecDepth 100000
set_option autoImplicit false
set_option linter.unusedVariables false
namespace Mine

/-! the table of the tokens, off the text -/
def intNamed (x : Str) : List Stmt → Option Nat
  | .Assign [.Name y _] (.Constant (.int i) _ _) _ :: r => if y = x then some i.toNat else intNamed x r
  | _ :: r => intNamed x r
  | [] => none
def tabKeys : List (Option Expr) → List (List Nat)
  | some (.Constant (.str s) _ _) :: r => s.cps.toList :: tabKeys r
  | _ :: r => tabKeys r
  | [] => []
def tabVals : List Expr → List Nat
  | .Name x _ :: r => (intNamed x PySem.Challenge.pw_rw0117_01.main.body).getD 0 :: tabVals r
  | _ :: r => tabVals r
  | [] => []
def tokTab : List (List Nat × Nat) := match stAt 60 with
  | .Assign _ (.Dict ks vs _) _ => (tabKeys ks).zip (tabVals vs)
  | _ => []
def tokNum (xs : List Nat) : Option Nat := tokTab.lookup xs
/-- the table in the heap -/
def TabOk (S : St) (dE : Addr) : Prop := (dE == sysModules) = false ∧ ∃ f : Str → Option Value, (∀ h, S.K.In h → h.MapOf (PySem.strKind S.prog S.w) dE f) ∧ ∀ xs : List Nat, match tokNum xs with
  | some t => ∃ tk, f ⟨xs.toArray⟩ = some (.int t tk)
  | none => f ⟨xs.toArray⟩ = none

section
variable {F : Fm} {A : Around} {G G' G₁ : List (Option V)} {Λ Λ' Λ₁ X : Led} {e l r : Expr} {v u a b c : V} {P P' : V → Led → Prop} {R R' : Post} {n : Nat} {pos : Pos} {i j k : Int} {vs us : List V} {xs : List Nat} {dE : Addr}
theorem isKey (xs : List Nat) (t : Tok) (prog : Program) (w : World) : (PySem.strKind prog w).is ⟨xs.toArray⟩ (.str ⟨xs.toArray⟩ t) = true := by
  have h : PySem.Value.isStrOf (⟨xs.toArray⟩ : Str) (.str ⟨xs.toArray⟩ t) = true := beq_self_eq_true _
  exact h
theorem cm_inTab (g : Good F A n) (ht : TabOk F.S dE) : Cm F A G Λ .In (.str xs) (.val (.ref dE)) (tokNum xs).isSome := by
  intro x y s Z N Q E hx hy a t
  obtain ⟨tk, rfl⟩ := isStr hx
  have := isVal hy; subst this
  obtain ⟨h1, f, hf, hv⟩ := ht
  refine wpAny_in_of (isKey xs tk _ _) h1 (hf _ (a.K g)) ?_
  have := hv xs
  have e : (f ⟨xs.toArray⟩).isSome = (tokNum xs).isSome := by
    revert this
    cases tokNum xs with
    | none => intro h; rw [show f ⟨xs.toArray⟩ = none from h]; rfl
    | some t => rintro ⟨tk, h⟩; rw [h]; rfl
  rw [e]
  exact t _ _ Z (.refl _) a
theorem itm_tab {t : Nat} (g : Good F A n) (ht : TabOk F.S dE) (hx : tokNum xs = some t) : Itm F A G Λ (.val (.ref dE)) (.str xs) (.int t) := by
  intro vl sl x y s Z N Q E hs hx' hy a k'
  obtain ⟨tk, rfl⟩ := isStr hy
  have := isVal hx'; subst this
  obtain ⟨h1, f, hf, hv⟩ := ht
  have h2 := hv xs
  rw [hx] at h2
  obtain ⟨tk', h2⟩ := h2
  exact tail_any (hf _ (a.K g)).typeIs slot_dict_getitem.lookup (wpAny_getItem_of (isKey xs tk _ _) (hf _ (a.K g)) h2 (k' _ _ _ Z (.refl _) mkIsInt a)) (hs _ _)
theorem notInter (h : F.env.scope.kind = .function) : interactive F.env = false := by unfold interactive; rw [h]; rfl
end

/-! the small defs -/
abbrev nsX : List Str := [Str.ofString "x"]
theorem walk_isT {F : Fm} {A : Around} {n : Nat} {t : Tok} (g : Good F A n) (lc : Loc F nsX [(Str.ofString "NT_OFFSET", .int 256 t)]) (x : Int) : Ex F A [some (.int x)] [] (bodyOf (stAt 61)) (Gives (.bool (decide (x < 256)))) :=
  s_ret (pu_cmp (pu_var g lc .head) (pu_glI g lc .head) cm_lt rfl) rfl
theorem walk_isN {F : Fm} {A : Around} {n : Nat} {t : Tok} (g : Good F A n) (lc : Loc F nsX [(Str.ofString "NT_OFFSET", .int 256 t)]) (x : Int) : Ex F A [some (.int x)] [] (bodyOf (stAt 62)) (Gives (.bool (decide (x ≥ 256)))) :=
  s_ret (pu_cmp (pu_var g lc .head) (pu_glI g lc .head) cm_ge rfl) rfl
theorem walk_isE {F : Fm} {A : Around} {n : Nat} {t : Tok} (g : Good F A n) (lc : Loc F nsX [(Str.ofString "ENDMARKER", .int 0 t)]) (x : Int) : Ex F A [some (.int x)] [] (bodyOf (stAt 63)) (Gives (.bool (x == 0))) :=
  s_ret (pu_cmp (pu_var g lc .head) (pu_glI g lc .head) cm_eq rfl) rfl

/-! columns -/
def colGo (size : Nat) : List Nat → Nat → Nat
  | [], at_ => at_
  | c :: cs, at_ => colGo size cs (if c = 32 then at_ + 1 else (at_ / size + 1) * size)
def colF (lead : List Nat) (size : Nat) : Nat := colGo size lead 0
abbrev nsCol : List Str := [Str.ofString "lead", Str.ofString "size", Str.ofString "at", Str.ofString "sign"]
theorem walk_col {F : Fm} {A : Around} {n : Nat} (g : Good F A n) (lc : Loc F nsCol []) (lead : List Nat) (size : Nat) (h0 : 0 < size) (h1 : size ≤ 1000) : Ex F A [some (.str lead), some (.int size), none, none] [] (bodyOf (stAt 66)) (Gives (.int (colF lead size))) := by
  have hd := g.hd
  refine s_asn g lc pu_int (.tail (.tail .head)) ?_ rfl
  refine Ex.seq (J := fun f G Λ => f = .next ∧ Λ = [] ∧ ∃ o, G = [some (.str lead), some (.int size), some (.int (colF lead size)), o]) ?_ ?_
  · refine ex_for (pu_var g lc .head) (itb_str hd) (fun k G Λ => Λ = [] ∧ ∃ (at_ : Nat) (o : Option V), colGo size (lead.drop k) at_ = colF lead size ∧ G = [some (.str lead), some (.int size), some (.int at_), o]) ⟨rfl, 0, none, rfl, rfl⟩ ?_ ?_ (fun _ => rfl)
    · rintro k G Λ v hk hv ⟨rfl, at_, o, hgo, rfl⟩
      have hk' : k < lead.length := by simpa [signs] using hk
      have hv' : v = .str [lead.getD k 0] := by simp [signs, hk'] at hv; rw [← hv]; simp [hk']
      subst hv'
      generalize hch : lead.getD k 0 = ch
      have hdrop : lead.drop k = ch :: lead.drop (k + 1) := by rw [List.drop_eq_getElem_cons hk', ← hch]; simp [hk']
      rw [hdrop] at hgo
      refine tgt_loc g lc (.tail (.tail (.tail .head))) ?_
      refine s_asn g lc (Pu.cast (u := .int ((if ch = 32 then at_ + 1 else (at_ / size + 1) * size : Nat) : Int)) (pu_ifexp (ts_cmp (pu_var g lc (.tail (.tail (.tail .head)))) pu_str cm_eqs rfl) (fun _ => pu_add (pu_var g lc (.tail (.tail .head))) pu_int) (fun _ => pu_mul (pu_add (pu_div g (pu_var g lc (.tail (.tail .head))) (pu_var g lc (.tail .head)) (by omega) (by omega)) pu_int) (pu_var g lc (.tail .head)) (.inr (by omega)))) ?_) (.tail (.tail .head)) (ex_nil ⟨rfl, _, _, hgo, rfl⟩) rfl
      have e : (Str.ofString " ").cps.toList = [32] := by decide +kernel
      rw [e]
      by_cases h32 : ch = 32
      · simp [h32]
      · simp [h32]
    · rintro G Λ ⟨rfl, at_, o, hgo, rfl⟩
      have hl : (signs lead).length = lead.length := by simp [signs]
      rw [hl, List.drop_eq_nil_of_le (Nat.le_refl _)] at hgo
      exact ⟨rfl, rfl, o, by rw [← hgo]; rfl⟩
  · rintro f G Λ ⟨rfl, rfl, o, rfl⟩
    exact s_ret (pu_var g lc (.tail (.tail .head))) rfl

/-! reading -/
def natI (l : List Nat) : List Int := l.map fun (t : Nat) => (t : Int)
def tokAt (r : List Nat) : Option (Nat × Nat) := match tokNum (r.take 3) with
  | some t => some (3, t)
  | none => match tokNum (r.take 2) with
    | some t => some (2, t)
    | none => (tokNum (r.take 1)).map fun t => (1, t)
def readF : Nat → List Nat → Option (List Nat)
  | 0, r => if r = [] then some [] else none
  | n + 1, r => if r = [] then some [] else (tokAt r).bind fun p => (readF n (r.drop p.1)).map (p.2 :: ·)
abbrev nsRead : List Str := [Str.ofString "page", Str.ofString "numbers", Str.ofString "at", Str.ofString "size"]
abbrev glRead (dE : Addr) : List (Str × Value) := [(Str.ofString "EXACT_TOKEN_TYPES", .ref dE), (Str.ofString "len", .builtin "len")]
theorem pySlice_in {xs : List Nat} {p q : Nat} : pySlice xs (some (p : Int)) (some ((p : Int) + (q : Int))) = (xs.drop p).take q := by
  unfold pySlice clipI
  dsimp only
  rw [if_neg (by omega), if_neg (by omega)]
  by_cases h : p ≤ xs.length
  · rw [show (max 0 (min (p : Int) xs.length)).toNat = p by omega]
    by_cases h2 : p + q ≤ xs.length
    · congr 1; omega
    · rw [List.take_of_length_le (by simp; omega), List.take_of_length_le (by simp; omega)]
  · rw [List.drop_eq_nil_of_le (by omega), List.drop_eq_nil_of_le (by omega)]; simp
theorem walk_read {F : Fm} {A : Around} {n : Nat} {dE : Addr} (g : Good F A n) (lc : Loc F nsRead (glRead dE)) (ht : TabOk F.S dE) (page : List Nat) (toks : List Nat) (hp : page.length ≤ 900) (m : Nat) (hm : m ≤ 900) (hr : readF m page = some toks) :
    Ex F A [some (.str page), none, none, none] [] (bodyOf (stAt 65)) (Gives (.lst (vInts (natI toks ++ [0])))) := by
  have hd := g.hd
  have hps : page.length ≤ sizeLine := sz1000 (by omega)
  refine s_asnE g lc (ev_list .nil (by simp) fun d => ⟨_, .tail .head, ?_⟩) rfl
  refine s_asn g lc pu_int (.tail (.tail .head)) ?_ rfl
  refine Ex.seq (J := fun f G Λ => f = .next ∧ ∃ o1 o2, Λ = [(d, .lst (vInts (natI toks)))] ∧ G = [some (.str page), some (.ref d), o1, o2] ∧ toks.length ≤ 900) ?_ ?_
  · refine ex_while (fun m G Λ => ∃ (nums : List Nat) (at_ : Nat) (ts : List Nat) (o : Option V), m + nums.length ≤ 900 ∧ readF m (page.drop at_) = some ts ∧ nums ++ ts = toks ∧ Λ = [(d, .lst (vInts (natI nums)))] ∧ G = [some (.str page), some (.ref d), some (.int at_), o]) m ⟨[], 0, toks, none, by simpa using hm, by simpa using hr, rfl, rfl, rfl⟩ ?_
    rintro m G Λ ⟨nums, at_, ts, o, hml, hrd, hts, rfl, rfl⟩
    refine ⟨_, ts_cmp (pu_var g lc (.tail (.tail .head))) (pu_call g (pu_gl g lc (.tail .head)) (.cons (pu_var g lc .head) .nil rfl) (cl_lenS hps) rfl rfl rfl rfl) cm_lt rfl, fun hb => ?_, fun hb => ?_⟩
    · have hlt : at_ < page.length := by simpa using hb
      have hne : page.drop at_ ≠ [] := by intro e; have := congrArg List.length e; simp at this; omega
      obtain ⟨m', rfl⟩ : ∃ m', m = m' + 1 := by
        cases m with
        | zero => simp [readF, hne] at hrd
        | succ m' => exact ⟨m', rfl⟩
      simp only [readF, if_neg hne] at hrd
      obtain ⟨⟨sz, t⟩, htok, hrd⟩ := Option.bind_eq_some_iff.mp hrd
      obtain ⟨ts', hrd', rfl⟩ := Option.map_eq_some_iff.mp hrd
      have hsz : tokNum ((page.drop at_).take sz) = some t ∧ (sz = 3 ∨ (sz = 2 ∧ tokNum ((page.drop at_).take 3) = none) ∨ (sz = 1 ∧ tokNum ((page.drop at_).take 3) = none ∧ tokNum ((page.drop at_).take 2) = none)) := by
        unfold tokAt at htok
        split at htok
        · rename_i h; cases htok; exact ⟨h, .inl rfl⟩
        · rename_i h3
          split at htok
          · rename_i h; cases htok; exact ⟨h, .inr (.inl ⟨rfl, h3⟩)⟩
          · rename_i h2
            obtain ⟨t', h, e⟩ := Option.map_eq_some_iff.mp htok
            cases e; exact ⟨h, .inr (.inr ⟨rfl, h3, h2⟩)⟩
      refine Ex.seq (J := fun f G Λ => f = .next ∧ Λ = [(d, .lst (vInts (natI nums)))] ∧ G = [some (.str page), some (.ref d), some (.int at_), some (.int sz)]) ?_ ?_
      · refine ex_for (pu_tup (.cons pu_int (.cons pu_int (.cons pu_int .nil rfl) rfl) rfl) (sz40 (by simp))) (itb_tup hd)
          (fun k G Λ => Λ = [(d, .lst (vInts (natI nums)))] ∧ (k = 0 ∨ (k = 1 ∧ sz ≠ 3) ∨ (k = 2 ∧ sz = 1)) ∧ ∃ o, G = [some (.str page), some (.ref d), some (.int at_), o]) ⟨rfl, .inl rfl, o, rfl⟩ ?_ ?_ (fun _ => rfl)
        · rintro k G Λ v hk hv ⟨rfl, hkk, o', rfl⟩
          refine tgt_loc g lc (.tail (.tail (.tail .head))) ?_
          rcases hkk with rfl | ⟨rfl, h3⟩ | ⟨rfl, h1⟩
          · obtain rfl : v = .int 3 := by simpa using hv.symm
            refine s_if (ts_cmp (pu_slice (lo := some _) (hi := some _) (pu_var g lc .head) (pu_var g lc (.tail (.tail .head))) (pu_add (pu_var g lc (.tail (.tail .head))) (pu_var g lc (.tail (.tail (.tail .head))))) .int .int hps) (pu_gl g lc .head) (cm_inTab g ht) rfl) (fun h => ?_) (fun h => ?_)
            · rw [show (at_ : Int) + 3 = (at_ : Int) + ((3 : Nat) : Int) from rfl, pySlice_in] at h
              refine s_brk ?_
              rcases hsz.2 with rfl | ⟨rfl, h4⟩ | ⟨rfl, h4, _⟩
              · exact ⟨rfl, rfl, rfl⟩
              · rw [h4] at h; cases h
              · rw [h4] at h; cases h
            · rw [show (at_ : Int) + 3 = (at_ : Int) + ((3 : Nat) : Int) from rfl, pySlice_in] at h
              refine ex_nil (ex_nil ⟨rfl, .inr (.inl ⟨rfl, ?_⟩), _, rfl⟩)
              rintro rfl
              rw [hsz.1] at h; cases h
          · obtain rfl : v = .int 2 := by simpa using hv.symm
            refine s_if (ts_cmp (pu_slice (lo := some _) (hi := some _) (pu_var g lc .head) (pu_var g lc (.tail (.tail .head))) (pu_add (pu_var g lc (.tail (.tail .head))) (pu_var g lc (.tail (.tail (.tail .head))))) .int .int hps) (pu_gl g lc .head) (cm_inTab g ht) rfl) (fun h => ?_) (fun h => ?_)
            · rw [show (at_ : Int) + 2 = (at_ : Int) + ((2 : Nat) : Int) from rfl, pySlice_in] at h
              refine s_brk ?_
              rcases hsz.2 with rfl | ⟨rfl, h4⟩ | ⟨rfl, _, h4⟩
              · exact absurd rfl h3
              · exact ⟨rfl, rfl, rfl⟩
              · rw [h4] at h; cases h
            · rw [show (at_ : Int) + 2 = (at_ : Int) + ((2 : Nat) : Int) from rfl, pySlice_in] at h
              refine ex_nil (ex_nil ⟨rfl, .inr (.inr ⟨rfl, ?_⟩), _, rfl⟩)
              rcases hsz.2 with rfl | ⟨rfl, h4⟩ | ⟨rfl, _, h4⟩
              · exact absurd rfl h3
              · rw [hsz.1] at h; cases h
              · rfl
          · obtain rfl : v = .int 1 := by simpa using hv.symm
            subst h1
            refine s_if (ts_cmp (pu_slice (lo := some _) (hi := some _) (pu_var g lc .head) (pu_var g lc (.tail (.tail .head))) (pu_add (pu_var g lc (.tail (.tail .head))) (pu_var g lc (.tail (.tail (.tail .head))))) .int .int hps) (pu_gl g lc .head) (cm_inTab g ht) rfl) (fun h => ?_) (fun h => ?_)
            · exact s_brk ⟨rfl, rfl, rfl⟩
            · rw [show (at_ : Int) + 1 = (at_ : Int) + ((1 : Nat) : Int) from rfl, pySlice_in, hsz.1] at h; cases h
        · rintro G Λ ⟨rfl, hkk, o', rfl⟩
          simp at hkk
      · rintro f G Λ ⟨rfl, rfl, rfl⟩
        refine s_expr (ev_append (pu_var g lc (.tail .head)) (pu_item (pu_gl g lc .head) (pu_slice (lo := some _) (hi := some _) (pu_var g lc .head) (pu_var g lc (.tail (.tail .head))) (pu_add (pu_var g lc (.tail (.tail .head))) (pu_var g lc (.tail (.tail (.tail .head))))) .int .int hps) (itm_tab (t := t) g ht (by rw [pySlice_in]; exact hsz.1))) .head (sz1000 (by simp [vInts, natI]; omega)) ?_ rfl) (notInter g.fk) rfl
        refine s_aug g lc (.tail (.tail .head)) (pu_var g lc (.tail (.tail (.tail .head)))) inp_add (.tail (.tail .head)) (ex_nil ?_)
        refine ⟨m', by omega, nums ++ [t], at_ + sz, ts', some (.int sz), by simp; omega, by rw [← List.drop_drop]; exact hrd', by rw [← hts]; simp, ?_, by simp⟩
        simp [vInts, natI]
    · have hge : ¬ at_ < page.length := by simpa using hb
      have hnil : page.drop at_ = [] := List.drop_eq_nil_of_le (by omega)
      rw [hnil] at hrd
      have hts' : ts = [] := by
        cases m with
        | zero => simpa [readF] using hrd.symm
        | succ m' => simpa [readF] using hrd.symm
      subst hts'
      simp only [List.append_nil] at hts
      subst hts
      exact ⟨rfl, _, _, rfl, rfl, by omega⟩
  · rintro f G Λ ⟨rfl, o1, o2, rfl, rfl, hl⟩
    refine s_ret (pu_catL (pu_var g lc (.tail .head)) (pu_list (.cons pu_int .nil rfl) (sz40 (by simp))) (.inr ⟨d, rfl, .head _⟩) (.inl rfl) (sz1000 (by simp [vInts, natI]; omega))) ?_
    simp [Gives, vInts]
end Mine
end

/-! W8 -/
section
open PySem PySem.W PyProof.Rows PySem.Calls
set_option maxRecDepth 100000
set_option autoImplicit false
set_option linter.unusedVariables false
namespace Mine

def minL : List Int → Int
  | [] => 0
  | [x] => x
  | x :: y :: r => min x (minL (y :: r))
theorem minL_mem : ∀ (l : List Int), l ≠ [] → minL l ∈ l
  | [], h => absurd rfl h
  | [x], _ => .head _
  | x :: y :: r, _ => by
    have := minL_mem (y :: r) (by simp)
    unfold minL
    rw [Int.min_def]
    split
    · exact .head _
    · exact .tail _ this
theorem minL_le : ∀ (l : List Int), ∀ a ∈ l, minL l ≤ a
  | [], a, h => by cases h
  | [x], a, h => by rcases List.mem_cons.mp h with rfl | h; exact Int.le_refl _; cases h
  | x :: y :: r, a, h => by
    unfold minL
    rcases List.mem_cons.mp h with rfl | h
    · omega
    · have := minL_le (y :: r) a h; omega
def waysG (close far : List Int) (beside : Bool) (best : List Int) (j : Nat) : Nat → List Int
  | 0 => [((far.getD j 0).natAbs : Int)]
  | i + 1 => waysG close far beside best j i ++ (if decide (close.getD i 0 ≤ (j : Int)) == beside then [best.getD i 0 + ((far.getD j 0 - far.getD i 0).natAbs : Int)] else [])
theorem waysG_ne (close far : List Int) (beside : Bool) (best : List Int) (j : Nat) : ∀ i, waysG close far beside best j i ≠ []
  | 0 => by simp [waysG]
  | i + 1 => by simp [waysG, waysG_ne close far beside best j i]
theorem waysG_len (close far : List Int) (beside : Bool) (best : List Int) (j : Nat) : ∀ i, (waysG close far beside best j i).length ≤ i + 1
  | 0 => by simp [waysG]
  | i + 1 => by
    have := waysG_len close far beside best j i
    unfold waysG
    split <;> simp <;> omega
def bestL (close far : List Int) (beside : Bool) : Nat → List Int
  | 0 => []
  | j + 1 =>
    let b := bestL close far beside j
    b ++ [minL (waysG close far beside b j j) - (if close.getD j 0 > (j : Int) + 1 then 1 else 2)]
theorem bestL_len (close far : List Int) (beside : Bool) : ∀ j, (bestL close far beside j).length = j
  | 0 => rfl
  | j + 1 => by simp [bestL, bestL_len close far beside j]
def leastG (close far : List Int) (beside : Bool) : Nat → Int
  | 0 => 2 * close.length
  | j + 1 => min (leastG close far beside j) (2 * close.length + (bestL close far beside (j + 1)).getD j 0 + ((far.getD j 0).natAbs : Int))
def leastF (close far : List Int) (beside : Bool) : Int := leastG close far beside close.length

abbrev nsLst : List Str := [Str.ofString "close", Str.ofString "far", Str.ofString "beside", Str.ofString "least", Str.ofString "best", Str.ofString "j", Str.ofString "ways", Str.ofString "i"]
abbrev glLst : List (Str × Value) := [(Str.ofString "len", .builtin "len"), (Str.ofString "range", .type "range"), (Str.ofString "abs", .builtin "abs"), (Str.ofString "min", .builtin "min")]
theorem walk_least {F : Fm} {A : Around} {n : Nat} (g : Good F A n) (lc : Loc F nsLst glLst) (close far : List Int) (beside : Bool) (hl : close.length ≤ 100) (hf : far.length = close.length) :
    Ex F A [some (.lst (vInts close)), some (.lst (vInts far)), some (.bool beside), none, none, none, none, none] [] (bodyOf (stAt 67)) (Gives (.int (leastF close far beside))) := by
  have hd := g.hd
  have hcl : (vInts close).length ≤ sizeLine := sz1000 (by rw [vInts_len]; omega)
  have ln : ∀ {G Λ} {o : Expr} {pos pos' : Pos}, Pu F A G Λ o (.lst (vInts close)) → starEach [o] F.env = (false, eval o F.env) :: starEach [] F.env → Pu F A G Λ (.Call (.Name (Str.ofString "len") pos') [o] [] pos) (.int close.length) := fun ho he =>
    Pu.cast (pu_call g (pu_gl g lc .head) (.cons ho .nil he) (cl_lenL (.inl rfl) hcl) rfl rfl he rfl) (by rw [vInts_len])
  have ab : ∀ {G Λ} {o : Expr} {pos pos' : Pos} {x : Int}, Pu F A G Λ o (.int x) → starEach [o] F.env = (false, eval o F.env) :: starEach [] F.env → Pu F A G Λ (.Call (.Name (Str.ofString "abs") pos') [o] [] pos) (.int (x.natAbs : Int)) := fun ho he =>
    pu_call g (pu_gl g lc (.tail (.tail .head))) (.cons ho .nil he) cl_abs rfl rfl he rfl
  refine s_asn g lc (pu_mul pu_int (ln (pu_var g lc .head) rfl) (.inl (by decide))) (.tail (.tail (.tail .head))) ?_ rfl
  refine s_asnE g lc (ev_list .nil (by simp) fun d => ⟨_, .tail (.tail (.tail (.tail .head))), ?_⟩) rfl
  refine Ex.seq (J := fun f G Λ => f = .next ∧ ∃ o1 o2 o3 o4, G = [some (.lst (vInts close)), some (.lst (vInts far)), some (.bool beside), some (.int (leastF close far beside)), o1, o2, o3, o4]) ?_ ?_
  · refine ex_for (pu_call g (pu_gl g lc (.tail .head)) (.cons (ln (pu_var g lc .head) rfl) .nil rfl) cl_range1 rfl rfl rfl rfl) (itb_nats hd (by omega))
      (fun j G Λ => ∃ o2 o3 o4, Λ = [(d, .lst (vInts (bestL close far beside j)))] ∧ G = [some (.lst (vInts close)), some (.lst (vInts far)), some (.bool beside), some (.int (leastG close far beside j)), some (.ref d), o2, o3, o4]) ⟨_, _, _, rfl, rfl⟩ ?_ ?_ (fun _ => rfl)
    · rintro j G Λ v hj hv ⟨o2, o3, o4, rfl, rfl⟩
      obtain ⟨hjl, rfl⟩ := natsV_get hv
      have hjf : j < far.length := by omega
      refine tgt_loc g lc (.tail (.tail (.tail (.tail (.tail .head))))) ?_
      have farj : ∀ {G Λ} {p1 p2 p3 : Pos} {k : Nat} {nm : Str}, k < far.length → Pu F A G Λ (.Name (Str.ofString "far") p1) (.lst (vInts far)) → Pu F A G Λ (.Name nm p2) (.int k) → Pu F A G Λ (.Subscript (.Name (Str.ofString "far") p1) (.Name nm p2) p3) (.int (far.getD k 0)) :=
        fun hk h1 h2 => pu_item h1 h2 (itm_lst (.inl rfl) (by rw [vInts_len]; exact seqIndex_pos hk) (vInts_get hk) (by omega) (by omega))
      have clj : ∀ {G Λ} {p1 p2 p3 : Pos} {k : Nat} {nm : Str}, k < close.length → Pu F A G Λ (.Name (Str.ofString "close") p1) (.lst (vInts close)) → Pu F A G Λ (.Name nm p2) (.int k) → Pu F A G Λ (.Subscript (.Name (Str.ofString "close") p1) (.Name nm p2) p3) (.int (close.getD k 0)) :=
        fun hk h1 h2 => pu_item h1 h2 (itm_lst (.inl rfl) (by rw [vInts_len]; exact seqIndex_pos hk) (vInts_get hk) (by omega) (by omega))
      refine s_asnE g lc (ev_list (.cons (ab (farj hjf (pu_var g lc (.tail .head)) (pu_var g lc (.tail (.tail (.tail (.tail (.tail .head))))))) rfl) .nil rfl) (sz40 (by simp)) fun dw => ⟨_, .tail (.tail (.tail (.tail (.tail (.tail .head))))), ?_⟩) rfl
      refine Ex.seq (J := fun f G Λ => f = .next ∧ ∃ o4, Λ = [(dw, .lst (vInts (waysG close far beside (bestL close far beside j) j j))), (d, .lst (vInts (bestL close far beside j)))] ∧ G = [some (.lst (vInts close)), some (.lst (vInts far)), some (.bool beside), some (.int (leastG close far beside j)), some (.ref d), some (.int j), some (.ref dw), o4]) ?_ ?_
      · refine ex_for (pu_call g (pu_gl g lc (.tail .head)) (.cons (pu_var g lc (.tail (.tail (.tail (.tail (.tail .head)))))) .nil rfl) cl_range1 rfl rfl rfl rfl) (itb_nats hd (by omega))
          (fun i G Λ => ∃ o4, Λ = [(dw, .lst (vInts (waysG close far beside (bestL close far beside j) j i))), (d, .lst (vInts (bestL close far beside j)))] ∧ G = [some (.lst (vInts close)), some (.lst (vInts far)), some (.bool beside), some (.int (leastG close far beside j)), some (.ref d), some (.int j), some (.ref dw), o4]) ⟨_, rfl, rfl⟩ ?_ ?_ (fun _ => rfl)
        · rintro i G Λ v hi hv ⟨o4, rfl, rfl⟩
          obtain ⟨hij, rfl⟩ := natsV_get hv
          have hbl := bestL_len close far beside j
          refine tgt_loc g lc (.tail (.tail (.tail (.tail (.tail (.tail (.tail .head))))))) ?_
          refine s_if (ts_cmp (pu_cmp (clj (k := i) (by omega) (pu_var g lc .head) (pu_var g lc (.tail (.tail (.tail (.tail (.tail (.tail (.tail .head))))))))) (pu_var g lc (.tail (.tail (.tail (.tail (.tail .head)))))) cm_le rfl) (pu_var g lc (.tail (.tail .head))) cm_eqb rfl) (fun h => ?_) (fun h => ?_)
          · refine s_expr (ev_append (pu_var g lc (.tail (.tail (.tail (.tail (.tail (.tail .head))))))) (pu_add (pu_item (pu_var g lc (.tail (.tail (.tail (.tail .head))))) (pu_var g lc (.tail (.tail (.tail (.tail (.tail (.tail (.tail .head)))))))) (itm_lst (k := i) (.inr ⟨d, rfl, .tail _ (.head _)⟩) (by rw [vInts_len, hbl]; exact seqIndex_pos hij) (vInts_get (by omega)) (by omega) (by omega)))
              (ab (pu_sub (farj (k := j) hjf (pu_var g lc (.tail .head)) (pu_var g lc (.tail (.tail (.tail (.tail (.tail .head))))))) (farj (k := i) (by omega) (pu_var g lc (.tail .head)) (pu_var g lc (.tail (.tail (.tail (.tail (.tail (.tail (.tail .head)))))))))) rfl)) .head (sz1000 (by rw [vInts_len]; have := waysG_len close far beside (bestL close far beside j) j i; omega)) ?_ rfl) (notInter g.fk) rfl
            refine ex_nil (ex_nil ⟨_, ?_, rfl⟩)
            simp only [waysG]
            rw [if_pos h]
            simp [vInts]
          · refine ex_nil (ex_nil ⟨_, ?_, rfl⟩)
            simp only [waysG]
            rw [if_neg (by rw [h]; simp)]
            simp
        · rintro G Λ ⟨o4, rfl, rfl⟩
          rw [natsV_len]
          exact ⟨rfl, o4, rfl, rfl⟩
      · rintro f G Λ ⟨rfl, o4, rfl, rfl⟩
        have hwl := waysG_len close far beside (bestL close far beside j) j j
        have hbl := bestL_len close far beside j
        refine s_expr (ev_append (v := .int (minL (waysG close far beside (bestL close far beside j) j j) - (if close.getD j 0 > (j : Int) + 1 then 1 else 2))) (pu_var g lc (.tail (.tail (.tail (.tail .head))))) (pu_sub (pu_call g (pu_gl g lc (.tail (.tail (.tail .head)))) (.cons (pu_var g lc (.tail (.tail (.tail (.tail (.tail (.tail .head))))))) .nil rfl) (cl_minL hd (.inr ⟨dw, rfl, .head _⟩) (minL_mem _ (waysG_ne close far beside _ j j)) (minL_le _)) rfl rfl rfl rfl)
          (Pu.cast (pu_ifexp (ts_cmp (clj (k := j) hjl (pu_var g lc .head) (pu_var g lc (.tail (.tail (.tail (.tail (.tail .head))))))) (pu_add (pu_var g lc (.tail (.tail (.tail (.tail (.tail .head)))))) pu_int) cm_gt rfl) (fun _ => pu_int) (fun _ => pu_int)) ?_)) (.tail .head) (sz1000 (by rw [vInts_len]; omega)) ?_ rfl) (notInter g.fk) rfl
        · by_cases h : close.getD j 0 > (j : Int) + 1
          · rw [if_pos h, decide_eq_true h]; rfl
          · rw [if_neg h, decide_eq_false h]; rfl
        have hb1 : vInts (bestL close far beside j) ++ [V.int (minL (waysG close far beside (bestL close far beside j) j j) - (if close.getD j 0 > (j : Int) + 1 then 1 else 2))] = vInts (bestL close far beside (j + 1)) := by
          show _ = vInts (bestL close far beside j ++ _)
          simp [vInts]
        rw [hb1]
        have hb2 := bestL_len close far beside (j + 1)
        refine s_asn g lc (pu_call g (pu_gl g lc (.tail (.tail (.tail .head)))) (.cons (pu_var g lc (.tail (.tail (.tail .head)))) (.cons (pu_add (pu_add (pu_mul pu_int (ln (pu_var g lc .head) rfl) (.inl (by decide))) (pu_item (pu_var g lc (.tail (.tail (.tail (.tail .head))))) (pu_var g lc (.tail (.tail (.tail (.tail (.tail .head)))))) (itm_lst (k := j) (.inr ⟨d, rfl, .tail _ (.head _)⟩) (by rw [vInts_len, hb2]; exact seqIndex_pos (by omega)) (vInts_get (by omega)) (by omega) (by omega))))
          (ab (farj (k := j) hjf (pu_var g lc (.tail .head)) (pu_var g lc (.tail (.tail (.tail (.tail (.tail .head))))))) rfl)) .nil rfl) rfl) (cl_min2 hd) rfl rfl rfl rfl) (.tail (.tail (.tail .head))) ?_ rfl
        exact Ex.wk (Wk.drop (Wk.refl _)) (ex_nil ⟨_, _, _, rfl, rfl⟩)
    · rintro G Λ ⟨o2, o3, o4, rfl, rfl⟩
      rw [natsV_len]
      exact ⟨rfl, _, _, _, _, rfl⟩
  · rintro f G Λ ⟨rfl, o1, o2, o3, o4, rfl⟩
    exact s_ret (pu_var g lc (.tail (.tail (.tail .head)))) rfl

/-! the contracts -/
theorem fn_isT {S : St} {f : Addr} {r : Rest} {t : Tok} (ok : StOk S) (d : Def S f (fdOf (stAt 61) r)) (h1 : TopName S (Str.ofString "NT_OFFSET") (.int 256 t)) (n : Nat) (x : Int) : Fn S f (n + 1) [.int x] (.bool (decide (x < 256))) := by
  refine fn_of (names := nsX) (more := []) ok d rfl rfl (fun xs hx => ?_) (by decide +kernel) (by decide +kernel : ∀ x ∈ (scopeOf (stAt 61)).names, x.2 ≠ NameKind.cell) (by decide +kernel : ∀ x ∈ nsX, (scopeOf (stAt 61)).names.lookup x = some NameKind.local) (fun L P Z₀ A g => ?_)
  · match xs, hx with
    | [a], _ => rfl
  · exact walk_isT (t := t) g (loc_def rfl rfl (by decide +kernel : (nsX.all fun x => decide ((scopeOf (stAt 61)).names.lookup x = some .local) && !(x == ("__debug__" : Str))) = true) rfl (by intro p hp; simp only [List.mem_cons, List.not_mem_nil, or_false] at hp; subst hp; exact h1)) x
theorem fn_isN {S : St} {f : Addr} {r : Rest} {t : Tok} (ok : StOk S) (d : Def S f (fdOf (stAt 62) r)) (h1 : TopName S (Str.ofString "NT_OFFSET") (.int 256 t)) (n : Nat) (x : Int) : Fn S f (n + 1) [.int x] (.bool (decide (x ≥ 256))) := by
  refine fn_of (names := nsX) (more := []) ok d rfl rfl (fun xs hx => ?_) (by decide +kernel) (by decide +kernel : ∀ x ∈ (scopeOf (stAt 62)).names, x.2 ≠ NameKind.cell) (by decide +kernel : ∀ x ∈ nsX, (scopeOf (stAt 62)).names.lookup x = some NameKind.local) (fun L P Z₀ A g => ?_)
  · match xs, hx with
    | [a], _ => rfl
  · exact walk_isN (t := t) g (loc_def rfl rfl (by decide +kernel : (nsX.all fun x => decide ((scopeOf (stAt 62)).names.lookup x = some .local) && !(x == ("__debug__" : Str))) = true) rfl (by intro p hp; simp only [List.mem_cons, List.not_mem_nil, or_false] at hp; subst hp; exact h1)) x
theorem fn_isE {S : St} {f : Addr} {r : Rest} {t : Tok} (ok : StOk S) (d : Def S f (fdOf (stAt 63) r)) (h1 : TopName S (Str.ofString "ENDMARKER") (.int 0 t)) (n : Nat) (x : Int) : Fn S f (n + 1) [.int x] (.bool (x == 0)) := by
  refine fn_of (names := nsX) (more := []) ok d rfl rfl (fun xs hx => ?_) (by decide +kernel) (by decide +kernel : ∀ x ∈ (scopeOf (stAt 63)).names, x.2 ≠ NameKind.cell) (by decide +kernel : ∀ x ∈ nsX, (scopeOf (stAt 63)).names.lookup x = some NameKind.local) (fun L P Z₀ A g => ?_)
  · match xs, hx with
    | [a], _ => rfl
  · exact walk_isE (t := t) g (loc_def rfl rfl (by decide +kernel : (nsX.all fun x => decide ((scopeOf (stAt 63)).names.lookup x = some .local) && !(x == ("__debug__" : Str))) = true) rfl (by intro p hp; simp only [List.mem_cons, List.not_mem_nil, or_false] at hp; subst hp; exact h1)) x
theorem fn_col {S : St} {f : Addr} {r : Rest} (ok : StOk S) (d : Def S f (fdOf (stAt 66) r)) (n : Nat) (lead : List Nat) (size : Nat) (h0 : 0 < size) (h1 : size ≤ 1000) : Fn S f (n + 1) [.str lead, .int size] (.int (colF lead size)) := by
  refine fn_of (names := nsCol.take 2) (more := nsCol.drop 2) ok d rfl rfl (fun xs hx => ?_) (by decide +kernel) (by decide +kernel : ∀ x ∈ (scopeOf (stAt 66)).names, x.2 ≠ NameKind.cell) (by decide +kernel : ∀ x ∈ nsCol.take 2, (scopeOf (stAt 66)).names.lookup x = some NameKind.local) (fun L P Z₀ A g => ?_)
  · match xs, hx with
    | [a, b], _ => rfl
  · exact walk_col g (loc_def rfl rfl (by decide +kernel : (nsCol.all fun x => decide ((scopeOf (stAt 66)).names.lookup x = some .local) && !(x == ("__debug__" : Str))) = true) rfl (by intro p hp; cases hp)) lead size h0 h1
theorem fn_read {S : St} {f dE : Addr} {r : Rest} (ok : StOk S) (d : Def S f (fdOf (stAt 65) r)) (hg : ∀ p ∈ glRead dE, TopName S p.1 p.2) (ht : TabOk S dE) (n : Nat) (page toks : List Nat) (hp : page.length ≤ 900) (m : Nat) (hm : m ≤ 900) (hr : readF m page = some toks) : Fn S f (n + 1) [.str page] (.lst (vInts (natI toks ++ [0]))) := by
  refine fn_of (names := nsRead.take 1) (more := nsRead.drop 1) ok d rfl rfl (fun xs hx => ?_) (by decide +kernel) (by decide +kernel : ∀ x ∈ (scopeOf (stAt 65)).names, x.2 ≠ NameKind.cell) (by decide +kernel : ∀ x ∈ nsRead.take 1, (scopeOf (stAt 65)).names.lookup x = some NameKind.local) (fun L P Z₀ A g => ?_)
  · match xs, hx with
    | [a], _ => rfl
  · exact walk_read g (loc_def rfl rfl (by decide +kernel : (nsRead.all fun x => decide ((scopeOf (stAt 65)).names.lookup x = some .local) && !(x == ("__debug__" : Str))) = true) rfl hg) ht page toks hp m hm hr
theorem fn_least {S : St} {f : Addr} {r : Rest} (ok : StOk S) (d : Def S f (fdOf (stAt 67) r)) (hg : ∀ p ∈ glLst, TopName S p.1 p.2) (n : Nat) (close far : List Int) (beside : Bool) (hl : close.length ≤ 100) (hf : far.length = close.length) : Fn S f (n + 1) [.lst (vInts close), .lst (vInts far), .bool beside] (.int (leastF close far beside)) := by
  refine fn_of (names := nsLst.take 3) (more := nsLst.drop 3) ok d rfl rfl (fun xs hx => ?_) (by decide +kernel) (by decide +kernel : ∀ x ∈ (scopeOf (stAt 67)).names, x.2 ≠ NameKind.cell) (by decide +kernel : ∀ x ∈ nsLst.take 3, (scopeOf (stAt 67)).names.lookup x = some NameKind.local) (fun L P Z₀ A g => ?_)
  · match xs, hx with
    | [a, b, c], _ => rfl
  · exact walk_least g (loc_def rfl rfl (by decide +kernel : (nsLst.all fun x => decide ((scopeOf (stAt 67)).names.lookup x = some .local) && !(x == ("__debug__" : Str))) = true) rfl hg) close far beside hl hf
end Mine
end

/-! TL8 -/
section
open PySem PySem.W PyProof.Rows PySem.Calls
set_option maxRecDepth 100000
set_option autoImplicit false
set_option linter.unusedVariables false
namespace Mine

/-- the addresses of a block's own cells -/
def cellAddrs (n : Nat) : List (Str × NameKind) → List Addr
  | [] => []
  | (_, k) :: r => if k == .cell then n :: cellAddrs (n + 1) r else cellAddrs n r
theorem cellAddrs_ge : ∀ (names : List (Str × NameKind)) (n : Nat), ∀ c ∈ cellAddrs n names, n ≤ c
  | [], _, c, h => by cases h
  | (_, k) :: r, n, c, h => by
    unfold cellAddrs at h
    split at h
    · rcases List.mem_cons.mp h with rfl | h
      · exact Nat.le_refl _
      · exact Nat.le_trans (Nat.le_succ _) (cellAddrs_ge r (n + 1) c h)
    · exact cellAddrs_ge r n c h
theorem cellAddrs_nodup : ∀ (names : List (Str × NameKind)) (n : Nat), (cellAddrs n names).Nodup
  | [], _ => by simp [cellAddrs]
  | (_, k) :: r, n => by
    unfold cellAddrs
    split
    · refine List.nodup_cons.mpr ⟨fun h => ?_, cellAddrs_nodup r _⟩
      exact absurd (cellAddrs_ge r _ _ h) (Nat.not_le.mpr (Nat.lt_succ_self _))
    · exact cellAddrs_nodup r n
theorem cellAddrs_at : ∀ (names : List (Str × NameKind)) (h : Heap), ∀ c ∈ cellAddrs h.objs.size names, ∃ o, (pushCells h names).get? c = some o ∧ o.data = .cell none
  | [], _, c, hc => by cases hc
  | (_, k) :: r, h, c, hc => by
    unfold cellAddrs at hc
    unfold pushCells
    split at hc
    · rename_i hk
      rw [if_pos hk]
      rcases List.mem_cons.mp hc with rfl | hc
      · exact ⟨_, pushCells_keeps r _ _ _ (Heap.get?_push_size _ rfl), rfl⟩
      · exact cellAddrs_at r _ c (by rw [Heap.size_push]; exact hc)
    · rename_i hk
      rw [if_neg hk]
      exact cellAddrs_at r h c hc
theorem newEnv_comp {M : Model} {A : Around} {E : Value → Shared → Prop} {s : Shared} {scope : Scope} {globals : Addr} {cl : List (Str × Addr)} {qual : Str} {env : Env} {Q : Env → Shared → Prop}
    (hQ : Q { scope, locals := s.heap.objs.size, globals, cells := cellsFrom (s.heap.objs.size + 1) scope.names cl, qual, func := none, code := env.code, frame := env.frame, builtins := env.builtins } { s with heap := pushCells (s.heap.push { cls := .type "dict", data := .dict #[] }) scope.names }) :
    wpAny M A (newFunctionEnv scope globals cl [] qual none .none (some env)) Q E s := by
  simp only [newFunctionEnv, Option.isSome_some, if_true]
  refine wpAny_bind (wpAny_alloc ?_)
  refine wpAny_bind (wpAny_layCells _ (fun name kind cells => by cases hkc : kind == NameKind.cell <;> simp [hkc]) _ _ _ _ ?_)
  rw [show ({ s with heap := s.heap.push { cls := .type "dict", data := .dict #[] } } : Shared).heap.objs.size = s.heap.objs.size + 1 from Heap.size_push ..]
  refine wpAny_bind ?_
  rw [List.forIn_nil]
  exact wpAny_pure (wpAny_pure hQ)

/-- a block's frame -/
abbrev compFm (F : Fm) (scope : Scope) (cl : List (Str × Addr)) (L : Addr) (P Z₀ : Frz) (ns : List Str) : Fm :=
  { S := F.S, env := { scope := relabel scope F.env, locals := L, globals := F.env.globals, cells := cellsFrom (L + 1) scope.names cl, qual := F.env.qual, func := none, code := F.env.code, frame := F.env.frame, builtins := F.env.builtins }, P := P, Z₀ := Z₀, ns := ns }
/-- a captured name: its cell stands still in here -/
structure FreeV (F : Fm) (x : Str) (v : V) : Prop where
  cell : ∃ c o y, F.env.cells.lookup x = some c ∧ F.P c = some o ∧ o.data = .cell (some y) ∧ v.is F.Z₀ y
  kind : F.env.kindOf x = some .cell ∨ F.env.kindOf x = some .free
  plain : (x == ("__debug__" : Str)) = false
  plain2 : (x == ("__classdict__" : Str)) = false
/-- what a block sees of the frame around it -/
structure InC (F : Fm) (Λ : Led) (F' : Fm) : Prop where
  cell : ∀ c v, (c, LO.cell (some v)) ∈ Λ → ∃ o y, F'.P c = some o ∧ o.data = .cell (some y) ∧ v.is F'.Z₀ y
  pins : ∀ c o, F.P c = some o → F'.P c = some o
  frz : F.Z₀.le F'.Z₀
def Tsts (F : Fm) (A : Around) (G : List (Option V)) (Λ : Led) : List Expr → Bool → Prop
  | [], b => b = true
  | [c], b => Tst F A G Λ c b
  | _, _ => False
section
variable {F F' : Fm} {A : Around} {G G' G₁ : List (Option V)} {Λ Λ' Λ₁ X : Led} {e l r elt iter target : Expr} {v u a b c : V} {P P' : V → Led → Prop} {PS : List V → Led → Prop} {R R' : Post} {n : Nat} {rest ss body orelse : List Stmt} {st : Stmt} {pos px py pt apos : Pos} {x y : Str} {ns nms attrs : List Str} {gl : List (Str × Value)} {i j k : Int} {xs ys : List Nat} {es ifs : List Expr} {vs us items : List V} {id : String} {op : Operator} {K : List (Option V) → Led → Prop} {S : St} {C : Addr} {scope : Scope} {cl : List (Str × Addr)}

theorem pu_free (g : Good F A n) (h : FreeV F x v) : Pu F A G Λ (.Name x pos) v := fun s Z N Q E a t => by
  obtain ⟨c, o, y, hc, hp, hd, hv⟩ := h.cell
  have ho := a.pin _ _ (a.fix _ _ hp)
  have q := t y s.heap s.toks Z (.refl _) (hv.mono a.old) a
  rcases h.kind with hk | hk
  · exact wpAny_Name (wpAny_loadName_cell g.fk hk hc ⟨o, ho, hd⟩ q) h.plain
  · exact wpAny_Name (wpAny_loadName_free g.fk hk hc ⟨o, ho, hd⟩ q h.plain2) h.plain
theorem InC.of_cell {c : Addr} (h : InC F Λ F') (hm : (c, LO.cell (some v)) ∈ Λ) (hc : F'.env.cells.lookup x = some c) (hk : F'.env.kindOf x = some .cell ∨ F'.env.kindOf x = some .free) (h1 : (x == ("__debug__" : Str)) = false := by decide +kernel) (h2 : (x == ("__classdict__" : Str)) = false := by decide +kernel) : FreeV F' x v :=
  ⟨let ⟨o, y, p, d, q⟩ := h.cell c v hm; ⟨c, o, y, hc, p, d, q⟩, hk, h1, h2⟩
theorem InC.of_free {c : Addr} {o : Obj} {y : Value} (h : InC F Λ F') (hp : F.P c = some o) (hd : o.data = .cell (some y)) (hv : v.is F.Z₀ y) (hc : F'.env.cells.lookup x = some c) (hk : F'.env.kindOf x = some .cell ∨ F'.env.kindOf x = some .free) (h1 : (x == ("__debug__" : Str)) = false := by decide +kernel) (h2 : (x == ("__classdict__" : Str)) = false := by decide +kernel) : FreeV F' x v :=
  ⟨⟨c, o, y, hc, h.pins _ _ hp, hd, hv.mono h.frz⟩, hk, h1, h2⟩

theorem At.adopt' {Z Z' N : Frz} {h h' : Heap} {I : Addr} (a : At F Z N G Λ h) (hL : I ∉ F.L :: Λ.map Prod.fst) (hZ : Z I = none) (hN : N I = none) (hk : ∀ b o, b ≠ I → h.get? b = some o → h'.get? b = some o) (le : Z.le Z') (hz : ∀ b o, Z' b = some o → h'.get? b = some o) (hnew : ∀ b o, Z' b = some o → Z b = some o ∨ h.get? b = none) : At F Z' N G Λ h' := by
  have a' := a.moved hk hL hZ hN
  refine ⟨?_, a'.fix, a'.pin, hz, fun p hp => ?_, a'.nodup, a'.offN, fun b hb => ?_, fun b o e => ?_, fun b o e => le _ _ (a'.old _ _ e)⟩
  · obtain ⟨m, hn, hv⟩ := a'.ns; exact ⟨m, hn, hv.mono le⟩
  · obtain ⟨o, e, k⟩ := a'.led p hp; exact ⟨o, e, k.mono le⟩
  · cases e : Z' b with
    | none => rfl
    | some o =>
      rcases hnew b o e with e' | e'
      · rw [a.offZ b hb] at e'; cases e'
      · exact absurd hb (a.newL e')
  · rcases hnew b o e with e' | e'
    · exact a.dis _ _ e'
    · exact a.newN e'

/-- the block over an iterator -/
theorem comp_core {I : Addr} {fp : List Addr} {Pi : Nat → Value → Prop} {St : Nat → Heap → Prop} {s : Shared} {Z N : Frz} {E : Value → Shared → Prop} {RR : Value → Addr → Result → Shared → Prop} {ns' : List Str}
    (g : Good F A n) (k : Itr F A Z N I items fp Pi St) (at0 : At F Z N G Λ s.heap) (hI : I ∉ F.L :: Λ.map Prod.fst) (hZI : Z I = none) (hNI : N I = none) (st0 : St 0 s.heap)
    (hkind : scope.kind = .function) (hnd : ns'.Nodup) (p : Nat → Bool) (f : Nat → V) (J : Addr → List (Option V) → Led → Prop)
    (h0 : ∀ L, J L (ns'.map fun _ => none) ((cellAddrs (L + 1) scope.names).map fun c => (c, LO.cell none)))
    (turn : ∀ L P Z₀, Good (compFm F scope cl L P Z₀ ns') A n → InC F Λ (compFm F scope cl L P Z₀ ns') → ∀ (i : Nat) G Λ v, i < items.length → items[i]? = some v → J L G Λ →
      Tgt (compFm F scope cl L P Z₀ ns') A G Λ target v (fun G₁ Λ₁ => Tsts (compFm F scope cl L P Z₀ ns') A G₁ Λ₁ ifs (p i) ∧ (p i = true → Ev (compFm F scope cl L P Z₀ ns') A G₁ Λ₁ elt (fun u Λ₂ => u = f i ∧ J L G₁ Λ₂)) ∧ (p i = false → J L G₁ Λ₁)))
    (hlen : items.length ≤ sizeLine) (htn : ∀ it v, letOwnedTupleGo target it v = pure ())
    (t : ∀ D C h' tk Z' m, Z.le Z' → (V.lst (((List.range items.length).filter p).map f)).is Z' (.ref D) → At F Z' N G Λ h' → h'.Ns C m → C ∉ F.L :: Λ.map Prod.fst → Z' C = none → N C = none → RR (.ref D) C (.ok .next) { s with heap := h', toks := tk }) :
    wpAny F.M A (newList []) (fun acc s₃ => wpAny F.M A (newFunctionEnv scope F.env.globals cl [] F.env.qual none .none (some F.env)) (fun cenv s₄ =>
      codeAny F.M A (.compStart (.ListComp elt [⟨target, iter, ifs, 0⟩] scope pos) 0 (.ref I) acc { cenv with scope := relabel scope F.env }) (RR acc cenv.locals) s₄) E s₃) E s := by
  refine wpAny_newList (newEnv_comp ?_) (by simp)
  simp only []
  generalize hD : s.heap.objs.size = D
  have hsz : (s.heap.push { cls := .type "list", data := .seq ([] : List Value).toArray }).objs.size = D + 1 := by rw [Heap.size_push, hD]
  rw [hsz]
  generalize hHH : pushCells ((s.heap.push { cls := .type "list", data := .seq ([] : List Value).toArray }).push { cls := .type "dict", data := .dict #[] }) scope.names = H
  have hsz2 : ((s.heap.push { cls := .type "list", data := .seq ([] : List Value).toArray }).push { cls := .type "dict", data := .dict #[] }).objs.size = D + 1 + 1 := by rw [Heap.size_push, hsz]
  have keep : ∀ b o, s.heap.get? b = some o → H.get? b = some o := fun b o e => hHH ▸ pushCells_keeps _ _ _ _ (Heap.get?_push_of_some _ (Heap.get?_push_of_some _ e))
  have hDo : H.get? D = some (W.listOf ([] : List Value).toArray 0) := hHH ▸ pushCells_keeps _ _ _ _ (Heap.get?_push_of_some _ (hD ▸ Heap.get?_push_size _ rfl))
  have hLo : H.Ns (D + 1) (fun _ => none) := by
    have := Heap.Ns.new (s.heap.push { cls := .type "list", data := .seq ([] : List Value).toArray }) (.type "dict")
    rw [hsz] at this
    rw [← hHH]
    exact this.keeps fun b o e => pushCells_keeps _ _ _ _ e
  have fresh : ∀ b, D ≤ b → s.heap.get? b = none := fun b hb => by
    cases e : s.heap.get? b with
    | none => rfl
    | some o => exact absurd (Heap.lt_size e) (by rw [hD]; exact Nat.not_lt.mpr hb)
  have hIo : ∃ o, s.heap.get? I = some o := k.obj _ _ st0
  have hID : I < D := by obtain ⟨o, e⟩ := hIo; have := Heap.lt_size e; rw [hD] at this; exact this
  let P : Frz := fun b => if (Z b).isSome then none else if b = I then none else s.heap.get? b
  have hP : ∀ b o, P b = some o → s.heap.get? b = some o ∧ b ≠ I ∧ Z b = none := fun b o e => by
    simp only [P] at e
    split at e
    · cases e
    · rename_i hz
      split at e
      · cases e
      · rename_i hb; exact ⟨e, hb, by simpa using hz⟩
  have hPof : ∀ b o, s.heap.get? b = some o → b ≠ I → Z b = none → P b = some o := fun b o e hb hz => by
    simp only [P]; rw [hz, if_neg (by simp), if_neg hb]; exact e
  have hPN : ∀ b, D ≤ b → P b = none := fun b hb => by
    cases e : P b with
    | none => rfl
    | some o => have := (hP b o e).1; rw [fresh b hb] at this; cases this
  have hZD : ∀ b, D ≤ b → Z b = none := fun b hb => at0.newZ (fresh b hb)
  have hPI : P I = none := by simp only [P]; rw [hZI]; simp
  have gF : Good (compFm F scope cl (D + 1) P Z ns') A n :=
    { g.toStOk, g.toRoom with
      st := fun b o e => by
        have h1 := at0.st g b o e
        rcases g.st b o e with h2 | h2
        · have h3 := at0.fix _ _ h2
          refine .inl (hPof b o h1 (fun q => by rw [q, hNI] at h3; cases h3) ?_)
          cases e4 : Z b with
          | none => rfl
          | some o4 => rw [at0.dis _ _ e4] at h3; cases h3
        · exact .inr (at0.old _ _ h2)
      fk := hkind
      nd := hnd }
  have inC : InC F Λ (compFm F scope cl (D + 1) P Z ns') := by
    refine ⟨fun c v hm => ?_, fun c o e => ?_, at0.old⟩
    · obtain ⟨o, e, y, hd, hv⟩ := at0.led _ hm
      cases y with
      | none => exact hv.elim
      | some y =>
        have hmem : c ∈ F.L :: Λ.map Prod.fst := .tail _ (List.mem_map.mpr ⟨_, hm, rfl⟩)
        exact ⟨o, y, hPof c o e (fun q => hI (q ▸ hmem)) (at0.offZ c hmem), hd, hv⟩
    · have h3 := at0.fix _ _ e
      refine hPof c o (at0.pin _ _ h3) (fun q => by rw [q, hNI] at h3; cases h3) ?_
      cases e4 : Z c with
      | none => rfl
      | some o4 => rw [at0.dis _ _ e4] at h3; cases h3
  -- the block's ground
  have ground : At (compFm F scope cl (D + 1) P Z ns') Z P (ns'.map fun _ => none) ((cellAddrs (D + 1 + 1) scope.names).map fun c => (c, LO.cell none)) H := by
    have hkeys : ((cellAddrs (D + 1 + 1) scope.names).map fun c => (c, LO.cell none)).map Prod.fst = cellAddrs (D + 1 + 1) scope.names := by rw [List.map_map]; exact (List.map_congr_left (g := _root_.id) fun _ _ => rfl).trans (List.map_id _)
    have hge : ∀ b ∈ (D + 1) :: ((cellAddrs (D + 1 + 1) scope.names).map fun c => (c, LO.cell none)).map Prod.fst, D ≤ b := fun b hb => by
      rw [hkeys] at hb
      rcases List.mem_cons.mp hb with rfl | hb
      · exact Nat.le_succ _
      · exact Nat.le_trans (by omega : D ≤ D + 1 + 1) (cellAddrs_ge _ _ _ hb)
    refine ⟨⟨_, hLo, fun i x v hx hv => ?_⟩, fun _ _ e => e, fun b o e => keep b o (hP b o e).1, fun b o e => keep b o (at0.frz b o e), fun q hq => ?_, ?_, fun b hb => hPN b (hge b hb), fun b hb => hZD b (hge b hb), fun b o e => ?_, fun _ _ e => e⟩
    · rw [List.getElem?_map] at hv
      obtain ⟨_, _, e'⟩ := Option.map_eq_some_iff.mp hv
      cases e'
    · obtain ⟨c, hc, rfl⟩ := List.mem_map.mp hq
      obtain ⟨o, e, hd⟩ := cellAddrs_at scope.names ((s.heap.push { cls := .type "list", data := .seq ([] : List Value).toArray }).push { cls := .type "dict", data := .dict #[] }) c (by rw [hsz2]; exact hc)
      exact ⟨o, hHH ▸ e, none, hd, trivial⟩
    · rw [hkeys]
      refine List.nodup_cons.mpr ⟨fun hm => ?_, cellAddrs_nodup _ _⟩
      exact absurd (cellAddrs_ge _ _ _ hm) (Nat.not_le.mpr (Nat.lt_succ_self _))
    · simp only [P]; rw [e]; rfl
  have stH : St 0 H := k.W.frame _ _ _ st0 fun b hb o e => keep b o e
  have DL : D ∉ (D + 1) :: ((cellAddrs (D + 1 + 1) scope.names).map fun c => (c, LO.cell none)).map Prod.fst := fun hm => by
    rcases List.mem_cons.mp hm with e | hm
    · exact absurd e (Nat.ne_of_lt (Nat.lt_succ_self _))
    · obtain ⟨q, hq, e⟩ := List.mem_map.mp hm
      obtain ⟨c, hc, rfl⟩ := List.mem_map.mp hq
      have h1 := cellAddrs_ge _ _ _ hc
      have e : c = D := e
      rw [e] at h1; exact absurd h1 (Nat.not_le.mpr (by omega))
  have IL : I ∉ (D + 1) :: ((cellAddrs (D + 1 + 1) scope.names).map fun c => (c, LO.cell none)).map Prod.fst := fun hm => by
    rcases List.mem_cons.mp hm with e | hm
    · rw [e] at hID; exact absurd hID (Nat.not_lt.mpr (Nat.le_succ _))
    · obtain ⟨q, hq, e⟩ := List.mem_map.mp hm
      obtain ⟨c, hc, rfl⟩ := List.mem_map.mp hq
      have h1 := cellAddrs_ge _ _ _ hc
      have e : c = I := e
      rw [e] at h1; exact absurd hID (Nat.not_lt.mpr (Nat.le_trans (by omega) h1))
  have loop : codeAny F.M A (.compLoop (.ListComp elt [⟨target, iter, ifs, 0⟩] scope pos) 0 (.ref I) (.ref D) (compFm F scope cl (D + 1) P Z ns').env) (RR (.ref D) (D + 1)) { s with heap := H } := by
    refine codeAny_compLoop_tests (fun m s' => ∃ i G Λ' h tk Z' ys ep, s' = { s with heap := h, toks := tk } ∧ Z.le Z' ∧ At (compFm F scope cl (D + 1) P Z ns') Z' P G Λ' h ∧ I ∉ (D + 1) :: Λ'.map Prod.fst ∧ D ∉ (D + 1) :: Λ'.map Prod.fst ∧ Z' I = none ∧ Z' D = none ∧ J (D + 1) G Λ' ∧ St i h ∧ i ≤ items.length ∧ m = items.length - i
        ∧ h.get? D = some (W.listOf (List.toArray ys) ep) ∧ AllIs Z' (((List.range i).filter p).map f) ys) ?_ items.length ⟨0, _, _, H, s.toks, Z, [], 0, rfl, .refl _, ground, IL, DL, hZI, hZD D (Nat.le_refl _), h0 _, stH, Nat.zero_le _, rfl, hDo, .nil⟩ (fun v => htn _ v)
    rintro m s' ⟨i, G', Λ', h, tk, Z', ys, ep, rfl, le, a, iL, dL, zI, zD, hJ, hst, hle, rfl, hDat, hys⟩
    have hPD : P D = none := hPN D (Nat.le_refl _)
    have hDI : D ≠ I := fun q => by rw [q] at hID; exact absurd hID (Nat.lt_irrefl _)
    by_cases hlt : i < items.length
    · refine k.W.item i _ _ _ hlt hst fun y h₁ tk₁ hy st₁ hk₁ => ?_
      have hk₁' : ∀ b o, b ≠ I → h.get? b = some o → h₁.get? b = some o := fun b o hb e => hk₁ b o (by simpa using hb) e
      have a₁ := a.moved hk₁' iL zI hPI
      obtain ⟨oI, eI⟩ := k.obj _ _ st₁
      obtain ⟨v, hv, hy'⟩ := k.val i y hy
      have hD₁ := hk₁' D _ hDI hDat
      have a₂ := a₁.pinned eI iL zI hPI
      have hPID : (P.put I oI) D = none := by unfold Frz.put; rw [if_neg hDI]; exact hPD
      have a₃ := a₂.pinned hD₁ dL zD hPID
      refine turn (D + 1) P Z gF inC i G' Λ' v hlt hv hJ y { s with heap := h₁, toks := tk₁ } Z' _ _ _ (hy'.mono le) a₃ fun G₁ Λ₁ h₂ tk₂ Z₂ q le₂ a₄ => ?_
      obtain ⟨hts, h1, h2⟩ := q
      -- the way back from a state in the turn
      have back : ∀ {G₂ Λ₂ h₅ Z₅}, Z'.le Z₅ → At (compFm F scope cl (D + 1) P Z ns') Z₅ ((P.put I oI).put D (W.listOf (List.toArray ys) ep)) G₂ Λ₂ h₅ →
          At (compFm F scope cl (D + 1) P Z ns') Z₅ P G₂ Λ₂ h₅ ∧ h₅.get? D = some (W.listOf (List.toArray ys) ep) ∧ D ∉ (D + 1) :: Λ₂.map Prod.fst ∧ Z₅ D = none ∧ I ∉ (D + 1) :: Λ₂.map Prod.fst ∧ Z₅ I = none ∧ St (i + 1) h₅ := fun {G₂ Λ₂ h₅ Z₅} le₅ a₅ => by
        obtain ⟨b1, b2, b3, b4⟩ := a₅.unpin hPID hPD
        obtain ⟨c1, c2, c3, c4⟩ := b1.unpin hPI hPI
        refine ⟨c1, b2, b3, b4, c3, c4, k.W.frame _ _ _ st₁ fun b hb o e => ?_⟩
        by_cases hbI : b = I
        · subst hbI; rw [eI] at e; cases e; exact c2
        · rcases k.other b hb hbI with ⟨o', e'⟩ | ⟨o', e'⟩
          · have h1 := a₁.frz b o' (le _ _ e')
            rw [h1] at e; cases e
            exact c1.frz _ _ (le₅ _ _ (le _ _ e'))
          · have h1 := at0.pin b o' e'
            have hzb : Z b = none := by
              cases e4 : Z b with
              | none => rfl
              | some o4 => rw [at0.dis _ _ e4] at e'; cases e'
            have h3 := hPof b o' h1 hbI hzb
            have h4 := a₁.pin b o' h3
            rw [h4] at e; cases e
            exact c1.pin _ _ h3
      have fin : ∀ {G₂ Λ₂ h₅ tk₅ Z₅}, p i = false → J (D + 1) G₂ Λ₂ → Z'.le Z₅ → At (compFm F scope cl (D + 1) P Z ns') Z₅ ((P.put I oI).put D (W.listOf (List.toArray ys) ep)) G₂ Λ₂ h₅ →
          ∃ m, m < items.length - i ∧ ∃ i G Λ' h tk Z' ys ep, ({ s with heap := h₅, toks := tk₅ } : Shared) = { s with heap := h, toks := tk } ∧ Z.le Z' ∧ At (compFm F scope cl (D + 1) P Z ns') Z' P G Λ' h ∧ I ∉ (D + 1) :: Λ'.map Prod.fst ∧ D ∉ (D + 1) :: Λ'.map Prod.fst ∧ Z' I = none ∧ Z' D = none ∧ J (D + 1) G Λ' ∧ St i h ∧ i ≤ items.length ∧ m = items.length - i
            ∧ h.get? D = some (W.listOf (List.toArray ys) ep) ∧ AllIs Z' (((List.range i).filter p).map f) ys := fun {G₂ Λ₂ h₅ tk₅ Z₅} hp hJ₂ le₅ a₅ => by
        obtain ⟨c1, c2, c3, c4, c5, c6, c7⟩ := back le₅ a₅
        refine ⟨items.length - (i + 1), by omega, i + 1, G₂, Λ₂, h₅, tk₅, Z₅, ys, ep, rfl, le.trans le₅, c1, c5, c3, c6, c4, hJ₂, c7, hlt, rfl, c2, ?_⟩
        rw [List.range_succ, List.filter_append]
        simp only [List.filter_cons, hp, List.filter_nil, List.append_nil]
        simpa using hys.mono le₅
      have emit : ∀ (hp : p i = true) {h₅ tk₅ Z₅}, Z'.le Z₅ → At (compFm F scope cl (D + 1) P Z ns') Z₅ ((P.put I oI).put D (W.listOf (List.toArray ys) ep)) G₁ Λ₁ h₅ →
          wpAny F.M A (eval elt (compFm F scope cl (D + 1) P Z ns').env) (fun x s₄ => wpAny F.M A (call (.builtin "list.append") [.ref D, x]) (fun _ s₅ => ∃ m, m < items.length - i ∧ ∃ i G Λ' h tk Z' ys ep, s₅ = { s with heap := h, toks := tk } ∧ Z.le Z' ∧ At (compFm F scope cl (D + 1) P Z ns') Z' P G Λ' h ∧ I ∉ (D + 1) :: Λ'.map Prod.fst ∧ D ∉ (D + 1) :: Λ'.map Prod.fst ∧ Z' I = none ∧ Z' D = none ∧ J (D + 1) G Λ' ∧ St i h ∧ i ≤ items.length ∧ m = items.length - i
            ∧ h.get? D = some (W.listOf (List.toArray ys) ep) ∧ AllIs Z' (((List.range i).filter p).map f) ys) (notedBy F.M A (compFm F scope cl (D + 1) P Z ns').env fun e s' => RR (.ref D) (D + 1) (.error e) s') s₄) (notedBy F.M A (compFm F scope cl (D + 1) P Z ns').env fun e s' => RR (.ref D) (D + 1) (.error e) s') { s with heap := h₅, toks := tk₅ } := fun hp {h₅ tk₅ Z₅} le₅ a₅ => by
        refine h1 hp { s with heap := h₅, toks := tk₅ } Z₅ _ _ _ a₅ fun u Λ₂ ⟨eu, hJ₂⟩ x h₆ tk₆ Z₆ le₆ hx a₆ => ?_
        subst eu
        obtain ⟨c1, c2, c3, c4, c5, c6, c7⟩ := back (le₅.trans le₆) a₆
        have hyl : ys.length ≤ i := by
          rw [hys.length, List.length_map]
          exact Nat.le_trans (List.length_filter_le _ _) (by simp)
        refine append_at (s := { s with heap := h₆, toks := tk₆ }) c2 (fun h' hs hd => ?_) (by simp only [List.size_toArray]; omega)
        have hk₇ : ∀ b o, b ≠ D → h₆.get? b = some o → h'.get? b = some o := fun b o hb e => (hs.2 b hb).trans e
        have a₇ := c1.moved hk₇ c3 c4 hPD
        refine ⟨items.length - (i + 1), by omega, i + 1, G₁, Λ₂, h', tk₆, Z₆, ys ++ [x], ep + 1, rfl, le.trans (le₅.trans le₆), a₇, c5, c3, c6, c4, hJ₂, ?_, hlt, rfl, ?_, ?_⟩
        · refine k.W.frame _ _ _ c7 fun b hb o e => hk₇ b o (fun q => ?_) e
          -- the iterator's footprint is old
          have hbD : b < D := by
            by_cases hbI : b = I
            · rw [hbI]; exact hID
            · rcases k.other b hb hbI with ⟨o', e'⟩ | ⟨o', e'⟩
              · have := Heap.lt_size (at0.frz b o' e'); rw [hD] at this; exact this
              · have := Heap.lt_size (at0.pin b o' e'); rw [hD] at this; exact this
          rw [q] at hbD; exact absurd hbD (Nat.lt_irrefl _)
        · rw [hd]; simp [W.listOf]
        · rw [List.range_succ, List.filter_append]
          simp only [List.filter_cons, hp, List.filter_nil, if_true, List.map_append, List.map_cons, List.map_nil]
          exact (hys.mono (le₅.trans le₆)).append (.one hx)
      match ifs, hts with
      | [], hb =>
        have hb : p i = true := hb
        show wpAny _ _ (forIn [] true _) _ _ _
        rw [List.forIn_nil]
        refine wpAny_pure ?_
        rw [if_pos rfl]
        exact emit hb le₂ a₄
      | [c], hc =>
        refine wpAny_tests_one (hc { s with heap := h₂, toks := tk₂ } Z₂ _ _ _ a₄ fun h₃ tk₃ Z₃ le₃ a₅ => ?_)
        cases hp : p i with
        | true => rw [if_pos rfl]; exact emit hp (le₂.trans le₃) a₅
        | false => rw [if_neg (by decide)]; exact fin hp (h2 hp) (le₂.trans le₃) a₅
      | _ :: _ :: _, hb => exact hb.elim
    · obtain rfl : i = items.length := by omega
      refine k.W.done _ _ _ hst fun h' tk' hk => ?_
      have hk' : ∀ b o, b ≠ I → h.get? b = some o → h'.get? b = some o := fun b o hb e => hk b o (by simpa using hb) e
      have a' := a.moved hk' iL zI hPI
      obtain ⟨m, hn, _⟩ := a'.ns
      have hD' := hk' D _ hDI hDat
      have le1 := Frz.put_le (o := W.listOf (List.toArray ys) ep) zD
      have old : ∀ b o, b ≠ I → s.heap.get? b = some o → h'.get? b = some o := fun b o hb e => by
        cases e4 : Z b with
        | none => exact a'.pin b o (hPof b o e hb e4)
        | some o4 => have h5 := at0.frz _ _ e4; rw [e] at h5; cases h5; exact a'.frz _ _ (le _ _ e4)
      have zC : (Z'.put D (W.listOf (List.toArray ys) ep)) (D + 1) = none := by unfold Frz.put; rw [if_neg (Nat.succ_ne_self _)]; exact a'.offZ _ (.head _)
      refine t D (D + 1) h' tk' (Z'.put D (W.listOf (List.toArray ys) ep)) m (le.trans le1) (mkIsLst (Frz.put_self _ _ _) ⟨rfl, ep, rfl⟩ (hys.mono le1)) (at0.adopt' hI hZI hNI old (le.trans le1) (fun b o e => ?_) (fun b o e => ?_)) hn (at0.newL (fresh _ (Nat.le_succ _))) zC (at0.newN (fresh _ (Nat.le_succ _)))
      · unfold Frz.put at e
        split at e
        · rename_i hb; cases e; rw [hb]; exact hD'
        · exact a'.frz _ _ e
      · unfold Frz.put at e
        split at e
        · rename_i hb; right; rw [hb]; exact fresh _ (Nat.le_refl _)
        · cases e4 : Z b with
          | some o4 => left; have := le _ _ e4; rw [e] at this; exact this.symm
          | none =>
            right
            have h5 := a'.dis b o e
            cases e6 : s.heap.get? b with
            | none => rfl
            | some o6 =>
              by_cases hb : b = I
              · rw [hb, zI] at e; cases e
              · rw [hPof b o6 e6 hb e4] at h5; cases h5
  exact codeAny_compStart_list loop (k.W.self 0 _ _ _ stH loop)

/-- the turns of a block, told -/
structure CompOk (F : Fm) (A : Around) (n : Nat) (Λ : Led) (scope : Scope) (cl : List (Str × Addr)) (ns' : List Str) (target elt : Expr) (ifs : List Expr) (items : List V) (p : Nat → Bool) (f : Nat → V) (J : Addr → List (Option V) → Led → Prop) : Prop where
  clos : closureFor scope F.env = pure cl
  kind : scope.kind = .function
  names : ∀ x ∈ scope.names, x.2 = .local → scope.names.lookup x.1 = some .local
  nodup : ns'.Nodup
  h0 : ∀ L, J L (ns'.map fun _ => none) ((cellAddrs (L + 1) scope.names).map fun c => (c, LO.cell none))
  turn : ∀ L P Z₀, Good (compFm F scope cl L P Z₀ ns') A n → InC F Λ (compFm F scope cl L P Z₀ ns') → ∀ (i : Nat) G Λ v, i < items.length → items[i]? = some v → J L G Λ →
      Tgt (compFm F scope cl L P Z₀ ns') A G Λ target v (fun G₁ Λ₁ => Tsts (compFm F scope cl L P Z₀ ns') A G₁ Λ₁ ifs (p i) ∧ (p i = true → Ev (compFm F scope cl L P Z₀ ns') A G₁ Λ₁ elt (fun u Λ₂ => u = f i ∧ J L G₁ Λ₂)) ∧ (p i = false → J L G₁ Λ₁))
  len : items.length ≤ sizeLine
  go : ∀ it v, letOwnedTupleGo target it v = pure ()
theorem pu_comp {ns' : List Str} {p : Nat → Bool} {f : Nat → V} {J : Addr → List (Option V) → Led → Prop} (g : Good F A n) (hi : Pu F A G Λ iter a) (hit : Itb F A a items) (h : CompOk F A n Λ scope cl ns' target elt ifs items p f J)
    (hs : ∀ x : Value, foldedSetIterable iter F.env x = pure x := by intro _; rfl) : Pu F A G Λ (.ListComp elt [⟨target, iter, ifs, 0⟩] scope pos) (.lst (((List.range items.length).filter p).map f)) := fun s Z N Q E at0 t => by
  show wpAny F.M A (comprehension (.ListComp elt [⟨target, iter, ifs, 0⟩] scope pos) scope F.env _ (newList []) false (eval iter F.env)) Q E s
  refine wpAny_comprehension_free (use := none) rfl hs h.clos h.kind h.names ?_
  refine hi s Z N _ E at0 fun x h₁ tk₁ Z₁ le₁ hx a₁ => hit G Λ x { s with heap := h₁, toks := tk₁ } Z₁ N _ E hx a₁ fun I fp Pi St h₂ tk₂ k st₂ hk hI => ?_
  refine comp_core (s := { s with heap := h₂, toks := tk₂ }) (RR := fun acc C => compPost F.M A E none Q acc C) g k (a₁.keeps hk) (a₁.newL hI) (a₁.newZ hI) (a₁.newN hI) st₂ h.kind h.nodup p f J h.h0 h.turn h.len h.go ?_
  intro D C h' tk Z' m le hv a' hn hC zC nC
  refine ⟨m, hn, fun h'' hs'' => t (.ref D) h'' tk Z' (le₁.trans le) hv (a'.moved (fun b o hb e => (hs''.2 b hb).trans e) hC zC nC)⟩
/-- «x = [..]», x a local of the frame's: the stores are exchanged -/
theorem s_asnComp {ns' : List Str} {p : Nat → Bool} {f : Nat → V} {J : Addr → List (Option V) → Led → Prop} {nsF : List Str} {spos : Pos} (g : Good F A n) (lc : Loc F nsF gl) (hi : Pu F A G Λ iter a) (hit : Itb F A a items) (h : CompOk F A n Λ scope cl ns' target elt ifs items p f J)
    (hx : VarSet nsF G y (.lst (((List.range items.length).filter p).map f)) G') (hr : Ex F A G' Λ rest R) (hsw : swapsWith (.ListComp elt [⟨target, iter, ifs, 0⟩] scope pos) (some (.Name y py)) spos.line F.env = pure true)
    (hs : ∀ x : Value, foldedSetIterable iter F.env x = pure x := by intro _; rfl) : Ex F A G Λ (.Assign [.Name y py] (.ListComp elt [⟨target, iter, ifs, 0⟩] scope pos) spos :: rest) R :=
  ex_cons fun s Z N Q E at0 t => by
    rw [exec_Assign_Name_used _ _ _ _ hsw]
    refine wpAny_bind (wpAny_standAt (wpAny_bind ?_))
    show wpAny F.M A (do let _ ← comprehension (.ListComp elt [⟨target, iter, ifs, 0⟩] scope pos) scope F.env _ (newList []) false (eval iter F.env) (some (assign (.Name y py) F.env))) _ _ s
    refine wpAny_bind (wpAny_mono (wpAny_comprehension_free (use := some (assign (.Name y py) F.env)) (Q := fun _ s' => Q .next s') rfl hs h.clos h.kind h.names ?_) (fun _ s' hq => wpAny_pure (wpAny_pure hq)) fun _ _ e => e)
    refine hi s Z N _ E at0 fun x h₁ tk₁ Z₁ le₁ hx' a₁ => hit G Λ x { s with heap := h₁, toks := tk₁ } Z₁ N _ E hx' a₁ fun I fp Pi St h₂ tk₂ k st₂ hk hI => ?_
    refine comp_core (s := { s with heap := h₂, toks := tk₂ }) (RR := fun acc C => compPost F.M A E (some (assign (.Name y py) F.env)) (fun _ s' => Q .next s') acc C) g k (a₁.keeps hk) (a₁.newL hI) (a₁.newZ hI) (a₁.newN hI) st₂ h.kind h.nodup p f J h.h0 h.turn h.len h.go ?_
    intro D C h' tk Z' m le hv a' hn hC zC nC
    show wpAny F.M A (assign (.Name y py) F.env (.ref D)) _ _ _
    -- the store of the local: C stands apart
    obtain ⟨i, hix, rfl⟩ := hx.get
    obtain ⟨mm, hmn, hmv⟩ := a'.ns
    have hx2 := lc.names ▸ hix
    refine wpAny_assign_Name (wpAny_storeName_local (lc.kind y (List.mem_of_getElem? hix)) hmn (fun h₃ hn₃ hs₃ => ?_) (by rw [g.fk]; rfl))
    have a₃ := a'.store hn₃ (hmv.set g.nd hx2 hv) hs₃
    have hCL : C ≠ F.L := fun q => hC (q ▸ .head _)
    refine ⟨m, hn.sameBut hs₃ hCL, fun h'' hs'' => ?_⟩
    exact t .next _ Λ .next h'' _ Z' hr (le₁.trans le) rfl (a₃.moved (fun b o hb e => (hs''.2 b hb).trans e) hC zC nC)
end
end Mine
end

/-! TL9 -/
section
open PySem PySem.W PyProof.Rows PySem.Calls
set_option maxRecDepth 100000
set_option autoImplicit false
set_option linter.unusedVariables false
namespace Mine

section
variable {F : Fm} {A : Around} {G G' G₁ : List (Option V)} {Λ Λ' Λ₁ X : Led} {e l r : Expr} {v u a b c : V} {P P' : V → Led → Prop} {PS : List V → Led → Prop} {R R' : Post} {n : Nat} {rest ss body orelse : List Stmt} {st : Stmt} {pos px py pt : Pos} {x : Str} {ns : List Str} {gl : List (Str × Value)} {i j : Int} {xs ys : List Nat} {es : List Expr} {vs us items : List V} {y : Value} {id : String} {op : Operator} {K : List (Option V) → Led → Prop} {S : St}

/-! a list's item from the back -/
theorem s_setBack {d : Addr} {k : Nat} {pe : Expr} {sl : Expr} (ha : Pu F A G Λ e v) (hb : Pu F A G Λ pe (.ref d)) (hc : Pu F A G Λ sl (.int i)) (U : Up d (.lst vs) (.lst (vs.set k v)) Λ Λ') (h0 : i < 0) (h1 : -(vs.length : Int) ≤ i) (hk : (i + vs.length).toNat = k) (hfit : -(2 ^ 63) ≤ i) (hr : Ex F A G Λ' rest R)
    (hs : swapsWith e (some (.Subscript pe sl px)) pos.line F.env = pure false := by rfl) : Ex F A G Λ (.Assign [.Subscript pe sl px] e pos :: rest) R :=
  ex_cons fun s Z N Q E a t => wpAny_Assign_Subscript (ha s Z N _ E a fun y h₁ tk₁ Z₁ le₁ hy a₁ => hb { s with heap := h₁, toks := tk₁ } Z₁ N _ E a₁ fun z h₂ tk₂ Z₂ le₂ hz a₂ => hc { s with heap := h₂, toks := tk₂ } Z₂ N _ E a₂ fun w h₃ tk₃ Z₃ le₃ hw a₃ => by
    have := isVal hz; subst this
    obtain ⟨u, rfl⟩ := isInt hw
    obtain ⟨o, ho, ys, m, rfl, q⟩ := a₃.get U.mem
    refine ki_setBack ho h0 (by simp only [List.size_toArray, q.length]; omega) hfit ?_
    have hset := PySem.IsL.update (h := h₃) (l := d) (items := ys.toArray) (n := m) ho (fun x => x.setIfInBounds (i + ys.toArray.size).toNat y)
    have hk2 : (i + (ys.toArray.size : Int)).toNat = k := by simp only [List.size_toArray, q.length]; exact hk
    refine t .next G Λ' .next _ tk₃ Z₃ hr ((le₁.trans le₂).trans le₃) rfl (a₃.set U (Heap.SameBut.update ..) hset ⟨ys.set k y, (if ((ys.toArray.setIfInBounds (i + ys.toArray.size).toNat y).size == ys.toArray.size) = true then m else m + 1), ?_, q.set k (hy.mono (le₂.trans le₃))⟩)
    have : ys.toArray.setIfInBounds (i + ys.toArray.size).toNat y = (ys.set k y).toArray := by rw [hk2]; simp
    rw [this]) hs
theorem s_augBack {d : Addr} {k : Nat} {pe : Expr} {sl : Expr} (hb : Pu F A G Λ pe (.ref d)) (hc : Pu F A G Λ sl (.int i)) (hat : vs[k]? = some a) (he : Pu F A G Λ e b) (ho : Inp F A G Λ op a b c) (U : Up d (.lst vs) (.lst (vs.set k c)) Λ Λ') (h0 : i < 0) (h1 : -(vs.length : Int) ≤ i) (hk : (i + vs.length).toNat = k) (hfit : -(2 ^ 63) ≤ i) (hr : Ex F A G Λ' rest R)
    (hi : ∀ ov iv new, augStore sl ov iv new = (do holding [new, ov, iv] (setItem ov iv new); release [new, ov, iv] []; pure .next) := by intros; rfl) : Ex F A G Λ (.AugAssign (.Subscript pe sl px) op e pos :: rest) R :=
  ex_cons fun s Z N Q E at0 t => wpAny_AugAssign_SubscriptAny (hb s Z N _ E at0 fun z h₂ tk₂ Z₂ le₂ hz a₂ => hc { s with heap := h₂, toks := tk₂ } Z₂ N _ E a₂ fun w h₃ tk₃ Z₃ le₃ hw a₃ => by
    have := isVal hz; subst this
    obtain ⟨u, rfl⟩ := isInt hw
    obtain ⟨o, ho', ys, m, rfl, q⟩ := a₃.get U.mem
    obtain ⟨old, hold, hold'⟩ := q.get hat
    have hk1 : (i + (ys.toArray.size : Int)).toNat = k := by simp only [List.size_toArray, q.length]; exact hk
    refine wpAny_getItem_list_neg (items := ys.toArray) (PySem.IsL.isList (n := m) ho') h0 (by simp only [List.size_toArray, q.length]; omega) hfit (by rw [hk1]; simpa using hold) ?_
    refine he { s with heap := h₃, toks := tk₃ } Z₃ N _ E a₃ fun y h₄ tk₄ Z₄ le₄ hy a₄ => ?_
    refine ho old y { s with heap := h₄, toks := tk₄ } Z₄ N _ E (hold'.mono le₄) hy a₄ fun nw h₅ tk₅ Z₅ le₅ hn a₅ => ?_
    obtain ⟨o, ho', ys, m, rfl, q⟩ := a₅.get U.mem
    refine ki_setBack ho' h0 (by simp only [List.size_toArray, q.length]; omega) hfit ?_
    have hset := PySem.IsL.update (h := h₅) (l := d) (items := ys.toArray) (n := m) ho' (fun x => x.setIfInBounds (i + ys.toArray.size).toNat nw)
    have hk2 : (i + (ys.toArray.size : Int)).toNat = k := by simp only [List.size_toArray, q.length]; exact hk
    refine t .next G Λ' .next _ tk₅ Z₅ hr (((le₂.trans le₃).trans le₄).trans le₅) rfl (a₅.set U (Heap.SameBut.update ..) hset ⟨ys.set k nw, (if ((ys.toArray.setIfInBounds (i + ys.toArray.size).toNat nw).size == ys.toArray.size) = true then m else m + 1), ?_, q.set k hn⟩)
    have : ys.toArray.setIfInBounds (i + ys.toArray.size).toNat nw = (ys.set k nw).toArray := by rw [hk2]; simp
    rw [this]) hi

/-! append, the argument changing what there is -/
theorem ev_appendE {d : Addr} {o : Expr} {apos : Pos} {pl : Sem Bool} (ho : Pu F A G Λ o (.ref d)) (he : Ev F A G Λ e (fun v Λ₁ => ∃ vs Λ', Up d (.lst vs) (.lst (vs ++ [v])) Λ₁ Λ' ∧ vs.length ≤ sizeLine ∧ P .none Λ')) (hm : (d, LO.lst us) ∈ Λ)
    (ht : MTree o (Str.ofString "append") apos pos [e] F.env pl) (hst : starEach [e] F.env = (false, eval e F.env) :: starEach [] F.env := by rfl) : Ev F A G Λ (.Call (.Attribute o (Str.ofString "append") apos) [e] [] pos) P := fun s Z N Q E a t =>
  PyProof.Rows.MethodCall_ (pl := pl) (ho s Z N _ E a fun y h₁ tk₁ Z₁ le₁ hy a₁ => by
    have := isVal hy; subst this
    obtain ⟨ob, hob, ys, m, rfl, q⟩ := a₁.get hm
    refine getMethod_lst (s := { s with heap := h₁, toks := tk₁ }) (h := h₁) hob PySem.F.slot_list_append PySem.F.type_list_append ?_
    refine callWith_method1 ?_ hst rfl
    refine (evs_cons (PS := fun us Λ'' => ∃ v, us = [v] ∧ ∃ vs Λ', Up d (.lst vs) (.lst (vs ++ [v])) Λ'' Λ' ∧ vs.length ≤ sizeLine ∧ P .none Λ') (he.mono fun v Λ₁ hv => evs_nil ⟨v, rfl, hv⟩) hst) pos { s with heap := h₁, toks := tk₁ } Z₁ N _ E a₁ fun us Λ'' xs h₂ tk₂ Z₂ ⟨v, e1, vs, Λ', U, hz, k⟩ le₂ hxs a₂ => ?_
    subst e1
    obtain ⟨z, zs, rfl, hz', hn⟩ := hxs.inv
    rw [hn.inv0]
    obtain ⟨ob, hob, ys, m, rfl, q⟩ := a₂.get U.mem
    refine append_at (s := { s with heap := h₂, toks := tk₂ }) hob (fun h' hs hd => ?_) (by simp only [List.size_toArray, q.length]; exact hz)
    refine t _ _ k _ h' tk₂ Z₂ (le₁.trans le₂) mkIsNone (a₂.set U hs hd ⟨ys ++ [z], m + 1, ?_, q.append (.one hz')⟩)
    simp [W.listOf]) ht

/-! texts -/
def vStrs (l : List (List Nat)) : List V := l.map V.str
theorem strsOf {Z : Frz} : ∀ {l : List (List Nat)} {ys : List Value}, AllIs Z (vStrs l) ys → ∃ p : List (Str × Tok), ys = strValues p ∧ p.map (·.1) = l.map fun x => (⟨x.toArray⟩ : Str)
  | [], ys, h => ⟨[], by rw [AllIs.inv0 (Z := Z) (l := ys) h]; rfl, rfl⟩
  | x :: l, ys, h => by
    have h : AllIs Z (V.str x :: vStrs l) ys := h
    obtain ⟨y, ys', rfl, hy, h'⟩ := h.inv
    obtain ⟨t, rfl⟩ := isStr hy
    obtain ⟨p, rfl, e⟩ := strsOf h'
    exact ⟨(⟨x.toArray⟩, t) :: p, rfl, by simp [e]⟩
theorem ofStrs {Z : Frz} : ∀ {l : List (List Nat)} {p : List (Str × Tok)}, p.map (·.1) = l.map (fun x => (⟨x.toArray⟩ : Str)) → AllIs Z (vStrs l) (strValues p)
  | [], [], _ => .nil
  | [], _ :: _, h => by simp at h
  | _ :: _, [], h => by simp at h
  | x :: l, q :: p, h => by
    simp only [List.map_cons, List.cons.injEq] at h
    obtain ⟨q1, q2⟩ := q
    dsimp only at h
    rw [h.1]
    exact .cons mkIsStr (ofStrs h.2)
theorem join_flat : ∀ l : List (List Nat), (Txt.join (⟨([] : List Nat).toArray⟩ : Str) (l.map fun x => ⟨x.toArray⟩)) = ⟨l.flatten.toArray⟩
  | [] => rfl
  | [x] => by show Builtin.Str.glued _ _ = _; rw [PySem.StrLaws.glued_eq_join]; simp [Str.join]
  | x :: y :: l => by
    have h := join_flat (y :: l)
    have h' : Str.join (⟨([] : List Nat).toArray⟩ : Str) ((⟨y.toArray⟩ : Str) :: l.map fun x => ⟨x.toArray⟩) = ⟨(y :: l).flatten.toArray⟩ := by rw [← PySem.StrLaws.glued_eq_join]; exact h
    show Builtin.Str.glued _ _ = _
    rw [PySem.StrLaws.glued_eq_join]
    simp only [List.map_cons, Str.join]
    rw [h']
    show (⟨((x.toArray ++ ([] : List Nat).toArray) ++ ((y :: l).flatten).toArray)⟩ : Str) = _
    simp
theorem join_sum : ∀ (l : List (List Nat)) (k : Nat), (l.map fun x => (⟨x.toArray⟩ : Str)).foldl (fun a s => a + s.length + (⟨([] : List Nat).toArray⟩ : Str).length) k = k + l.flatten.length
  | [], k => by simp
  | x :: l, k => by
    rw [List.map_cons, List.foldl_cons, join_sum l]
    have : (⟨([] : List Nat).toArray⟩ : Str).length = 0 := rfl
    rw [this, toStr]
    simp; omega
theorem pu_join {o : Expr} {apos : Pos} {pl : Sem Bool} {ls : List (List Nat)} (ho : Pu F A G Λ o (.str [])) (he : Pu F A G Λ e (.lst (vStrs ls))) (hz : ls.flatten.length ≤ sizeLine) (ht : MTree o (Str.ofString "join") apos pos [e] F.env pl) (hst : starEach [e] F.env = (false, eval e F.env) :: starEach [] F.env := by rfl) :
    Pu F A G Λ (.Call (.Attribute o (Str.ofString "join") apos) [e] [] pos) (.str ls.flatten) := fun s Z N Q E a t =>
  PyProof.Rows.MethodCall_ (pl := pl) (ho s Z N _ E a fun y h₁ tk₁ Z₁ le₁ hy a₁ => by
    obtain ⟨tk, rfl⟩ := isStr hy
    refine GM.join ?_
    refine callWith_method1 ?_ hst rfl
    refine (PuL.cons he .nil hst).evs (PS := fun us Λ'' => us = [.lst (vStrs ls)] ∧ Λ'' = Λ) ⟨rfl, rfl⟩ pos { s with heap := h₁, toks := tk₁ } Z₁ N _ E a₁ fun us Λ'' xs h₂ tk₂ Z₂ ⟨e1, e2⟩ le₂ hxs a₂ => ?_
    subst e1 e2
    obtain ⟨z, rfl, hz'⟩ := one_arg hxs
    obtain ⟨d, zs, ob, rfl, hzo, hl, q⟩ := isLst hz'
    obtain ⟨p, rfl, e⟩ := strsOf q
    refine SC.join (s := { s with heap := h₂, toks := tk₂ }) (isListAt (a₂.frz _ _ hzo) hl) e ?_ fun t' k => ?_
    · unfold PySem.JoinOk Builtin.Str.tooLong
      rw [Bool.not_eq_true', decide_eq_false_iff_not]
      have := join_sum ls 0
      simp only [List.foldl_toArray]
      rw [this]
      omega
    · rw [join_flat]
      exact t _ h₂ k Z₂ (le₁.trans le₂) mkIsStr a₂) ht
theorem keepNews {h' : Heap} {L : Addr} {p : Addr × Obj} {q : List (Addr × Obj)} (k : News noHeap L h' (p :: q)) : News noHeap L h' q := fun b hb => k b (.tail _ hb)
def splitL (xs ys : List Nat) : List (List Nat) := (Txt.split ⟨xs.toArray⟩ ⟨ys.toArray⟩).map fun s => s.cps.toList
theorem pu_split {o : Expr} {apos : Pos} {pl : Sem Bool} (ho : Pu F A G Λ o (.str xs)) (he : Pu F A G Λ e (.str ys)) (hn : ys.length ≠ 0) (hz : xs.length + 2 ≤ sizeLine) (ht : MTree o (Str.ofString "split") apos pos [e] F.env pl) (hst : starEach [e] F.env = (false, eval e F.env) :: starEach [] F.env := by rfl) :
    Pu F A G Λ (.Call (.Attribute o (Str.ofString "split") apos) [e] [] pos) (.lst (vStrs (splitL xs ys))) := fun s Z N Q E a t =>
  PyProof.Rows.MethodCall_ (pl := pl) (ho s Z N _ E a fun y h₁ tk₁ Z₁ le₁ hy a₁ => by
    obtain ⟨tk, rfl⟩ := isStr hy
    refine GM.split ?_
    refine callWith_method1 ?_ hst rfl
    refine (PuL.cons he .nil hst).evs (PS := fun us Λ'' => us = [.str ys] ∧ Λ'' = Λ) ⟨rfl, rfl⟩ pos { s with heap := h₁, toks := tk₁ } Z₁ N _ E a₁ fun us Λ'' zs h₂ tk₂ Z₂ ⟨e1, e2⟩ le₂ hxs a₂ => ?_
    subst e1 e2
    obtain ⟨z, rfl, hz'⟩ := one_arg hxs
    obtain ⟨tk', rfl⟩ := isStr hz'
    obtain ⟨m, fr, hv⟩ := a₂.fr
    refine KSpl.split1 (s := { s with heap := h₂, toks := tk₂ }) fr a₂.news (by rw [toStr]; simpa using hn) (fun D l h' k e hs F' N' hlt => ?_) (by rw [toStr]; exact hz)
    have a₃ := a₂.backN hv F' (keepNews N')
    have hD := (N' _ (.head _)).1
    have hfresh : h₂.get? D = none := by
      cases q : h₂.get? D with
      | none => rfl
      | some o =>
        by_cases hDL : D = F.L
        · exact absurd hDL (N' _ (.head _)).2.1
        · exact absurd (hlt (D, o) (mem_allBut.mpr ⟨hDL, q⟩)) (Nat.lt_irrefl _)
    have hstr : AllIs Z₂ (vStrs (splitL _ _)) (strValues l) := ofStrs (by
      rw [e]; unfold splitL; rw [List.map_map]
      conv => lhs; rw [← List.map_id (Txt.split _ _)]
      exact List.map_congr_left fun s _ => by cases s; simp)
    obtain ⟨Z₃, le₃, hv₃, a₄⟩ := (a₂.addBut a₃ hfresh hD (q := .lst _) ⟨strValues l, 0, rfl, hstr⟩).freeze1
    exact t _ h' k Z₃ ((le₁.trans le₂).trans le₃) hv₃ a₄) ht

/-! a text from behind -/
theorem slice_rev (n : Nat) : Builtin.Str.strSliceIndices none none (-1) n = (List.range n).map fun k => n - 1 - k := by
  have e : Builtin.Str.strSliceIndices none none (-1) n = sliceRange ((n : Int) - 1) (-1) (-1) := rfl
  rw [e]
  unfold sliceRange
  dsimp only
  rw [if_neg (by decide)]
  have hc : (if ((n : Int) - 1 > -1) then ((n : Int) - 1 - -1 - -1 - 1) / (- -1) else 0).toNat = n := by
    by_cases h : ((n : Int) - 1 > -1)
    · rw [if_pos h, show (-(-1 : Int)) = 1 from rfl, Int.ediv_one]; omega
    · rw [if_neg h]; omega
  rw [hc]
  exact List.map_congr_left fun k hk => by have := List.mem_range.mp hk; omega
theorem pick_rev (xs : List Nat) : (Builtin.Str.strSliceIndices none none (-1) xs.length).filterMap (xs[·]?) = xs.reverse := by
  rw [slice_rev, List.filterMap_map]
  have : ∀ l : List Nat, (∀ k ∈ l, k < xs.length) → l.filterMap ((xs[·]?) ∘ fun k => xs.length - 1 - k) = l.map fun k => xs.reverse.getD k 0 := by
    intro l
    induction l with
    | nil => intro _; rfl
    | cons k l ih =>
      intro hk
      have hk0 := hk k (.head _)
      have e1 : xs[xs.length - 1 - k]? = some (xs.reverse.getD k 0) := by
        rw [List.getD_eq_getElem?_getD, List.getElem?_reverse hk0, List.getElem?_eq_getElem (by omega)]; rfl
      rw [List.filterMap_cons, List.map_cons, ih fun k h => hk k (.tail _ h)]
      simp only [Function.comp, e1]
  rw [this _ fun k hk => List.mem_range.mp hk]
  apply List.ext_getElem
  · simp
  · intro i h1 h2
    simp at h1 h2 ⊢
    rw [List.getElem?_reverse (by omega), List.getElem?_eq_getElem (by omega)]
    rfl
theorem pu_rev {st : Expr} (hl : Pu F A G Λ l (.str xs)) (h1 : Pu F A G Λ st (.int (-1))) (hsz : xs.length ≤ sizeLine)
    (ht : ∀ o r, letTemporaryGo l o r = pure () := by intro _ _; rfl) : Pu F A G Λ (.Subscript l (.Slice none none (some st) px) pos) (.str xs.reverse) := fun s Z N Q E at0 t =>
  wpAny_Subscript_Slice_step (T := "str") PySem.F.slot_str_getitem.lookup (hl s Z N _ E at0 fun x h₁ tk₁ Z₁ le₁ hx a₁ => wpAny_Slice (by
    refine wpAny_of_eq (evalPart_none _) ?_
    refine wpAny_of_eq (evalPart_none _) ?_
    show wpAny F.M A (eval st F.env) _ _ _
    refine h1 { s with heap := h₁, toks := tk₁ } Z₁ N _ E a₁ fun y h₂ tk₂ Z₂ le₂ hy a₂ => ?_
    obtain ⟨tx, rfl⟩ := isStr hx
    obtain ⟨ty, rfl⟩ := isInt hy
    have a₃ : At F Z₂ N G Λ (h₂.push { cls := .type "slice", data := .fields #[.none, .none, .int (-1) ty] }) := a₂.keeps fun b o e => Heap.get?_push_of_some _ e
    refine ⟨typeIs_str _ _ tx, wpAny_getItem_str_slice (l := none) (u := none) (st := some (-1, ty)) ⟨_, Heap.get?_push_size _ rfl, rfl, rfl⟩ rfl ?_⟩
    unfold sliceMade slicePicked
    rw [if_neg (by simp)]
    have : (⟨((Builtin.Str.strSliceIndices none none (-1) (⟨xs.toArray⟩ : Str).length).filterMap ((⟨xs.toArray⟩ : Str).cps[·]?)).toArray⟩ : Str) = ⟨xs.reverse.toArray⟩ := by
      rw [← pick_rev xs, toStr]; simp
    show Made.post (.str ⟨_⟩) Q _
    simp only [Option.map_none, Option.map_some, Option.getD_some]
    rw [this]
    refine ⟨?_, t _ _ _ Z₂ (le₁.trans le₂) mkIsStr a₃⟩
    rw [toStr]; simpa using hsz)) ht

/-! lists of numbers: not the same -/
theorem cm_neL {p q : List Int} (g : Good F A (n + 1)) (hv : Has Λ v (vInts p)) (hu : Has Λ u (vInts q)) : Cm F A G Λ .NotEq v u (!decide (p = q)) := by
  intro x y s Z N Q E hx hy a t
  obtain ⟨d, o, xs, rfl, ho, l, k⟩ := hv.at a hx
  obtain ⟨d', o', ys, rfl, ho', l', k'⟩ := hu.at a hy
  exact ke_ne_ints (isListAt ho l) (isListAt ho' l') (intsAre k) (intsAre k') (by have := g.units; omega) (t s.heap s.toks Z (.refl _) a)
end
end Mine
end

/-! TL10 -/
section
open PySem PySem.W PyProof.Rows PySem.Calls
set_option maxRecDepth 100000
set_option autoImplicit false
set_option linter.unusedVariables false
namespace Mine

/-! a question tree with known answers -/
def krun {α : Type} (lt : Nat → Nat → Bool) : KasT α → α
  | .ret a => a
  | .ask i j k => krun lt (k (lt i j))
theorem kas_run {α : Type} {cmp : Nat → Nat → (Bool → Shared → Prop) → Shared → Prop} {lt : Nat → Nat → Bool} {s : Shared} (hc : ∀ i j C, C (lt i j) s → cmp i j C s) : ∀ (t : KasT α) {Q : α → Shared → Prop}, Q (krun lt t) s → t.kasWp cmp Q s
  | .ret a, Q, h => h
  | .ask i j k, Q, h => hc i j _ (kas_run hc (k (lt i j)) h)

section
variable {prog : Program} {w : World} {A : Around} {E : Value → Shared → Prop} {s : Shared} {h₀ : Heap} {L a kS : Addr} {m : Str → Option Value} {news : List (Addr × Obj)} {vs ks : List Value}

/-- all of a range's numbers -/
theorem collect_rng {r : Addr} {p q c : Int} {t u v : Tok} {n : Nat} {Q : List Value → Shared → Prop} (hh : A.handled = none) (hr : IsRange s.heap r p q c t u v) (hsmall : Builtin.Range.small p q c = true) (hn : Builtin.Range.rangeSize p q c = n) (hlen : n ≤ 2 ^ 24)
    (h : ∀ h' tk ys, (∀ b o, s.heap.get? b = some o → h'.get? b = some o) → IntsAre ys (rangeInts p c n) → Q ys { s with heap := h', toks := tk }) : wpAny (model prog w) A (collect (.ref r)) Q E s := by
  unfold collect
  refine wpAny_bind (wpAny_runValue (codeAny_builtin entry_proto_collect' ?_))
  show wpAny _ _ (do again (.builtin "list.__iadd__" ⟨[← newList [], .ref r], []⟩)) _ _ s
  refine wpAny_bind (wpAny_newList (wpAny_pure ⟨Code.quiet_builtin _ (by decide +kernel), codeAny_builtin entry_list_iadd' ?_⟩))
  have hS : (s.heap.push (seqObj "list" #[] 0)).get? s.heap.objs.size = some { cls := .type "list", data := .seq #[] 0 } := Heap.get?_push_size _ rfl
  rw [Around.under_plainId PySem.F.plain_list_iadd _]
  show wpAny _ A.in1 (Builtin.List.listExtendWith (.ref s.heap.objs.size) (.ref r) (.ref s.heap.objs.size)) _ _ { s with heap := s.heap.push (seqObj "list" #[] 0) }
  refine wpAny_extend_range (s := { s with heap := s.heap.push (seqObj "list" #[] 0) }) (R := fun r s' =>
      match r with
      | .ok (.ret v) => wpAny (model prog w) A (match v with
            | Value.ref a => (do
              let __do_lift ← load a
              (match __do_lift.data with
                | Data.seq xs epoch => pure xs.toList
                | x => unsupported "internal:collect"))
            | x => unsupported "internal:collect") Q E s'
      | .ok _ => False
      | .error e => E e s') hh (Heap.get?_push_of_some _ hr) hsmall hn hlen s.heap.objs.size (.ref s.heap.objs.size) 0 hS fun h' tk acc' c' hk hS' hacc => ?_
  show wpAny _ A (load s.heap.objs.size >>= _) Q E _
  refine wpAny_bind (wpAny_load hS' ?_)
  refine wpAny_pure (h h' tk acc'.toList (fun b o e => hk b o (Nat.ne_of_lt (Heap.lt_size e)) (Heap.get?_push_of_some _ e)) ?_)
  have : ∀ (l : List Int) (ys : List Value), ys.length = l.length → (∀ (i : Nat) (y : Value) (k : Int), ys[i]? = some y → l[i]? = some k → ∃ t, y = .int k t) → IntsAre ys l := by
    intro l
    induction l with
    | nil => intro ys hl _; match ys, hl with | [], _ => exact .nil
    | cons k l ih =>
      intro ys hl hy
      match ys, hl with
      | y :: ys, hl =>
        obtain ⟨t, rfl⟩ := hy 0 y k rfl rfl
        exact .cons k t (ih ys (by simpa using hl) fun i y' k' h1 h2 => hy (i + 1) y' k' h1 h2)
  refine this _ _ (by rw [rangeInts_length]; simp [hacc.1]) fun i y k h1 h2 => ?_
  have hi : i < n := by have := (List.getElem?_eq_some_iff.mp h2).1; rwa [rangeInts_length] at this
  rw [rangeInts_get hi] at h2; cases h2
  exact hacc.2 i y (by simpa using h1)

/-- sorted(range(..), key=f) -/
theorem kat_sortedR {r : Addr} {p q c : Int} {t u v : Tok} {k : Nat} {f : Value} {kw : List (Str × Value)} {Q : Value → Shared → Prop} (F : Fr h₀ L s.heap m) (N : News h₀ L s.heap news) (hh : A.handled = none) (hr : IsRange s.heap r p q c t u v) (hsmall : Builtin.Range.small p q c = true) (hn : Builtin.Range.rangeSize p q c = k) (h2 : 2 ≤ k) (h64 : k < 64)
    (ha1 : argsOk "sorted" ⟨[.ref r], kw⟩) (ha2 : ∀ x, argsOk "list.sort" ⟨[.ref x], kw⟩) (ht : ∀ x, Builtin.«list.sort» ⟨[.ref x], kw⟩ = ksk_tree x f false)
    (h : ∀ vs D kS e1 h' tk, IntsAre vs (rangeInts p c k) → Fr h₀ L h' m → News h₀ L h' ((kS, seqObj "list" #[] 0) :: (D, seqObj "list" #[] e1) :: news) → D < kS → (∀ q ∈ news, q.1 < D) →
      KatKeys prog w A.in1.in1 h₀ L m kS f (fun ks e s' => wpAny (model prog w) A.in1.in1 (keyKind' (List.toArray ks)) (fun κ s'' => (kas_sort vs.length).kasWp (kas_ask prog w A.in1.in1 κ (katRev false ks)) (fun p s3 => KatFin h₀ L m kS D ks e e1 (katRev false (p.toList.map fun i => (katRev false vs).getD i Value.none)) (fun s4 => Q (.ref D) s4) s3) s'') (fun _ _ => False) s') vs [] 0 { s with heap := h', toks := tk }) :
    wpAny (model prog w) A (call (.builtin "sorted") [.ref r] kw) Q E s := by
  refine call_function_entry_kw kind_sorted plain_sorted entry_sorted ha1 ?_
  unfold Builtin.«sorted»
  refine wpAny_bind (m := checkCount "sorted" 1 1 _) (wpAny_pure ?_)
  refine wpAny_bind (collect_rng hh hr hsmall hn (by omega) fun h1 tk vs hk hI => ?_)
  have hvl : vs.length = k := by
    have : ∀ {ys : List Value} {l : List Int}, IntsAre ys l → ys.length = l.length := by
      intro ys l hi
      induction hi with
      | nil => rfl
      | cons _ _ _ ih => simp [ih]
    rw [this hI, rangeInts_length]
  refine wpAny_bind (wpAny_newList ?_ (by rw [sizeLine_eq]; omega))
  have hoL : (h1.push (seqObj "list" vs.toArray 0)).get? h1.objs.size = some (seqObj "list" vs.toArray 0) := Heap.get?_push_size _ rfl
  have keep : ∀ b o, s.heap.get? b = some o → (h1.push (seqObj "list" vs.toArray 0)).get? b = some o := fun b o e => Heap.get?_push_of_some _ (hk b o e)
  have hlt : ∀ b o, s.heap.get? b = some o → b < h1.objs.size := fun b o e => Heap.lt_size (hk b o e)
  have hL : L < h1.objs.size := by
    obtain ⟨o, _, _, e, _⟩ := F.ns
    exact hlt _ _ e
  have hab : h₀.objs.size ≤ h1.objs.size := Nat.le_trans F.above (Nat.le_of_lt hL)
  refine wpAny_bind (wpAny_holding (wpAny_call_entry_kw slot_list_sort ⟨_, hoL, rfl⟩ entry_list_sort ?body (ha2 _)))
  case body =>
    show wpAny (model prog w) A.in1.in1 (Builtin.«list.sort» ⟨[.ref h1.objs.size], kw⟩) _ _ { s with heap := h1.push (seqObj "list" vs.toArray 0), toks := tk }
    rw [ht h1.objs.size]
    refine kat_keyed (s := { s with heap := h1.push (seqObj "list" vs.toArray 0), toks := tk })
      (F.kept keep) (N.grown keep) hoL (Nat.ne_of_gt hL) (Heap.get?_none_of_le hab)
      (fun p hp => Nat.ne_of_lt (hlt _ _ (N p hp).1)) (by omega) (by omega) fun kS e1 h' F' N' l0 l1 => ?_
    refine kat_keys_mono (h vs _ kS e1 h' tk hI F' N' l0 fun q hq => hlt _ _ (N q hq).1) fun ks e s' hl' hd => ?_
    have hl2 : ks.length = vs.length := by simpa using hl'
    refine wpAny_mono hd (fun κ s'' hk => ?_) fun _ _ x => x
    rw [kat_ask_eq (vs := katRev false vs) (by rw [kat_len, kat_len, hl2])] at hk ⊢
    exact kas_wp_mono hk fun p s3 hk' => hk'.mono fun s4 hq => ⟨_, rfl, wpAny_pure ⟨_, rfl, hq⟩⟩
end
end Mine
end

/-! TL11 -/
section
open PySem PySem.W PyProof.Rows PySem.Calls
set_option maxRecDepth 100000
set_option autoImplicit false
set_option linter.unusedVariables false
namespace Mine

abbrev lamFm (S : St) (qual : Str) (scope : Scope) (L f c' : Addr) (cl : List (Str × Addr)) (P Z₀ : Frz) (ns : List Str) : Fm :=
  { S := S, env := envX qual scope L f (.ref c') cl, P := P, Z₀ := Z₀, ns := ns }
/-- a pair of numbers -/
def PairO (o : Obj) (k : Int × Int) : Prop := ∃ t1 t2, TupO o [.int k.1 t1, .int k.2 t2]
/-- the keys so far -/
def Keys (rest : List (Addr × Obj)) : List Value → List (Int × Int) → Prop
  | [], [] => True
  | v :: vs, k :: ks => (∃ d o, v = .ref d ∧ (d, o) ∈ rest ∧ PairO o k) ∧ Keys rest vs ks
  | _, _ => False
theorem Keys.mono {rest rest' : List (Addr × Obj)} (h : ∀ p ∈ rest, p ∈ rest') : ∀ {vs : List Value} {ks : List (Int × Int)}, Keys rest vs ks → Keys rest' vs ks
  | [], [], _ => trivial
  | _ :: _, _ :: _, ⟨⟨d, o, e, m, p⟩, k⟩ => ⟨⟨d, o, e, h _ m, p⟩, Keys.mono h k⟩
  | [], _ :: _, k => k.elim
  | _ :: _, [], k => k.elim
theorem Keys.snoc {rest : List (Addr × Obj)} {d : Addr} {o : Obj} {k : Int × Int} (hm : (d, o) ∈ rest) (hp : PairO o k) : ∀ {vs : List Value} {ks : List (Int × Int)}, Keys rest vs ks → Keys rest (vs ++ [.ref d]) (ks ++ [k])
  | [], [], _ => ⟨⟨d, o, rfl, hm, hp⟩, trivial⟩
  | _ :: _, _ :: _, ⟨h, k'⟩ => ⟨h, Keys.snoc hm hp k'⟩
  | [], _ :: _, k => k.elim
  | _ :: _, [], k => k.elim
theorem Keys.length {rest : List (Addr × Obj)} : ∀ {vs : List Value} {ks : List (Int × Int)}, Keys rest vs ks → vs.length = ks.length
  | [], [], _ => rfl
  | _ :: _, _ :: _, ⟨_, k⟩ => by simp [Keys.length k]
  | [], _ :: _, k => k.elim
  | _ :: _, [], k => k.elim
theorem Keys.get {rest : List (Addr × Obj)} : ∀ {vs : List Value} {ks : List (Int × Int)}, Keys rest vs ks → ∀ {i : Nat} {k : Int × Int}, ks[i]? = some k → ∃ d o, vs[i]? = some (.ref d) ∧ (d, o) ∈ rest ∧ PairO o k
  | [], [], _, i, k, e => by simp at e
  | _ :: _, _ :: _, ⟨⟨d, o, e1, m, p⟩, _⟩, 0, k, e => by simp at e; subst e; exact ⟨d, o, by simp [e1], m, p⟩
  | _ :: _, _ :: _, ⟨_, h⟩, i + 1, k, e => by simpa using Keys.get h (i := i) (k := k) (by simpa using e)
  | [], _ :: _, h, _, _, _ => h.elim
  | _ :: _, [], h, _, _, _ => h.elim
theorem Keys.tups {rest : List (Addr × Obj)} {h : Heap} (hr : ∀ p ∈ rest, h.get? p.1 = some p.2) : ∀ {vs : List Value} {ks : List (Int × Int)}, Keys rest vs ks → ∃ fs, KatTups h vs fs ∧ fs.length = ks.length ∧ ∀ v ∈ fs, ∃ i t, v = .int i t
  | [], [], _ => ⟨[], trivial, rfl, fun _ h => (by cases h)⟩
  | _ :: _, k :: _, ⟨⟨d, o, e1, m, t1, t2, hc, n, hd⟩, h'⟩ => by
    obtain ⟨fs, h1, h2, h3⟩ := Keys.tups hr h'
    refine ⟨.int k.1 t1 :: fs, ?_, by simp [h2], fun v hv => ?_⟩
    · rw [e1]; exact KatTups.cons (hr _ m) hc hd (by simp) h1
    · rcases List.mem_cons.mp hv with rfl | hv
      · exact ⟨_, _, rfl⟩
      · exact h3 v hv
  | [], _ :: _, h => h.elim
  | _ :: _, [], h => h.elim
def krunOk {α : Type} (lt : Nat → Nat → Bool) (m : Nat) : KasT α → Bool
  | .ret _ => true
  | .ask i j k => decide (i < m) && decide (j < m) && krunOk lt m (k (lt i j))
theorem kas_runM {α : Type} {cmp : Nat → Nat → (Bool → Shared → Prop) → Shared → Prop} {lt : Nat → Nat → Bool} {m : Nat} {s : Shared} (hc : ∀ i j C, i < m → j < m → C (lt i j) s → cmp i j C s) : ∀ (t : KasT α) {Q : α → Shared → Prop}, krunOk lt m t = true → Q (krun lt t) s → t.kasWp cmp Q s
  | .ret a, Q, _, h => h
  | .ask i j k, Q, ok, h => by
    simp only [krunOk, Bool.and_eq_true, decide_eq_true_eq] at ok
    exact hc i j _ ok.1.1 ok.1.2 (kas_runM hc (k (lt i j)) ok.2 h)
theorem ints_at : ∀ {l : List Int} {ys : List Value}, IntsAre ys l → ∀ {i : Nat} {y : Value} {k : Int}, ys[i]? = some y → l[i]? = some k → ∃ t, y = .int k t := by
  intro l ys h
  induction h with
  | nil => intro i y k h; simp at h
  | cons a t r ih =>
    intro i y k h1 h2
    cases i with
    | zero => simp at h1 h2; subst h1 h2; exact ⟨t, rfl⟩
    | succ i => exact ih (by simpa using h1) (by simpa using h2)
def kLt (key : Nat → Int × Int) (i j : Nat) : Bool := if (key i).1 = (key j).1 then decide ((key i).2 < (key j).2) else decide ((key i).1 < (key j).1)
section
variable {prog : Program} {w : World} {A : Around} {E : Value → Shared → Prop} {s : Shared}
theorem pair_lt {x y : Addr} {ox oy : Obj} {a b : Int × Int} {Q : Bool → Shared → Prop} (hx : s.heap.get? x = some ox) (kx : PairO ox a) (hy : s.heap.get? y = some oy) (ky : PairO oy b) (h : Q (if a.1 = b.1 then decide (a.2 < b.2) else decide (a.1 < b.1)) s) :
    wpAny (model prog w) A (keyLt' (tuples' true) (.ref x) (.ref y)) Q E s := by
  obtain ⟨t1, t2, hc, n, hd⟩ := kx
  obtain ⟨u1, u2, hc', n', hd'⟩ := ky
  refine kat_lt hx hd hy hd' ?_
  simp only [List.zip_cons_cons, List.zip_nil_right]
  refine kat_cons (wpAny_eqBool_int ?_)
  by_cases e : a.1 = b.1
  · rw [if_pos e] at h
    rw [show (a.1 == b.1) = true by simpa using e]
    refine kat_yes (kat_cons (wpAny_eqBool_int ?_))
    by_cases e2 : a.2 = b.2
    · rw [show (a.2 == b.2) = true by simpa using e2]
      refine kat_yes (kat_nil ?_)
      rw [decide_eq_false (by omega)] at h
      simpa using h
    · rw [show (a.2 == b.2) = false by simpa using e2]
      refine kat_no ?_
      show wpAny (model prog w) A (oneLt' false (Value.int a.2 t2) (Value.int b.2 u2)) Q _ s
      exact kat_one _ _ (PyProof.Rows.lt_int h)
  · rw [if_neg e] at h
    rw [show (a.1 == b.1) = false by simpa using e]
    refine kat_no ?_
    exact oneLt_int h
end

section
variable {F : Fm} {A : Around} {G : List (Option V)} {Λ : Led} {n : Nat} {S : St}
theorem Room.in1 {A : Around} {n : Nat} (h : Room A (n + 1)) : Room A.in1.in1 n := ⟨h.hd, by have := h.depth; show A.depth + n + 5 < _; omega, by have := h.units; show A.units + 1 + 1 + 50 * n + 50 < _; omega⟩

/-- one call of a lambda of this frame's -/
theorem lam_call {qual nm : Str} {params : Arguments} {body : Expr} {sc : Scope} {cl : List (Str × Addr)} {pm ctv : Value} {f c' L₀ : Addr} {Z : Frz} {A' : Around} {s : Shared} {Q E : Value → Shared → Prop} {i : Int} {t : Tok} {k : Int × Int}
    (ok : StOk { S with h₀ := s.heap }) (room : Room A' (n + 1)) (ho : s.heap.get? f = some (kla_obj "<lambda>" qual params body sc cl pm c' ctv)) (hcd : s.heap.CodeRec (.ref c') qual)
    (hz : ∀ b o, Z b = some o → s.heap.get? b = some o) (hL₀ : ∃ o, s.heap.get? L₀ = some o) (hZL : Z L₀ = none)
    (hbind : ∀ x, bindArgs (kla_fn "<lambda>" qual params body sc cl pm (.ref c') ctv) ⟨[x], []⟩ = pure [(nm, x)]) (hloc : sc.names.lookup nm = some .local) (hcell : ∀ x ∈ sc.names, x.2 ≠ .cell) (hco : sc.isCoroutine = false) (hgen : sc.isGenerator = false) (hk : sc.kind = .function)
    (hbody : ∀ L P A', Good (lamFm { S with h₀ := s.heap } qual sc L f c' cl P Z [nm]) A' n → (∀ b o, s.heap.get? b = some o → Z b = none → P b = some o) → Pu (lamFm { S with h₀ := s.heap } qual sc L f c' cl P Z [nm]) A' [some (.int i)] [] body (.tup [.int k.1, .int k.2]))
    (h : ∀ d o hp tk, (∀ b o, s.heap.get? b = some o → hp.get? b = some o) → hp.get? d = some o → PairO o k → d ≠ L₀ → Q (.ref d) { s with heap := hp, toks := tk }) :
    wpAny S.M A' (call (.ref f) [.int i t]) Q E s := by
  let N : Frz := fun b => if (Z b).isSome then none else s.heap.get? b
  have hN : ∀ b o, N b = some o → s.heap.get? b = some o := fun b o e => by
    simp only [N] at e
    split at e
    · cases e
    · exact e
  have hstN : ∀ b o, s.heap.get? b = some o → N b = some o ∨ Z b = some o := fun b o e => by
    cases e' : Z b with
    | none => left; show (if (Z b).isSome then none else s.heap.get? b) = some o; rw [e']; exact e
    | some o' => right; rw [hz _ _ e'] at e; exact e
  have szN : N s.heap.objs.size = none := by
    cases e : N s.heap.objs.size with
    | none => rfl
    | some o => have := hN _ _ e; rw [get?_size] at this; cases this
  have szZ : Z s.heap.objs.size = none := by
    cases e : Z s.heap.objs.size with
    | none => rfl
    | some o => have := hz _ _ e; rw [get?_size] at this; cases this
  refine wpAny_call (kla_callFunE (by have := room.depth; omega) ho rfl hco hgen rfl hcd ?_)
  rw [hbind]
  refine wpAny_pure (wpAny_newFunctionEnv hcell (fun y hy => ?_) (fun h₁ hns hsb => ⟨(ok.T.nolimit).fresh _ hsb, ?_⟩) hk)
  · rw [List.mem_singleton] at hy; subst hy; exact hloc
  show codeAny _ _ (.expr body (envX qual sc s.heap.objs.size f (.ref c') cl)) _ _
  have hk₁ : ∀ b o, s.heap.get? b = some o → h₁.get? b = some o := fun b o e => hsb.extBut b o (Nat.ne_of_lt (Heap.lt_size e)) (Heap.get?_push_of_some _ e)
  have g : Good (lamFm { S with h₀ := s.heap } qual sc s.heap.objs.size f c' cl N Z [nm]) (A'.deeper (envX qual sc s.heap.objs.size f (.ref c') cl)) n :=
    { ok, room.deeper with
      st := hstN
      fk := hk
      nd := List.nodup_cons.mpr ⟨List.not_mem_nil, List.Pairwise.nil⟩ }
  have a : At (lamFm { S with h₀ := s.heap } qual sc s.heap.objs.size f c' cl N Z [nm]) Z N [some (.int i)] [] h₁ := by
    refine ⟨⟨_, hns, fun j x v hx hv => ?_⟩, fun _ _ e => e, fun b o e => hk₁ b o (hN b o e), fun b o e => hk₁ b o (hz b o e), fun p hp => (by cases hp), ?_, fun b hb => ?_, fun b hb => ?_, fun b o e => by simp only [N, e]; rfl, fun _ _ e => e⟩
    · match j, hx, hv with
      | 0, hx, hv =>
        simp at hx hv; subst hx hv
        exact ⟨.int i t, by simp, mkIsInt⟩
    · exact List.nodup_cons.mpr ⟨List.not_mem_nil, List.Pairwise.nil⟩
    · rw [List.mem_singleton.mp hb]; exact szN
    · rw [List.mem_singleton.mp hb]; exact szZ
  refine kla_codeExpr ?_
  refine hbody _ N _ g (fun b o e ez => (hstN b o e).elim id fun e' => by rw [ez] at e'; cases e') { s with heap := h₁, toks := s.toks + 1 } Z N _ _ a fun x hp tk Z' le hx a' => ?_
  obtain ⟨d, xs, o, rfl, hzd, ht, q⟩ := isTup hx
  obtain ⟨y1, y2, rfl, k1, k2⟩ := two_args q
  obtain ⟨t1, rfl⟩ := isInt k1
  obtain ⟨t2, rfl⟩ := isInt k2
  have hkeep : ∀ b o, s.heap.get? b = some o → hp.get? b = some o := fun b o e => by
    rcases hstN b o e with e' | e'
    · exact a'.pin b o e'
    · exact a'.frz _ _ (le _ _ e')
  refine h d o hp tk hkeep (a'.frz _ _ hzd) ⟨t1, t2, ht⟩ fun e => ?_
  subst e
  obtain ⟨oL, hoL⟩ := hL₀
  have h1 := a'.dis _ _ hzd
  simp only [N, hZL] at h1
  rw [hoL] at h1
  simp at h1

/-- the keys, one after the other -/
theorem keys_walk {A' : Around} {L kS D : Addr} {mm : Str → Option Value} {f : Value} {e1 : Nat} {key : Nat → Int × Int} {base : List (Addr × Obj)} {Fin : List Value → Nat → Shared → Prop} {s₀ : Shared} {m : Nat}
    (hDk : D ≠ kS) (hcall : ∀ (s : Shared) (i : Nat) (t : Tok) (Q : Value → Shared → Prop), i < m → (∀ p ∈ base, s.heap.get? p.1 = some p.2) → (∃ o, s.heap.get? L = some o) → (∀ d o hp tk, (∀ b o, s.heap.get? b = some o → hp.get? b = some o) → hp.get? d = some o → PairO o (key i) → d ≠ L → Q (.ref d) { s with heap := hp, toks := tk }) → wpAny S.M A' (call f [.int i t]) Q (fun _ _ => False) s)
    (hfin : ∀ ks e h tk rest, Fr noHeap L h mm → News noHeap L h ((kS, seqObj "list" ks.toArray e) :: (D, seqObj "list" #[] e1) :: rest) → (∀ p ∈ rest, p.1 ≠ kS ∧ p.1 ≠ D) → (∀ p ∈ base, p ∈ rest) → Keys rest ks ((List.range m).map key) → Fin ks e { s₀ with heap := h, toks := tk }) :
    ∀ (j : Nat) (r ks : List Value) (e : Nat) (h : Heap) (tk : Nat) (rest : List (Addr × Obj)), j + r.length = m → (∀ (i : Nat) (y : Value), r[i]? = some y → ∃ t, y = .int ((j + i : Nat) : Int) t) → Fr noHeap L h mm → News noHeap L h ((kS, seqObj "list" ks.toArray e) :: (D, seqObj "list" #[] e1) :: rest) → (∀ p ∈ rest, p.1 ≠ kS ∧ p.1 ≠ D) → (∀ p ∈ base, p ∈ rest) → Keys rest ks ((List.range j).map key) →
      KatKeys S.prog S.w A' noHeap L mm kS f Fin r ks e { s₀ with heap := h, toks := tk }
  | j, [], ks, e, h, tk, rest, hj, hr, F, N, hne, hb, hk => by
    have e1 : j = m := by simpa using hj
    rw [e1] at hk
    exact KatKeys.nil (hfin ks e h tk rest F N hne hb hk)
  | j, y :: r, ks, e, h, tk, rest, hj, hr, F, N, hne, hb, hk => by
    obtain ⟨t, rfl⟩ := hr 0 y rfl
    simp only [List.length_cons] at hj
    have hbase : ∀ p ∈ base, h.get? p.1 = some p.2 := fun p hp => (N p (.tail _ (.tail _ (hb p hp)))).1
    refine KatKeys.cons (hcall { s₀ with heap := h, toks := tk } j t _ (by omega) hbase (by obtain ⟨o, _, _, e, _⟩ := F.ns; exact ⟨o, e⟩) fun d o hp tk' hkeep hd hpair hdL => ?_)
    have F' : Fr noHeap L hp mm := F.keeps hkeep
    have N' : News noHeap L hp ((kS, seqObj "list" ks.toArray e) :: (D, seqObj "list" #[] e1) :: (d, o) :: rest) := fun p hp' => by
      rcases List.mem_cons.mp hp' with rfl | hp'
      · exact ⟨hkeep _ _ (N _ (.head _)).1, (N _ (.head _)).2⟩
      · rcases List.mem_cons.mp hp' with rfl | hp'
        · exact ⟨hkeep _ _ (N _ (.tail _ (.head _))).1, (N _ (.tail _ (.head _))).2⟩
        · rcases List.mem_cons.mp hp' with rfl | hp'
          · exact ⟨hd, hdL, noHeap_get _⟩
          · have := N p (.tail _ (.tail _ hp')); exact ⟨hkeep _ _ this.1, this.2⟩
    have htup : o.cls = .type "tuple" := by obtain ⟨_, _, h, _⟩ := hpair; exact h
    have hdk : d ≠ kS := fun q => by
      have e1 := (N' _ (.head _)).1
      dsimp only at e1
      rw [← q, hd] at e1; cases e1; exact absurd (Value.type.inj htup) (by decide)
    have hdD : d ≠ D := fun q => by
      have e1 := (N' _ (.tail _ (.head _))).1
      dsimp only at e1
      rw [← q, hd] at e1; cases e1; exact absurd (Value.type.inj htup) (by decide)
    have hne' : ∀ p ∈ (d, o) :: rest, p.1 ≠ kS ∧ p.1 ≠ D := fun p hp => by
      rcases List.mem_cons.mp hp with rfl | hp
      · exact ⟨hdk, hdD⟩
      · exact hne p hp
    refine KatBack.intro F' N' (.head fun p hp => ?_) fun h2 c F2 N2 => ?_
    · rcases List.mem_cons.mp hp with rfl | hp
      · exact hDk
      · exact (hne' p hp).1
    · refine keys_walk hDk hcall hfin (j + 1) r (ks ++ [.ref d]) c h2 tk' ((d, o) :: rest) (by omega) (fun i y hy => ?_) F2 N2 hne' (fun p hp => .tail _ (hb p hp)) ?_
      · obtain ⟨t, e⟩ := hr (i + 1) y (by simpa using hy)
        exact ⟨t, by rw [e]; congr 2; omega⟩
      · rw [List.range_succ, List.map_append]
        exact Keys.snoc (.head _) hpair (Keys.mono (fun p hp => .tail _ hp) hk)

/-- sorted(range(m), key=lambda ..) -/
theorem ev_sortKey {P : V → Led → Prop} {fn : Expr} {arg : Expr} {params : Arguments} {body : Expr} {sc : Scope} {cl : List (Str × Addr)} {nm : Str} {m : Nat} {c0 Pt : Addr} {upd : LO → Led} {key : Nat → Int × Int} {pos lpos kpos : Pos} {order : List Nat}
    (g : Good F A (n + 3)) (hf : Pu F A G Λ fn (.val (.builtin "sorted"))) (harg : Pu F A G Λ arg (.rng 0 m 1)) (h2 : 2 ≤ m) (h64 : m < 64) (hs : Builtin.Range.small 0 m 1 = true) (hn : Builtin.Range.rangeSize 0 m 1 = m) (hok : krunOk (kLt key) m (kas_sort m) = true)
    (hglob : F.env.globals = mainGlobals) (hcode : F.env.code = .ref c0) (hC : CodeHd F.S.h₀ c0 Pt) (U : ∀ q, Up Pt (.exact (tabObj #[])) q Λ (upd q))
    (hcl : closureFor sc F.env = pure cl) (hdef : defaultsOf params F.env = ([], []))
    (hbind : ∀ pm c' ctv x, bindArgs (kla_fn "<lambda>" (F.env.qual ++ "<lambda>") params body sc cl pm (.ref c') ctv) ⟨[x], []⟩ = pure [(nm, x)]) (hloc : sc.names.lookup nm = some .local) (hcell : ∀ x ∈ sc.names, x.2 ≠ .cell) (hco : sc.isCoroutine = false) (hgen : sc.isGenerator = false) (hk : sc.kind = .function)
    (hbody : ∀ S' L f c' Pf Z₀ A', Good (lamFm S' (F.env.qual ++ "<lambda>") sc L f c' cl Pf Z₀ [nm]) A' n → InC F Λ (lamFm S' (F.env.qual ++ "<lambda>") sc L f c' cl Pf Z₀ [nm]) → ∀ i < m, Pu (lamFm S' (F.env.qual ++ "<lambda>") sc L f c' cl Pf Z₀ [nm]) A' [some (.int (i : Nat))] [] body (.tup [.int (key i).1, .int (key i).2]))
    (hord : (krun (kLt key) (kas_sort m)).toList = order) (hlt : ∀ i ∈ order, i < m)
    (kp : ∀ d ps, P (.ref d) ((d, .lst (vInts (order.map fun (i : Nat) => (i : Int)))) :: upd (.exact (tabObj ps))))
    (he : eval (.Call fn [arg] [⟨some (Str.ofString "key"), .Lambda params body sc lpos, kpos⟩] pos) F.env = (do callWith pos (← eval fn F.env) [] (backTo pos (starEach [arg] F.env)) (backToKw pos (keywordEach [⟨some (Str.ofString "key"), .Lambda params body sc lpos, kpos⟩] F.env))))
    (hst : starEach [arg] F.env = (false, eval arg F.env) :: starEach [] F.env) : Ev F A G Λ (.Call fn [arg] [⟨some (Str.ofString "key"), .Lambda params body sc lpos, kpos⟩] pos) P := fun s Z N Q E a t => by
  rw [he]
  refine wpAny_bind (hf s Z N _ E a fun x h₁ tk₁ Z₁ le₁ hx a₁ => ?_)
  have := isVal hx; subst this
  refine callWith_kw ?_ (by rw [hst]; rfl) (by rw [hst]; rfl) rfl rfl
  refine (PuL.cons harg .nil hst).evs (PS := fun us Λ'' => us = [.rng 0 m 1] ∧ Λ'' = Λ) ⟨rfl, rfl⟩ pos { s with heap := h₁, toks := tk₁ } Z₁ N _ E a₁ fun us Λ'' zs h₂ tk₂ Z₂ ⟨e1, e2⟩ le₂ hxs a₂ => ?_
  subst e1 e2
  obtain ⟨y, rfl, hy⟩ := one_arg hxs
  simp only [V.is] at hy
  obtain ⟨r, o, rfl, zr, t1, t2, t3, hr⟩ := hy
  refine wpAny_evalAll_cons ?_
  show wpAny F.M A (eval (.Lambda params body sc lpos) F.env >>= fun v => standAt pos >>= fun _ => pure v) _ _ { s with heap := h₂, toks := tk₂ }
  refine wpAny_bind (kla_eval hdef ?_)
  have T := g.T.keeps (a₂.st g)
  have hP := a₂.get (U (.exact (tabObj #[]))).mem
  obtain ⟨oP, hPo, eP⟩ := hP
  have eP : oP = tabObj #[] := eP
  subst eP
  obtain ⟨bm, ob, b1, b2, b3, b4, b5, b6⟩ := T.bmain
  have hgP : mainGlobals ≠ Pt := fun q => by
    obtain ⟨o, es, ep, e, hd, _⟩ := T.g
    rw [q, hPo] at e; cases e; cases hd
  have hbP : bm ≠ Pt := fun q => by
    rw [q, hPo] at b3; cases b3; cases b4
  have hbG : bm ≠ mainGlobals := fun q => by
    obtain ⟨o, es, ep, e, hd, _⟩ := T.g
    rw [q, e] at b3; cases b3; rw [hd] at b6; cases b6
  refine kla_makeFunction (s := { s with heap := h₂, toks := tk₂ }) (mg := F.S.mg) hcl hglob T.g hcode (hC.keeps (a₂.st g)) hPo trivial rfl hgP ⟨bm, ob, b1, b2, hbG, hbP, b3, b4, b5, b6⟩ fun c' ctv h₃ tk₃ hx3 hge hlt3 hrec htb => ?_
  refine wpAny_bind (wpAny_standAt (wpAny_pure ?_))
  refine wpAny_evalAll_nil ?_
  have hLP : F.L ≠ Pt := fun q => (List.nodup_cons.mp a₂.nodup).1 (q ▸ List.mem_map.mpr ⟨_, (U (.exact (tabObj #[]))).mem, rfl⟩)
  have hLlt : F.L < h₂.objs.size := a₂.lt
  have a3 : At F Z₂ N G (upd (.exact (tabObj (#[] ++ #[rawInt lpos.line, rawInt lpos.col, .ref c'])))) h₃ := by
    obtain ⟨mm, hn, hv⟩ := a₂.ns
    exact a₂.setN (U _) hv (hn.extBut hx3 hLP) (fun b o hb _ e => hx3 b o hb e) htb rfl
  have a4 : At F Z₂ N G (upd (.exact (tabObj (#[] ++ #[rawInt lpos.line, rawInt lpos.col, .ref c'])))) (h₃.push (kla_obj "<lambda>" (F.env.qual ++ "<lambda>") params body sc cl ((F.S.mg "__name__").getD .none) c' ctv)) := a3.keeps fun b o e => Heap.get?_push_of_some _ e
  have hfo : (h₃.push (kla_obj "<lambda>" (F.env.qual ++ "<lambda>") params body sc cl ((F.S.mg "__name__").getD .none) c' ctv)).get? h₃.objs.size = some (kla_obj "<lambda>" (F.env.qual ++ "<lambda>") params body sc cl ((F.S.mg "__name__").getD .none) c' ctv) := Heap.get?_push_size _ rfl
  have hfL : h₃.objs.size ≠ F.L := Nat.ne_of_gt a3.lt
  have hc4 : ∀ b o, b ≠ Pt → h₂.get? b = some o → (h₃.push (kla_obj "<lambda>" (F.env.qual ++ "<lambda>") params body sc cl ((F.S.mg "__name__").getD .none) c' ctv)).get? b = some o := fun b o hb e => Heap.get?_push_of_some _ (hx3 b o hb e)
  obtain ⟨c₂, oc, cvs, tq, ec, hoc, hdc, hq⟩ := hrec
  cases ec
  have hoc4 : (h₃.push (kla_obj "<lambda>" (F.env.qual ++ "<lambda>") params body sc cl ((F.S.mg "__name__").getD .none) c' ctv)).get? c' = some oc := Heap.get?_push_of_some _ hoc
  have hcL : c' ≠ F.L := Nat.ne_of_gt (Nat.lt_of_lt_of_le hLlt hge)
  generalize hpm : (F.S.mg "__name__").getD .none = pm at *
  generalize hh4 : h₃.push (kla_obj "<lambda>" (F.env.qual ++ "<lambda>") params body sc cl pm c' ctv) = h4 at *
  obtain ⟨mm, fr, hv⟩ := a4.fr
  refine kat_sortedR (s := { s with heap := h4, toks := tk₃ }) (k := m) fr a4.news g.hd (hr _ (a4.frz _ _ zr)) hs hn h2 h64 (ksk_s1 _ _) (fun x => ksk_l1 _ _) (fun x => ksk_t1 _ _) fun vs D kS e1 h' tk' hI F' N' hDk hlt' => ?_
  have hvl : vs.length = m := by
    have : ∀ {ys : List Value} {l : List Int}, IntsAre ys l → ys.length = l.length := by
      intro ys l hi
      induction hi with
      | nil => rfl
      | cons _ _ _ ih => simp [ih]
    rw [this hI, rangeInts_length]
  have hitem : ∀ (i : Nat) (y : Value), vs[i]? = some y → ∃ t, y = .int (i : Int) t := fun i y e => by
    have hi : i < m := by have := (List.getElem?_eq_some_iff.mp e).1; omega
    obtain ⟨t, q⟩ := ints_at hI e (rangeInts_get hi)
    exact ⟨t, by rw [q, Int.mul_one, Int.zero_add]⟩
  have hDfresh : h4.get? D = none := by
    cases q : h4.get? D with
    | none => rfl
    | some o =>
      by_cases hDL : D = F.L
      · exact absurd hDL (N' _ (.tail _ (.head _))).2.1
      · exact absurd (hlt' (D, o) (mem_allBut.mpr ⟨hDL, q⟩)) (Nat.lt_irrefl _)
  refine keys_walk (S := F.S) (m := m) (base := allBut h4 F.L) (D := D) (e1 := e1) (key := key) (s₀ := s) (Nat.ne_of_lt hDk) ?_ ?_ 0 vs [] 0 h' tk' (allBut h4 F.L) (by omega) (fun i y e => by rw [Nat.zero_add]; exact hitem i y e) F' N' (fun p hp => ⟨Nat.ne_of_lt (Nat.lt_trans (hlt' p hp) hDk), Nat.ne_of_lt (hlt' p hp)⟩) (fun _ h => h) trivial
  · intro s' i ti Q' hi hbase hL h
    have hk4 : ∀ b o, b ≠ F.L → h4.get? b = some o → s'.heap.get? b = some o := fun b o hb e => hbase (b, o) (mem_allBut.mpr ⟨hb, e⟩)
    have offN := a4.offN F.L (.head _)
    have offZ := a4.offZ F.L (.head _)
    have hst' : ∀ b o, F.S.h₀.get? b = some o → s'.heap.get? b = some o := fun b o e => hk4 b o (fun q => by
      subst q
      rcases g.st _ _ e with e' | e'
      · rw [a4.fix _ _ e'] at offN; cases offN
      · rw [a4.old _ _ e'] at offZ; cases offZ) (a4.st g b o e)
    have hz' : ∀ b o, Z₂ b = some o → s'.heap.get? b = some o := fun b o e => hk4 b o (fun q => by subst q; rw [e] at offZ; cases offZ) (a4.frz b o e)
    refine lam_call (S := F.S) (Z := Z₂) (k := key i) ⟨fun b o e => hst' b o (g.X b o e), g.T.keeps hst'⟩ (g.toRoom.less (by omega) : Room A (n + 2)).in1 (hk4 _ _ hfL hfo) ⟨c', oc, cvs, tq, rfl, hk4 _ _ hcL hoc4, hdc, hq⟩ hz' hL offZ (fun x => hbind _ _ _ x) hloc hcell hco hgen hk (fun L Pf A' g' hPz => hbody _ L _ c' Pf Z₂ A' g' ⟨fun c v hm => ?_, fun c o e => ?_, fun b o e => a4.old b o e⟩ i hi) h
    · obtain ⟨o, ho, x, hd, hc⟩ := a₂.get hm
      match x, hc with
      | some y, hc =>
        refine ⟨o, y, hPz c o (hk4 c o ?_ (hc4 c o ?_ ho)) ?_, hd, hc⟩
        · intro q
          exact (List.nodup_cons.mp a₂.nodup).1 (q ▸ List.mem_map.mpr ⟨_, hm, rfl⟩)
        · intro q
          rw [q, hPo] at ho; cases ho; cases hd
        · exact a₂.offZ c (.tail _ (List.mem_map.mpr ⟨_, hm, rfl⟩))
    · have e1 := a4.fix _ _ e
      refine hPz c o (hk4 c o (fun q => by subst q; rw [e1] at offN; cases offN) (a4.pin _ _ e1)) ?_
      cases q : Z₂ c with
      | none => rfl
      | some o' => rw [a4.dis _ _ q] at e1; cases e1
  · intro ks e h'' tk'' rest F'' N'' hne hb hkeys
    obtain ⟨fs, kt, kl, kv⟩ := hkeys.tups (h := h'') (fun p hp => (N'' p (.tail _ (.tail _ hp))).1)
    refine kat_kind (T := .type "int") kt (by rw [kl]; simp; omega) (fun v hv => by obtain ⟨i, t, rfl⟩ := kv v hv; exact Looks.of_pure rfl) rfl ?_
    show (kas_sort vs.length).kasWp (kas_ask F.S.prog F.S.w A.in1.in1 (tuples' true) ks) _ _
    rw [hvl]
    refine kas_runM (lt := kLt key) (m := m) (fun i j C hi hj hC => ?_) (kas_sort m) hok ?_
    · obtain ⟨di, oi, e1, m1, p1⟩ := hkeys.get (i := i) (k := key i) (by simp [hi])
      obtain ⟨dj, oj, e2, m2, p2⟩ := hkeys.get (i := j) (k := key j) (by simp [hj])
      show wpAny _ _ (keyLt' (tuples' true) (ks.getD i Value.none) (ks.getD j Value.none)) C _ _
      rw [List.getD_eq_getElem?_getD, List.getD_eq_getElem?_getD, e1, e2]
      exact pair_lt (N'' _ (.tail _ (.tail _ m1))).1 p1 (N'' _ (.tail _ (.tail _ m2))).1 p2 hC
    · refine KatFin.intro F'' N'' (.head fun p hp => ?_) fun h5 c5 F5 N5 => KasFin.intro F5 N5 (.tail (Nat.ne_of_gt hDk) (.head fun p hp => (hne p hp).2)) fun h6 c6 F6 N6 => ?_
      · rcases List.mem_cons.mp hp with rfl | hp
        · exact Nat.ne_of_lt hDk
        · exact (hne p hp).1
      · have a6 := a4.backN hv F6 (fun p hp => N6 p (.tail _ (.tail _ (hb p hp))))
        have hD := (N6 _ (.tail _ (.head _))).1
        have hall : ∀ l : List Nat, (∀ i ∈ l, i < m) → AllIs Z₂ (vInts (l.map fun (i : Nat) => (i : Int))) (l.map fun i => vs.getD i Value.none) := by
          intro l
          induction l with
          | nil => intro _; exact .nil
          | cons i l ih =>
            intro hl
            refine .cons ?_ (ih fun j hj => hl j (.tail _ hj))
            have hi := hl i (.head _)
            show (V.int (i : Int)).is Z₂ (vs.getD i Value.none)
            rw [List.getD_eq_getElem?_getD, List.getElem?_eq_getElem (by omega)]
            obtain ⟨t, q⟩ := hitem i _ (List.getElem?_eq_getElem (by omega))
            rw [Option.getD_some, q]
            exact mkIsInt
        have a7 := a4.addBut a6 hDfresh hD (q := .lst (vInts (order.map fun (i : Nat) => (i : Int)))) ⟨_, c6, rfl, by rw [hord]; exact hall order hlt⟩
        exact t _ _ (kp D _) (.ref D) h6 _ Z₂ (le₁.trans le₂) mkIsVal a7
end
end Mine
end

/-! W9 -/
section
open PySem PySem.W PyProof.Rows PySem.Calls
set_option maxRecDepth 100000
set_option autoImplicit false
set_option linter.unusedVariables false
namespace Mine

abbrev lawSc : Scope := scopeOf (stAt 68)
abbrev lawB : List Stmt := bodyOf (stAt 68)
abbrev nsLaw : List Str := [Str.ofString "script", Str.ofString "drawn", Str.ofString "k", Str.ofString "names", Str.ofString "x", Str.ofString "total", Str.ofString "leads", Str.ofString "page", Str.ofString "lead", Str.ofString "piece", Str.ofString "rows", Str.ofString "pile", Str.ofString "marks", Str.ofString "shut", Str.ofString "row", Str.ofString "indent", Str.ofString "order", Str.ofString "opened", Str.ofString "word", Str.ofString "deep", Str.ofString "wide", Str.ofString "bound", Str.ofString "leaves", Str.ofString "pairs", Str.ofString "other", Str.ofString "due", Str.ofString "told"]
abbrev lawFm (S : St) (nm : Str) (L fa : Addr) (cd : Value) (Z₀ : Frz) : Fm := { S, env := envOfC nm lawSc L fa cd, P := fun _ => none, Z₀, ns := nsLaw }
/-- the addresses that the law's names mean -/
structure Ads where
  C : Addr
  rd : Addr
  eof : Addr
  ter : Addr
  non : Addr
  lst : Addr
  lev : Addr
  col : Addr
abbrev glLaw (a : Ads) : List (Str × Value) := [(Str.ofString "range", .type "range"), (Str.ofString "min", .builtin "min"), (Str.ofString "len", .builtin "len"), (Str.ofString "sum", .builtin "sum"), (Str.ofString "_law_read", .ref a.rd), (Str.ofString "ISEOF", .ref a.eof), (Str.ofString "chr", .builtin "chr"), (Str.ofString "Whitespace", .ref a.C), (Str.ofString "ISTERMINAL", .ref a.ter), (Str.ofString "ord", .builtin "ord"), (Str.ofString "all", .builtin "all"), (Str.ofString "sorted", .builtin "sorted"), (Str.ofString "ISNONTERMINAL", .ref a.non), (Str.ofString "_law_least", .ref a.lst), (Str.ofString "_levenshtein_distance", .ref a.lev), (Str.ofString "isinstance", .builtin "isinstance"), (Str.ofString "bool", .type "bool")]
def relabelN (a b : List (Str × NameKind)) : List (Str × NameKind) := a.map fun (n, k) => if (k == NameKind.free && ScopeKind.function == ScopeKind.function && b.lookup n == some NameKind.cell) then (n, NameKind.cell) else (n, k)
theorem loc_any {F : Fm} {ns : List Str} {gl : List (Str × Value)} (sc : List (Str × NameKind)) (hns : F.ns = ns) (hsc : F.env.scope.names = sc) (hg : F.env.globals = mainGlobals) (hb : F.env.builtins = builtinsNs)
    (h1 : (ns.all fun x => decide (sc.lookup x = some .local) && !(x == ("__debug__" : Str))) = true)
    (h2 : ((gl.map Prod.fst).all fun p => decide (sc.lookup p = some .globalImplicit) && !(p == ("__debug__" : Str))) = true) (h3 : ∀ p ∈ gl, TopName F.S p.1 p.2) : Loc F ns gl where
  names := hns
  kind := fun x hx => by have := List.all_eq_true.mp h1 x hx; simp only [Bool.and_eq_true, decide_eq_true_eq] at this; show F.env.scope.names.lookup x = _; rw [hsc]; exact this.1
  plain := fun x hx => by have := List.all_eq_true.mp h1 x hx; simp only [Bool.and_eq_true, Bool.not_eq_true'] at this; exact this.2
  glob := hg
  blt := hb
  gkind := fun p hp => by have := List.all_eq_true.mp h2 p.1 (List.mem_map_of_mem hp); simp only [Bool.and_eq_true, decide_eq_true_eq] at this; show F.env.scope.names.lookup p.1 = _; rw [hsc]; exact this.1
  gplain := fun p hp => by have := List.all_eq_true.mp h2 p.1 (List.mem_map_of_mem hp); simp only [Bool.and_eq_true, Bool.not_eq_true'] at this; exact this.2
  gtop := h3

/-- what the law's frame may lean on -/
structure LawEnv (S : St) (a : Ads) (fless : Addr) : Prop where
  glob : ∀ p ∈ glLaw a, TopName S p.1 p.2
  globC : TopName S (Str.ofString "_law_column") (.ref a.col)
  kC : keepIn S.K (.ref a.C) = true
  kF : (keepIn S.K (.ref a.rd) && keepIn S.K (.ref a.eof) && keepIn S.K (.ref a.ter) && keepIn S.K (.ref a.non) && keepIn S.K (.ref a.lst) && keepIn S.K (.ref a.lev) && keepIn S.K (.ref a.col)) = true
  rd : ∀ (m : Nat) (page toks : List Nat), page.length ≤ 900 → m ≤ 900 → readF m page = some toks → Fn S a.rd 6 [.str page] (.lst (vInts (natI toks ++ [0])))
  eof : ∀ x : Int, Fn S a.eof 6 [.int x] (.bool (x == 0))
  ter : ∀ x : Int, Fn S a.ter 6 [.int x] (.bool (decide (x < 256)))
  non : ∀ x : Int, Fn S a.non 6 [.int x] (.bool (decide (x ≥ 256)))
  lst : ∀ (close far : List Int) (beside : Bool), close.length ≤ 100 → far.length = close.length → Fn S a.lst 6 [.lst (vInts close), .lst (vInts far), .bool beside] (.int (leastF close far beside))
  lev : ∀ (x y : List Nat) (m : Int), x.length ≤ 40 → y.length ≤ 40 → Fn S a.lev 6 [.str x, .str y, .int m] (.int (levF x y m))
  col : ∀ (lead : List Nat) (size : Nat), 0 < size → size ≤ 1000 → Fn S a.col 6 [.str lead, .int size] (.int (colF lead size))
  ws : ∀ {F : Fm} {A : Around} {G : List (Option V)} {Λ : Led}, F.S = S → Good F A 12 → ∀ w : List Nat, w.length ≤ 900 → ClV F A G Λ (.ref a.C) [.str w] (wsV a.C w)
  cls : ClsOk S a.C atWs
  lessI : findIn S.K (.ref a.C) (Str.ofString "less") = some (some (.ref fless))
  lessF : isFn S.K (.ref fless) = true
  lessK : keepIn S.K (.ref fless) = true
  less : ∀ ws us : List Nat, ws.length ≤ 900 → us.length ≤ 900 → Fn S fless 6 [wsV a.C ws, wsV a.C us] (.bool (Mine.lessF (wsOf ws) (wsOf us)))
theorem LawEnv.kR {S : St} {a : Ads} {fl : Addr} (e : LawEnv S a fl) : keepIn S.K (.ref a.rd) = true ∧ keepIn S.K (.ref a.eof) = true ∧ keepIn S.K (.ref a.ter) = true ∧ keepIn S.K (.ref a.non) = true ∧ keepIn S.K (.ref a.lst) = true ∧ keepIn S.K (.ref a.lev) = true ∧ keepIn S.K (.ref a.col) = true := by
  have := e.kF
  simp only [Bool.and_eq_true] at this
  obtain ⟨⟨⟨⟨⟨⟨h1, h2⟩, h3⟩, h4⟩, h5⟩, h6⟩, h7⟩ := this
  exact ⟨h1, h2, h3, h4, h5, h6, h7⟩
/-- the law's cells, and its table of codes -/
abbrev cellsL (L P : Addr) (places columns i j ahead close : Option V) (t : LO) : Led :=
  [(L + 1, .cell places), (L + 2, .cell columns), (L + 3, .cell i), (L + 4, .cell j), (L + 5, .cell ahead), (L + 6, .cell close), (P, t)]
section
variable {S : St} {nm : Str} {L fa P : Addr} {cd : Value} {Z₀ : Frz} {a : Ads} {fl : Addr}
theorem loc_law (e : LawEnv S a fl) : Loc (lawFm S nm L fa cd Z₀) nsLaw (glLaw a) :=
  loc_any lawSc.names rfl rfl rfl rfl (by decide +kernel) (by show ((glLaw ⟨0, 0, 0, 0, 0, 0, 0, 0⟩).map Prod.fst |>.all fun p => decide (lawSc.names.lookup p = some .globalImplicit) && !(p == ("__debug__" : Str))) = true; decide +kernel) e.glob
theorem cPl : CellOf (lawFm S nm L fa cd Z₀) (Str.ofString "places") (L + 1) := ⟨rfl, rfl, rfl⟩
theorem cCo : CellOf (lawFm S nm L fa cd Z₀) (Str.ofString "columns") (L + 2) := ⟨rfl, rfl, rfl⟩
theorem cI : CellOf (lawFm S nm L fa cd Z₀) (Str.ofString "i") (L + 3) := ⟨rfl, rfl, rfl⟩
theorem cJ : CellOf (lawFm S nm L fa cd Z₀) (Str.ofString "j") (L + 4) := ⟨rfl, rfl, rfl⟩
theorem cAh : CellOf (lawFm S nm L fa cd Z₀) (Str.ofString "ahead") (L + 5) := ⟨rfl, rfl, rfl⟩
theorem cCl : CellOf (lawFm S nm L fa cd Z₀) (Str.ofString "close") (L + 6) := ⟨rfl, rfl, rfl⟩
end
end Mine
end

/-! W10 -/
section
open PySem PySem.W PyProof.Rows PySem.Calls
set_option maxRecDepth 100000
set_option autoImplicit false
set_option linter.unusedVariables false
namespace Mine

/-! the first statements: the five numbers -/
def drawAt (ns : List Int) : Nat → List Int
  | 0 => [0, 5, 16, 36, 11]
  | k + 1 => (drawAt ns k).set k (((drawAt ns k).getD k 0 + ns.getD k 0) % 1000000)
theorem drawAt_len (ns : List Int) : ∀ k, (drawAt ns k).length = 5
  | 0 => rfl
  | k + 1 => by simp [drawAt, drawAt_len ns k]
def drawF (ns : List Int) : List Int := drawAt ns (min 5 ns.length)
section
variable {S : St} {nm : Str} {L fa P : Addr} {cd : Value} {Z₀ : Frz} {a : Ads} {fl : Addr} {A : Around} {n : Nat} {Λ : Led} {R : Post}
theorem st0 (e : LawEnv S a fl) (g : Good (lawFm S nm L fa cd Z₀) A n) (ns : List Int) (hl : ns.length ≤ 63)
    (k : ∀ o, Ex (lawFm S nm L fa cd Z₀) A [some (.lst (vInts ns)), some (.lst (vInts (drawF ns))), o, none, none, none, none, none, none, none, none, none, none, none, none, none, none, none, none, none, none, none, none, none, none, none, none] Λ (lawB.drop 2) R) : Ex (lawFm S nm L fa cd Z₀) A [some (.lst (vInts ns)), none, none, none, none, none, none, none, none, none, none, none, none, none, none, none, none, none, none, none, none, none, none, none, none, none, none] Λ lawB R := by
  have lc : Loc (lawFm S nm L fa cd Z₀) nsLaw (glLaw a) := loc_law e
  have hd := g.hd
  refine s_asnE g lc (ev_list (.cons pu_int (.cons pu_int (.cons pu_int (.cons pu_int (.cons pu_int .nil rfl) rfl) rfl) rfl) rfl) (sz40 (by simp)) fun d => ⟨_, (.tail .head), ?_⟩) rfl
  refine Ex.seq (J := fun f G Λ' => f = .next ∧ ∃ o, Λ' = (d, .lst (vInts (drawF ns))) :: Λ ∧ G = [some (.lst (vInts ns)), some (.ref d), o, none, none, none, none, none, none, none, none, none, none, none, none, none, none, none, none, none, none, none, none, none, none, none, none]) ?_ ?_
  · refine ex_for (pu_call g (pu_gl g lc .head) (.cons (Pu.cast (u := .int ((min 5 ns.length : Nat) : Int)) (pu_call g (pu_gl g lc (.tail .head)) (.cons pu_int (.cons (pu_call g (pu_gl g lc (.tail (.tail .head))) (.cons (pu_var g lc .head) .nil rfl) (cl_lenL (.inl rfl) (sz1000 (by rw [vInts_len]; omega))) rfl rfl rfl rfl) .nil rfl) rfl) (cl_min2 hd) rfl rfl rfl rfl) (by rw [vInts_len]; congr 1; omega)) .nil rfl) cl_range1 rfl rfl rfl rfl) (itb_nats hd (by omega))
      (fun j G Λ' => ∃ o, Λ' = (d, .lst (vInts (drawAt ns j))) :: Λ ∧ G = [some (.lst (vInts ns)), some (.ref d), o, none, none, none, none, none, none, none, none, none, none, none, none, none, none, none, none, none, none, none, none, none, none, none, none]) ⟨_, rfl, rfl⟩ ?_ ?_ (fun _ => rfl)
    · rintro j G Λ' v hj hv ⟨o, rfl, rfl⟩
      obtain ⟨hjl, rfl⟩ := natsV_get hv
      have hlen := drawAt_len ns j
      refine tgt_loc g lc (.tail (.tail .head)) ?_
      refine s_setItem (d := d) (k := j) (pu_mod g (pu_add (pu_item (pu_var g lc (.tail .head)) (pu_var g lc (.tail (.tail .head))) (itm_lst (k := j) (.inr ⟨d, rfl, .head _⟩) (by rw [vInts_len, hlen]; exact seqIndex_pos (by omega)) (vInts_get (by omega)) (by omega) (by omega)))
        (pu_item (pu_var g lc .head) (pu_var g lc (.tail (.tail .head))) (itm_lst (k := j) (.inl rfl) (by rw [vInts_len]; exact seqIndex_pos (by omega)) (vInts_get (by omega)) (by omega) (by omega)))) (pu_pow pu_int pu_int (by decide) (by decide) (by decide)) (by decide)) (pu_var g lc (.tail .head)) (pu_var g lc (.tail (.tail .head))) .head (by omega) (by omega) (by rw [vInts_len]; omega) (by omega) ?_ rfl
      refine ex_nil ⟨_, ?_, rfl⟩
      show (d, LO.lst ((vInts (drawAt ns j)).set j _)) :: Λ = (d, .lst (vInts ((drawAt ns j).set j _))) :: Λ
      rw [vInts_set]
      rfl
    · rintro G Λ' ⟨o, rfl, rfl⟩
      rw [natsV_len]
      exact ⟨rfl, o, rfl, rfl⟩
  · rintro f G Λ' ⟨rfl, o, rfl, rfl⟩
    exact ex_melt (.keep (.here (.keep (.keep (.keep (.keep (.keep (.keep (.keep (.keep (.keep (.keep (.keep (.keep (.keep (.keep (.keep (.keep (.keep (.keep (.keep (.keep (.keep (.keep (.keep (.keep (.keep .nil))))))))))))))))))))))))))) (k o)
end
end Mine
end

/-! W11 -/
section
open PySem PySem.W PyProof.Rows PySem.Calls
set_option maxRecDepth 100000
set_option autoImplicit false
set_option linter.unusedVariables false
namespace Mine

section
variable {F : Fm} {A : Around} {G G' : List (Option V)} {Λ : Led} {elt iter : Expr} {a : V} {n : Nat} {pos px : Pos} {items : List V} {scope : Scope} {cl : List (Str × Addr)} {x : Str} {gl : List (Str × Value)} {f : Nat → V}
/-- a block with one name of its own, no condition -/
theorem compOk1 (clos : closureFor scope F.env = pure cl) (lcx : ∀ L P Z₀, Loc (compFm F scope cl L P Z₀ [x]) [x] gl) (hl : items.length ≤ sizeLine) (names : ∀ x ∈ scope.names, x.2 = .local → scope.names.lookup x.1 = some .local) (hc : ∀ L, cellAddrs L scope.names = [])
    (hb : ∀ L P Z₀, Good (compFm F scope cl L P Z₀ [x]) A n → InC F Λ (compFm F scope cl L P Z₀ [x]) → Loc (compFm F scope cl L P Z₀ [x]) [x] gl → ∀ i v, i < items.length → items[i]? = some v → Pu (compFm F scope cl L P Z₀ [x]) A [some v] [] elt (f i))
    (kind : scope.kind = .function := by rfl) : CompOk F A n Λ scope cl [x] (.Name x px) elt [] items (fun _ => true) f (fun _ G Λ => ∃ o, G = [o] ∧ Λ = []) where
  clos := clos
  kind := kind
  names := names
  nodup := List.nodup_cons.mpr ⟨List.not_mem_nil, List.Pairwise.nil⟩
  h0 := fun L => ⟨none, rfl, by rw [hc]; rfl⟩
  turn := fun L P Z₀ g' ic i G Λ v hi hv hJ => by
    obtain ⟨o, rfl, rfl⟩ := hJ
    exact tgt_loc g' (lcx L P Z₀) .head ⟨rfl, fun _ => (hb L P Z₀ g' ic (lcx L P Z₀) i v hi hv).ev ⟨rfl, _, rfl, rfl⟩, fun h => by cases h⟩
  len := hl
  go := fun _ _ => rfl
theorem pu_comp1 (g : Good F A n) (hi : Pu F A G Λ iter a) (hit : Itb F A a items) (clos : closureFor scope F.env = pure cl) (lcx : ∀ L P Z₀, Loc (compFm F scope cl L P Z₀ [x]) [x] gl) (hl : items.length ≤ sizeLine) (names : ∀ x ∈ scope.names, x.2 = .local → scope.names.lookup x.1 = some .local) (hc : ∀ L, cellAddrs L scope.names = [])
    (hb : ∀ L P Z₀, Good (compFm F scope cl L P Z₀ [x]) A n → InC F Λ (compFm F scope cl L P Z₀ [x]) → Loc (compFm F scope cl L P Z₀ [x]) [x] gl → ∀ i v, i < items.length → items[i]? = some v → Pu (compFm F scope cl L P Z₀ [x]) A [some v] [] elt (f i))
    (kind : scope.kind = .function := by rfl) (hs : ∀ x : Value, foldedSetIterable iter F.env x = pure x := by intro _; rfl) : Pu F A G Λ (.ListComp elt [⟨.Name x px, iter, [], 0⟩] scope pos) (.lst ((List.range items.length).map f)) :=
  Pu.cast (pu_comp g hi hit (compOk1 clos lcx hl names hc hb kind) hs) (by congr 2; exact List.filter_eq_self.mpr fun _ _ => rfl)
end

def namesL : List (List Nat) := [[60, 60], [62, 62], [42, 42], [43, 61], [45, 61], [42, 61], [47, 61], [37, 61], [38, 61], [124, 61], [94, 61], [60, 60, 61], [62, 62, 61], [42, 42, 61], [47, 47], [47, 47, 61], [64], [64, 61], [45, 62], [46, 46, 46], [58, 61], [33]]
def sumF (dr : List Int) : Int := (dr.map fun x => x / 40).sum
theorem map_range {α β : Type} (l : List α) (d : α) (f : α → β) : ((List.range l.length).map fun i => f (l.getD i d)) = l.map f := by
  apply List.ext_getElem
  · simp
  · intro i h1 h2
    simp at h1
    simp [h1]
section
variable {S : St} {nm : Str} {L fa P : Addr} {cd : Value} {Z₀ : Frz} {a : Ads} {fl : Addr} {A : Around} {n : Nat} {Λ : Led} {R : Post}
theorem st2 (e : LawEnv S a fl) (g : Good (lawFm S nm L fa cd Z₀) A n) (sv : Option V) (dr : List Int) (o : Option V) (hl : dr.length = 5)
    (k : Ex (lawFm S nm L fa cd Z₀) A [sv, some (.lst (vInts dr)), o, some (.lst (vStrs namesL)), none, some (.int (sumF dr)), none, none, none, none, none, none, none, none, none, none, none, none, none, none, none, none, none, none, none, none, none] Λ (lawB.drop 4) R) : Ex (lawFm S nm L fa cd Z₀) A [sv, some (.lst (vInts dr)), o, none, none, none, none, none, none, none, none, none, none, none, none, none, none, none, none, none, none, none, none, none, none, none, none] Λ (lawB.drop 2) R := by
  have lc : Loc (lawFm S nm L fa cd Z₀) nsLaw (glLaw a) := loc_law e
  have hd := g.hd
  refine s_asn g lc (Pu.cast (u := .lst (vStrs namesL)) (pu_split (pu_cat pu_str pu_str (sz1000 (by decide +kernel))) pu_str (by decide +kernel) (sz1000 (by decide +kernel)) rfl rfl) (congrArg (fun l => V.lst (vStrs l)) (by decide +kernel))) (.tail (.tail (.tail .head))) ?_ rfl
  refine s_asn g lc (pu_call g (pu_gl g lc (.tail (.tail (.tail .head)))) (.cons (Pu.cast (u := .lst (vInts (dr.map fun x => x / 40))) (pu_comp1 (f := fun i => .int (dr.getD i 0 / 40)) g (pu_var g lc (.tail .head)) (itb_lst hd) rfl (fun L P Z₀ => loc_any (gl := []) (relabelN _ lawSc.names) rfl rfl rfl rfl (by decide +kernel) (by decide +kernel) (by intro p hp; cases hp)) (sz1000 (by rw [vInts_len]; omega)) (by decide +kernel) (fun _ => rfl)
    (fun L P Z₀ g' ic lcx i v hi hv => by
      rw [vInts_len] at hi
      rw [vInts_get hi] at hv; cases hv
      exact pu_div g' (pu_var g' lcx .head) pu_int (by decide) (by decide))) (by
        rw [vInts_len]
        show V.lst _ = V.lst (List.map V.int _)
        rw [← map_range dr 0 (fun x => x / 40), List.map_map]; rfl)) .nil rfl) (cl_sum hd (.inl rfl)) rfl rfl rfl rfl) (.tail (.tail (.tail (.tail (.tail .head))))) k rfl
end
end Mine
end

/-! W12 -/
section
open PySem PySem.W PyProof.Rows PySem.Calls
set_option maxRecDepth 100000
set_option autoImplicit false
set_option linter.unusedVariables false
namespace Mine

theorem vStrs_len (l : List (List Nat)) : (vStrs l).length = l.length := by simp [vStrs]
theorem vStrs_get {l : List (List Nat)} {k : Nat} (h : k < l.length) : (vStrs l)[k]? = some (.str (l.getD k [])) := by simp [vStrs, h]
theorem natI_len (l : List Nat) : (natI l).length = l.length := by simp [natI]
theorem natI_get (l : List Nat) (k : Nat) : (natI l).getD k 0 = ((l.getD k 0 : Nat) : Int) := by
  by_cases h : k < l.length
  · simp [natI, List.getD_eq_getElem?_getD, List.getElem?_map, List.getElem?_eq_getElem h]
  · simp [natI, List.getD_eq_getElem?_getD, List.getElem?_map, List.getElem?_eq_none (Nat.le_of_not_lt h)]
def pieceF (x : Nat) : List Nat := [[], [9], [32], [32, 9]].getD (x / 5 % 4) []
def leadF (x : Nat) (lead : List Nat) : List Nat := if x / 20 % 2 = 1 then pieceF x ++ lead.take (x % 5) else lead.take (x % 5) ++ pieceF x
def leadAt (du : List Nat) : Nat → List Nat
  | 0 => []
  | k + 1 => leadF (du.getD k 0) (leadAt du k)
def placeAt (tot k : Nat) : Nat := (tot + k * (2 * (tot / 22 % 5) + 1)) % 22
def encF (c : Nat) : Nat := if c = 9 then 91 else 94
def pageAt (du : List Nat) (tot : Nat) : Nat → List Nat
  | 0 => []
  | k + 1 => pageAt du tot k ++ (((leadAt du (k + 1)).map encF ++ namesL.getD (placeAt tot k) []) ++ [91, 93])
def leadsF (du : List Nat) (k : Nat) : List (List Nat) := (List.range k).map fun i => leadAt du (i + 1)
def placesF (tot k : Nat) : List Int := (List.range k).map fun i => ((placeAt tot i : Nat) : Int)
theorem leadsF_succ (du : List Nat) (k : Nat) : leadsF du (k + 1) = leadsF du k ++ [leadAt du (k + 1)] := by simp [leadsF, List.range_succ]
theorem placesF_succ (tot k : Nat) : placesF tot (k + 1) = placesF tot k ++ [((placeAt tot k : Nat) : Int)] := by simp [placesF, List.range_succ]
theorem placesF_get {tot k i : Nat} (h : i < k) : (placesF tot k).getD i 0 = ((placeAt tot i : Nat) : Int) := by simp [placesF, h]
theorem placesF_len (tot k : Nat) : (placesF tot k).length = k := by simp [placesF]
theorem leadsF_len (du : List Nat) (k : Nat) : (leadsF du k).length = k := by simp [leadsF]
theorem pieceF_len (x : Nat) : (pieceF x).length ≤ 2 := by
  unfold pieceF
  have h : x / 5 % 4 < 4 := Nat.mod_lt _ (by decide)
  generalize x / 5 % 4 = i at h
  match i, h with
  | 0, _ => decide
  | 1, _ => decide
  | 2, _ => decide
  | 3, _ => decide
theorem leadF_len (x : Nat) (l : List Nat) : (leadF x l).length ≤ 6 := by
  have := pieceF_len x
  have h5 : x % 5 < 5 := Nat.mod_lt _ (by decide)
  unfold leadF
  split <;> simp only [List.length_append, List.length_take] <;> omega
theorem leadAt_len (du : List Nat) : ∀ k, (leadAt du k).length ≤ 6
  | 0 => by simp [leadAt]
  | k + 1 => leadF_len _ _
theorem placeAt_lt (tot k : Nat) : placeAt tot k < 22 := Nat.mod_lt _ (by decide)
theorem namesL_len : namesL.length = 22 := rfl
theorem nameAt_len (p : Nat) : (namesL.getD p []).length ≤ 3 := by
  by_cases h : p < 22
  · exact (by decide : ∀ p < 22, (namesL.getD p []).length ≤ 3) p h
  · rw [List.getD_eq_getElem?_getD, List.getElem?_eq_none (by rw [namesL_len]; omega)]; simp
theorem pageAt_len (du : List Nat) (tot : Nat) : ∀ k, (pageAt du tot k).length ≤ 11 * k
  | 0 => by simp [pageAt]
  | k + 1 => by
    have h1 := pageAt_len du tot k
    have h2 := leadAt_len du (k + 1)
    have h3 := nameAt_len (placeAt tot k)
    simp only [pageAt, List.length_append, List.length_map, List.length_cons, List.length_nil]
    omega
theorem slice_to (xs : List Nat) (m : Nat) : pySlice xs none (some (m : Int)) = xs.take m := by
  unfold pySlice clipI
  simp only [Int.toNat_zero, List.drop_zero]
  rw [if_neg (by omega)]
  by_cases h : m ≤ xs.length
  · rw [show (max 0 (min (m : Int) xs.length) - 0).toNat = m by omega]
  · rw [show (max 0 (min (m : Int) xs.length) - 0).toNat = xs.length by omega, List.take_of_length_le (Nat.le_refl _), List.take_of_length_le (by omega)]
theorem flat_one (l : List Nat) : (l.map fun c => [encF c]).flatten = l.map encF := by
  induction l with
  | nil => rfl
  | cons c l ih => simp [ih]
theorem signs_get {l : List Nat} {i : Nat} {v : V} (h : (signs l)[i]? = some v) : i < l.length ∧ v = .str [l.getD i 0] := by
  unfold signs at h
  rw [List.getElem?_map] at h
  obtain ⟨c, hc, rfl⟩ := Option.map_eq_some_iff.mp h
  have hi := (List.getElem?_eq_some_iff.mp hc).1
  exact ⟨hi, by rw [List.getD_eq_getElem?_getD, hc]; rfl⟩
theorem signs_len (l : List Nat) : (signs l).length = l.length := by simp [signs]
section
variable {S : St} {nm : Str} {L fa P : Addr} {cd : Value} {Z₀ : Frz} {a : Ads} {fl : Addr} {A : Around} {n : Nat} {R : Post}
theorem st4 (e : LawEnv S a fl) (g : Good (lawFm S nm L fa cd Z₀) A n) (sv o : Option V) (du : List Nat) (tot : Nat) (t : LO) (hl : du.length = 5) (ht : tot < 1000000)
    (k : ∀ o1 o2 o3 pv, Ex (lawFm S nm L fa cd Z₀) A [sv, some (.lst (vInts (natI du))), o1, some (.lst (vStrs namesL)), o2, some (.int tot), some (.lst (vStrs (leadsF du 5))), some (.str (pageAt du tot 5)), some pv, o3, none, none, none, none, none, none, none, none, none, none, none, none, none, none, none, none, none] (cellsL L P (some (.lst (vInts (placesF tot 5)))) none none none none none t) (lawB.drop 9) R) :
    Ex (lawFm S nm L fa cd Z₀) A [sv, some (.lst (vInts (natI du))), o, some (.lst (vStrs namesL)), none, some (.int tot), none, none, none, none, none, none, none, none, none, none, none, none, none, none, none, none, none, none, none, none, none] (cellsL L P none none none none none none t) (lawB.drop 4) R := by
  have lc : Loc (lawFm S nm L fa cd Z₀) nsLaw (glLaw a) := loc_law e
  have hd := g.hd
  refine s_asnE g lc (ev_list .nil (by simp) fun dl => ⟨_, (.tail (.tail (.tail (.tail (.tail (.tail .head)))))), ?_⟩) rfl
  refine s_asnCE g cPl (ev_list .nil (by simp) fun dp => ⟨none, _, .tail (.tail .head), ?_⟩) rfl
  refine s_asn g lc (Pu.cast (u := .str []) pu_str rfl) (.tail (.tail (.tail (.tail (.tail (.tail (.tail .head))))))) ?_ rfl
  refine s_asn g lc (Pu.cast (u := .str []) pu_str rfl) (.tail (.tail (.tail (.tail (.tail (.tail (.tail (.tail .head)))))))) ?_ rfl
  refine Ex.seq (J := fun f G Λ' => f = .next ∧ ∃ o1 o2 o3, Λ' = (dp, .lst (vInts (placesF tot 5))) :: (dl, .lst (vStrs (leadsF du 5))) :: cellsL L P (some (.ref dp)) none none none none none t ∧ G = [sv, some (.lst (vInts (natI du))), o1, some (.lst (vStrs namesL)), o2, some (.int tot), some (.ref dl), some (.str (pageAt du tot 5)), some (.str (leadAt du 5)), o3, none, none, none, none, none, none, none, none, none, none, none, none, none, none, none, none, none]) ?_ ?_
  · refine ex_for (pu_call g (pu_gl g lc .head) (.cons pu_int .nil rfl) cl_range1 rfl rfl rfl rfl) (itb_nats (n := 5) hd (by decide))
      (fun j G Λ' => ∃ o1 o2 o3, Λ' = (dp, .lst (vInts (placesF tot j))) :: (dl, .lst (vStrs (leadsF du j))) :: cellsL L P (some (.ref dp)) none none none none none t ∧ G = [sv, some (.lst (vInts (natI du))), o1, some (.lst (vStrs namesL)), o2, some (.int tot), some (.ref dl), some (.str (pageAt du tot j)), some (.str (leadAt du j)), o3, none, none, none, none, none, none, none, none, none, none, none, none, none, none, none, none, none]) ⟨_, _, _, rfl, rfl⟩ ?_ ?_ (fun _ => rfl)
    · rintro j G Λ' v hj hv ⟨o1, o2, o3, rfl, rfl⟩
      obtain ⟨hj5, rfl⟩ := natsV_get hv
      have hll := leadAt_len du j
      have hpl := pageAt_len du tot j
      have hll' := leadAt_len du (j + 1)
      have hpl' := nameAt_len (placeAt tot j)
      refine tgt_loc g lc (.tail (.tail .head)) ?_
      refine s_asn g lc (Pu.cast (u := .int ((du.getD j 0 : Nat) : Int)) (pu_item (pu_var g lc (.tail .head)) (pu_var g lc (.tail (.tail .head))) (itm_lst (k := j) (.inl rfl) (by rw [vInts_len, natI_len]; exact seqIndex_pos (by omega)) (vInts_get (by rw [natI_len]; omega)) (by omega) (by omega))) (by rw [natI_get])) (.tail (.tail (.tail (.tail .head)))) ?_ rfl
      generalize hx : du.getD j 0 = x
      have hx4 : x / 5 % 4 < 4 := Nat.mod_lt _ (by decide)
      refine s_asn g lc (Pu.cast (u := .str (pieceF x)) (pu_item (pu_list (.cons (Pu.cast (u := .str []) pu_str rfl) (.cons (Pu.cast (u := .str [9]) pu_str rfl) (.cons (Pu.cast (u := .str [32]) pu_str rfl) (.cons (Pu.cast (u := .str [32, 9]) pu_str rfl) .nil rfl) rfl) rfl) rfl) (sz40 (by simp))) (Pu.cast (u := .int ((x / 5 % 4 : Nat) : Int)) (pu_mod g (pu_div g (pu_var g lc (.tail (.tail (.tail (.tail .head))))) pu_int (by decide) (by decide)) pu_int (by decide)) (by congr 1)) (itm_lst (k := x / 5 % 4) (.inl rfl) (seqIndex_pos hx4) (vStrs_get (l := [[], [9], [32], [32, 9]]) hx4) (by omega) (by omega))) rfl) (.tail (.tail (.tail (.tail (.tail (.tail (.tail (.tail (.tail .head))))))))) ?_ rfl
      refine s_asn g lc (Pu.cast (u := .str ((leadAt du j).take (x % 5))) (pu_slice (hi := some _) (lo := none) (vl := .none) (vh := .int ((x % 5 : Nat) : Int)) (pu_var g lc (.tail (.tail (.tail (.tail (.tail (.tail (.tail (.tail .head))))))))) rfl (show Pu _ _ _ _ _ _ from Pu.cast (pu_mod g (pu_var g lc (.tail (.tail (.tail (.tail .head))))) pu_int (by decide)) (by congr 1)) .none .int (sz1000 (by omega))) (by rw [slice_to])) (.tail (.tail (.tail (.tail (.tail (.tail (.tail (.tail .head)))))))) ?_ rfl
      have hp2 := pieceF_len x
      have htk : ((leadAt du j).take (x % 5)).length ≤ 6 := by rw [List.length_take]; omega
      refine s_asn g lc (Pu.cast (u := .str (leadAt du (j + 1))) (pu_ifexp (ts_cmp (pu_mod g (pu_div g (pu_var g lc (.tail (.tail (.tail (.tail .head))))) pu_int (by decide) (by decide)) pu_int (by decide)) pu_int cm_eq rfl) (fun _ => pu_cat (pu_var g lc (.tail (.tail (.tail (.tail (.tail (.tail (.tail (.tail (.tail .head)))))))))) (pu_var g lc (.tail (.tail (.tail (.tail (.tail (.tail (.tail (.tail .head))))))))) (sz1000 (by omega))) (fun _ => pu_cat (pu_var g lc (.tail (.tail (.tail (.tail (.tail (.tail (.tail (.tail .head))))))))) (pu_var g lc (.tail (.tail (.tail (.tail (.tail (.tail (.tail (.tail (.tail .head)))))))))) (sz1000 (by omega)))) ?_) (.tail (.tail (.tail (.tail (.tail (.tail (.tail (.tail .head)))))))) ?_ rfl
      · show _ = V.str (leadF (du.getD j 0) (leadAt du j))
        rw [hx]
        unfold leadF
        by_cases h : x / 20 % 2 = 1
        · rw [if_pos h, if_pos (by rw [beq_iff_eq]; omega)]
        · rw [if_neg h, if_neg (by rw [beq_iff_eq]; omega)]
      refine s_expr (ev_append (pu_var g lc (.tail (.tail (.tail (.tail (.tail (.tail .head))))))) (pu_var g lc (.tail (.tail (.tail (.tail (.tail (.tail (.tail (.tail .head))))))))) (.tail .head) (sz1000 (by rw [vStrs_len, leadsF_len]; omega)) ?_ rfl) (notInter g.fk) rfl
      refine s_expr (ev_append (v := .int ((placeAt tot j : Nat) : Int)) (pu_cell g cPl (.tail _ (.tail _ (.head _)))) (Pu.cast (pu_mod g (pu_add (pu_var g lc (.tail (.tail (.tail (.tail (.tail .head)))))) (pu_mul (pu_var g lc (.tail (.tail .head))) (pu_add (pu_mul pu_int (pu_mod g (pu_div g (pu_var g lc (.tail (.tail (.tail (.tail (.tail .head)))))) pu_int (by decide) (by decide)) pu_int (by decide)) (.inl (by decide))) pu_int) (.inl (by omega)))) pu_int (by decide)) ?_) .head (sz1000 (by rw [vInts_len, placesF_len]; omega)) ?_ rfl) (notInter g.fk) rfl
      · unfold placeAt; congr 1
      have e1 : vStrs (leadsF du j) ++ [V.str (leadAt du (j + 1))] = vStrs (leadsF du (j + 1)) := by rw [leadsF_succ]; simp [vStrs]
      have e2 : vInts (placesF tot j) ++ [V.int ((placeAt tot j : Nat) : Int)] = vInts (placesF tot (j + 1)) := by rw [placesF_succ]; simp [vInts]
      rw [e1, e2]
      have hp22 := placeAt_lt tot j
      refine s_aug g lc (.tail (.tail (.tail (.tail (.tail (.tail (.tail .head))))))) (pu_cat (pu_cat (Pu.cast (u := .str ((leadAt du (j + 1)).map encF)) (pu_join (ls := (leadAt du (j + 1)).map fun c => [encF c]) (Pu.cast (u := .str []) pu_str rfl)
          (Pu.cast (u := .lst (vStrs ((leadAt du (j + 1)).map fun c => [encF c]))) (pu_comp1 (f := fun i => .str [encF ((leadAt du (j + 1)).getD i 0)]) g (pu_var g lc (.tail (.tail (.tail (.tail (.tail (.tail (.tail (.tail .head))))))))) (itb_str hd) rfl (fun L P Z₀ => loc_any (gl := []) (relabelN _ lawSc.names) rfl rfl rfl rfl (by decide +kernel) (by decide +kernel) (by intro p hp; cases hp)) (sz1000 (by rw [signs_len]; omega)) (by decide +kernel) (fun _ => rfl)
            (fun L P Z₀ g' ic lcx i v hi hv => by
              obtain ⟨hi', rfl⟩ := signs_get hv
              refine Pu.cast (pu_ifexp (ts_cmp (pu_var g' lcx .head) (Pu.cast (u := .str [9]) pu_str rfl) cm_eqs rfl) (fun _ => Pu.cast (u := .str [91]) pu_str rfl) (fun _ => Pu.cast (u := .str [94]) pu_str rfl)) ?_
              generalize (leadAt du (j + 1)).getD i 0 = c
              unfold encF
              by_cases h : c = 9
              · subst h; rfl
              · rw [if_neg h, if_neg (by simpa using h)])) (by
            rw [signs_len]
            show V.lst _ = V.lst (List.map V.str _)
            rw [List.map_map, ← map_range (leadAt du (j + 1)) 0 (V.str ∘ fun c => [encF c])]; rfl))
          (sz1000 (by rw [flat_one, List.length_map]; omega)) rfl rfl) (by rw [flat_one]))
        (pu_item (pu_var g lc (.tail (.tail (.tail .head)))) (pu_item (pu_cell g cPl (.tail _ (.tail _ (.head _)))) (pu_var g lc (.tail (.tail .head))) (itm_lst (k := j) (.inr ⟨dp, rfl, .head _⟩) (by rw [vInts_len, placesF_len]; exact seqIndex_pos (by omega)) (by rw [vInts_get (by rw [placesF_len]; omega), placesF_get (by omega)]) (by omega) (by omega))) (itm_lst (k := placeAt tot j) (.inl rfl) (by rw [vStrs_len, namesL_len]; exact seqIndex_pos hp22) (vStrs_get (by rw [namesL_len]; exact hp22)) (by omega) (by omega)))
        (sz1000 (by simp only [List.length_map]; omega))) (Pu.cast (u := .str [91, 93]) pu_str rfl) (sz1000 (by simp only [List.length_append, List.length_map, List.length_cons, List.length_nil]; omega)))
        (inp_cat (sz1000 (by simp only [List.length_append, List.length_map, List.length_cons, List.length_nil]; omega))) (.tail (.tail (.tail (.tail (.tail (.tail (.tail .head))))))) ?_
      exact ex_nil ⟨_, _, _, rfl, rfl⟩
    · rintro G Λ' ⟨o1, o2, o3, rfl, rfl⟩
      exact ⟨rfl, _, _, _, rfl, rfl⟩
  · rintro f G Λ' ⟨rfl, o1, o2, o3, rfl, rfl⟩
    exact ex_meltC (.tail .head) (ex_melt (.keep (.keep (.keep (.keep (.keep (.keep (.here (.keep (.keep (.keep (.keep (.keep (.keep (.keep (.keep (.keep (.keep (.keep (.keep (.keep (.keep (.keep (.keep (.keep (.keep (.keep (.keep .nil))))))))))))))))))))))))))) (k o1 o2 o3 _))
end
end Mine
end

/-! W13 -/
section
open PySem PySem.W PyProof.Rows PySem.Calls
set_option maxRecDepth 100000
set_option autoImplicit false
set_option linter.unusedVariables false
namespace Mine

def rowStep (s : List (List Nat) × List Nat) (x : Nat) : List (List Nat) × List Nat := if x = 10 then (s.1 ++ [s.2 ++ [10]], []) else (s.1, s.2 ++ [x])
def rowsG (l : List Nat) : List (List Nat) × List Nat := l.foldl rowStep ([], [])
theorem rowsG_snoc (l : List Nat) (x : Nat) : rowsG (l ++ [x]) = rowStep (rowsG l) x := by simp [rowsG]
theorem rowsG_len (l : List Nat) : (rowsG l).1.length + (rowsG l).2.length ≤ l.length := by
  have : ∀ (l : List Nat) (s : List (List Nat) × List Nat), (l.foldl rowStep s).1.length + (l.foldl rowStep s).2.length ≤ s.1.length + s.2.length + l.length := by
    intro l
    induction l with
    | nil => intro s; simp
    | cons x l ih =>
      intro s
      rw [List.foldl_cons]
      refine Nat.le_trans (ih _) ?_
      unfold rowStep
      split <;> simp <;> omega
  have := this l ([], [])
  simp only [List.length_nil, Nat.zero_add] at this
  exact this
theorem vStrs_set (p : List (List Nat)) (q r : List Nat) : (vStrs (p ++ [q])).set p.length (.str r) = vStrs (p ++ [r]) := by
  unfold vStrs
  rw [List.map_append, List.map_append, List.set_append_right _ _ (by simp)]
  simp
section
variable {S : St} {nm : Str} {L fa P : Addr} {cd : Value} {Z₀ : Frz} {a : Ads} {fl : Addr} {A : Around} {n : Nat} {R : Post}
theorem st9 (e : LawEnv S a fl) (g : Good (lawFm S nm L fa cd Z₀) A (n + 6)) (s1 s2 s3 s4 s5 s6 s7 s8 s9 : Option V) (page toks : List Nat) (m : Nat) (Λ : Led) (hm : m ≤ 900) (hp : page.length ≤ 900) (hr : readF m page = some toks) (ht : ∀ t ∈ toks, 0 < t ∧ t < 1000) (htl : toks.length ≤ 900)
    (k : ∀ o, Ex (lawFm S nm L fa cd Z₀) A [s1, s2, s3, s4, o, s6, s7, some (.str page), s8, s9, some (.lst (vStrs ((rowsG toks).1 ++ [(rowsG toks).2]))), none, none, none, none, none, none, none, none, none, none, none, none, none, none, none, none] Λ (lawB.drop 11) R) :
    Ex (lawFm S nm L fa cd Z₀) A [s1, s2, s3, s4, s5, s6, s7, some (.str page), s8, s9, none, none, none, none, none, none, none, none, none, none, none, none, none, none, none, none, none] Λ (lawB.drop 9) R := by
  have lc : Loc (lawFm S nm L fa cd Z₀) nsLaw (glLaw a) := loc_law e
  have hd := g.hd
  have kk := e.kR
  have hg6 : ∀ {f : Addr} {vs : List V} {v : V}, Fn S f 6 vs v → Fn S f (n + 6) vs v := fun h => h.less (by omega)
  refine s_asnE g lc (ev_list (.cons (Pu.cast (u := .str []) pu_str rfl) .nil rfl) (sz40 (by simp)) fun d => ⟨_, (.tail (.tail (.tail (.tail (.tail (.tail (.tail (.tail (.tail (.tail .head)))))))))), ?_⟩) rfl
  refine Ex.seq (J := fun f G Λ' => f = .next ∧ ∃ o, Λ' = (d, .lst (vStrs ((rowsG toks).1 ++ [(rowsG toks).2]))) :: Λ ∧ G = [s1, s2, s3, s4, o, s6, s7, some (.str page), s8, s9, some (.ref d), none, none, none, none, none, none, none, none, none, none, none, none, none, none, none, none]) ?_ ?_
  · refine ex_for (items := vInts (natI toks ++ [0])) (pu_call g (pu_gl g lc (.tail (.tail (.tail (.tail .head))))) (.cons (pu_var g lc (.tail (.tail (.tail (.tail (.tail (.tail (.tail .head)))))))) .nil rfl) (cl_fn g (hg6 (e.rd m page toks hp hm hr))) kk.1 rfl rfl rfl) (itb_lst hd)
      (fun j G Λ' => j ≤ toks.length ∧ ∃ o, Λ' = (d, .lst (vStrs ((rowsG (toks.take j)).1 ++ [(rowsG (toks.take j)).2]))) :: Λ ∧ G = [s1, s2, s3, s4, o, s6, s7, some (.str page), s8, s9, some (.ref d), none, none, none, none, none, none, none, none, none, none, none, none, none, none, none, none]) ⟨Nat.zero_le _, _, rfl, rfl⟩ ?_ ?_ (fun _ => rfl)
    · rintro j G Λ' v hj hv ⟨hjl, o, rfl, rfl⟩
      rw [vInts_get (by simpa [natI_len, vInts_len] using hj)] at hv
      cases hv
      refine tgt_loc g lc (.tail (.tail (.tail (.tail .head)))) ?_
      by_cases hlt : j < toks.length
      · have hx : (natI toks ++ [0]).getD j 0 = ((toks.getD j 0 : Nat) : Int) := by
          rw [← natI_get]
          simp [List.getD_eq_getElem?_getD, List.getElem?_append_left (show j < (natI toks).length by rw [natI_len]; exact hlt)]
        rw [hx]
        have hmem : toks.getD j 0 ∈ toks := by rw [List.getD_eq_getElem?_getD, List.getElem?_eq_getElem hlt]; exact List.getElem_mem _
        have hb := ht _ hmem
        have htake : toks.take (j + 1) = toks.take j ++ [toks.getD j 0] := by
          rw [List.take_add_one, List.getD_eq_getElem?_getD, List.getElem?_eq_getElem hlt]; rfl
        generalize toks.getD j 0 = x at *
        have hrl := rowsG_len (toks.take j)
        have htl' : (toks.take j).length ≤ 900 := by rw [List.length_take]; omega
        refine s_if (b := false) (ts_val (Pu.cast (u := .bool false) (pu_call g (pu_gl g lc (.tail (.tail (.tail (.tail (.tail .head)))))) (.cons (pu_var g lc (.tail (.tail (.tail (.tail .head))))) .nil rfl) (cl_fn g (hg6 (e.eof _))) kk.2.1 rfl rfl rfl) (by congr 1; rw [beq_eq_false_iff_ne]; omega)) tr_bool (fun _ => rfl)) (fun h => by cases h) (fun _ => ex_nil ?_)
        generalize hs : rowsG (toks.take j) = s at *
        obtain ⟨p, q⟩ := s
        dsimp only at hrl ⊢
        refine s_augBack (d := d) (k := p.length) (vs := vStrs (p ++ [q])) (a := .str q) (c := .str (q ++ [x])) (pu_var g lc (.tail (.tail (.tail (.tail (.tail (.tail (.tail (.tail (.tail (.tail .head))))))))))) (pu_neg pu_int) (by simp [vStrs]) (pu_call g (pu_gl g lc (.tail (.tail (.tail (.tail (.tail (.tail .head))))))) (.cons (pu_var g lc (.tail (.tail (.tail (.tail .head))))) .nil rfl) (cl_chr (m := x) rfl (by omega)) rfl rfl rfl rfl) (inp_cat (sz1000 (by simp; omega))) .head (by decide) (by simp [vStrs]; omega) (by simp [vStrs]; omega) (by decide) ?_ (by intros; rfl)
        rw [vStrs_set]
        have hrow : rowsG (toks.take (j + 1)) = rowStep (p, q) x := by rw [htake, rowsG_snoc, hs]
        refine s_if (ts_cmp (pu_var g lc (.tail (.tail (.tail (.tail .head))))) pu_int cm_eq rfl) (fun h => ?_) (fun h => ?_)
        · have h10 : x = 10 := by rw [beq_iff_eq] at h; omega
          refine s_expr (ev_append (pu_var g lc (.tail (.tail (.tail (.tail (.tail (.tail (.tail (.tail (.tail (.tail .head))))))))))) (Pu.cast (u := .str []) pu_str rfl) .head (sz1000 (by rw [vStrs_len]; simp; omega)) ?_ rfl) (notInter g.fk) rfl
          refine ex_nil (ex_nil ⟨hlt, _, ?_, rfl⟩)
          rw [hrow]; subst h10
          show _ = (d, LO.lst (vStrs ((p ++ [q ++ [10]]) ++ [[]]))) :: Λ
          congr 3
          simp [vStrs]
        · have h10 : x ≠ 10 := fun q => by subst q; simp at h
          refine ex_nil (ex_nil ⟨hlt, _, ?_, rfl⟩)
          rw [hrow]
          unfold rowStep
          rw [if_neg h10]
      · have hj' : j = toks.length := by have : j < (natI toks ++ [0]).length := by simpa [vInts_len] using hj
                                         simp [natI_len] at this; omega
        have hx : (natI toks ++ [0]).getD j 0 = 0 := by rw [hj', ← natI_len toks]; simp
        rw [hx]
        have htake : toks.take j = toks := by rw [hj', List.take_length]
        rw [htake]
        refine s_if (b := true) (ts_val (Pu.cast (u := .bool true) (pu_call g (pu_gl g lc (.tail (.tail (.tail (.tail (.tail .head)))))) (.cons (pu_var g lc (.tail (.tail (.tail (.tail .head))))) .nil rfl) (cl_fn g (hg6 (e.eof _))) kk.2.1 rfl rfl rfl) rfl) tr_bool (fun _ => rfl)) (fun _ => s_brk ⟨rfl, _, rfl, rfl⟩) (fun h => by cases h)
    · rintro G Λ' ⟨hjl, _⟩
      rw [vInts_len] at hjl
      simp [natI_len] at hjl
      omega
  · rintro f G Λ' ⟨rfl, o, rfl, rfl⟩
    exact ex_melt (.keep (.keep (.keep (.keep (.keep (.keep (.keep (.keep (.keep (.keep (.here (.keep (.keep (.keep (.keep (.keep (.keep (.keep (.keep (.keep (.keep (.keep (.keep (.keep (.keep (.keep (.keep .nil))))))))))))))))))))))))))) (k o)
end
end Mine
end

/-! W14 -/
section
open PySem PySem.W PyProof.Rows PySem.Calls
set_option maxRecDepth 100000
set_option autoImplicit false
set_option linter.unusedVariables false
namespace Mine

theorem nil_or_snoc {α : Type} (l : List α) : l = [] ∨ ∃ L b, l = L ++ [b] := by
  rcases List.eq_nil_or_concat l with h | ⟨L, b, h⟩
  · exact .inl h
  · exact .inr ⟨L, b, by simpa using h⟩
structure PS where
  pile : List (List Nat)
  marks : List Int
  shut : List Int
def popG (le : List Nat → Bool) : Nat → PS → PS
  | 0, s => s
  | n + 1, s => if (s.pile.isEmpty || le (s.pile.getLastD [])) = true then s else popG le n ⟨s.pile.dropLast, s.marks.dropLast, s.shut ++ [s.marks.getLastD 0]⟩
def flipF (marks : List Int) : List Int := if marks = [] then [] else if marks.getLastD 0 < 256 then marks.dropLast ++ [511 - marks.getLastD 0] else marks
def psStep (s : PS) (row : List Nat) : PS :=
  let s' := popG (fun r => lessF (wsOf r) (wsOf row)) s.pile.length s
  if row = [] then s' else ⟨s'.pile ++ [row], flipF s'.marks ++ [288 - ((row.getD (wsOf row).n 0 : Nat) : Int)], s'.shut⟩
def psAt (rows : List (List Nat)) : PS := rows.foldl psStep ⟨[], [], []⟩
theorem psAt_snoc (rows : List (List Nat)) (r : List Nat) : psAt (rows ++ [r]) = psStep (psAt rows) r := by simp [psAt]
theorem flipF_len (m : List Int) : (flipF m).length = m.length := by
  unfold flipF
  split
  · rename_i h; subst h; rfl
  · rename_i h
    have : m.length ≠ 0 := fun q => h (List.length_eq_zero_iff.mp q)
    split <;> simp <;> omega
section
variable {F : Fm} {A : Around} {G : List (Option V)} {Λ : Led} {e : Expr}
theorem Tst.cast {c d : Bool} (h : Tst F A G Λ e c) (q : c = d) : Tst F A G Λ e d := q ▸ h
end
section
variable {S : St} {nm : Str} {L fa P : Addr} {cd : Value} {Z₀ : Frz} {a : Ads} {fl : Addr} {A : Around} {n : Nat} {R : Post}
theorem st11 (e : LawEnv S a fl) (g : Good (lawFm S nm L fa cd Z₀) A (n + 12)) (s1 s2 s3 s4 s5 s6 s7 s8 s9 s10 : Option V) (rows : List (List Nat)) (Λ : Led) (hl : rows.length ≤ 900) (hr : ∀ r ∈ rows, r.length ≤ 900 ∧ (r ≠ [] → (wsOf r).n < r.length))
    (k : ∀ o1 o2 o3 o4 Λ', Wk Λ' Λ → Ex (lawFm S nm L fa cd Z₀) A [s1, s2, s3, s4, s5, s6, s7, s8, s9, s10, some (.lst (vStrs rows)), o1, o2, some (.lst (vInts (psAt rows).shut)), o3, o4, none, none, none, none, none, none, none, none, none, none, none] Λ' (lawB.drop 15) R) :
    Ex (lawFm S nm L fa cd Z₀) A [s1, s2, s3, s4, s5, s6, s7, s8, s9, s10, some (.lst (vStrs rows)), none, none, none, none, none, none, none, none, none, none, none, none, none, none, none, none] Λ (lawB.drop 11) R := by
  have lc : Loc (lawFm S nm L fa cd Z₀) nsLaw (glLaw a) := loc_law e
  have hd := g.hd
  have kk := e.kR
  have hg6 : ∀ {f : Addr} {vs : List V} {v : V}, Fn S f 6 vs v → Fn S f (n + 12) vs v := fun h => h.less (by omega)
  have g12 : Good (lawFm S nm L fa cd Z₀) A 12 := { g with toRoom := g.toRoom.less (by omega) }
  refine s_asnE g lc (ev_list .nil (by simp) fun dP => ⟨_, (.tail (.tail (.tail (.tail (.tail (.tail (.tail (.tail (.tail (.tail (.tail .head))))))))))), ?_⟩) rfl
  refine s_asnE g lc (ev_list .nil (by simp) fun dM => ⟨_, (.tail (.tail (.tail (.tail (.tail (.tail (.tail (.tail (.tail (.tail (.tail (.tail .head)))))))))))), ?_⟩) rfl
  refine s_asnE g lc (ev_list .nil (by simp) fun dS => ⟨_, (.tail (.tail (.tail (.tail (.tail (.tail (.tail (.tail (.tail (.tail (.tail (.tail (.tail .head))))))))))))), ?_⟩) rfl
  refine Ex.seq (J := fun f G Λ' => f = .next ∧ ∃ o3 o4, Λ' = (dS, .lst (vInts (psAt rows).shut)) :: (dM, .lst (vInts (psAt rows).marks)) :: (dP, .lst ((psAt rows).pile.map (wsV a.C))) :: Λ ∧ G = [s1, s2, s3, s4, s5, s6, s7, s8, s9, s10, some (.lst (vStrs rows)), some (.ref dP), some (.ref dM), some (.ref dS), o3, o4, none, none, none, none, none, none, none, none, none, none, none]) ?_ ?_
  · refine ex_for (pu_var g lc (.tail (.tail (.tail (.tail (.tail (.tail (.tail (.tail (.tail (.tail .head))))))))))) (itb_lst hd)
      (fun j G Λ' => (∀ r ∈ (psAt (rows.take j)).pile, r.length ≤ 900) ∧ (psAt (rows.take j)).marks.length = (psAt (rows.take j)).pile.length ∧ (psAt (rows.take j)).shut.length + (psAt (rows.take j)).pile.length ≤ j ∧ ∃ o3 o4, Λ' = (dS, .lst (vInts (psAt (rows.take j)).shut)) :: (dM, .lst (vInts (psAt (rows.take j)).marks)) :: (dP, .lst ((psAt (rows.take j)).pile.map (wsV a.C))) :: Λ ∧ G = [s1, s2, s3, s4, s5, s6, s7, s8, s9, s10, some (.lst (vStrs rows)), some (.ref dP), some (.ref dM), some (.ref dS), o3, o4, none, none, none, none, none, none, none, none, none, none, none]) ⟨by simp [psAt], rfl, by simp [psAt], _, _, rfl, rfl⟩ ?_ ?_ (fun _ => rfl)
    · rintro j G Λ' v hj hv ⟨hrlen, hml, hsl, o3, o4, rfl, rfl⟩
      rw [vStrs_len] at hj
      rw [vStrs_get hj] at hv; cases hv
      have hmem : rows.getD j [] ∈ rows := by rw [List.getD_eq_getElem?_getD, List.getElem?_eq_getElem hj]; exact List.getElem_mem _
      obtain ⟨hr9, hrn⟩ := hr _ hmem
      have htake : rows.take (j + 1) = rows.take j ++ [rows.getD j []] := by
        rw [List.take_add_one, List.getD_eq_getElem?_getD, List.getElem?_eq_getElem hj]; rfl
      rw [htake, psAt_snoc]
      generalize rows.getD j [] = row at *
      generalize psAt (rows.take j) = s0 at *
      refine tgt_loc g lc (.tail (.tail (.tail (.tail (.tail (.tail (.tail (.tail (.tail (.tail (.tail (.tail (.tail (.tail .head)))))))))))))) ?_
      refine s_asn g lc (pu_call g (pu_gl g lc (.tail (.tail (.tail (.tail (.tail (.tail (.tail .head)))))))) (.cons (pu_var g lc (.tail (.tail (.tail (.tail (.tail (.tail (.tail (.tail (.tail (.tail (.tail (.tail (.tail (.tail .head))))))))))))))) .nil rfl) (e.ws rfl g12 row hr9) e.kC rfl rfl rfl) (.tail (.tail (.tail (.tail (.tail (.tail (.tail (.tail (.tail (.tail (.tail (.tail (.tail (.tail (.tail .head))))))))))))))) ?_ rfl
      refine Ex.seq (J := fun f G Λ' => f = .next ∧ ∃ s : PS, s = popG (fun r => lessF (wsOf r) (wsOf row)) s0.pile.length s0 ∧ (∀ r ∈ s.pile, r.length ≤ 900) ∧ s.marks.length = s.pile.length ∧ s.shut.length + s.pile.length ≤ j ∧ Λ' = (dS, .lst (vInts s.shut)) :: (dM, .lst (vInts s.marks)) :: (dP, .lst (s.pile.map (wsV a.C))) :: Λ ∧ G = [s1, s2, s3, s4, s5, s6, s7, s8, s9, s10, some (.lst (vStrs rows)), some (.ref dP), some (.ref dM), some (.ref dS), some (.str row), some (wsV a.C row), none, none, none, none, none, none, none, none, none, none, none]) ?_ ?_
      · refine ex_while (fun m G Λ' => ∃ s : PS, s.pile.length = m ∧ (∀ r ∈ s.pile, r.length ≤ 900) ∧ popG (fun r => lessF (wsOf r) (wsOf row)) s.pile.length s = popG (fun r => lessF (wsOf r) (wsOf row)) s0.pile.length s0 ∧ s.marks.length = s.pile.length ∧ s.shut.length + s.pile.length ≤ j ∧ Λ' = (dS, .lst (vInts s.shut)) :: (dM, .lst (vInts s.marks)) :: (dP, .lst (s.pile.map (wsV a.C))) :: Λ ∧ G = [s1, s2, s3, s4, s5, s6, s7, s8, s9, s10, some (.lst (vStrs rows)), some (.ref dP), some (.ref dM), some (.ref dS), some (.str row), some (wsV a.C row), none, none, none, none, none, none, none, none, none, none, none]) s0.pile.length ⟨s0, rfl, hrlen, rfl, hml, hsl, rfl, rfl⟩ ?_
        rintro m G Λ' ⟨s, rfl, hp9, hpop, hml, hsl, rfl, rfl⟩
        obtain ⟨pile, marks, shut⟩ := s
        dsimp only at hp9 hpop hml hsl ⊢
        rcases nil_or_snoc pile with rfl | ⟨p, r, rfl⟩
        · refine ⟨false, Tst.cast (ts_bool (ta_and (d := true) (ts_cmp (pu_call g (pu_gl g lc (.tail (.tail .head))) (.cons (pu_var g lc (.tail (.tail (.tail (.tail (.tail (.tail (.tail (.tail (.tail (.tail (.tail .head)))))))))))) .nil rfl) (cl_lenL (vs := []) (.inr ⟨dP, rfl, .tail _ (.tail _ (.head _))⟩) (by simp)) rfl rfl rfl rfl) pu_int cm_gt rfl) (fun h => absurd h (by decide)))) rfl, (fun h => by cases h), fun _ => ⟨rfl, ⟨[], marks, shut⟩, hpop, hp9, hml, hsl, rfl, rfl⟩⟩
        · obtain ⟨q, x, rfl⟩ : ∃ q x, marks = q ++ [x] := by
            rcases nil_or_snoc marks with rfl | ⟨q, x, rfl⟩
            · simp at hml
            · exact ⟨q, x, rfl⟩
          have hpl : (p ++ [r]).length = p.length + 1 := by simp
          have hql : q.length = p.length := by simpa using hml
          have hr9' := hp9 r (by simp)
          have emap : (p ++ [r]).map (wsV a.C) = p.map (wsV a.C) ++ [wsV a.C r] := by simp
          have eint : vInts (q ++ [x]) = vInts q ++ [V.int x] := by simp [vInts]
          have eshut : vInts shut ++ [V.int x] = vInts (shut ++ [x]) := by simp [vInts]
          refine ⟨!lessF (wsOf r) (wsOf row), Tst.cast (ts_bool (ta_and (ts_cmp (pu_call g (pu_gl g lc (.tail (.tail .head))) (.cons (pu_var g lc (.tail (.tail (.tail (.tail (.tail (.tail (.tail (.tail (.tail (.tail (.tail .head)))))))))))) .nil rfl) (cl_lenL (vs := (p ++ [r]).map (wsV a.C)) (.inr ⟨dP, rfl, .tail _ (.tail _ (.head _))⟩) (sz1000 (by simp; omega))) rfl rfl rfl rfl) pu_int cm_gt rfl) (fun h => ta_and (ts_not (ts_val (pu_meth (v := .bool (lessF (wsOf r) (wsOf row))) g e.cls (pu_item (pu_var g lc (.tail (.tail (.tail (.tail (.tail (.tail (.tail (.tail (.tail (.tail (.tail .head)))))))))))) (pu_neg pu_int) (itm_lst (k := p.length) (c := wsV a.C r) (vs := (p ++ [r]).map (wsV a.C)) (.inr ⟨dP, rfl, .tail _ (.tail _ (.head _))⟩) (by rw [List.length_map, hpl]; unfold seqIndex?; simp; omega) (by simp) (by decide) (by decide))) e.lessI e.lessF e.lessK (by decide +kernel) (.cons (pu_var g lc (.tail (.tail (.tail (.tail (.tail (.tail (.tail (.tail (.tail (.tail (.tail (.tail (.tail (.tail (.tail .head)))))))))))))))) .nil rfl) (hg6 (e.less r row hr9' hr9)) rfl (.inr ⟨_, _, rfl, rfl, rfl⟩)) tr_bool (fun _ => rfl))) (fun _ => ta_and0)))) (by simp), fun hb => ?_, fun hb => ?_⟩
          · have hle : lessF (wsOf r) (wsOf row) = false := by simpa using hb
            rw [emap, eint]
            refine s_expr (ev_pop (v := wsV a.C r) (pu_var g lc (.tail (.tail (.tail (.tail (.tail (.tail (.tail (.tail (.tail (.tail (.tail .head)))))))))))) (.tail (.tail .head)) (sz1000 (by rw [List.length_map]; omega)) ?_ rfl) (notInter g.fk) rfl
            refine s_expr (ev_appendE (us := vInts shut) (pu_var g lc (.tail (.tail (.tail (.tail (.tail (.tail (.tail (.tail (.tail (.tail (.tail (.tail (.tail .head)))))))))))))) (ev_pop (v := .int x) (pu_var g lc (.tail (.tail (.tail (.tail (.tail (.tail (.tail (.tail (.tail (.tail (.tail (.tail .head))))))))))))) (.tail .head) (sz1000 (by rw [vInts_len]; omega)) ⟨_, _, .head, sz1000 (by rw [vInts_len]; omega), ?_⟩ rfl) (.head _) rfl) (notInter g.fk) rfl
            rw [eshut]
            refine ex_nil ⟨p.length, by simp, ⟨p, q, shut ++ [x]⟩, rfl, fun r' h' => hp9 r' (by simp [h']), ?_, hql, by simp; omega, rfl, rfl⟩
            rw [← hpop]
            show _ = popG _ (p ++ [r]).length _
            rw [hpl]
            conv => rhs; unfold popG
            rw [if_neg (by simp [hle])]
            simp
          · have hle : lessF (wsOf r) (wsOf row) = true := by simpa using hb
            refine ⟨rfl, ⟨p ++ [r], q ++ [x], shut⟩, ?_, hp9, hml, hsl, rfl, rfl⟩
            rw [← hpop, hpl]
            conv => rhs; unfold popG
            rw [if_pos (by simp [hle])]
      · rintro f G Λ' ⟨rfl, s, hs, hp9, hml, hsl, rfl, rfl⟩
        have hstep : psStep s0 row = (if row = [] then s else ⟨s.pile ++ [row], flipF s.marks ++ [288 - ((row.getD (wsOf row).n 0 : Nat) : Int)], s.shut⟩) := by rw [hs]; rfl
        rw [hstep]
        refine s_if (ts_cmp (pu_var g lc (.tail (.tail (.tail (.tail (.tail (.tail (.tail (.tail (.tail (.tail (.tail (.tail (.tail (.tail .head))))))))))))))) (Pu.cast (u := .str []) pu_str rfl) cm_nes rfl) (fun h => ?_) (fun h => ?_)
        · have hne : row ≠ [] := fun q => by subst q; simp at h
          rw [if_neg hne]
          have hnl := hrn hne
          refine Ex.seq (J := fun f G Λ' => f = .next ∧ Λ' = (dS, .lst (vInts s.shut)) :: (dM, .lst (vInts (flipF s.marks))) :: (dP, .lst (s.pile.map (wsV a.C))) :: Λ ∧ G = [s1, s2, s3, s4, s5, s6, s7, s8, s9, s10, some (.lst (vStrs rows)), some (.ref dP), some (.ref dM), some (.ref dS), some (.str row), some (wsV a.C row), none, none, none, none, none, none, none, none, none, none, none]) ?_ ?_
          · rcases nil_or_snoc s.marks with hm0 | ⟨q, x, hm0⟩
            · rw [hm0]
              refine ex_if (b := false) (Tst.cast (ts_bool (ta_and (d := true) (ts_cmp (pu_call g (pu_gl g lc (.tail (.tail .head))) (.cons (pu_var g lc (.tail (.tail (.tail (.tail (.tail (.tail (.tail (.tail (.tail (.tail (.tail (.tail .head))))))))))))) .nil rfl) (cl_lenL (vs := []) (.inr ⟨dM, rfl, .tail _ (.head _)⟩) (by simp)) rfl rfl rfl rfl) pu_int cm_gt rfl) (fun h => absurd h (by decide)))) rfl) (fun h => by cases h) (fun _ => ex_nil ⟨rfl, rfl, rfl⟩)
            · have hm0 : s.marks = q ++ [x] := by simpa using hm0
              have hql : q.length + 1 = s.pile.length := by rw [← hml, hm0]; simp
              rw [hm0]
              have eint : (vInts (q ++ [x])).length = q.length + 1 := by simp [vInts]
              have eget : (vInts (q ++ [x]))[q.length]? = some (.int x) := by simp [vInts]
              refine ex_if (b := decide (x < 256)) (Tst.cast (ts_bool (ta_and (ts_cmp (pu_call g (pu_gl g lc (.tail (.tail .head))) (.cons (pu_var g lc (.tail (.tail (.tail (.tail (.tail (.tail (.tail (.tail (.tail (.tail (.tail (.tail .head))))))))))))) .nil rfl) (cl_lenL (vs := vInts (q ++ [x])) (.inr ⟨dM, rfl, .tail _ (.head _)⟩) (sz1000 (by omega))) rfl rfl rfl rfl) pu_int cm_gt rfl) (fun h => ta_and (ts_val (pu_call g (pu_gl g lc (.tail (.tail (.tail (.tail (.tail (.tail (.tail (.tail .head))))))))) (.cons (pu_item (pu_var g lc (.tail (.tail (.tail (.tail (.tail (.tail (.tail (.tail (.tail (.tail (.tail (.tail .head))))))))))))) (pu_neg pu_int) (itm_lst (k := q.length) (c := .int x) (vs := vInts (q ++ [x])) (.inr ⟨dM, rfl, .tail _ (.head _)⟩) (by rw [eint]; unfold seqIndex?; simp; omega) eget (by decide) (by decide))) .nil rfl) (cl_fn g (hg6 (e.ter x))) kk.2.2.1 rfl rfl rfl) tr_bool (fun _ => rfl)) (fun _ => ta_and0)))) (by rw [eint]; simp)) (fun h => ?_) (fun h => ?_)
              · have hx : x < 256 := by simpa using h
                refine s_setBack (d := dM) (k := q.length) (vs := vInts (q ++ [x])) (v := .int (511 - x)) (pu_sub pu_int (pu_item (pu_var g lc (.tail (.tail (.tail (.tail (.tail (.tail (.tail (.tail (.tail (.tail (.tail (.tail .head))))))))))))) (pu_neg pu_int) (itm_lst (k := q.length) (c := .int x) (vs := vInts (q ++ [x])) (.inr ⟨dM, rfl, .tail _ (.head _)⟩) (by rw [eint]; unfold seqIndex?; simp; omega) eget (by decide) (by decide)))) (pu_var g lc (.tail (.tail (.tail (.tail (.tail (.tail (.tail (.tail (.tail (.tail (.tail (.tail .head))))))))))))) (pu_neg pu_int) (.tail .head) (by decide) (by rw [eint]; omega) (by rw [eint]; omega) (by decide) (ex_nil ⟨rfl, ?_, rfl⟩) rfl
                rw [vInts_set]
                have : (q ++ [x]).set q.length (511 - x) = flipF (q ++ [x]) := by
                  unfold flipF
                  rw [if_neg (by simp), if_pos (by simpa using hx)]
                  simp
                rw [this]
              · have hx : ¬ x < 256 := by simpa using h
                refine ex_nil ⟨rfl, ?_, rfl⟩
                have : flipF (q ++ [x]) = q ++ [x] := by
                  unfold flipF
                  rw [if_neg (by simp), if_neg (by simpa using hx)]
                rw [this]
          · rintro f G Λ' ⟨rfl, rfl, rfl⟩
            refine s_expr (ev_append (pu_var g lc (.tail (.tail (.tail (.tail (.tail (.tail (.tail (.tail (.tail (.tail (.tail .head)))))))))))) (pu_var g lc (.tail (.tail (.tail (.tail (.tail (.tail (.tail (.tail (.tail (.tail (.tail (.tail (.tail (.tail (.tail .head)))))))))))))))) (.tail (.tail .head)) (sz1000 (by rw [List.length_map]; omega)) ?_ rfl) (notInter g.fk) rfl
            refine s_expr (ev_append (v := .int (288 - ((row.getD (wsOf row).n 0 : Nat) : Int))) (pu_var g lc (.tail (.tail (.tail (.tail (.tail (.tail (.tail (.tail (.tail (.tail (.tail (.tail .head))))))))))))) (pu_sub pu_int (pu_call g (pu_gl g lc (.tail (.tail (.tail (.tail (.tail (.tail (.tail (.tail (.tail .head)))))))))) (.cons (pu_item (pu_var g lc (.tail (.tail (.tail (.tail (.tail (.tail (.tail (.tail (.tail (.tail (.tail (.tail (.tail (.tail .head))))))))))))))) (pu_attr g e.cls (pu_var g lc (.tail (.tail (.tail (.tail (.tail (.tail (.tail (.tail (.tail (.tail (.tail (.tail (.tail (.tail (.tail .head)))))))))))))))) at_n mem_n trivial) (itm_str (k := (wsOf row).n) (ch := row.getD (wsOf row).n 0) (seqIndex_pos hnl) (by rw [List.getD_eq_getElem?_getD, List.getElem?_eq_getElem hnl]; rfl) (by omega) (by omega))) .nil rfl) cl_ord rfl rfl rfl rfl)) (.tail .head) (sz1000 (by rw [vInts_len, flipF_len]; omega)) ?_ rfl) (notInter g.fk) rfl
            refine ex_nil (ex_nil ⟨?_, ?_, ?_, _, _, ?_, rfl⟩)
            · intro r h'
              rcases List.mem_append.mp h' with h' | h'
              · exact hp9 r h'
              · rw [List.mem_singleton.mp h']; exact hr9
            · simp [flipF_len, hml]
            · simp; omega
            · simp [vInts]
        · have hne : row = [] := by simpa using h
          rw [if_pos hne]
          exact ex_nil (ex_nil ⟨hp9, hml, by omega, _, _, rfl, rfl⟩)
    · rintro G Λ' ⟨_, _, _, o3, o4, rfl, rfl⟩
      rw [vStrs_len, List.take_length]
      exact ⟨rfl, _, _, rfl, rfl⟩
  · rintro f G Λ' ⟨rfl, o3, o4, rfl, rfl⟩
    exact ex_melt (.keep (.keep (.keep (.keep (.keep (.keep (.keep (.keep (.keep (.keep (.keep (.keep (.keep (.here (.keep (.keep (.keep (.keep (.keep (.keep (.keep (.keep (.keep (.keep (.keep (.keep (.keep .nil))))))))))))))))))))))))))) (k _ _ o3 o4 _ ((Wk.refl _).drop.drop))
end
end Mine
end

/-! W15 -/
section
open PySem PySem.W PyProof.Rows PySem.Calls
set_option maxRecDepth 100000
set_option autoImplicit false
set_option linter.unusedVariables false
namespace Mine

def colsF (lead : List Nat) : List Int := (List.range 6).map fun t => ((colF lead (t + 1) : Nat) : Int)
def vCols (leads : List (List Nat)) : List V := leads.map fun l => V.lst (vInts (colsF l))
theorem vCols_len (l : List (List Nat)) : (vCols l).length = l.length := by simp [vCols]
theorem vCols_get {l : List (List Nat)} {k : Nat} (h : k < l.length) : (vCols l)[k]? = some (.lst (vInts (colsF (l.getD k [])))) := by simp [vCols, h]
theorem colsF_len (l : List Nat) : (colsF l).length = 6 := by simp [colsF]
def colLess (leads : List (List Nat)) (i j : Nat) : Bool := (((List.range 6).map fun t => decide ((colsF (leads.getD i [])).getD t 0 < (colsF (leads.getD j [])).getD t 0))).all fun b => b
def goJ (ls : Nat → Nat → Bool) (i : Nat) : Nat → Nat → Nat
  | 0, j => j
  | f + 1, j => if ls i j = true then goJ ls i f (j + 1) else j
def closeAt (ls : Nat → Nat → Bool) (i : Nat) : Nat := goJ ls i (5 - (i + 1)) (i + 1)
def closeN (ls : Nat → Nat → Bool) (k : Nat) : List Nat := (List.range k).map (closeAt ls)
theorem closeN_succ (ls : Nat → Nat → Bool) (k : Nat) : closeN ls (k + 1) = closeN ls k ++ [closeAt ls k] := by simp [closeN, List.range_succ]
theorem closeN_len (ls : Nat → Nat → Bool) (k : Nat) : (closeN ls k).length = k := by simp [closeN]
theorem loc_anyG {F : Fm} {A : Around} {n : Nat} {ns : List Str} {gl : List (Str × Value)} (g : Good F A n) (sc : List (Str × NameKind)) (hns : F.ns = ns) (hsc : F.env.scope.names = sc) (hg : F.env.globals = mainGlobals) (hb : F.env.builtins = builtinsNs)
    (h1 : (ns.all fun x => decide (sc.lookup x = some .local) && !(x == ("__debug__" : Str))) = true)
    (h2 : ((gl.map Prod.fst).all fun p => decide (sc.lookup p = some .globalImplicit) && !(p == ("__debug__" : Str))) = true) (h3 : ∀ p ∈ gl, TopName F.S p.1 p.2) : Loc F ns gl := loc_any sc hns hsc hg hb h1 h2 h3
section
variable {S : St} {nm : Str} {L fa P : Addr} {cd : Value} {Z₀ : Frz} {a : Ads} {fl : Addr} {A : Around} {n : Nat} {R : Post}
theorem st15 (e : LawEnv S a fl) (g : Good (lawFm S nm L fa cd Z₀) A (n + 6)) (s1 s2 s3 s4 s5 s6 s7 s8 s9 s10 s11 s12 s13 s14 s15 pl : Option V) (leads : List (List Nat)) (t : LO) (hl : leads.length ≤ 900)
    (k : Ex (lawFm S nm L fa cd Z₀) A [s1, s2, s3, s4, s5, s6, some (.lst (vStrs leads)), s8, s9, s10, s11, s12, s13, s14, s15, s7, none, none, none, none, none, none, none, none, none, none, none] (cellsL L P pl (some (.lst (vCols leads))) none none none none t) (lawB.drop 16) R) :
    Ex (lawFm S nm L fa cd Z₀) A [s1, s2, s3, s4, s5, s6, some (.lst (vStrs leads)), s8, s9, s10, s11, s12, s13, s14, s15, s7, none, none, none, none, none, none, none, none, none, none, none] (cellsL L P pl none none none none none t) (lawB.drop 15) R := by
  have lc : Loc (lawFm S nm L fa cd Z₀) nsLaw (glLaw a) := loc_law e
  have hd := g.hd
  have kk := e.kR
  have hg6 : ∀ {f : Addr} {vs : List V} {v : V}, Fn S f 6 vs v → Fn S f (n + 6) vs v := fun h => h.less (by omega)
  refine s_asnC (v := .lst (vCols leads)) g cCo (Pu.cast (pu_comp (p := fun _ => true) (f := fun i => .lst (vInts (colsF (leads.getD i [])))) (ns' := []) (J := fun L G Λ => G = [] ∧ ∃ v, Λ = [(L + 1, .cell v)]) g (pu_var g lc (.tail (.tail (.tail (.tail (.tail (.tail .head))))))) (itb_lst hd)
      { clos := rfl, kind := rfl, names := by decide +kernel, nodup := List.Pairwise.nil, h0 := fun L => ⟨rfl, none, rfl⟩, len := sz1000 (by rw [vStrs_len]; omega), go := fun _ _ => rfl, turn := ?turn }) ?cast) (.tail .head) k
  case cast =>
    rw [vStrs_len]
    show V.lst _ = V.lst (List.map _ leads)
    rw [← map_range leads [] (fun l => V.lst (vInts (colsF l)))]
    congr 2
    exact List.filter_eq_self.mpr fun _ _ => rfl
  case turn =>
    rintro L' P' Z' g' ic i G Λ v hi hv ⟨rfl, vo, rfl⟩
    rw [vStrs_len] at hi
    rw [vStrs_get hi] at hv; cases hv
    have lc' := loc_anyG (ns := []) (gl := [(Str.ofString "range", .type "range")]) g' (relabelN _ lawSc.names) rfl rfl rfl rfl (by decide +kernel) (by decide +kernel) (by intro p hp; rw [List.mem_singleton.mp hp]; exact e.glob _ (.head _))
    refine tgt_cell g' (c := L' + 1) ⟨rfl, rfl, rfl⟩ .head ⟨rfl, fun _ => Pu.ev (Pu.cast (pu_comp1 (f := fun t => .int ((colF (leads.getD i []) (t + 1) : Nat) : Int)) g' (pu_call g' (pu_gl g' lc' .head) (.cons pu_int (.cons pu_int .nil rfl) rfl) cl_range2 rfl rfl rfl rfl) (itb_from (p := 1) (q := 7) g'.hd (by decide) (by decide)) rfl (fun L P Z₀ => loc_any (gl := [(Str.ofString "_law_column", .ref a.col)]) (relabelN _ (relabelN _ lawSc.names)) rfl rfl rfl rfl (by decide +kernel) (by show (([Str.ofString "_law_column"] : List Str).all fun p => _) = true; decide +kernel) (by intro p hp; rw [List.mem_singleton.mp hp]; exact e.globC)) (sz40 (by simp [rangeL_len])) (by decide +kernel) (fun _ => rfl) ?_) ?_) ⟨rfl, rfl, _, rfl⟩, fun h => by cases h⟩
    · intro L2 P2 Z2 g2 ic2 lc2 t v ht hv
      obtain ⟨ht6, rfl⟩ := rangeL_at (p := 1) hv
      have hone : FreeV (compFm _ _ _ L2 P2 Z2 [Str.ofString "size"]) (Str.ofString "one") (.str (leads.getD i [])) := ic2.of_cell (c := L' + 1) (.head _) rfl (.inl rfl)
      exact Pu.cast (pu_call g2 (pu_gl g2 lc2 .head) (.cons (pu_free g2 hone) (.cons (pu_var g2 lc2 .head) .nil rfl) rfl) (cl_fn g2 (hg6 (e.col (leads.getD i []) (1 + t) (by omega) (by omega)))) kk.2.2.2.2.2.2 rfl rfl rfl) (by rw [Nat.add_comm])
    · rw [rangeL_len]
      show V.lst _ = V.lst (List.map V.int (List.map _ _))
      rw [List.map_map]; rfl
end
end Mine
end

/-! W16 -/
section
open PySem PySem.W PyProof.Rows PySem.Calls
set_option maxRecDepth 100000
set_option autoImplicit false
set_option linter.unusedVariables false
namespace Mine

theorem goJ_le (ls : Nat → Nat → Bool) (i : Nat) : ∀ f j, goJ ls i f j ≤ j + f
  | 0, j => Nat.le_refl _
  | f + 1, j => by
    unfold goJ
    split
    · have := goJ_le ls i f (j + 1); omega
    · omega
section
variable {S : St} {nm : Str} {L fa P : Addr} {cd : Value} {Z₀ : Frz} {a : Ads} {fl : Addr} {A : Around} {n : Nat} {R : Post}
theorem st16 (e : LawEnv S a fl) (g : Good (lawFm S nm L fa cd Z₀) A (n + 6)) (s1 s2 s3 s4 s5 s6 s7 s8 s9 s10 s11 s12 s13 s14 s15 s16 pl : Option V) (leads : List (List Nat)) (t : LO) (hl : leads.length = 5)
    (k : ∀ o1 o2, Ex (lawFm S nm L fa cd Z₀) A [s1, s2, s3, s4, s5, s6, s16, s8, s9, s10, s11, s12, s13, s14, s15, s7, none, none, none, none, none, none, none, none, none, none, none] (cellsL L P pl (some (.lst (vCols leads))) o1 o2 none (some (.lst (vInts (natI (closeN (colLess leads) 5))))) t) (lawB.drop 18) R) :
    Ex (lawFm S nm L fa cd Z₀) A [s1, s2, s3, s4, s5, s6, s16, s8, s9, s10, s11, s12, s13, s14, s15, s7, none, none, none, none, none, none, none, none, none, none, none] (cellsL L P pl (some (.lst (vCols leads))) none none none none t) (lawB.drop 16) R := by
  have lc : Loc (lawFm S nm L fa cd Z₀) nsLaw (glLaw a) := loc_law e
  have hd := g.hd
  have kk := e.kR
  refine s_asnCE g cCl (ev_list .nil (by simp) fun dc => ⟨none, _, .tail (.tail (.tail (.tail (.tail (.tail .head))))), ?_⟩) rfl
  refine Ex.seq (J := fun f G Λ' => f = .next ∧ ∃ o1 o2, Λ' = (dc, .lst (vInts (natI (closeN (colLess leads) 5)))) :: cellsL L P pl (some (.lst (vCols leads))) o1 o2 none (some (.ref dc)) t ∧ G = [s1, s2, s3, s4, s5, s6, s16, s8, s9, s10, s11, s12, s13, s14, s15, s7, none, none, none, none, none, none, none, none, none, none, none]) ?_ ?_
  · refine ex_for (pu_call g (pu_gl g lc .head) (.cons pu_int .nil rfl) cl_range1 rfl rfl rfl rfl) (itb_nats (n := 5) hd (by decide))
      (fun i G Λ' => ∃ o1 o2, Λ' = (dc, .lst (vInts (natI (closeN (colLess leads) i)))) :: cellsL L P pl (some (.lst (vCols leads))) o1 o2 none (some (.ref dc)) t ∧ G = [s1, s2, s3, s4, s5, s6, s16, s8, s9, s10, s11, s12, s13, s14, s15, s7, none, none, none, none, none, none, none, none, none, none, none]) ⟨_, _, rfl, rfl⟩ ?_ ?_ (fun _ => rfl)
    · rintro i G Λ' v hi hv ⟨o1, o2, rfl, rfl⟩
      obtain ⟨hi5, rfl⟩ := natsV_get hv
      refine tgt_cell g cI (.tail (.tail (.tail .head))) ?_
      refine s_asnC (v := .int ((i + 1 : Nat) : Int)) g cJ (Pu.cast (pu_add (pu_cell g cI (.tail _ (.tail _ (.tail _ (.head _))))) pu_int) (by congr 1)) (.tail (.tail (.tail (.tail .head)))) ?_
      refine Ex.seq (J := fun f G Λ' => f = .next ∧ Λ' = (dc, .lst (vInts (natI (closeN (colLess leads) i)))) :: cellsL L P pl (some (.lst (vCols leads))) (some (.int (i : Int))) (some (.int ((closeAt (colLess leads) i : Nat) : Int))) none (some (.ref dc)) t ∧ G = [s1, s2, s3, s4, s5, s6, s16, s8, s9, s10, s11, s12, s13, s14, s15, s7, none, none, none, none, none, none, none, none, none, none, none]) ?_ ?_
      · refine ex_while (fun m G Λ' => ∃ j : Nat, j ≤ 5 ∧ m = 5 - j ∧ goJ (colLess leads) i (5 - j) j = closeAt (colLess leads) i ∧ Λ' = (dc, .lst (vInts (natI (closeN (colLess leads) i)))) :: cellsL L P pl (some (.lst (vCols leads))) (some (.int (i : Int))) (some (.int (j : Int))) none (some (.ref dc)) t ∧ G = [s1, s2, s3, s4, s5, s6, s16, s8, s9, s10, s11, s12, s13, s14, s15, s7, none, none, none, none, none, none, none, none, none, none, none]) (5 - (i + 1)) ⟨i + 1, by omega, rfl, rfl, rfl, rfl⟩ ?_
        rintro m G Λ' ⟨j, hj5, rfl, hgo, rfl, rfl⟩
        by_cases hlt : j < 5
        · have hfuel : 5 - j = (5 - (j + 1)) + 1 := by omega
          refine ⟨colLess leads i j, Tst.cast (ts_bool (ta_and (ts_cmp (pu_cell g cJ (.tail _ (.tail _ (.tail _ (.tail _ (.head _)))))) pu_int cm_lt rfl) (fun _ => ta_and (ts_val (pu_call (v := .bool (colLess leads i j)) g (pu_gl g lc (.tail (.tail (.tail (.tail (.tail (.tail (.tail (.tail (.tail (.tail .head))))))))))) (.cons (Pu.cast (u := .lst (vBools ((List.range 6).map fun t => decide ((colsF (leads.getD i [])).getD t 0 < (colsF (leads.getD j [])).getD t 0)))) (pu_comp1 (f := fun t => .bool (decide ((colsF (leads.getD i [])).getD t 0 < (colsF (leads.getD j [])).getD t 0))) g (pu_call g (pu_gl g lc .head) (.cons pu_int .nil rfl) cl_range1 rfl rfl rfl rfl) (itb_nats (n := 6) hd (by decide)) rfl (fun L P Z₀ => loc_any (gl := []) (relabelN _ lawSc.names) rfl rfl rfl rfl (by decide +kernel) (by decide +kernel) (by intro p hp; cases hp)) (sz40 (by simp [natsV_len])) (by decide +kernel) (fun _ => rfl) ?_) ?_) .nil rfl) (cl_all hd (.inl rfl)) rfl rfl rfl rfl) tr_bool (fun _ => rfl)) (fun _ => ta_and0)))) ?_, fun hb => ?_, fun hb => ?_⟩
          · intro L2 P2 Z2 g2 ic2 lc2 u v hu hv
            obtain ⟨hu6, rfl⟩ := natsV_get hv
            have hcol : FreeV (compFm _ _ _ L2 P2 Z2 [Str.ofString "t"]) (Str.ofString "columns") (.lst (vCols leads)) := ic2.of_cell (c := L + 2) (.tail _ (.tail _ (.head _))) rfl (.inl rfl)
            have hi' : FreeV (compFm _ _ _ L2 P2 Z2 [Str.ofString "t"]) (Str.ofString "i") (.int (i : Int)) := ic2.of_cell (c := L + 3) (.tail _ (.tail _ (.tail _ (.head _)))) rfl (.inl rfl)
            have hj' : FreeV (compFm _ _ _ L2 P2 Z2 [Str.ofString "t"]) (Str.ofString "j") (.int (j : Int)) := ic2.of_cell (c := L + 4) (.tail _ (.tail _ (.tail _ (.tail _ (.head _))))) rfl (.inl rfl)
            have row : ∀ {G Λ} {q : Nat} {x : Str} {p1 p2 p3 p4 p5 : Pos}, q < 5 → FreeV (compFm _ _ _ L2 P2 Z2 [Str.ofString "t"]) x (.int (q : Int)) → Pu _ A G Λ (.Name (Str.ofString "t") p4) (.int (u : Int)) → Pu _ A G Λ (.Subscript (.Subscript (.Name (Str.ofString "columns") p1) (.Name x p2) p3) (.Name (Str.ofString "t") p4) p5) (.int ((colsF (leads.getD q [])).getD u 0)) :=
              fun {G Λ q x p1 p2 p3 p4 p5} hq hf ht => pu_item (pu_item (pu_free g2 hcol) (pu_free g2 hf) (itm_lst (k := q) (.inl rfl) (by rw [vCols_len, hl]; exact seqIndex_pos hq) (vCols_get (by omega)) (by omega) (by omega))) ht (itm_lst (k := u) (.inl rfl) (by rw [vInts_len, colsF_len]; exact seqIndex_pos hu6) (vInts_get (by rw [colsF_len]; exact hu6)) (by omega) (by omega))
            exact pu_cmp (row hi5 hi' (pu_var g2 lc2 .head)) (row hlt hj' (pu_var g2 lc2 .head)) cm_lt rfl
          · rw [natsV_len]
            show V.lst _ = V.lst (List.map V.bool (List.map _ _))
            rw [List.map_map]; rfl
          · rw [decide_eq_true (by omega : (j : Int) < 5)]; simp
          · refine s_augC g cJ (.tail _ (.tail _ (.tail _ (.tail _ (.head _))))) pu_int inp_add (.tail (.tail (.tail (.tail .head)))) (ex_nil ⟨5 - (j + 1), by omega, j + 1, hlt, rfl, ?_, rfl, rfl⟩)
            rw [← hgo, hfuel]
            conv => rhs; unfold goJ
            rw [if_pos hb]
          · refine ⟨rfl, ?_, rfl⟩
            have : j = closeAt (colLess leads) i := by
              rw [← hgo, hfuel]
              unfold goJ
              rw [if_neg (by rw [hb]; decide)]
            rw [← this]
        · have hj : j = 5 := by omega
          subst hj
          refine ⟨false, Tst.cast (ts_bool (ta_and (d := true) (ts_cmp (pu_cell g cJ (.tail _ (.tail _ (.tail _ (.tail _ (.head _)))))) pu_int cm_lt rfl) (fun h => absurd h (by decide)))) rfl, (fun h => by cases h), fun _ => ⟨rfl, ?_, rfl⟩⟩
          have : (5 : Nat) = closeAt (colLess leads) i := hgo
          rw [← this]
      · rintro f G Λ' ⟨rfl, rfl, rfl⟩
        refine s_expr (ev_append (v := .int ((closeAt (colLess leads) i : Nat) : Int)) (pu_cell g cCl (.tail _ (.tail _ (.tail _ (.tail _ (.tail _ (.tail _ (.head _)))))))) (pu_cell g cJ (.tail _ (.tail _ (.tail _ (.tail _ (.head _)))))) .head (sz1000 (by rw [vInts_len, natI_len, closeN_len]; omega)) ?_ rfl) (notInter g.fk) rfl
        refine ex_nil ⟨some (.int (i : Int)), some (.int ((closeAt (colLess leads) i : Nat) : Int)), ?_, rfl⟩
        rw [closeN_succ]
        simp [natI, vInts]
    · rintro G Λ' ⟨o1, o2, rfl, rfl⟩
      exact ⟨rfl, _, _, rfl, rfl⟩
  · rintro f G Λ' ⟨rfl, o1, o2, rfl, rfl⟩
    exact ex_meltC (.tail (.tail (.tail (.tail (.tail .head))))) (k o1 o2)
end
end Mine
end

/-! W17 -/
section
open PySem PySem.W PyProof.Rows PySem.Calls
set_option maxRecDepth 100000
set_option autoImplicit false
set_option linter.unusedVariables false
namespace Mine

def keyC (cs : List Nat) (i : Nat) : Int × Int := (((cs.getD i 0 : Nat) : Int), -(i : Int))
def expF (tot : Nat) (cs order : List Nat) : List Int := order.map fun i => if cs.getD i 0 > i + 1 then 256 + ((placeAt tot i : Nat) : Int) else 255 - ((placeAt tot i : Nat) : Int)
def openF (tot : Nat) : List Nat := (List.range 5).map fun i => 97 + placeAt tot i
theorem flat_sing {α : Type} (l : List α) (f : α → Nat) : (l.map fun c => [f c]).flatten = l.map f := by
  induction l with
  | nil => rfl
  | cons c l ih => simp [ih]
section
variable {S : St} {nm : Str} {L fa P : Addr} {Z₀ : Frz} {a : Ads} {fl : Addr} {A : Around} {n : Nat} {R : Post}
theorem st18 {c0 : Addr} (e : LawEnv S a fl) (g : Good (lawFm S nm L fa (.ref c0) Z₀) A (n + 3)) (hC : CodeHd S.h₀ c0 P) (s1 s2 s3 s4 s5 s6 s7 s8 s9 s10 s11 s12 s13 s14 s15 s16 pl co o1 o2 : Option V) (cs order : List Nat) (hl : cs.length = 5)
    (hok : krunOk (kLt (keyC cs)) 5 (kas_sort 5) = true) (hord : (krun (kLt (keyC cs)) (kas_sort 5)).toList = order) (hlt : ∀ i ∈ order, i < 5)
    (k : ∀ ps, Ex (lawFm S nm L fa (.ref c0) Z₀) A [s1, s2, s3, s4, s5, s6, s16, s8, s9, s10, s11, s12, s13, s14, s15, s7, some (.lst (vInts (natI order))), none, none, none, none, none, none, none, none, none, none] (cellsL L P pl co o1 o2 none (some (.lst (vInts (natI cs)))) (.exact (tabObj ps))) (lawB.drop 19) R) :
    Ex (lawFm S nm L fa (.ref c0) Z₀) A [s1, s2, s3, s4, s5, s6, s16, s8, s9, s10, s11, s12, s13, s14, s15, s7, none, none, none, none, none, none, none, none, none, none, none] (cellsL L P pl co o1 o2 none (some (.lst (vInts (natI cs)))) (.exact (tabObj #[]))) (lawB.drop 18) R := by
  have lc : Loc (lawFm S nm L fa (.ref c0) Z₀) nsLaw (glLaw a) := loc_law e
  refine s_asnE g lc (ev_sortKey (m := 5) (key := keyC cs) (upd := fun q => cellsL L P pl co o1 o2 none (some (.lst (vInts (natI cs)))) q) (nm := Str.ofString "i") g (pu_gl g lc (.tail (.tail (.tail (.tail (.tail (.tail (.tail (.tail (.tail (.tail (.tail .head)))))))))))) (pu_call g (pu_gl g lc .head) (.cons pu_int .nil rfl) cl_range1 rfl rfl rfl rfl) (by decide) (by decide) (by decide +kernel) (by decide +kernel) hok rfl rfl hC (fun q => .tail (.tail (.tail (.tail (.tail (.tail .head)))))) rfl rfl (fun _ _ _ _ => rfl) rfl (by decide +kernel) rfl rfl rfl
    (fun S' L' f c' Pf Z₁ A' g' ic i hi => ?_) hord hlt (fun d ps => ⟨_, (.tail (.tail (.tail (.tail (.tail (.tail (.tail (.tail (.tail (.tail (.tail (.tail (.tail (.tail (.tail (.tail .head)))))))))))))))), ex_melt (.keep (.keep (.keep (.keep (.keep (.keep (.keep (.keep (.keep (.keep (.keep (.keep (.keep (.keep (.keep (.keep (.here (.keep (.keep (.keep (.keep (.keep (.keep (.keep (.keep (.keep (.keep .nil))))))))))))))))))))))))))) (k ps)⟩) rfl rfl) rfl
  have lcl := loc_anyG (ns := [Str.ofString "i"]) (gl := []) g' [(Str.ofString "i", .local), (Str.ofString "close", .free)] rfl rfl rfl rfl (by decide +kernel) (by decide +kernel) (by intro p hp; cases hp)
  have hcl : FreeV (lamFm S' _ _ L' f c' _ Pf Z₁ [Str.ofString "i"]) (Str.ofString "close") (.lst (vInts (natI cs))) := ic.of_cell (c := L + 6) (.tail _ (.tail _ (.tail _ (.tail _ (.tail _ (.head _)))))) rfl (.inr rfl)
  exact pu_tup (.cons (Pu.cast (pu_item (pu_free g' hcl) (pu_var g' lcl .head) (itm_lst (k := i) (.inl rfl) (by rw [vInts_len, natI_len, hl]; exact seqIndex_pos hi) (vInts_get (by rw [natI_len, hl]; exact hi)) (by omega) (by omega))) (by rw [natI_get]; rfl)) (.cons (pu_neg (pu_var g' lcl .head)) .nil rfl) rfl) (sz40 (by simp))
theorem st19 {cd : Value} (e : LawEnv S a fl) (g : Good (lawFm S nm L fa cd Z₀) A (n + 1)) (s1 s2 s3 s4 s5 s6 s7 s8 s9 s10 s11 s12 s13 s15 s16 co o1 o2 : Option V) (t : LO) (tot : Nat) (cs order : List Nat) (shut : List Int) (hl : cs.length = 5) (hlt : ∀ i ∈ order, i < 5) (hol : order.length ≤ 900) (hsh : shut = expF tot cs order)
    (k : Ex (lawFm S nm L fa cd Z₀) A [s1, s2, s3, s4, s5, s6, s16, s8, s9, s10, s11, s12, s13, some (.lst (vInts shut)), s15, s7, some (.lst (vInts (natI order))), some (.str (openF tot)), none, none, none, none, none, none, none, none, none] (cellsL L P (some (.lst (vInts (placesF tot 5)))) co o1 o2 none (some (.lst (vInts (natI cs)))) t) (lawB.drop 21) R) :
    Ex (lawFm S nm L fa cd Z₀) A [s1, s2, s3, s4, s5, s6, s16, s8, s9, s10, s11, s12, s13, some (.lst (vInts shut)), s15, s7, some (.lst (vInts (natI order))), none, none, none, none, none, none, none, none, none, none] (cellsL L P (some (.lst (vInts (placesF tot 5)))) co o1 o2 none (some (.lst (vInts (natI cs)))) t) (lawB.drop 19) R := by
  have lc : Loc (lawFm S nm L fa cd Z₀) nsLaw (glLaw a) := loc_law e
  have hd := g.hd
  refine s_if (b := false) (Tst.cast (ts_cmp (pu_var g lc (.tail (.tail (.tail (.tail (.tail (.tail (.tail (.tail (.tail (.tail (.tail (.tail (.tail .head)))))))))))))) (Pu.cast (u := .lst (vInts (expF tot cs order))) (pu_comp1 (f := fun q => .int (if cs.getD (order.getD q 0) 0 > order.getD q 0 + 1 then 256 + ((placeAt tot (order.getD q 0) : Nat) : Int) else 255 - ((placeAt tot (order.getD q 0) : Nat) : Int))) g (pu_var g lc (.tail (.tail (.tail (.tail (.tail (.tail (.tail (.tail (.tail (.tail (.tail (.tail (.tail (.tail (.tail (.tail .head))))))))))))))))) (itb_lst hd) rfl (fun L P Z₀ => loc_any (gl := []) (relabelN _ lawSc.names) rfl rfl rfl rfl (by decide +kernel) (by decide +kernel) (by intro p hp; cases hp)) (sz1000 (by rw [vInts_len, natI_len]; omega)) (by decide +kernel) (fun _ => rfl) ?_) ?_) (cm_neL g (.inl rfl) (.inl rfl)) rfl) (by rw [hsh]; simp)) (fun h => by cases h) (fun _ => ex_nil ?_)
  · intro L2 P2 Z2 g2 ic2 lc2 q v hq hv
    rw [vInts_len, natI_len] at hq
    rw [vInts_get (by rw [natI_len]; exact hq), natI_get] at hv; cases hv
    have hi5 := hlt (order.getD q 0) (by rw [List.getD_eq_getElem?_getD, List.getElem?_eq_getElem hq]; exact List.getElem_mem _)
    generalize order.getD q 0 = i at *
    have hcl : FreeV (compFm _ _ _ L2 P2 Z2 [Str.ofString "i"]) (Str.ofString "close") (.lst (vInts (natI cs))) := ic2.of_cell (c := L + 6) (.tail _ (.tail _ (.tail _ (.tail _ (.tail _ (.head _)))))) rfl (.inl rfl)
    have hpl : FreeV (compFm _ _ _ L2 P2 Z2 [Str.ofString "i"]) (Str.ofString "places") (.lst (vInts (placesF tot 5))) := ic2.of_cell (c := L + 1) (.head _) rfl (.inl rfl)
    have pat : ∀ {G Λ} {p1 p2 p3 : Pos}, Pu _ A G Λ (.Name (Str.ofString "i") p2) (.int (i : Int)) → Pu _ A G Λ (.Subscript (.Name (Str.ofString "places") p1) (.Name (Str.ofString "i") p2) p3) (.int ((placeAt tot i : Nat) : Int)) := fun hi => pu_item (pu_free g2 hpl) hi (itm_lst (k := i) (.inl rfl) (by rw [vInts_len, placesF_len]; exact seqIndex_pos hi5) (by rw [vInts_get (by rw [placesF_len]; exact hi5), placesF_get hi5]) (by omega) (by omega))
    refine Pu.cast (pu_ifexp (ts_cmp (pu_item (pu_free g2 hcl) (pu_var g2 lc2 .head) (itm_lst (k := i) (.inl rfl) (by rw [vInts_len, natI_len, hl]; exact seqIndex_pos hi5) (vInts_get (by rw [natI_len, hl]; exact hi5)) (by omega) (by omega))) (pu_add (pu_var g2 lc2 .head) pu_int) cm_gt rfl) (fun _ => pu_add pu_int (pat (pu_var g2 lc2 .head))) (fun _ => pu_sub pu_int (pat (pu_var g2 lc2 .head)))) ?_
    rw [natI_get]
    by_cases h : cs.getD i 0 > i + 1
    · rw [if_pos (by simp only [decide_eq_true_eq]; omega), if_pos h]
    · rw [if_neg (by simp only [decide_eq_true_eq]; omega), if_neg h]
  · rw [vInts_len, natI_len]
    show V.lst _ = V.lst (List.map V.int (List.map _ order))
    rw [List.map_map, ← map_range order 0 (V.int ∘ _)]; rfl
  · refine s_asn g lc (Pu.cast (u := .str (openF tot)) (pu_join (ls := (List.range 5).map fun i => [97 + placeAt tot i]) (Pu.cast (u := .str []) pu_str rfl) (Pu.cast (u := .lst (vStrs ((List.range 5).map fun i => [97 + placeAt tot i]))) (pu_comp1 (f := fun i => .str [97 + placeAt tot i]) g (pu_cell g cPl (.head _)) (itb_lst hd) rfl (fun L P Z₀ => loc_any (gl := [(Str.ofString "chr", .builtin "chr")]) (relabelN _ lawSc.names) rfl rfl rfl rfl (by decide +kernel) (by decide +kernel) (by intro p hp; rw [List.mem_singleton.mp hp]; exact e.glob _ (GlAt.mem (.tail (.tail (.tail (.tail (.tail (.tail .head))))))))) (sz40 (by rw [vInts_len, placesF_len]; omega)) (by decide +kernel) (fun _ => rfl) ?_) ?_) (sz40 (by rw [flat_sing]; simp)) rfl rfl) (by rw [flat_sing]; rfl)) (.tail (.tail (.tail (.tail (.tail (.tail (.tail (.tail (.tail (.tail (.tail (.tail (.tail (.tail (.tail (.tail (.tail .head))))))))))))))))) k rfl
    · intro L2 P2 Z2 g2 ic2 lc2 i v hi hv
      rw [vInts_len, placesF_len] at hi
      rw [vInts_get (by rw [placesF_len]; exact hi), placesF_get hi] at hv; cases hv
      have := placeAt_lt tot i
      exact pu_call g2 (pu_gl g2 lc2 .head) (.cons (pu_add pu_int (pu_var g2 lc2 .head)) .nil rfl) (cl_chr (m := 97 + placeAt tot i) (by omega) (by omega)) rfl rfl rfl rfl
    · rw [vInts_len, placesF_len]
      show V.lst _ = V.lst (List.map V.str (List.map _ _))
      rw [List.map_map]; rfl
end
end Mine
end

/-! W18 -/
section
open PySem PySem.W PyProof.Rows PySem.Calls
set_option maxRecDepth 100000
set_option autoImplicit false
set_option linter.unusedVariables false
namespace Mine

def signF (x : Int) : Nat := if x < 256 then (352 - x).toNat else (x - 191).toNat
def leavesF (shut : List Int) : List Nat := (shut.filter fun x => decide (x < 256)).map fun x => (352 - x).toNat
def aheadAt (cs : List Nat) (i : Nat) : Nat := ((List.range i).filter fun j => decide (cs.getD j 0 ≤ i)).length
def aheadF (cs : List Nat) : List Int := (List.range 5).map fun i => ((aheadAt cs i : Nat) : Int)
def deepF (cs : List Nat) : List Int := (List.range 5).map fun i => ((cs.getD i 0 : Nat) : Int) - i - 1 - (i - ((aheadAt cs i : Nat) : Int))
def wideF (cs : List Nat) : List Int := (List.range 5).map fun i => 5 - ((cs.getD i 0 : Nat) : Int) - ((aheadAt cs i : Nat) : Int)
theorem filter_range {α β : Type} (l : List α) (d : α) (p : α → Bool) (f : α → β) : ((List.range l.length).filter fun i => p (l.getD i d)).map (fun i => f (l.getD i d)) = (l.filter p).map f := by
  have h : l = (List.range l.length).map fun i => l.getD i d := by
    have := map_range l d (fun x => x); simpa using this.symm
  conv => rhs; rw [h]
  rw [List.filter_map, List.map_map]
  rfl
section
variable {S : St} {nm : Str} {L fa P : Addr} {cd : Value} {Z₀ : Frz} {a : Ads} {fl : Addr} {A : Around} {n : Nat} {R : Post}
theorem st21 (e : LawEnv S a fl) (g : Good (lawFm S nm L fa cd Z₀) A (n + 6)) (s1 s2 s3 s4 s5 s6 s7 s8 s9 s10 s11 s12 s13 s15 s16 s17 s18 : Option V) (Λ : Led) (shut : List Int) (hl : shut.length ≤ 40) (hb : ∀ x ∈ shut, 230 ≤ x ∧ x ≤ 300)
    (k : ∀ o, Ex (lawFm S nm L fa cd Z₀) A [s1, s2, s3, s4, o, s6, s16, s8, s9, s10, s11, s12, s13, some (.lst (vInts shut)), s15, s7, s17, s18, some (.str (shut.map signF)), none, none, none, none, none, none, none, none] Λ (lawB.drop 23) R) :
    Ex (lawFm S nm L fa cd Z₀) A [s1, s2, s3, s4, s5, s6, s16, s8, s9, s10, s11, s12, s13, some (.lst (vInts shut)), s15, s7, s17, s18, none, none, none, none, none, none, none, none, none] Λ (lawB.drop 21) R := by
  have lc : Loc (lawFm S nm L fa cd Z₀) nsLaw (glLaw a) := loc_law e
  have hd := g.hd
  have kk := e.kR
  have hg6 : ∀ {f : Addr} {vs : List V} {v : V}, Fn S f 6 vs v → Fn S f (n + 6) vs v := fun h => h.less (by omega)
  refine s_asn g lc (Pu.cast (u := .str []) pu_str rfl) (.tail (.tail (.tail (.tail (.tail (.tail (.tail (.tail (.tail (.tail (.tail (.tail (.tail (.tail (.tail (.tail (.tail (.tail .head)))))))))))))))))) ?_ rfl
  refine Ex.seq (J := fun f G Λ' => f = .next ∧ ∃ o, Λ' = Λ ∧ G = [s1, s2, s3, s4, o, s6, s16, s8, s9, s10, s11, s12, s13, some (.lst (vInts shut)), s15, s7, s17, s18, some (.str (shut.map signF)), none, none, none, none, none, none, none, none]) ?_ ?_
  · refine ex_for (pu_var g lc (.tail (.tail (.tail (.tail (.tail (.tail (.tail (.tail (.tail (.tail (.tail (.tail (.tail .head)))))))))))))) (itb_lst hd)
      (fun j G Λ' => ∃ o, Λ' = Λ ∧ G = [s1, s2, s3, s4, o, s6, s16, s8, s9, s10, s11, s12, s13, some (.lst (vInts shut)), s15, s7, s17, s18, some (.str ((shut.take j).map signF)), none, none, none, none, none, none, none, none]) ⟨_, rfl, rfl⟩ ?_ ?_ (fun _ => rfl)
    · rintro j G Λ' v hj hv ⟨o, rfl, rfl⟩
      rw [vInts_len] at hj
      rw [vInts_get hj] at hv; cases hv
      have hbx := hb (shut.getD j 0) (by rw [List.getD_eq_getElem?_getD, List.getElem?_eq_getElem hj]; exact List.getElem_mem _)
      have htake : shut.take (j + 1) = shut.take j ++ [shut.getD j 0] := by
        rw [List.take_add_one, List.getD_eq_getElem?_getD, List.getElem?_eq_getElem hj]; rfl
      rw [htake, List.map_append]
      generalize shut.getD j 0 = x at *
      have htl : ((shut.take j).map signF).length ≤ 40 := by rw [List.length_map, List.length_take]; omega
      refine tgt_loc g lc (.tail (.tail (.tail (.tail .head)))) ?_
      have ter : ∀ {G Λ} {p1 p2 p3 : Pos}, Pu (lawFm S nm L fa cd Z₀) A G Λ (.Name (Str.ofString "ISTERMINAL") p1) (.val (.ref a.ter)) → Pu (lawFm S nm L fa cd Z₀) A G Λ (.Name (Str.ofString "x") p2) (.int x) → Pu (lawFm S nm L fa cd Z₀) A G Λ (.Call (.Name (Str.ofString "ISTERMINAL") p1) [.Name (Str.ofString "x") p2] [] p3) (.bool (decide (x < 256))) := fun h0 h1 => pu_call g h0 (.cons h1 .nil rfl) (cl_fn g (hg6 (e.ter x))) kk.2.2.1 rfl rfl rfl
      refine s_if (b := false) (Tst.cast (ts_cmp (ter (pu_gl g lc (.tail (.tail (.tail (.tail (.tail (.tail (.tail (.tail .head))))))))) (pu_var g lc (.tail (.tail (.tail (.tail .head)))))) (pu_call g (pu_gl g lc (.tail (.tail (.tail (.tail (.tail (.tail (.tail (.tail (.tail (.tail (.tail (.tail .head))))))))))))) (.cons (pu_var g lc (.tail (.tail (.tail (.tail .head))))) .nil rfl) (cl_fn g (hg6 (e.non x))) kk.2.2.2.1 rfl rfl rfl) cm_eqb rfl) (by by_cases h : x < 256 <;> simp [h] <;> omega)) (fun h => by cases h) (fun _ => ex_nil ?_)
      refine s_aug g lc (.tail (.tail (.tail (.tail (.tail (.tail (.tail (.tail (.tail (.tail (.tail (.tail (.tail (.tail (.tail (.tail (.tail (.tail .head)))))))))))))))))) (Pu.cast (u := .str [signF x]) (pu_ifexp (ts_val (ter (pu_gl g lc (.tail (.tail (.tail (.tail (.tail (.tail (.tail (.tail .head))))))))) (pu_var g lc (.tail (.tail (.tail (.tail .head)))))) tr_bool (fun _ => rfl)) (fun h => pu_call g (pu_gl g lc (.tail (.tail (.tail (.tail (.tail (.tail .head))))))) (.cons (pu_sub pu_int (pu_var g lc (.tail (.tail (.tail (.tail .head)))))) .nil rfl) (cl_chr (m := (352 - x).toNat) (by omega) (by omega)) rfl rfl rfl rfl) (fun h => pu_call g (pu_gl g lc (.tail (.tail (.tail (.tail (.tail (.tail .head))))))) (.cons (pu_sub (pu_var g lc (.tail (.tail (.tail (.tail .head))))) pu_int) .nil rfl) (cl_chr (m := (x - 191).toNat) (by omega) (by omega)) rfl rfl rfl rfl)) ?_) (inp_cat (sz1000 (by simp only [List.length_cons, List.length_nil]; omega))) (.tail (.tail (.tail (.tail (.tail (.tail (.tail (.tail (.tail (.tail (.tail (.tail (.tail (.tail (.tail (.tail (.tail (.tail .head)))))))))))))))))) (ex_nil ⟨_, rfl, rfl⟩)
      unfold signF
      by_cases h : x < 256
      · rw [if_pos (by simpa using h), if_pos h]
      · rw [if_neg (by simpa using h), if_neg h]
    · rintro G Λ' ⟨o, rfl, rfl⟩
      rw [vInts_len, List.take_length]
      exact ⟨rfl, o, rfl, rfl⟩
  · rintro f G Λ' ⟨rfl, o, rfl, rfl⟩
    exact k o
theorem st23 (e : LawEnv S a fl) (g : Good (lawFm S nm L fa cd Z₀) A n) (s1 s2 s3 s4 s5 s7 s8 s9 s10 s11 s12 s13 s14 s15 s16 s17 s18 s19 pl co o1 o2 : Option V) (t : LO) (tot : Nat) (cs : List Nat) (hl : cs.length = 5)
    (k : Ex (lawFm S nm L fa cd Z₀) A [s1, s2, s3, s4, s5, some (.int tot), s16, s8, s9, s10, s11, s12, s13, s14, s15, s7, s17, s18, s19, some (.lst (vInts (deepF cs))), some (.lst (vInts (wideF cs))), some (.int ((tot : Int) % 12 - 1)), none, none, none, none, none] (cellsL L P pl co o1 o2 (some (.lst (vInts (aheadF cs)))) (some (.lst (vInts (natI cs)))) t) (lawB.drop 27) R) :
    Ex (lawFm S nm L fa cd Z₀) A [s1, s2, s3, s4, s5, some (.int tot), s16, s8, s9, s10, s11, s12, s13, s14, s15, s7, s17, s18, s19, none, none, none, none, none, none, none, none] (cellsL L P pl co o1 o2 none (some (.lst (vInts (natI cs)))) t) (lawB.drop 23) R := by
  have lc : Loc (lawFm S nm L fa cd Z₀) nsLaw (glLaw a) := loc_law e
  have hd := g.hd
  refine s_asnC (v := .lst (vInts (aheadF cs))) g cAh (Pu.cast (pu_comp (p := fun _ => true) (f := fun i => .int ((aheadAt cs i : Nat) : Int)) (ns' := []) (J := fun L G Λ => G = [] ∧ ∃ v, Λ = [(L + 1, .cell v)]) g (pu_call g (pu_gl g lc .head) (.cons pu_int .nil rfl) cl_range1 rfl rfl rfl rfl) (itb_nats (n := 5) hd (by decide))
      { clos := rfl, kind := rfl, names := by decide +kernel, nodup := List.Pairwise.nil, h0 := fun L => ⟨rfl, none, rfl⟩, len := sz40 (by simp [natsV_len]), go := fun _ _ => rfl, turn := ?turn }) rfl) (.tail (.tail (.tail (.tail .head)))) ?_
  case turn =>
    rintro L' P' Z' g' ic i G Λ v hi hv ⟨rfl, vo, rfl⟩
    obtain ⟨hi5, rfl⟩ := natsV_get hv
    have lc' := loc_anyG (ns := []) (gl := [(Str.ofString "range", .type "range"), (Str.ofString "len", .builtin "len")]) g' (relabelN _ lawSc.names) rfl rfl rfl rfl (by decide +kernel) (by decide +kernel) (by
      intro p hp
      simp only [List.mem_cons, List.not_mem_nil, or_false] at hp
      rcases hp with rfl | rfl
      · exact e.glob _ (GlAt.mem .head)
      · exact e.glob _ (GlAt.mem (.tail (.tail .head))))
    have hclo : FreeV (compFm _ _ _ L' P' Z' []) (Str.ofString "close") (.lst (vInts (natI cs))) := ic.of_cell (c := L + 6) (.tail _ (.tail _ (.tail _ (.tail _ (.tail _ (.head _)))))) rfl (.inl rfl)
    refine tgt_cell g' (c := L' + 1) ⟨rfl, rfl, rfl⟩ .head ⟨rfl, fun _ => Pu.ev (Pu.cast (pu_call g' (pu_gl g' lc' (.tail .head)) (.cons (pu_comp (p := fun j => decide (cs.getD j 0 ≤ i)) (f := fun j => .int (j : Int)) (ns' := [Str.ofString "j"]) (J := fun L G Λ => ∃ o, G = [o] ∧ Λ = []) g' (pu_call g' (pu_gl g' lc' .head) (.cons (pu_cell g' (c := L' + 1) ⟨rfl, rfl, rfl⟩ (.head _)) .nil rfl) cl_range1 rfl rfl rfl rfl) (itb_nats (n := i) g'.hd (by omega))
      { clos := rfl, kind := rfl, names := by decide +kernel, nodup := List.nodup_cons.mpr ⟨List.not_mem_nil, List.Pairwise.nil⟩, h0 := fun L => ⟨none, rfl, rfl⟩, len := sz40 (by rw [natsV_len]; omega), go := fun _ _ => rfl, turn := ?turn2 }) .nil rfl) (cl_lenL (.inl rfl) (sz40 (by rw [List.length_map]; exact Nat.le_trans (List.length_filter_le _ _) (by rw [List.length_range, natsV_len]; omega)))) rfl rfl rfl rfl) (by rw [List.length_map, natsV_len]; rfl)) ⟨rfl, rfl, _, rfl⟩, fun h => by cases h⟩
    rintro L2 P2 Z2 g2 ic2 j G Λ v hj hv ⟨o, rfl, rfl⟩
    obtain ⟨hji, rfl⟩ := natsV_get hv
    have lc2 := loc_anyG (ns := [Str.ofString "j"]) (gl := []) g2 (relabelN _ (relabelN _ lawSc.names)) rfl rfl rfl rfl (by decide +kernel) (by decide +kernel) (by intro p hp; cases hp)
    have hi2 : FreeV (compFm _ _ _ L2 P2 Z2 [Str.ofString "j"]) (Str.ofString "i") (.int (i : Int)) := ic2.of_cell (c := L' + 1) (.head _) rfl (.inl rfl)
    obtain ⟨c, ob, y, hcl, hp, hda, hy⟩ := hclo.cell
    have hc2 : FreeV (compFm _ _ _ L2 P2 Z2 [Str.ofString "j"]) (Str.ofString "close") (.lst (vInts (natI cs))) := ic2.of_free (c := L + 6) (by cases hcl; exact hp) hda hy rfl (.inl rfl)
    refine tgt_loc g2 lc2 .head ⟨?_, fun _ => (pu_var g2 lc2 .head).ev ⟨rfl, _, rfl, rfl⟩, fun _ => ⟨_, rfl, rfl⟩⟩
    exact Tst.cast (ts_cmp (pu_item (pu_free g2 hc2) (pu_var g2 lc2 .head) (itm_lst (k := j) (.inl rfl) (by rw [vInts_len, natI_len, hl]; exact seqIndex_pos (by omega)) (vInts_get (by rw [natI_len, hl]; omega)) (by omega) (by omega))) (pu_free g2 hi2) cm_le rfl) (by rw [natI_get]; by_cases h : cs.getD j 0 ≤ i <;> simp [h] <;> omega)
  · have hcg : ∀ {Fx : Fm} {G Λ} {i : Nat} {p1 p2 p3 : Pos}, i < 5 → Pu Fx A G Λ (.Name (Str.ofString "close") p1) (.lst (vInts (natI cs))) → Pu Fx A G Λ (.Name (Str.ofString "i") p2) (.int (i : Int)) → Pu Fx A G Λ (.Subscript (.Name (Str.ofString "close") p1) (.Name (Str.ofString "i") p2) p3) (.int ((cs.getD i 0 : Nat) : Int)) := fun hi h1 h2 => Pu.cast (pu_item h1 h2 (itm_lst (k := _) (.inl rfl) (by rw [vInts_len, natI_len, hl]; exact seqIndex_pos hi) (vInts_get (by rw [natI_len, hl]; exact hi)) (by omega) (by omega))) (by rw [natI_get])
    have hag : ∀ {Fx : Fm} {G Λ} {i : Nat} {p1 p2 p3 : Pos}, i < 5 → Pu Fx A G Λ (.Name (Str.ofString "ahead") p1) (.lst (vInts (aheadF cs))) → Pu Fx A G Λ (.Name (Str.ofString "i") p2) (.int (i : Int)) → Pu Fx A G Λ (.Subscript (.Name (Str.ofString "ahead") p1) (.Name (Str.ofString "i") p2) p3) (.int ((aheadAt cs i : Nat) : Int)) := fun {Fx G Λ i p1 p2 p3} hi h1 h2 => Pu.cast (pu_item h1 h2 (itm_lst (k := i) (.inl rfl) (by rw [vInts_len]; simp only [aheadF, List.length_map, List.length_range]; exact seqIndex_pos hi) (vInts_get (by simp only [aheadF, List.length_map, List.length_range]; exact hi)) (by omega) (by omega))) (by simp [aheadF, hi])
    refine s_asnComp g lc (pu_call g (pu_gl g lc .head) (.cons pu_int .nil rfl) cl_range1 rfl rfl rfl rfl) (itb_nats (n := 5) hd (by decide)) (compOk1 (f := fun i => .int (((cs.getD i 0 : Nat) : Int) - i - 1 - (i - ((aheadAt cs i : Nat) : Int)))) rfl (fun L P Z₀ => loc_any (gl := []) (relabelN _ lawSc.names) rfl rfl rfl rfl (by decide +kernel) (by decide +kernel) (by intro p hp; cases hp)) (sz40 (by simp [natsV_len])) (by decide +kernel) (fun _ => rfl) ?_) (.tail (.tail (.tail (.tail (.tail (.tail (.tail (.tail (.tail (.tail (.tail (.tail (.tail (.tail (.tail (.tail (.tail (.tail (.tail .head))))))))))))))))))) ?_ rfl
    · intro L2 P2 Z2 g2 ic2 lc2 i v hi hv
      obtain ⟨hi5, rfl⟩ := natsV_get hv
      have hcl : FreeV (compFm _ _ _ L2 P2 Z2 [Str.ofString "i"]) (Str.ofString "close") (.lst (vInts (natI cs))) := ic2.of_cell (c := L + 6) (.tail _ (.tail _ (.tail _ (.tail _ (.tail _ (.head _)))))) rfl (.inl rfl)
      have hah : FreeV (compFm _ _ _ L2 P2 Z2 [Str.ofString "i"]) (Str.ofString "ahead") (.lst (vInts (aheadF cs))) := ic2.of_cell (c := L + 5) (.tail _ (.tail _ (.tail _ (.tail _ (.head _))))) rfl (.inl rfl)
      exact pu_sub (pu_sub (pu_sub (hcg hi5 (pu_free g2 hcl) (pu_var g2 lc2 .head)) (pu_var g2 lc2 .head)) pu_int) (pu_sub (pu_var g2 lc2 .head) (hag hi5 (pu_free g2 hah) (pu_var g2 lc2 .head)))
    refine s_asnComp g lc (pu_call g (pu_gl g lc .head) (.cons pu_int .nil rfl) cl_range1 rfl rfl rfl rfl) (itb_nats (n := 5) hd (by decide)) (compOk1 (f := fun i => .int (5 - ((cs.getD i 0 : Nat) : Int) - ((aheadAt cs i : Nat) : Int))) rfl (fun L P Z₀ => loc_any (gl := []) (relabelN _ lawSc.names) rfl rfl rfl rfl (by decide +kernel) (by decide +kernel) (by intro p hp; cases hp)) (sz40 (by simp [natsV_len])) (by decide +kernel) (fun _ => rfl) ?_) (.tail (.tail (.tail (.tail (.tail (.tail (.tail (.tail (.tail (.tail (.tail (.tail (.tail (.tail (.tail (.tail (.tail (.tail (.tail (.tail .head)))))))))))))))))))) ?_ rfl
    · intro L2 P2 Z2 g2 ic2 lc2 i v hi hv
      obtain ⟨hi5, rfl⟩ := natsV_get hv
      have hcl : FreeV (compFm _ _ _ L2 P2 Z2 [Str.ofString "i"]) (Str.ofString "close") (.lst (vInts (natI cs))) := ic2.of_cell (c := L + 6) (.tail _ (.tail _ (.tail _ (.tail _ (.tail _ (.head _)))))) rfl (.inl rfl)
      have hah : FreeV (compFm _ _ _ L2 P2 Z2 [Str.ofString "i"]) (Str.ofString "ahead") (.lst (vInts (aheadF cs))) := ic2.of_cell (c := L + 5) (.tail _ (.tail _ (.tail _ (.tail _ (.head _))))) rfl (.inl rfl)
      exact pu_sub (pu_sub pu_int (hcg hi5 (pu_free g2 hcl) (pu_var g2 lc2 .head))) (hag hi5 (pu_free g2 hah) (pu_var g2 lc2 .head))
    exact s_asn g lc (pu_sub (pu_mod g (pu_var g lc (.tail (.tail (.tail (.tail (.tail .head)))))) pu_int (by decide)) pu_int) (.tail (.tail (.tail (.tail (.tail (.tail (.tail (.tail (.tail (.tail (.tail (.tail (.tail (.tail (.tail (.tail (.tail (.tail (.tail (.tail (.tail .head))))))))))))))))))))) k rfl
end
end Mine
end

/-! W19 -/
section
open PySem PySem.W PyProof.Rows PySem.Calls
set_option maxRecDepth 100000
set_option autoImplicit false
set_option linter.unusedVariables false
namespace Mine

def vTrip (l : List (List Nat × Int)) : List V := l.map fun p => .tup [.str p.1, .int p.2]
theorem vTrip_get {l : List (List Nat × Int)} {k : Nat} {v : V} (h : (vTrip l)[k]? = some v) : ∃ p ∈ l, v = .tup [.str p.1, .int p.2] := by
  simp only [vTrip, List.getElem?_map] at h
  obtain ⟨p, hp, rfl⟩ := Option.map_eq_some_iff.mp h
  exact ⟨p, List.mem_of_getElem? hp, rfl⟩
/-- what the two calls must answer -/
def Told (opened : List Nat) (bd : Int) (p : List Nat × Int) : Prop := p.1.length ≤ 40 ∧ levF opened p.1 p.2 = p.2 ∧ (levF p.1 opened bd = p.2 ∨ (bd < p.2 ∧ levF p.1 opened bd = bd + 1))
def tripF (word leaves : List Nat) (cs : List Nat) : List (List Nat × Int) :=
  [(word, leastF (natI cs) (deepF cs) true), (word.reverse, leastF (natI cs) (wideF cs) false), (leaves, 10 - 2 * (leaves.length : Int))]
section
variable {S : St} {nm : Str} {L fa P : Addr} {cd : Value} {Z₀ : Frz} {a : Ads} {fl : Addr} {A : Around} {n : Nat} {R : Post}
theorem st27 (e : LawEnv S a fl) (g : Good (lawFm S nm L fa cd Z₀) A (n + 6)) (s1 s2 s3 s4 s5 s6 s7 s8 s9 s10 s11 s12 s13 s15 s16 s17 pl co o1 o2 ah : Option V) (t : LO) (cs : List Nat) (shut : List Int) (opened : List Nat) (bd : Int) (hl : cs.length = 5) (hsl : shut.length ≤ 40) (hb : ∀ x ∈ shut, 230 ≤ x ∧ x ≤ 300) (hol : opened.length ≤ 40)
    (hT : ∀ p ∈ tripF (shut.map signF) (leavesF shut) cs, Told opened bd p)
    (k : ∀ G, R (.ret (.bool true)) G (cellsL L P pl co o1 o2 ah (some (.lst (vInts (natI cs)))) t)) :
    Ex (lawFm S nm L fa cd Z₀) A [s1, s2, s3, s4, s5, s6, s16, s8, s9, s10, s11, s12, s13, some (.lst (vInts shut)), s15, s7, s17, some (.str opened), some (.str (shut.map signF)), some (.lst (vInts (deepF cs))), some (.lst (vInts (wideF cs))), some (.int bd), none, none, none, none, none] (cellsL L P pl co o1 o2 ah (some (.lst (vInts (natI cs)))) t) (lawB.drop 27) R := by
  have lc : Loc (lawFm S nm L fa cd Z₀) nsLaw (glLaw a) := loc_law e
  have hd := g.hd
  have kk := e.kR
  have hg6 : ∀ {f : Addr} {vs : List V} {v : V}, Fn S f 6 vs v → Fn S f (n + 6) vs v := fun h => h.less (by omega)
  have hll : (leavesF shut).length ≤ 40 := by unfold leavesF; rw [List.length_map]; exact Nat.le_trans (List.length_filter_le _ _) hsl
  refine s_asn g lc (Pu.cast (u := .str (leavesF shut)) (pu_join (ls := (shut.filter fun x => decide (x < 256)).map fun x => [(352 - x).toNat]) (Pu.cast (u := .str []) pu_str rfl) (Pu.cast (u := .lst (vStrs ((shut.filter fun x => decide (x < 256)).map fun x => [(352 - x).toNat]))) (pu_comp (p := fun q => decide (shut.getD q 0 < 256)) (f := fun q => .str [(352 - shut.getD q 0).toNat]) (ns' := [Str.ofString "x"]) (J := fun L G Λ => ∃ o, G = [o] ∧ Λ = []) g (pu_var g lc (.tail (.tail (.tail (.tail (.tail (.tail (.tail (.tail (.tail (.tail (.tail (.tail (.tail .head)))))))))))))) (itb_lst hd)
      { clos := rfl, kind := rfl, names := by decide +kernel, nodup := List.nodup_cons.mpr ⟨List.not_mem_nil, List.Pairwise.nil⟩, h0 := fun L => ⟨none, rfl, rfl⟩, len := sz40 (by rw [vInts_len]; omega), go := fun _ _ => rfl, turn := ?turn }) ?cast) (sz40 (by rw [flat_sing, List.length_map]; exact Nat.le_trans (List.length_filter_le _ _) hsl)) rfl rfl) (by rw [flat_sing]; rfl)) (.tail (.tail (.tail (.tail (.tail (.tail (.tail (.tail (.tail (.tail (.tail (.tail (.tail (.tail (.tail (.tail (.tail (.tail (.tail (.tail (.tail (.tail .head)))))))))))))))))))))) ?_ rfl
  case cast =>
    rw [vInts_len]
    show V.lst _ = V.lst (List.map V.str (List.map _ _))
    rw [List.map_map, ← filter_range shut 0 (fun x => decide (x < 256)) (V.str ∘ fun x => [(352 - x).toNat])]
    rfl
  case turn =>
    rintro L2 P2 Z2 g2 ic2 j G Λ v hj hv ⟨o, rfl, rfl⟩
    rw [vInts_len] at hj
    rw [vInts_get hj] at hv; cases hv
    have hbx := hb (shut.getD j 0) (by rw [List.getD_eq_getElem?_getD, List.getElem?_eq_getElem hj]; exact List.getElem_mem _)
    generalize shut.getD j 0 = x at *
    have lc2 := loc_anyG (ns := [Str.ofString "x"]) (gl := [(Str.ofString "chr", .builtin "chr"), (Str.ofString "ISTERMINAL", .ref a.ter)]) g2 (relabelN _ lawSc.names) rfl rfl rfl rfl (by decide +kernel) (by show (([Str.ofString "chr", Str.ofString "ISTERMINAL"] : List Str).all fun p => _) = true; decide +kernel) (by
      intro p hp
      simp only [List.mem_cons, List.not_mem_nil, or_false] at hp
      rcases hp with rfl | rfl
      · exact e.glob _ (GlAt.mem (.tail (.tail (.tail (.tail (.tail (.tail .head)))))))
      · exact e.glob _ (GlAt.mem (.tail (.tail (.tail (.tail (.tail (.tail (.tail (.tail .head))))))))))
    exact tgt_loc g2 lc2 .head ⟨ts_val (pu_call g2 (pu_gl g2 lc2 (.tail .head)) (.cons (pu_var g2 lc2 .head) .nil rfl) (cl_fn g2 (hg6 (e.ter x))) kk.2.2.1 rfl rfl rfl) tr_bool (fun _ => rfl), fun _ => Pu.ev (pu_call g2 (pu_gl g2 lc2 .head) (.cons (pu_sub pu_int (pu_var g2 lc2 .head)) .nil rfl) (cl_chr (m := (352 - x).toNat) (by omega) (by omega)) rfl rfl rfl rfl) ⟨rfl, _, rfl, rfl⟩, fun _ => ⟨_, rfl, rfl⟩⟩
  generalize hlv : leavesF shut = leaves at *
  generalize hw : shut.map signF = word at *
  have hdl : (deepF cs).length = (natI cs).length := by rw [natI_len, hl]; rfl
  have hwl : (wideF cs).length = (natI cs).length := by rw [natI_len, hl]; rfl
  have hwlen : word.length ≤ 40 := by rw [← hw, List.length_map]; exact hsl
  have hcell : ((L + 6 : Nat), LO.cell (some (V.lst (vInts (natI cs))))) ∈ cellsL L P pl co o1 o2 ah (some (.lst (vInts (natI cs)))) t := .tail _ (.tail _ (.tail _ (.tail _ (.tail _ (.head _)))))
  refine s_asn g lc (pu_list (.cons (pu_tup (.cons (pu_var g lc (.tail (.tail (.tail (.tail (.tail (.tail (.tail (.tail (.tail (.tail (.tail (.tail (.tail (.tail (.tail (.tail (.tail (.tail .head))))))))))))))))))) (.cons (pu_call g (pu_gl g lc (.tail (.tail (.tail (.tail (.tail (.tail (.tail (.tail (.tail (.tail (.tail (.tail (.tail .head)))))))))))))) (.cons (pu_cell g cCl hcell) (.cons (pu_var g lc (.tail (.tail (.tail (.tail (.tail (.tail (.tail (.tail (.tail (.tail (.tail (.tail (.tail (.tail (.tail (.tail (.tail (.tail (.tail .head)))))))))))))))))))) (.cons pu_bool .nil rfl) rfl) rfl) (cl_fn g (hg6 (e.lst (natI cs) (deepF cs) true (by rw [natI_len, hl]; decide) hdl))) kk.2.2.2.2.1 rfl rfl rfl) .nil rfl) rfl) (sz40 (by simp))) (.cons (pu_tup (.cons (pu_rev (pu_var g lc (.tail (.tail (.tail (.tail (.tail (.tail (.tail (.tail (.tail (.tail (.tail (.tail (.tail (.tail (.tail (.tail (.tail (.tail .head))))))))))))))))))) (pu_neg pu_int) (sz1000 (by omega))) (.cons (pu_call g (pu_gl g lc (.tail (.tail (.tail (.tail (.tail (.tail (.tail (.tail (.tail (.tail (.tail (.tail (.tail .head)))))))))))))) (.cons (pu_cell g cCl hcell) (.cons (pu_var g lc (.tail (.tail (.tail (.tail (.tail (.tail (.tail (.tail (.tail (.tail (.tail (.tail (.tail (.tail (.tail (.tail (.tail (.tail (.tail (.tail .head))))))))))))))))))))) (.cons pu_bool .nil rfl) rfl) rfl) (cl_fn g (hg6 (e.lst (natI cs) (wideF cs) false (by rw [natI_len, hl]; decide) hwl))) kk.2.2.2.2.1 rfl rfl rfl) .nil rfl) rfl) (sz40 (by simp))) .nil rfl) rfl) (sz40 (by simp))) (.tail (.tail (.tail (.tail (.tail (.tail (.tail (.tail (.tail (.tail (.tail (.tail (.tail (.tail (.tail (.tail (.tail (.tail (.tail (.tail (.tail (.tail (.tail .head))))))))))))))))))))))) ?_ rfl
  refine Ex.seq (J := fun f G Λ' => f = .next ∧ Λ' = cellsL L P pl co o1 o2 ah (some (.lst (vInts (natI cs)))) t) ?_ ?_
  · refine ex_for (items := vTrip (tripF word leaves cs)) (pu_catL (pu_var g lc (.tail (.tail (.tail (.tail (.tail (.tail (.tail (.tail (.tail (.tail (.tail (.tail (.tail (.tail (.tail (.tail (.tail (.tail (.tail (.tail (.tail (.tail (.tail .head)))))))))))))))))))))))) (pu_list (.cons (pu_tup (.cons (pu_var g lc (.tail (.tail (.tail (.tail (.tail (.tail (.tail (.tail (.tail (.tail (.tail (.tail (.tail (.tail (.tail (.tail (.tail (.tail (.tail (.tail (.tail (.tail .head))))))))))))))))))))))) (.cons (pu_sub pu_int (pu_mul pu_int (pu_call g (pu_gl g lc (.tail (.tail .head))) (.cons (pu_var g lc (.tail (.tail (.tail (.tail (.tail (.tail (.tail (.tail (.tail (.tail (.tail (.tail (.tail (.tail (.tail (.tail (.tail (.tail (.tail (.tail (.tail (.tail .head))))))))))))))))))))))) .nil rfl) (cl_lenS (sz1000 (by omega))) rfl rfl rfl rfl) (.inl (by decide)))) .nil rfl) rfl) (sz40 (by simp))) .nil rfl) (sz40 (by simp))) (.inl rfl) (.inl rfl) (sz40 (by simp))) (itb_lst hd)
      (fun j G Λ' => ∃ o3 o4 o5, Λ' = cellsL L P pl co o1 o2 ah (some (.lst (vInts (natI cs)))) t ∧ G = [s1, s2, s3, s4, s5, s6, s16, s8, s9, s10, s11, s12, s13, some (.lst (vInts shut)), s15, s7, s17, some (.str opened), some (.str word), some (.lst (vInts (deepF cs))), some (.lst (vInts (wideF cs))), some (.int bd), some (.str leaves), some (.lst [.tup [.str word, .int (leastF (natI cs) (deepF cs) true)], .tup [.str word.reverse, .int (leastF (natI cs) (wideF cs) false)]]), o3, o4, o5]) ⟨_, _, _, rfl, rfl⟩ ?_ ?_ (fun _ => rfl)
    · rintro j G Λ' v hj hv ⟨o3, o4, o5, rfl, rfl⟩
      obtain ⟨⟨other, due⟩, hp, rfl⟩ := vTrip_get hv
      obtain ⟨ho40, h1, h2⟩ := hT _ hp
      dsimp only at ho40 h1 h2
      refine tgt_tup hd ⟨tgt_loc g lc (.tail (.tail (.tail (.tail (.tail (.tail (.tail (.tail (.tail (.tail (.tail (.tail (.tail (.tail (.tail (.tail (.tail (.tail (.tail (.tail (.tail (.tail (.tail (.tail .head)))))))))))))))))))))))) ⟨tgt_loc g lc (.tail (.tail (.tail (.tail (.tail (.tail (.tail (.tail (.tail (.tail (.tail (.tail (.tail (.tail (.tail (.tail (.tail (.tail (.tail (.tail (.tail (.tail (.tail (.tail (.tail .head))))))))))))))))))))))))) ?_, rfl⟩, rfl⟩ rfl rfl
      refine s_asn g lc (Pu.cast (u := .int due) (pu_call g (pu_gl g lc (.tail (.tail (.tail (.tail (.tail (.tail (.tail (.tail (.tail (.tail (.tail (.tail (.tail (.tail .head))))))))))))))) (.cons (pu_var g lc (.tail (.tail (.tail (.tail (.tail (.tail (.tail (.tail (.tail (.tail (.tail (.tail (.tail (.tail (.tail (.tail (.tail .head)))))))))))))))))) (.cons (pu_var g lc (.tail (.tail (.tail (.tail (.tail (.tail (.tail (.tail (.tail (.tail (.tail (.tail (.tail (.tail (.tail (.tail (.tail (.tail (.tail (.tail (.tail (.tail (.tail (.tail .head))))))))))))))))))))))))) (.cons (pu_var g lc (.tail (.tail (.tail (.tail (.tail (.tail (.tail (.tail (.tail (.tail (.tail (.tail (.tail (.tail (.tail (.tail (.tail (.tail (.tail (.tail (.tail (.tail (.tail (.tail (.tail .head)))))))))))))))))))))))))) .nil rfl) rfl) rfl) (cl_fn g (hg6 (e.lev opened other due hol ho40))) kk.2.2.2.2.2.1 rfl rfl rfl) (by rw [h1])) (.tail (.tail (.tail (.tail (.tail (.tail (.tail (.tail (.tail (.tail (.tail (.tail (.tail (.tail (.tail (.tail (.tail (.tail (.tail (.tail (.tail (.tail (.tail (.tail (.tail (.tail .head)))))))))))))))))))))))))) ?_ rfl
      refine s_if (b := false) (Tst.cast (ts_bool (ta_or (ts_cmp (pu_var g lc (.tail (.tail (.tail (.tail (.tail (.tail (.tail (.tail (.tail (.tail (.tail (.tail (.tail (.tail (.tail (.tail (.tail (.tail (.tail (.tail (.tail (.tail (.tail (.tail (.tail (.tail .head))))))))))))))))))))))))))) (pu_var g lc (.tail (.tail (.tail (.tail (.tail (.tail (.tail (.tail (.tail (.tail (.tail (.tail (.tail (.tail (.tail (.tail (.tail (.tail (.tail (.tail (.tail (.tail (.tail (.tail (.tail .head)))))))))))))))))))))))))) cm_ne rfl) (fun _ => ta_or (ts_val (pu_call g (pu_gl g lc (.tail (.tail (.tail (.tail (.tail (.tail (.tail (.tail (.tail (.tail (.tail (.tail (.tail (.tail (.tail .head)))))))))))))))) (.cons (pu_var g lc (.tail (.tail (.tail (.tail (.tail (.tail (.tail (.tail (.tail (.tail (.tail (.tail (.tail (.tail (.tail (.tail (.tail (.tail (.tail (.tail (.tail (.tail (.tail (.tail (.tail (.tail .head))))))))))))))))))))))))))) (.cons (pu_gl g lc (.tail (.tail (.tail (.tail (.tail (.tail (.tail (.tail (.tail (.tail (.tail (.tail (.tail (.tail (.tail (.tail .head))))))))))))))))) .nil rfl) rfl) cl_isBool rfl rfl rfl rfl) tr_bool (fun _ => rfl)) (fun _ => ta_or0)))) (by simp)) (fun h => by cases h) (fun _ => ex_nil ?_)
      refine s_asn g lc (pu_call g (pu_gl g lc (.tail (.tail (.tail (.tail (.tail (.tail (.tail (.tail (.tail (.tail (.tail (.tail (.tail (.tail .head))))))))))))))) (.cons (pu_var g lc (.tail (.tail (.tail (.tail (.tail (.tail (.tail (.tail (.tail (.tail (.tail (.tail (.tail (.tail (.tail (.tail (.tail (.tail (.tail (.tail (.tail (.tail (.tail (.tail .head))))))))))))))))))))))))) (.cons (pu_var g lc (.tail (.tail (.tail (.tail (.tail (.tail (.tail (.tail (.tail (.tail (.tail (.tail (.tail (.tail (.tail (.tail (.tail .head)))))))))))))))))) (.cons (pu_var g lc (.tail (.tail (.tail (.tail (.tail (.tail (.tail (.tail (.tail (.tail (.tail (.tail (.tail (.tail (.tail (.tail (.tail (.tail (.tail (.tail (.tail .head)))))))))))))))))))))) .nil rfl) rfl) rfl) (cl_fn g (hg6 (e.lev other opened bd ho40 hol))) kk.2.2.2.2.2.1 rfl rfl rfl) (.tail (.tail (.tail (.tail (.tail (.tail (.tail (.tail (.tail (.tail (.tail (.tail (.tail (.tail (.tail (.tail (.tail (.tail (.tail (.tail (.tail (.tail (.tail (.tail (.tail (.tail .head)))))))))))))))))))))))))) ?_ rfl
      refine s_if (b := false) (Tst.cast (ts_bool (ta_and (ts_cmp (pu_var g lc (.tail (.tail (.tail (.tail (.tail (.tail (.tail (.tail (.tail (.tail (.tail (.tail (.tail (.tail (.tail (.tail (.tail (.tail (.tail (.tail (.tail (.tail (.tail (.tail (.tail (.tail .head))))))))))))))))))))))))))) (pu_var g lc (.tail (.tail (.tail (.tail (.tail (.tail (.tail (.tail (.tail (.tail (.tail (.tail (.tail (.tail (.tail (.tail (.tail (.tail (.tail (.tail (.tail (.tail (.tail (.tail (.tail .head)))))))))))))))))))))))))) cm_ne rfl) (fun _ => ta_and (ts_bool (ta_or (ts_cmp (pu_var g lc (.tail (.tail (.tail (.tail (.tail (.tail (.tail (.tail (.tail (.tail (.tail (.tail (.tail (.tail (.tail (.tail (.tail (.tail (.tail (.tail (.tail (.tail (.tail (.tail (.tail .head)))))))))))))))))))))))))) (pu_var g lc (.tail (.tail (.tail (.tail (.tail (.tail (.tail (.tail (.tail (.tail (.tail (.tail (.tail (.tail (.tail (.tail (.tail (.tail (.tail (.tail (.tail .head)))))))))))))))))))))) cm_le rfl) (fun _ => ta_or (ts_cmp (pu_var g lc (.tail (.tail (.tail (.tail (.tail (.tail (.tail (.tail (.tail (.tail (.tail (.tail (.tail (.tail (.tail (.tail (.tail (.tail (.tail (.tail (.tail (.tail (.tail (.tail (.tail (.tail .head))))))))))))))))))))))))))) (pu_add (pu_var g lc (.tail (.tail (.tail (.tail (.tail (.tail (.tail (.tail (.tail (.tail (.tail (.tail (.tail (.tail (.tail (.tail (.tail (.tail (.tail (.tail (.tail .head)))))))))))))))))))))) pu_int) cm_ne rfl) (fun _ => ta_or0)))) (fun _ => ta_and0)))) ?_) (fun h => by cases h) (fun _ => ex_nil (ex_nil ⟨_, _, _, rfl, rfl⟩))
      rcases h2 with h2 | ⟨h2, h3⟩
      · rw [h2]; simp
      · rw [h3, decide_eq_false (by omega : ¬ due ≤ bd)]; simp
    · rintro G Λ' ⟨o3, o4, o5, rfl, rfl⟩
      exact ⟨rfl, rfl⟩
  · rintro f G Λ' ⟨rfl, rfl⟩
    exact s_ret pu_bool (k _)
end
end Mine
end

/-! W20 -/
section
open PySem PySem.W PyProof.Rows PySem.Calls
set_option maxRecDepth 100000
set_option autoImplicit false
set_option linter.unusedVariables false
namespace Mine

def totF (du : List Nat) : Nat := (du.map fun x => x / 40).sum
theorem sumF_nat (du : List Nat) : sumF (natI du) = ((totF du : Nat) : Int) := by
  unfold sumF totF natI
  induction du with
  | nil => rfl
  | cons x l ih => simp only [List.map_cons, List.sum_cons] at *; rw [ih]; omega
def rowsL (toks : List Nat) : List (List Nat) := (rowsG toks).1 ++ [(rowsG toks).2]
def csF (du : List Nat) : List Nat := closeN (colLess (leadsF du 5)) 5
def ordF (cs : List Nat) : List Nat := (krun (kLt (keyC cs)) (kas_sort 5)).toList
/-- the plain law -/
structure Plain (du toks : List Nat) : Prop where
  len : du.length = 5
  tot : totF du < 1000000
  read : readF 900 (pageAt du (totF du) 5) = some toks
  tok : ∀ t ∈ toks, 0 < t ∧ t < 1000
  tokl : toks.length ≤ 900
  rowl : (rowsL toks).length ≤ 900
  rowc : ∀ r ∈ rowsL toks, r.length ≤ 900 ∧ (r ≠ [] → (wsOf r).n < r.length)
  ok : krunOk (kLt (keyC (csF du))) 5 (kas_sort 5) = true
  olt : ∀ i ∈ ordF (csF du), i < 5
  oll : (ordF (csF du)).length ≤ 40
  shut : (psAt (rowsL toks)).shut = expF (totF du) (csF du) (ordF (csF du))
  told : ∀ p ∈ tripF ((expF (totF du) (csF du) (ordF (csF du))).map signF) (leavesF (expF (totF du) (csF du) (ordF (csF du)))) (csF du), Told (openF (totF du)) ((totF du : Int) % 12 - 1) p
theorem expF_bound (tot : Nat) (cs order : List Nat) : ∀ x ∈ expF tot cs order, 230 ≤ x ∧ x ≤ 300 := by
  intro x hx
  unfold expF at hx
  obtain ⟨i, _, rfl⟩ := List.mem_map.mp hx
  have := placeAt_lt tot i
  split <;> omega
section
variable {S : St} {nm : Str} {L fa P c0 : Addr} {Z₀ : Frz} {a : Ads} {fl : Addr} {A : Around} {n : Nat}
theorem walk_law (e : LawEnv S a fl) (g : Good (lawFm S nm L fa (.ref c0) Z₀) A 20) (hC : CodeHd S.h₀ c0 P) (ns : List Int) (hl : ns.length ≤ 63) (du toks : List Nat) (hdu : drawF ns = natI du) (p : Plain du toks) :
    Ex (lawFm S nm L fa (.ref c0) Z₀) A [some (.lst (vInts ns)), none, none, none, none, none, none, none, none, none, none, none, none, none, none, none, none, none, none, none, none, none, none, none, none, none, none] (cellsL L P none none none none none none (.exact (tabObj #[]))) lawB (RetP fun v Λ => v = .bool true ∧ ∃ ps, (P, LO.exact (tabObj ps)) ∈ Λ) := by
  refine st0 e g ns hl fun o => ?_
  rw [hdu]
  have hnl : (natI du).length = 5 := by rw [natI_len, p.len]
  refine st2 e g _ (natI du) _ hnl ?_
  rw [sumF_nat]
  refine st4 e g _ _ du (totF du) _ p.len p.tot fun o1 o2 o3 pv => ?_
  refine st9 (n := 14) e g _ _ _ _ _ _ _ _ _ _ toks 900 _ (by decide) (Nat.le_trans (pageAt_len du (totF du) 5) (by decide)) p.read p.tok p.tokl fun o4 => ?_
  refine st11 (n := 8) e g _ _ _ _ _ _ _ _ _ _ (rowsL toks) _ p.rowl p.rowc fun q1 q2 q3 q4 Λ' hw => Ex.wk hw ?_
  rw [p.shut]
  refine st15 (n := 14) e g _ _ _ _ _ _ _ _ _ _ _ _ _ _ _ _ (leadsF du 5) _ (by rw [leadsF_len]; decide) ?_
  refine st16 (n := 14) e g _ _ _ _ _ _ _ _ _ _ _ _ _ _ _ _ _ (leadsF du 5) _ (leadsF_len du 5) fun c1 c2 => ?_
  have hcl : (csF du).length = 5 := closeN_len _ _
  refine st18 (n := 17) e g hC _ _ _ _ _ _ _ _ _ _ _ _ _ _ _ _ _ _ _ _ (csF du) (ordF (csF du)) hcl p.ok rfl p.olt fun ps => ?_
  refine st19 (n := 19) e g _ _ _ _ _ _ _ _ _ _ _ _ _ _ _ _ _ _ _ (totF du) (csF du) (ordF (csF du)) _ hcl p.olt (Nat.le_trans p.oll (by decide)) rfl ?_
  have hsl : (expF (totF du) (csF du) (ordF (csF du))).length ≤ 40 := by unfold expF; rw [List.length_map]; exact p.oll
  refine st21 (n := 14) e g _ _ _ _ _ _ _ _ _ _ _ _ _ _ _ _ _ _ _ hsl (expF_bound _ _ _) fun o5 => ?_
  refine st23 (n := 20) e g _ _ _ _ _ _ _ _ _ _ _ _ _ _ _ _ _ _ _ _ _ _ _ (totF du) (csF du) hcl ?_
  refine st27 (n := 14) e g _ _ _ _ _ _ _ _ _ _ _ _ _ _ _ _ _ _ _ _ _ _ (csF du) _ (openF (totF du)) _ hcl hsl (expF_bound _ _ _) (by simp [openF]) p.told fun G => ?_
  exact ⟨rfl, ps, .tail _ (.tail _ (.tail _ (.tail _ (.tail _ (.tail _ (.head _))))))⟩
end
end Mine
end

/-! P1 -/
section
open PySem PySem.W PyProof.Rows PySem.Calls
set_option maxRecDepth 100000
set_option autoImplicit false
set_option linter.unusedVariables false
namespace Mine

/-! reading the page -/
theorem lookup_none {x : List Nat} : ∀ {l : List (List Nat × Nat)}, (∀ p ∈ l, p.1 ≠ x) → l.lookup x = none
  | [], _ => rfl
  | (k, v) :: l, h => by
    have h1 : (x == k) = false := by rw [beq_eq_false_iff_ne]; exact fun e => h _ (.head _) e.symm
    rw [List.lookup_cons, h1]
    exact lookup_none fun p hp => h p (.tail _ hp)
theorem tab91 : ∀ p ∈ tokTab, p.1.head? = some 91 → p.1.length = 1 := by decide +kernel
theorem tab93 : ∀ p ∈ tokTab, p.1.head? = some 93 → p.1.length = 1 := by decide +kernel
theorem tab94 : ∀ p ∈ tokTab, p.1.head? = some 94 → p.1.length = 1 ∨ p.1.getD 1 0 = 61 := by decide +kernel
theorem tok1 {c t : Nat} (h0 : tokNum [c] = some t) (h : ∀ d l, tokNum (c :: d :: l) = none) (r : List Nat) : ∃ k, k = 1 ∧ tokAt (c :: r) = some (k, t) ∨ k = 3 ∧ tokAt (c :: r) = some (k, t) ∧ r = [] ∨ k = 2 ∧ tokAt (c :: r) = some (k, t) ∧ r = [] := by
  match r with
  | [] => exact ⟨3, .inr (.inl ⟨rfl, by unfold tokAt; simp [h0], rfl⟩)⟩
  | [d] => exact ⟨1, .inl ⟨rfl, by unfold tokAt; simp [h, h0]⟩⟩
  | d :: e :: l => exact ⟨1, .inl ⟨rfl, by unfold tokAt; simp [h, h0]⟩⟩
theorem tok91 : tokNum [91] = some 9 := by decide +kernel
theorem tok93 : tokNum [93] = some 10 := by decide +kernel
theorem tok94 : tokNum [94] = some 32 := by decide +kernel
theorem no91 (d : Nat) (l : List Nat) : tokNum (91 :: d :: l) = none := lookup_none fun p hp e => by have := tab91 p hp (by rw [e]; rfl); rw [e] at this; simp at this
theorem no93 (d : Nat) (l : List Nat) : tokNum (93 :: d :: l) = none := lookup_none fun p hp e => by have := tab93 p hp (by rw [e]; rfl); rw [e] at this; simp at this
theorem no94 {d : Nat} (hd : d ≠ 61) (l : List Nat) : tokNum (94 :: d :: l) = none := lookup_none fun p hp e => by
  rcases tab94 p hp (by rw [e]; rfl) with h | h
  · rw [e] at h; simp at h
  · rw [e] at h; exact hd h
def ReadsTo (r ts : List Nat) : Prop := ∀ n, ts.length ≤ n → readF n r = some ts
theorem reads_nil : ReadsTo [] [] := fun n _ => by cases n <;> simp [readF]
theorem reads_step {s r ts : List Nat} {t : Nat} (h : tokAt (s ++ r) = some (s.length, t)) (hs : s ≠ []) (k : ReadsTo r ts) : ReadsTo (s ++ r) (t :: ts) := fun n hn => by
  cases n with
  | zero => simp at hn
  | succ n =>
    unfold readF
    rw [if_neg (by simp [hs]), h]
    simp [k n (by simpa using hn)]
theorem reads_91 {r ts : List Nat} (k : ReadsTo r ts) (hr : r ≠ []) : ReadsTo (91 :: r) (9 :: ts) := reads_step (s := [91]) (by
  match r, hr with
  | [d], _ => unfold tokAt; simp [no91, tok91]
  | d :: e :: l, _ => unfold tokAt; simp [no91, tok91]) (by simp) k
theorem reads_93 {r ts : List Nat} (k : ReadsTo r ts) (hr : r ≠ []) : ReadsTo (93 :: r) (10 :: ts) := reads_step (s := [93]) (by
  match r, hr with
  | [d], _ => unfold tokAt; simp [no93, tok93]
  | d :: e :: l, _ => unfold tokAt; simp [no93, tok93]) (by simp) k
theorem reads_93' : ReadsTo [93] [10] := fun n hn => by
  cases n with
  | zero => simp at hn
  | succ n =>
    unfold readF tokAt
    simp [tok93]
    cases n <;> simp [readF]
theorem reads_94 {d : Nat} {l ts : List Nat} (k : ReadsTo (d :: l) ts) (hd : d ≠ 61) : ReadsTo (94 :: d :: l) (32 :: ts) := reads_step (s := [94]) (by
  match l with
  | [] => unfold tokAt; simp [no94 hd, tok94]
  | e :: l => unfold tokAt; simp [no94 hd, tok94]) (by simp) k
set_option maxRecDepth 1000000 in
theorem name_take : ∀ p < 22, tokAt ((namesL.getD p []) ++ [91, 93]) = some ((namesL.getD p []).length, 33 + p) ∧ 0 < (namesL.getD p []).length ∧ (namesL.getD p []).head? ≠ some 61 := by decide +kernel
theorem tokAt_take {r r' : List Nat} (h : r.take 3 = r'.take 3) : tokAt r = tokAt r' := by
  unfold tokAt
  have h2 : r.take 2 = r'.take 2 := by have := congrArg (List.take 2) h; simpa [List.take_take] using this
  have h1 : r.take 1 = r'.take 1 := by have := congrArg (List.take 1) h; simpa [List.take_take] using this
  rw [h, h2, h1]
theorem reads_name {p : Nat} (hp : p < 22) {r ts : List Nat} (k : ReadsTo (91 :: 93 :: r) ts) : ReadsTo ((namesL.getD p []) ++ (91 :: 93 :: r)) ((33 + p) :: ts) := by
  obtain ⟨h1, h2, _⟩ := name_take p hp
  refine reads_step ?_ (fun q => by rw [q] at h2; simp at h2) k
  rw [← h1]
  refine tokAt_take ?_
  rw [List.take_append, List.take_append]
  have : 3 - (namesL.getD p []).length ≤ 2 := by omega
  generalize 3 - (namesL.getD p []).length = m at this
  match m, this with
  | 0, _ => rfl
  | 1, _ => rfl
  | 2, _ => rfl
/-- a lead's signs -/
def Lead (l : List Nat) : Prop := ∀ c ∈ l, c = 9 ∨ c = 32
theorem enc_head (l rest : List Nat) (hr : rest.head? ≠ some 61) : ((l.map encF) ++ rest).head? ≠ some 61 := by
  cases l with
  | nil => simpa using hr
  | cons c l => simp only [List.map_cons, List.cons_append, List.head?_cons]; unfold encF; split <;> simp
theorem reads_lead : ∀ {l : List Nat}, Lead l → ∀ {rest ts : List Nat}, ReadsTo rest ts → rest ≠ [] → rest.head? ≠ some 61 → ReadsTo (l.map encF ++ rest) (l ++ ts)
  | [], _, rest, ts, k, _, _ => k
  | c :: l, h, rest, ts, k, h1, h2 => by
    have ih := reads_lead (fun d hd => h d (.tail _ hd)) k h1 h2
    have hne : l.map encF ++ rest ≠ [] := by simp [h1]
    have hh := enc_head l rest h2
    rcases h c (.head _) with rfl | rfl
    · exact reads_91 ih hne
    · show ReadsTo (94 :: (l.map encF ++ rest)) (32 :: (l ++ ts))
      generalize l.map encF ++ rest = r at *
      match r, hne with
      | d :: r, _ => exact reads_94 ih (by simpa using hh)
def rowT (du : List Nat) (tot k : Nat) : List Nat := leadAt du (k + 1) ++ [33 + placeAt tot k, 9, 10]
def toksT (du : List Nat) (tot : Nat) : Nat → List Nat
  | 0 => []
  | k + 1 => toksT du tot k ++ rowT du tot k
theorem leadF_ok (x : Nat) {l : List Nat} (h : Lead l) : Lead (leadF x l) := by
  have hp : Lead (pieceF x) := by
    unfold pieceF
    have h : x / 5 % 4 < 4 := Nat.mod_lt _ (by decide)
    generalize x / 5 % 4 = i at h
    match i, h with
    | 0, _ => intro c hc; simp at hc
    | 1, _ => intro c hc; simp at hc; omega
    | 2, _ => intro c hc; simp at hc; omega
    | 3, _ => intro c hc; simp at hc; omega
  unfold leadF
  split
  · intro c hc
    rcases List.mem_append.mp hc with hc | hc
    · exact hp c hc
    · exact h c (List.mem_of_mem_take hc)
  · intro c hc
    rcases List.mem_append.mp hc with hc | hc
    · exact h c (List.mem_of_mem_take hc)
    · exact hp c hc
theorem leadAt_ok (du : List Nat) : ∀ k, Lead (leadAt du k)
  | 0 => fun c h => by simp [leadAt] at h
  | k + 1 => leadF_ok _ (leadAt_ok du k)
theorem reads_page (du : List Nat) (tot : Nat) : ∀ (k : Nat) {rest ts : List Nat}, ReadsTo rest ts → (rest ≠ [] ∨ (rest = [] ∧ ts = [])) → ReadsTo (pageAt du tot k ++ rest) (toksT du tot k ++ ts)
  | 0, _, _, k, _ => k
  | j + 1, rest, ts, k, h => by
    have hp := placeAt_lt tot j
    obtain ⟨_, h2, h3⟩ := name_take _ hp
    have h93 : ReadsTo (93 :: rest) (10 :: ts) := by
      rcases h with h | ⟨rfl, rfl⟩
      · exact reads_93 k h
      · exact reads_93'
    have hn := reads_name hp (reads_91 h93 (by simp))
    have hl := reads_lead (leadAt_ok du (j + 1)) hn (by simp) (by
      generalize namesL.getD (placeAt tot j) [] = nm at *
      cases nm with
      | nil => simp at h2
      | cons c nm => simpa using h3)
    have ih := reads_page du tot j hl (.inl (by simp))
    have e1 : pageAt du tot (j + 1) ++ rest = pageAt du tot j ++ ((leadAt du (j + 1)).map encF ++ (namesL.getD (placeAt tot j) [] ++ 91 :: 93 :: rest)) := by
      simp [pageAt, List.append_assoc]
    have e2 : toksT du tot (j + 1) ++ ts = toksT du tot j ++ (leadAt du (j + 1) ++ (33 + placeAt tot j) :: 9 :: 10 :: ts) := by
      simp [toksT, rowT, List.append_assoc]
    rw [e1, e2]
    exact ih
theorem toksT_len (du : List Nat) (tot : Nat) : ∀ k, (toksT du tot k).length ≤ 9 * k
  | 0 => by simp [toksT]
  | k + 1 => by
    have h1 := toksT_len du tot k
    have h2 := leadAt_len du (k + 1)
    simp only [toksT, rowT, List.length_append, List.length_cons, List.length_nil]
    omega
theorem toksT_bd (du : List Nat) (tot : Nat) : ∀ k, ∀ t ∈ toksT du tot k, 0 < t ∧ t < 1000
  | 0, t, h => by simp [toksT] at h
  | k + 1, t, h => by
    simp only [toksT, rowT, List.mem_append, List.mem_cons, List.not_mem_nil, or_false] at h
    have hp := placeAt_lt tot k
    rcases h with h | h | h | h | h
    · exact toksT_bd du tot k t h
    · rcases leadAt_ok du (k + 1) t h with h | h <;> omega
    · omega
    · omega
    · omega

/-! rows -/
theorem fold_row : ∀ (l : List Nat), (∀ c ∈ l, c ≠ 10) → ∀ d c, l.foldl rowStep (d, c) = (d, c ++ l)
  | [], _, d, c => by simp
  | x :: l, h, d, c => by
    rw [List.foldl_cons]
    have hx : rowStep (d, c) x = (d, c ++ [x]) := by unfold rowStep; rw [if_neg (h x (.head _))]
    rw [hx, fold_row l (fun c hc => h c (.tail _ hc))]
    simp
theorem rows_toks (du : List Nat) (tot : Nat) : ∀ k, rowsG (toksT du tot k) = ((List.range k).map (rowT du tot), [])
  | 0 => rfl
  | k + 1 => by
    have ih := rows_toks du tot k
    unfold rowsG at ih ⊢
    have hp := placeAt_lt tot k
    rw [toksT, List.foldl_append, ih]
    have e : rowT du tot k = (leadAt du (k + 1) ++ [33 + placeAt tot k, 9]) ++ [10] := by simp [rowT]
    have hne : ∀ c ∈ leadAt du (k + 1) ++ [33 + placeAt tot k, 9], c ≠ 10 := fun c hc => by
      rcases List.mem_append.mp hc with hc | hc
      · rcases leadAt_ok du (k + 1) c hc with h | h <;> omega
      · simp at hc; omega
    rw [e, List.foldl_append, fold_row _ hne, List.range_succ, List.map_append]
    simp [rowStep, e]
theorem rowsL_eq (du : List Nat) (tot : Nat) : rowsL (toksT du tot 5) = (List.range 5).map (rowT du tot) ++ [[]] := by
  unfold rowsL
  rw [rows_toks]

/-! a row's white space is its lead's -/
theorem wsGo_app : ∀ {l : List Nat}, Lead l → ∀ (r : List Nat) (s : WsSt), wsGo (l ++ r) s = wsGo r (wsGo l s)
  | [], _, r, s => rfl
  | c :: l, h, r, s => by
    have ih := wsGo_app (l := l) fun d hd => h d (.tail _ hd)
    rcases h c (.head _) with rfl | rfl
    · simp [wsGo, ih]
    · simp [wsGo, ih]
theorem wsGo_n : ∀ {l : List Nat}, Lead l → ∀ (s : WsSt), (wsGo l s).n = s.n + l.length
  | [], _, s => rfl
  | c :: l, h, s => by
    have ih := wsGo_n (l := l) fun d hd => h d (.tail _ hd)
    rcases h c (.head _) with rfl | rfl
    · simp [wsGo, ih]; omega
    · simp [wsGo, ih]; omega
theorem ws_row (du : List Nat) (tot k : Nat) : wsOf (rowT du tot k) = wsOf (leadAt du (k + 1)) := by
  unfold wsOf rowT
  rw [wsGo_app (leadAt_ok du (k + 1))]
  simp only [wsGo]
  rw [if_neg (by omega), if_neg (by omega)]
theorem ws_n (du : List Nat) (k : Nat) : (wsOf (leadAt du k)).n = (leadAt du k).length := by
  unfold wsOf; rw [wsGo_n (leadAt_ok du k)]; simp
theorem row_at (du : List Nat) (tot k : Nat) : (rowT du tot k).getD (wsOf (rowT du tot k)).n 0 = 33 + placeAt tot k := by
  rw [ws_row, ws_n, rowT]
  simp
theorem row_ne (du : List Nat) (tot k : Nat) : rowT du tot k ≠ [] := by simp [rowT]
end Mine
end

/-! P2 -/
section
open PySem PySem.W PyProof.Rows PySem.Calls
set_option maxRecDepth 1000000
set_option autoImplicit false
set_option linter.unusedVariables false
namespace Mine

def txts : Nat → List (List Nat)
  | 0 => [[]]
  | n + 1 => [] :: (txts n).flatMap fun l => [9 :: l, 32 :: l]
theorem mem_txts : ∀ (n : Nat) {l : List Nat}, Lead l → l.length ≤ n → l ∈ txts n
  | 0, l, h, hl => by have : l = [] := List.length_eq_zero_iff.mp (by omega); subst this; simp [txts]
  | n + 1, [], h, hl => by simp [txts]
  | n + 1, c :: l, h, hl => by
    have ih := mem_txts n (l := l) (fun d hd => h d (.tail _ hd)) (by simpa using hl)
    simp only [txts, List.mem_cons, List.mem_flatMap]
    refine .inr ⟨l, ih, ?_⟩
    rcases h c (.head _) with rfl | rfl <;> simp
def colsLt (a b : List Int) : Bool := ((List.range 6).map fun t => decide (a.getD t 0 < b.getD t 0)).all fun b => b
theorem all_parts {α : Type} {p : α → Bool} (n : Nat) {l : List α} (h1 : (l.take n).all p = true) (h2 : (l.drop n).all p = true) : l.all p = true := by
  rw [← List.take_append_drop n l, List.all_append, h1, h2]; rfl
def lessRow (a : List Nat) : Bool := (txts 6).all fun b => lessF (wsOf a) (wsOf b) == colsLt (colsF a) (colsF b)
def txtsD : Nat → List (List Nat)
  | 0 => txts 6
  | k + 1 => (txtsD k).drop 22
set_option maxHeartbeats 0
theorem lessTab_0 : ((txtsD 0).take 22).all lessRow = true := by decide +kernel
theorem lessTab_1 : ((txtsD 1).take 22).all lessRow = true := by decide +kernel
theorem lessTab_2 : ((txtsD 2).take 22).all lessRow = true := by decide +kernel
theorem lessTab_3 : ((txtsD 3).take 22).all lessRow = true := by decide +kernel
theorem lessTab_4 : ((txtsD 4).take 22).all lessRow = true := by decide +kernel
theorem lessTab_5 : (txtsD 5).all lessRow = true := by decide +kernel
theorem lessTab_ok : (txts 6).all lessRow = true := all_parts 22 lessTab_0 (all_parts 22 lessTab_1 (all_parts 22 lessTab_2 (all_parts 22 lessTab_3 (all_parts 22 lessTab_4 lessTab_5))))
theorem less_cols {a b : List Nat} (ha : Lead a) (hb : Lead b) (la : a.length ≤ 6) (lb : b.length ≤ 6) : lessF (wsOf a) (wsOf b) = colsLt (colsF a) (colsF b) := by
  have h := List.all_eq_true.mp lessTab_ok a (mem_txts 6 ha la)
  have h := List.all_eq_true.mp h b (mem_txts 6 hb lb)
  simpa using h
end Mine
end

/-! P3 -/
section
open PySem PySem.W PyProof.Rows PySem.Calls
set_option maxRecDepth 1000000
set_option autoImplicit false
set_option linter.unusedVariables false
namespace Mine

/-! the pile, by numbers -/
structure IS where
  pile : List Nat
  marks : List (Nat × Bool)
  shut : List (Nat × Bool)
def popI (le : Nat → Bool) : Nat → IS → IS
  | 0, s => s
  | n + 1, s => if (s.pile.isEmpty || le (s.pile.getLastD 0)) = true then s else popI le n ⟨s.pile.dropLast, s.marks.dropLast, s.shut ++ [s.marks.getLastD (0, false)]⟩
def flipI (m : List (Nat × Bool)) : List (Nat × Bool) := if m.isEmpty = true then [] else if (m.getLastD (0, false)).2 = false then m.dropLast ++ [((m.getLastD (0, false)).1, true)] else m
def stepI (ls : Nat → Nat → Bool) (s : IS) (j : Nat) : IS :=
  let s' := popI (fun i => ls i j) s.pile.length s
  if j = 5 then s' else ⟨s'.pile ++ [j], flipI s'.marks ++ [(j, false)], s'.shut⟩
def runI (ls : Nat → Nat → Bool) (k : Nat) : IS := (List.range k).foldl (stepI ls) ⟨[], [], []⟩
theorem runI_succ (ls : Nat → Nat → Bool) (k : Nat) : runI ls (k + 1) = stepI ls (runI ls k) k := by simp [runI, List.range_succ]
section
variable (du : List Nat) (tot : Nat)
def rowAt (j : Nat) : List Nat := if j < 5 then rowT du tot j else []
def mk (p : Nat × Bool) : Int := if p.2 = true then 256 + ((placeAt tot p.1 : Nat) : Int) else 255 - ((placeAt tot p.1 : Nat) : Int)
def conc (s : IS) : PS := ⟨s.pile.map (rowAt du tot), s.marks.map (mk tot), s.shut.map (mk tot)⟩
theorem popG_conc (le : List Nat → Bool) : ∀ (n : Nat) (s : IS), s.marks.length = s.pile.length → popG le n (conc du tot s) = conc du tot (popI (fun i => le (rowAt du tot i)) n s) ∧ (popI (fun i => le (rowAt du tot i)) n s).marks.length = (popI (fun i => le (rowAt du tot i)) n s).pile.length
  | 0, s, h => ⟨rfl, h⟩
  | n + 1, ⟨pile, marks, shut⟩, h => by
    rcases nil_or_snoc pile with rfl | ⟨p, i, rfl⟩
    · unfold popG popI
      rw [if_pos (by simp [conc]), if_pos (by simp)]
      exact ⟨rfl, h⟩
    · rcases nil_or_snoc marks with rfl | ⟨q, x, rfl⟩
      · simp at h
      · have hl : q.length = p.length := by simpa using h
        have ih := popG_conc le n ⟨p, q, shut ++ [x]⟩ hl
        unfold popG popI
        by_cases hle : le (rowAt du tot i) = true
        · rw [if_pos (by simp [conc, hle]), if_pos (by simp [hle])]
          exact ⟨rfl, h⟩
        · rw [if_neg (by simp [conc, hle]), if_neg (by simp [hle])]
          simp only [conc, List.map_append, List.map_cons, List.map_nil, List.dropLast_concat, List.getLastD_concat] at ih ⊢
          exact ih
theorem flip_conc (m : List (Nat × Bool)) : flipF (m.map (mk tot)) = (flipI m).map (mk tot) ∧ (flipI m).length = m.length := by
  rcases nil_or_snoc m with rfl | ⟨q, ⟨i, b⟩, rfl⟩
  · exact ⟨rfl, rfl⟩
  · have hp := placeAt_lt tot i
    have a1 : ∀ (l : List Int) (y : Int), flipF (l ++ [y]) = if y < 256 then l ++ [511 - y] else l ++ [y] := fun l y => by
      unfold flipF; rw [if_neg (by simp)]; simp
    have a2 : flipI (q ++ [(i, b)]) = if b = false then q ++ [(i, true)] else q ++ [(i, b)] := by
      unfold flipI; rw [if_neg (by simp)]; simp
    rw [List.map_append, List.map_cons, List.map_nil, a1, a2]
    cases b with
    | false =>
      have e1 : mk tot (i, false) = 255 - ((placeAt tot i : Nat) : Int) := rfl
      have e2 : mk tot (i, true) = 256 + ((placeAt tot i : Nat) : Int) := rfl
      rw [e1, if_pos (by omega), if_pos rfl]
      refine ⟨?_, by simp⟩
      rw [List.map_append, List.map_cons, List.map_nil, e2]
      congr 2
      omega
    | true =>
      have e2 : mk tot (i, true) = 256 + ((placeAt tot i : Nat) : Int) := rfl
      rw [e2, if_neg (by omega), if_neg (by simp)]
      exact ⟨by rw [List.map_append, List.map_cons, List.map_nil, e2], rfl⟩
def lsR (i j : Nat) : Bool := lessF (wsOf (rowAt du tot i)) (wsOf (rowAt du tot j))
theorem step_conc (s : IS) (h : s.marks.length = s.pile.length) (j : Nat) (hj : j < 6) : psStep (conc du tot s) (rowAt du tot j) = conc du tot (stepI (lsR du tot) s j) ∧ (stepI (lsR du tot) s j).marks.length = (stepI (lsR du tot) s j).pile.length := by
  have hpl : (conc du tot s).pile.length = s.pile.length := by simp [conc]
  obtain ⟨h1, h2⟩ := popG_conc du tot (fun r => lessF (wsOf r) (wsOf (rowAt du tot j))) s.pile.length s h
  unfold psStep stepI
  dsimp only
  rw [hpl, h1]
  by_cases h5 : j = 5
  · have hr : rowAt du tot j = [] := by unfold rowAt; rw [if_neg (by omega)]
    rw [if_pos hr, if_pos h5]
    exact ⟨rfl, h2⟩
  · have hr : rowAt du tot j = rowT du tot j := by unfold rowAt; rw [if_pos (by omega)]
    rw [if_neg (by rw [hr]; exact row_ne _ _ _), if_neg h5]
    have hch : (rowAt du tot j).getD (wsOf (rowAt du tot j)).n 0 = 33 + placeAt tot j := by rw [hr]; exact row_at _ _ _
    rw [hch]
    have hp := placeAt_lt tot j
    change (PS.mk _ _ _ = conc du tot (IS.mk ((popI (fun i => lsR du tot i j) s.pile.length s).pile ++ [j]) (flipI (popI (fun i => lsR du tot i j) s.pile.length s).marks ++ [(j, false)]) (popI (fun i => lsR du tot i j) s.pile.length s).shut)) ∧ _
    change _ ∧ (flipI (popI (fun i => lsR du tot i j) s.pile.length s).marks ++ [(j, false)]).length = ((popI (fun i => lsR du tot i j) s.pile.length s).pile ++ [j]).length
    change (popI (fun i => lsR du tot i j) s.pile.length s).marks.length = (popI (fun i => lsR du tot i j) s.pile.length s).pile.length at h2
    show (PS.mk ((conc du tot (popI (fun i => lsR du tot i j) s.pile.length s)).pile ++ _) (flipF (conc du tot (popI (fun i => lsR du tot i j) s.pile.length s)).marks ++ _) (conc du tot (popI (fun i => lsR du tot i j) s.pile.length s)).shut = _) ∧ _
    generalize popI (fun i => lsR du tot i j) s.pile.length s = s' at *
    obtain ⟨f1, f2⟩ := flip_conc tot s'.marks
    refine ⟨?_, by rw [List.length_append, List.length_append, f2, h2]; rfl⟩
    simp only [conc, List.map_append, List.map_cons, List.map_nil]
    rw [f1]
    congr 2
    simp only [mk]
    simp
    omega
theorem ps_run : ∀ k, k ≤ 6 → psAt ((List.range k).map (rowAt du tot)) = conc du tot (runI (lsR du tot) k) ∧ (runI (lsR du tot) k).marks.length = (runI (lsR du tot) k).pile.length
  | 0, _ => ⟨rfl, rfl⟩
  | k + 1, hk => by
    obtain ⟨h1, h2⟩ := ps_run k (by omega)
    rw [List.range_succ, List.map_append, List.map_cons, List.map_nil, psAt_snoc, h1, runI_succ]
    exact step_conc du tot _ h2 k (by omega)
theorem rowsL_at : rowsL (toksT du tot 5) = (List.range 6).map (rowAt du tot) := by
  rw [rowsL_eq, List.range_succ (n := 5), List.map_append, List.map_cons, List.map_nil]
  have h5 : rowAt du tot 5 = [] := by unfold rowAt; rw [if_neg (by decide)]
  rw [h5]
  have h : (List.range 5).map (rowT du tot) = (List.range 5).map (rowAt du tot) := List.map_congr_left fun i hi => by
    unfold rowAt; rw [if_pos (List.mem_range.mp hi)]
  rw [h]
theorem conc_shut (s : IS) : (conc du tot s).shut = s.shut.map (mk tot) := rfl
theorem shut_run : (psAt (rowsL (toksT du tot 5))).shut = ((runI (lsR du tot) 6).shut).map (mk tot) := by
  have h1 := congrArg (fun r => (psAt r).shut) (rowsL_at du tot)
  have h2 := congrArg PS.shut (ps_run du tot 6 (Nat.le_refl _)).1
  have h3 := conc_shut du tot (runI (lsR du tot) 6)
  exact h1.trans (h2.trans h3)
end

/-! only the rows below matter -/
theorem popI_congr {le le2 : Nat → Bool} : ∀ (n : Nat) (s : IS), (∀ i ∈ s.pile, le i = le2 i) → popI le n s = popI le2 n s ∧ ∀ i ∈ (popI le n s).pile, i ∈ s.pile
  | 0, s, h => ⟨rfl, fun i hi => hi⟩
  | n + 1, ⟨pile, marks, shut⟩, h => by
    rcases nil_or_snoc pile with rfl | ⟨p, i, rfl⟩
    · unfold popI
      rw [if_pos (by simp), if_pos (by simp)]
      exact ⟨rfl, fun i hi => hi⟩
    · have ih := popI_congr n ⟨p, marks.dropLast, shut ++ [marks.getLastD (0, false)]⟩ (fun k hk => h k (by simp [show k ∈ p from hk]))
      have hi := h i (by simp)
      unfold popI
      by_cases hle : le i = true
      · rw [if_pos (by simp [hle]), if_pos (by simp [← hi, hle])]
        exact ⟨rfl, fun i hi => hi⟩
      · rw [if_neg (by simp [hle]), if_neg (by simp [← hi, hle])]
        simp only [List.dropLast_concat]
        exact ⟨ih.1, fun k hk => by have := ih.2 k hk; simp [show k ∈ p from this]⟩
theorem runI_congr {ls ls2 : Nat → Nat → Bool} (h : ∀ i j, i < j → j < 6 → ls i j = ls2 i j) : ∀ k, k ≤ 6 → runI ls k = runI ls2 k ∧ ∀ i ∈ (runI ls k).pile, i < k
  | 0, _ => ⟨rfl, fun i hi => by cases hi⟩
  | k + 1, hk => by
    obtain ⟨h1, h2⟩ := runI_congr h k (by omega)
    rw [runI_succ, runI_succ, ← h1]
    generalize runI ls k = s at *
    obtain ⟨c1, c2⟩ := popI_congr (le := fun i => ls i k) (le2 := fun i => ls2 i k) s.pile.length s (fun i hi => h i k (h2 i hi) (by omega))
    unfold stepI
    dsimp only
    rw [← c1]
    refine ⟨rfl, fun i hi => ?_⟩
    split at hi
    · exact Nat.lt_succ_of_lt (h2 i (c2 i hi))
    · rcases List.mem_append.mp hi with hi | hi
      · exact Nat.lt_succ_of_lt (h2 i (c2 i hi))
      · rw [List.mem_singleton.mp hi]; exact Nat.lt_succ_self k
theorem goJ_congr {ls ls2 : Nat → Nat → Bool} {i : Nat} : ∀ (f j : Nat), (∀ k, j ≤ k → k < j + f → ls i k = ls2 i k) → goJ ls i f j = goJ ls2 i f j
  | 0, j, _ => rfl
  | f + 1, j, h => by
    unfold goJ
    rw [← h j (Nat.le_refl _) (by omega), goJ_congr f (j + 1) fun k h1 h2 => h k (by omega) (by omega)]
theorem closeN_congr {ls ls2 : Nat → Nat → Bool} (h : ∀ i j, i < j → j < 5 → ls i j = ls2 i j) : closeN ls 5 = closeN ls2 5 := by
  unfold closeN
  refine List.map_congr_left fun i hi => ?_
  have hi := List.mem_range.mp hi
  exact goJ_congr _ _ fun k h1 h2 => h i k (by omega) (by omega)

/-! all the ways of ten answers -/
def allB : Nat → List (List Bool)
  | 0 => [[]]
  | n + 1 => (allB n).flatMap fun l => [true :: l, false :: l]
theorem mem_allB : ∀ (n : Nat) {l : List Bool}, l.length = n → l ∈ allB n
  | 0, l, h => by have := List.length_eq_zero_iff.mp h; subst this; simp [allB]
  | n + 1, [], h => by simp at h
  | n + 1, b :: l, h => by
    have ih := mem_allB n (l := l) (by simpa using h)
    simp only [allB, List.mem_flatMap]
    exact ⟨l, ih, by cases b <;> simp⟩
def offI (i : Nat) : Nat := [0, 4, 7, 9].getD i 0
def lsB (b : List Bool) (i j : Nat) : Bool := decide (j < 5) && b.getD (offI i + (j - i - 1)) false
def bitsOf (ls : Nat → Nat → Bool) : List Bool := [ls 0 1, ls 0 2, ls 0 3, ls 0 4, ls 1 2, ls 1 3, ls 1 4, ls 2 3, ls 2 4, ls 3 4]
theorem lsB_bits (ls : Nat → Nat → Bool) : ∀ i j, i < j → j < 5 → lsB (bitsOf ls) i j = ls i j := by
  intro i j h1 h2
  have hi : i < 4 := by omega
  match i, j, h1, h2, hi with
  | 0, 1, _, _, _ => rfl
  | 0, 2, _, _, _ => rfl
  | 0, 3, _, _, _ => rfl
  | 0, 4, _, _, _ => rfl
  | 1, 2, _, _, _ => rfl
  | 1, 3, _, _, _ => rfl
  | 1, 4, _, _, _ => rfl
  | 2, 3, _, _, _ => rfl
  | 2, 4, _, _, _ => rfl
  | 3, 4, _, _, _ => rfl
def transB (ls : Nat → Nat → Bool) : Bool := (List.range 5).all fun k => (List.range k).all fun j => (List.range j).all fun i => !(ls i j && ls j k) || ls i k
def symF (cs : List Nat) : List (Nat × Bool) := (ordF cs).map fun i => (i, decide (cs.getD i 0 > i + 1))
def csAll : List (List Nat) := ((allB 10).filter fun b => transB (lsB b)).map fun b => closeN (lsB b) 5
def csL : List (List Nat) := csAll.eraseDups
end Mine
end

/-! P4 -/
section
open PySem PySem.W PyProof.Rows PySem.Calls
set_option maxRecDepth 1000000
set_option autoImplicit false
set_option linter.unusedVariables false
namespace Mine

/-! the distance with a price of one's own -/
def inG (sub : Nat → Nat → Int) (c : Nat) (a : List Nat) (row : List Int) (d : Int) : Nat → List Int × Int × Int × Int
  | 0 => ([], d, d, 9223372036854775807)
  | k + 1 =>
    let s := inG sub c a row d k
    let o := row.getD k 0
    let r := min (min s.2.2.1 o + 2) (s.2.1 + sub c (a.getD k 0))
    (s.1 ++ [r], o, r, if r < s.2.2.2 then r else s.2.2.2)
def outG (sub : Nat → Nat → Int) (a : List Nat) (m : Int) : List Nat → Nat → List Int → Int → Int
  | [], _, _, res => res
  | c :: b, j, row, _ =>
    let s := inG sub c a row (j * 2) a.length
    if s.2.2.2 > m then m + 1 else outG sub a m b (j + 1) s.1 s.2.2.1
def levCG (sub : Nat → Nat → Int) (a b : List Nat) (m : Int) : Int :=
  if ((b.length : Int) - a.length) * 2 > m then m + 1 else outG sub a m b 0 (rangeInts 2 2 a.length) 0
def levBG (sub : Nat → Nat → Int) (a b : List Nat) (m : Int) : Int :=
  if a = [] ∨ b = [] then 2 * ((a.length : Int) + b.length) else if b.length < a.length then levCG sub b a m else levCG sub a b m
def levG (sub : Nat → Nat → Int) (a b : List Nat) (m : Int) : Int :=
  if a = b then 0 else levBG sub (dropPost (dropPre a b).1 (dropPre a b).2).1 (dropPost (dropPre a b).1 (dropPre a b).2).2 m
/-- letters put for letters -/
structure Lets (om : Nat → Prop) (f : Nat → Nat) (sub : Nat → Nat → Int) : Prop where
  inj : ∀ c d, om c → om d → f c = f d → c = d
  sub : ∀ c d, om c → om d → subC (f c) (f d) = sub c d
section
variable {om : Nat → Prop} {f : Nat → Nat} {sub : Nat → Nat → Int}
theorem inS_map (h : Lets om f sub) {c : Nat} (hc : om c) {a : List Nat} (ha : ∀ x ∈ a, om x) (row : List Int) (d : Int) : ∀ k, k ≤ a.length → inS (f c) (a.map f) row d k = inG sub c a row d k
  | 0, _ => rfl
  | k + 1, hk => by
    have ih := inS_map h hc ha row d k (by omega)
    unfold inS inG
    rw [ih]
    have hx : (a.map f).getD k 0 = f (a.getD k 0) := by
      simp [List.getD_eq_getElem?_getD, List.getElem?_map, List.getElem?_eq_getElem (show k < a.length by omega)]
    have hm : a.getD k 0 ∈ a := by rw [List.getD_eq_getElem?_getD, List.getElem?_eq_getElem (show k < a.length by omega)]; exact List.getElem_mem _
    rw [hx, h.sub c _ hc (ha _ hm)]
theorem outer_map (h : Lets om f sub) {a : List Nat} (ha : ∀ x ∈ a, om x) (m : Int) : ∀ (b : List Nat), (∀ x ∈ b, om x) → ∀ j row r, outer (a.map f) m (b.map f) j row r = outG sub a m b j row r
  | [], _, _, _, _ => rfl
  | c :: b, hb, j, row, r => by
    rw [List.map_cons]
    unfold outer outG
    rw [List.length_map, inS_map h (hb c (.head _)) ha row _ _ (Nat.le_refl _)]
    dsimp only
    split
    · rfl
    · exact outer_map h ha m b (fun x hx => hb x (.tail _ hx)) _ _ _
theorem levC_map (h : Lets om f sub) {a b : List Nat} (ha : ∀ x ∈ a, om x) (hb : ∀ x ∈ b, om x) (m : Int) : levC (a.map f) (b.map f) m = levCG sub a b m := by
  unfold levC levCG
  rw [List.length_map, List.length_map, outer_map h ha m b hb]
theorem levB_map (h : Lets om f sub) {a b : List Nat} (ha : ∀ x ∈ a, om x) (hb : ∀ x ∈ b, om x) (m : Int) : levB (a.map f) (b.map f) m = levBG sub a b m := by
  unfold levB levBG
  rw [List.length_map, List.length_map, levC_map h ha hb, levC_map h hb ha]
  simp only [List.map_eq_nil_iff]
theorem dropPre_map (h : Lets om f sub) : ∀ (a b : List Nat), (∀ x ∈ a, om x) → (∀ x ∈ b, om x) → dropPre (a.map f) (b.map f) = ((dropPre a b).1.map f, (dropPre a b).2.map f) ∧ (∀ x ∈ (dropPre a b).1, om x) ∧ (∀ x ∈ (dropPre a b).2, om x)
  | [], b, ha, hb => by cases b <;> exact ⟨by simp [dropPre], ha, hb⟩
  | x :: a, [], ha, hb => ⟨by simp [dropPre], ha, hb⟩
  | x :: a, y :: b, ha, hb => by
    simp only [List.map_cons, dropPre]
    by_cases e : x = y
    · subst e
      rw [if_pos rfl, if_pos rfl]
      exact dropPre_map h a b (fun z hz => ha z (.tail _ hz)) (fun z hz => hb z (.tail _ hz))
    · rw [if_neg e, if_neg (fun q => e (h.inj x y (ha x (.head _)) (hb y (.head _)) q))]
      exact ⟨rfl, ha, hb⟩
theorem dropPost_map (h : Lets om f sub) (a b : List Nat) (ha : ∀ x ∈ a, om x) (hb : ∀ x ∈ b, om x) : dropPost (a.map f) (b.map f) = ((dropPost a b).1.map f, (dropPost a b).2.map f) ∧ (∀ x ∈ (dropPost a b).1, om x) ∧ (∀ x ∈ (dropPost a b).2, om x) := by
  obtain ⟨h1, h2, h3⟩ := dropPre_map h a.reverse b.reverse (fun x hx => ha x (List.mem_reverse.mp hx)) (fun x hx => hb x (List.mem_reverse.mp hx))
  unfold dropPost
  rw [← List.map_reverse, ← List.map_reverse, h1]
  exact ⟨by simp [List.map_reverse], fun x hx => h2 x (List.mem_reverse.mp hx), fun x hx => h3 x (List.mem_reverse.mp hx)⟩
theorem map_inj (h : Lets om f sub) : ∀ {a b : List Nat}, (∀ x ∈ a, om x) → (∀ x ∈ b, om x) → a.map f = b.map f → a = b
  | [], [], _, _, _ => rfl
  | [], _ :: _, _, _, e => by simp at e
  | _ :: _, [], _, _, e => by simp at e
  | x :: a, y :: b, ha, hb, e => by
    simp only [List.map_cons, List.cons.injEq] at e
    rw [h.inj x y (ha x (.head _)) (hb y (.head _)) e.1, map_inj h (fun z hz => ha z (.tail _ hz)) (fun z hz => hb z (.tail _ hz)) e.2]
theorem levF_map (h : Lets om f sub) {a b : List Nat} (ha : ∀ x ∈ a, om x) (hb : ∀ x ∈ b, om x) (m : Int) : levF (a.map f) (b.map f) m = levG sub a b m := by
  unfold levF levG
  by_cases e : a = b
  · rw [if_pos e, if_pos (by rw [e])]
  · rw [if_neg e, if_neg (fun q => e (map_inj h ha hb q))]
    obtain ⟨h1, h2, h3⟩ := dropPre_map h a b ha hb
    rw [h1]
    obtain ⟨k1, k2, k3⟩ := dropPost_map h _ _ h2 h3
    dsimp only
    rw [k1]
    exact levB_map h k2 k3 m
end
/-! the law's letters -/
def om (c : Nat) : Prop := (65 ≤ c ∧ c < 70) ∨ (97 ≤ c ∧ c < 102)
def low (c : Nat) : Nat := if c < 97 then c - 65 else c - 97
def subL (c d : Nat) : Int := if c = d then 0 else if low c = low d then 1 else 2
def letF (tot c : Nat) : Nat := if c < 97 then 65 + placeAt tot (c - 65) else 97 + placeAt tot (c - 97)
theorem lower_ok : ∀ p < 22, lowerL [65 + p] = [97 + p] ∧ lowerL [97 + p] = [97 + p] := by decide +kernel
theorem place_tab : ∀ q < 5, ∀ r < 22, ∀ i < 5, ∀ j < 5, (r + i * (2 * q + 1)) % 22 = (r + j * (2 * q + 1)) % 22 → i = j := by decide +kernel
theorem place_inj {tot i j : Nat} (hi : i < 5) (hj : j < 5) (h : placeAt tot i = placeAt tot j) : i = j := by
  refine place_tab (tot / 22 % 5) (Nat.mod_lt _ (by decide)) (tot % 22) (Nat.mod_lt _ (by decide)) i hi j hj ?_
  unfold placeAt at h
  rw [Nat.mod_add_mod, Nat.mod_add_mod]
  exact h
theorem let_low {tot c : Nat} (h : om c) : lowerL [letF tot c] = [97 + placeAt tot (low c)] ∧ low c < 5 := by
  unfold letF low
  have hp := fun i => lower_ok (placeAt tot i) (placeAt_lt tot i)
  rcases h with ⟨h1, h2⟩ | ⟨h1, h2⟩
  · rw [if_pos (by omega), if_pos (by omega)]
    exact ⟨(hp _).1, by omega⟩
  · rw [if_neg (by omega), if_neg (by omega)]
    exact ⟨(hp _).2, by omega⟩
theorem lets (tot : Nat) : Lets om (letF tot) subL where
  inj := fun c d hc hd h => by
    have p1 := placeAt_lt tot (c - 65); have p2 := placeAt_lt tot (c - 97); have p3 := placeAt_lt tot (d - 65); have p4 := placeAt_lt tot (d - 97)
    unfold letF at h
    rcases hc with ⟨h1, h2⟩ | ⟨h1, h2⟩ <;> rcases hd with ⟨h3, h4⟩ | ⟨h3, h4⟩
    · rw [if_pos (by omega), if_pos (by omega)] at h
      have := place_inj (tot := tot) (i := c - 65) (j := d - 65) (by omega) (by omega) (by omega)
      omega
    · rw [if_pos (by omega), if_neg (by omega)] at h; omega
    · rw [if_neg (by omega), if_pos (by omega)] at h; omega
    · rw [if_neg (by omega), if_neg (by omega)] at h
      have := place_inj (tot := tot) (i := c - 97) (j := d - 97) (by omega) (by omega) (by omega)
      omega
  sub := fun c d hc hd => by
    obtain ⟨l1, b1⟩ := let_low (tot := tot) hc
    obtain ⟨l2, b2⟩ := let_low (tot := tot) hd
    have hinj : letF tot c = letF tot d → c = d := fun h => by
      have p1 := placeAt_lt tot (c - 65); have p2 := placeAt_lt tot (c - 97); have p3 := placeAt_lt tot (d - 65); have p4 := placeAt_lt tot (d - 97)
      unfold letF at h
      rcases hc with ⟨h1, h2⟩ | ⟨h1, h2⟩ <;> rcases hd with ⟨h3, h4⟩ | ⟨h3, h4⟩
      · rw [if_pos (by omega), if_pos (by omega)] at h
        have := place_inj (tot := tot) (i := c - 65) (j := d - 65) (by omega) (by omega) (by omega)
        omega
      · rw [if_pos (by omega), if_neg (by omega)] at h; omega
      · rw [if_neg (by omega), if_pos (by omega)] at h; omega
      · rw [if_neg (by omega), if_neg (by omega)] at h
        have := place_inj (tot := tot) (i := c - 97) (j := d - 97) (by omega) (by omega) (by omega)
        omega
    unfold subC subL
    rw [l1, l2]
    by_cases e : c = d
    · rw [if_pos e, if_pos (by rw [e])]
    · rw [if_neg e, if_neg (fun q => e (hinj q))]
      by_cases e2 : low c = low d
      · rw [if_pos e2, if_pos (by rw [e2])]
      · rw [if_neg e2, if_neg (fun q => e2 (place_inj b1 b2 (by simp at q; omega)))]
end Mine
end

/-! P5 -/
section
open PySem PySem.W PyProof.Rows PySem.Calls
set_option maxRecDepth 1000000
set_option autoImplicit false
set_option linter.unusedVariables false
namespace Mine

/-- the outlines that there are -/
def csOk : List (List Nat) := [[5, 5, 5, 5, 5], [1, 5, 5, 5, 5], [5, 2, 5, 5, 5], [1, 2, 5, 5, 5], [2, 2, 5, 5, 5], [5, 5, 3, 5, 5], [1, 5, 3, 5, 5],
  [5, 2, 3, 5, 5], [1, 2, 3, 5, 5], [2, 2, 3, 5, 5], [5, 3, 3, 5, 5], [1, 3, 3, 5, 5], [3, 3, 3, 5, 5], [3, 2, 3, 5, 5],
  [5, 5, 5, 4, 5], [1, 5, 5, 4, 5], [5, 2, 5, 4, 5], [1, 2, 5, 4, 5], [2, 2, 5, 4, 5], [5, 5, 3, 4, 5], [1, 5, 3, 4, 5],
  [5, 2, 3, 4, 5], [1, 2, 3, 4, 5], [2, 2, 3, 4, 5], [5, 3, 3, 4, 5], [1, 3, 3, 4, 5], [3, 3, 3, 4, 5], [3, 2, 3, 4, 5],
  [5, 5, 4, 4, 5], [1, 5, 4, 4, 5], [5, 2, 4, 4, 5], [1, 2, 4, 4, 5], [2, 2, 4, 4, 5], [5, 4, 4, 4, 5], [1, 4, 4, 4, 5],
  [4, 4, 4, 4, 5], [4, 2, 4, 4, 5], [5, 4, 3, 4, 5], [1, 4, 3, 4, 5], [4, 4, 3, 4, 5], [4, 2, 3, 4, 5], [4, 3, 3, 4, 5]]
def chkB (b : List Bool) : Bool := !transB (lsB b) || (decide ((runI (lsB b) 6).shut = symF (closeN (lsB b) 5)) && decide (closeN (lsB b) 5 ∈ csOk))
def bitsD : Nat → List (List Bool)
  | 0 => allB 10
  | k + 1 => (bitsD k).drop 256
set_option maxHeartbeats 0
theorem chkB_0 : ((bitsD 0).take 256).all chkB = true := by decide +kernel
theorem chkB_1 : ((bitsD 1).take 256).all chkB = true := by decide +kernel
theorem chkB_2 : ((bitsD 2).take 256).all chkB = true := by decide +kernel
theorem chkB_3 : (bitsD 3).all chkB = true := by decide +kernel
theorem chkB_ok : ((allB 10).all chkB) = true := all_parts 256 chkB_0 (all_parts 256 chkB_1 (all_parts 256 chkB_2 chkB_3))
def absW (cs : List Nat) : List Nat := (symF cs).map fun p => if p.2 = true then 65 + p.1 else 97 + p.1
def absV (cs : List Nat) : List Nat := ((symF cs).filter fun p => !p.2).map fun p => 97 + p.1
def absO : List Nat := [97, 98, 99, 100, 101]
def omB (c : Nat) : Bool := (decide (65 ≤ c) && decide (c < 70)) || (decide (97 ≤ c) && decide (c < 102))
def toldB (bd : Int) (p : List Nat × Int) : Bool := decide (p.1.length ≤ 40) && p.1.all omB && decide (levG subL absO p.1 p.2 = p.2) && (decide (levG subL p.1 absO bd = p.2) || (decide (bd < p.2) && decide (levG subL p.1 absO bd = bd + 1)))
def chkC (cs : List Nat) : Bool := krunOk (kLt (keyC cs)) 5 (kas_sort 5) && ((ordF cs).all fun i => decide (i < 5)) && decide ((ordF cs).length ≤ 40) && (List.range 12).all fun k => (tripF (absW cs) (absV cs) cs).all (toldB ((k : Int) - 1))
theorem chkC_0 : (csOk.take 14).all chkC = true := by decide +kernel
theorem chkC_1 : ((csOk.drop 14).take 14).all chkC = true := by decide +kernel
theorem chkC_2 : ((csOk.drop 14).drop 14).all chkC = true := by decide +kernel
theorem chkC_ok : (csOk.all chkC) = true := all_parts 14 chkC_0 (all_parts 14 chkC_1 chkC_2)
end Mine
end

/-! P6 -/
section
open PySem PySem.W PyProof.Rows PySem.Calls
set_option maxRecDepth 100000
set_option autoImplicit false
set_option linter.unusedVariables false
namespace Mine

theorem omB_om {c : Nat} (h : omB c = true) : om c := by
  unfold omB at h
  simp only [Bool.or_eq_true, Bool.and_eq_true, decide_eq_true_eq] at h
  exact h
theorem lsR_five (du : List Nat) (tot i : Nat) : lsR du tot i 5 = false := by
  unfold lsR
  have : rowAt du tot 5 = [] := by unfold rowAt; rw [if_neg (by decide)]
  rw [this]
  unfold lessF
  rw [if_pos (by show (wsOf []).n ≤ _; exact Nat.zero_le _)]
theorem lsR_cols (du : List Nat) (tot i j : Nat) (hi : i < 5) (hj : j < 5) : lsR du tot i j = colLess (leadsF du 5) i j := by
  unfold lsR rowAt
  rw [if_pos hi, if_pos hj, ws_row, ws_row, less_cols (leadAt_ok du _) (leadAt_ok du _) (leadAt_len du _) (leadAt_len du _)]
  unfold colsLt colLess
  have e : ∀ k, k < 5 → (leadsF du 5).getD k [] = leadAt du (k + 1) := fun k hk => by simp [leadsF, hk]
  rw [e i hi, e j hj]
theorem colLess_trans (leads : List (List Nat)) (i j k : Nat) (h1 : colLess leads i j = true) (h2 : colLess leads j k = true) : colLess leads i k = true := by
  unfold colLess at *
  simp only [List.all_map, List.all_eq_true, Function.comp, decide_eq_true_eq] at *
  intro t ht
  exact Int.lt_trans (h1 t ht) (h2 t ht)
theorem tot_lt {du : List Nat} (hl : du.length = 5) (hb : ∀ x ∈ du, x < 1000000) : totF du < 1000000 := by
  have : ∀ l : List Nat, (∀ x ∈ l, x < 1000000) → (l.map fun x => x / 40).sum ≤ 25000 * l.length := by
    intro l
    induction l with
    | nil => intro _; simp
    | cons x l ih =>
      intro h
      have h1 := ih fun y hy => h y (.tail _ hy)
      have h2 := h x (.head _)
      simp only [List.map_cons, List.sum_cons, List.length_cons]
      omega
  have := this du hb
  unfold totF
  omega
theorem mk_eq (tot : Nat) (cs : List Nat) : (symF cs).map (mk tot) = expF tot cs (ordF cs) := by
  unfold symF expF
  rw [List.map_map]
  refine List.map_congr_left fun i _ => ?_
  simp only [Function.comp, mk, decide_eq_true_eq]
theorem word_eq (tot : Nat) (cs : List Nat) (hlt : ∀ i ∈ ordF cs, i < 5) : (expF tot cs (ordF cs)).map signF = (absW cs).map (letF tot) := by
  unfold absW
  rw [← mk_eq, List.map_map, List.map_map]
  refine List.map_congr_left fun p hp => ?_
  have hi : p.1 < 5 := by
    unfold symF at hp
    obtain ⟨i, h1, rfl⟩ := List.mem_map.mp hp
    exact hlt i h1
  obtain ⟨i, b⟩ := p
  have hq := placeAt_lt tot i
  simp only [Function.comp] at hi ⊢
  cases b with
  | true =>
    show signF (256 + ((placeAt tot i : Nat) : Int)) = letF tot (65 + i)
    unfold signF letF
    rw [if_neg (by omega), if_pos (by omega), show 65 + i - 65 = i by omega]
    omega
  | false =>
    show signF (255 - ((placeAt tot i : Nat) : Int)) = letF tot (97 + i)
    unfold signF letF
    rw [if_pos (by omega), if_neg (by omega), show 97 + i - 97 = i by omega]
    omega
theorem leaves_eq (tot : Nat) (cs : List Nat) (hlt : ∀ i ∈ ordF cs, i < 5) : leavesF (expF tot cs (ordF cs)) = (absV cs).map (letF tot) := by
  unfold absV leavesF
  rw [← mk_eq, List.filter_map, List.map_map, List.map_map]
  have hf : ∀ p ∈ symF cs, ((fun x => decide (x < 256)) ∘ mk tot) p = !p.2 := fun p _ => by
    obtain ⟨i, b⟩ := p
    have hq := placeAt_lt tot i
    cases b with
    | true => show decide (256 + ((placeAt tot i : Nat) : Int) < 256) = false; exact decide_eq_false (by omega)
    | false => show decide (255 - ((placeAt tot i : Nat) : Int) < 256) = true; exact decide_eq_true (by omega)
  rw [List.filter_congr hf]
  refine List.map_congr_left fun p hp => ?_
  obtain ⟨h1, h2⟩ := List.mem_filter.mp hp
  have hi : p.1 < 5 := by
    unfold symF at h1
    obtain ⟨i, h9, rfl⟩ := List.mem_map.mp h1
    exact hlt i h9
  obtain ⟨i, b⟩ := p
  have hq := placeAt_lt tot i
  cases b with
  | true => cases h2
  | false =>
    show (352 - (255 - ((placeAt tot i : Nat) : Int))).toNat = letF tot (97 + i)
    have hi' : i < 5 := hi
    unfold letF
    rw [if_neg (by omega), show 97 + i - 97 = i by omega]
    omega
theorem open_eq (tot : Nat) : openF tot = absO.map (letF tot) := rfl
theorem trip_eq (tot : Nat) (w v cs : List Nat) : tripF (w.map (letF tot)) (v.map (letF tot)) cs = (tripF w v cs).map fun p => (p.1.map (letF tot), p.2) := by
  simp [tripF, List.map_reverse]
theorem plain {du : List Nat} (hl : du.length = 5) (hb : ∀ x ∈ du, x < 1000000) : Plain du (toksT du (totF du) 5) := by
  have hB := List.all_eq_true.mp chkB_ok (bitsOf (lsR du (totF du))) (mem_allB 10 rfl)
  generalize htot : totF du = tot at *
  have agree : ∀ i j, i < j → j < 6 → lsR du tot i j = lsB (bitsOf (lsR du tot)) i j := fun i j h1 h2 => by
    by_cases h5 : j = 5
    · subst h5; rw [lsR_five]; unfold lsB; simp
    · exact (lsB_bits _ i j h1 (by omega)).symm
  have hcs : csF du = closeN (lsB (bitsOf (lsR du tot))) 5 := by
    unfold csF
    exact closeN_congr fun i j h1 h2 => by rw [← agree i j h1 (by omega)]; exact (lsR_cols du tot i j (by omega) h2).symm
  have htr : transB (lsB (bitsOf (lsR du tot))) = true := by
    unfold transB
    simp only [List.all_eq_true]
    intro k hk j hj i hi
    have hk := List.mem_range.mp hk
    have hj := List.mem_range.mp hj
    have hi := List.mem_range.mp hi
    rw [← agree i j hi (by omega), ← agree j k hj (by omega), ← agree i k (by omega) (by omega), lsR_cols du tot i j (by omega) (by omega), lsR_cols du tot j k (by omega) (by omega), lsR_cols du tot i k (by omega) (by omega)]
    cases h1 : colLess (leadsF du 5) i j with
    | false => rfl
    | true =>
      cases h2 : colLess (leadsF du 5) j k with
      | false => rfl
      | true => rw [colLess_trans _ i j k h1 h2]; rfl
  unfold chkB at hB
  rw [htr, ← hcs, ← (runI_congr agree 6 (Nat.le_refl _)).1] at hB
  simp only [Bool.not_true, Bool.false_or, Bool.and_eq_true, decide_eq_true_eq] at hB
  obtain ⟨hrun, hmem⟩ := hB
  have hC := List.all_eq_true.mp chkC_ok _ hmem
  unfold chkC at hC
  simp only [Bool.and_eq_true, decide_eq_true_eq, List.all_eq_true] at hC
  obtain ⟨⟨⟨c1, c2⟩, c3⟩, c4⟩ := hC
  have hshut : (psAt (rowsL (toksT du tot 5))).shut = expF tot (csF du) (ordF (csF du)) := by rw [shut_run, hrun, mk_eq]
  refine { len := hl, tot := tot_lt hl hb, read := ?_, tok := toksT_bd du tot 5, tokl := Nat.le_trans (toksT_len du tot 5) (by decide), rowl := ?_, rowc := ?_, ok := c1, olt := c2, oll := c3, shut := ?_, told := ?_ }
  · rw [htot]
    have := reads_page du tot 5 reads_nil (.inr ⟨rfl, rfl⟩) 900 (by rw [List.append_nil]; exact Nat.le_trans (toksT_len du tot 5) (by decide))
    rwa [List.append_nil, List.append_nil] at this
  · rw [rowsL_eq]; simp
  · intro r hr
    rw [rowsL_eq] at hr
    rcases List.mem_append.mp hr with hr | hr
    · obtain ⟨k, hk, rfl⟩ := List.mem_map.mp hr
      have h6 := leadAt_len du (k + 1)
      have hlen : (rowT du tot k).length = (leadAt du (k + 1)).length + 3 := by simp [rowT]
      exact ⟨by omega, fun _ => by rw [ws_row, ws_n]; omega⟩
    · rw [List.mem_singleton.mp hr]; exact ⟨by simp, fun h => absurd rfl h⟩
  · rw [htot]; exact hshut
  · rw [htot, word_eq tot _ c2, leaves_eq tot _ c2, trip_eq, open_eq]
    intro p hp
    obtain ⟨q, hq, rfl⟩ := List.mem_map.mp hp
    have hk : tot % 12 < 12 := Nat.mod_lt _ (by decide)
    have h := c4 (tot % 12) (List.mem_range.mpr hk) q hq
    have hbd : ((tot : Int) % 12 - 1) = ((tot % 12 : Nat) : Int) - 1 := by omega
    rw [hbd]
    unfold toldB at h
    simp only [Bool.and_eq_true, Bool.or_eq_true, decide_eq_true_eq, List.all_eq_true] at h
    obtain ⟨⟨⟨h1, h2⟩, h3⟩, h4⟩ := h
    have ho : ∀ x ∈ absO, om x := by intro x hx; unfold absO at hx; unfold om; simp at hx; omega
    have hqo : ∀ x ∈ q.1, om x := fun x hx => omB_om (h2 x hx)
    refine ⟨by simpa using h1, ?_, ?_⟩
    · rw [levF_map (lets tot) ho hqo]; exact h3
    · rw [levF_map (lets tot) hqo ho]; exact h4
end Mine
end

/-! W21 -/
section
open PySem PySem.W PyProof.Rows PySem.Calls
set_option maxRecDepth 100000
set_option autoImplicit false
set_option linter.unusedVariables false
namespace Mine

/-! what the heap that the text leaves must hold -/
def fdAt (K : Frag) (a : Addr) : Option FuncData := match K.lookup a with
  | some o => (match o.data with
    | .func fd => some fd
    | _ => none)
  | none => none
def restAt (K : Frag) (a : Addr) : Rest := match fdAt K a with
  | some fd => ⟨fd.name, fd.qualname, fd.doc, fd.pyModule, fd.annotations, fd.code, fd.closureTuple⟩
  | none => ⟨Str.ofString "", Str.ofString "", .none, .none, none, .none, .none⟩
structure DefK (K : Frag) (a : Addr) (st : Stmt) : Prop where
  fd : fdAt K a = some (fdOf st (restAt K a))
  code : codeIn K (restAt K a).cdv (restAt K a).qual = true
  keep : keepIn K (.ref a) = true
theorem DefK.def {S : St} {a : Addr} {st : Stmt} (d : DefK S.K a st) : Def S a (fdOf st (restAt S.K a)) where
  look := by
    have h := d.fd
    unfold fdAt at h
    cases e : S.K.lookup a with
    | none => rw [e] at h; cases h
    | some o =>
      rw [e] at h
      dsimp only at h
      refine ⟨o, rfl, ?_⟩
      split at h
      · rename_i fd hd; rw [hd]; rw [Option.some.inj h]
      · cases h
  code := d.code
  keep := d.keep
def GlobK (K : Frag) (x : Str) (y : Value) : Prop := nsIn K mainGlobals x = some (some y) ∨ (nsIn K mainGlobals x = some none ∧ bootBuiltins x = some y ∧ x ≠ "__name__")
def allGl : List (Str × Value) :=
  [(Str.ofString "_CASE_COST", .int 1 200), (Str.ofString "_MOVE_COST", .int 2 198), (Str.ofString "_MAX_STRING_SIZE", .int 40 196), (Str.ofString "NT_OFFSET", .int 256 432), (Str.ofString "ENDMARKER", .int 0 334),
    (Str.ofString "_substitution_cost", .ref 28), (Str.ofString "_levenshtein_distance", .ref 35), (Str.ofString "Whitespace", .ref 97), (Str.ofString "ISTERMINAL", .ref 111), (Str.ofString "ISNONTERMINAL", .ref 118), (Str.ofString "ISEOF", .ref 125),
    (Str.ofString "EXACT_TOKEN_TYPES", .ref 102), (Str.ofString "_law_read", .ref 132), (Str.ofString "_law_column", .ref 139), (Str.ofString "_law_least", .ref 146),
    (Str.ofString "len", .builtin "len"), (Str.ofString "list", .type "list"), (Str.ofString "range", .type "range"), (Str.ofString "min", .builtin "min"), (Str.ofString "max", .builtin "max"), (Str.ofString "tuple", .type "tuple"), (Str.ofString "abs", .builtin "abs"),
    (Str.ofString "sum", .builtin "sum"), (Str.ofString "chr", .builtin "chr"), (Str.ofString "ord", .builtin "ord"), (Str.ofString "all", .builtin "all"), (Str.ofString "sorted", .builtin "sorted"), (Str.ofString "isinstance", .builtin "isinstance"), (Str.ofString "bool", .type "bool")]
/-- a table of numbers by texts -/
def tabOf : List DictEntry → Option (List (List Nat × Nat))
  | [] => some []
  | e :: es => match e.key, e.val, tabOf es with
    | .str s _, .int (.ofNat k) _, some l => some ((s.cps.toList, k) :: l)
    | _, _, _ => none
theorem tabOf_find : ∀ {es : List DictEntry} {l : List (List Nat × Nat)}, tabOf es = some l → ∀ xs : List Nat, match l.lookup xs with
    | some t => ∃ tk, (es.find? fun e => Value.isStrOf ⟨xs.toArray⟩ e.key).map (·.val) = some (.int t tk)
    | none => (es.find? fun e => Value.isStrOf ⟨xs.toArray⟩ e.key).map (·.val) = none
  | [], l, h, xs => by cases h; rfl
  | e :: es, l, h, xs => by
    unfold tabOf at h
    split at h
    · rename_i s t k tk l' hk hv hl
      cases h
      have ih := tabOf_find hl xs
      have hs : Value.isStrOf (⟨xs.toArray⟩ : Str) e.key = (xs == s.cps.toList) := by
        rw [hk]
        show (s == (⟨xs.toArray⟩ : Str)) = _
        have := strEq s.cps.toList xs
        rw [show (⟨s.cps.toList.toArray⟩ : Str) = s by cases s; simp] at this
        rw [this]
        exact Bool.beq_comm
      rw [List.lookup_cons, List.find?_cons, hs]
      cases hx : xs == s.cps.toList with
      | true => exact ⟨tk, by simp [hv]⟩
      | false => exact ih
    · cases h
structure KF (K : Frag) (P : Params) : Prop where
  d5 : DefK K 28 (stAt 5)
  d6 : DefK K 35 (stAt 6)
  d61 : DefK K 111 (stAt 61)
  d62 : DefK K 118 (stAt 62)
  d63 : DefK K 125 (stAt 63)
  d65 : DefK K 132 (stAt 65)
  d66 : DefK K 139 (stAt 66)
  d67 : DefK K 146 (stAt 67)
  dI : DefK K 52 (inCls 1 (stAt 8))
  dL : DefK K 59 (inCls 2 (stAt 8))
  dN : DefK K 66 (inCls 3 (stAt 8))
  dX : DefK K 87 (inCls 6 (stAt 8))
  gl : ∀ p ∈ allGl, GlobK K p.1 p.2
  tab : ∃ es n, K.lookup 102 = some ⟨.type "dict", none, .dict es n, #[]⟩ ∧ KeysLit P es.toList ∧ tabOf es.toList = some tokTab
  fI : findIn K (.ref 97) (Str.ofString "__init__") = some (some (.ref 52))
  fL : findIn K (.ref 97) (Str.ofString "longest_run_of_spaces") = some (some (.ref 59))
  fN : findIn K (.ref 97) (Str.ofString "indent_level") = some (some (.ref 66))
  fX : findIn K (.ref 97) (Str.ofString "less") = some (some (.ref 87))
  tI : typeIn K (.ref 52) = some (.type "function")
  tL : isFn K (.ref 59) = true
  tN : isFn K (.ref 66) = true
  tX : isFn K (.ref 87) = true
  plain : plainGet K 97 (Str.ofString "") = true
  hasD : hasDictIn K 97 = true
  setA : findIn K (.ref 97) "__setattr__" = some (some (.builtin "object.__setattr__"))
  over : plainOver K 97 = true
  none : ∀ x ∈ atWs, findIn K (.ref 97) x = some none
  makes : makesIn K 97 = true
  kC : keepIn K (.ref 97) = true
  tC : typeIn K (.ref 97) = some (.type "type")
  reads : readsIn K 97 (.type "type") = true
  cS : findCls K (.ref 97) (.type "type") (Str.ofString "S") = some (.val (.str (Str.ofString " ") 245))
  cT : findCls K (.ref 97) (.type "type") (Str.ofString "T") = some (.val (.str (Str.ofString "\t") 246))
abbrev ads : Ads := ⟨97, 132, 125, 111, 118, 146, 35, 139⟩
theorem allGl_of {x : Str} {y : Value} (i : Nat) (h : allGl[i]? = some (x, y)) : (x, y) ∈ allGl := List.mem_of_getElem? h
theorem lawEnv {S : St} (k : KF S.K S.w.params) (ok : StOk S) : LawEnv S ads 87 := by
  have tn : ∀ i x y, allGl[i]? = some (x, y) → TopName S x y := fun i x y h => k.gl (x, y) (List.mem_of_getElem? h)
  have hCase := tn 0 _ _ rfl
  have hMove := tn 1 _ _ rfl
  have hMax := tn 2 _ _ rfl
  have hNT := tn 3 _ _ rfl
  have hEnd := tn 4 _ _ rfl
  have hSub := tn 5 _ _ rfl
  have hLev := tn 6 _ _ rfl
  have hWs := tn 7 _ _ rfl
  have hTer := tn 8 _ _ rfl
  have hNon := tn 9 _ _ rfl
  have hEof := tn 10 _ _ rfl
  have hTab := tn 11 _ _ rfl
  have hRd := tn 12 _ _ rfl
  have hCol := tn 13 _ _ rfl
  have hLst := tn 14 _ _ rfl
  have hlen := tn 15 _ _ rfl
  have hlist := tn 16 _ _ rfl
  have hrange := tn 17 _ _ rfl
  have hmin := tn 18 _ _ rfl
  have hmax := tn 19 _ _ rfl
  have htuple := tn 20 _ _ rfl
  have habs := tn 21 _ _ rfl
  have hsum := tn 22 _ _ rfl
  have hchr := tn 23 _ _ rfl
  have hord := tn 24 _ _ rfl
  have hall := tn 25 _ _ rfl
  have hsorted := tn 26 _ _ rfl
  have hisi := tn 27 _ _ rfl
  have hbool := tn 28 _ _ rfl
  have cls : ClsOk S 97 atWs := ⟨k.plain, k.hasD, k.setA, k.over, k.none⟩
  have tabOk : TabOk S 102 := by
    obtain ⟨es, n, h1, h2, h3⟩ := k.tab
    refine ⟨by decide, fun x => findBy Value.isStrOf es x, fun h X => mapOf_K X h1 h2, fun xs => ?_⟩
    have := tabOf_find h3 xs
    have e : findBy Value.isStrOf es ⟨xs.toArray⟩ = (es.toList.find? fun e => Value.isStrOf ⟨xs.toArray⟩ e.key).map (·.val) := by
      unfold findBy; cases es; simp
    show match tokTab.lookup xs with | some t => ∃ tk, findBy Value.isStrOf es ⟨xs.toArray⟩ = some (.int t tk) | none => findBy Value.isStrOf es ⟨xs.toArray⟩ = none
    rw [e]
    exact this
  have fl : ∀ ws : List Nat, ws.length ≤ 900 → Fn S 59 5 [wsV 97 ws] (.int (longF (wsOf ws))) := fun ws hw => fn_long ok k.dL.def (by
    intro p hp
    simp only [List.mem_cons, List.not_mem_nil, or_false] at hp
    rcases hp with rfl | rfl
    · exact hlen
    · exact hmax) cls 4 ws hw
  have fi : ∀ (ws : List Nat) (ts : Nat), ws.length ≤ 900 → 0 < ts → ts ≤ 2000 → Fn S 66 5 [wsV 97 ws, .int ts] (.int (indentF (wsOf ws) ts)) := fun ws ts hw h0 h1 => fn_ind ok k.dN.def (by
    intro p hp
    simp only [List.mem_cons, List.not_mem_nil, or_false] at hp
    rcases hp with rfl | rfl
    · exact hlen
    · exact hrange) cls 4 ws ts hw h0 h1
  refine { glob := ?_, globC := hCol, kC := k.kC, kF := ?_, rd := ?_, eof := ?_, ter := ?_, non := ?_, lst := ?_, lev := ?_, col := ?_, ws := ?_, cls := cls, lessI := k.fX, lessF := k.tX, lessK := k.dX.keep, less := ?_ }
  · intro p hp
    simp only [List.mem_cons, List.not_mem_nil, or_false] at hp
    rcases hp with rfl | rfl | rfl | rfl | rfl | rfl | rfl | rfl | rfl | rfl | rfl | rfl | rfl | rfl | rfl | rfl | rfl
    · exact hrange
    · exact hmin
    · exact hlen
    · exact hsum
    · exact hRd
    · exact hEof
    · exact hchr
    · exact hWs
    · exact hTer
    · exact hord
    · exact hall
    · exact hsorted
    · exact hNon
    · exact hLst
    · exact hLev
    · exact hisi
    · exact hbool
  · show (keepIn S.K (.ref 132) && keepIn S.K (.ref 125) && keepIn S.K (.ref 111) && keepIn S.K (.ref 118) && keepIn S.K (.ref 146) && keepIn S.K (.ref 35) && keepIn S.K (.ref 139)) = true
    rw [k.d65.keep, k.d63.keep, k.d61.keep, k.d62.keep, k.d67.keep, k.d6.keep, k.d66.keep]
    rfl
  · intro m page toks hp hm hr
    exact fn_read ok k.d65.def (by
      intro p hp
      simp only [List.mem_cons, List.not_mem_nil, or_false] at hp
      rcases hp with rfl | rfl
      · exact hTab
      · exact hlen) tabOk 5 page toks hp m hm hr
  · intro x; exact fn_isE ok k.d63.def hEnd 5 x
  · intro x; exact fn_isT ok k.d61.def hNT 5 x
  · intro x; exact fn_isN ok k.d62.def hNT 5 x
  · intro close far beside h1 h2
    exact fn_least ok k.d67.def (by
      intro p hp
      simp only [List.mem_cons, List.not_mem_nil, or_false] at hp
      rcases hp with rfl | rfl | rfl | rfl
      · exact hlen
      · exact hrange
      · exact habs
      · exact hmin) 5 close far beside h1 h2
  · intro x y m hx hy
    exact fn_lev (fs := 28) (t1 := 198) (t2 := 196) (t3 := 0) ok k.d6.def k.d5.keep (by
      intro p hp
      simp only [List.mem_cons, List.not_mem_nil, or_false] at hp
      rcases hp with rfl | rfl | rfl | rfl | rfl | rfl | rfl
      · exact hMove
      · exact hMax
      · exact hlen
      · exact hlist
      · exact hrange
      · exact hmin
      · exact hSub) (n := 5) (fun c d => fn_sub ok k.d5.def hCase hMove 4 c d) x y m hx hy
  · intro lead size h0 h1; exact fn_col ok k.d66.def 5 lead size h0 h1
  · intro F A G Λ e g w hw
    subst e
    exact cl_ws (n := 10) g { toClsOk := cls, read := ⟨_, k.tC, k.reads, 245, 246, k.cS, k.cT⟩ } k.makes k.fI k.tI k.dI.def (by
      intro p hp
      simp only [List.mem_cons, List.not_mem_nil, or_false] at hp
      rcases hp with rfl | rfl | rfl
      · exact hWs
      · exact hlen
      · exact htuple) w hw
  · intro ws us hw hu
    exact fn_less ok k.dX.def (by
      intro p hp
      simp only [List.mem_cons, List.not_mem_nil, or_false] at hp
      rcases hp with rfl | rfl
      · exact hmax
      · exact hrange) cls ⟨k.fL, k.tL, k.dL.keep, k.fN, k.tN, k.dN.keep⟩ 5 fl fi ws us hw hu
end Mine
end

/-! W22 -/
section
open PySem PySem.W PyProof.Rows PySem.Calls
set_option maxRecDepth 100000
set_option autoImplicit false
set_option linter.unusedVariables false
namespace Mine

theorem draw_ok (ns : List Int) : ∀ k, ∀ x ∈ drawAt ns k, 0 ≤ x ∧ x < 1000000
  | 0, x, h => by simp [drawAt] at h; omega
  | k + 1, x, h => by
    unfold drawAt at h
    rcases List.mem_or_eq_of_mem_set h with h | rfl
    · exact draw_ok ns k x h
    · omega
theorem draw_nat (ns : List Int) : ∃ du : List Nat, drawF ns = natI du ∧ du.length = 5 ∧ ∀ x ∈ du, x < 1000000 := by
  refine ⟨(drawF ns).map Int.toNat, ?_, ?_, ?_⟩
  · unfold natI
    rw [List.map_map]
    conv => lhs; rw [← List.map_id (drawF ns)]
    refine List.map_congr_left fun x hx => ?_
    have := draw_ok ns _ x hx
    simp only [id, Function.comp]
    omega
  · rw [List.length_map]; exact drawAt_len ns _
  · intro x hx
    obtain ⟨y, hy, rfl⟩ := List.mem_map.mp hx
    have := draw_ok ns _ y hy
    omega
theorem post_ok (as bs : List WData) : (PySem.Challenge.rw_rw0117_01.row.claim).post as (.bool true) bs = true := by
  kernel_rfl!
theorem nodup8 (L : Nat) (h : 148 < L) : [L, L + 1, L + 2, L + 3, L + 4, L + 5, L + 6, 148].Nodup := by
  simp only [List.nodup_cons, List.mem_cons, List.not_mem_nil, or_false, not_false_eq_true, List.nodup_nil, and_true]
  omega
theorem law_join {prog : Program} {w : World} {K : Frag} {p : Program} {loose : List Str} {mean : ExcName → Option Value} {mg mb m : Str → Option Value} {h₀ h₁ : Heap} {nm : Str} {sc : Scope} {body : List Stmt} {L fa l : Addr} {vs : List Value} {ns : List Int} {o1 o2 o3 o4 o5 o6 : Obj} {s : Shared} {Q : Flow → Shared → Prop} {E : Value → Shared → Prop}
    (k : KF K w.params) (X : K.In h₀) (T : Top p loose mean mg mb h₀) (hsc : sc = lawSc) (hb : body = lawB) (hl : h₀.IsList l vs.toArray) (hI : IntsAre vs ns) (hn : ns.length ≤ 63) (C : CodeHd h₀ 150 148) (Fr₁ : Fr h₀ L h₁ m) (hm : m (Str.ofString "script") = some (.ref l))
    (N₁ : News h₀ L h₁ [(L + 1 + 1 + 1 + 1 + 1 + 1, o6), (L + 1 + 1 + 1 + 1 + 1, o5), (L + 1 + 1 + 1 + 1, o4), (L + 1 + 1 + 1, o3), (L + 1 + 1, o2), (L + 1, o1), (148, tabObj #[])]) (h148 : 148 < L)
    (d1 : o1.data = .cell none) (d2 : o2.data = .cell none) (d3 : o3.data = .cell none) (d4 : o4.data = .cell none) (d5 : o5.data = .cell none) (d6 : o6.data = .cell none) (hs : s.heap = h₁)
    (hQ : ∀ h tk, (∀ b o, h₀.get? b = some o → h.get? b = some o) → GrownAt 148 h → Q (.ret (.bool true)) { s with heap := h, toks := tk }) :
    wpAny (model prog w) (callerA.deeper (envOfC nm sc L fa (.ref 150))) (execs body (envOfC nm sc L fa (.ref 150))) Q E s := by
  subst hsc hb hs
  let S : St := { prog, w, K, p, loose, mean, mg, mb, h₀ }
  have ok : StOk S := ⟨X, T⟩
  have e : LawEnv S ads 87 := lawEnv (S := S) k ok
  have hpos : ∀ b o, h₀.get? b = some o → b < L := fun b o q => Nat.lt_of_lt_of_le (Heap.lt_size q) Fr₁.above
  have g : Good (lawFm S nm L fa (.ref 150) h₀.get?) (callerA.deeper (envOfC nm lawSc L fa (.ref 150))) 20 :=
    { ok with
      hd := rfl
      depth := by show 1 + claimMargin + 1 + 20 + 5 < recursionLimit; decide
      units := by show 4 + 3 + 50 * 20 + 50 < cLine; decide
      st := fun b o q => .inr q
      fk := rfl
      nd := by show nsLaw.Nodup; decide +kernel }
  have N0 : ∀ q ∈ [(L + 1 + 1 + 1 + 1 + 1 + 1, o6), (L + 1 + 1 + 1 + 1 + 1, o5), (L + 1 + 1 + 1 + 1, o4), (L + 1 + 1 + 1, o3), (L + 1 + 1, o2), (L + 1, o1), (148, tabObj #[])], s.heap.get? q.1 = some q.2 ∧ h₀.get? q.1 = none := fun q hq => ⟨(N₁ q hq).1, (N₁ q hq).2.2⟩
  simp only [List.forall_mem_cons, List.not_mem_nil, false_implies, implies_true, and_true] at N0
  obtain ⟨⟨a6, z6⟩, ⟨a5, z5⟩, ⟨a4, z4⟩, ⟨a3, z3⟩, ⟨a2, z2⟩, ⟨a1, z1⟩, aP, zP⟩ := N0
  have hcell : ∀ {o : Obj}, o.data = .cell none → (LO.cell none).is h₀.get? o := fun hd => ⟨none, hd, trivial⟩
  have at0 : At (lawFm S nm L fa (.ref 150) h₀.get?) h₀.get? (fun _ => none) [some (.lst (vInts ns)), none, none, none, none, none, none, none, none, none, none, none, none, none, none, none, none, none, none, none, none, none, none, none, none, none, none] (cellsL L 148 none none none none none none (.exact (tabObj #[]))) s.heap := by
    refine ⟨⟨m, Fr₁.ns, fun i x v hx hv => ?_⟩, fun _ _ q => (by cases q), fun _ _ q => (by cases q), Fr₁.keep, fun q hq => ?_, ?_, fun _ _ => rfl, fun b hb => ?_, fun _ _ _ => rfl, fun _ _ q => q⟩
    · match i, hx, hv with
      | 0, hx, hv =>
        simp at hx hv
        subst hx hv
        obtain ⟨o, ho, hc, n, hd⟩ := hl
        exact ⟨_, hm, mkIsLst (xs := vs) ho ⟨hc, n, hd⟩ (ofIntsAre hI)⟩
      | i + 1, hx, hv =>
        exfalso
        rw [List.getElem?_cons_succ] at hv
        have := List.mem_of_getElem? hv
        simp at this
    · simp only [List.mem_cons, List.not_mem_nil, or_false] at hq
      rcases hq with rfl | rfl | rfl | rfl | rfl | rfl | rfl
      · exact ⟨_, a1, hcell d1⟩
      · exact ⟨_, a2, hcell d2⟩
      · exact ⟨_, a3, hcell d3⟩
      · exact ⟨_, a4, hcell d4⟩
      · exact ⟨_, a5, hcell d5⟩
      · exact ⟨_, a6, hcell d6⟩
      · exact ⟨_, aP, rfl⟩
    · exact nodup8 L h148
    · have hb : b ∈ [L, L + 1, L + 2, L + 3, L + 4, L + 5, L + 6, 148] := hb
      simp only [List.mem_cons, List.not_mem_nil, or_false] at hb
      rcases hb with rfl | rfl | rfl | rfl | rfl | rfl | rfl | rfl
      · exact Heap.get?_none_of_le Fr₁.above
      · exact z1
      · exact z2
      · exact z3
      · exact z4
      · exact z5
      · exact z6
      · exact zP
  obtain ⟨du, h1, h2, h3⟩ := draw_nat ns
  refine walk_law e g C ns hn du _ h1 (plain h2 h3) s h₀.get? (fun _ => none) Q E at0 fun f G' Λ' fl h tk Z' hr le hf a' => ?_
  have fin : ∀ v, v = V.bool true → ∀ x, v.is Z' x → (∃ ps, (148, LO.exact (tabObj ps)) ∈ Λ') → Q (.ret x) { s with heap := h, toks := tk } := fun v hv x hx hps => by
    subst hv
    have := isBool hx; subst this
    obtain ⟨ps, hps⟩ := hps
    obtain ⟨o, ho, rfl⟩ := a'.get hps
    exact hQ h tk (fun b o q => a'.frz _ _ (le _ _ q)) ⟨ps, ho⟩
  cases f with
  | ret v =>
    obtain ⟨x, rfl, hx⟩ := hf
    exact fin v hr.1 x hx hr.2
  | next => cases hr.1
  | brk => exact hr.elim
  | cont => exact hr.elim
end Mine
end

/-! G1 -/
section
open PySem PySem.W PyProof.Rows PySem.Calls
set_option maxRecDepth 100000
set_option autoImplicit false
set_option linter.unusedVariables false
namespace Mine

/-! the heap at the cuts of the text's run, and the part of it that the walk needs: printed by print_states.lean -/
abbrev sv (x : String) (t : Tok) : Value := .str (Str.ofString x) t
abbrev en (P : Params) (x : String) (t : Tok) (v : Value) : DictEntry := ⟨PyData.keyHash P (Str.ofString x), .str (Str.ofString x) t, v⟩
abbrev cd (x : Str) (bs mro : List Value) (ns : Addr) (y : Str) : ClassData := { name := x, bases := bs, mro := mro, ns := ns, qualname := y }
abbrev fdO (f : FuncData) : FuncData := { f with globals := 0 }
noncomputable def ob11 (P : Params) : Obj := ⟨.type "tuple", none, .seq #[] 0, #[]⟩
noncomputable def ob12 (P : Params) : Obj := ⟨.none, none, .fields #[], #[]⟩
noncomputable def ob13 (P : Params) : Obj := ⟨.type "code", none, .fields #[(sv "<module>" 182), (sv "<module>" 183), (sv "/claim/cut.py" 184), .int 1 0, .int 0 0, .int 0 0, .int 0 0, .int 0 0, .ref 11, .bool false, .int 181 0, .ref 12, .none, .none, .none, .none, .int 185 0, .int 1 0, (sv "/claim/cut.py" 186)], #[]⟩
noncomputable def ob14 (P : Params) : Obj := ⟨.type "frame", none, .plain, #[(some (.ref 13)), (some (.ref 3)), (some (.ref 3)), none, (some (sv "__main__" 164)), none, (some (.ref 0))]⟩
noncomputable def ob3 (P : Params) : Obj := ⟨.type "dict", none, .dict #[en P "__name__" 165 (sv "cpy313.tabnanny" 230), en P "__doc__" 166 .none, en P "__package__" 167 .none, en P "__loader__" 168 (.builtin "__main__.__loader__#opaque"), en P "__spec__" 169 .none, en P "__annotations__" 170 (.ref 6), en P "__builtins__" 171 (.ref 4), en P "__file__" 173 (sv "/claim/cut.py" 172), en P "__cached__" 174 .none, en P "_wall" 193 (.ref 21), en P "_MAX_STRING_SIZE" 197 (.int 40 196), en P "_MOVE_COST" 199 (.int 2 198), en P "_CASE_COST" 201 (.int 1 200), en P "_substitution_cost" 209 (.ref 28), en P "_levenshtein_distance" 229 (.ref 35)] 15, #[]⟩
noncomputable def ob12at7 (P : Params) : Obj := ⟨.none, none, .fields #[.int 1 0, .int 0 0, .ref 20, .int 8 0, .int 0 0, .ref 27, .int 14 0, .int 0 0, .ref 34], #[]⟩
noncomputable def ob15 (P : Params) : Obj := ⟨.type "tuple", none, .seq #[] 0, #[]⟩
noncomputable def ob16 (P : Params) : Obj := ⟨.none, none, .fields #[], #[]⟩
noncomputable def ob17 (P : Params) : Obj := ⟨.type "tuple", none, .seq #[(sv "k" 190)] 0, #[]⟩
noncomputable def ob18 (P : Params) : Obj := ⟨.type "tuple", none, .seq #[] 0, #[]⟩
noncomputable def ob19 (P : Params) : Obj := ⟨.none, none, .func (fdO (fdOf (stAt 0) ⟨Str.ofString "_wall", Str.ofString "_wall", .none, .none, none, .none, .none⟩)), #[]⟩
noncomputable def ob20 (P : Params) : Obj := ⟨.type "code", none, .fields #[(sv "_wall" 187), (sv "_wall" 188), (sv "/claim/cut.py" 189), .int 1 0, .int 1 0, .int 0 0, .int 0 0, .int 3 0, .ref 15, .bool true, .int 181 0, .ref 16, .none, .ref 17, .ref 18, .ref 19, .int 191 0, .int 1 0, (sv "/claim/cut.py" 192)], #[]⟩
noncomputable def ob21 (P : Params) : Obj := ⟨.type "function", none, .func (fdOf (stAt 0) ⟨Str.ofString "_wall", Str.ofString "_wall", .none, (sv "__main__" 164), none, .ref 20, .none⟩), #[]⟩
noncomputable def ob22 (P : Params) : Obj := ⟨.type "tuple", none, .seq #[] 0, #[]⟩
noncomputable def ob23 (P : Params) : Obj := ⟨.none, none, .fields #[], #[]⟩
noncomputable def ob24 (P : Params) : Obj := ⟨.type "tuple", none, .seq #[(sv "ch_a" 205), (sv "ch_b" 206)] 0, #[]⟩
noncomputable def ob25 (P : Params) : Obj := ⟨.type "tuple", none, .seq #[] 0, #[]⟩
noncomputable def ob26 (P : Params) : Obj := ⟨.none, none, .func (fdO (fdOf (stAt 5) ⟨Str.ofString "_substitution_cost", Str.ofString "_substitution_cost", .none, .none, none, .none, .none⟩)), #[]⟩
noncomputable def ob27 (P : Params) : Obj := ⟨.type "code", none, .fields #[(sv "_substitution_cost" 202), (sv "_substitution_cost" 203), (sv "/claim/cut.py" 204), .int 8 0, .int 2 0, .int 0 0, .int 0 0, .int 3 0, .ref 22, .bool true, .int 181 0, .ref 23, .none, .ref 24, .ref 25, .ref 26, .int 207 0, .int 8 0, (sv "/claim/cut.py" 208)], #[]⟩
noncomputable def ob28 (P : Params) : Obj := ⟨.type "function", none, .func (fdOf (stAt 5) ⟨Str.ofString "_substitution_cost", Str.ofString "_substitution_cost", .none, (sv "cpy313.traceback" 194), none, .ref 27, .none⟩), #[]⟩
noncomputable def ob29 (P : Params) : Obj := ⟨.type "tuple", none, .seq #[] 0, #[]⟩
noncomputable def ob30 (P : Params) : Obj := ⟨.none, none, .fields #[], #[]⟩
noncomputable def ob31 (P : Params) : Obj := ⟨.type "tuple", none, .seq #[(sv "a" 213), (sv "b" 214), (sv "max_cost" 215), (sv "pre" 216), (sv "post" 217), (sv "row" 218), (sv "result" 219), (sv "bindex" 220), (sv "bchar" 221), (sv "distance" 222), (sv "minimum" 223), (sv "index" 224), (sv "substitute" 225), (sv "insert_delete" 226)] 0, #[]⟩
noncomputable def ob32 (P : Params) : Obj := ⟨.type "tuple", none, .seq #[] 0, #[]⟩
noncomputable def ob33 (P : Params) : Obj := ⟨.none, none, .func (fdO (fdOf (stAt 6) ⟨Str.ofString "_levenshtein_distance", Str.ofString "_levenshtein_distance", .none, .none, none, .none, .none⟩)), #[]⟩
noncomputable def ob34 (P : Params) : Obj := ⟨.type "code", none, .fields #[(sv "_levenshtein_distance" 210), (sv "_levenshtein_distance" 211), (sv "/claim/cut.py" 212), .int 14 0, .int 3 0, .int 0 0, .int 0 0, .int 3 0, .ref 29, .bool true, .int 181 0, .ref 30, .none, .ref 31, .ref 32, .ref 33, .int 227 0, .int 14 0, (sv "/claim/cut.py" 228)], #[]⟩
noncomputable def ob35 (P : Params) : Obj := ⟨.type "function", none, .func (fdOf (stAt 6) ⟨Str.ofString "_levenshtein_distance", Str.ofString "_levenshtein_distance", .none, (sv "cpy313.traceback" 194), none, .ref 34, .none⟩), #[]⟩
noncomputable def ob3at8 (P : Params) : Obj := ⟨.type "dict", none, .dict #[en P "__name__" 165 (sv "cpy313.tabnanny" 230), en P "__doc__" 166 .none, en P "__package__" 167 .none, en P "__loader__" 168 (.builtin "__main__.__loader__#opaque"), en P "__spec__" 169 .none, en P "__annotations__" 170 (.ref 6), en P "__builtins__" 171 (.ref 4), en P "__file__" 173 (sv "/claim/cut.py" 172), en P "__cached__" 174 .none, en P "_wall" 193 (.ref 21), en P "_MAX_STRING_SIZE" 197 (.int 40 196), en P "_MOVE_COST" 199 (.int 2 198), en P "_CASE_COST" 201 (.int 1 200), en P "_substitution_cost" 209 (.ref 28), en P "_levenshtein_distance" 229 (.ref 35), en P "Whitespace" 331 (.ref 97)] 16, #[]⟩
noncomputable def ob12at8 (P : Params) : Obj := ⟨.none, none, .fields #[.int 1 0, .int 0 0, .ref 20, .int 8 0, .int 0 0, .ref 27, .int 14 0, .int 0 0, .ref 34, .int 53 0, .int 0 0, .ref 41], #[]⟩
noncomputable def ob36 (P : Params) : Obj := ⟨.type "tuple", none, .seq #[] 0, #[]⟩
noncomputable def ob37 (P : Params) : Obj := ⟨.type "builtin_function_or_method", none, .fields #[.builtin "type.__prepare__", .type "type"], #[]⟩
noncomputable def ob38 (P : Params) : Obj := ⟨.type "dict", none, .dict #[en P "__module__" 239 (sv "cpy313.tabnanny" 230), en P "__qualname__" 241 (sv "Whitespace" 240), en P "__firstlineno__" 243 (.int 53 242), en P "S" 247 (sv " " 245), en P "T" 248 (sv "\t" 246), en P "__init__" 263 (.ref 52), en P "longest_run_of_spaces" 272 (.ref 59), en P "indent_level" 284 (.ref 66), en P "equal" 292 (.ref 73), en P "not_equal_witness" 300 (.ref 80), en P "less" 310 (.ref 87), en P "not_less_witness" 318 (.ref 94), en P "__static_attributes__" 324 (.ref 95)] 13, #[]⟩
noncomputable def ob39 (P : Params) : Obj := ⟨.type "tuple", none, .seq #[] 0, #[]⟩
noncomputable def ob40 (P : Params) : Obj := ⟨.none, none, .fields #[.int 56 0, .int 4 0, .ref 51, .int 79 0, .int 4 0, .ref 58, .int 83 0, .int 4 0, .ref 65, .int 90 0, .int 4 0, .ref 72, .int 93 0, .int 4 0, .ref 79, .int 96 0, .int 4 0, .ref 86, .int 107 0, .int 4 0, .ref 93], #[]⟩
noncomputable def ob41 (P : Params) : Obj := ⟨.type "code", none, .fields #[(sv "Whitespace" 234), (sv "Whitespace" 235), (sv "/claim/cut.py" 236), .int 53 0, .int 0 0, .int 0 0, .int 0 0, .int 0 0, .ref 39, .bool false, .int 181 0, .ref 40, .none, .none, .none, .none, .int 237 0, .int 53 0, (sv "/claim/cut.py" 238)], #[]⟩
noncomputable def ob42 (P : Params) : Obj := ⟨.type "frame", none, .plain, #[(some (.ref 41)), (some (.ref 3)), (some (.ref 38)), none, (some (sv "cpy313.tabnanny" 230)), none, (some (.ref 0))]⟩
noncomputable def ob43 (P : Params) : Obj := ⟨.type "str_ascii_iterator", none, .fields #[.none, .int 2 0], #[]⟩
noncomputable def ob44 (P : Params) : Obj := ⟨.type "tuple", none, .seq #[] 0, #[]⟩
noncomputable def ob45 (P : Params) : Obj := ⟨.type "StopIteration", none, .fields #[.ref 44, .none, .none, .none, .bool false, .none], #[]⟩
noncomputable def ob46 (P : Params) : Obj := ⟨.type "tuple", none, .seq #[] 0, #[]⟩
noncomputable def ob47 (P : Params) : Obj := ⟨.none, none, .fields #[], #[]⟩
noncomputable def ob48 (P : Params) : Obj := ⟨.type "tuple", none, .seq #[(sv "self" 252), (sv "ws" 253), (sv "S" 254), (sv "T" 255), (sv "count" 256), (sv "b" 257), (sv "n" 258), (sv "nt" 259), (sv "ch" 260)] 0, #[]⟩
noncomputable def ob49 (P : Params) : Obj := ⟨.type "tuple", none, .seq #[] 0, #[]⟩
noncomputable def ob50 (P : Params) : Obj := ⟨.none, none, .func (fdO (fdOf (inCls 1 (stAt 8)) ⟨Str.ofString "__init__", Str.ofString "Whitespace.__init__", .none, .none, none, .none, .none⟩)), #[]⟩
noncomputable def ob51 (P : Params) : Obj := ⟨.type "code", none, .fields #[(sv "__init__" 249), (sv "Whitespace.__init__" 250), (sv "/claim/cut.py" 251), .int 56 0, .int 2 0, .int 0 0, .int 0 0, .int 3 0, .ref 46, .bool true, .int 181 0, .ref 47, .none, .ref 48, .ref 49, .ref 50, .int 261 0, .int 56 0, (sv "/claim/cut.py" 262)], #[]⟩
noncomputable def ob52 (P : Params) : Obj := ⟨.type "function", none, .func (fdOf (inCls 1 (stAt 8)) ⟨Str.ofString "__init__", Str.ofString "Whitespace.__init__", .none, (sv "cpy313.tabnanny" 230), none, .ref 51, .none⟩), #[]⟩
noncomputable def ob53 (P : Params) : Obj := ⟨.type "tuple", none, .seq #[] 0, #[]⟩
noncomputable def ob54 (P : Params) : Obj := ⟨.none, none, .fields #[], #[]⟩
noncomputable def ob55 (P : Params) : Obj := ⟨.type "tuple", none, .seq #[(sv "self" 267), (sv "count" 268), (sv "trailing" 269)] 0, #[]⟩
noncomputable def ob56 (P : Params) : Obj := ⟨.type "tuple", none, .seq #[] 0, #[]⟩
noncomputable def ob57 (P : Params) : Obj := ⟨.none, none, .func (fdO (fdOf (inCls 2 (stAt 8)) ⟨Str.ofString "longest_run_of_spaces", Str.ofString "Whitespace.longest_run_of_spaces", .none, .none, none, .none, .none⟩)), #[]⟩
noncomputable def ob58 (P : Params) : Obj := ⟨.type "code", none, .fields #[(sv "longest_run_of_spaces" 264), (sv "Whitespace.longest_run_of_spaces" 265), (sv "/claim/cut.py" 266), .int 79 0, .int 1 0, .int 0 0, .int 0 0, .int 3 0, .ref 53, .bool true, .int 181 0, .ref 54, .none, .ref 55, .ref 56, .ref 57, .int 270 0, .int 79 0, (sv "/claim/cut.py" 271)], #[]⟩
noncomputable def ob59 (P : Params) : Obj := ⟨.type "function", none, .func (fdOf (inCls 2 (stAt 8)) ⟨Str.ofString "longest_run_of_spaces", Str.ofString "Whitespace.longest_run_of_spaces", .none, (sv "cpy313.tabnanny" 230), none, .ref 58, .none⟩), #[]⟩
noncomputable def ob60 (P : Params) : Obj := ⟨.type "tuple", none, .seq #[] 0, #[]⟩
noncomputable def ob61 (P : Params) : Obj := ⟨.none, none, .fields #[], #[]⟩
noncomputable def ob62 (P : Params) : Obj := ⟨.type "tuple", none, .seq #[(sv "self" 276), (sv "tabsize" 277), (sv "count" 278), (sv "trailing" 279), (sv "il" 280), (sv "i" 281)] 0, #[]⟩
noncomputable def ob63 (P : Params) : Obj := ⟨.type "tuple", none, .seq #[] 0, #[]⟩
noncomputable def ob64 (P : Params) : Obj := ⟨.none, none, .func (fdO (fdOf (inCls 3 (stAt 8)) ⟨Str.ofString "indent_level", Str.ofString "Whitespace.indent_level", .none, .none, none, .none, .none⟩)), #[]⟩
noncomputable def ob65 (P : Params) : Obj := ⟨.type "code", none, .fields #[(sv "indent_level" 273), (sv "Whitespace.indent_level" 274), (sv "/claim/cut.py" 275), .int 83 0, .int 2 0, .int 0 0, .int 0 0, .int 3 0, .ref 60, .bool true, .int 181 0, .ref 61, .none, .ref 62, .ref 63, .ref 64, .int 282 0, .int 83 0, (sv "/claim/cut.py" 283)], #[]⟩
noncomputable def ob66 (P : Params) : Obj := ⟨.type "function", none, .func (fdOf (inCls 3 (stAt 8)) ⟨Str.ofString "indent_level", Str.ofString "Whitespace.indent_level", .none, (sv "cpy313.tabnanny" 230), none, .ref 65, .none⟩), #[]⟩
noncomputable def ob67 (P : Params) : Obj := ⟨.type "tuple", none, .seq #[] 0, #[]⟩
noncomputable def ob68 (P : Params) : Obj := ⟨.none, none, .fields #[], #[]⟩
noncomputable def ob69 (P : Params) : Obj := ⟨.type "tuple", none, .seq #[(sv "self" 288), (sv "other" 289)] 0, #[]⟩
noncomputable def ob70 (P : Params) : Obj := ⟨.type "tuple", none, .seq #[] 0, #[]⟩
noncomputable def ob71 (P : Params) : Obj := ⟨.none, none, .func (fdO (fdOf (inCls 4 (stAt 8)) ⟨Str.ofString "equal", Str.ofString "Whitespace.equal", .none, .none, none, .none, .none⟩)), #[]⟩
noncomputable def ob72 (P : Params) : Obj := ⟨.type "code", none, .fields #[(sv "equal" 285), (sv "Whitespace.equal" 286), (sv "/claim/cut.py" 287), .int 90 0, .int 2 0, .int 0 0, .int 0 0, .int 3 0, .ref 67, .bool true, .int 181 0, .ref 68, .none, .ref 69, .ref 70, .ref 71, .int 290 0, .int 90 0, (sv "/claim/cut.py" 291)], #[]⟩
noncomputable def ob73 (P : Params) : Obj := ⟨.type "function", none, .func (fdOf (inCls 4 (stAt 8)) ⟨Str.ofString "equal", Str.ofString "Whitespace.equal", .none, (sv "cpy313.tabnanny" 230), none, .ref 72, .none⟩), #[]⟩
noncomputable def ob74 (P : Params) : Obj := ⟨.type "tuple", none, .seq #[] 0, #[]⟩
noncomputable def ob75 (P : Params) : Obj := ⟨.none, none, .fields #[], #[]⟩
noncomputable def ob76 (P : Params) : Obj := ⟨.type "tuple", none, .seq #[(sv "self" 296), (sv "other" 297)] 0, #[]⟩
noncomputable def ob77 (P : Params) : Obj := ⟨.type "tuple", none, .seq #[] 0, #[]⟩
noncomputable def ob78 (P : Params) : Obj := ⟨.none, none, .func (fdO (fdOf (inCls 5 (stAt 8)) ⟨Str.ofString "not_equal_witness", Str.ofString "Whitespace.not_equal_witness", .none, .none, none, .none, .none⟩)), #[]⟩
noncomputable def ob79 (P : Params) : Obj := ⟨.type "code", none, .fields #[(sv "not_equal_witness" 293), (sv "Whitespace.not_equal_witness" 294), (sv "/claim/cut.py" 295), .int 93 0, .int 2 0, .int 0 0, .int 0 0, .int 3 0, .ref 74, .bool true, .int 181 0, .ref 75, .none, .ref 76, .ref 77, .ref 78, .int 298 0, .int 93 0, (sv "/claim/cut.py" 299)], #[]⟩
noncomputable def ob80 (P : Params) : Obj := ⟨.type "function", none, .func (fdOf (inCls 5 (stAt 8)) ⟨Str.ofString "not_equal_witness", Str.ofString "Whitespace.not_equal_witness", .none, (sv "cpy313.tabnanny" 230), none, .ref 79, .none⟩), #[]⟩
noncomputable def ob81 (P : Params) : Obj := ⟨.type "tuple", none, .seq #[] 0, #[]⟩
noncomputable def ob82 (P : Params) : Obj := ⟨.none, none, .fields #[], #[]⟩
noncomputable def ob83 (P : Params) : Obj := ⟨.type "tuple", none, .seq #[(sv "self" 304), (sv "other" 305), (sv "n" 306), (sv "ts" 307)] 0, #[]⟩
noncomputable def ob84 (P : Params) : Obj := ⟨.type "tuple", none, .seq #[] 0, #[]⟩
noncomputable def ob85 (P : Params) : Obj := ⟨.none, none, .func (fdO (fdOf (inCls 6 (stAt 8)) ⟨Str.ofString "less", Str.ofString "Whitespace.less", .none, .none, none, .none, .none⟩)), #[]⟩
noncomputable def ob86 (P : Params) : Obj := ⟨.type "code", none, .fields #[(sv "less" 301), (sv "Whitespace.less" 302), (sv "/claim/cut.py" 303), .int 96 0, .int 2 0, .int 0 0, .int 0 0, .int 3 0, .ref 81, .bool true, .int 181 0, .ref 82, .none, .ref 83, .ref 84, .ref 85, .int 308 0, .int 96 0, (sv "/claim/cut.py" 309)], #[]⟩
noncomputable def ob87 (P : Params) : Obj := ⟨.type "function", none, .func (fdOf (inCls 6 (stAt 8)) ⟨Str.ofString "less", Str.ofString "Whitespace.less", .none, (sv "cpy313.tabnanny" 230), none, .ref 86, .none⟩), #[]⟩
noncomputable def ob88 (P : Params) : Obj := ⟨.type "tuple", none, .seq #[] 0, #[]⟩
noncomputable def ob89 (P : Params) : Obj := ⟨.none, none, .fields #[], #[]⟩
noncomputable def ob90 (P : Params) : Obj := ⟨.type "tuple", none, .seq #[(sv "self" 314), (sv "other" 315)] 0, #[]⟩
noncomputable def ob91 (P : Params) : Obj := ⟨.type "tuple", none, .seq #[] 0, #[]⟩
noncomputable def ob92 (P : Params) : Obj := ⟨.none, none, .func (fdO (fdOf (inCls 7 (stAt 8)) ⟨Str.ofString "not_less_witness", Str.ofString "Whitespace.not_less_witness", .none, .none, none, .none, .none⟩)), #[]⟩
noncomputable def ob93 (P : Params) : Obj := ⟨.type "code", none, .fields #[(sv "not_less_witness" 311), (sv "Whitespace.not_less_witness" 312), (sv "/claim/cut.py" 313), .int 107 0, .int 2 0, .int 0 0, .int 0 0, .int 3 0, .ref 88, .bool true, .int 181 0, .ref 89, .none, .ref 90, .ref 91, .ref 92, .int 316 0, .int 107 0, (sv "/claim/cut.py" 317)], #[]⟩
noncomputable def ob94 (P : Params) : Obj := ⟨.type "function", none, .func (fdOf (inCls 7 (stAt 8)) ⟨Str.ofString "not_less_witness", Str.ofString "Whitespace.not_less_witness", .none, (sv "cpy313.tabnanny" 230), none, .ref 93, .none⟩), #[]⟩
noncomputable def ob95 (P : Params) : Obj := ⟨.type "tuple", none, .seq #[(sv "is_simple" 319), (sv "n" 320), (sv "norm" 321), (sv "nt" 322), (sv "raw" 323)] 0, #[]⟩
noncomputable def ob96 (P : Params) : Obj := ⟨.type "dict", none, .dict #[en P "__module__" 239 (sv "cpy313.tabnanny" 230), en P "__firstlineno__" 243 (.int 53 242), en P "S" 247 (sv " " 245), en P "T" 248 (sv "\t" 246), en P "__init__" 263 (.ref 52), en P "longest_run_of_spaces" 272 (.ref 59), en P "indent_level" 284 (.ref 66), en P "equal" 292 (.ref 73), en P "not_equal_witness" 300 (.ref 80), en P "less" 310 (.ref 87), en P "not_less_witness" 318 (.ref 94), en P "__static_attributes__" 324 (.ref 95), en P "__dict__" 326 (.ref 98), en P "__weakref__" 328 (.ref 99), en P "__doc__" 329 .none] 4, #[]⟩
noncomputable def ob97 (P : Params) : Obj := ⟨.type "type", none, .cls (cd (Str.ofString "Whitespace") [.type "object"] [.ref 97, .type "object"] 96 (Str.ofString "Whitespace")), #[none, none, (some (sv "Whitespace" 232)), (some (sv "Whitespace" 240)), (some (.builtin "object.__new__")), (some (.bool true))]⟩
noncomputable def ob98 (P : Params) : Obj := ⟨.type "getset_descriptor", none, .fields #[(sv "__dict__" 325), .ref 97, .builtin "function.__dict__", .builtin "function.__dict__#set"], #[]⟩
noncomputable def ob99 (P : Params) : Obj := ⟨.type "getset_descriptor", none, .fields #[(sv "__weakref__" 327), .ref 97, .builtin "ExceptionGroup.__weakref__", .none], #[]⟩
noncomputable def ob100 (P : Params) : Obj := ⟨.type "super", none, .fields #[.ref 97, .ref 97, .ref 97], #[]⟩
noncomputable def ob101 (P : Params) : Obj := ⟨.type "builtin_function_or_method", none, .fields #[.builtin "object.__init_subclass__", .ref 97], #[]⟩
noncomputable def ob3at59 (P : Params) : Obj := ⟨.type "dict", none, .dict #[en P "__name__" 165 (sv "cpy313.token" 332), en P "__doc__" 166 .none, en P "__package__" 167 .none, en P "__loader__" 168 (.builtin "__main__.__loader__#opaque"), en P "__spec__" 169 .none, en P "__annotations__" 170 (.ref 6), en P "__builtins__" 171 (.ref 4), en P "__file__" 173 (sv "/claim/cut.py" 172), en P "__cached__" 174 .none, en P "_wall" 193 (.ref 21), en P "_MAX_STRING_SIZE" 197 (.int 40 196), en P "_MOVE_COST" 199 (.int 2 198), en P "_CASE_COST" 201 (.int 1 200), en P "_substitution_cost" 209 (.ref 28), en P "_levenshtein_distance" 229 (.ref 35), en P "Whitespace" 331 (.ref 97), en P "ENDMARKER" 335 (.int 0 334), en P "LPAR" 337 (.int 7 336), en P "RPAR" 339 (.int 8 338), en P "LSQB" 341 (.int 9 340), en P "RSQB" 343 (.int 10 342), en P "COLON" 345 (.int 11 344), en P "COMMA" 347 (.int 12 346), en P "SEMI" 349 (.int 13 348), en P "PLUS" 351 (.int 14 350), en P "MINUS" 353 (.int 15 352), en P "STAR" 355 (.int 16 354), en P "SLASH" 357 (.int 17 356), en P "VBAR" 359 (.int 18 358), en P "AMPER" 361 (.int 19 360), en P "LESS" 363 (.int 20 362), en P "GREATER" 365 (.int 21 364), en P "EQUAL" 367 (.int 22 366), en P "DOT" 369 (.int 23 368), en P "PERCENT" 371 (.int 24 370), en P "LBRACE" 373 (.int 25 372), en P "RBRACE" 375 (.int 26 374), en P "EQEQUAL" 377 (.int 27 376), en P "NOTEQUAL" 379 (.int 28 378), en P "LESSEQUAL" 381 (.int 29 380), en P "GREATEREQUAL" 383 (.int 30 382), en P "TILDE" 385 (.int 31 384), en P "CIRCUMFLEX" 387 (.int 32 386), en P "LEFTSHIFT" 389 (.int 33 388), en P "RIGHTSHIFT" 391 (.int 34 390), en P "DOUBLESTAR" 393 (.int 35 392), en P "PLUSEQUAL" 395 (.int 36 394), en P "MINEQUAL" 397 (.int 37 396), en P "STAREQUAL" 399 (.int 38 398), en P "SLASHEQUAL" 401 (.int 39 400), en P "PERCENTEQUAL" 403 (.int 40 402), en P "AMPEREQUAL" 405 (.int 41 404), en P "VBAREQUAL" 407 (.int 42 406), en P "CIRCUMFLEXEQUAL" 409 (.int 43 408), en P "LEFTSHIFTEQUAL" 411 (.int 44 410), en P "RIGHTSHIFTEQUAL" 413 (.int 45 412), en P "DOUBLESTAREQUAL" 415 (.int 46 414), en P "DOUBLESLASH" 417 (.int 47 416), en P "DOUBLESLASHEQUAL" 419 (.int 48 418), en P "AT" 421 (.int 49 420), en P "ATEQUAL" 423 (.int 50 422), en P "RARROW" 425 (.int 51 424), en P "ELLIPSIS" 427 (.int 52 426), en P "COLONEQUAL" 429 (.int 53 428), en P "EXCLAMATION" 431 (.int 54 430), en P "NT_OFFSET" 433 (.int 256 432)] 66, #[]⟩
noncomputable def ob3at60 (P : Params) : Obj := ⟨.type "dict", none, .dict #[en P "__name__" 165 (sv "cpy313.token" 332), en P "__doc__" 166 .none, en P "__package__" 167 .none, en P "__loader__" 168 (.builtin "__main__.__loader__#opaque"), en P "__spec__" 169 .none, en P "__annotations__" 170 (.ref 6), en P "__builtins__" 171 (.ref 4), en P "__file__" 173 (sv "/claim/cut.py" 172), en P "__cached__" 174 .none, en P "_wall" 193 (.ref 21), en P "_MAX_STRING_SIZE" 197 (.int 40 196), en P "_MOVE_COST" 199 (.int 2 198), en P "_CASE_COST" 201 (.int 1 200), en P "_substitution_cost" 209 (.ref 28), en P "_levenshtein_distance" 229 (.ref 35), en P "Whitespace" 331 (.ref 97), en P "ENDMARKER" 335 (.int 0 334), en P "LPAR" 337 (.int 7 336), en P "RPAR" 339 (.int 8 338), en P "LSQB" 341 (.int 9 340), en P "RSQB" 343 (.int 10 342), en P "COLON" 345 (.int 11 344), en P "COMMA" 347 (.int 12 346), en P "SEMI" 349 (.int 13 348), en P "PLUS" 351 (.int 14 350), en P "MINUS" 353 (.int 15 352), en P "STAR" 355 (.int 16 354), en P "SLASH" 357 (.int 17 356), en P "VBAR" 359 (.int 18 358), en P "AMPER" 361 (.int 19 360), en P "LESS" 363 (.int 20 362), en P "GREATER" 365 (.int 21 364), en P "EQUAL" 367 (.int 22 366), en P "DOT" 369 (.int 23 368), en P "PERCENT" 371 (.int 24 370), en P "LBRACE" 373 (.int 25 372), en P "RBRACE" 375 (.int 26 374), en P "EQEQUAL" 377 (.int 27 376), en P "NOTEQUAL" 379 (.int 28 378), en P "LESSEQUAL" 381 (.int 29 380), en P "GREATEREQUAL" 383 (.int 30 382), en P "TILDE" 385 (.int 31 384), en P "CIRCUMFLEX" 387 (.int 32 386), en P "LEFTSHIFT" 389 (.int 33 388), en P "RIGHTSHIFT" 391 (.int 34 390), en P "DOUBLESTAR" 393 (.int 35 392), en P "PLUSEQUAL" 395 (.int 36 394), en P "MINEQUAL" 397 (.int 37 396), en P "STAREQUAL" 399 (.int 38 398), en P "SLASHEQUAL" 401 (.int 39 400), en P "PERCENTEQUAL" 403 (.int 40 402), en P "AMPEREQUAL" 405 (.int 41 404), en P "VBAREQUAL" 407 (.int 42 406), en P "CIRCUMFLEXEQUAL" 409 (.int 43 408), en P "LEFTSHIFTEQUAL" 411 (.int 44 410), en P "RIGHTSHIFTEQUAL" 413 (.int 45 412), en P "DOUBLESTAREQUAL" 415 (.int 46 414), en P "DOUBLESLASH" 417 (.int 47 416), en P "DOUBLESLASHEQUAL" 419 (.int 48 418), en P "AT" 421 (.int 49 420), en P "ATEQUAL" 423 (.int 50 422), en P "RARROW" 425 (.int 51 424), en P "ELLIPSIS" 427 (.int 52 426), en P "COLONEQUAL" 429 (.int 53 428), en P "EXCLAMATION" 431 (.int 54 430), en P "NT_OFFSET" 433 (.int 256 432), en P "EXACT_TOKEN_TYPES" 530 (.ref 102)] 67, #[]⟩
noncomputable def ob102 (P : Params) : Obj := ⟨.type "dict", none, .dict #[en P "!" 434 (.int 54 430), en P "!=" 436 (.int 28 378), en P "%" 438 (.int 24 370), en P "%=" 440 (.int 40 402), en P "&" 442 (.int 19 360), en P "&=" 444 (.int 41 404), en P "(" 446 (.int 7 336), en P ")" 448 (.int 8 338), en P "*" 450 (.int 16 354), en P "**" 452 (.int 35 392), en P "**=" 454 (.int 46 414), en P "*=" 456 (.int 38 398), en P "+" 458 (.int 14 350), en P "+=" 460 (.int 36 394), en P "," 462 (.int 12 346), en P "-" 464 (.int 15 352), en P "-=" 466 (.int 37 396), en P "->" 468 (.int 51 424), en P "." 470 (.int 23 368), en P "..." 472 (.int 52 426), en P "/" 474 (.int 17 356), en P "//" 476 (.int 47 416), en P "//=" 478 (.int 48 418), en P "/=" 480 (.int 39 400), en P ":" 482 (.int 11 344), en P ":=" 484 (.int 53 428), en P ";" 486 (.int 13 348), en P "<" 488 (.int 20 362), en P "<<" 490 (.int 33 388), en P "<<=" 492 (.int 44 410), en P "<=" 494 (.int 29 380), en P "=" 496 (.int 22 366), en P "==" 498 (.int 27 376), en P ">" 500 (.int 21 364), en P ">=" 502 (.int 30 382), en P ">>" 503 (.int 34 390), en P ">>=" 504 (.int 45 412), en P "@" 505 (.int 49 420), en P "@=" 506 (.int 50 422), en P "[" 507 (.int 9 340), en P "]" 508 (.int 10 342), en P "^" 509 (.int 32 386), en P "^=" 510 (.int 43 408), en P "{" 511 (.int 25 372), en P "|" 512 (.int 18 358), en P "|=" 513 (.int 42 406), en P "}" 514 (.int 26 374), en P "~" 515 (.int 31 384)] 48, #[]⟩
noncomputable def ob103 (P : Params) : Obj := ⟨.type "dict", none, .dict #[en P "->" 468 (.int 51 424), en P "." 470 (.int 23 368), en P "..." 472 (.int 52 426), en P "/" 474 (.int 17 356), en P "//" 476 (.int 47 416), en P "//=" 478 (.int 48 418), en P "/=" 480 (.int 39 400), en P ":" 482 (.int 11 344), en P ":=" 484 (.int 53 428), en P ";" 486 (.int 13 348), en P "<" 488 (.int 20 362), en P "<<" 490 (.int 33 388), en P "<<=" 492 (.int 44 410), en P "<=" 494 (.int 29 380), en P "=" 496 (.int 22 366), en P "==" 498 (.int 27 376), en P ">" 500 (.int 21 364)] 17, #[]⟩
noncomputable def ob104 (P : Params) : Obj := ⟨.type "dict", none, .dict #[en P ">=" 502 (.int 30 382), en P ">>" 503 (.int 34 390), en P ">>=" 504 (.int 45 412), en P "@" 505 (.int 49 420), en P "@=" 506 (.int 50 422), en P "[" 507 (.int 9 340), en P "]" 508 (.int 10 342), en P "^" 509 (.int 32 386), en P "^=" 510 (.int 43 408), en P "{" 511 (.int 25 372), en P "|" 512 (.int 18 358), en P "|=" 513 (.int 42 406), en P "}" 514 (.int 26 374), en P "~" 515 (.int 31 384)] 14, #[]⟩
noncomputable def ob3at68 (P : Params) : Obj := ⟨.type "dict", none, .dict #[en P "__name__" 165 (sv "law_rw0117_01" 552), en P "__doc__" 166 .none, en P "__package__" 167 .none, en P "__loader__" 168 (.builtin "__main__.__loader__#opaque"), en P "__spec__" 169 .none, en P "__annotations__" 170 (.ref 6), en P "__builtins__" 171 (.ref 4), en P "__file__" 173 (sv "/claim/cut.py" 172), en P "__cached__" 174 .none, en P "_wall" 193 (.ref 21), en P "_MAX_STRING_SIZE" 197 (.int 40 196), en P "_MOVE_COST" 199 (.int 2 198), en P "_CASE_COST" 201 (.int 1 200), en P "_substitution_cost" 209 (.ref 28), en P "_levenshtein_distance" 229 (.ref 35), en P "Whitespace" 331 (.ref 97), en P "ENDMARKER" 335 (.int 0 334), en P "LPAR" 337 (.int 7 336), en P "RPAR" 339 (.int 8 338), en P "LSQB" 341 (.int 9 340), en P "RSQB" 343 (.int 10 342), en P "COLON" 345 (.int 11 344), en P "COMMA" 347 (.int 12 346), en P "SEMI" 349 (.int 13 348), en P "PLUS" 351 (.int 14 350), en P "MINUS" 353 (.int 15 352), en P "STAR" 355 (.int 16 354), en P "SLASH" 357 (.int 17 356), en P "VBAR" 359 (.int 18 358), en P "AMPER" 361 (.int 19 360), en P "LESS" 363 (.int 20 362), en P "GREATER" 365 (.int 21 364), en P "EQUAL" 367 (.int 22 366), en P "DOT" 369 (.int 23 368), en P "PERCENT" 371 (.int 24 370), en P "LBRACE" 373 (.int 25 372), en P "RBRACE" 375 (.int 26 374), en P "EQEQUAL" 377 (.int 27 376), en P "NOTEQUAL" 379 (.int 28 378), en P "LESSEQUAL" 381 (.int 29 380), en P "GREATEREQUAL" 383 (.int 30 382), en P "TILDE" 385 (.int 31 384), en P "CIRCUMFLEX" 387 (.int 32 386), en P "LEFTSHIFT" 389 (.int 33 388), en P "RIGHTSHIFT" 391 (.int 34 390), en P "DOUBLESTAR" 393 (.int 35 392), en P "PLUSEQUAL" 395 (.int 36 394), en P "MINEQUAL" 397 (.int 37 396), en P "STAREQUAL" 399 (.int 38 398), en P "SLASHEQUAL" 401 (.int 39 400), en P "PERCENTEQUAL" 403 (.int 40 402), en P "AMPEREQUAL" 405 (.int 41 404), en P "VBAREQUAL" 407 (.int 42 406), en P "CIRCUMFLEXEQUAL" 409 (.int 43 408), en P "LEFTSHIFTEQUAL" 411 (.int 44 410), en P "RIGHTSHIFTEQUAL" 413 (.int 45 412), en P "DOUBLESTAREQUAL" 415 (.int 46 414), en P "DOUBLESLASH" 417 (.int 47 416), en P "DOUBLESLASHEQUAL" 419 (.int 48 418), en P "AT" 421 (.int 49 420), en P "ATEQUAL" 423 (.int 50 422), en P "RARROW" 425 (.int 51 424), en P "ELLIPSIS" 427 (.int 52 426), en P "COLONEQUAL" 429 (.int 53 428), en P "EXCLAMATION" 431 (.int 54 430), en P "NT_OFFSET" 433 (.int 256 432), en P "EXACT_TOKEN_TYPES" 530 (.ref 102), en P "ISTERMINAL" 537 (.ref 111), en P "ISNONTERMINAL" 544 (.ref 118), en P "ISEOF" 551 (.ref 125), en P "_law_read" 563 (.ref 132), en P "_law_column" 573 (.ref 139), en P "_law_least" 587 (.ref 146), en P "law" 593 (.ref 151)] 74, #[]⟩
noncomputable def ob12at68 (P : Params) : Obj := ⟨.none, none, .fields #[.int 1 0, .int 0 0, .ref 20, .int 8 0, .int 0 0, .ref 27, .int 14 0, .int 0 0, .ref 34, .int 53 0, .int 0 0, .ref 41, .int 161 0, .int 0 0, .ref 110, .int 163 0, .int 0 0, .ref 117, .int 165 0, .int 0 0, .ref 124, .int 168 0, .int 0 0, .ref 131, .int 178 0, .int 0 0, .ref 138, .int 183 0, .int 0 0, .ref 145, .int 194 0, .int 0 0, .ref 150], #[]⟩
noncomputable def ob105 (P : Params) : Obj := ⟨.type "tuple", none, .seq #[] 0, #[]⟩
noncomputable def ob106 (P : Params) : Obj := ⟨.none, none, .fields #[], #[]⟩
noncomputable def ob107 (P : Params) : Obj := ⟨.type "tuple", none, .seq #[(sv "x" 534)] 0, #[]⟩
noncomputable def ob108 (P : Params) : Obj := ⟨.type "tuple", none, .seq #[] 0, #[]⟩
noncomputable def ob109 (P : Params) : Obj := ⟨.none, none, .func (fdO (fdOf (stAt 61) ⟨Str.ofString "ISTERMINAL", Str.ofString "ISTERMINAL", .none, .none, none, .none, .none⟩)), #[]⟩
noncomputable def ob110 (P : Params) : Obj := ⟨.type "code", none, .fields #[(sv "ISTERMINAL" 531), (sv "ISTERMINAL" 532), (sv "/claim/cut.py" 533), .int 161 0, .int 1 0, .int 0 0, .int 0 0, .int 3 0, .ref 105, .bool true, .int 181 0, .ref 106, .none, .ref 107, .ref 108, .ref 109, .int 535 0, .int 161 0, (sv "/claim/cut.py" 536)], #[]⟩
noncomputable def ob111 (P : Params) : Obj := ⟨.type "function", none, .func (fdOf (stAt 61) ⟨Str.ofString "ISTERMINAL", Str.ofString "ISTERMINAL", .none, (sv "cpy313.token" 332), none, .ref 110, .none⟩), #[]⟩
noncomputable def ob112 (P : Params) : Obj := ⟨.type "tuple", none, .seq #[] 0, #[]⟩
noncomputable def ob113 (P : Params) : Obj := ⟨.none, none, .fields #[], #[]⟩
noncomputable def ob114 (P : Params) : Obj := ⟨.type "tuple", none, .seq #[(sv "x" 541)] 0, #[]⟩
noncomputable def ob115 (P : Params) : Obj := ⟨.type "tuple", none, .seq #[] 0, #[]⟩
noncomputable def ob116 (P : Params) : Obj := ⟨.none, none, .func (fdO (fdOf (stAt 62) ⟨Str.ofString "ISNONTERMINAL", Str.ofString "ISNONTERMINAL", .none, .none, none, .none, .none⟩)), #[]⟩
noncomputable def ob117 (P : Params) : Obj := ⟨.type "code", none, .fields #[(sv "ISNONTERMINAL" 538), (sv "ISNONTERMINAL" 539), (sv "/claim/cut.py" 540), .int 163 0, .int 1 0, .int 0 0, .int 0 0, .int 3 0, .ref 112, .bool true, .int 181 0, .ref 113, .none, .ref 114, .ref 115, .ref 116, .int 542 0, .int 163 0, (sv "/claim/cut.py" 543)], #[]⟩
noncomputable def ob118 (P : Params) : Obj := ⟨.type "function", none, .func (fdOf (stAt 62) ⟨Str.ofString "ISNONTERMINAL", Str.ofString "ISNONTERMINAL", .none, (sv "cpy313.token" 332), none, .ref 117, .none⟩), #[]⟩
noncomputable def ob119 (P : Params) : Obj := ⟨.type "tuple", none, .seq #[] 0, #[]⟩
noncomputable def ob120 (P : Params) : Obj := ⟨.none, none, .fields #[], #[]⟩
noncomputable def ob121 (P : Params) : Obj := ⟨.type "tuple", none, .seq #[(sv "x" 548)] 0, #[]⟩
noncomputable def ob122 (P : Params) : Obj := ⟨.type "tuple", none, .seq #[] 0, #[]⟩
noncomputable def ob123 (P : Params) : Obj := ⟨.none, none, .func (fdO (fdOf (stAt 63) ⟨Str.ofString "ISEOF", Str.ofString "ISEOF", .none, .none, none, .none, .none⟩)), #[]⟩
noncomputable def ob124 (P : Params) : Obj := ⟨.type "code", none, .fields #[(sv "ISEOF" 545), (sv "ISEOF" 546), (sv "/claim/cut.py" 547), .int 165 0, .int 1 0, .int 0 0, .int 0 0, .int 3 0, .ref 119, .bool true, .int 181 0, .ref 120, .none, .ref 121, .ref 122, .ref 123, .int 549 0, .int 165 0, (sv "/claim/cut.py" 550)], #[]⟩
noncomputable def ob125 (P : Params) : Obj := ⟨.type "function", none, .func (fdOf (stAt 63) ⟨Str.ofString "ISEOF", Str.ofString "ISEOF", .none, (sv "cpy313.token" 332), none, .ref 124, .none⟩), #[]⟩
noncomputable def ob126 (P : Params) : Obj := ⟨.type "tuple", none, .seq #[] 0, #[]⟩
noncomputable def ob127 (P : Params) : Obj := ⟨.none, none, .fields #[], #[]⟩
noncomputable def ob128 (P : Params) : Obj := ⟨.type "tuple", none, .seq #[(sv "page" 557), (sv "numbers" 558), (sv "at" 559), (sv "size" 560)] 0, #[]⟩
noncomputable def ob129 (P : Params) : Obj := ⟨.type "tuple", none, .seq #[] 0, #[]⟩
noncomputable def ob130 (P : Params) : Obj := ⟨.none, none, .func (fdO (fdOf (stAt 65) ⟨Str.ofString "_law_read", Str.ofString "_law_read", .none, .none, none, .none, .none⟩)), #[]⟩
noncomputable def ob131 (P : Params) : Obj := ⟨.type "code", none, .fields #[(sv "_law_read" 554), (sv "_law_read" 555), (sv "/claim/cut.py" 556), .int 168 0, .int 1 0, .int 0 0, .int 0 0, .int 3 0, .ref 126, .bool true, .int 181 0, .ref 127, .none, .ref 128, .ref 129, .ref 130, .int 561 0, .int 168 0, (sv "/claim/cut.py" 562)], #[]⟩
noncomputable def ob132 (P : Params) : Obj := ⟨.type "function", none, .func (fdOf (stAt 65) ⟨Str.ofString "_law_read", Str.ofString "_law_read", .none, (sv "law_rw0117_01" 552), none, .ref 131, .none⟩), #[]⟩
noncomputable def ob133 (P : Params) : Obj := ⟨.type "tuple", none, .seq #[] 0, #[]⟩
noncomputable def ob134 (P : Params) : Obj := ⟨.none, none, .fields #[], #[]⟩
noncomputable def ob135 (P : Params) : Obj := ⟨.type "tuple", none, .seq #[(sv "lead" 567), (sv "size" 568), (sv "at" 569), (sv "sign" 570)] 0, #[]⟩
noncomputable def ob136 (P : Params) : Obj := ⟨.type "tuple", none, .seq #[] 0, #[]⟩
noncomputable def ob137 (P : Params) : Obj := ⟨.none, none, .func (fdO (fdOf (stAt 66) ⟨Str.ofString "_law_column", Str.ofString "_law_column", .none, .none, none, .none, .none⟩)), #[]⟩
noncomputable def ob138 (P : Params) : Obj := ⟨.type "code", none, .fields #[(sv "_law_column" 564), (sv "_law_column" 565), (sv "/claim/cut.py" 566), .int 178 0, .int 2 0, .int 0 0, .int 0 0, .int 3 0, .ref 133, .bool true, .int 181 0, .ref 134, .none, .ref 135, .ref 136, .ref 137, .int 571 0, .int 178 0, (sv "/claim/cut.py" 572)], #[]⟩
noncomputable def ob139 (P : Params) : Obj := ⟨.type "function", none, .func (fdOf (stAt 66) ⟨Str.ofString "_law_column", Str.ofString "_law_column", .none, (sv "law_rw0117_01" 552), none, .ref 138, .none⟩), #[]⟩
noncomputable def ob140 (P : Params) : Obj := ⟨.type "tuple", none, .seq #[] 0, #[]⟩
noncomputable def ob141 (P : Params) : Obj := ⟨.none, none, .fields #[], #[]⟩
noncomputable def ob142 (P : Params) : Obj := ⟨.type "tuple", none, .seq #[(sv "close" 577), (sv "far" 578), (sv "beside" 579), (sv "least" 580), (sv "best" 581), (sv "j" 582), (sv "ways" 583), (sv "i" 584)] 0, #[]⟩
noncomputable def ob143 (P : Params) : Obj := ⟨.type "tuple", none, .seq #[] 0, #[]⟩
noncomputable def ob144 (P : Params) : Obj := ⟨.none, none, .func (fdO (fdOf (stAt 67) ⟨Str.ofString "_law_least", Str.ofString "_law_least", .none, .none, none, .none, .none⟩)), #[]⟩
noncomputable def ob145 (P : Params) : Obj := ⟨.type "code", none, .fields #[(sv "_law_least" 574), (sv "_law_least" 575), (sv "/claim/cut.py" 576), .int 183 0, .int 3 0, .int 0 0, .int 0 0, .int 3 0, .ref 140, .bool true, .int 181 0, .ref 141, .none, .ref 142, .ref 143, .ref 144, .int 585 0, .int 183 0, (sv "/claim/cut.py" 586)], #[]⟩
noncomputable def ob146 (P : Params) : Obj := ⟨.type "function", none, .func (fdOf (stAt 67) ⟨Str.ofString "_law_least", Str.ofString "_law_least", .none, (sv "law_rw0117_01" 552), none, .ref 145, .none⟩), #[]⟩
noncomputable def ob147 (P : Params) : Obj := ⟨.type "tuple", none, .seq #[] 0, #[]⟩
noncomputable def ob148 (P : Params) : Obj := ⟨.none, none, .fields #[], #[]⟩
noncomputable def ob149 (P : Params) : Obj := ⟨.none, none, .func (fdO (fdOf (stAt 68) ⟨Str.ofString "law", Str.ofString "law", .none, .none, none, .none, .none⟩)), #[]⟩
noncomputable def ob150 (P : Params) : Obj := ⟨.type "code", none, .fields #[(sv "law" 588), (sv "law" 589), (sv "/claim/cut.py" 590), .int 194 0, .int 1 0, .int 0 0, .int 0 0, .int 3 0, .ref 147, .bool true, .int 181 0, .ref 148, .none, .none, .none, .ref 149, .int 591 0, .int 194 0, (sv "/claim/cut.py" 592)], #[]⟩
noncomputable def ob151 (P : Params) : Obj := ⟨.type "function", none, .func (fdOf (stAt 68) ⟨Str.ofString "law", Str.ofString "law", .none, (sv "law_rw0117_01" 552), none, .ref 150, .none⟩), #[]⟩
noncomputable def heap0 (P : Params) : List Obj := [boot_o_0 P, boot_o_1 P, boot_o_2 P, boot_o_3 P, boot_o_4 P, boot_o_5 P, boot_o_6 P, boot_o_7 P, boot_o_8 P, boot_o_9 P, boot_o_10 P, ob11 P, ob12 P, ob13 P, ob14 P]
abbrev toks0 : Nat := 187
abbrev pos0 : Pos := ⟨0, 0, 0, 0⟩
noncomputable def heap7 (P : Params) : List Obj := [boot_o_0 P, boot_o_1 P, boot_o_2 P, ob3 P, boot_o_4 P, boot_o_5 P, boot_o_6 P, boot_o_7 P, boot_o_8 P, boot_o_9 P, boot_o_10 P, ob11 P, ob12at7 P, ob13 P, ob14 P, ob15 P, ob16 P, ob17 P, ob18 P, ob19 P, ob20 P, ob21 P, ob22 P, ob23 P, ob24 P, ob25 P, ob26 P, ob27 P, ob28 P, ob29 P, ob30 P, ob31 P, ob32 P, ob33 P, ob34 P, ob35 P]
abbrev toks7 : Nat := 232
abbrev pos7 : Pos := ⟨52, 0, 52, 8⟩
noncomputable def heap8 (P : Params) : List Obj := [boot_o_0 P, boot_o_1 P, boot_o_2 P, ob3at8 P, boot_o_4 P, boot_o_5 P, boot_o_6 P, boot_o_7 P, boot_o_8 P, boot_o_9 P, boot_o_10 P, ob11 P, ob12at8 P, ob13 P, ob14 P, ob15 P, ob16 P, ob17 P, ob18 P, ob19 P, ob20 P, ob21 P, ob22 P, ob23 P, ob24 P, ob25 P, ob26 P, ob27 P, ob28 P, ob29 P, ob30 P, ob31 P, ob32 P, ob33 P, ob34 P, ob35 P, ob36 P, ob37 P, ob38 P, ob39 P, ob40 P, ob41 P, ob42 P, ob43 P, ob44 P, ob45 P, ob46 P, ob47 P, ob48 P, ob49 P, ob50 P, ob51 P, ob52 P, ob53 P, ob54 P, ob55 P, ob56 P, ob57 P, ob58 P, ob59 P, ob60 P, ob61 P, ob62 P, ob63 P, ob64 P, ob65 P, ob66 P, ob67 P, ob68 P, ob69 P, ob70 P, ob71 P, ob72 P, ob73 P, ob74 P, ob75 P, ob76 P, ob77 P, ob78 P, ob79 P, ob80 P, ob81 P, ob82 P, ob83 P, ob84 P, ob85 P, ob86 P, ob87 P, ob88 P, ob89 P, ob90 P, ob91 P, ob92 P, ob93 P, ob94 P, ob95 P, ob96 P, ob97 P, ob98 P, ob99 P, ob100 P, ob101 P]
abbrev toks8 : Nat := 332
abbrev pos8 : Pos := ⟨53, 0, 108, 16⟩
noncomputable def heap59 (P : Params) : List Obj := [boot_o_0 P, boot_o_1 P, boot_o_2 P, ob3at59 P, boot_o_4 P, boot_o_5 P, boot_o_6 P, boot_o_7 P, boot_o_8 P, boot_o_9 P, boot_o_10 P, ob11 P, ob12at8 P, ob13 P, ob14 P, ob15 P, ob16 P, ob17 P, ob18 P, ob19 P, ob20 P, ob21 P, ob22 P, ob23 P, ob24 P, ob25 P, ob26 P, ob27 P, ob28 P, ob29 P, ob30 P, ob31 P, ob32 P, ob33 P, ob34 P, ob35 P, ob36 P, ob37 P, ob38 P, ob39 P, ob40 P, ob41 P, ob42 P, ob43 P, ob44 P, ob45 P, ob46 P, ob47 P, ob48 P, ob49 P, ob50 P, ob51 P, ob52 P, ob53 P, ob54 P, ob55 P, ob56 P, ob57 P, ob58 P, ob59 P, ob60 P, ob61 P, ob62 P, ob63 P, ob64 P, ob65 P, ob66 P, ob67 P, ob68 P, ob69 P, ob70 P, ob71 P, ob72 P, ob73 P, ob74 P, ob75 P, ob76 P, ob77 P, ob78 P, ob79 P, ob80 P, ob81 P, ob82 P, ob83 P, ob84 P, ob85 P, ob86 P, ob87 P, ob88 P, ob89 P, ob90 P, ob91 P, ob92 P, ob93 P, ob94 P, ob95 P, ob96 P, ob97 P, ob98 P, ob99 P, ob100 P, ob101 P]
abbrev toks59 : Nat := 434
abbrev pos59 : Pos := ⟨159, 0, 159, 9⟩
noncomputable def heap60 (P : Params) : List Obj := [boot_o_0 P, boot_o_1 P, boot_o_2 P, ob3at60 P, boot_o_4 P, boot_o_5 P, boot_o_6 P, boot_o_7 P, boot_o_8 P, boot_o_9 P, boot_o_10 P, ob11 P, ob12at8 P, ob13 P, ob14 P, ob15 P, ob16 P, ob17 P, ob18 P, ob19 P, ob20 P, ob21 P, ob22 P, ob23 P, ob24 P, ob25 P, ob26 P, ob27 P, ob28 P, ob29 P, ob30 P, ob31 P, ob32 P, ob33 P, ob34 P, ob35 P, ob36 P, ob37 P, ob38 P, ob39 P, ob40 P, ob41 P, ob42 P, ob43 P, ob44 P, ob45 P, ob46 P, ob47 P, ob48 P, ob49 P, ob50 P, ob51 P, ob52 P, ob53 P, ob54 P, ob55 P, ob56 P, ob57 P, ob58 P, ob59 P, ob60 P, ob61 P, ob62 P, ob63 P, ob64 P, ob65 P, ob66 P, ob67 P, ob68 P, ob69 P, ob70 P, ob71 P, ob72 P, ob73 P, ob74 P, ob75 P, ob76 P, ob77 P, ob78 P, ob79 P, ob80 P, ob81 P, ob82 P, ob83 P, ob84 P, ob85 P, ob86 P, ob87 P, ob88 P, ob89 P, ob90 P, ob91 P, ob92 P, ob93 P, ob94 P, ob95 P, ob96 P, ob97 P, ob98 P, ob99 P, ob100 P, ob101 P, ob102 P, ob103 P, ob104 P]
abbrev toks60 : Nat := 531
abbrev pos60 : Pos := ⟨160, 0, 160, 17⟩
noncomputable def heap68 (P : Params) : List Obj := [boot_o_0 P, boot_o_1 P, boot_o_2 P, ob3at68 P, boot_o_4 P, boot_o_5 P, boot_o_6 P, boot_o_7 P, boot_o_8 P, boot_o_9 P, boot_o_10 P, ob11 P, ob12at68 P, ob13 P, ob14 P, ob15 P, ob16 P, ob17 P, ob18 P, ob19 P, ob20 P, ob21 P, ob22 P, ob23 P, ob24 P, ob25 P, ob26 P, ob27 P, ob28 P, ob29 P, ob30 P, ob31 P, ob32 P, ob33 P, ob34 P, ob35 P, ob36 P, ob37 P, ob38 P, ob39 P, ob40 P, ob41 P, ob42 P, ob43 P, ob44 P, ob45 P, ob46 P, ob47 P, ob48 P, ob49 P, ob50 P, ob51 P, ob52 P, ob53 P, ob54 P, ob55 P, ob56 P, ob57 P, ob58 P, ob59 P, ob60 P, ob61 P, ob62 P, ob63 P, ob64 P, ob65 P, ob66 P, ob67 P, ob68 P, ob69 P, ob70 P, ob71 P, ob72 P, ob73 P, ob74 P, ob75 P, ob76 P, ob77 P, ob78 P, ob79 P, ob80 P, ob81 P, ob82 P, ob83 P, ob84 P, ob85 P, ob86 P, ob87 P, ob88 P, ob89 P, ob90 P, ob91 P, ob92 P, ob93 P, ob94 P, ob95 P, ob96 P, ob97 P, ob98 P, ob99 P, ob100 P, ob101 P, ob102 P, ob103 P, ob104 P, ob105 P, ob106 P, ob107 P, ob108 P, ob109 P, ob110 P, ob111 P, ob112 P, ob113 P, ob114 P, ob115 P, ob116 P, ob117 P, ob118 P, ob119 P, ob120 P, ob121 P, ob122 P, ob123 P, ob124 P, ob125 P, ob126 P, ob127 P, ob128 P, ob129 P, ob130 P, ob131 P, ob132 P, ob133 P, ob134 P, ob135 P, ob136 P, ob137 P, ob138 P, ob139 P, ob140 P, ob141 P, ob142 P, ob143 P, ob144 P, ob145 P, ob146 P, ob147 P, ob148 P, ob149 P, ob150 P, ob151 P]
abbrev toks68 : Nat := 594
abbrev pos68 : Pos := ⟨194, 0, 261, 15⟩
noncomputable def hp (P : Params) : Frag := [(nat_lit 2, boot_o_2 P), (nat_lit 3, ob3at68 P), (nat_lit 27, ob27 P), (nat_lit 28, ob28 P), (nat_lit 34, ob34 P), (nat_lit 35, ob35 P), (nat_lit 51, ob51 P), (nat_lit 52, ob52 P), (nat_lit 58, ob58 P), (nat_lit 59, ob59 P), (nat_lit 65, ob65 P), (nat_lit 66, ob66 P), (nat_lit 86, ob86 P), (nat_lit 87, ob87 P), (nat_lit 96, ob96 P), (nat_lit 97, ob97 P), (nat_lit 102, ob102 P), (nat_lit 110, ob110 P), (nat_lit 111, ob111 P), (nat_lit 117, ob117 P), (nat_lit 118, ob118 P), (nat_lit 124, ob124 P), (nat_lit 125, ob125 P), (nat_lit 131, ob131 P), (nat_lit 132, ob132 P), (nat_lit 138, ob138 P), (nat_lit 139, ob139 P), (nat_lit 145, ob145 P), (nat_lit 146, ob146 P), (nat_lit 150, ob150 P), (nat_lit 151, ob151 P)]
def as : List Addr := [2, 3, 27, 28, 34, 35, 51, 52, 58, 59, 65, 66, 86, 87, 96, 97, 102, 110, 111, 117, 118, 124, 125, 131, 132, 138, 139, 145, 146, 150, 151]
theorem as_ok : ∀ P, as = (hp P).map (·.1) := fun _ => by kernel_rfl
end Mine
end

/-! K1 -/
section
open PySem PySem.W PyProof.Rows PySem.Calls
set_option maxRecDepth 100000
set_option autoImplicit false
set_option linter.unusedVariables false
namespace Mine

def dictAt (K : Frag) (a : Addr) : Array DictEntry := match K.lookup a with
  | some o => (match o.data with
    | .dict es _ => es
    | _ => #[])
  | none => #[]
def dictN (K : Frag) (a : Addr) : Nat := match K.lookup a with
  | some o => (match o.data with
    | .dict _ n => n
    | _ => 0)
  | none => 0
def keyTxt (e : DictEntry) : Str := match e.key with
  | .str x _ => x
  | _ => Str.ofString ""
def keyTok (e : DictEntry) : Tok := match e.key with
  | .str _ t => t
  | _ => 0
theorem keysLit {P : Params} : ∀ {l : List DictEntry}, l.map (fun e => e.key) = l.map (fun e => Value.str (keyTxt e) (keyTok e)) → l.map (fun e => e.hash) = l.map (fun e => PyData.keyHash P (keyTxt e)) → KeysLit P l
  | [], _, _ => trivial
  | e :: l, h1, h2 => by
    simp only [List.map_cons, List.cons.injEq] at h1 h2
    exact ⟨⟨keyTxt e, keyTok e, h1.1, h2.1⟩, keysLit h1.2 h2.2⟩
theorem gk1 {K : Frag} {x : Str} {y : Value} (h : nsIn K mainGlobals x = some (some y)) : GlobK K x y := .inl h
theorem gk2 {K : Frag} {x : Str} {y : Value} (h : nsIn K mainGlobals x = some none) (h1 : bootBuiltins x = some y) (h2 : x ≠ "__name__") : GlobK K x y := .inr ⟨h, h1, h2⟩
def GlobL (K : Frag) : List (Str × Value) → Prop
  | [] => True
  | p :: l => GlobK K p.1 p.2 ∧ GlobL K l
theorem GlobL.all {K : Frag} : ∀ {l : List (Str × Value)}, GlobL K l → ∀ p ∈ l, GlobK K p.1 p.2
  | _ :: _, h, _, .head _ => h.1
  | _ :: _, h, p, .tail _ hp => GlobL.all h.2 p hp
set_option maxHeartbeats 0
theorem globL (p : Params) : GlobL (hp p) allGl :=
  ⟨gk1 (by kernel_rfl), gk1 (by kernel_rfl), gk1 (by kernel_rfl), gk1 (by kernel_rfl), gk1 (by kernel_rfl), gk1 (by kernel_rfl), gk1 (by kernel_rfl), gk1 (by kernel_rfl), gk1 (by kernel_rfl), gk1 (by kernel_rfl), gk1 (by kernel_rfl), gk1 (by kernel_rfl), gk1 (by kernel_rfl), gk1 (by kernel_rfl), gk1 (by kernel_rfl), gk2 (by kernel_rfl) (by kernel_rfl) (by decide +kernel), gk2 (by kernel_rfl) (by kernel_rfl) (by decide +kernel), gk2 (by kernel_rfl) (by kernel_rfl) (by decide +kernel), gk2 (by kernel_rfl) (by kernel_rfl) (by decide +kernel), gk2 (by kernel_rfl) (by kernel_rfl) (by decide +kernel), gk2 (by kernel_rfl) (by kernel_rfl) (by decide +kernel), gk2 (by kernel_rfl) (by kernel_rfl) (by decide +kernel), gk2 (by kernel_rfl) (by kernel_rfl) (by decide +kernel), gk2 (by kernel_rfl) (by kernel_rfl) (by decide +kernel), gk2 (by kernel_rfl) (by kernel_rfl) (by decide +kernel), gk2 (by kernel_rfl) (by kernel_rfl) (by decide +kernel), gk2 (by kernel_rfl) (by kernel_rfl) (by decide +kernel), gk2 (by kernel_rfl) (by kernel_rfl) (by decide +kernel), gk2 (by kernel_rfl) (by kernel_rfl) (by decide +kernel), trivial⟩
theorem dk5 (p : Params) : DefK (hp p) 28 (stAt 5) := ⟨by kernel_rfl, by kernel_rfl, by kernel_rfl⟩
theorem dk6 (p : Params) : DefK (hp p) 35 (stAt 6) := ⟨by kernel_rfl, by kernel_rfl, by kernel_rfl⟩
theorem dk61 (p : Params) : DefK (hp p) 111 (stAt 61) := ⟨by kernel_rfl, by kernel_rfl, by kernel_rfl⟩
theorem dk62 (p : Params) : DefK (hp p) 118 (stAt 62) := ⟨by kernel_rfl, by kernel_rfl, by kernel_rfl⟩
theorem dk63 (p : Params) : DefK (hp p) 125 (stAt 63) := ⟨by kernel_rfl, by kernel_rfl, by kernel_rfl⟩
theorem dk65 (p : Params) : DefK (hp p) 132 (stAt 65) := ⟨by kernel_rfl, by kernel_rfl, by kernel_rfl⟩
theorem dk66 (p : Params) : DefK (hp p) 139 (stAt 66) := ⟨by kernel_rfl, by kernel_rfl, by kernel_rfl⟩
theorem dk67 (p : Params) : DefK (hp p) 146 (stAt 67) := ⟨by kernel_rfl, by kernel_rfl, by kernel_rfl⟩
theorem dkI (p : Params) : DefK (hp p) 52 (inCls 1 (stAt 8)) := ⟨by kernel_rfl, by kernel_rfl, by kernel_rfl⟩
theorem dkL (p : Params) : DefK (hp p) 59 (inCls 2 (stAt 8)) := ⟨by kernel_rfl, by kernel_rfl, by kernel_rfl⟩
theorem dkN (p : Params) : DefK (hp p) 66 (inCls 3 (stAt 8)) := ⟨by kernel_rfl, by kernel_rfl, by kernel_rfl⟩
theorem dkX (p : Params) : DefK (hp p) 87 (inCls 6 (stAt 8)) := ⟨by kernel_rfl, by kernel_rfl, by kernel_rfl⟩
theorem kf (p : Params) : KF (hp p) p where
  d5 := dk5 p
  d6 := dk6 p
  d61 := dk61 p
  d62 := dk62 p
  d63 := dk63 p
  d65 := dk65 p
  d66 := dk66 p
  d67 := dk67 p
  dI := dkI p
  dL := dkL p
  dN := dkN p
  dX := dkX p
  gl := (globL p).all
  tab := ⟨dictAt (hp p) 102, dictN (hp p) 102, by kernel_rfl, keysLit (by kernel_rfl) (by kernel_rfl), by kernel_rfl⟩
  fI := by kernel_rfl
  fL := by kernel_rfl
  fN := by kernel_rfl
  fX := by kernel_rfl
  tI := by kernel_rfl
  tL := by kernel_rfl
  tN := by kernel_rfl
  tX := by kernel_rfl
  plain := by kernel_rfl
  hasD := by kernel_rfl
  setA := by kernel_rfl
  over := by kernel_rfl
  none := fun x hx => by
    simp only [List.mem_cons, List.not_mem_nil, or_false] at hx
    rcases hx with rfl | rfl | rfl | rfl | rfl
    · kernel_rfl
    · kernel_rfl
    · kernel_rfl
    · kernel_rfl
    · kernel_rfl
  makes := by kernel_rfl
  kC := by kernel_rfl
  tC := by kernel_rfl
  reads := by kernel_rfl
  cS := by kernel_rfl
  cT := by kernel_rfl
end Mine
end

/-! G2 -/
section
open PySem PySem.W PyProof.Rows PySem.Calls
set_option maxRecDepth 100000
set_option autoImplicit false
set_option linter.unusedVariables false
namespace Mine

/-! the run of the text's top, in five pieces over the tree heap -/
abbrev Pg : Program := PySem.Challenge.rw_rw0117_01.row.toRowW.prog
def vw : Program := { PySem.Challenge.pw_rw0117_01 with main := { PySem.Challenge.pw_rw0117_01.main with body := [stAt 68] } }
def loose0 : List Str := (["_wall", "_MAX_STRING_SIZE", "_MOVE_COST", "_CASE_COST", "_substitution_cost", "_levenshtein_distance", "Whitespace", "ENDMARKER", "LPAR", "RPAR", "LSQB", "RSQB", "COLON", "COMMA", "SEMI", "PLUS", "MINUS", "STAR", "SLASH", "VBAR", "AMPER", "LESS", "GREATER", "EQUAL", "DOT", "PERCENT", "LBRACE", "RBRACE", "EQEQUAL", "NOTEQUAL", "LESSEQUAL", "GREATEREQUAL", "TILDE", "CIRCUMFLEX", "LEFTSHIFT", "RIGHTSHIFT", "DOUBLESTAR", "PLUSEQUAL", "MINEQUAL", "STAREQUAL", "SLASHEQUAL", "PERCENTEQUAL", "AMPEREQUAL", "VBAREQUAL", "CIRCUMFLEXEQUAL", "LEFTSHIFTEQUAL", "RIGHTSHIFTEQUAL", "DOUBLESTAREQUAL", "DOUBLESLASH", "DOUBLESLASHEQUAL", "AT", "ATEQUAL", "RARROW", "ELLIPSIS", "COLONEQUAL", "EXCLAMATION", "NT_OFFSET", "EXACT_TOKEN_TYPES", "ISTERMINAL", "ISNONTERMINAL", "ISEOF", "_law_read", "_law_column", "_law_least"] : List String).map Str.ofString
abbrev xt0 : Shared → Bool := fun s => xlAt vw [] s && recOk (RowW.records PySem.Challenge.rw_rw0117_01.row.toRowW) s
noncomputable abbrev hk : Hook := kmHook hp as as_ok [148]
def insAll : Nat → BT → List Obj → BT
  | _, t, [] => t
  | n, t, o :: os => insAll (n + 1) (t.ins n o) os
noncomputable def stT (w : World) (l : Params → List Obj) (tk : Nat) (os : OsState) : SharedT := ⟨insAll 0 .nil (l w.params), (l w.params).length, (boot_heap w.params).life, Array.mk [], boot_drawn, tk, os⟩
abbrev env0 : Env := { scope := Pg.main.scope, locals := mainNs, globals := mainNs, cells := [], code := .ref 13, frame := some 14 }
abbrev bs0 : List Stmt := behindTheImports Pg
abbrev cE : Code := .body bs0 env0
abbrev fr0 : List Frame := [topFrame pos0]
abbrev ann0 : Option Value := some (.ref 6)
theorem pre0 (w : World) : (fun os => topGo treeTable Pg w 11 ann0 12 ⟨boot_heap w.params, Array.mk [], boot_drawn, boot_toks, os⟩ (topStub Pg)) = fun os => some ((stT w heap0 toks0 os).abs, ⟨denote treeTable cE, cE, pos0, fr0⟩) := by
  rw [Fast.te15667345088766844465, Fast.te11892475500146522536, Fast.te14364793385576792824]
  kernel_rfl
theorem blk0 (w : World) : (fun os => segRun treeTable Pg w 11 ann0 1 1 (stT w heap0 toks0 os).abs (blockOf bs0 env0 cE pos0 fr0)) = fun os => some (.next, (stT w heap0 toks0 os).abs, cE, pos0) := by
  rw [Fast.te14374325043358763698, Fast.te14364793385576792824]
  kernel_rfl
/-- a piece of the text's run -/
def Piece (w : World) (N : Nat) (l : List Stmt) (h h' : Params → List Obj) (tk tk' : Nat) (p p' : Pos) : Prop :=
  (fun os => segRunT treeTable Pg w 11 ann0 1 N (stT w h tk os) (piecesOf l env0 cE p fr0)) = fun os => some (.next, stT w h' tk' os, cE, p')
theorem seg_a (w : World) : Piece w 147 (bs0.take 8) heap0 heap7 toks0 toks7 pos0 pos7 := by
  unfold Piece piecesOf
  rw [Fast.te10110043849684766642, Fast.te12563942051412417395, Fast.te14364793385576792824]
  kernel_rfl
theorem seg_b_f (w : World) : Piece (w.withFollow "special-get-raises" false) 493 ((bs0.drop 8).take 1) heap7 heap8 toks7 toks8 pos7 pos8 := by
  unfold Piece piecesOf
  rw [Fast.te10110043849684766642, Fast.te12563942051412417395, Fast.te14364793385576792824]
  kernel_rfl
theorem seg_b_t (w : World) : Piece (w.withFollow "special-get-raises" true) 493 ((bs0.drop 8).take 1) heap7 heap8 toks7 toks8 pos7 pos8 := by
  unfold Piece piecesOf
  rw [Fast.te10110043849684766642, Fast.te12563942051412417395, Fast.te14364793385576792824]
  kernel_rfl
theorem seg_b (w : World) : Piece w 493 ((bs0.drop 8).take 1) heap7 heap8 toks7 toks8 pos7 pos8 := byRow2 "special-get-raises" (P := fun w => Piece w 493 ((bs0.drop 8).take 1) heap7 heap8 toks7 toks8 pos7 pos8) seg_b_f seg_b_t w
theorem seg_c (w : World) : Piece w 460 (((bs0.drop 8).drop 1).take 51) heap8 heap59 toks8 toks59 pos8 pos59 := by
  unfold Piece piecesOf
  rw [Fast.te10110043849684766642, Fast.te12563942051412417395, Fast.te14364793385576792824]
  kernel_rfl
theorem seg_d_f (w : World) : Piece (w.withFollow "special-get-raises" false) 979 ((((bs0.drop 8).drop 1).drop 51).take 1) heap59 heap60 toks59 toks60 pos59 pos60 := by
  unfold Piece piecesOf
  rw [Fast.te10110043849684766642, Fast.te12563942051412417395, Fast.te14364793385576792824]
  kernel_rfl
theorem seg_d_t (w : World) : Piece (w.withFollow "special-get-raises" true) 979 ((((bs0.drop 8).drop 1).drop 51).take 1) heap59 heap60 toks59 toks60 pos59 pos60 := by
  unfold Piece piecesOf
  rw [Fast.te10110043849684766642, Fast.te12563942051412417395, Fast.te14364793385576792824]
  kernel_rfl
theorem seg_d (w : World) : Piece w 979 ((((bs0.drop 8).drop 1).drop 51).take 1) heap59 heap60 toks59 toks60 pos59 pos60 := byRow2 "special-get-raises" (P := fun w => Piece w 979 ((((bs0.drop 8).drop 1).drop 51).take 1) heap59 heap60 toks59 toks60 pos59 pos60) seg_d_f seg_d_t w
theorem seg_e (w : World) : Piece w 223 ((((bs0.drop 8).drop 1).drop 51).drop 1) heap60 heap68 toks60 toks68 pos60 pos68 := by
  unfold Piece piecesOf
  rw [Fast.te10110043849684766642, Fast.te12563942051412417395, Fast.te14364793385576792824]
  kernel_rfl
theorem fin0 (w : World) : (fun os => topRun treeTable Pg w 11 ann0 2 (stT w heap68 toks68 os).abs ⟨doneF .next, cE, pos68, fr0⟩) = fun os => some (stT w heap68 toks68 os).abs := by
  rw [Fast.te14082659384304107361, Fast.te14364793385576792824]
  kernel_rfl
theorem piece_cut {w : World} {n N : Nat} {l : List Stmt} {h h' : Params → List Obj} {tk tk' : Nat} {p p' : Pos} {os : OsState} {r : Shared} (k : Nat) (x : Piece w n (l.take k) h h' tk tk' p p')
    (y : topRun treeTable Pg w 11 ann0 N (stT w h' tk' os).abs (restOf (l.drop k) env0 cE p' fr0) = some r) : topRun treeTable Pg w 11 ann0 (n + N) (stT w h tk os).abs (restOf l env0 cE p fr0) = some r := by
  have z := piece_app (segRun_of (congrFun x os)) y
  rwa [List.take_append_drop] at z
theorem piece_last {w : World} {n N : Nat} {l : List Stmt} {h h' : Params → List Obj} {tk tk' : Nat} {p p' : Pos} {os : OsState} {r : Shared} (x : Piece w n l h h' tk tk' p p')
    (y : topRun treeTable Pg w 11 ann0 N (stT w h' tk' os).abs ⟨doneF .next, cE, p', fr0⟩ = some r) : topRun treeTable Pg w 11 ann0 (n + N) (stT w h tk os).abs (restOf l env0 cE p fr0) = some r := by
  have z := piece_app (rest := []) (segRun_of (congrFun x os)) (piece_nil y)
  rwa [List.append_nil] at z
theorem run0 (w : World) (os : OsState) : topRun treeTable Pg w 11 ann0 (12 + (1 + (147 + (493 + (460 + (979 + (223 + 2))))))) ⟨boot_heap w.params, Array.mk [], boot_drawn, boot_toks, os⟩ (topStub Pg) = some (stT w heap68 toks68 os).abs :=
  go_top (congrFun (pre0 w) os) (piece_block (congrFun (blk0 w) os) (piece_cut 8 (seg_a w) (piece_cut 1 (seg_b w) (piece_cut 51 (seg_c w) (piece_cut 1 (seg_d w) (piece_last (seg_e w) (congrFun (fin0 w) os)))))))
theorem open0 : ∀ w : World, (fencedOpening treeTable Pg w 4720).map (fun s => (s.heap, s.gens, s.drawn, s.toks)) = some (boot_heap w.params, Array.mk [], boot_drawn, boot_toks) :=
  boot_open (by kernel_rfl) (by decide) (fun s => by kernel_rfl)
theorem size0 (w : World) : ((boot_heap w.params).isNs mainGlobals && (Array.mk [] : Array GenState).size == 0, (boot_heap w.params).objs.size, (boot_heap w.params).nsMap mainGlobals "__annotations__") = (true, 11, ann0) := by kernel_rfl
noncomputable def H1 (P : Params) : Heap := absHeap (insAll 0 .nil (heap68 P)) (heap68 P).length (boot_heap P).life
theorem looks0 : ∀ w : World, (fun os => ((staticsOk (importedModules Pg.main.body) (boot_heap w.params) (H1 w.params) && namesBound Pg (H1 w.params) && gensDone ⟨H1 w.params, Array.mk [], boot_drawn, toks68, os⟩ && laidKept (boot_heap w.params) (H1 w.params)),
    openSeen vw loose0 (importedModules Pg.main.body) xt0 true ⟨H1 w.params, Array.mk [], boot_drawn, toks68, os⟩, Hook.obs hk ⟨H1 w.params, Array.mk [], boot_drawn, toks68, os⟩)) = fun _ => (true, openGood vw loose0, Hook.val hk w) := fun w => by
  rw [Fast.te4187177175401517315]
  kernel_rfl
theorem abs68 (w : World) (os : OsState) : (stT w heap68 toks68 os).abs = ⟨H1 w.params, Array.mk [], boot_drawn, toks68, os⟩ := by
  kernel_rfl
theorem run1 (w : World) (os : OsState) : topRun treeTable Pg w 11 ann0 2317 ⟨boot_heap w.params, Array.mk [], boot_drawn, boot_toks, os⟩ (topStub Pg) = some ⟨H1 w.params, Array.mk [], boot_drawn, toks68, os⟩ := by
  rw [← abs68 w os]
  exact run0 w os
theorem left_ok : LeftO Pg vw loose0 xt0 (Hook.obs hk) (Hook.val hk) 4720 :=
  LeftO.of_pieces (p := Pg) (q := vw) (loose := loose0) (Xt := xt0) (Yf := Hook.obs hk) (Ya := Hook.val hk) (N := 4720) (g0 := true) (H₀ := boot_heap) (H₁ := H1) (gs₀ := Array.mk []) (gs₁ := Array.mk []) (d₀ := boot_drawn) (d₁ := boot_drawn) (k₀ := boot_toks) (k₁ := toks68) (m₀ := 11) (ann := ann0) (M := 2317)
    open0 size0 run1 (by decide) looks0
end Mine
end

/-! G3 -/
section
open PySem PySem.W PyProof.Rows PySem.Calls
set_option maxRecDepth 100000
set_option maxHeartbeats 0
namespace Mine
theorem look_and {a b : Bool} (x : a = true) (y : b = true) : (a && b) = true := by rw [x, y]; rfl
theorem said_ok : OpenLaw.wellSaid PySem.Challenge.rw_rw0117_01 = true := by
  unfold OpenLaw.wellSaid OpenRow.wellSaid OpenRow.partSaid looksOpen
  repeat' (with_reducible refine look_and ?_ ?_)
  all_goals
    (try rw [Fast.te8326940854005059898])
    (try rw [Fast.te8377067652309620493])
    (try rw [Fast.te17119622794617984870])
    (try rw [Fast.te17868728402115742887])
    (try rw [Fast.te5923862056798008813])
    (try rw [Fast.te13343964577679436407])
    (try rw [Fast.te17691160309236699985])
    (try rw [Fast.te18344453789297297638])
    (try rw [Fast.te14412699480532031325])
    (try rw [Fast.te8179353310426384613])
    (try rw [Fast.te797321630700447069])
    (try rw [Fast.te9572597257264208301])
    (try rw [Fast.te16286561074155671207])
    (try rw [Fast.te9558739934217749035])
    (try rw [Fast.te6984425678791042302])
    (try rw [Fast.te10792542408131684335])
    (try rw [Fast.te17095254045102204799])
    (try rw [Fast.te12879404354523853263])
    (try rw [Fast.te482687673346738481])
    (try rw [Fast.te10501279942588096481])
    (try rw [Fast.te11788848310118352699])
    (try rw [Fast.te12862048085361865435])
    (try rw [Fast.te7723801398212525404])
    (try rw [Fast.te3471404346716756564])
    (try rw [Fast.named_eq])
    (try rw [Fast.sDec_eq])
    decide +kernel
theorem tabs_ok : PySem.Challenge.rw_rw0117_01.row.prog.tablesWhole = true := by
  unfold Program.tablesWhole TablesWhole.wProgram TablesWhole.holds
  rw [Fast.te8308236283776574652, Fast.te6116379765354995101, Fast.te15985051520779696433]
  kernel_rfl
theorem holds : PySem.Challenge.rw_rw0117_01.Holds := by
  refine holds_law said_ok fun said => ?_
  refine holds_open (q := vw) (loose := loose0) (Xt := xt0) (XP := XL vw [])
    (Yf := Hook.obs (kmHook hp as as_ok [148])) (Ya := Hook.val (kmHook hp as as_ok [148])) (YP := Hook.says (kmHook hp as as_ok [148])) (N := 4720)
    left_ok (Hook.of (kmHook hp as as_ok [148])) (Hook.keeps (kmHook hp as as_ok [148])) (fun s e => xl_of s (Bool.and_eq_true_iff.mp e).1) XL.keeps (by rfl) (by rfl) (by rfl) (fun s e => recFacts_of (Bool.and_eq_true_iff.mp e).2) (by rfl) (by assumption) (by decide +kernel) ⟨rfl, rfl, rfl, rfl, rfl, tabs_ok⟩ ?hw ?hc
  case hw => w_witness2
  case hc =>
    k_go0
    (all_goals try k_fold)
    rename_i w s0 s1 mg mb G Y fa o pm doc ho hgens X9 V9 T9 B9 TE TW hcd ns hs hlay0 hL1 hr1 hl2 q10 q9 l vs q6 hL ra w1 r0 hI hr hc1 hc0 hD h1 tk1 o6 o5 o4 o3 o2 o1 d6 d5 d4 d3 d2 d1 X0 X T K F N l0
    refine law_join (kf w.params) X T ?hsc ?hb lifted hI ?hn codeHd F ?hm N l0 (d1.trans ?e1) (d2.trans ?e2) (d3.trans ?e3) (d4.trans ?e4) (d5.trans ?e5) (d6.trans ?e6) rfl (fun h tk hk hg' => ⟨⟨.inl ⟨_, .bool true, [], rfl, fun _ => rfl, .bool true, ?post, fun _ => ⟨List.nodup_nil, fun a ha => nomatch ha⟩⟩, hk, rfl, hgens⟩, hg', trivial⟩)
    case hsc => kernel_rfl
    case hb => kernel_rfl
    case hm => kernel_rfl
    case hn => omega
    case e1 => kernel_rfl
    case e2 => kernel_rfl
    case e3 => kernel_rfl
    case e4 => kernel_rfl
    case e5 => kernel_rfl
    case e6 => kernel_rfl
    case post => exact post_ok _ _
end Mine
end

theorem PySem.Challenge.cw_rw0117_01_holds : PySem.Challenge.rw_rw0117_01.Holds :=
  Mine.holds
