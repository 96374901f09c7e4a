import PyProof.Rows.All
import Wide.All
import OpenK.AllK
import Wide.FinOn
import Lean
import PySem.Challenge.RW_bn5039_01
open PySem PySem.W PyProof.Rows
set_option Elab.async false
set_option maxRecDepth 100000
set_option maxHeartbeats 8000000
namespace Mine
open_top hd for PySem.Challenge.rw_bn5039_01
end Mine
section
namespace Mine
noncomputable def kput {K V : Type} [BEq K] (es : List (K × V)) (k : K) (v : V) : List (K × V) := if (es.lookup k).isSome then es.map (fun p => if p.1 == k then (p.1, v) else p) else es ++ [(k, v)]
noncomputable def ksetd {V : Type} (es : List (Int × V)) (k : Int) (v : V) : List (Int × V) := if (es.lookup k).isSome then es else es ++ [(k, v)]
/-- the network, without a program in sight -/
noncomputable abbrev DL := List (Int × Int)
noncomputable abbrev CL := List (Int × List (Int × Int))
noncomputable def lk (D : DL) (k : Int) : Int := (D.lookup k).getD 0
noncomputable def ch (C : CL) (k : Int) : List (Int × Int) := (C.lookup k).getD []
noncomputable def relax (y b c : Int) : List (Int × Int) → DL → List Int → DL × Option (List Int)
  | [], D, q => (D, some q)
  | (d, w) :: l, D, q => if lk D c + w < lk D d then (if d = y ∧ w = b then (D, none) else relax y b c l (kput D d (lk D c + w)) (q ++ [d])) else relax y b c l D q
noncomputable def inc (C : CL) (y b : Int) : Nat → DL → List Int → Option (DL × Bool)
  | _, D, [] => some (D, true)
  | 0, _, _ :: _ => none
  | f + 1, D, c :: q => match relax y b c (ch C c) D q with
    | (D', none) => some (D', false)
    | (D', some q') => inc C y b f D' q'
noncomputable def incAll (C : CL) (f : Nat) (D : DL) (x y b : Int) : Option (DL × Bool) := if lk D x + b < lk D y then inc C y b f (kput D y (lk D x + b)) [y] else some (D, true)
structure PS where
  dist : DL
  cs : CL
  sat : Bool
/-- what `add` does -/
noncomputable def subsumed (C : CL) (x y b : Int) : Bool := match (ch C x).find? (fun p => p.1 == y) with | some p => decide (p.2 ≤ b) | none => false
noncomputable def PS.add (f : Nat) (S : PS) (x y b : Int) : Option PS :=
  if S.sat then
    let D := ksetd (ksetd S.dist x 0) y 0
    let C := ksetd S.cs y []
    if subsumed C x y b then some ⟨D, C, true⟩
    else
      let C' := kput C x ((y, b) :: ch S.cs x)
      (incAll C' f D x y b).map fun r => ⟨r.1, C', r.2⟩
  else some S
noncomputable def PS.ins (f : Nat) (S : PS) (x y : Int) : Option Int → Option Int → Option PS
  | none, none => some { S with dist := ksetd (ksetd S.dist x 0) y 0 }
  | some l, none => S.add f x y (-l)
  | none, some r => S.add f y x r
  | some l, some r => (S.add f x y (-l)).bind fun S1 => S1.add f y x r
/-- every end of an edge is a node -/
noncomputable def WF (D : DL) (C : CL) : Prop := ∀ k l, C.lookup k = some l → l.length ≤ 64 ∧ ∀ p ∈ l, (D.lookup p.1).isSome = true ∧ (C.lookup p.1).isSome = true
noncomputable def okAdd (S : PS) (x y b : Int) : Prop := S.dist.length ≤ 1000 ∧ S.cs.length ≤ 1000 ∧ WF (ksetd (ksetd S.dist x 0) y 0) (kput (ksetd S.cs y []) x ((y, b) :: ch S.cs x))
noncomputable def okIns (f : Nat) (S : PS) (x y : Int) : Option Int → Option Int → Prop
  | none, none => S.dist.length ≤ 1000
  | some l, none => okAdd S x y (-l)
  | none, some r => okAdd S y x r
  | some l, some r => okAdd S x y (-l) ∧ ∀ S1, S.add f x y (-l) = some S1 → okAdd S1 y x r
end Mine
end
section
open PySem PySem.W PySem.Calls PyProof.Rows
set_option Elab.async false
set_option maxRecDepth 100000
namespace Mine

/-- abstract values -/
inductive AV where
  | none
  | bool (b : Bool)
  | int (i : Int)
  | tup (l : List AV)
  | ref (a : Addr)
  | con (v : Value)

noncomputable abbrev tupObj (vs : List Value) : Obj := { cls := .type "tuple", data := .seq vs.toArray }
noncomputable def IsTupO (o : Obj) : Prop := o.cls = .type "tuple" ∧ ∃ items n, o.data = .seq items n
noncomputable def TK (h h' : Heap) : Prop := ∀ a o, h.get? a = some o → IsTupO o → h'.get? a = some o
theorem TK.refl (h : Heap) : TK h h := fun _ _ e _ => e
theorem TK.trans {a b c : Heap} (x : TK a b) (y : TK b c) : TK a c := fun p o e t => y p o (x p o e t) t
theorem TK.of_keep {h h' : Heap} (k : ∀ b o, h.get? b = some o → h'.get? b = some o) : TK h h' := fun a o e _ => k a o e
theorem TK.but {h h' : Heap} {a : Addr} {o : Obj} (ho : h.get? a = some o) (hn : ¬ IsTupO o) (k : ∀ b o, b ≠ a → h.get? b = some o → h'.get? b = some o) : TK h h' := fun b o' e t => by
  refine k b o' (fun q => ?_) e
  subst q
  rw [ho] at e
  cases e
  exact hn t

mutual
inductive VR (h : Heap) : Value → AV → Prop
  | none : VR h .none .none
  | bool (b : Bool) : VR h (.bool b) (.bool b)
  | int (i : Int) (t : Tok) : VR h (.int i t) (.int i)
  | ref (a : Addr) : VR h (.ref a) (.ref a)
  | con (v : Value) : VR h v (.con v)
  | tup {a : Addr} {vs : List Value} {l : List AV} : h.get? a = some (tupObj vs) → VRs h vs l → VR h (.ref a) (.tup l)
inductive VRs (h : Heap) : List Value → List AV → Prop
  | nil : VRs h [] []
  | cons {v : Value} {a : AV} {vs : List Value} {l : List AV} : VR h v a → VRs h vs l → VRs h (v :: vs) (a :: l)
end
theorem isTup_tupObj (vs : List Value) : IsTupO (tupObj vs) := ⟨rfl, _, _, rfl⟩
mutual
theorem VR.mono {h h' : Heap} (k : TK h h') : ∀ {v : Value} {a : AV}, VR h v a → VR h' v a
  | _, _, .none => .none
  | _, _, .bool b => .bool b
  | _, _, .int i t => .int i t
  | _, _, .ref a => .ref a
  | _, _, .con v => .con v
  | _, _, .tup e r => .tup (k _ _ e (isTup_tupObj _)) (VRs.mono k r)
theorem VRs.mono {h h' : Heap} (k : TK h h') : ∀ {v : List Value} {a : List AV}, VRs h v a → VRs h' v a
  | _, _, .nil => .nil
  | _, _, .cons x r => .cons (VR.mono k x) (VRs.mono k r)
end
section
variable {h : Heap} {v u : Value} {vs us : List Value} {l l' : List AV} {a b : AV}
theorem VR.int_inv {i : Int} (x : VR h v (.int i)) : ∃ t, v = .int i t := by cases x; exact ⟨_, rfl⟩
theorem VR.bool_inv {i : Bool} (x : VR h v (.bool i)) : v = .bool i := by cases x; rfl
theorem VR.none_inv (x : VR h v .none) : v = .none := by cases x; rfl
theorem VR.ref_inv {i : Addr} (x : VR h v (.ref i)) : v = .ref i := by cases x; rfl
theorem VR.con_inv {i : Value} (x : VR h v (.con i)) : v = i := by cases x; rfl
theorem VR.tup_inv {i : List AV} (x : VR h v (.tup i)) : ∃ c vs, v = .ref c ∧ h.get? c = some (tupObj vs) ∧ VRs h vs i := by cases x; exact ⟨_, _, rfl, ‹_›, ‹_›⟩
theorem VRs.len (x : VRs h vs l) : vs.length = l.length := by
  induction vs generalizing l with
  | nil => cases x; rfl
  | cons v vs ih => cases x with | cons p r => simp [ih r]
theorem VRs.append (x : VRs h vs l) (y : VRs h us l') : VRs h (vs ++ us) (l ++ l') := by
  induction vs generalizing l with
  | nil => cases x; exact y
  | cons v vs ih => cases x with | cons p r => exact .cons p (ih r)
theorem VRs.get (x : VRs h vs l) : ∀ {i : Nat} {a : AV}, l[i]? = some a → ∃ v, vs[i]? = some v ∧ VR h v a := by
  induction vs generalizing l with
  | nil => cases x; intro i a e; simp at e
  | cons v vs ih =>
    cases x with
    | cons p r =>
      intro i a e
      cases i with
      | zero => simp at e; subst e; exact ⟨v, rfl, p⟩
      | succ i => simpa using ih r (by simpa using e)
theorem VRs.get_none (x : VRs h vs l) {i : Nat} (e : l[i]? = none) : vs[i]? = none := by
  rw [List.getElem?_eq_none_iff] at e ⊢
  rw [x.len]; exact e
theorem VRs.snoc (x : VRs h vs l) (y : VR h v a) : VRs h (vs ++ [v]) (l ++ [a]) := x.append (.cons y .nil)
theorem VRs.dropLast (x : VRs h vs l) : VRs h vs.dropLast l.dropLast := by
  induction vs generalizing l with
  | nil => cases x; exact .nil
  | cons v vs ih =>
    cases x with
    | cons p r =>
      cases r with
      | nil => exact .nil
      | cons q r => exact .cons p (ih (.cons q r))
end

inductive A2 {α β : Type} (R : α → β → Prop) : List α → List β → Prop
  | nil : A2 R [] []
  | cons {a b l m} : R a b → A2 R l m → A2 R (a :: l) (b :: m)
section
variable {α β : Type} {R S : α → β → Prop} {l : List α} {m : List β}
theorem A2.mono (k : ∀ a b, R a b → S a b) (x : A2 R l m) : A2 S l m := by
  induction x with
  | nil => exact .nil
  | cons p _ ih => exact .cons (k _ _ p) ih
theorem A2.len (x : A2 R l m) : l.length = m.length := by
  induction x with
  | nil => rfl
  | cons _ _ ih => simp [ih]
theorem A2.append {l' : List α} {m' : List β} (x : A2 R l m) (y : A2 R l' m') : A2 R (l ++ l') (m ++ m') := by
  induction x with
  | nil => exact y
  | cons p _ ih => exact .cons p ih
theorem A2.get (x : A2 R l m) : ∀ {i : Nat} {b : β}, m[i]? = some b → ∃ a, l[i]? = some a ∧ R a b := by
  induction x with
  | nil => intro i b e; simp at e
  | cons p _ ih =>
    intro i b e
    cases i with
    | zero => simp at e; subst e; exact ⟨_, rfl, p⟩
    | succ i => simpa using ih (by simpa using e)
end

/-- abstract objects -/
inductive AObj where
  | ns (m : List (Str × AV))
  | cell (v : Option AV)
  | list (l : List AV)
  | idict (es : List (Int × AV))
  | tdict (es : List (List Int × AV))
  | iset (S : Int → Bool) (n : Nat)
  | deque (l : List AV)
  | inst (C d : Addr)
  | attrs (m : List (Str × AV))
  | pidict (es : List (Int × AV)) (o : Obj)
  | ptdict (es : List (List Int × AV)) (o : Obj)
  | range (i j k : Int)
  | view (T : String) (d : Addr)

noncomputable abbrev AHeap := List (Addr × AObj)

structure Cx where
  prog : Program
  w : World
  B : Heap
  σ : Shared
  K : Frag
  kin : K.In B
  g : ∃ mg, B.Ns mainGlobals mg
  b : ∃ mb, B.Ns builtinsNs mb ∧ ∀ x : Str, x ≠ "__name__" → mb x = bootBuiltins x
  nolimit : B.NoLimit

noncomputable abbrev dqObj (vs : List Value) (n : Int) : Obj := { cls := .type "collections.deque", data := .fields (#[.none, .int n 0] ++ vs.toArray) }

noncomputable def OwnI (c : Cx) (h : Heap) (a : Addr) (es : List (Int × AV)) : Prop := ∃ kvs, h.DictOf (intKind c.prog c.w) a kvs ∧ A2 (fun p q => p.1 = q.1 ∧ VR h p.2 q.2) kvs es
noncomputable def OwnT (c : Cx) (h : Heap) (a : Addr) (es : List (List Int × AV)) : Prop := ∃ ys : List (List Int × Addr × Value × List Value), h.DictOfH (tupleKind (intKind c.prog c.w)) a (ys.map fun y => (y.1, y.2.1, y.2.2.1)) ∧
      A2 (fun y q => y.1 = q.1 ∧ h.get? y.2.1 = some (tupObj y.2.2.2) ∧ VRs h y.2.2.2 (q.1.map AV.int) ∧ VR h y.2.2.1 q.2) ys es
noncomputable def Owns (c : Cx) (h : Heap) (a : Addr) : AObj → Prop
  | .ns m => ∃ m', h.Ns a m' ∧ ∀ x v, m.lookup x = some v → ∃ v', m' x = some v' ∧ VR h v' v
  | .cell none => h.IsCell a none
  | .cell (some v) => ∃ v', h.IsCell a (some v') ∧ VR h v' v
  | .list l => ∃ vs n, h.get? a = some (listOf vs.toArray n) ∧ VRs h vs l
  | .idict es => OwnI c h a es
  | .tdict es => OwnT c h a es
  | .iset S n => h.SetOf (intKind c.prog c.w) a S n
  | .deque l => ∃ vs n, h.get? a = some (dqObj vs n) ∧ VRs h vs l
  | .inst C d => h.get? a = some (instObj C d)
  | .attrs m => ∃ es n, h.get? a = some (dictOf es n) ∧ A2 (fun (e : DictEntry) (q : Str × AV) => (∃ t, e.key = .str q.1 t) ∧ VR h e.val q.2) es m
  | .pidict es o => h.get? a = some o ∧ OwnI c h a es
  | .ptdict es o => h.get? a = some o ∧ OwnT c h a es
  | .range i j k => ∃ t u v, IsRange h a i j k t u v
  | .view T d => h.get? a = some { cls := .type T, data := .fields #[.ref d] }

section
variable {c : Cx} {h h' : Heap} {a : Addr} {x : AObj}
theorem notTup_dict {o : Obj} {es n} (e : o.data = .dict es n) : ¬ IsTupO o := fun ⟨_, _, _, q⟩ => by rw [e] at q; cases q
theorem notTup_cls {o : Obj} {n : String} (e : o.cls = .type n) (hn : n ≠ "tuple") : ¬ IsTupO o := fun ⟨q, _⟩ => by
  rw [e] at q
  injection q with q
  exact hn q
theorem Owns.at (x' : Owns c h a x) : ∃ o, h.get? a = some o ∧ ¬ IsTupO o := by
  cases x with
  | ns m => obtain ⟨m', ⟨o, es, ep, ho, hd, _⟩, _⟩ := x'; exact ⟨o, ho, notTup_dict hd⟩
  | cell v =>
    cases v with
    | none => obtain ⟨o, ho, hd⟩ := x'; exact ⟨o, ho, fun ⟨_, _, _, q⟩ => by rw [hd] at q; cases q⟩
    | some v => obtain ⟨v', ⟨o, ho, hd⟩, _⟩ := x'; exact ⟨o, ho, fun ⟨_, _, _, q⟩ => by rw [hd] at q; cases q⟩
  | list l => obtain ⟨vs, n, ho, _⟩ := x'; exact ⟨_, ho, notTup_cls rfl (by decide)⟩
  | idict es => obtain ⟨kvs, ⟨o, _, _, ho, _, hd, _⟩, _⟩ := x'; exact ⟨o, ho, notTup_dict hd⟩
  | tdict es => obtain ⟨kvs, ⟨o, _, _, ho, _, hd, _⟩, _⟩ := x'; exact ⟨o, ho, notTup_dict hd⟩
  | iset S n => obtain ⟨o, _, _, _, ho, hx, _⟩ := x'; exact ⟨o, ho, notTup_cls hx.1 (by decide)⟩
  | deque l => obtain ⟨vs, n, ho, _⟩ := x'; exact ⟨_, ho, notTup_cls rfl (by decide)⟩
  | inst C d => exact ⟨_, x', fun ⟨q, _⟩ => by cases q⟩
  | attrs m => obtain ⟨es, n, ho, _⟩ := x'; exact ⟨_, ho, notTup_cls rfl (by decide)⟩
  | pidict es ob => obtain ⟨ho', kvs, ⟨o, _, _, ho, _, hd, _⟩, _⟩ := x'; exact ⟨o, ho, notTup_dict hd⟩
  | ptdict es ob => obtain ⟨ho', kvs, ⟨o, _, _, ho, _, hd, _⟩, _⟩ := x'; exact ⟨o, ho, notTup_dict hd⟩
  | range i j k => obtain ⟨t, u, v, ho⟩ := x'; exact ⟨_, ho, notTup_cls rfl (by decide)⟩
  | view T d => exact ⟨_, x', fun ⟨_, _, _, q⟩ => by cases q⟩
theorem isTupleKey_mono {K : Type} [DecidableEq K] {prog w} {knd : KeyKind prog w K} {ks : List K} {b : Addr} (k : TK h h') (y : IsTupleKey knd h ks b) : IsTupleKey knd h' ks b := by
  obtain ⟨o, items, n, ho, hc, hd, hi⟩ := y
  exact ⟨o, items, n, k _ _ ho ⟨hc, _, _, hd⟩, hc, hd, hi⟩
theorem OwnI.mono {es} (e : h'.get? a = h.get? a) (k : TK h h') (x' : OwnI c h a es) : OwnI c h' a es := by
  obtain ⟨kvs, ⟨o, es', ep, ho, r⟩, hv⟩ := x'; exact ⟨kvs, ⟨o, es', ep, e.trans ho, r⟩, hv.mono fun _ _ q => ⟨q.1, q.2.mono k⟩⟩
theorem OwnT.mono {es} (e : h'.get? a = h.get? a) (k : TK h h') (x' : OwnT c h a es) : OwnT c h' a es := by
  obtain ⟨ys, ⟨o, es', ep, ho, r1, r2, r3, r4, r5⟩, hv⟩ := x'
  exact ⟨ys, ⟨o, es', ep, e.trans ho, r1, r2, r3, fun y hy => isTupleKey_mono k (r4 y hy), r5⟩, hv.mono fun _ _ q => ⟨q.1, k _ _ q.2.1 (isTup_tupObj _), q.2.2.1.mono k, q.2.2.2.mono k⟩⟩
theorem Owns.mono (e : h'.get? a = h.get? a) (k : TK h h') (x' : Owns c h a x) : Owns c h' a x := by
  cases x with
  | ns m =>
    obtain ⟨m', ⟨o, es, ep, ho, r⟩, hm⟩ := x'
    exact ⟨m', ⟨o, es, ep, e.trans ho, r⟩, fun x v q => let ⟨v', a1, a2⟩ := hm x v q; ⟨v', a1, a2.mono k⟩⟩
  | cell v =>
    cases v with
    | none => obtain ⟨o, ho, hd⟩ := x'; exact ⟨o, e.trans ho, hd⟩
    | some v => obtain ⟨v', ⟨o, ho, hd⟩, hv⟩ := x'; exact ⟨v', ⟨o, e.trans ho, hd⟩, hv.mono k⟩
  | list l => obtain ⟨vs, n, ho, hv⟩ := x'; exact ⟨vs, n, e.trans ho, hv.mono k⟩
  | idict es => exact OwnI.mono e k x'
  | tdict es => exact OwnT.mono e k x'
  | iset S n => obtain ⟨o, es', ep, t, ho, r⟩ := x'; exact ⟨o, es', ep, t, e.trans ho, r⟩
  | deque l => obtain ⟨vs, n, ho, hv⟩ := x'; exact ⟨vs, n, e.trans ho, hv.mono k⟩
  | inst C d => exact e.trans x'
  | attrs m => obtain ⟨es, n, ho, hv⟩ := x'; exact ⟨es, n, e.trans ho, hv.mono fun _ _ q => ⟨q.1, q.2.mono k⟩⟩
  | pidict es ob => exact ⟨e.trans x'.1, OwnI.mono e k x'.2⟩
  | ptdict es ob => exact ⟨e.trans x'.1, OwnT.mono e k x'.2⟩
  | range i j l => obtain ⟨t, u, v, ho⟩ := x'; exact ⟨t, u, v, e.trans ho⟩
  | view T d => exact e.trans x'
end

noncomputable def Off (c : Cx) (a : Addr) : Prop := c.B.get? a = none ∧ (a == sysModules) = false
/-- an address where nothing lies yet -/
noncomputable def Fresh (h : Heap) (a : Addr) : Prop := h.get? a = none ∧ h.objs.size ≤ a
/-- the state that an abstract heap tells of; Z: frozen objects beside the base -/
structure Sta (c : Cx) (Z : List (Addr × Obj)) (H : AHeap) (s : Shared) : Prop where
  same : s = { c.σ with heap := s.heap, toks := s.toks }
  base : ∀ a o, c.B.get? a = some o → s.heap.get? a = some o
  extra : ∀ p ∈ Z, s.heap.get? p.1 = some p.2
  owns : ∀ p ∈ H, Owns c s.heap p.1 p.2
  nodup : (H.map (·.1)).Nodup
  offB : ∀ p ∈ H, Off c p.1
  offZ : ∀ p ∈ H, ∀ q ∈ Z, p.1 ≠ q.1

inductive Put (a : Addr) (o o' : AObj) : AHeap → AHeap → Prop
  | here {r : AHeap} : Put a o o' ((a, o) :: r) ((a, o') :: r)
  | there {p : Addr × AObj} {r r' : AHeap} : Put a o o' r r' → Put a o o' (p :: r) (p :: r')
theorem Put.mem {a o o'} {H H' : AHeap} (p : Put a o o' H H') : (a, o) ∈ H := by
  induction p with
  | here => exact .head _
  | there _ ih => exact .tail _ ih
theorem Put.mem' {a o o'} {H H' : AHeap} (p : Put a o o' H H') : (a, o') ∈ H' := by
  induction p with
  | here => exact .head _
  | there _ ih => exact .tail _ ih
theorem Put.keys {a o o'} {H H' : AHeap} (p : Put a o o' H H') : H'.map (·.1) = H.map (·.1) := by
  induction p with
  | here => rfl
  | there _ ih => simp [ih]
theorem Put.back {a o o'} {H H' : AHeap} (p : Put a o o' H H') (nd : (H.map (·.1)).Nodup) : ∀ q ∈ H', q = (a, o') ∨ (q ∈ H ∧ q.1 ≠ a) := by
  induction p with
  | @here r =>
    intro q hq
    rcases List.mem_cons.mp hq with rfl | hq
    · exact .inl rfl
    · refine .inr ⟨.tail _ hq, fun e => ?_⟩
      rw [List.map_cons, List.nodup_cons] at nd
      exact nd.1 (by show a ∈ _; rw [← e]; exact List.mem_map.mpr ⟨q, hq, rfl⟩)
  | @there p r r' hp ih =>
    intro q hq
    rw [List.map_cons, List.nodup_cons] at nd
    rcases List.mem_cons.mp hq with rfl | hq
    · refine .inr ⟨.head _, fun e => ?_⟩
      exact nd.1 (by rw [e]; exact List.mem_map_of_mem hp.mem)
    · rcases ih nd.2 q hq with q | q
      · exact .inl q
      · exact .inr ⟨.tail _ q.1, q.2⟩

section
variable {c : Cx} {Z : List (Addr × Obj)} {H H' : AHeap} {s : Shared} {h' : Heap} {t : Nat} {a : Addr} {o o' : AObj}
theorem Sta.tok (S : Sta c Z H s) (t : Nat) : Sta c Z H { s with toks := t } := ⟨by rw [S.same], S.base, S.extra, S.owns, S.nodup, S.offB, S.offZ⟩
theorem Sta.keep (S : Sta c Z H s) (k : ∀ b o, s.heap.get? b = some o → h'.get? b = some o) (t : Nat) : Sta c Z H { s with heap := h', toks := t } :=
  ⟨by rw [S.same], fun a o e => k _ _ (S.base a o e), fun p hp => k _ _ (S.extra p hp), fun p hp => by
    have q := S.owns p hp
    obtain ⟨ob, ho, _⟩ := q.at
    exact q.mono ((k _ _ ho).trans ho.symm) (.of_keep k), S.nodup, S.offB, S.offZ⟩
theorem Sta.keep' (S : Sta c Z H s) (k : ∀ b o, s.heap.get? b = some o → h'.get? b = some o) : Sta c Z H { s with heap := h' } := S.keep k s.toks
theorem Sta.alloced (S : Sta c Z H s) (hp : (a, o) ∈ H) : ∃ ob, s.heap.get? a = some ob ∧ ¬ IsTupO ob := (S.owns _ hp).at
theorem Sta.tkBut (S : Sta c Z H s) (hp : (a, o) ∈ H) (k : ∀ b o, b ≠ a → s.heap.get? b = some o → h'.get? b = some o) : TK s.heap h' := by
  obtain ⟨ob, ho, hn⟩ := S.alloced hp
  exact .but ho hn k
theorem Sta.put (S : Sta c Z H s) (p : Put a o o' H H') (k : ∀ b o, b ≠ a → s.heap.get? b = some o → h'.get? b = some o) (ho : Owns c h' a o') (t : Nat) :
    Sta c Z H' { s with heap := h', toks := t } := by
  have tk : TK s.heap h' := S.tkBut p.mem k
  refine ⟨by rw [S.same], fun b ob e => k b ob (fun q => ?_) (S.base b ob e), fun q hq => k _ _ (fun e => ?_) (S.extra q hq), fun q hq => ?_, by rw [p.keys]; exact S.nodup, fun q hq => ?_, fun q hq r hr => ?_⟩
  · subst q; rw [(S.offB _ p.mem).1] at e; cases e
  · exact S.offZ _ p.mem q hq e.symm
  · rcases p.back S.nodup q hq with rfl | ⟨hq, hne⟩
    · exact ho
    · have x := S.owns q hq
      obtain ⟨ob, hob, _⟩ := x.at
      exact x.mono ((k _ _ hne hob).trans hob.symm) tk
  · rcases p.back S.nodup q hq with rfl | ⟨hq, _⟩
    · exact (S.offB _ p.mem :)
    · exact S.offB _ hq
  · rcases p.back S.nodup q hq with rfl | ⟨hq, _⟩
    · exact (S.offZ _ p.mem r hr :)
    · exact S.offZ _ hq r hr
theorem Sta.off_of (S : Sta c Z H s) (hf : Fresh s.heap a) : Off c a := by
  refine ⟨?_, ?_⟩
  · cases e : c.B.get? a with
    | none => rfl
    | some ob => have := S.base _ _ e; rw [hf.1] at this; cases this
  · obtain ⟨mg, o, es, ep, ho, _⟩ := c.g
    have h1 := Heap.lt_size (S.base _ _ ho)
    have h2 : sysModules < mainGlobals := by decide
    have h3 := hf.2
    cases e : a == sysModules with
    | false => rfl
    | true => rw [beq_iff_eq.mp e] at h3; exact absurd (Nat.lt_of_lt_of_le h1 h3) (Nat.not_lt.mpr (Nat.le_of_lt h2))
theorem Sta.new (S : Sta c Z H s) (hf : Fresh s.heap a) (k : ∀ b o, s.heap.get? b = some o → h'.get? b = some o) (ho : Owns c h' a o) (t : Nat) :
    Sta c Z ((a, o) :: H) { s with heap := h', toks := t } := by
  have S' := S.keep k t
  refine ⟨S'.same, S'.base, S'.extra, fun p hp => ?_, ?_, fun p hp => ?_, fun p hp q hq => ?_⟩
  · rcases List.mem_cons.mp hp with rfl | hp
    · exact ho
    · exact S'.owns p hp
  · rw [List.map_cons, List.nodup_cons]
    refine ⟨fun hm => ?_, S.nodup⟩
    obtain ⟨p, hp, rfl⟩ := List.mem_map.mp hm
    obtain ⟨ob, hob, _⟩ := (S.owns p hp).at
    rw [hf.1] at hob; cases hob
  · rcases List.mem_cons.mp hp with rfl | hp
    · exact S.off_of hf
    · exact S.offB p hp
  · rcases List.mem_cons.mp hp with rfl | hp
    · intro e
      have := S.extra q hq
      rw [← e, hf.1] at this; cases this
    · exact S.offZ p hp q hq
theorem fresh_size (h : Heap) : Fresh h h.objs.size := by
  refine ⟨?_, Nat.le_refl _⟩
  cases e : h.get? h.objs.size with
  | none => rfl
  | some o => exact absurd (Heap.lt_size e) (Nat.lt_irrefl _)
theorem Sta.sub (S : Sta c Z H s) (x : H'.Sublist H) : Sta c Z H' s :=
  ⟨S.same, S.base, S.extra, fun p hp => S.owns p (x.subset hp), S.nodup.sublist (x.map _), fun p hp => S.offB p (x.subset hp), fun p hp => S.offZ p (x.subset hp)⟩
theorem Sta.perm (S : Sta c Z H s) (x : H'.Perm H) : Sta c Z H' s :=
  ⟨S.same, S.base, S.extra, fun p hp => S.owns p (x.mem_iff.mp hp), (x.map _).nodup_iff.mpr S.nodup, fun p hp => S.offB p (x.mem_iff.mp hp), fun p hp => S.offZ p (x.mem_iff.mp hp)⟩
/-- freeze one more object -/
theorem Sta.freeze (S : Sta c Z H s) {ob : Obj} (e : s.heap.get? a = some ob) (off : ∀ p ∈ H, p.1 ≠ a) : Sta c ((a, ob) :: Z) H s :=
  ⟨S.same, S.base, fun p hp => by
    rcases List.mem_cons.mp hp with rfl | hp
    · exact e
    · exact S.extra p hp, S.owns, S.nodup, S.offB, fun p hp q hq => by
    rcases List.mem_cons.mp hq with rfl | hq
    · exact off p hp
    · exact S.offZ p hp q hq⟩
theorem Sta.thaw {p : Addr × Obj} (S : Sta c (p :: Z) H s) : Sta c Z H s :=
  ⟨S.same, S.base, fun q hq => S.extra q (.tail _ hq), S.owns, S.nodup, S.offB, fun q hq r hr => S.offZ q hq r (.tail _ hr)⟩
/-- turn an object that is neither owned nor frozen nor of the base -/
theorem Sta.turn (S : Sta c Z H s) {ob : Obj} (e : s.heap.get? a = some ob) (hn : ¬ IsTupO ob) (off : ∀ p ∈ H, p.1 ≠ a) (offZ : ∀ p ∈ Z, p.1 ≠ a) (offB : Off c a)
    (k : ∀ b o, b ≠ a → s.heap.get? b = some o → h'.get? b = some o) (t : Nat) : Sta c Z H { s with heap := h', toks := t } := by
  refine ⟨by rw [S.same], fun b ob e' => k b ob (fun q => ?_) (S.base b ob e'), fun q hq => k _ _ (offZ q hq) (S.extra q hq), fun q hq => ?_, S.nodup, S.offB, S.offZ⟩
  · rw [q, offB.1] at e'; cases e'
  · have x := S.owns q hq
    obtain ⟨ob', hob, _⟩ := x.at
    exact x.mono ((k _ _ (off q hq) hob).trans hob.symm) (.but e hn k)
end

/-- weaker heaps -/
noncomputable def Weak (c : Cx) (H H' : AHeap) : Prop := ∀ Z s, Sta c Z H s → Sta c Z H' s
theorem Weak.sub' {H H' : AHeap} {c : Cx} (x : H'.Sublist H) : Weak c H H' := fun _ _ S => S.sub x
theorem Weak.perm' {H H' : AHeap} {c : Cx} (x : H'.Perm H) : Weak c H H' := fun _ _ S => S.perm x
theorem Weak.refl (c : Cx) (H : AHeap) : Weak c H H := fun _ _ S => S
theorem Weak.trans {c : Cx} {H H' H'' : AHeap} (x : Weak c H H') (y : Weak c H' H'') : Weak c H H'' := fun _ _ S => y _ _ (x _ _ S)
/-- tell less, or other, of one object -/
theorem Sta.tell {c : Cx} {Z : List (Addr × Obj)} {H H' : AHeap} {s : Shared} {a : Addr} {o o' : AObj} (S : Sta c Z H s) (p : Put a o o' H H') (k : Owns c s.heap a o → Owns c s.heap a o') : Sta c Z H' s := by
  refine ⟨S.same, S.base, S.extra, fun q hq => ?_, by rw [p.keys]; exact S.nodup, fun q hq => ?_, fun q hq r hr => ?_⟩
  · rcases p.back S.nodup q hq with rfl | ⟨hq, hne⟩
    · exact k (S.owns _ p.mem)
    · exact S.owns q hq
  · rcases p.back S.nodup q hq with rfl | ⟨hq, _⟩
    · exact (S.offB _ p.mem :)
    · exact S.offB _ hq
  · rcases p.back S.nodup q hq with rfl | ⟨hq, _⟩
    · exact (S.offZ _ p.mem r hr :)
    · exact S.offZ _ hq r hr
theorem Weak.ns {c : Cx} {H H' : AHeap} {a : Addr} {m m' : List (Str × AV)} (p : Put a (.ns m) (.ns m') H H') (k : ∀ x v, m'.lookup x = some v → m.lookup x = some v) : Weak c H H' := fun _ _ S =>
  S.tell p fun ⟨mm, hn, hm⟩ => ⟨mm, hn, fun x v e => hm x v (k x v e)⟩
theorem Weak.unpinI {c : Cx} {H H' : AHeap} {a : Addr} {es ob} (p : Put a (.pidict es ob) (.idict es) H H') : Weak c H H' := fun _ _ S => S.tell p fun x => x.2
theorem Weak.unpinT {c : Cx} {H H' : AHeap} {a : Addr} {es ob} (p : Put a (.ptdict es ob) (.tdict es) H H') : Weak c H H' := fun _ _ S => S.tell p fun x => x.2

/-- triples -/
noncomputable def Post (c : Cx) (Z : List (Addr × Obj)) {α β : Type} (rel : Heap → α → β → Prop) (s : Shared) (Φ : β → AHeap → Prop) (x : α) (s' : Shared) : Prop :=
  ∃ y H', rel s'.heap x y ∧ Sta c Z H' s' ∧ TK s.heap s'.heap ∧ Φ y H'
noncomputable def Tr (c : Cx) (A : Around) (Z : List (Addr × Obj)) {α β : Type} (rel : Heap → α → β → Prop) (t : Sem α) (H : AHeap) (Φ : β → AHeap → Prop) : Prop :=
  ∀ s, Sta c Z H s → wpAny (model c.prog c.w) A t (Post c Z rel s Φ) (fun _ _ => False) s
noncomputable def relU (_ : Heap) (_ _ : Unit) : Prop := True
noncomputable def relB (_ : Heap) (x y : Bool) : Prop := x = y

noncomputable abbrev no (_ : Value) (_ : Shared) : Prop := False

section
variable {c : Cx} {A : Around} {Z : List (Addr × Obj)} {α β : Type} {rel : Heap → α → β → Prop} {t : Sem α} {H : AHeap} {Φ Ψ : β → AHeap → Prop} {s s₁ : Shared}
theorem Post.mono {x : α} (k : ∀ y H', Φ y H' → Ψ y H') (p : Post c Z rel s Φ x s₁) : Post c Z rel s Ψ x s₁ := let ⟨y, H', a, b, d, e⟩ := p; ⟨y, H', a, b, d, k _ _ e⟩
theorem Post.from {s₀ : Shared} {x : α} (tk : TK s₀.heap s.heap) (p : Post c Z rel s Φ x s₁) : Post c Z rel s₀ Φ x s₁ := let ⟨y, H', a, b, d, e⟩ := p; ⟨y, H', a, b, tk.trans d, e⟩
theorem Tr.mono (h : Tr c A Z rel t H Φ) (k : ∀ y H', Φ y H' → Ψ y H') : Tr c A Z rel t H Ψ := fun s S => wpAny_mono (h s S) (fun _ _ p => p.mono k) fun _ _ e => e
theorem Tr.sub {H₁ : AHeap} (h : Tr c A Z rel t H₁ Φ) (x : H₁.Sublist H) : Tr c A Z rel t H Φ := fun s S => h s (S.sub x)
theorem Tr.perm {H₁ : AHeap} (h : Tr c A Z rel t H₁ Φ) (x : H₁.Perm H) : Tr c A Z rel t H Φ := fun s S => h s (S.perm x)
theorem Tr.drop (h : Tr c A Z rel t H (fun y H' => ∃ H'', H''.Sublist H' ∧ Φ y H'')) : Tr c A Z rel t H Φ := fun s S => wpAny_mono (h s S) (fun x s' p => by
  obtain ⟨y, H', a, b, d, H'', e, f⟩ := p
  exact ⟨y, H'', a, b.sub e, d, f⟩) fun _ _ e => e
theorem Tr.weak {H₁ : AHeap} (h : Tr c A Z rel t H₁ Φ) (x : Weak c H H₁) : Tr c A Z rel t H Φ := fun s S => h s (x _ _ S)
theorem Tr.post (h : Tr c A Z rel t H (fun y H' => ∃ H'', Weak c H' H'' ∧ Φ y H'')) : Tr c A Z rel t H Φ := fun s S => wpAny_mono (h s S) (fun x s' p => by
  obtain ⟨y, H', a, b, d, H'', e, f⟩ := p
  exact ⟨y, H'', a, e _ _ b, d, f⟩) fun _ _ e => e
theorem Tr.pinI {a : Addr} {es} (h : ∀ o, ∃ H', Put a (.idict es) (.pidict es o) H H' ∧ Tr c A Z rel t H' Φ) : Tr c A Z rel t H Φ := fun s S => by
  obtain ⟨H₀, P₀, _⟩ := h default
  obtain ⟨o, ho, _⟩ := S.alloced P₀.mem
  obtain ⟨H', P, h'⟩ := h o
  exact h' s (S.tell P fun x => ⟨ho, x⟩)
theorem Tr.pinT {a : Addr} {es} (h : ∀ o, ∃ H', Put a (.tdict es) (.ptdict es o) H H' ∧ Tr c A Z rel t H' Φ) : Tr c A Z rel t H Φ := fun s S => by
  obtain ⟨H₀, P₀, _⟩ := h default
  obtain ⟨o, ho, _⟩ := S.alloced P₀.mem
  obtain ⟨H', P, h'⟩ := h o
  exact h' s (S.tell P fun x => ⟨ho, x⟩)
end
end Mine
end
section
open PySem PySem.W PySem.Calls PyProof.Rows
set_option Elab.async false
set_option maxRecDepth 100000
set_option linter.unusedVariables false
namespace Mine

structure Ar (A : Around) (n : Nat) : Prop where
  hd : A.handled = none
  dp : A.depth + 3 * n < recursionLimit
  un : A.units + 32 * n + 64 < cLine
theorem Ar.in1 {A : Around} {n : Nat} (h : Ar A n) : A.in1.units < cLine := by have := h.un; show A.units + 1 < cLine; omega
theorem Ar.u {A : Around} {n : Nat} (h : Ar A n) : A.units < cLine := by have := h.un; omega

inductive AF where
  | next | brk | cont
  | ret (v : AV)
inductive FR (h : Heap) : Flow → AF → Prop
  | next : FR h .next .next
  | brk : FR h .brk .brk
  | cont : FR h .cont .cont
  | ret {v : Value} {a : AV} : VR h v a → FR h (.ret v) (.ret a)

section
variable {c : Cx} {A : Around} {Z : List (Addr × Obj)} {H : AHeap} {env : Env} {Φ : AV → AHeap → Prop}

noncomputable def Op1 (c : Cx) (A : Around) (Z : List (Addr × Obj)) {α β : Type} (f : Value → Sem α) (rel : Heap → α → β → Prop) (a : AV) (H : AHeap) (Φ : β → AHeap → Prop) : Prop :=
  ∀ s v, Sta c Z H s → VR s.heap v a → wpAny (model c.prog c.w) A (f v) (Post c Z rel s Φ) no s
noncomputable def Op2 (c : Cx) (A : Around) (Z : List (Addr × Obj)) {α β : Type} (f : Value → Value → Sem α) (rel : Heap → α → β → Prop) (a b : AV) (H : AHeap) (Φ : β → AHeap → Prop) : Prop :=
  ∀ s v u, Sta c Z H s → VR s.heap v a → VR s.heap u b → wpAny (model c.prog c.w) A (f v u) (Post c Z rel s Φ) no s
noncomputable def Op3 (c : Cx) (A : Around) (Z : List (Addr × Obj)) {α β : Type} (f : Value → Value → Value → Sem α) (rel : Heap → α → β → Prop) (a b d : AV) (H : AHeap) (Φ : β → AHeap → Prop) : Prop :=
  ∀ s v u x, Sta c Z H s → VR s.heap v a → VR s.heap u b → VR s.heap x d → wpAny (model c.prog c.w) A (f v u x) (Post c Z rel s Φ) no s
noncomputable def OpL (c : Cx) (A : Around) (Z : List (Addr × Obj)) {α β : Type} (f : List Value → Sem α) (rel : Heap → α → β → Prop) (l : List AV) (H : AHeap) (Φ : β → AHeap → Prop) : Prop :=
  ∀ s vs, Sta c Z H s → VRs s.heap vs l → wpAny (model c.prog c.w) A (f vs) (Post c Z rel s Φ) no s
noncomputable abbrev EV (c : Cx) (A : Around) (Z : List (Addr × Obj)) (env : Env) (e : Expr) (H : AHeap) (Φ : AV → AHeap → Prop) : Prop := Tr c A Z VR (eval e env) H Φ
noncomputable abbrev EB (c : Cx) (A : Around) (Z : List (Addr × Obj)) (env : Env) (e : Expr) (H : AHeap) (Φ : Bool → AHeap → Prop) : Prop := Tr c A Z relB (isTrue e env (eval e env)) H Φ
noncomputable abbrev EVs (c : Cx) (A : Around) (Z : List (Addr × Obj)) (env : Env) (pos : Pos) (es : List Expr) (H : AHeap) (Φ : List AV → AHeap → Prop) : Prop := Tr c A Z VRs (spliced (backTo pos (starEach es env))) H Φ

/-- one step, nothing turned -/
theorem Post.here {α β : Type} {rel : Heap → α → β → Prop} {s : Shared} {H : AHeap} {Φ : β → AHeap → Prop} {x : α} {y : β} (S : Sta c Z H s) (r : rel s.heap x y) (h : Φ y H) : Post c Z rel s Φ x s := ⟨y, H, r, S, .refl _, h⟩
theorem Post.tok {α β : Type} {rel : Heap → α → β → Prop} {s : Shared} {H : AHeap} {Φ : β → AHeap → Prop} {x : α} {y : β} {t : Nat} (S : Sta c Z H s) (r : rel s.heap x y) (h : Φ y H) : Post c Z rel s Φ x { s with toks := t } :=
  ⟨y, H, r, S.tok t, .refl _, h⟩

/-- bind two abstract steps -/
theorem bq {α β : Type} {rel : Heap → α → β → Prop} {t : Sem α} {s : Shared} {Φ : β → AHeap → Prop} {Q : α → Shared → Prop}
    (h : wpAny (model c.prog c.w) A t (Post c Z rel s Φ) no s)
    (g : ∀ x y H' s', rel s'.heap x y → Sta c Z H' s' → TK s.heap s'.heap → Φ y H' → Q x s') : wpAny (model c.prog c.w) A t Q no s :=
  wpAny_mono h (fun x s' ⟨y, H', a, b, d, e⟩ => g x y H' s' a b d e) fun _ _ e => e
theorem fq {α β : Type} {rel : Heap → α → β → Prop} {t : Sem α} {s s' : Shared} {Φ : β → AHeap → Prop} (tk : TK s.heap s'.heap)
    (h : wpAny (model c.prog c.w) A t (Post c Z rel s' Φ) no s') : wpAny (model c.prog c.w) A t (Post c Z rel s Φ) no s' :=
  wpAny_mono h (fun _ _ p => p.from tk) fun _ _ e => e

theorem EV_int {i : Int} {k pos} (h : Φ (.int i) H) : EV c A Z env (.Constant (.int i) k pos) H Φ := fun s S => wpAny_Constant_int (Post.tok S (.int _ _) h)
theorem EV_bool {i : Bool} {k pos} (h : Φ (.bool i) H) : EV c A Z env (.Constant (.bool i) k pos) H Φ := fun s S => Constant_bool (Post.here S (.bool _) h)
theorem EV_none {k pos} (h : Φ .none H) : EV c A Z env (.Constant .none k pos) H Φ := fun s S => Constant_none (Post.here S .none h)

theorem EV_local {x : Str} {pos : Pos} {m : List (Str × AV)} {v : AV} (hl : env.kindOf x = some .local) (hm : (env.locals, .ns m) ∈ H) (hv : m.lookup x = some v) (h : Φ v H)
    (hk : env.scope.kind = .function := by with_unfolding_all rfl) (hd : (x == ("__debug__" : Str)) = false := by with_unfolding_all decide) : EV c A Z env (.Name x pos) H Φ := fun s S => by
  obtain ⟨m', hn, hm'⟩ := S.owns _ hm
  obtain ⟨v', e, r⟩ := hm' _ _ hv
  exact wpAny_Name (wpAny_loadName_local hk hl hn e (Post.here S r h)) hd
theorem EV_cell {x : Str} {pos : Pos} {ca : Addr} {v : AV} (hl : env.kindOf x = some .cell) (hc : env.cells.lookup x = some ca) (hm : (ca, .cell (some v)) ∈ H) (h : Φ v H)
    (hk : env.scope.kind = .function := by with_unfolding_all rfl) (hd : (x == ("__debug__" : Str)) = false := by with_unfolding_all decide) : EV c A Z env (.Name x pos) H Φ := fun s S => by
  obtain ⟨v', hn, r⟩ := S.owns _ hm
  exact wpAny_Name (wpAny_loadName_cell hk hl hc hn (Post.here S r h)) hd
theorem EV_free {x : Str} {pos : Pos} {ca : Addr} {v : AV} (hl : env.kindOf x = some .free) (hc : env.cells.lookup x = some ca) (hm : (ca, .cell (some v)) ∈ H) (h : Φ v H)
    (hk : env.scope.kind = .function := by with_unfolding_all rfl) (hd : (x == ("__debug__" : Str)) = false := by with_unfolding_all decide)
    (hn : (x == ("__classdict__" : Str)) = false := by with_unfolding_all decide) : EV c A Z env (.Name x pos) H Φ := fun s S => by
  obtain ⟨v', hn', r⟩ := S.owns _ hm
  exact wpAny_Name (wpAny_loadName_free hk hl hc hn' (Post.here S r h) hn) hd

theorem Sta.K {s : Shared} (S : Sta c Z H s) : c.K.In s.heap := c.kin.keeps S.base
theorem Sta.lim {s : Shared} (S : Sta c Z H s) : s.heap.NoLimit := c.nolimit.keeps S.base
theorem Sta.mods {s : Shared} {a : Addr} {o : AObj} (S : Sta c Z H s) (hm : (a, o) ∈ H) : (a == sysModules) = false := (S.offB _ hm).2

theorem EV_global {x : Str} {pos : Pos} {v : Value} {a : AV} (e : nsIn c.K mainGlobals x = some (some v)) (hv : ∀ h, VR h v a) (h : Φ a H)
    (hg : env.globals = mainGlobals := by with_unfolding_all rfl) (hk : env.scope.kind = .function := by with_unfolding_all rfl) (hx : env.kindOf x = some .globalImplicit := by with_unfolding_all rfl) (hd : (x == ("__debug__" : Str)) = false := by with_unfolding_all decide) :
    EV c A Z env (.Name x pos) H Φ := fun s S => by
  obtain ⟨mg, G⟩ := c.g
  exact Calls.Name_function_global hk hx (Calls.loadGlobal_global (by rw [hg]; exact G.keeps S.base) (mg_of c.kin G e) (Post.here S (hv _) h)) hd
theorem EV_builtin {x : Str} {pos : Pos} {v : Value} (e : nsIn c.K mainGlobals x = some none) (hv : bootBuiltins x = some v) (h : Φ (.con v) H)
    (hg : env.globals = mainGlobals := by with_unfolding_all rfl) (hb : env.builtins = builtinsNs := by with_unfolding_all rfl) (hk : env.scope.kind = .function := by with_unfolding_all rfl) (hx : env.kindOf x = some .globalImplicit := by with_unfolding_all rfl) (hd : (x == ("__debug__" : Str)) = false := by with_unfolding_all decide)
    (hn : x ≠ "__name__" := by with_unfolding_all decide) : EV c A Z env (.Name x pos) H Φ := fun s S => by
  obtain ⟨mg, G⟩ := c.g
  obtain ⟨mb, B, hB⟩ := c.b
  exact Calls.Name_function_global hk hx (Calls.loadGlobal_builtin (by rw [hg]; exact G.keeps S.base) (mg_none_of c.kin G e) (by rw [hb]; exact B.keeps S.base) ((hB x hn).trans hv) (Post.here S (.con _) h)) hd

theorem EV_BinOp {op l r pos} (h : EV c A Z env l H fun a H₁ => EV c A Z env r H₁ fun b H₂ => Op2 c A Z (binaryOp op) VR a b H₂ Φ) : EV c A Z env (.BinOp l op r pos) H Φ := fun s S =>
  wpAny_BinOp (bq (h s S) fun x _ _ s' rx S' tk h₁ => bq (h₁ s' S') fun u _ _ s'' ru S'' tk' h₂ => fq (tk.trans tk') (h₂ s'' x u S'' (rx.mono tk') ru))
theorem EV_UnaryOp {op x pos} (h : EV c A Z env x H fun a H₁ => Op1 c A Z (unaryOp op) VR a H₁ Φ) : EV c A Z env (.UnaryOp op x pos) H Φ := fun s S =>
  UnaryOp_ (bq (h s S) fun x _ _ s' rx S' tk h₁ => fq tk (h₁ s' x S' rx))
theorem EV_Compare {op l r pos} (h : EV c A Z env l H fun a H₁ => EV c A Z env r H₁ fun b H₂ => Op2 c A Z (compareOp op) VR a b H₂ Φ) (hm : behindInMarks op r = false := by with_unfolding_all rfl) :
    EV c A Z env (.Compare l [op] [r] pos) H Φ := fun s S =>
  wpAny_Compare1 (bq (h s S) fun x _ _ s' rx S' tk h₁ => bq (h₁ s' S') fun u _ _ s'' ru S'' tk' h₂ => fq (tk.trans tk') (h₂ s'' x u S'' (rx.mono tk') ru)) hm
theorem EV_IfExp {t b o pos} (h : EB c A Z env t H fun q H₁ => if q = true then EV c A Z env b H₁ Φ else EV c A Z env o H₁ Φ) : EV c A Z env (.IfExp t b o pos) H Φ := fun s S =>
  IfExp_ (wpAny_mono (h s S) (fun q s' ⟨y, H', a, b, d, e⟩ => by
    cases (show q = y from a)
    cases q with
    | true => exact wpAny_mono (e s' b) (fun _ _ p => p.from d) fun _ _ e => e
    | false => exact wpAny_mono (e s' b) (fun _ _ p => p.from d) fun _ _ e => e) fun _ _ e => e)

theorem op2_int {op : Operator} {i j r : Int} (k : ∀ (s : Shared) t u (Q : Value → Shared → Prop), Q (.int r s.toks) { s with toks := s.toks + 1 } → wpAny (model c.prog c.w) A (binaryOp op (.int i t) (.int j u)) Q no s) (h : Φ (.int r) H) :
    Op2 c A Z (binaryOp op) VR (.int i) (.int j) H Φ := fun s v u S rv ru => by
  obtain ⟨t, rfl⟩ := rv.int_inv
  obtain ⟨t', rfl⟩ := ru.int_inv
  exact k s t t' _ (Post.tok S (.int _ _) h)
theorem op_add {i j : Int} (h : Φ (.int (i + j)) H) : Op2 c A Z (binaryOp .Add) VR (.int i) (.int j) H Φ := op2_int (fun _ _ _ _ q => PyProof.Rows.add_int q) h
theorem op_sub {i j : Int} (h : Φ (.int (i - j)) H) : Op2 c A Z (binaryOp .Sub) VR (.int i) (.int j) H Φ := op2_int (fun _ _ _ _ q => PyProof.Rows.sub_int q) h
theorem op_mul {i j : Int} (hm : IntMulOk i j) (h : Φ (.int (i * j)) H) : Op2 c A Z (binaryOp .Mult) VR (.int i) (.int j) H Φ := op2_int (fun _ _ _ _ q => PyProof.Rows.mul_int q hm) h
theorem op_mod {i j : Int} (hb : j ≠ 0) (h : Φ (.int (i.fmod j)) H) : Op2 c A Z (binaryOp .Mod) VR (.int i) (.int j) H Φ := op2_int (fun _ _ _ _ q => PyProof.Rows.mod_int' hb q) h
theorem op_and {i j : Int} (h : Φ (.int (Builtin.bitAnd i j)) H) : Op2 c A Z (binaryOp .BitAnd) VR (.int i) (.int j) H Φ := op2_int (fun _ _ _ _ q => PyProof.Rows.and_int q) h
theorem op_or {i j : Int} (h : Φ (.int (Builtin.bitOr i j)) H) : Op2 c A Z (binaryOp .BitOr) VR (.int i) (.int j) H Φ := op2_int (fun _ _ _ _ q => PyProof.Rows.or_int q) h
theorem op_shr {i j : Int} (hj : 0 ≤ j) (h : Φ (.int (i.fdiv (2 ^ j.toNat))) H) : Op2 c A Z (binaryOp .RShift) VR (.int i) (.int j) H Φ := op2_int (fun _ _ _ _ q => PyProof.Rows.rshift_int hj q) h
theorem op_shl {i j : Int} (hj : 0 ≤ j) (h2 : j ≤ 1000000) (hi : i.natAbs < 2 ^ 64) (h : Φ (.int (i * 2 ^ j.toNat)) H) : Op2 c A Z (binaryOp .LShift) VR (.int i) (.int j) H Φ :=
  op2_int (fun _ _ _ _ q => PyProof.Rows.lshift_int_small hj h2 hi q) h
theorem op_neg {i : Int} (h : Φ (.int (-i)) H) : Op1 c A Z (unaryOp .USub) VR (.int i) H Φ := fun s v S rv => by
  obtain ⟨t, rfl⟩ := rv.int_inv
  exact PyProof.Rows.neg_int (Post.tok S (.int _ _) h)
theorem cmp2_int {op : CmpOp} {i j : Int} {r : Bool} (k : ∀ (s : Shared) t u (Q : Value → Shared → Prop), Q (.bool r) s → wpAny (model c.prog c.w) A (compareOp op (.int i t) (.int j u)) Q no s) (h : Φ (.bool r) H) :
    Op2 c A Z (compareOp op) VR (.int i) (.int j) H Φ := fun s v u S rv ru => by
  obtain ⟨t, rfl⟩ := rv.int_inv
  obtain ⟨t', rfl⟩ := ru.int_inv
  exact k s t t' _ (Post.here S (.bool _) h)
theorem cmp_lt {i j : Int} (h : Φ (.bool (decide (i < j))) H) : Op2 c A Z (compareOp .Lt) VR (.int i) (.int j) H Φ := cmp2_int (fun _ _ _ _ q => PyProof.Rows.lt_int q) h
theorem cmp_gt {i j : Int} (h : Φ (.bool (decide (j < i))) H) : Op2 c A Z (compareOp .Gt) VR (.int i) (.int j) H Φ := cmp2_int (fun _ _ _ _ q => PyProof.Rows.gt_int q) h
theorem cmp_le {i j : Int} (h : Φ (.bool (decide (i ≤ j))) H) : Op2 c A Z (compareOp .LtE) VR (.int i) (.int j) H Φ := cmp2_int (fun _ _ _ _ q => PyProof.Rows.le_int q) h
theorem cmp_ge {i j : Int} (h : Φ (.bool (decide (j ≤ i))) H) : Op2 c A Z (compareOp .GtE) VR (.int i) (.int j) H Φ := cmp2_int (fun _ _ _ _ q => PyProof.Rows.ge_int q) h
theorem cmp_eq {i j : Int} (h : Φ (.bool (i == j)) H) : Op2 c A Z (compareOp .Eq) VR (.int i) (.int j) H Φ := cmp2_int (fun _ _ _ _ q => PyProof.Rows.eq_int q) h
theorem cmp_ne {i j : Int} (h : Φ (.bool (i != j)) H) : Op2 c A Z (compareOp .NotEq) VR (.int i) (.int j) H Φ := cmp2_int (fun _ _ _ _ q => PyProof.Rows.ne_int q) h
end

section
variable {c : Cx} {A : Around} {Z : List (Addr × Obj)} {H : AHeap} {env : Env} {Φ : Bool → AHeap → Prop}
/-- truth -/
theorem EB_Compare {op l r pos} (h : EV c A Z env l H fun a H₁ => EV c A Z env r H₁ fun b H₂ => Op2 c A Z (compareOp op) VR a b H₂ fun v H₃ => Op1 c A Z truthy relB v H₃ Φ)
    (hm : behindInMarks op r = false := by with_unfolding_all rfl) : EB c A Z env (.Compare l [op] [r] pos) H Φ := fun s S =>
  wpAny_isTrue_Compare1 (bq (h s S) fun x _ _ s' rx S' tk h₁ => bq (h₁ s' S') fun u _ _ s'' ru S'' tk' h₂ => bq (h₂ s'' x u S'' (rx.mono tk') ru) fun v _ _ s₃ rv S₃ tk'' h₃ => fq ((tk.trans tk').trans tk'') (h₃ s₃ v S₃ rv)) hm
theorem EB_not {x pos} (h : EB c A Z env x H fun b H' => Φ (!b) H') : EB c A Z env (.UnaryOp .Not x pos) H Φ := fun s S =>
  isTrue_not (wpAny_mono (h s S) (fun _ _ ⟨y, H', a, b, d, e⟩ => ⟨!y, H', congrArg (!·) a, b, d, e⟩) fun _ _ e => e)
theorem EB_and_nil {pos whole} (h : Φ true H) : Tr c A Z relB (isTrue (.BoolOp .And [] pos) env whole) H Φ := fun s S => isTrue_and_nil (Post.here S rfl h)
theorem EB_or_nil {pos whole} (h : Φ false H) : Tr c A Z relB (isTrue (.BoolOp .Or [] pos) env whole) H Φ := fun s S => isTrue_or_nil (Post.here S rfl h)
theorem EB_and {x rest pos whole} (h : EB c A Z env x H fun b H' => if b = true then Tr c A Z relB (isTrue (.BoolOp .And rest pos) env whole) H' Φ else Φ false H') :
    Tr c A Z relB (isTrue (.BoolOp .And (x :: rest) pos) env whole) H Φ := fun s S => isTrue_and (wpAny_mono (h s S) (fun q s' ⟨y, H', a, b, d, e⟩ => by
    cases (show q = y from a)
    cases q with
    | true => exact wpAny_mono (e s' b) (fun _ _ p => p.from d) fun _ _ e => e
    | false => exact ⟨false, H', rfl, b, d, e⟩) fun _ _ e => e)
theorem EB_or {x rest pos whole} (h : EB c A Z env x H fun b H' => if b = true then Φ true H' else Tr c A Z relB (isTrue (.BoolOp .Or rest pos) env whole) H' Φ) :
    Tr c A Z relB (isTrue (.BoolOp .Or (x :: rest) pos) env whole) H Φ := fun s S => isTrue_or (wpAny_mono (h s S) (fun q s' ⟨y, H', a, b, d, e⟩ => by
    cases (show q = y from a)
    cases q with
    | false => exact wpAny_mono (e s' b) (fun _ _ p => p.from d) fun _ _ e => e
    | true => exact ⟨true, H', rfl, b, d, e⟩) fun _ _ e => e)
theorem EB_plain {e} (h : EV c A Z env e H fun v H' => Op1 c A Z truthy relB v H' Φ) (he : isTrue e env (eval e env) = (do let v ← eval e env; standAt e.pos; holding [v] (truthy v)) := by with_unfolding_all rfl) : EB c A Z env e H Φ := fun s S =>
  isTrue_plain (bq (h s S) fun x _ _ s' rx S' tk h₁ => fq tk (h₁ s' x S' rx)) he
theorem tr_bool {b : Bool} (h : Φ b H) : Op1 c A Z truthy relB (.bool b) H Φ := fun s v S rv => by
  rw [rv.bool_inv]
  exact wpAny_truthy_bool (Post.here S rfl h)
theorem tr_int {i : Int} (h : Φ (i != 0) H) : Op1 c A Z truthy relB (.int i) H Φ := fun s v S rv => by
  obtain ⟨t, rfl⟩ := rv.int_inv
  exact PyProof.Rows.truthy_int (Post.here S rfl h)
theorem tr_none (h : Φ false H) : Op1 c A Z truthy relB .none H Φ := fun s v S rv => by
  rw [rv.none_inv]
  exact truthy_none (Post.here S rfl h)
end

section
variable {c : Cx} {A : Around} {Z : List (Addr × Obj)} {H : AHeap} {env : Env} {Φ : AV → AHeap → Prop}
theorem op_not {v : AV} (h : Op1 c A Z truthy relB v H fun b H' => Φ (.bool (!b)) H') : Op1 c A Z (unaryOp .Not) VR v H Φ := fun s x S rx =>
  not_of (wpAny_mono (h s x S rx) (fun q _ ⟨y, H', a, b, d, e⟩ => ⟨.bool (!y), H', by cases (show q = y from a); exact .bool _, b, d, e⟩) fun _ _ e => e)
theorem EV_one {op e pos} (h : EV c A Z env e H Φ) : EV c A Z env (.BoolOp op [e] pos) H Φ := fun s S => BoolOp_one (h s S)
theorem EV_and {e₁ e₂ rest pos} (h : EV c A Z env e₁ H fun v H₁ => Op1 c A Z truthy relB v H₁ fun b H₂ => if b = true then EV c A Z env (.BoolOp .And (e₂ :: rest) pos) H₂ Φ else Φ v H₂) :
    EV c A Z env (.BoolOp .And (e₁ :: e₂ :: rest) pos) H Φ := fun s S =>
  BoolOp_and (wpAny_mono (h s S) (fun x s' ⟨y, H', a, b, d, e⟩ => wpAny_mono (e s' x b a) (fun q s'' ⟨z, H'', a', b', d', e'⟩ => by
    cases (show q = z from a')
    cases q with
    | true => exact wpAny_mono (e' s'' b') (fun _ _ p => p.from (d.trans d')) fun _ _ e => e
    | false => exact ⟨y, H'', a.mono d', b', d.trans d', e'⟩) fun _ _ e => e) fun _ _ e => e)

theorem EVs_nil {pos : Pos} {Φ : List AV → AHeap → Prop} (h : Φ [] H) : EVs c A Z env pos [] H Φ := fun s S => spliced_nil (Post.here S .nil h)
theorem EVs_cons {pos : Pos} {e : Expr} {es : List Expr} {Φ : List AV → AHeap → Prop} (h : EV c A Z env e H fun v H₁ => EVs c A Z env pos es H₁ fun vs H₂ => Φ (v :: vs) H₂)
    (he : starEach (e :: es) env = (false, eval e env) :: starEach es env := by with_unfolding_all rfl) : EVs c A Z env pos (e :: es) H Φ := fun s S => by
  show wpAny _ _ (spliced (backTo pos (starEach (e :: es) env))) _ _ _
  rw [he]
  refine spliced_cons (wpAny_mono (h s S) (fun x s' ⟨y, H', a, b, d, e⟩ => wpAny_mono (e s' b) (fun q s'' ⟨z, H'', a', b', d', e'⟩ => ⟨y :: z, H'', .cons (a.mono d') a', b', d.trans d', e'⟩) fun _ _ e => e) fun _ _ e => e)

theorem EV_Tuple {es k pos} (h : EVs c A Z env pos es H fun vs H' => vs.length ≤ 1000 ∧ Φ (.tup vs) H') : EV c A Z env (.Tuple es k pos) H Φ := fun s S =>
  Tuple_ (bq (h s S) fun vs l _ s' r S' tk ⟨hz, h₁⟩ => fq tk <| wpAny_newTuple ⟨.tup l, _, .tup (Heap.get?_push_size _ rfl) (r.mono (.of_keep fun _ _ e => Heap.get?_push_of_some _ e)),
    S'.keep' (fun _ _ e => Heap.get?_push_of_some _ e), .of_keep fun _ _ e => Heap.get?_push_of_some _ e, h₁⟩ (by rw [r.len, sizeLine_eq]; omega))
theorem EV_List {es pos} (h : EVs c A Z env pos es H fun vs H' => vs.length ≤ 1000 ∧ ∀ a, Φ (.ref a) ((a, .list vs) :: H')) : EV c A Z env (.List es pos) H Φ := fun s S =>
  List_ (bq (h s S) fun vs l _ s' r S' tk ⟨hz, h₁⟩ => fq tk <| wpAny_newList ⟨.ref _, _, .ref _, S'.new (o := .list l) (fresh_size _) (fun _ _ e => Heap.get?_push_of_some _ e)
    ⟨vs, 0, Heap.get?_push_size _ rfl, r.mono (.of_keep fun _ _ e => Heap.get?_push_of_some _ e)⟩ _, .of_keep fun _ _ e => Heap.get?_push_of_some _ e, h₁ _⟩ (by rw [r.len, sizeLine_eq]; omega))
end
end Mine
end
section
open PySem PySem.W PySem.Calls PyProof.Rows
set_option Elab.async false
set_option maxRecDepth 100000
set_option linter.unusedVariables false
namespace Mine

section
variable {c : Cx} {A : Around} {Z : List (Addr × Obj)} {H H' : AHeap} {env : Env} {Φ : AV → AHeap → Prop}

/-- what may be read -/
noncomputable def Rd (c : Cx) (H : AHeap) (d : Addr) (x : AObj) : Prop := ∀ Z s, Sta c Z H s → Owns c s.heap d x ∧ (d == sysModules) = false
theorem Rd.mem {d : Addr} {x : AObj} (h : (d, x) ∈ H) : Rd c H d x := fun _ _ S => ⟨S.owns _ h, S.mods h⟩
theorem Rd.pinI {d : Addr} {es o} (h : (d, .pidict es o) ∈ H) : Rd c H d (.idict es) := fun _ _ S => ⟨(S.owns _ h).2, S.mods h⟩
theorem Rd.pinT {d : Addr} {es o} (h : (d, .ptdict es o) ∈ H) : Rd c H d (.tdict es) := fun _ _ S => ⟨(S.owns _ h).2, S.mods h⟩
theorem Rd.base {d : Addr} {l : List AV} {vs : List Value} {n} (h : c.B.get? d = some (listOf vs.toArray n)) (hv : VRs c.B vs l) (hd : (d == sysModules) = false) : Rd c H d (.list l) := fun _ _ S =>
  ⟨⟨vs, n, S.base _ _ h, hv.mono (.of_keep S.base)⟩, hd⟩
theorem sub_list {value slice : Expr} {a : Addr} {l : List AV} {k : Int} {x : AV} (hl : Rd c H a (.list l)) (h0 : 0 ≤ k) (hx : l[k.toNat]? = some x) (hk : k < 2 ^ 63) (h : Φ x H)
    (hs : ∀ t, subscripted slice false (.ref a) (.int k t) = operate [.ref a, .int k t] (getItem (.ref a) (.int k t)) := by intro _; with_unfolding_all rfl) : Op2 c A Z (subscriptTail value slice) VR (.ref a) (.int k) H Φ := fun s v u S rv ru => by
  rw [rv.ref_inv]
  obtain ⟨t, rfl⟩ := ru.int_inv
  obtain ⟨⟨vs, n, hg, hv⟩, _⟩ := hl Z s S
  obtain ⟨y, hy, ry⟩ := hv.get hx
  have hL : s.heap.IsList a vs.toArray := ⟨_, hg, rfl, n, rfl⟩
  exact tail_any hL.typeIs slot_list_getitem.lookup (wpAny_getItem_list hL h0 hk (by simpa using hy) (Post.here S ry h)) (hs t)
theorem sub_list_neg {value slice : Expr} {a : Addr} {l : List AV} {k : Int} {x : AV} (hl : Rd c H a (.list l)) (h0 : k < 0) (h1 : -(l.length : Int) ≤ k) (hx : l[(k + l.length).toNat]? = some x) (hk : -(2 ^ 63) ≤ k) (h : Φ x H)
    (hs : ∀ t, subscripted slice false (.ref a) (.int k t) = operate [.ref a, .int k t] (getItem (.ref a) (.int k t)) := by intro _; with_unfolding_all rfl) : Op2 c A Z (subscriptTail value slice) VR (.ref a) (.int k) H Φ := fun s v u S rv ru => by
  rw [rv.ref_inv]
  obtain ⟨t, rfl⟩ := ru.int_inv
  obtain ⟨⟨vs, n, hg, hv⟩, _⟩ := hl Z s S
  obtain ⟨y, hy, ry⟩ := hv.get hx
  have hL : s.heap.IsList a vs.toArray := ⟨_, hg, rfl, n, rfl⟩
  have hlen := hv.len
  exact tail_any hL.typeIs slot_list_getitem.lookup (wpAny_getItem_list_neg hL h0 (by simpa [hlen] using h1) hk (by simpa [hlen] using hy) (Post.here S ry h)) (hs t)
theorem isTup_of {h : Heap} {a : Addr} {vs : List Value} (e : h.get? a = some (tupObj vs)) : IsTup h a vs.toArray := ⟨_, e, rfl, _, rfl⟩
theorem sub_tup {value slice : Expr} {l : List AV} {k : Int} {x : AV} (h0 : 0 ≤ k) (hx : l[k.toNat]? = some x) (hk : k < 2 ^ 63) (h : Φ x H)
    (hs : ∀ a t, subscripted slice false (.ref a) (.int k t) = operate [.ref a, .int k t] (getItem (.ref a) (.int k t)) := by intro _ _; with_unfolding_all rfl) : Op2 c A Z (subscriptTail value slice) VR (.tup l) (.int k) H Φ := fun s v u S rv ru => by
  obtain ⟨a, vs, rfl, hg, hv⟩ := rv.tup_inv
  obtain ⟨t, rfl⟩ := ru.int_inv
  obtain ⟨y, hy, ry⟩ := hv.get hx
  have hT := isTup_of hg
  have hlt : k.toNat < vs.length := (List.getElem?_eq_some_iff.mp hy).1
  exact tail_any hT.typeIs PySem.F.slot_tuple_getitem.lookup (PyProof.Rows.getItem_tuple hT (by omega) hk (j := k.toNat) (by
    unfold seqIndex?
    have : ¬ k < 0 := by omega
    simp [this]
    omega) (by simpa using hy) (Post.here S ry h)) (hs a t)
theorem EV_Sub {value slice pos} (h : EV c A Z env value H fun o H₁ => EV c A Z env slice H₁ fun i H₂ => Op2 c A Z (subscriptTail value slice) VR o i H₂ Φ) : EV c A Z env (.Subscript value slice pos) H Φ := fun s S =>
  Subscript_ (bq (h s S) fun x _ _ s' rx S' tk h₁ => bq (h₁ s' S') fun u _ _ s'' ru S'' tk' h₂ => fq (tk.trans tk') (h₂ s'' x u S'' (rx.mono tk') ru))

/-- dicts keyed by ints -/
noncomputable abbrev IK (c : Cx) := intKind c.prog c.w
noncomputable abbrev TKd (c : Cx) := tupleKind (intKind c.prog c.w)

theorem a2_valueAt {h : Heap} {kvs : List (Int × Value)} {es : List (Int × AV)} (x : A2 (fun p q => p.1 = q.1 ∧ VR h p.2 q.2) kvs es) (k : Int) :
    (valueAt kvs k = none ∧ es.lookup k = none) ∨ ∃ v a, valueAt kvs k = some v ∧ es.lookup k = some a ∧ VR h v a := by
  induction x with
  | nil => exact .inl ⟨rfl, rfl⟩
  | @cons p q l m pq _ ih =>
    obtain ⟨e, r⟩ := pq
    obtain ⟨pk, pv⟩ := p
    obtain ⟨qk, qv⟩ := q
    dsimp only at e r
    subst e
    by_cases hk : pk = k
    · subst hk
      exact .inr ⟨pv, qv, by simp [valueAt], by simp, r⟩
    · have h1 : valueAt ((pk, pv) :: l) k = valueAt l k := by simp [valueAt, hk]
      have hb : (k == pk) = false := by simpa using fun e => hk e.symm
      have h2 : List.lookup k ((pk, qv) :: m) = List.lookup k m := by rw [List.lookup_cons, hb]
      rw [h1, h2]; exact ih
theorem a2_stored {h : Heap} {kvs : List (Int × Value)} {es : List (Int × AV)} (x : A2 (fun p q => p.1 = q.1 ∧ VR h p.2 q.2) kvs es) (k : Int) {v : Value} {a : AV} (r : VR h v a) :
    A2 (fun p q => p.1 = q.1 ∧ VR h p.2 q.2) (stored kvs k v) (kput es k a) := by
  have key : (kvs.any fun kv => decide (kv.1 = k)) = (es.lookup k).isSome := by
    clear r
    induction x with
    | nil => rfl
    | @cons p q l m pq _ ih =>
      obtain ⟨e, r⟩ := pq
      obtain ⟨pk, pv⟩ := p
      obtain ⟨qk, qv⟩ := q
      dsimp only at e
      subst e
      by_cases hk : pk = k
      · subst hk; simp
      · have hb : (k == pk) = false := by simpa using fun e => hk e.symm
        rw [List.any_cons, List.lookup_cons, hb, ih]; simp [hk]
  unfold stored kput
  rw [key]
  cases hh : (es.lookup k).isSome with
  | true =>
    simp only [if_true]
    clear key hh
    induction x with
    | nil => exact .nil
    | @cons p q l m pq _ ih =>
      obtain ⟨e, r'⟩ := pq
      rw [List.map_cons, List.map_cons]
      refine .cons ?_ ih
      by_cases hk : p.1 = k
      · rw [if_pos hk, if_pos (by rw [← e, hk]; simp)]; exact ⟨e, r⟩
      · rw [if_neg hk, if_neg (by rw [← e]; simpa using hk)]; exact ⟨e, r'⟩
  | false =>
    simp only [Bool.false_eq_true, if_false]
    exact x.append (.cons ⟨rfl, r⟩ .nil)

theorem sub_idict {value slice : Expr} {d : Addr} {es : List (Int × AV)} {k : Int} {x : AV} (hd : Rd c H d (.idict es)) (hx : es.lookup k = some x) (h : Φ x H)
    (hs : ∀ t, subscripted slice false (.ref d) (.int k t) = operate [.ref d, .int k t] (getItem (.ref d) (.int k t)) := by intro _; with_unfolding_all rfl) : Op2 c A Z (subscriptTail value slice) VR (.ref d) (.int k) H Φ := fun s v u S rv ru => by
  rw [rv.ref_inv]
  obtain ⟨t, rfl⟩ := ru.int_inv
  obtain ⟨⟨kvs, hD, ha⟩, hm⟩ := hd Z s S
  rcases a2_valueAt ha k with ⟨_, e⟩ | ⟨y, a, e1, e2, r⟩
  · rw [hx] at e; cases e
  · rw [hx] at e2; cases e2
    exact tail_any hD.mapOf.typeIs slot_dict_getitem.lookup (wpAny_getItem_of (knd := IK c) (intKind_is _ _ k t) hD.mapOf e1 (Post.tok S r h)) (hs t)
theorem set_idict {d : Addr} {es : List (Int × AV)} {k : Int} {x : AV} (P : Put d (.idict es) (.idict (kput es k x)) H H') (hz : es.length ≤ 1000000) {Φ : Unit → AHeap → Prop} (h : Φ () H') :
    Op3 c A Z (fun o i v => setItem o i v) relU (.ref d) (.int k) x H Φ := fun s v u y S rv ru ry => by
  rw [rv.ref_inv]
  obtain ⟨t, rfl⟩ := ru.int_inv
  obtain ⟨kvs, hD, ha⟩ := S.owns _ P.mem
  refine wpAny_setItem_pairs (knd := IK c) (intKind_is _ _ k t) hD (fun h' hD' hs => ?_) (by rw [ha.len, sizeLine_eq]; omega)
  have tk := S.tkBut P.mem hs.extBut
  exact ⟨(), H', trivial, S.put P hs.extBut ⟨_, hD', (a2_stored (ha.mono fun _ _ q => ⟨q.1, q.2.mono tk⟩) k (ry.mono tk))⟩ _, tk, h⟩

/-- dicts keyed by tuples of ints -/
theorem items_of {h : Heap} {vs : List Value} {ks : List Int} (r : VRs h vs (ks.map AV.int)) : ItemsAre (IK c) ks vs := by
  induction ks generalizing vs with
  | nil => cases r; exact .nil
  | cons k ks ih =>
    cases r with
    | cons p r =>
      obtain ⟨t, rfl⟩ := p.int_inv
      exact .cons (intKind_is _ _ _ _) (ih r)
theorem key_of {h : Heap} {a : Addr} {vs : List Value} {ks : List Int} (e : h.get? a = some (tupObj vs)) (r : VRs h vs (ks.map AV.int)) : (TKd c).is h ks a := ⟨_, _, _, e, rfl, rfl, items_of r⟩

noncomputable abbrev TR (h : Heap) (y : List Int × Addr × Value × List Value) (q : List Int × AV) : Prop := y.1 = q.1 ∧ h.get? y.2.1 = some (tupObj y.2.2.2) ∧ VRs h y.2.2.2 (q.1.map AV.int) ∧ VR h y.2.2.1 q.2
theorem a2_atKey {h : Heap} {ys : List (List Int × Addr × Value × List Value)} {es : List (List Int × AV)} (x : A2 (TR h) ys es) (k : List Int) :
    (atKey (ys.map fun y => (y.1, y.2.1, y.2.2.1)) k = none ∧ es.lookup k = none) ∨ ∃ p a, atKey (ys.map fun y => (y.1, y.2.1, y.2.2.1)) k = some p ∧ es.lookup k = some a ∧ VR h p.2 a := by
  induction x with
  | nil => exact .inl ⟨rfl, rfl⟩
  | @cons p q l m pq _ ih =>
    obtain ⟨e, _, _, r⟩ := pq
    obtain ⟨pk, pa, pv, pl⟩ := p
    obtain ⟨qk, qv⟩ := q
    dsimp only at e r
    subst e
    by_cases hk : pk = k
    · subst hk
      exact .inr ⟨(pa, pv), qv, by simp [atKey], by simp, r⟩
    · have h1 : atKey (((pk, pa, pv, pl) :: l).map fun y => (y.1, y.2.1, y.2.2.1)) k = atKey (l.map fun y => (y.1, y.2.1, y.2.2.1)) k := by simp [atKey, hk]
      have hb : (k == pk) = false := by simpa using fun e => hk e.symm
      have h2 : List.lookup k ((pk, qv) :: m) = List.lookup k m := by rw [List.lookup_cons, hb]
      rw [h1, h2]; exact ih
theorem a2_storedH {h : Heap} {ys : List (List Int × Addr × Value × List Value)} {es : List (List Int × AV)} (x : A2 (TR h) ys es) (k : List Int) {a : Addr} {v : Value} {its : List Value} {b : AV} (ea : h.get? a = some (tupObj its)) (ei : VRs h its (k.map AV.int)) (r : VR h v b) :
    ∃ ys', storedH (ys.map fun y => (y.1, y.2.1, y.2.2.1)) k a v = ys'.map (fun y => (y.1, y.2.1, y.2.2.1)) ∧ A2 (TR h) ys' (kput es k b) := by
  have key : (atKey (ys.map fun y => (y.1, y.2.1, y.2.2.1)) k).isSome = (es.lookup k).isSome := by
    rcases a2_atKey x k with ⟨e1, e2⟩ | ⟨_, _, e1, e2, _⟩ <;> rw [e1, e2] <;> rfl
  unfold storedH kput
  rw [key]
  cases hh : (es.lookup k).isSome with
  | true =>
    simp only [if_true]
    refine ⟨ys.map fun y => if y.1 = k then (y.1, y.2.1, v, y.2.2.2) else y, ?_, ?_⟩
    · rw [List.map_map, List.map_map]
      refine List.map_congr_left fun y _ => ?_
      simp only [Function.comp, putAt]
      by_cases hk : y.1 = k <;> simp [hk]
    · clear key hh
      induction x with
      | nil => exact .nil
      | @cons p q l m pq _ ih =>
        obtain ⟨e, r1, r2, r'⟩ := pq
        rw [List.map_cons, List.map_cons]
        refine .cons ?_ ih
        by_cases hk : p.1 = k
        · rw [if_pos hk, if_pos (by rw [← e, hk]; simp)]; exact ⟨e, r1, r2, r⟩
        · rw [if_neg hk, if_neg (by rw [← e]; simpa using hk)]; exact ⟨e, r1, r2, r'⟩
  | false =>
    simp only [Bool.false_eq_true, if_false]
    exact ⟨ys ++ [(k, a, v, its)], by simp, x.append (.cons ⟨rfl, ea, ei, r⟩ .nil)⟩

theorem sub_tdict {n : Nat} (hA : Ar A n) {value slice : Expr} {d : Addr} {es : List (List Int × AV)} {k : List Int} {x : AV} (hd : Rd c H d (.tdict es)) (hx : es.lookup k = some x) (h : Φ x H)
    (hs : ∀ a, subscripted slice false (.ref d) (.ref a) = operate [.ref d, .ref a] (getItem (.ref d) (.ref a)) := by intro _; with_unfolding_all rfl) : Op2 c A Z (subscriptTail value slice) VR (.ref d) (.tup (k.map AV.int)) H Φ := fun s v u S rv ru => by
  rw [rv.ref_inv]
  obtain ⟨a, vs, rfl, hg, hv⟩ := ru.tup_inv
  obtain ⟨⟨ys, hD, ha⟩, hm⟩ := hd Z s S
  rcases a2_atKey ha k with ⟨_, e⟩ | ⟨y, a', e1, e2, r⟩
  · rw [hx] at e; cases e
  · rw [hx] at e2; cases e2
    exact tail_any hD.typeIs slot_dict_getitem.lookup (wpAny_getItem_heap (knd := TKd c) hA.in1 (key_of hg hv) hD e1 (Post.tok S r h)) (hs a)
theorem set_tdict {n : Nat} (hA : Ar A n) {d : Addr} {es : List (List Int × AV)} {k : List Int} {x : AV} (P : Put d (.tdict es) (.tdict (kput es k x)) H H') (hz : es.length ≤ 1000000) {Φ : Unit → AHeap → Prop} (h : Φ () H') :
    Op3 c A Z (fun o i v => setItem o i v) relU (.ref d) (.tup (k.map AV.int)) x H Φ := fun s v u y S rv ru ry => by
  rw [rv.ref_inv]
  obtain ⟨a, vs, rfl, hg, hv⟩ := ru.tup_inv
  obtain ⟨ys, hD, ha⟩ := S.owns _ P.mem
  refine wpAny_setItem_heap (knd := TKd c) hA.in1 (key_of hg hv) hD (fun h' hD' hs => ?_) (by rw [List.length_map, ha.len, sizeLine_eq]; omega)
  have tk := S.tkBut P.mem hs.extBut
  obtain ⟨ys', e, ha'⟩ := a2_storedH (ha.mono (S := TR h') fun _ _ q => ⟨q.1, tk _ _ q.2.1 (isTup_tupObj _), q.2.2.1.mono tk, q.2.2.2.mono tk⟩) k (tk _ _ hg (isTup_tupObj _)) (hv.mono tk) (ry.mono tk)
  rw [e] at hD'
  exact ⟨(), H', trivial, S.put P hs.extBut ⟨ys', hD', ha'⟩ _, tk, h⟩
theorem in_tdict {n : Nat} (hA : Ar A n) {d : Addr} {es : List (List Int × AV)} {k : List Int} (hd : Rd c H d (.tdict es)) (h : Φ (.bool (es.lookup k).isSome) H) : Op2 c A Z (compareOp .In) VR (.tup (k.map AV.int)) (.ref d) H Φ := fun s v u S rv ru => by
  rw [ru.ref_inv]
  obtain ⟨a, vs, rfl, hg, hv⟩ := rv.tup_inv
  obtain ⟨⟨ys, hD, ha⟩, hm⟩ := hd Z s S
  refine wpAny_in_heap (knd := TKd c) hA.in1 (key_of hg hv) hm hD ?_
  have e : (atKey (ys.map fun y => (y.1, y.2.1, y.2.2.1)) k).isSome = (es.lookup k).isSome := by
    rcases a2_atKey ha k with ⟨e1, e2⟩ | ⟨_, _, e1, e2, _⟩ <;> rw [e1, e2] <;> rfl
  rw [e]
  exact Post.tok S (.bool _) h
theorem notin_tdict {n : Nat} (hA : Ar A n) {d : Addr} {es : List (List Int × AV)} {k : List Int} (hd : Rd c H d (.tdict es)) (h : Φ (.bool (!(es.lookup k).isSome)) H) : Op2 c A Z (compareOp .NotIn) VR (.tup (k.map AV.int)) (.ref d) H Φ := fun s v u S rv ru => by
  rw [ru.ref_inv]
  obtain ⟨a, vs, rfl, hg, hv⟩ := rv.tup_inv
  obtain ⟨⟨ys, hD, ha⟩, hm⟩ := hd Z s S
  refine wpAny_notIn_heap (knd := TKd c) hA.in1 (key_of hg hv) hm hD ?_
  have e : (atKey (ys.map fun y => (y.1, y.2.1, y.2.2.1)) k).isSome = (es.lookup k).isSome := by
    rcases a2_atKey ha k with ⟨e1, e2⟩ | ⟨_, _, e1, e2, _⟩ <;> rw [e1, e2] <;> rfl
  rw [e]
  exact Post.tok S (.bool _) h
end
end Mine
end
section
open PySem PySem.W PySem.Calls PyProof.Rows
set_option Elab.async false
set_option maxRecDepth 100000
set_option linter.unusedVariables false
namespace Mine

section
variable {c : Cx} {A : Around} {Z : List (Addr × Obj)} {H H' : AHeap} {env : Env} {Φ : AV → AHeap → Prop}

noncomputable abbrev KRs (h : Heap) (kv : List (Str × Value)) (ks : List (Str × AV)) : Prop := A2 (fun p q => p.1 = q.1 ∧ VR h p.2 q.2) kv ks
noncomputable def CallT (c : Cx) (A : Around) (Z : List (Addr × Obj)) (f : AV) (as : List AV) (ks : List (Str × AV)) (H : AHeap) (Φ : AV → AHeap → Prop) : Prop :=
  ∀ s fv vs kv, Sta c Z H s → VR s.heap fv f → VRs s.heap vs as → KRs s.heap kv ks → wpAny (model c.prog c.w) A (call fv vs kv) (Post c Z VR s Φ) no s
theorem CallT.mono {f as ks} {Ψ : AV → AHeap → Prop} (h : CallT c A Z f as ks H Φ) (k : ∀ y H', Φ y H' → Ψ y H') : CallT c A Z f as ks H Ψ := fun s fv vs kv S r1 r2 r3 => wpAny_mono (h s fv vs kv S r1 r2 r3) (fun _ _ p => p.mono k) fun _ _ e => e
theorem CallT.sub {f as ks H₁} (h : CallT c A Z f as ks H₁ Φ) (x : H₁.Sublist H) : CallT c A Z f as ks H Φ := fun s fv vs kv S => h s fv vs kv (S.sub x)
theorem CallT.perm {f as ks H₁} (h : CallT c A Z f as ks H₁ Φ) (x : H₁.Perm H) : CallT c A Z f as ks H Φ := fun s fv vs kv S => h s fv vs kv (S.perm x)
/-- a call by the place alone of a built-in or a type -/
theorem CallT.con {f : Value} {as : List AV} (h : OpL c A Z (fun vs => call f vs) VR as H Φ) : CallT c A Z (.con f) as [] H Φ := fun s fv vs kv S r1 r2 r3 => by
  cases r3
  rw [r1.con_inv]
  exact h s vs S r2

noncomputable def okF (c : Cx) (f : AV) : Prop := (∃ i, f = .con (.builtin i)) ∨ (∃ T, f = .con (.type T)) ∨ ∃ a, f = .ref a ∧ keepIn c.K (.ref a) = true
theorem okF.keeps {M : Model} {f : AV} {fv : Value} {h₀ : Heap} (o : okF c f) (r : VR h₀ fv f) (h : Heap) (X : c.K.In h) : ∃ k, (k = Keeper.frame ∨ k = Keeper.machine ∨ k = Keeper.boundFrame) ∧ Looks M h (keeperOf fv) k := by
  rcases o with ⟨i, rfl⟩ | ⟨T, rfl⟩ | ⟨a, rfl, e⟩
  · rw [r.con_inv]; exact ⟨.machine, .inr (.inl rfl), .now⟩
  · rw [r.con_inv]; exact ⟨.machine, .inr (.inl rfl), .now⟩
  · rw [r.ref_inv]; exact keeps_K e h X

theorem evalArgs_all {M : Model} {E : Value → Shared → Prop} {s : Shared} {f : Value} {args : List (Bool × Sem Value)} {Q : Args → Shared → Prop} (hp : args.any (·.1) = false)
    (h : wpAny M A (spliced args) (fun vs s' => Q ⟨vs, []⟩ s') E s) : wpAny M A (evalArgs f true args []) Q E s := by
  cases args with
  | nil =>
    unfold evalArgs
    show wpAny M A (spliced [] >>= _) Q E s
    refine wpAny_bind (wpAny_mono h (fun vs s' h' => wpAny_bind (wpAny_pure (wpAny_holding ?_))) fun _ _ x => x)
    exact wpAny_bind (wpAny_pure (wpAny_bind (wpAny_pure (wpAny_pure h'))))
  | cons x r =>
    obtain ⟨b, t⟩ := x
    cases b with
    | true => simp at hp
    | false => exact Calls.evalArgs_plain h

theorem KRs_zip {h : Heap} {kv : List Value} {ks : List AV} (r : VRs h kv ks) : ∀ ns : List Str, KRs h (ns.zip kv) (ns.zip ks) := by
  induction kv generalizing ks with
  | nil => cases r; intro ns; cases ns <;> exact .nil
  | cons v kv ih =>
    cases r with
    | cons p r =>
      intro ns
      cases ns with
      | nil => exact .nil
      | cons n ns => exact .cons ⟨rfl, p⟩ (ih r ns)

theorem EV_callWith {pos : Pos} {fv : Value} {f : AV} {fs : List Value} {first : List AV} {args : List Expr} {s : Shared} (S : Sta c Z H s) (o : okF c f) (rf : VR s.heap fv f) (rs : VRs s.heap fs first)
    (hp : (backTo pos (starEach args env)).any (·.1) = false) (h : EVs c A Z env pos args H fun as H₁ => CallT c A Z f (first ++ as) [] H₁ Φ) :
    wpAny (model c.prog c.w) A (callWith pos fv fs (backTo pos (starEach args env)) []) (Post c Z VR s Φ) no s :=
  callWith_of (P := c.K.In) (by rw [hp]; rfl) (o.keeps rf) (evalArgs_all hp (bq (h s S) fun vs as _ s' r S' tk h₁ => ⟨S'.K, fq tk (h₁ s' _ _ _ S' (rf.mono tk) ((rs.mono tk).append r) .nil)⟩))
theorem EV_callWithK {pos : Pos} {fv : Value} {f : AV} {fs : List Value} {first : List AV} {args : List Expr} {kws : List Keyword} {names : List Str} {s : Shared} (S : Sta c Z H s) (o : okF c f) (rf : VR s.heap fv f) (rs : VRs s.heap fs first)
    (hp : (backTo pos (starEach args env)).any (·.1) = false) (hall : (backToKw pos (keywordEach kws env)).all (·.1.isSome) = true) (hno : (backToKw pos (keywordEach kws env)).any (·.1.isNone) = false)
    (hn : (backToKw pos (keywordEach kws env)).filterMap (·.1) = names) (he : ∃ x rest, backTo pos (starEach args env) = (false, x) :: rest)
    (h : EVs c A Z env pos args H fun as H₁ => Tr c A Z VRs (evalAll ((backToKw pos (keywordEach kws env)).map (·.2))) H₁ fun ks H₂ => CallT c A Z f (first ++ as) (names.zip ks) H₂ Φ) :
    wpAny (model c.prog c.w) A (callWith pos fv fs (backTo pos (starEach args env)) (backToKw pos (keywordEach kws env))) (Post c Z VR s Φ) no s := by
  obtain ⟨x, rest, e⟩ := he
  refine callWith_of (P := c.K.In) (by rw [hp, hno]; rfl) (o.keeps rf) ?_
  rw [e]
  refine evalArgs_kw hall ?_
  rw [← e]
  refine bq (h s S) fun vs as _ s' r S' tk h₁ => bq (h₁ s' S') fun kv ks _ s'' r' S'' tk' h₂ => ⟨S''.K, fq (tk.trans tk') (h₂ s'' _ _ _ S'' (rf.mono (tk.trans tk')) (((rs.mono tk).append r).mono tk') ?_)⟩
  rw [hn]
  exact KRs_zip r' names

/-- f(..) -/
theorem EV_Call {x : Str} {np pos : Pos} {args : List Expr} (h : EV c A Z env (.Name x np) H fun f H₁ => okF c f ∧ EVs c A Z env pos args H₁ fun as H₂ => CallT c A Z f as [] H₂ Φ)
    (hp : (backTo pos (starEach args env)).any (·.1) = false := by with_unfolding_all rfl) : EV c A Z env (.Call (.Name x np) args [] pos) H Φ := fun s S =>
  wpAny_Call_ofName (bq (h s S) fun fv f _ s' rf S' tk ⟨o, h₁⟩ => fq tk (EV_callWith S' o rf .nil hp h₁))

noncomputable def relM (h : Heap) (r : Value × List Value) (y : AV × List AV) : Prop := VR h r.1 y.1 ∧ VRs h r.2 y.2
/-- what a method's name gives -/
noncomputable def GM (c : Cx) (A : Around) (Z : List (Addr × Obj)) (name : Str) (ov : AV) (H : AHeap) (Φ : AV → List AV → AHeap → Prop) : Prop :=
  ∀ s v pl, Sta c Z H s → VR s.heap v ov → wpAny (model c.prog c.w) A (getMethod v name pl) (Post c Z relM s fun y H' => Φ y.1 y.2 H') no s
theorem EV_MCall {o : Expr} {name : Str} {apos pos : Pos} {args : List Expr} {pl : Sem Bool}
    (h : EV c A Z env o H fun ov H₁ => GM c A Z name ov H₁ fun f first H₂ => okF c f ∧ EVs c A Z env pos args H₂ fun as H₃ => CallT c A Z f (first ++ as) [] H₃ Φ)
    (he : eval (.Call (.Attribute o name apos) args [] pos) env = (do
      let ov ← eval o env
      standAt apos.atName
      let (f, first) ← holding [ov] (getMethod ov name pl)
      callWith pos f first (backTo pos (starEach args env)) (backToKw pos (keywordEach [] env))) := by with_unfolding_all rfl)
    (hp : (backTo pos (starEach args env)).any (·.1) = false := by with_unfolding_all rfl) : EV c A Z env (.Call (.Attribute o name apos) args [] pos) H Φ := fun s S =>
  methodCall_KW (bq (h s S) fun ov a _ s' ro S' tk h₁ => bq (h₁ s' ov pl S' ro) fun fx y _ s'' rf S'' tk' ⟨k, h₂⟩ => fq (tk.trans tk') (EV_callWith S'' k rf.1 rf.2 hp h₂)) he
theorem EV_MCallK {o : Expr} {name : Str} {apos pos : Pos} {args : List Expr} {kws : List Keyword} {names : List Str} {pl : Sem Bool}
    (h : EV c A Z env o H fun ov H₁ => GM c A Z name ov H₁ fun f first H₂ => okF c f ∧ EVs c A Z env pos args H₂ fun as H₃ =>
      Tr c A Z VRs (evalAll ((backToKw pos (keywordEach kws env)).map (·.2))) H₃ fun ks H₄ => CallT c A Z f (first ++ as) (names.zip ks) H₄ Φ)
    (he : eval (.Call (.Attribute o name apos) args kws pos) env = (do
      let ov ← eval o env
      standAt apos.atName
      let (f, first) ← holding [ov] (getMethod ov name pl)
      callWith pos f first (backTo pos (starEach args env)) (backToKw pos (keywordEach kws env))) := by with_unfolding_all rfl)
    (hp : (backTo pos (starEach args env)).any (·.1) = false := by with_unfolding_all rfl) (hall : (backToKw pos (keywordEach kws env)).all (·.1.isSome) = true := by with_unfolding_all rfl) (hno : (backToKw pos (keywordEach kws env)).any (·.1.isNone) = false := by with_unfolding_all rfl)
    (hn : (backToKw pos (keywordEach kws env)).filterMap (·.1) = names := by with_unfolding_all rfl) (he' : ∃ x rest, backTo pos (starEach args env) = (false, x) :: rest := by exact ⟨_, _, rfl⟩) :
    EV c A Z env (.Call (.Attribute o name apos) args kws pos) H Φ := fun s S =>
  methodCall_KW (bq (h s S) fun ov a _ s' ro S' tk h₁ => bq (h₁ s' ov pl S' ro) fun fx y _ s'' rf S'' tk' ⟨k, h₂⟩ => fq (tk.trans tk') (EV_callWithK S'' k rf.1 rf.2 hp hall hno hn he' h₂)) he
theorem EKs_nil {pos : Pos} {Φ : List AV → AHeap → Prop} (h : Φ [] H) : Tr c A Z VRs (evalAll ((backToKw pos (keywordEach [] env)).map (·.2))) H Φ := fun s S => wpAny_evalAll_nil (Post.here S .nil h)
theorem EKs_cons {pos : Pos} {k : Keyword} {kws : List Keyword} {Φ : List AV → AHeap → Prop}
    (h : EV c A Z env k.value H fun v H₁ => Tr c A Z VRs (evalAll ((backToKw pos (keywordEach kws env)).map (·.2))) H₁ fun vs H₂ => Φ (v :: vs) H₂) :
    Tr c A Z VRs (evalAll ((backToKw pos (keywordEach (k :: kws) env)).map (·.2))) H Φ := fun s S => by
  obtain ⟨n, e, p⟩ := k
  show wpAny _ _ (evalAll ((do let v ← eval e env; standAt pos; pure v) :: ((backToKw pos (keywordEach kws env)).map (·.2)))) _ _ _
  refine wpAny_evalAll_cons (wpAny_bind (bq (h s S) fun x y _ s' rx S' tk h₁ => wpAny_bind (wpAny_standAt (wpAny_pure (bq (h₁ s' S') fun vs l H'' s'' r S'' tk' h₂ => ?_)))))
  exact ⟨y :: l, H'', .cons (rx.mono tk') r, S'', tk.trans tk', h₂⟩

/-- a built-in type's method -/
theorem GM_builtin {T : String} {name : Str} {id : String} {a : Addr} {o : AObj} {Φ : AV → List AV → AHeap → Prop} (hm : (a, o) ∈ H)
    (ht : ∀ s, Owns c s a o → ∃ ob, s.get? a = some ob ∧ ob.cls = .type T ∧ ob.dict = none) (pa : PlainAttrs T) (slot : Slot T name id) (hty : typeOf (.builtin id) = pure (.type "method_descriptor")) (h : Φ (.con (.builtin id)) [.ref a] H) :
    GM c A Z name (.ref a) H Φ := fun s v pl S rv => by
  rw [rv.ref_inv]
  obtain ⟨ob, ho, hc, hd⟩ := ht s.heap (S.owns _ hm)
  exact getMethod_builtin ⟨ob, ho, hc⟩ pa slot hty (fun b e => by cases e; exact ⟨ob, ho, hd⟩) ⟨(_, _), H, ⟨.con _, .cons (.ref _) .nil⟩, S, .refl _, h⟩
theorem own_list {h : Heap} {a : Addr} {l : List AV} (x : Owns c h a (.list l)) : ∃ ob, h.get? a = some ob ∧ ob.cls = .type "list" ∧ ob.dict = none := by obtain ⟨vs, n, e, _⟩ := x; exact ⟨_, e, rfl, rfl⟩
theorem own_idict {h : Heap} {a : Addr} {l} (x : Owns c h a (.idict l)) : ∃ ob, h.get? a = some ob ∧ ob.cls = .type "dict" ∧ ob.dict = none := by obtain ⟨kvs, ⟨o, _, _, e, x, _⟩, _⟩ := x; exact ⟨_, e, x.1, x.2.1⟩
theorem own_tdict {h : Heap} {a : Addr} {l} (x : Owns c h a (.tdict l)) : ∃ ob, h.get? a = some ob ∧ ob.cls = .type "dict" ∧ ob.dict = none := by obtain ⟨kvs, ⟨o, _, _, e, x, _⟩, _⟩ := x; exact ⟨_, e, x.1, x.2.1⟩
theorem own_iset {h : Heap} {a : Addr} {S n} (x : Owns c h a (.iset S n)) : ∃ ob, h.get? a = some ob ∧ ob.cls = .type "set" ∧ ob.dict = none := by obtain ⟨o, _, _, _, e, x, _⟩ := x; exact ⟨_, e, x.1, x.2.1⟩
theorem own_deque {h : Heap} {a : Addr} {l} (x : Owns c h a (.deque l)) : ∃ ob, h.get? a = some ob ∧ ob.cls = .type "collections.deque" ∧ ob.dict = none := by obtain ⟨vs, n, e, _⟩ := x; exact ⟨_, e, rfl, rfl⟩
end
end Mine
end
section
open PySem PySem.W PySem.Calls PyProof.Rows
set_option Elab.async false
set_option maxRecDepth 100000
set_option linter.unusedVariables false
namespace Mine

section
variable {c : Cx} {A : Around} {Z : List (Addr × Obj)} {H H' : AHeap} {env : Env} {Φ : AV → AHeap → Prop}

noncomputable abbrev AtR (h : Heap) (e : DictEntry) (q : Str × AV) : Prop := (∃ t, e.key = .str q.1 t) ∧ VR h e.val q.2
theorem at_plain {h : Heap} {es : List DictEntry} {m : List (Str × AV)} (x : A2 (AtR h) es m) : es.any (·.refKey) = false := by
  induction x with
  | nil => rfl
  | cons p _ ih => obtain ⟨⟨t, e⟩, _⟩ := p; rw [List.any_cons, ih]; simp [DictEntry.refKey, e]
theorem putL_len (name : Str) (hsh : Int) (key v : Value) (es : List DictEntry) : (putL name hsh key v es).length ≤ es.length + 1 := by
  induction es with
  | nil => exact Nat.le_refl _
  | cons e r ih =>
    unfold putL
    split
    · simp
    · simp; omega
theorem at_get {h : Heap} {es : List DictEntry} {m : List (Str × AV)} (x : A2 (AtR h) es m) (name : Str) :
    (m.lookup name = none ∧ getL name es = some none) ∨ ∃ a v, m.lookup name = some a ∧ getL name es = some (some v) ∧ VR h v a := by
  have hr : es.any (·.refKey) = false := by
    induction x with
    | nil => rfl
    | cons p _ ih => obtain ⟨⟨t, e⟩, _⟩ := p; rw [List.any_cons, ih]; simp [DictEntry.refKey, e]
  unfold getL
  rw [hr]
  clear hr
  induction x with
  | nil => exact .inl ⟨rfl, rfl⟩
  | @cons p q l m pq _ ih =>
    obtain ⟨⟨t, e⟩, r⟩ := pq
    obtain ⟨qk, qv⟩ := q
    dsimp only at e r
    by_cases hk : qk = name
    · subst hk
      refine .inr ⟨qv, p.val, by simp, ?_, r⟩
      rw [List.find?_cons]
      simp [e, Value.isStr]
    · have hb : (name == qk) = false := by simpa using fun e => hk e.symm
      have h2 : p.key.isStr name = false := by rw [e]; simpa [Value.isStr] using hk
      rw [List.lookup_cons, hb, List.find?_cons, h2]
      exact ih
theorem at_put {h : Heap} {es : List DictEntry} {m : List (Str × AV)} (x : A2 (AtR h) es m) (name : Str) (hsh : Int) (t : Tok) {v : Value} {a : AV} (r : VR h v a) :
    A2 (AtR h) (putL name hsh (.str name t) v es) (match m.lookup name with | some _ => m.map (fun p => if p.1 == name then (p.1, a) else p) | none => m ++ [(name, a)]) ∨ ¬ (m.map (·.1)).Nodup := by
  by_cases nd : (m.map (·.1)).Nodup
  · left
    induction x with
    | nil => exact .cons ⟨⟨t, rfl⟩, r⟩ .nil
    | @cons p q l m pq hx ih =>
      obtain ⟨⟨t', e⟩, r'⟩ := pq
      obtain ⟨qk, qv⟩ := q
      rw [List.map_cons, List.nodup_cons] at nd
      dsimp only at e r' nd
      unfold putL
      by_cases hk : qk = name
      · subst hk
        have h2 : p.key.isStr qk = true := by rw [e]; simp [Value.isStr]
        rw [if_pos h2]
        simp only [List.lookup_cons, beq_self_eq_true, List.map_cons, if_true]
        refine .cons ⟨⟨t', e⟩, r⟩ ?_
        have : m.map (fun p => if p.1 == qk then (p.1, a) else p) = m := by
          have key : ∀ p ∈ m, (if p.1 == qk then (p.1, a) else p) = p := fun p hp => by
            rw [if_neg]
            simp only [beq_iff_eq]
            intro e; exact nd.1 (e ▸ List.mem_map_of_mem hp)
          rw [List.map_congr_left key, List.map_id']
        rw [this]; exact hx
      · have hb : (name == qk) = false := by simpa using fun e => hk e.symm
        have h2 : ¬ p.key.isStr name = true := by rw [e]; simpa [Value.isStr] using hk
        have hb' : (qk == name) = false := by simpa using hk
        rw [if_neg h2, List.lookup_cons, hb]
        have z := ih nd.2
        cases hm : m.lookup name with
        | some _ =>
          rw [hm] at z
          simp only [List.map_cons, hb', Bool.false_eq_true, if_false]
          exact .cons ⟨⟨t', e⟩, r'⟩ z
        | none =>
          rw [hm] at z
          exact .cons ⟨⟨t', e⟩, r'⟩ z
  · exact .inr nd

theorem inst_at {a d : Addr} {C : Addr} {m : List (Str × AV)} (S : Sta c Z H s) (h1 : (a, .inst C d) ∈ H) (h2 : (d, .attrs m) ∈ H) : ∃ es n, InstAt s.heap a (instObj C d) C (some (dictOf es n)) ∧ s.heap.get? d = some (dictOf es n) ∧ A2 (AtR s.heap) es m := by
  obtain ⟨es, n, hd, ha⟩ := S.owns _ h2
  exact ⟨es, n, ⟨S.owns _ h1, rfl, rfl, hd⟩, hd, ha⟩
theorem handed_of {h : Heap} {v : Value} {a : AV} (r : VR h v a) (hc : ∀ x, a ≠ .con x) : handedIn v = true := by
  cases r with
  | con v => exact absurd rfl (hc v)
  | _ => rfl

/-- an own field of an object -/
theorem get_field {a d C : Addr} {m : List (Str × AV)} {name : Str} {v : AV} {attr : Option Value} {ex : Bool} (h1 : (a, .inst C d) ∈ H) (h2 : (d, .attrs m) ∈ H) (hv : m.lookup name = some v) (hc : ∀ x, v ≠ .con x)
    (hg : plainGet c.K C name = true) (hh : hasDictIn c.K C = true) (ha : findIn c.K (.ref C) name = some attr) (hn : noGet c.K attr = true) (h : Φ v H) : Op1 c A Z (fun o => getAttr o name ex) VR (.ref a) H Φ := fun s o S ro => by
  rw [ro.ref_inv]
  obtain ⟨es, n, I, hd, hat⟩ := inst_at S h1 h2
  rcases at_get hat name with ⟨e, _⟩ | ⟨a', v', e1, e2, r⟩
  · rw [hv] at e; cases e
  · rw [hv] at e1; cases e1
    exact get_value S.K I (plainGet_of hg).1 (findObj_own hh ha hn e2) (handed_of r hc) (Post.tok S r h)
/-- an own method -/
theorem GM_inst {a d C f : Addr} {m : List (Str × AV)} {name : Str} {Φ : AV → List AV → AHeap → Prop} (h1 : (a, .inst C d) ∈ H) (h2 : (d, .attrs m) ∈ H) (hv : m.lookup name = none)
    (hg : plainGet c.K C name = true) (hf : findIn c.K (.ref C) name = some (some (.ref f))) (ht : isFn c.K (.ref f) = true) (h : Φ (.ref f) [.ref a] H) : GM c A Z name (.ref a) H Φ := fun s v pl S rv => by
  rw [rv.ref_inv]
  obtain ⟨es, n, I, hd, hat⟩ := inst_at S h1 h2
  rcases at_get hat name with ⟨_, e⟩ | ⟨a', v', e1, _⟩
  · exact method_fn S.K I (plainGet_of hg).1 (plainGet_of hg).2 hf (beq_iff_eq.mp ht) (by show (lookIn name (dictOf es n)).map _ = _; rw [lookIn_dict, e]; rfl) ⟨(_, _), H, ⟨.ref _, .cons (.ref _) .nil⟩, S, .refl _, h⟩
  · rw [hv] at e1; cases e1
noncomputable def aput (m : List (Str × AV)) (name : Str) (a : AV) : List (Str × AV) := match m.lookup name with
  | some _ => m.map (fun p => if p.1 == name then (p.1, a) else p)
  | none => m ++ [(name, a)]
theorem aput_len (m : List (Str × AV)) (name : Str) (a : AV) : (aput m name a).length ≤ m.length + 1 := by
  unfold aput
  split
  · rw [List.length_map]; omega
  · rw [List.length_append]; exact Nat.le_refl _
theorem set_field {a d C : Addr} {m m' : List (Str × AV)} {name : Str} {v : AV} {Φ : Unit → AHeap → Prop} (h1 : (a, .inst C d) ∈ H) (P : Put d (.attrs m) (.attrs m') H H') (hm : aput m name v = m') (nd : (m.map (·.1)).Nodup) (hz : m.length ≤ 100)
    (hs : findIn c.K (.ref C) "__setattr__" = some (some (.builtin "object.__setattr__"))) (hp : plainOver c.K C = true) (ht : takerIn c.K C name = some none) (hh : hasDictIn c.K C = true) (h : Φ () H') :
    Op2 c A Z (fun o x => setAttr o name x) relU (.ref a) v H Φ := fun s o x S ro rx => by
  rw [ro.ref_inv]
  obtain ⟨es, n, I, hd, hat⟩ := inst_at S h1 P.mem
  refine set_plain S.K I hs (osa_open (s := { s with toks := s.toks + 1 }) S.K I hp ht fun b => ?_)
  obtain ⟨cd, hc, hd'⟩ := any_some hh
  have hx := I.at_
  have fr : (dictOf (putL name (PyData.keyHash c.w.params name) (.str name (s.toks + 1)) x es) (putN name es n)).isFreed = false := rfl
  have hput := putName_dict name (PyData.keyHash c.w.params name) (.str name (s.toks + 1)) x es n
  have D' : (s.heap.update d (Obj.putName name (PyData.keyHash c.w.params name) (.str name (s.toks + 1)) x)).get? d = some (dictOf (putL name (PyData.keyHash c.w.params name) (.str name (s.toks + 1)) x es) (putN name es n)) := by
    have fr' : (Obj.putName name (PyData.keyHash c.w.params name) (.str name (s.toks + 1)) x (dictOf es n)).isFreed = false := by rw [hput]; exact fr
    rw [Heap.get?_update_self _ hd fr', hput]
  refine wpAny_bind (wpAny_pure (wpAny_bind (wpAny_bind (wpAny_loadPart hx (wpAny_bind (looks_clsIn S.K hc _ _ _ _ (fun _ _ e => e) ?_))))))
  rw [hd']
  refine wpAny_pure (a := some d) (wpAny_bind (wpAny_pure (wpAny_bind ?_)))
  unfold nsSet
  refine wpAny_bind (wpAny_bind (wpAny_askSetting (wpAny_pure (wpAny_bind (wpAny_mkText (wpAny_bind (wpAny_loadPart hd ?_)))))))
  have cnd : (!es.toArray.any (·.key.isStr name) && es.toArray.any (·.refKey)) = false := by
    have hr := at_plain hat
    rw [List.any_toArray, List.any_toArray, hr, Bool.and_false]
  dsimp only
  rw [aRefKeyMayBeTheName_at, cnd]
  refine wpAny_updatePart hd ?_
  have hl := putL_len name (PyData.keyHash c.w.params name) (.str name (s.toks + 1)) x es
  refine wpAny_bind (wpAny_lookBehind D' (pastItsLine_dict (by rw [List.size_toArray, sizeLine_eq]; have := hat.len; omega)) ?_)
  refine wpAny_pure ?_
  have tk := S.tkBut P.mem (h' := s.heap.update d (Obj.putName name (PyData.keyHash c.w.params name) (.str name (s.toks + 1)) x)) (Heap.SameBut.update ..).extBut
  refine ⟨(), H', trivial, S.put P (Heap.SameBut.update ..).extBut ⟨_, _, D', ?_⟩ _, tk, h⟩
  rcases at_put (hat.mono (S := AtR (s.heap.update d (Obj.putName name (PyData.keyHash c.w.params name) (.str name (s.toks + 1)) x))) fun _ _ q => ⟨q.1, q.2.mono tk⟩) name (PyData.keyHash c.w.params name) (s.toks + 1) (rx.mono tk) with z | z
  · rw [← hm]; exact z
  · exact absurd nd z

theorem EV_Attr {o : Expr} {name : Str} {pos : Pos} (h : EV c A Z env o H fun ov H₁ => Op1 c A Z (fun v => getAttr v name true) VR ov H₁ Φ)
    (he : eval (.Attribute o name pos) env = (do
      let ov ← eval o env
      standAt pos.atName
      let r ← holding [ov] (getAttr ov name true)
      letTemporaryGo o ov r
      pure r) := by with_unfolding_all rfl) : EV c A Z env (.Attribute o name pos) H Φ := fun s S =>
  Attribute_any_ (bq (h s S) fun x _ _ s' rx S' tk h₁ => fq tk (h₁ s' x S' rx)) he
end
end Mine
end
section
open PySem PySem.W PySem.Calls PyProof.Rows
set_option Elab.async false
set_option maxRecDepth 100000
set_option linter.unusedVariables false
namespace Mine

inductive NGet : List (Str × AV) → Str → AV → Prop
  | here {x v r} : NGet ((x, v) :: r) x v
  | there {x v y u r} : (x == y) = false → NGet r x v → NGet ((y, u) :: r) x v
inductive NPut : List (Str × AV) → Str → AV → List (Str × AV) → Prop
  | nil {x v} : NPut [] x v [(x, v)]
  | here {x u v r} : NPut ((x, u) :: r) x v ((x, v) :: r)
  | there {x v y u r r'} : (x == y) = false → NPut r x v r' → NPut ((y, u) :: r) x v ((y, u) :: r')
theorem NGet.look {m x v} (h : NGet m x v) : m.lookup x = some v := by
  induction h with
  | here => simp
  | there e _ ih => rw [List.lookup_cons, e]; exact ih
theorem NPut.look {m x v m'} (h : NPut m x v m') (y : Str) : m'.lookup y = if y = x then some v else m.lookup y := by
  induction h with
  | nil =>
    rename_i x v
    by_cases e : y = x
    · subst e; simp
    · have : (y == x) = false := by simpa using e
      rw [List.lookup_cons, this, if_neg e]
  | here =>
    rename_i x u v r
    by_cases e : y = x
    · subst e; simp
    · have : (y == x) = false := by simpa using e
      rw [List.lookup_cons, this, if_neg e, List.lookup_cons, this]
  | there e _ ih =>
    rename_i x v z u r r' _
    by_cases q : y = x
    · subst q; rw [List.lookup_cons, e, if_pos rfl]; rw [if_pos rfl] at ih; exact ih
    · rw [if_neg q] at ih ⊢
      rw [List.lookup_cons, List.lookup_cons, ih]

section
variable {c : Cx} {A : Around} {Z : List (Addr × Obj)} {H H' : AHeap} {env : Env} {Φ : AF → AHeap → Prop}
theorem up {M : Model} {α : Type} {t : Sem α} {Q : α → Shared → Prop} {E : Value → Shared → Prop} {s : Shared} (h : wpAny M A t Q no s) : wpAny M A t Q E s := wpAny_mono h (fun _ _ q => q) fun _ _ e => e.elim

noncomputable abbrev EX (c : Cx) (A : Around) (Z : List (Addr × Obj)) (env : Env) (b : List Stmt) (H : AHeap) (Φ : AF → AHeap → Prop) : Prop := Tr c A Z FR (execs b env) H Φ
noncomputable abbrev ST (c : Cx) (A : Around) (Z : List (Addr × Obj)) (env : Env) (b : Stmt) (H : AHeap) (Φ : AF → AHeap → Prop) : Prop := Tr c A Z FR (exec b env) H Φ
noncomputable abbrev AT (c : Cx) (A : Around) (Z : List (Addr × Obj)) (env : Env) (t : Expr) (v : AV) (H : AHeap) (Φ : AHeap → Prop) : Prop := Op1 c A Z (fun x => assign t env x) relU v H fun _ H' => Φ H'

/-- names -/
theorem nsput {x : Str} {m m' : List (Str × AV)} {L : Addr} {v : AV} (P : Put L (.ns m) (.ns m') H H') (np : NPut m x v m') {s : Shared} {vv : Value} (S : Sta c Z H s) (r : VR s.heap vv v) {mm : Str → Option Value}
    (hm : ∀ y a, m.lookup y = some a → ∃ v', mm y = some v' ∧ VR s.heap v' a) {h' : Heap} (hn : h'.Ns L (fun y => if y = x then some vv else mm y)) (hs : Heap.SameBut L s.heap h') (t : Nat) :
    Sta c Z H' { s with heap := h', toks := t } ∧ TK s.heap h' := by
  have tk := S.tkBut P.mem hs.extBut
  refine ⟨S.put P hs.extBut ⟨_, hn, fun y a e => ?_⟩ _, tk⟩
  rw [np.look] at e
  by_cases q : y = x
  · rw [if_pos q] at e; cases e; exact ⟨vv, if_pos q, r.mono tk⟩
  · rw [if_neg q] at e
    obtain ⟨v', e1, e2⟩ := hm _ _ e
    exact ⟨v', (if_neg q).trans e1, e2.mono tk⟩
noncomputable def SN (c : Cx) (A : Around) (Z : List (Addr × Obj)) (env : Env) (x : Str) (v : AV) (H : AHeap) (Φ : AHeap → Prop) : Prop := Op1 c A Z (fun y => storeName env x y) relU v H fun _ H' => Φ H'
theorem SN_local {x : Str} {L : Addr} {m m' : List (Str × AV)} {v : AV} {Φ : AHeap → Prop} (hl : env.kindOf x = some .local) (P : Put L (.ns m) (.ns m') H H') (np : NPut m x v m') (h : Φ H')
    (hL : env.locals = L := by with_unfolding_all rfl) (hp : (env.scope.kind == .class || (env.scope.kind == .module && env.locals != env.globals)) = false := by with_unfolding_all rfl) : SN c A Z env x v H Φ := fun s vv S r => by
  subst hL
  obtain ⟨mm, hn, hm⟩ := S.owns _ P.mem
  refine wpAny_storeName_local hl hn (fun h' hn' hs => ?_) hp
  obtain ⟨S', tk⟩ := nsput P np S r hm hn' hs (s.toks + 1)
  exact ⟨(), H', trivial, S', tk, h⟩
theorem SN_cell {x : Str} {ca : Addr} {v₀ : Option AV} {v : AV} {Φ : AHeap → Prop} (hl : env.kindOf x = some .cell) (hc : env.cells.lookup x = some ca) (P : Put ca (.cell v₀) (.cell (some v)) H H') (h : Φ H')
    (hk : env.scope.kind = .function := by with_unfolding_all rfl) : SN c A Z env x v H Φ := fun s vv S r => by
  have o := S.owns _ P.mem
  have : ∃ v', s.heap.IsCell ca v' := by
    cases v₀ with
    | none => exact ⟨_, o⟩
    | some _ => obtain ⟨v', hv, _⟩ := o; exact ⟨_, hv⟩
  obtain ⟨v', hv⟩ := this
  refine wpAny_storeName_cell hk hl hc hv fun h' hc' hs => ?_
  have tk := S.tkBut P.mem hs.extBut
  exact ⟨(), H', trivial, S.put P hs.extBut ⟨vv, hc', r.mono tk⟩ _, tk, h⟩
theorem AT_Name {x pos} {v : AV} {Φ : AHeap → Prop} (h : SN c A Z env x v H Φ) : AT c A Z env (.Name x pos) v H Φ := fun s vv S r => wpAny_assign_Name (h s vv S r)
noncomputable def ATs (c : Cx) (A : Around) (Z : List (Addr × Obj)) (env : Env) : List Expr → List AV → AHeap → (AHeap → Prop) → Prop
  | [], [], H, Φ => Φ H
  | t :: ts, v :: vs, H, Φ => AT c A Z env t v H fun H' => ATs c A Z env ts vs H' Φ
  | _, _, _, _ => False
theorem ATs_go {es : List Expr} (hn : ∀ e ∈ es, ∃ x p, e = .Name x p) : ∀ {l : List AV} {H : AHeap} {Φ : AHeap → Prop} {vs : List Value} {s₀ s : Shared}, ATs c A Z env es l H Φ → Sta c Z H s → TK s₀.heap s.heap → VRs s.heap vs l →
    wpAny (model c.prog c.w) A (assignInOrder ((assignEach es env).map (·.2)) vs) (Post c Z relU s₀ fun (_ : Unit) H' => Φ H') no s := by
  induction es with
  | nil =>
    intro l H Φ vs s₀ s h S tk r
    cases l with
    | nil => cases r; exact wpAny_assignInOrder_none ⟨(), H, trivial, S, tk, h⟩
    | cons _ _ => exact h.elim
  | cons e es ih =>
    intro l H Φ vs s₀ s h S tk r
    cases l with
    | nil => exact h.elim
    | cons a l =>
      cases r with
      | cons p r =>
        obtain ⟨x, px, rfl⟩ := hn e (.head _)
        show wpAny _ _ (assignInOrder (assign (.Name x px) env :: ((assignEach es env).map (·.2))) _) _ _ _
        exact wpAny_assignInOrder_more (bq (h s _ S p) fun _ _ H' s' _ S' tk' h' => ih (fun e he => hn e (.tail _ he)) h' S' (tk.trans tk') (r.mono tk'))
theorem assignEach_names {es : List Expr} (hn : ∀ e ∈ es, ∃ x p, e = .Name x p) : (assignEach es env).length = es.length ∧ (assignEach es env).findIdx? (·.1) = none := by
  induction es with
  | nil => exact ⟨rfl, rfl⟩
  | cons e es ih =>
    obtain ⟨x, px, rfl⟩ := hn e (.head _)
    obtain ⟨a, b⟩ := ih fun e he => hn e (.tail _ he)
    refine ⟨?_, ?_⟩
    · show (_ :: assignEach es env).length = _; rw [List.length_cons, a]; rfl
    · show List.findIdx? _ ((false, _) :: assignEach es env) = none
      rw [List.findIdx?_cons]; simp [b]
theorem ATs_len {es : List Expr} : ∀ {l : List AV} {H : AHeap} {Φ : AHeap → Prop}, (∀ e ∈ es, ∃ x p, e = .Name x p) → l.length = es.length ∨ l.length ≠ es.length := fun _ => Decidable.em _
theorem AT_Tuple {es : List Expr} {k pos} {l : List AV} {Φ : AHeap → Prop} {n : Nat} (hA : Ar A n) (hl : l.length = es.length) (h : ATs c A Z env es l H Φ) (hn : ∀ e ∈ es, ∃ x p, e = .Name x p := by
    intro e he; repeat (rcases List.mem_cons.mp he with rfl | he; · exact ⟨_, _, rfl⟩); cases he) : AT c A Z env (.Tuple es k pos) (.tup l) H Φ := fun s vv S r => by
  obtain ⟨a, vs, rfl, hg, hv⟩ := r.tup_inv
  have hT : s.heap.IsTuple a vs.toArray := ⟨_, hg, rfl, _, rfl⟩
  obtain ⟨e1, e2⟩ := assignEach_names (env := env) hn
  refine wpAny_assign_Tuple hA.hd hT (by rw [e1, ← hl, ← hv.len]; simp) e2 fun h' hx => ?_
  have k : ∀ b o, s.heap.get? b = some o → h'.get? b = some o := fun b o e => hx b o (Nat.ne_of_lt (Heap.lt_size e)) e
  have S' := S.keep' k
  have tk : TK s.heap h' := .of_keep k
  show wpAny _ _ (assignInOrder _ vs) _ _ _
  exact ATs_go hn h S' tk (hv.mono tk)

theorem EX_nil (h : Φ .next H) : EX c A Z env [] H Φ := fun s S => wpAny_execs_nil (Post.here S .next h)
theorem EX_cons {st rest} (h : ST c A Z env st H fun f H' => match f with | .next => EX c A Z env rest H' Φ | f => Φ f H') : EX c A Z env (st :: rest) H Φ := fun s S => by
  refine wpAny_execs_cons (bq (h s S) fun f y H' s' r S' tk h' => ?_)
  cases r with
  | next => exact fq tk (h' s' S')
  | brk => exact ⟨.brk, H', .brk, S', tk, h'⟩
  | cont => exact ⟨.cont, H', .cont, S', tk, h'⟩
  | ret q => exact ⟨.ret _, H', .ret q, S', tk, h'⟩

theorem EX_Assign {x pos' value pos rest} (h : EV c A Z env value H fun v H₁ => SN c A Z env x v H₁ fun H₂ => EX c A Z env rest H₂ Φ)
    (hs : swapsWith value (some (.Name x pos')) pos.line env = pure false := by with_unfolding_all rfl) : EX c A Z env (.Assign [.Name x pos'] value pos :: rest) H Φ :=
  EX_cons fun s S => wpAny_Assign_Name (bq (h s S) fun v y H' s' r S' tk h' => wpAny_mono (h' s' v S' r) (fun _ s'' ⟨_, H'', _, S'', tk', h''⟩ => ⟨.next, H'', .next, S'', tk.trans tk', h''⟩) fun _ _ e => e) hs
theorem EX_AssignT {es k pos' value pos rest} (h : EV c A Z env value H fun v H₁ => AT c A Z env (.Tuple es k pos') v H₁ fun H₂ => EX c A Z env rest H₂ Φ)
    (he : exec (.Assign [.Tuple es k pos'] value pos) env = (do standAt pos; let v ← eval value env; assign (.Tuple es k pos') env v; pure .next) := by with_unfolding_all rfl) :
    EX c A Z env (.Assign [.Tuple es k pos'] value pos :: rest) H Φ :=
  EX_cons fun s S => by
    rw [he]
    exact wpAny_bind (wpAny_standAt (wpAny_bind (bq (h s S) fun v y H' s' r S' tk h' => wpAny_bind (wpAny_mono (h' s' v S' r) (fun _ s'' ⟨_, H'', _, S'', tk', h''⟩ => wpAny_pure ⟨.next, H'', .next, S'', tk.trans tk', h''⟩) fun _ _ e => e))))
theorem EX_AssignS {o i pos' value pos rest} (h : EV c A Z env value H fun v H₁ => EV c A Z env o H₁ fun ov H₂ => EV c A Z env i H₂ fun iv H₃ => Op3 c A Z (fun o i v => setItem o i v) relU ov iv v H₃ fun (_ : Unit) H₄ => EX c A Z env rest H₄ Φ)
    (hs : swapsWith value (some (.Subscript o i pos')) pos.line env = pure false := by with_unfolding_all rfl) : EX c A Z env (.Assign [.Subscript o i pos'] value pos :: rest) H Φ :=
  EX_cons fun s S => wpAny_Assign_Subscript (bq (h s S) fun v y H' s' r S' tk h' => bq (h' s' S') fun ov y' H'' s'' r' S'' tk' h'' => bq (h'' s'' S'') fun iv y'' H₃ s₃ r'' S₃ tk'' h₃ =>
    wpAny_mono (h₃ s₃ ov iv v S₃ (r'.mono tk'') r'' (r.mono (tk'.trans tk''))) (fun _ s₄ ⟨_, H₄, _, S₄, tk₄, h₄⟩ => ⟨.next, H₄, .next, S₄, ((tk.trans tk').trans tk'').trans tk₄, h₄⟩) fun _ _ e => e) hs
theorem EX_AssignA {o attr pos' value pos rest} (h : EV c A Z env value H fun v H₁ => EV c A Z env o H₁ fun ov H₂ => Op2 c A Z (fun o x => setAttr o attr x) relU ov v H₂ fun (_ : Unit) H₄ => EX c A Z env rest H₄ Φ)
    (hs : swapsWith value (some (.Attribute o attr pos')) pos.line env = pure false := by with_unfolding_all rfl) : EX c A Z env (.Assign [.Attribute o attr pos'] value pos :: rest) H Φ :=
  EX_cons fun s S => plainObj_wpAny_Assign_Attribute (bq (h s S) fun v y H' s' r S' tk h' => bq (h' s' S') fun ov y' H'' s'' r' S'' tk' h'' =>
    wpAny_mono (h'' s'' ov v S'' r' (r.mono tk')) (fun _ s₄ ⟨_, H₄, _, S₄, tk₄, h₄⟩ => ⟨.next, H₄, .next, S₄, (tk.trans tk').trans tk₄, h₄⟩) fun _ _ e => e) hs
theorem EX_Aug {x pos' op value pos rest} {m : List (Str × AV)} {old : AV} (hl : env.kindOf x = some .local) (hm : (env.locals, .ns m) ∈ H) (hv : m.lookup x = some old)
    (h : EV c A Z env value H fun v H₂ => Op2 c A Z (inplaceOp op) VR old v H₂ fun r H₃ => SN c A Z env x r H₃ fun H₄ => EX c A Z env rest H₄ Φ) (hk : env.scope.kind = .function := by with_unfolding_all rfl) :
    EX c A Z env (.AugAssign (.Name x pos') op value pos :: rest) H Φ :=
  EX_cons fun s S => by
    obtain ⟨m', hn, hm'⟩ := S.owns _ hm
    obtain ⟨v', e, r⟩ := hm' _ _ hv
    exact wpAny_AugAssign_Name (wpAny_loadName_local hk hl hn e (bq (h s S) fun ov y' H'' s'' r' S'' tk' h'' => bq (h'' s'' v' ov S'' (r.mono tk') r') fun z y'' H₃ s₃ r'' S₃ tk'' h₃ =>
      wpAny_mono (h₃ s₃ z S₃ r'') (fun _ s₄ ⟨_, H₄, _, S₄, tk₄, h₄⟩ => ⟨.next, H₄, .next, S₄, (tk'.trans tk'').trans tk₄, h₄⟩) fun _ _ e => e))
theorem EX_Expr {e pos rest} (h : EV c A Z env e H fun _ H' => EX c A Z env rest H' Φ) (hi : interactive env = false := by with_unfolding_all rfl) (hs : swapsWith e none pos.line env = pure false := by with_unfolding_all rfl) :
    EX c A Z env (.Expr e pos :: rest) H Φ :=
  EX_cons fun s S => wpAny_Expr_any (wpAny_mono (h s S) (fun _ s' ⟨_, H', _, S', tk, h'⟩ => ⟨.next, H', .next, S', tk, h'⟩) fun _ _ e => e) hi hs
theorem EX_If {test body orelse pos rest} (h : EB c A Z env test H fun b H' => if b = true then EX c A Z env body H' (fun f H'' => match f with | .next => EX c A Z env rest H'' Φ | f => Φ f H'')
      else EX c A Z env orelse H' (fun f H'' => match f with | .next => EX c A Z env rest H'' Φ | f => Φ f H'')) : EX c A Z env (.If test body orelse pos :: rest) H Φ :=
  EX_cons fun s S => wpAny_If (bq (h s S) fun b y H' s' r S' tk h' => by
    cases (show b = y from r)
    cases b with
    | true => exact fq tk (h' s' S')
    | false => exact fq tk (h' s' S'))
theorem EX_Return {e pos rest} (h : EV c A Z env e H fun v H' => Φ (.ret v) H') : EX c A Z env (.Return (some e) pos :: rest) H Φ :=
  EX_cons fun s S => wpAny_Return_some (wpAny_mono (h s S) (fun _ s' ⟨y, H', r, S', tk, h'⟩ => ⟨.ret y, H', .ret r, S', tk, h'⟩) fun _ _ e => e)
theorem EX_Continue {pos rest} (h : Φ .cont H) : EX c A Z env (.Continue pos :: rest) H Φ :=
  EX_cons fun s S => wpAny_Continue ⟨.cont, H, .cont, S, .refl _, h⟩
theorem EX_While {test body pos rest} (I : Nat → AHeap → Prop) (n : Nat) (h0 : I n H) (turn : ∀ n H, I n H → EB c A Z env test H fun b H' => if b = true then EX c A Z env body H' (fun f H'' => match f with
      | .next | .cont => ∃ m, m < n ∧ I m H'' | .brk => False | .ret v => Φ (.ret v) H'') else EX c A Z env rest H' Φ) : EX c A Z env (.While test body [] pos :: rest) H Φ :=
  EX_cons fun s S => wpAny_While (codeAny_whileLoop (fun n s' => ∃ H', I n H' ∧ Sta c Z H' s' ∧ TK s.heap s'.heap) (fun n s' ⟨H', hI, S', tk⟩ => up (bq (turn n H' hI s' S') fun b y H'' s'' r S'' tk' h'' => by
      cases (show b = y from r)
      cases b with
      | true =>
        refine up (bq (h'' s'' S'') fun f y H₃ s₃ r S₃ tk₃ h₃ => ?_)
        cases r with
        | next => obtain ⟨m, hm, hI⟩ := h₃; exact ⟨m, hm, H₃, hI, S₃, (tk.trans tk').trans tk₃⟩
        | cont => obtain ⟨m, hm, hI⟩ := h₃; exact ⟨m, hm, H₃, hI, S₃, (tk.trans tk').trans tk₃⟩
        | brk => exact h₃.elim
        | ret q => exact ⟨_, H₃, .ret q, S₃, (tk.trans tk').trans tk₃, h₃⟩
      | false => exact up (wpAny_execs_nil ⟨.next, H'', .next, S'', tk.trans tk', h''⟩))) n ⟨H, h0, S, .refl _⟩)

/-- iteration -/
noncomputable def TgOk (t : Expr) : Prop := (∃ x p, t = .Name x p) ∨ ∃ es k p, t = .Tuple es k p
structure Itr (c : Cx) (A : Around) (target : Expr) (l : List AV) (D : AHeap → Prop) (P : Nat → Obj → Prop) : Prop where
  nt : ∀ i o, P i o → ¬ IsTupO o
  self : ∀ i o (s : Shared) it (Q : Value → Shared → Prop), s.heap.get? it = some o → P i o → Q (.ref it) s → wpAny (model c.prog c.w) A (pyIter (.ref it)) Q no s
  next : ∀ Z H i o s it, Sta c Z H s → D H → (∀ p ∈ H, p.1 ≠ it) → (∀ p ∈ Z, p.1 ≠ it) → Off c it → s.heap.get? it = some o → P i o →
    wpAny (model c.prog c.w) A (pyNext (.ref it)) (fun r s₁ => match r with
      | none => l[i]? = none ∧ Sta c Z H s₁ ∧ TK s.heap s₁.heap
      | some v => ∃ x, l[i]? = some x ∧ wpAny (model c.prog c.w) A (letOwnedTupleGo target (.ref it) v) (fun _ s₂ => VR s₂.heap v x ∧ Sta c Z H s₂ ∧ TK s.heap s₂.heap ∧ ∃ o', s₂.heap.get? it = some o' ∧ P (i + 1) o') no s₁) no s
/-- what pyIter gives -/
noncomputable def GI (c : Cx) (A : Around) (v : AV) (H : AHeap) (P : Nat → Obj → Prop) : Prop := ∀ Z s val (Q : Value → Shared → Prop), Sta c Z H s → VR s.heap val v →
  (∀ o, P 0 o → o.isFreed = false → Q (.ref s.heap.objs.size) { s with heap := s.heap.push o }) → wpAny (model c.prog c.w) A (pyIter val) Q no s
structure Loop (c : Cx) (A : Around) (target : Expr) (v : AV) (H : AHeap) (l : List AV) (D : AHeap → Prop) : Prop where
  has : ∃ P, Itr c A target l D P ∧ GI c A v H P

/-- the state of a loop -/
structure LS (c : Cx) (Z : List (Addr × Obj)) (D : AHeap → Prop) (P : Nat → Obj → Prop) (I : Nat → AHeap → Prop) (it : Addr) (h₀ : Heap) (i : Nat) (H : AHeap) (s : Shared) : Prop where
  sta : Sta c Z H s
  tk : TK h₀ s.heap
  inv : I i H
  off : ∀ p ∈ H, p.1 ≠ it
  offZ : ∀ p ∈ Z, p.1 ≠ it
  offB : Off c it
  at' : ∃ o, s.heap.get? it = some o ∧ P i o
theorem LS.start {D : AHeap → Prop} {P : Nat → Obj → Prop} {I : Nat → AHeap → Prop} {s : Shared} {h₀ : Heap} (S : Sta c Z H s) (tk : TK h₀ s.heap) {o : Obj} (p : P 0 o) (hf : o.isFreed = false) (h0 : I 0 H) :
    LS c Z D P I s.heap.objs.size h₀ 0 H { s with heap := s.heap.push o } := by
  have k : ∀ b o', s.heap.get? b = some o' → (s.heap.push o).get? b = some o' := fun _ _ e => Heap.get?_push_of_some _ e
  have lt : ∀ {b : Addr} {o' : Obj}, s.heap.get? b = some o' → b ≠ s.heap.objs.size := fun e q => by
    subst q; rw [(fresh_size _).1] at e; cases e
  refine ⟨S.keep' k, tk.trans (.of_keep k), h0, fun p hp => ?_, fun p hp => lt (S.extra p hp), ?_, o, Heap.get?_push_size _ hf, p⟩
  · obtain ⟨ob, hob, _⟩ := S.alloced hp
    exact lt hob
  · exact S.off_of (fresh_size _)
theorem LS.turn {D : AHeap → Prop} {P : Nat → Obj → Prop} {I : Nat → AHeap → Prop} {it : Addr} {h₀ : Heap} {i : Nat} {s : Shared} {target : Expr} {l : List AV} (X : LS c Z D P I it h₀ i H s) (T : Itr c A target l D P) (hD : ∀ i H, I i H → D H)
    {Q : Option Value → Shared → Prop} (h0 : ∀ s', Sta c Z H s' → TK h₀ s'.heap → l[i]? = none → Q none s')
    (h1 : ∀ x v s₁, l[i]? = some x → wpAny (model c.prog c.w) A (letOwnedTupleGo target (.ref it) v) (fun _ s₂ => VR s₂.heap v x ∧ ∃ o', Sta c ((it, o') :: Z) H s₂ ∧ TK h₀ s₂.heap ∧ P (i + 1) o') no s₁ → Q (some v) s₁) :
    wpAny (model c.prog c.w) A (pyNext (.ref it)) Q no s := by
  obtain ⟨o, ho, hp⟩ := X.at'
  refine wpAny_mono (T.next Z H i o s it X.sta (hD _ _ X.inv) X.off X.offZ X.offB ho hp) (fun r s₁ h => ?_) fun _ _ e => e
  cases r with
  | none => exact h0 s₁ h.2.1 (X.tk.trans h.2.2) h.1
  | some v =>
    obtain ⟨x, hx, hw⟩ := h
    exact h1 x v s₁ hx (wpAny_mono hw (fun _ s₂ ⟨r, S₂, tk₂, o', ho', hp'⟩ => ⟨r, o', S₂.freeze ho' X.off, X.tk.trans tk₂, hp'⟩) fun _ _ e => e)
theorem LS.back {D : AHeap → Prop} {P : Nat → Obj → Prop} {I : Nat → AHeap → Prop} {it : Addr} {h₀ : Heap} {i : Nat} {s : Shared} {o : Obj} (S : Sta c ((it, o) :: Z) H s) (tk : TK h₀ s.heap) (hp : P i o) (hI : I i H) (offZ : ∀ p ∈ Z, p.1 ≠ it) (offB : Off c it) :
    LS c Z D P I it h₀ i H s :=
  ⟨S.thaw, tk, hI, fun p hp => S.offZ p hp _ (.head _), offZ, offB, o, S.extra _ (.head _), hp⟩

theorem codeAny_forLoop' {R : Result → Shared → Prop} {target it body env} {s : Shared} (I : Nat → Shared → Prop)
    (turn : ∀ n s, I n s → wpAny (model c.prog c.w) A (pyNext it) (fun r s₁ => match r with
      | none => R (.ok .next) s₁
      | some v => wpAny (model c.prog c.w) A (letOwnedTupleGo target it v) (fun _ s₁ => wpAny (model c.prog c.w) A (assign target env v) (fun _ s₂ => wpAny (model c.prog c.w) A (execs body env) (fun f s₃ => match f with
          | .next | .cont => ∃ m, m < n ∧ I m s₃
          | .brk => R (.ok .next) s₃
          | .ret v => R (.ok (.ret v)) s₃) no s₂) no s₁) no s₁) no s)
    (n : Nat) (h : I n s) : codeAny (model c.prog c.w) A (.forLoop target it body [] env) R s := by
  refine codeAny_loop' rfl I (fun n s hI => ?_) n h
  show wpAny _ _ ((forTurn target it body [] env).onRaise (fun x => do noteFrame x env; theTreesLotGoes x)) _ _ s
  refine wpAny_noted (up ?_)
  simp only [forTurn]
  refine wpAny_bind (wpAny_standAt (wpAny_bind (wpAny_onRaise (wpAny_mono (turn n s hI) (fun r s₁ h₁ => ?_) fun _ _ h' => h'.elim))))
  cases r with
  | none => exact wpAny_pure (.inr ⟨rfl, codeAny_block (wpAny_execs_nil h₁)⟩)
  | some v =>
    refine wpAny_bind (wpAny_mono h₁ (fun _ s₁ h₁ => ?_) fun _ _ h' => h')
    refine wpAny_bind (wpAny_mono h₁ (fun _ s₂ h₂ => wpAny_bind (wpAny_mono h₂ (fun f s₃ h₃ => ?_) fun _ _ h' => h')) fun _ _ h' => h')
    cases f with
    | next => exact wpAny_pure (.inl ⟨rfl, h₃⟩)
    | cont => exact wpAny_pure (.inl ⟨rfl, h₃⟩)
    | brk => exact wpAny_pure h₃
    | ret v => exact wpAny_pure h₃

theorem EX_For {target iter body pos rest} (h : EV c A Z env iter H fun v H₁ => ∃ (l : List AV) (D : AHeap → Prop) (I : Nat → AHeap → Prop), Loop c A target v H₁ l D ∧ I 0 H₁ ∧ (∀ i H, I i H → D H) ∧
      (∀ i x H Z, l[i]? = some x → I i H → AT c A Z env target x H fun H' => EX c A Z env body H' fun f H'' => match f with | .next | .cont => I (i + 1) H'' | .brk => False | .ret v => Φ (.ret v) H'') ∧
      (∀ H, I l.length H → EX c A Z env rest H Φ))
    (hs : ∀ x, foldedSetIterable iter env x = pure x := by intro _; with_unfolding_all rfl) : EX c A Z env (.For target iter body [] pos :: rest) H Φ :=
  EX_cons fun s S => wpAny_For (bq (h s S) fun v y H' s' r S' tk ⟨l, D, I, ⟨P, T, G⟩, h0, hD, turn, fin⟩ => G Z s' v _ S' r fun o hp hf => by
    have X := LS.start (D := D) (I := I) S' tk hp hf h0
    have b0 : ∀ i H s', LS c Z D P I s'.heap.objs.size s.heap i H s' → True := fun _ _ _ _ => trivial
    generalize s'.heap.objs.size = it at X ⊢
    generalize ({ s' with heap := s'.heap.push o } : Shared) = s₁ at X ⊢
    refine codeAny_forLoop' (fun n s₂ => ∃ i H, i ≤ l.length ∧ n = l.length - i ∧ LS c Z D P I it s.heap i H s₂) (fun n s₂ ⟨i, H, hi, hn, X⟩ => ?_) (l.length - 0) ⟨0, _, Nat.zero_le _, rfl, X⟩
    refine X.turn T hD (fun s₃ S₃ tk₃ e => ?_) fun x v s₃ hx hw => ?_
    · have : i = l.length := Nat.le_antisymm hi (List.getElem?_eq_none_iff.mp e)
      exact ⟨.next, H, .next, S₃, tk₃, fin H (this ▸ X.inv)⟩
    · refine wpAny_mono hw (fun _ s₄ ⟨r₄, o', S₄, tk₄, hp'⟩ => ?_) fun _ _ e => e
      refine bq (turn i x H _ hx X.inv s₄ v S₄ r₄) fun _ _ H₅ s₅ _ S₅ tk₅ h₅ => bq (h₅ s₅ S₅) fun f y H₆ s₆ r₆ S₆ tk₆ h₆ => ?_
      have hlt : i < l.length := (List.getElem?_eq_some_iff.mp hx).1
      have tk' := (tk₄.trans tk₅).trans tk₆
      cases r₆ with
      | next => exact ⟨l.length - (i + 1), by omega, i + 1, H₆, hlt, rfl, .back S₆ tk' hp' h₆ X.offZ X.offB⟩
      | cont => exact ⟨l.length - (i + 1), by omega, i + 1, H₆, hlt, rfl, .back S₆ tk' hp' h₆ X.offZ X.offB⟩
      | brk => exact h₆.elim
      | ret q => exact ⟨_, H₆, .ret q, S₆.thaw, tk', h₆⟩) hs
end
end Mine
end
section
open PySem PySem.W PySem.Calls PyProof.Rows
set_option Elab.async false
set_option maxRecDepth 100000
set_option linter.unusedVariables false
namespace Mine

section
variable {prog : Program} {w : World} {A : Around} {E : Value → Shared → Prop} {s : Shared}
/-- dicts by their entries -/
theorem raw_iter {d : Addr} {o : Obj} {es : Array DictEntry} {ep : Nat} {Q : Value → Shared → Prop} (hd : (d == sysModules) = false) (ho : s.heap.get? d = some o) (hc : o.ExactDict) (hdat : o.data = .dict es ep)
    (hQ : Q (.ref s.heap.objs.size) { s with heap := s.heap.push { cls := .type "dict_keyiterator", data := .fields #[.ref d, .int 0 0, .int es.size 0, .int ep 0] } }) :
    wpAny (model prog w) A (pyIter (.ref d)) Q E s := by
  have hT : s.TypeIs (.ref d) "dict" := ⟨o, ho, hc.1⟩
  refine wpAny_pyIter_slot hT F.slot_dict_iter (wpAny_call_entry F.slot_dict_iter hT F.entry_dict_iter ?_ (F.args_dict_iter_1 _))
  unfold Builtin.«dict.__iter__» Builtin.Dict.dictSlotNone
  refine wpAny_bind (wpAny_bind (wpAny_notOrdered_dict hT (wpAny_pure ?_)))
  show wpAny _ _ (Builtin.Dict.showsAll d >>= _) _ _ s
  unfold Builtin.Dict.showsAll
  rw [hd]
  refine wpAny_bind (wpAny_pure (wpAny_bind (wpAny_dictEntries ho hdat (wpAny_bind (wpAny_dictEpoch ho hdat ?_)))))
  exact wpAny_bind (wpAny_newObj_type (wpAny_pure ⟨_, rfl, "dict_keyiterator", _, ⟨_, Heap.get?_push_size _ rfl, rfl⟩, F.slot_dict_keyiterator_next.lookup, by simpa [rawInt] using hQ⟩))
theorem raw_next {it d : Addr} {i ep : Nat} {o : Obj} {es : Array DictEntry} {e : DictEntry} {Q : Option Value → Shared → Prop} (hit : s.heap.IsKeyIter it d i es.size ep) (hod : s.heap.get? d = some o) (hdd : o.data = .dict es ep) (hx : es[i]? = some e)
    (hQ : ∀ h', h'.IsKeyIter it d (i + 1) es.size ep → Heap.SameBut it s.heap h' → Q (some e.key) { s with heap := h' }) : wpAny (model prog w) A (pyNext (.ref it)) Q E s := by
  obtain ⟨oi, ho, hc, hd⟩ := id hit
  unfold pyNext
  refine wpAny_bind (wpAny_attempt (wpAny_callSpecial?_slot (name := Str.ofString "__next__") hit.typeIs F.slot_dict_keyiterator_next
    (wpAny_call_entry F.slot_dict_keyiterator_next hit.typeIs F.entry_dict_keyiterator_next ?_ (F.args_dict_keyiterator_next_1 _))))
  refine wpAny_bind (wpAny_pure (wpAny_bind (wpAny_bind ?_)))
  first | refine wpAny_bind (wpAny_typeNameOfWhole_keyiter hit.typeIs (wpAny_pure ?_)) | refine wpAny_bind (wpAny_typeNameOf_keyiter hit.typeIs (wpAny_pure ?_))
  refine wpAny_bind (wpAny_fieldsOf ho hd ?_)
  simp only [show Builtin.Dict_items.ownsTuple "dict_keyiterator" = false by decide, Bool.false_eq_true, if_false]
  show wpAny _ _ (if (Value.ref d == Value.none) = true then _ else _) _ _ s
  rw [if_neg (show ¬ ((Value.ref d == Value.none) = true) from Bool.false_ne_true)]
  refine wpAny_bind (wpAny_pure (wpAny_bind (wpAny_dictEntries hod hdd ?_)))
  rw [if_neg (by simp)]
  refine wpAny_bind (wpAny_pure (wpAny_bind (wpAny_dictEpoch hod hdd ?_)))
  rw [if_neg (by simp)]
  refine wpAny_pure ?_
  simp only [show ¬ ((i : Int) < 0) from by omega, if_false, Int.toNat_natCast, hx]
  refine wpAny_bind ?_
  first | refine wpAny_bind (wpAny_typeNameOfWhole_keyiter hit.typeIs (wpAny_pure ?_)) | refine wpAny_bind (wpAny_typeNameOf_keyiter hit.typeIs (wpAny_pure ?_))
  refine wpAny_bind (wpAny_isOneOf_keyiter hit.typeIs ?_)
  show wpAny _ _ (setField (.ref it) 1 (rawInt ((i : Int) + 1)) >>= _) _ _ s
  refine wpAny_bind (wpAny_setField ho hd (by simp) ?_)
  have hit' : (s.heap.update it (Obj.mapFields (·.setIfInBounds 1 (rawInt ((i : Int) + 1))))).IsKeyIter it d (i + 1) es.size ep :=
    ⟨_, Heap.get?_update_self _ ho (Obj.isFreed_of_fields (Obj.data_mapFields hd _)), (Obj.cls_mapFields ..).trans hc, by rw [Obj.data_mapFields hd]; simp [rawInt]⟩
  refine wpAny_bind (wpAny_holding (wpAny_bind (wpAny_isOneOf_keyiter (s := { s with heap := s.heap.update it (Obj.mapFields (·.setIfInBounds 1 (rawInt ((i : Int) + 1)))) }) hit'.typeIs ?_)))
  show wpAny _ _ (pure e.key) _ _ _
  exact wpAny_pure (wpAny_pure ⟨_, rfl, wpAny_pure (hQ _ hit' (Heap.SameBut.update ..))⟩)
theorem raw_end {it d : Addr} {i ep : Nat} {o : Obj} {es : Array DictEntry} {Q : Option Value → Shared → Prop} (hh : A.handled = none) (hit : s.heap.IsKeyIter it d i es.size ep) (hod : s.heap.get? d = some o) (hdd : o.data = .dict es ep) (hx : es[i]? = none)
    (hQ : ∀ h', Heap.ExtBut it s.heap h' → Q none { s with heap := h' }) : wpAny (model prog w) A (pyNext (.ref it)) Q E s := by
  obtain ⟨oi, ho, hc, hd⟩ := id hit
  unfold pyNext
  refine wpAny_bind (wpAny_attempt (wpAny_callSpecial?_slot (name := Str.ofString "__next__") hit.typeIs F.slot_dict_keyiterator_next
    (wpAny_call_entry F.slot_dict_keyiterator_next hit.typeIs F.entry_dict_keyiterator_next ?_ (F.args_dict_keyiterator_next_1 _))))
  refine wpAny_bind (wpAny_pure (wpAny_bind (wpAny_bind ?_)))
  first | refine wpAny_bind (wpAny_typeNameOfWhole_keyiter hit.typeIs (wpAny_pure ?_)) | refine wpAny_bind (wpAny_typeNameOf_keyiter hit.typeIs (wpAny_pure ?_))
  refine wpAny_bind (wpAny_fieldsOf ho hd ?_)
  simp only [show Builtin.Dict_items.ownsTuple "dict_keyiterator" = false by decide, Bool.false_eq_true, if_false]
  show wpAny _ _ (if (Value.ref d == Value.none) = true then _ else _) _ _ s
  rw [if_neg (show ¬ ((Value.ref d == Value.none) = true) from Bool.false_ne_true)]
  refine wpAny_bind (wpAny_pure (wpAny_bind (wpAny_dictEntries hod hdd ?_)))
  rw [if_neg (by simp)]
  refine wpAny_bind (wpAny_pure (wpAny_bind (wpAny_dictEpoch hod hdd ?_)))
  rw [if_neg (by simp)]
  refine wpAny_pure ?_
  simp only [show ¬ ((i : Int) < 0) from by omega, if_false, Int.toNat_natCast, hx]
  refine wpAny_bind ?_
  first | refine wpAny_bind (wpAny_typeNameOfWhole_keyiter hit.typeIs (wpAny_pure ?_)) | refine wpAny_bind (wpAny_typeNameOf_keyiter hit.typeIs (wpAny_pure ?_))
  show wpAny _ _ (setField (.ref it) 0 .none >>= _) _ _ s
  refine wpAny_bind (wpAny_setField ho hd (by simp) ?_)
  show wpAny _ _ (newExc (.type "StopIteration") [] >>= _) _ _ _
  refine wpAny_bind ?_
  simp only [newExc, newTuple]
  refine wpAny_bind (wpAny_newObj_type ?_ (by size_fits))
  refine wpAny_bind (m := firstArgMember _ _) (wpAny_of_eq (a := Value.none) (by first | rfl | (simp only [firstArgMember]; rfl)) ?_)
  refine wpAny_newObj_type ?_ (by size_fits)
  simp only [raiseNew]
  refine wpAny_bind (wpAny_handled ?_)
  rw [show A.in1.handled = none from hh]
  refine wpAny_bind (wpAny_pure (wpAny_throw ?_))
  refine wpAny_bind (wpAny_isInstance (T := "StopIteration") (b := true) ⟨_, Heap.get?_push_size _ rfl, rfl⟩ isSubtype_stop ?_)
  exact wpAny_pure (hQ _ (((Heap.SameBut.update ..).extBut.push _).push _))
end

section
variable {c : Cx} {A : Around} {Z : List (Addr × Obj)} {H H' : AHeap} {env : Env}

theorem letgo_plain {target : Expr} {it : Addr} {v : Value} {T : String} {o : Obj} {s : Shared} {Q : Unit → Shared → Prop} (tg : TgOk target) (ho : s.heap.get? it = some o) (hc : o.cls = .type T)
    (hT : ["enumerate", "zip", "dict_itemiterator", "dict_reverseitemiterator", "odict_iterator", "itertools.zip_longest", "itertools.pairwise"].contains T = false) (h : Q () s) : wpAny (model c.prog c.w) A (letOwnedTupleGo target (.ref it) v) Q no s := by
  rcases tg with ⟨x, p, rfl⟩ | ⟨es, k, p, rfl⟩
  · exact wpAny_pure h
  · cases v with
    | ref a =>
      unfold letOwnedTupleGo
      refine wpAny_bind (wpAny_load ho ?_)
      rw [hc]
      split
      · rename_i e _
        cases e
        rw [hT]
        exact wpAny_pure h
      · exact wpAny_pure h
    | _ => exact wpAny_pure h

theorem Itr.of {target : Expr} {l : List AV} {D : AHeap → Prop} {P : Nat → Obj → Prop} {T : String} (tg : TgOk target)
    (hT : ["enumerate", "zip", "dict_itemiterator", "dict_reverseitemiterator", "odict_iterator", "itertools.zip_longest", "itertools.pairwise"].contains T = false) (hT2 : T ≠ "tuple")
    (hP : ∀ i o, P i o → o.cls = .type T)
    (self : ∀ i o (s : Shared) it (Q : Value → Shared → Prop), s.heap.get? it = some o → P i o → Q (.ref it) s → wpAny (model c.prog c.w) A (pyIter (.ref it)) Q no s)
    (item : ∀ Z H i o (s : Shared) it x (Q : Option Value → Shared → Prop), Sta c Z H s → D H → (∀ p ∈ H, p.1 ≠ it) → s.heap.get? it = some o → P i o → l[i]? = some x →
      (∀ v h' t, (∀ b o, b ≠ it → s.heap.get? b = some o → h'.get? b = some o) → VR h' v x → (∃ o', h'.get? it = some o' ∧ P (i + 1) o') → Q (some v) { s with heap := h', toks := t }) → wpAny (model c.prog c.w) A (pyNext (.ref it)) Q no s)
    (fin : ∀ Z H i o (s : Shared) it (Q : Option Value → Shared → Prop), Sta c Z H s → D H → (∀ p ∈ H, p.1 ≠ it) → s.heap.get? it = some o → P i o → l[i]? = none →
      (∀ h', Heap.ExtBut it s.heap h' → Q none { s with heap := h' }) → wpAny (model c.prog c.w) A (pyNext (.ref it)) Q no s) : Itr c A target l D P where
  nt := fun i o p => notTup_cls (hP i o p) hT2
  self := self
  next := fun Z H i o s it S d off offZ offB ho p => by
    have nt : ¬ IsTupO o := notTup_cls (hP i o p) hT2
    cases e : l[i]? with
    | none => exact fin Z H i o s it _ S d off ho p e fun h' hx => ⟨rfl, S.turn ho nt off offZ offB hx s.toks, .but ho nt hx⟩
    | some x =>
      refine item Z H i o s it x _ S d off ho p e fun v h' t hx r ⟨o', ho', p'⟩ => ⟨x, rfl, ?_⟩
      exact letgo_plain (s := { s with heap := h', toks := t }) tg ho' (hP _ _ p') hT ⟨r, S.turn ho nt off offZ offB hx t, .but ho nt hx, o', ho', p'⟩

/-- lists -/
theorem Loop.list {target : Expr} {a : Addr} {l : List AV} {n : Nat} (hA : Ar A n) (tg : TgOk target) (h : Rd c H a (.list l)) : Loop c A target (.ref a) H l (fun H => Rd c H a (.list l)) := by
  refine ⟨fun i o => o.cls = .type "list_iterator" ∧ o.data = .fields #[.ref a, .int i 0], Itr.of (T := "list_iterator") tg (by decide) (by decide) (fun _ _ p => p.1) (fun i o s it Q ho p hQ => wpAny_pyIter_listiter ⟨o, ho, p⟩ hQ) ?_ ?_, ?_⟩
  · intro Z H i o s it x Q S d off ho p e k
    obtain ⟨⟨vs, m, hg, hv⟩, _⟩ := d Z s S
    obtain ⟨y, hy, r⟩ := hv.get e
    refine wpAny_pyNext_list_item ⟨o, ho, p⟩ ⟨_, hg, rfl, m, rfl⟩ (x := y) (by simpa using hy) fun h' hi hs => ?_
    have := k y h' s.toks hs.extBut (r.mono (.but ho (notTup_cls p.1 (by decide)) hs.extBut)) (by obtain ⟨o', h1, h2, h3⟩ := hi; exact ⟨o', h1, h2, h3⟩)
    exact this
  · intro Z H i o s it Q S d off ho p e k
    obtain ⟨⟨vs, m, hg, hv⟩, _⟩ := d Z s S
    exact wpAny_pyNext_list_end hA.hd ⟨o, ho, p⟩ ⟨_, hg, rfl, m, rfl⟩ (by simpa using hv.get_none e) k
  · intro Z s val Q S r k
    rw [r.ref_inv]
    obtain ⟨⟨vs, m, hg, hv⟩, _⟩ := h Z s S
    exact wpAny_pyIter_list ⟨_, hg, rfl, m, rfl⟩ (k _ ⟨rfl, rfl⟩ rfl)

/-- ranges -/
noncomputable def rangeL (i j k : Int) : List Int := (List.range (Builtin.Range.rangeSize i j k).toNat).map fun (x : Nat) => i + k * (x : Int)
theorem Loop.range {target : Expr} {a : Addr} {i j k : Int} {n : Nat} (hA : Ar A n) (tg : TgOk target) (h : (a, .range i j k) ∈ H) (hs : Builtin.Range.small i j k = true) (hz : 0 ≤ Builtin.Range.rangeSize i j k) : Loop c A target (.ref a) H ((rangeL i j k).map .int) (fun _ => True) := by
  refine ⟨fun x o => o = { cls := .type "range_iterator", dict := none, data := .fields #[rawInt (i + k * x), rawInt (Builtin.Range.rangeSize i j k - x), rawInt k], slots := #[] }, Itr.of (T := "range_iterator") tg (by decide) (by decide) (fun _ _ p => by rw [p])
    (fun i o s it Q ho p hQ => wpAny_pyIter_rangeiter (by rw [p] at ho; exact ho) hQ) ?_ ?_, ?_⟩
  · intro Z H x o s it y Q S d off ho p e m
    have hx : x < (Builtin.Range.rangeSize i j k).toNat := by
      have := (List.getElem?_eq_some_iff.mp e).1
      simpa [rangeL] using this
    have hy : y = .int (i + k * x) := by
      have hh : ((rangeL i j k).map AV.int)[x]? = some (.int (i + k * x)) := by simp [rangeL, hx]
      rw [hh] at e; exact (Option.some.inj e).symm
    subst hy
    refine wpAny_pyNext_range_item (it := it) (by rw [p] at ho; exact ho) (by omega) fun h' hi hs => ?_
    refine m _ h' _ hs.extBut (.int _ _) ⟨_, hi, ?_⟩
    have e1 : i + k * (x : Int) + k = i + k * ((x + 1 : Nat) : Int) := by rw [Int.natCast_succ, Int.mul_add, Int.mul_one, Int.add_assoc]
    have e2 : Builtin.Range.rangeSize i j k - (x : Int) - 1 = Builtin.Range.rangeSize i j k - ((x + 1 : Nat) : Int) := by push_cast; omega
    rw [e1, e2]
  · intro Z H x o s it Q S d off ho p e m
    have hx : (Builtin.Range.rangeSize i j k).toNat ≤ x := by
      have := List.getElem?_eq_none_iff.mp e
      simpa [rangeL] using this
    exact wpAny_pyNext_range_end (it := it) (left := Builtin.Range.rangeSize i j k - x) hA.hd (by rw [p] at ho; exact ho) (by omega) m
  · intro Z s val Q S r m
    rw [r.ref_inv]
    obtain ⟨t, u, v, hr⟩ := S.owns _ h
    exact wpAny_pyIter_range hr hs (m _ (by simp) rfl)

/-- keys of dicts -/
theorem keysI {h : Heap} {es : List DictEntry} {kvs : List (Int × Value)} {as : List (Int × AV)} (hp : Pairs (IK c) es kvs) (ha : A2 (fun p q => p.1 = q.1 ∧ VR h p.2 q.2) kvs as) {i : Nat} {x : AV} (e : (as.map fun q => AV.int q.1)[i]? = some x) :
    ∃ en, es[i]? = some en ∧ VR h en.key x := by
  obtain ⟨q, hq, rfl⟩ : ∃ q, as[i]? = some q ∧ AV.int q.1 = x := by simpa using e
  obtain ⟨p, hp', e1, _⟩ := ha.get hq
  have hl : i < es.length := by
    have := (List.getElem?_eq_some_iff.mp hp').1
    rw [hp.length]; exact this
  have := hp.get? (e := es[i]) (List.getElem?_eq_getElem hl) hp'
  obtain ⟨t, ht⟩ := Value.isInt_shape this.1
  exact ⟨es[i], List.getElem?_eq_getElem hl, by rw [ht, ← e1]; exact .int _ _⟩
theorem Loop.idict {target : Expr} {d : Addr} {es : List (Int × AV)} {ob : Obj} {n : Nat} (hA : Ar A n) (tg : TgOk target) (h : (d, .pidict es ob) ∈ H) : Loop c A target (.ref d) H (es.map fun q => .int q.1) (fun H => (d, .pidict es ob) ∈ H) := by
  refine ⟨fun i o => o.cls = .type "dict_keyiterator" ∧ ∃ ee ep, ob.data = .dict ee ep ∧ o.data = .fields #[.ref d, .int i 0, .int ee.size 0, .int ep 0], Itr.of (T := "dict_keyiterator") tg (by decide) (by decide) (fun _ _ p => p.1)
    (fun i o s it Q ho p hQ => by obtain ⟨h1, ee, ep, _, h2⟩ := p; exact wpAny_pyIter_keyiter ⟨o, ho, h1, h2⟩ hQ) ?_ ?_, ?_⟩
  · intro Z H i o s it x Q S hd off ho ⟨h1, ee, ep, h2, h3⟩ e m
    obtain ⟨hob, kvs, ⟨o', es', ep', ho', hex, hdat, hk, hp, hn⟩, ha⟩ := S.owns _ hd
    dsimp only at hob ho'
    rw [hob] at ho'; cases ho'
    rw [h2] at hdat; cases hdat
    obtain ⟨en, he, r⟩ := keysI hp ha e
    refine raw_next ⟨o, ho, h1, h3⟩ hob h2 (e := en) (by simpa using he) fun h' hi hs => ?_
    exact m en.key h' s.toks hs.extBut (r.mono (.but ho (notTup_cls h1 (by decide)) hs.extBut)) (by obtain ⟨o', q1, q2, q3⟩ := hi; exact ⟨o', q1, q2, ee, ep, h2, q3⟩)
  · intro Z H i o s it Q S hd off ho ⟨h1, ee, ep, h2, h3⟩ e m
    obtain ⟨hob, kvs, ⟨o', es', ep', ho', hex, hdat, hk, hp, hn⟩, ha⟩ := S.owns _ hd
    dsimp only at hob ho'
    rw [hob] at ho'; cases ho'
    rw [h2] at hdat; cases hdat
    refine raw_end hA.hd ⟨o, ho, h1, h3⟩ hob h2 ?_ m
    have := List.getElem?_eq_none_iff.mp e
    rw [List.length_map, ← ha.len, ← hp.length] at this
    simpa using this
  · intro Z s val Q S r m
    rw [r.ref_inv]
    obtain ⟨hob, kvs, ⟨o', es', ep', ho', hex, hdat, hk, hp, hn⟩, ha⟩ := S.owns _ h
    dsimp only at hob ho'
    rw [hob] at ho'; cases ho'
    exact raw_iter (S.mods h) hob hex hdat (m _ ⟨rfl, _, _, hdat, rfl⟩ rfl)
theorem Loop.tdict {target : Expr} {d : Addr} {es : List (List Int × AV)} {ob : Obj} {n : Nat} (hA : Ar A n) (tg : TgOk target) (h : (d, .ptdict es ob) ∈ H) : Loop c A target (.ref d) H (es.map fun q => .tup (q.1.map .int)) (fun H => (d, .ptdict es ob) ∈ H) := by
  refine ⟨fun i o => o.cls = .type "dict_keyiterator" ∧ ∃ ee ep, ob.data = .dict ee ep ∧ o.data = .fields #[.ref d, .int i 0, .int ee.size 0, .int ep 0], Itr.of (T := "dict_keyiterator") tg (by decide) (by decide) (fun _ _ p => p.1)
    (fun i o s it Q ho p hQ => by obtain ⟨h1, ee, ep, _, h2⟩ := p; exact wpAny_pyIter_keyiter ⟨o, ho, h1, h2⟩ hQ) ?_ ?_, ?_⟩
  · intro Z H i o s it x Q S hd off ho ⟨h1, ee, ep, h2, h3⟩ e m
    obtain ⟨hob, ys, ⟨o', es', ep', ho', hex, hdat, hk, hp, hn⟩, ha⟩ := S.owns _ hd
    dsimp only at hob ho'
    rw [hob] at ho'; cases ho'
    rw [h2] at hdat; cases hdat
    obtain ⟨q, hq, rfl⟩ : ∃ q, es[i]? = some q ∧ AV.tup (q.1.map .int) = x := by simpa using e
    obtain ⟨y, hy, e1, e2, e3, _⟩ := ha.get hq
    have he : ee[i]? = some (entryOfKey (TKd c) (y.1, y.2.1, y.2.2.1)) := by rw [entry_at hk]; simp [hy]
    refine raw_next ⟨o, ho, h1, h3⟩ hob h2 he fun h' hi hs => ?_
    exact m _ h' s.toks hs.extBut ((VR.tup e2 e3).mono (.but ho (notTup_cls h1 (by decide)) hs.extBut)) (by obtain ⟨o', q1, q2, q3⟩ := hi; exact ⟨o', q1, q2, ee, ep, h2, q3⟩)
  · intro Z H i o s it Q S hd off ho ⟨h1, ee, ep, h2, h3⟩ e m
    obtain ⟨hob, ys, ⟨o', es', ep', ho', hex, hdat, hk, hp, hn⟩, ha⟩ := S.owns _ hd
    dsimp only at hob ho'
    rw [hob] at ho'; cases ho'
    rw [h2] at hdat; cases hdat
    refine raw_end hA.hd ⟨o, ho, h1, h3⟩ hob h2 ?_ m
    have := List.getElem?_eq_none_iff.mp e
    rw [List.length_map, ← ha.len] at this
    have sz := size_of_entries hk
    rw [List.length_map] at sz
    simp; omega
  · intro Z s val Q S r m
    rw [r.ref_inv]
    obtain ⟨hob, ys, ⟨o', es', ep', ho', hex, hdat, hk, hp, hn⟩, ha⟩ := S.owns _ h
    dsimp only at hob ho'
    rw [hob] at ho'; cases ho'
    exact raw_iter (S.mods h) hob hex hdat (m _ ⟨rfl, _, _, hdat, rfl⟩ rfl)
end
end Mine
end
section
open PySem PySem.W PySem.Calls PyProof.Rows
set_option Elab.async false
set_option maxRecDepth 100000
set_option linter.unusedVariables false
namespace Mine

section
variable {c : Cx} {A : Around} {Z : List (Addr × Obj)} {H H' : AHeap} {env : Env} {Φ : AV → AHeap → Prop}

theorem Ar.deep {n : Nat} (h : Ar A (n + 1)) (env : Env) : Ar (A.deeper env) n := ⟨h.hd, by have := h.dp; show A.depth + 1 + 3 * n < recursionLimit; omega, by have := h.un; show A.units + 3 + 32 * n + 64 < cLine; omega⟩
theorem Ar.mono {n m : Nat} (h : Ar A n) (k : m ≤ n) : Ar A m := ⟨h.hd, by have := h.dp; omega, by have := h.un; omega⟩

theorem Sta.news {s : Shared} {h' : Heap} (S : Sta c Z H s) (N : AHeap) (nd : (N.map (·.1)).Nodup) (hf : ∀ p ∈ N, Fresh s.heap p.1) (k : ∀ b o, s.heap.get? b = some o → h'.get? b = some o) (ho : ∀ p ∈ N, Owns c h' p.1 p.2) (t : Nat) :
    Sta c Z (N ++ H) { s with heap := h', toks := t } := by
  have S' := S.keep k t
  refine ⟨S'.same, S'.base, S'.extra, fun p hp => ?_, ?_, fun p hp => ?_, fun p hp q hq => ?_⟩
  · rcases List.mem_append.mp hp with hp | hp
    · exact ho p hp
    · exact S'.owns p hp
  · rw [List.map_append, List.nodup_append]
    refine ⟨nd, S.nodup, fun a ha b hb e => ?_⟩
    obtain ⟨p, hp, rfl⟩ := List.mem_map.mp ha
    obtain ⟨q, hq, rfl⟩ := List.mem_map.mp hb
    obtain ⟨ob, hob, _⟩ := (S.owns q hq).at
    have := (hf p hp).1
    rw [e, hob] at this; cases this
  · rcases List.mem_append.mp hp with hp | hp
    · exact S.off_of (hf p hp)
    · exact S.offB p hp
  · rcases List.mem_append.mp hp with hp | hp
    · intro e
      have := S.extra q hq
      rw [← e, (hf p hp).1] at this; cases this
    · exact S.offZ p hp q hq

theorem look_nodup {α : Type} {l : List (Str × α)} (nd : (l.map (·.1)).Nodup) {p : Str × α} (h : p ∈ l) : l.lookup p.1 = some p.2 := by
  induction l with
  | nil => cases h
  | cons q r ih =>
    obtain ⟨k, v⟩ := q
    rw [List.map_cons, List.nodup_cons] at nd
    rcases List.mem_cons.mp h with rfl | h
    · simp
    · have : (p.1 == k) = false := by
        simp only [beq_eq_false_iff_ne, ne_eq]
        intro e
        exact nd.1 (List.mem_map.mpr ⟨p, h, e⟩)
      rw [List.lookup_cons, this]; exact ih nd.2 h
theorem look_none {α : Type} {l : List (Str × α)} {x : Str} (h : x ∉ l.map (·.1)) : l.lookup x = none := by
  induction l with
  | nil => rfl
  | cons q r ih =>
    obtain ⟨k, v⟩ := q
    rw [List.map_cons, List.mem_cons, not_or] at h
    have : (x == k) = false := by simpa using h.1
    rw [List.lookup_cons, this]; exact ih h.2
theorem bindL_look (kindOf : Str → Option NameKind) : ∀ (binds : List (Str × Value)) (m : Str → Option Value) (x : Str), (binds.map (·.1)).Nodup → kindOf x = some .local → bindL kindOf binds m x = (binds.lookup x).or (m x)
  | [], _, _, _, _ => rfl
  | (n, v) :: r, m, x, nd, hk => by
    rw [List.map_cons, List.nodup_cons] at nd
    unfold bindL
    rw [bindL_look kindOf r _ x nd.2 hk]
    by_cases e : x = n
    · subst e
      rw [look_none nd.1, if_pos hk]; simp
    · have : (x == n) = false := by simpa using e
      rw [List.lookup_cons, this]
      by_cases h : kindOf n = some .local
      · rw [if_pos h]; simp [e]
      · rw [if_neg h]
theorem bindC_look (kindOf : Str → Option NameKind) : ∀ (binds : List (Str × Value)) (m : Str → Option Value) (x : Str), (binds.map (·.1)).Nodup → ¬ kindOf x = some .local → bindC kindOf binds m x = (binds.lookup x).or (m x)
  | [], _, _, _, _ => rfl
  | (n, v) :: r, m, x, nd, hk => by
    rw [List.map_cons, List.nodup_cons] at nd
    unfold bindC
    rw [bindC_look kindOf r _ x nd.2 hk]
    by_cases e : x = n
    · subst e
      rw [look_none nd.1, if_neg hk]; simp
    · have : (x == n) = false := by simpa using e
      rw [List.lookup_cons, this]
      by_cases h : kindOf n = some .local
      · rw [if_pos h]
      · rw [if_neg h]; simp [e]
theorem kr_look {h : Heap} {bs : List (Str × Value)} {ab : List (Str × AV)} (r : KRs h bs ab) (x : Str) : (bs.lookup x = none ∧ ab.lookup x = none) ∨ ∃ v a, bs.lookup x = some v ∧ ab.lookup x = some a ∧ VR h v a := by
  induction r with
  | nil => exact .inl ⟨rfl, rfl⟩
  | @cons p q l m pq _ ih =>
    obtain ⟨e, r⟩ := pq
    obtain ⟨pk, pv⟩ := p
    obtain ⟨qk, qv⟩ := q
    dsimp only at e r
    subst e
    by_cases hk : x = pk
    · subst hk; exact .inr ⟨pv, qv, by simp, by simp, r⟩
    · have : (x == pk) = false := by simpa using hk
      rw [List.lookup_cons, List.lookup_cons, this]; exact ih
theorem kr_names {h : Heap} {bs : List (Str × Value)} {ab : List (Str × AV)} (r : KRs h bs ab) : bs.map (·.1) = ab.map (·.1) := by
  induction r with
  | nil => rfl
  | cons p _ ih => rw [List.map_cons, List.map_cons, ih, p.1]

/-- the cells of a call -/
noncomputable def cellsAt (L : Addr) : List (Str × Option AV) → List (Str × Addr)
  | [] => []
  | x :: r => (x.1, L) :: cellsAt (L + 1) r
noncomputable def cellObjs (L : Addr) : List (Str × Option AV) → AHeap
  | [] => []
  | x :: r => (L, .cell x.2) :: cellObjs (L + 1) r
theorem cellObjs_mem : ∀ {cv : List (Str × Option AV)} {L : Addr} {p : Addr × AObj}, p ∈ cellObjs L cv → ∃ x v, (x, v) ∈ cv ∧ p.2 = .cell v ∧ (x, p.1) ∈ cellsAt L cv ∧ L ≤ p.1
  | [], _, _, h => nomatch h
  | y :: r, L, p, h => by
    rcases List.mem_cons.mp h with rfl | h
    · exact ⟨y.1, y.2, .head _, rfl, .head _, Nat.le_refl _⟩
    · obtain ⟨x, v, a, b, d, e⟩ := cellObjs_mem h
      exact ⟨x, v, .tail _ a, b, .tail _ d, Nat.le_of_succ_le e⟩
theorem cellObjs_nodup : ∀ (cv : List (Str × Option AV)) (L : Addr), ((cellObjs L cv).map (·.1)).Nodup
  | [], _ => .nil
  | y :: r, L => by
    show (L :: (cellObjs (L + 1) r).map (·.1)).Nodup
    rw [List.nodup_cons]
    refine ⟨fun h => ?_, cellObjs_nodup r _⟩
    obtain ⟨p, hp, e⟩ := List.mem_map.mp h
    obtain ⟨_, _, _, _, _, q⟩ := cellObjs_mem hp
    rw [e] at q; exact absurd q (Nat.not_succ_le_self _)
theorem cellsAt_names : ∀ (cv : List (Str × Option AV)) (L : Addr), (cellsAt L cv).map (·.1) = cv.map (·.1)
  | [], _ => rfl
  | y :: r, L => by show y.1 :: _ = _; rw [cellsAt_names r]; rfl

noncomputable def nodupB : List Str → Bool
  | [] => true
  | x :: r => !r.contains x && nodupB r
theorem nodupB.get : ∀ {l : List Str}, nodupB l = true → l.Nodup
  | [], _ => .nil
  | x :: r, h => by
    unfold nodupB at h
    rw [Bool.and_eq_true] at h
    rw [List.nodup_cons]
    exact ⟨by simpa using h.1, nodupB.get h.2⟩
noncomputable def envK (qual : Str) (scope : Scope) (L f : Addr) (cdv : Value) : Env := newEnv scope L mainGlobals (cellsFrom (L + 1) scope.names []) (qual ++ ".<locals>.") (some f) cdv none builtinsNs

noncomputable def retOf : AF → AV
  | .ret v => v
  | _ => .none

/-- a call, as code -/
noncomputable def CodeT (c : Cx) (A : Around) (Z : List (Addr × Obj)) (f : AV) (as : List AV) (ks : List (Str × AV)) (H : AHeap) (Φ : AV → AHeap → Prop) : Prop :=
  ∀ s fv vs kv, Sta c Z H s → VR s.heap fv f → VRs s.heap vs as → KRs s.heap kv ks → codeAny (model c.prog c.w) A (.call fv ⟨vs, kv⟩) (fun r s' => match r with | .ok (.ret v) => Post c Z VR s Φ v s' | _ => False) s
theorem CodeT.call {f : AV} {as ks} (h : CodeT c A Z f as ks H Φ) : CallT c A Z f as ks H Φ := fun s fv vs kv S r1 r2 r3 => wpAny_call (codeAny_mono (h s fv vs kv S r1 r2 r3) fun r _ q => by rcases r with e | (v | _ | _ | _) <;> first | exact q | exact q.elim)
theorem CodeT.mono {f as ks} {Ψ : AV → AHeap → Prop} (h : CodeT c A Z f as ks H Φ) (k : ∀ y H', Φ y H' → Ψ y H') : CodeT c A Z f as ks H Ψ := fun s fv vs kv S r1 r2 r3 => codeAny_mono (h s fv vs kv S r1 r2 r3) fun r s' q => by
  rcases r with e | (v | _ | _ | _) <;> first | exact q.mono k | exact q.elim
theorem CodeT.weak {f as ks H₁} (h : CodeT c A Z f as ks H₁ Φ) (x : Weak c H H₁) : CodeT c A Z f as ks H Φ := fun s fv vs kv S => h s fv vs kv (x _ _ S)
theorem CodeT.post {f as ks} (h : CodeT c A Z f as ks H fun y H' => ∃ H'', Weak c H' H'' ∧ Φ y H'') : CodeT c A Z f as ks H Φ := fun s fv vs kv S r1 r2 r3 => codeAny_mono (h s fv vs kv S r1 r2 r3) fun r s' q => by
  rcases r with e | (v | _ | _ | _) <;> first | exact q.elim | skip
  obtain ⟨y, H', a, b, d, H'', e, f⟩ := q
  exact ⟨y, H'', a, e _ _ b, d, f⟩

/-- a call of an own function -/
theorem CodeT.own {f : Addr} {name qual : Str} {params : Arguments} {body : List Stmt} {scope : Scope} {dV kV doc pm cdv ct oc : Value} {an od : Option Addr} {osl : Array (Option Value)} {as : List AV} {ks : List (Str × AV)} {n : Nat}
    (cv : List (Str × Option AV)) (lo ab : List (Str × AV)) (hA : Ar A (n + 1)) (ho : c.K.lookup f = some ⟨oc, od, .func (fnOf name qual params body scope dV kV doc pm an cdv ct), osl⟩) (hcd : codeIn c.K cdv qual = true)
    (hbind : ∀ Z s vs kv, Sta c Z H s → VRs s.heap vs as → KRs s.heap kv ks → ∃ binds, BindsTo s (fnOf name qual params body scope dV kV doc pm an cdv ct) ⟨vs, kv⟩ binds ∧ KRs s.heap binds ab)
    (h : ∀ L A', Ar A' n → EX c A' Z (envK qual scope L f cdv) body ((L, .ns lo) :: (cellObjs (L + 1) cv ++ H)) fun fl H' => ∃ H'', Weak c H' H'' ∧ Φ (retOf fl) H'')
    (nd' : nodupB (ab.map (·.1)) = true := by rfl)
    (hlo : (lo.all fun p => scope.names.lookup p.1 == some .local) = true := by rfl) (hlo2 : ∀ x v, lo.lookup x = some v → ab.lookup x = some v := by exact fun _ _ e => e)
    (hcs : ∀ L, cellsFrom (L + 1) scope.names [] = (cellsAt (L + 1) cv).reverse := by intro _; rfl) (hcn' : nodupB (cv.map (·.1)) = true := by rfl)
    (hcv : ∀ p ∈ cv, ab.lookup p.1 = p.2 := by intro p hp; (repeat (rcases List.mem_cons.mp hp with rfl | hp; · rfl)); cases hp)
    (hck : (cv.all fun p => scope.names.lookup p.1 == some .cell) = true := by rfl)
    (hkind : (ab.all fun p => scope.names.lookup p.1 == some .local || (scope.names.lookup p.1 == some .cell && (cv.map (·.1)).contains p.1)) = true := by rfl)
    (hco : scope.isCoroutine = false := by rfl) (hgen : scope.isGenerator = false := by rfl) (hk : scope.kind = .function := by rfl) : CodeT c A Z (.ref f) as ks H Φ := fun s fv vs kv S r1 r2 r3 => by
  have nd : (ab.map (·.1)).Nodup := nodupB.get nd'
  have hcn : (cv.map (·.1)).Nodup := nodupB.get hcn'
  rw [r1.ref_inv]
  obtain ⟨binds, hb, rb⟩ := hbind Z s vs kv S r2 r3
  have nms := kr_names rb
  have ndb : (binds.map (·.1)).Nodup := by rw [nms]; exact nd
  have hcsL : (cellsFrom (s.heap.objs.size + 1) scope.names []) = (cellsAt (s.heap.objs.size + 1) cv).reverse := hcs _
  have csn : ((cellsFrom (s.heap.objs.size + 1) scope.names []).map (·.1)).Nodup := by
    rw [hcsL, List.map_reverse, (List.reverse_perm _).nodup_iff, cellsAt_names]; exact hcn
  refine codeAny_call_function (fd := fnOf name qual params body scope dV kV doc pm an cdv ct) (by have := hA.dp; omega) (S.K _ _ ho) rfl hco hgen rfl (codeRec_of S.K hcd) (hb _ _ _ _ ?_)
  refine wpAny_newFunctionEnv_cells hk (fun x hx => ?_) fun env he s₁ X => ?_
  · have hm : x.1 ∈ ab.map (·.1) := by rw [← nms]; exact List.mem_map_of_mem hx
    obtain ⟨p, hp, e⟩ := List.mem_map.mp hm
    have q := List.all_eq_true.mp hkind p hp
    rw [Bool.or_eq_true, Bool.and_eq_true, beq_iff_eq, beq_iff_eq, e] at q
    rcases q with q | ⟨q1, q2⟩
    · exact .inl q
    · refine .inr ⟨q1, ?_⟩
      rw [List.contains_iff_mem] at q2
      have : x.1 ∈ (cellsFrom (s.heap.objs.size + 1) scope.names []).map (·.1) := by rw [hcsL, List.map_reverse, List.mem_reverse, cellsAt_names]; exact q2
      obtain ⟨y, hy, e'⟩ := List.mem_map.mp this
      rw [← e', look_nodup csn hy]; rfl
  · subst he
    have X' := X
    obtain ⟨⟨⟨h', tk, rfl⟩, hns, hkeep, hfr⟩, hcell, _, hab⟩ := X
    refine ⟨S.lim.keeps hkeep, codeAny_func ?_⟩
    have nl : ∀ {b : Addr}, s.heap.objs.size ≤ b → Fresh s.heap b := fun hb => by
      refine ⟨?_, hb⟩
      cases e : s.heap.get? _ with
      | none => rfl
      | some o => exact absurd (Heap.lt_size e) (Nat.not_lt.mpr hb)
    have S₁ : Sta c Z (((s.heap.objs.size, .ns lo) :: cellObjs (s.heap.objs.size + 1) cv) ++ H) { s with heap := h', toks := tk } := by
      refine S.news _ ?_ (fun p hp => ?_) hkeep (fun p hp => ?_) _
      · show (s.heap.objs.size :: (cellObjs (s.heap.objs.size + 1) cv).map (·.1)).Nodup
        rw [List.nodup_cons]
        refine ⟨fun hm => ?_, cellObjs_nodup _ _⟩
        obtain ⟨p, hp, e⟩ := List.mem_map.mp hm
        obtain ⟨_, _, _, _, _, q⟩ := cellObjs_mem hp
        rw [e] at q; exact absurd q (Nat.not_succ_le_self _)
      · rcases List.mem_cons.mp hp with rfl | hp
        · exact nl (Nat.le_refl _)
        · obtain ⟨_, _, _, _, _, q⟩ := cellObjs_mem hp
          exact nl (Nat.le_of_succ_le q)
      · rcases List.mem_cons.mp hp with rfl | hp
        · refine ⟨_, hns, fun x v e => ?_⟩
          have hmem : (x, v) ∈ lo := mem_of_lookup e
          have hl := beq_iff_eq.mp (List.all_eq_true.mp hlo _ hmem)
          rw [bindL_look (Env.kindOf (newEnv scope s.heap.objs.size mainGlobals (cellsFrom (s.heap.objs.size + 1) scope.names []) (qual ++ ".<locals>.") (some f) cdv none builtinsNs)) _ _ _ ndb hl]
          rcases kr_look rb x with ⟨_, e2⟩ | ⟨v', a, e1, e2, r⟩
          · rw [hlo2 _ _ e] at e2; cases e2
          · rw [hlo2 _ _ e] at e2; cases e2
            exact ⟨v', by rw [e1]; rfl, r.mono (.of_keep hkeep)⟩
        · obtain ⟨x, v, hm, hv, hc, _⟩ := cellObjs_mem hp
          obtain ⟨pa, po⟩ := p
          dsimp only at hv hc ⊢
          subst hv
          have hlk : (cellsFrom (s.heap.objs.size + 1) scope.names []).lookup x = some pa := by
            have := look_nodup csn (p := (x, pa)) (by rw [hcsL, List.mem_reverse]; exact hc)
            exact this
          have ic := hcell x pa hlk
          have kc : ¬ Env.kindOf (newEnv scope s.heap.objs.size mainGlobals (cellsFrom (s.heap.objs.size + 1) scope.names []) (qual ++ ".<locals>.") (some f) cdv none builtinsNs) x = some .local := by
            have := beq_iff_eq.mp (List.all_eq_true.mp hck _ hm)
            show ¬ scope.names.lookup x = some .local
            rw [this]; decide
          rw [bindC_look _ _ _ _ ndb kc] at ic
          have hv := hcv _ hm
          dsimp only at hv
          rcases kr_look rb x with ⟨e1, e2⟩ | ⟨v', a, e1, e2, r⟩
          · rw [e2] at hv
            subst hv
            rw [e1] at ic
            exact ic
          · rw [e2] at hv
            subst hv
            rw [e1] at ic
            exact ⟨v', ic, r.mono (.of_keep hkeep)⟩
    have r := h s.heap.objs.size _ (hA.deep (envK qual scope s.heap.objs.size f cdv)) _ S₁
    refine wpAny_mono r (fun fl s' ⟨y, H', rf, S', tk', H'', wk, hΦ⟩ => ?_) fun _ _ e => e.elim
    show Post c Z VR s Φ _ s'
    refine ⟨retOf y, H'', ?_, wk _ _ S', (TK.of_keep hkeep).trans tk', hΦ⟩
    cases rf with
    | next => exact .none
    | brk => exact .none
    | cont => exact .none
    | ret q => exact q

theorem CodeT.own0 {f : Addr} {name qual : Str} {params : Arguments} {body : List Stmt} {scope : Scope} {dV kV doc pm cdv ct oc : Value} {an od : Option Addr} {osl : Array (Option Value)} {as : List AV} {ks : List (Str × AV)} {n : Nat}
    (ab : List (Str × AV)) (hA : Ar A (n + 1)) (ho : c.K.lookup f = some ⟨oc, od, .func (fnOf name qual params body scope dV kV doc pm an cdv ct), osl⟩) (hcd : codeIn c.K cdv qual = true)
    (hbind : ∀ Z s vs kv, Sta c Z H s → VRs s.heap vs as → KRs s.heap kv ks → ∃ binds, BindsTo s (fnOf name qual params body scope dV kV doc pm an cdv ct) ⟨vs, kv⟩ binds ∧ KRs s.heap binds ab)
    (h : ∀ L A', Ar A' n → EX c A' Z (envK qual scope L f cdv) body ((L, .ns ab) :: H) fun fl H' => ∃ H'', Weak c H' H'' ∧ Φ (retOf fl) H'')
    (nd : nodupB (ab.map (·.1)) = true := by rfl)
    (hlo : (ab.all fun p => scope.names.lookup p.1 == some .local) = true := by rfl)
    (hcs : ∀ L, cellsFrom (L + 1) scope.names [] = [] := by intro _; rfl)
    (hco : scope.isCoroutine = false := by rfl) (hgen : scope.isGenerator = false := by rfl) (hk : scope.kind = .function := by rfl) : CodeT c A Z (.ref f) as ks H Φ :=
  .own [] ab ab hA ho hcd hbind h nd hlo (fun _ _ e => e) hcs rfl (fun _ h => by cases h) rfl (by
    rw [List.all_eq_true] at hlo ⊢
    intro p hp
    rw [hlo p hp]; rfl) hco hgen hk

theorem binds_now {s : Shared} {fd : FuncData} {args : Args} {binds : List (Str × Value)} {ab : List (Str × AV)} (h : bindArgs fd args = pure binds) (r : KRs s.heap binds ab) : ∃ binds, BindsTo s fd args binds ∧ KRs s.heap binds ab := ⟨binds, .of_eq h, r⟩
end
end Mine
end
section
open PySem PySem.W PySem.Calls PyProof.Rows
set_option Elab.async false
set_option maxRecDepth 100000
set_option linter.unusedVariables false
namespace Mine

section
variable {c : Cx} {A : Around} {Z : List (Addr × Obj)} {H H' : AHeap} {env : Env} {Φ : AV → AHeap → Prop} {n : Nat}

theorem VRs.one {h : Heap} {vs : List Value} {a : AV} (r : VRs h vs [a]) : ∃ v, vs = [v] ∧ VR h v a := by
  cases r with | cons p r => cases r; exact ⟨_, rfl, p⟩
theorem VRs.two {h : Heap} {vs : List Value} {a b : AV} (r : VRs h vs [a, b]) : ∃ v u, vs = [v, u] ∧ VR h v a ∧ VR h u b := by
  cases r with | cons p r => obtain ⟨u, rfl, q⟩ := r.one; exact ⟨_, _, rfl, p, q⟩
theorem VRs.three {h : Heap} {vs : List Value} {a b d : AV} (r : VRs h vs [a, b, d]) : ∃ v u x, vs = [v, u, x] ∧ VR h v a ∧ VR h u b ∧ VR h x d := by
  cases r with | cons p r => obtain ⟨u, x, rfl, q⟩ := r.two; exact ⟨_, _, _, rfl, p, q⟩

noncomputable abbrev OpC (c : Cx) (A : Around) (Z : List (Addr × Obj)) (f : Value) (as : List AV) (H : AHeap) (Φ : AV → AHeap → Prop) : Prop := CallT c A Z (.con f) as [] H Φ

theorem b_len_list {a : Addr} {l : List AV} (h : Rd c H a (.list l)) (hz : l.length ≤ 1000000) (k : Φ (.int l.length) H) : OpC c A Z (.builtin "len") [.ref a] H Φ := .con fun s vs S r => by
  obtain ⟨v, rfl, rv⟩ := r.one
  rw [rv.ref_inv]
  obtain ⟨⟨vs, m, hg, hv⟩, _⟩ := h Z s S
  have e := hv.len
  refine call_len_list (items := vs.toArray) ⟨_, hg, rfl, m, rfl⟩ (by simp; omega) ?_
  rw [List.size_toArray, e]
  exact Post.tok S (.int _ _) k
theorem lenB {d : Addr} {o : Obj} {es : Array DictEntry} {ep : Nat} {s : Shared} {Q : Value → Shared → Prop} {E : Value → Shared → Prop} (hd : (d == sysModules) = false) (ho : s.heap.get? d = some o) (hc : o.ExactDict) (hdat : o.data = .dict es ep) (hfit : es.size ≤ 1000000)
    (h : Q (.int es.size (s.toks + 1)) { s with toks := s.toks + 1 + 1 }) : wpAny (model c.prog c.w) A (Builtin.«len» ⟨[.ref d], []⟩) (fun fin s' => ∃ r, fin = .done (.ret r) ∧ Q r s') E s := by
  have hT : s.TypeIs (.ref d) "dict" := ⟨o, ho, hc.1⟩
  unfold Builtin.«len»
  refine wpAny_bind (m := oneArg "len" _) (wpAny_pure ?_)
  refine wpAny_bind (m := callSpecial? (.ref d) (Str.ofString "__len__")) (wpAny_callSpecial?_slot (name := Str.ofString "__len__") hT F.slot_dict_len
    (wpAny_call_entry F.slot_dict_len hT F.entry_dict_len ?_ (F.args_dict_len_1 _)))
  show wpAny _ _ (dictSize d >>= _) _ _ s
  unfold dictSize
  refine wpAny_bind (wpAny_bind (wpAny_dictEntries ho hdat (wpAny_pure ?_)))
  show wpAny _ _ (Builtin.Dict.pendingCount d >>= _) _ _ s
  refine wpAny_bind (wpAny_pendingCount_other hd ?_)
  rw [show ((es.size : Nat) : Int) + ((0 : Nat) : Int) = (es.size : Int) by omega]
  refine wpAny_ret_mkInt ?_
  refine wpAny_bind (wpAny_holding (wpAny_pure ?_))
  refine wpAny_bind (wpAny_letGo ?_)
  show wpAny _ _ (if ((es.size : Nat) : Int) < 0 then _ else _) _ _ _
  rw [if_neg (by omega)]
  show wpAny _ _ (if ((es.size : Nat) : Int) ≥ 2 ^ 63 then _ else _) _ _ _
  rw [if_neg (by omega)]
  exact wpAny_bind (wpAny_mkInt (wpAny_pure ⟨_, rfl, h⟩))
theorem lenH {d : Addr} {o : Obj} {es : Array DictEntry} {ep : Nat} {s : Shared} {Q : Value → Shared → Prop} {E : Value → Shared → Prop} (hd : (d == sysModules) = false) (ho : s.heap.get? d = some o) (hc : o.ExactDict) (hdat : o.data = .dict es ep) (hfit : es.size ≤ 1000000)
    (h : Q (.int es.size (s.toks + 1)) { s with toks := s.toks + 1 + 1 }) : wpAny (model c.prog c.w) A (call (.builtin "len") [.ref d]) Q E s :=
  Calls.call_function_entry kind_len plain_len entry_len (args_len1 _) (lenB hd ho hc hdat hfit h)
theorem truthyH {d : Addr} {o : Obj} {es : Array DictEntry} {ep : Nat} {s : Shared} {Q : Bool → Shared → Prop} {E : Value → Shared → Prop} (hd : (d == sysModules) = false) (ho : s.heap.get? d = some o) (hc : o.ExactDict) (hdat : o.data = .dict es ep) (hfit : es.size ≤ 1000000)
    (h : Q ((es.size : Int) != 0) { s with toks := s.toks + 1 + 1 }) : wpAny (model c.prog c.w) A (truthy (.ref d)) Q E s := by
  have hT : s.TypeIs (.ref d) "dict" := ⟨o, ho, hc.1⟩
  have key : wpAny (model c.prog c.w) A (runValue (.builtin "len" ⟨[.ref d], []⟩)) (fun r s' => r = .int es.size (s.toks + 1) ∧ Q ((es.size : Int) != 0) s') E s := by
    refine wpAny_runValue (codeAny_builtin entry_len ?_)
    rw [Around.under_plainId plain_len _]
    exact wpAny_mono (lenB (Q := fun r s' => r = .int es.size (s.toks + 1) ∧ Q ((es.size : Int) != 0) s') hd ho hc hdat hfit ⟨rfl, h⟩) (fun fin s' ⟨r, e, hq⟩ => by subst e; exact hq) fun _ _ e => e
  unfold truthy
  first
    | refine wpAny_bind (wpAny_callSpecial?_none (name := Str.ofString "__bool__") hT noBool_dict ?_)
    | refine wpAny_bind (wpAny_pure (wpAny_bind (wpAny_callSpecial?_none (name := Str.ofString "__bool__") hT noBool_dict ?_)))
  first
    | refine wpAny_bind (wpAny_specialOf (name := Str.ofString "__len__") hT F.slot_dict_len.lookup ?_)
    | refine wpAny_bind (wpAny_pure (wpAny_bind (wpAny_specialOf (name := Str.ofString "__len__") hT F.slot_dict_len.lookup ?_)))
  first
    | exact wpAny_bind (wpAny_mono key (fun r s' h' => by obtain ⟨rfl, hq⟩ := h'; exact wpAny_pure hq) fun _ _ e => e)
    | exact wpAny_bind (wpAny_pure (wpAny_bind (wpAny_mono key (fun r s' h' => by obtain ⟨rfl, hq⟩ := h'; exact wpAny_pure hq) fun _ _ e => e)))
theorem b_len_tdict {d : Addr} {es : List (List Int × AV)} (h : Rd c H d (.tdict es)) (hz : es.length ≤ 1000000) (k : Φ (.int es.length) H) : OpC c A Z (.builtin "len") [.ref d] H Φ := .con fun s vs S r => by
  obtain ⟨v, rfl, rv⟩ := r.one
  rw [rv.ref_inv]
  obtain ⟨⟨ys, ⟨o, ee, ep, ho, hex, hdat, he, _, _⟩, ha⟩, hm⟩ := h Z s S
  have sz : ee.size = es.length := by rw [size_of_entries he, List.length_map, ha.len]
  refine lenH hm ho hex hdat (by omega) ?_
  rw [sz]
  exact Post.tok S (.int _ _) k

/-- ranges -/
theorem newRange {i j k : Int} {t u v : Tok} {s : Shared} {tk : Nat} (S : Sta c Z H s) (h : ∀ a, Φ (.ref a) ((a, .range i j k) :: H)) :
    Post c Z VR s Φ (.ref s.heap.objs.size) { s with heap := s.heap.push { cls := .type "range", data := .fields #[.int i t, .int j u, .int k v] }, toks := tk } :=
  ⟨.ref _, _, .ref _, S.new (o := .range i j k) (fresh_size _) (fun _ _ e => Heap.get?_push_of_some _ e) ⟨t, u, v, Heap.get?_push_size _ rfl⟩ _, .of_keep fun _ _ e => Heap.get?_push_of_some _ e, h _⟩
theorem b_range1 {j : Int} (h : ∀ a, Φ (.ref a) ((a, .range 0 j 1) :: H)) : OpC c A Z (.type "range") [.int j] H Φ := .con fun s vs S r => by
  obtain ⟨v, rfl, rv⟩ := r.one
  obtain ⟨t, rfl⟩ := rv.int_inv
  exact call_range_1 (newRange S h)
theorem b_range2 {i j : Int} (h : ∀ a, Φ (.ref a) ((a, .range i j 1) :: H)) : OpC c A Z (.type "range") [.int i, .int j] H Φ := .con fun s vs S r => by
  obtain ⟨v, u, rfl, rv, ru⟩ := r.two
  obtain ⟨t, rfl⟩ := rv.int_inv
  obtain ⟨t', rfl⟩ := ru.int_inv
  exact call_range_2 (newRange S h)
theorem b_range3 {i j k : Int} (hk : k ≠ 0) (hp : k.natAbs < 1000000) (h : ∀ a, Φ (.ref a) ((a, .range i j k) :: H)) : OpC c A Z (.type "range") [.int i, .int j, .int k] H Φ := .con fun s vs S r => by
  obtain ⟨v, u, x, rfl, rv, ru, rx⟩ := r.three
  obtain ⟨t, rfl⟩ := rv.int_inv
  obtain ⟨t', rfl⟩ := ru.int_inv
  obtain ⟨t'', rfl⟩ := rx.int_inv
  exact call_range_3 hk (newRange S h) (Or.inl (PyProof.noPylong_small (by omega)))

theorem b_min {i j : Int} (hA : Ar A n) (h : Φ (.int (min i j)) H) : OpC c A Z (.builtin "min") [.int i, .int j] H Φ := .con fun s vs S r => by
  obtain ⟨v, u, rfl, rv, ru⟩ := r.two
  obtain ⟨t, rfl⟩ := rv.int_inv
  obtain ⟨t', rfl⟩ := ru.int_inv
  refine min_two_ints hA.hd fun h' tk k => ⟨.int (min i j), H, ?_, S.keep k tk, .of_keep k, h⟩
  split
  · rw [show min i j = j by omega]; exact .int _ _
  · rw [show min i j = i by omega]; exact .int _ _
theorem b_max {i j : Int} (hA : Ar A n) (h : Φ (.int (max i j)) H) : OpC c A Z (.builtin "max") [.int i, .int j] H Φ := .con fun s vs S r => by
  obtain ⟨v, u, rfl, rv, ru⟩ := r.two
  obtain ⟨t, rfl⟩ := rv.int_inv
  obtain ⟨t', rfl⟩ := ru.int_inv
  refine max_two_ints hA.hd fun h' tk k => ⟨.int (max i j), H, ?_, S.keep k tk, .of_keep k, h⟩
  split
  · rw [show max i j = j by omega]; exact .int _ _
  · rw [show max i j = i by omega]; exact .int _ _
theorem b_abs {i : Int} (h : Φ (.int i.natAbs) H) : OpC c A Z (.builtin "abs") [.int i] H Φ := .con fun s vs S r => by
  obtain ⟨v, rfl, rv⟩ := r.one
  obtain ⟨t, rfl⟩ := rv.int_inv
  refine call_abs_int fun u tk => ?_
  rw [show (if i < 0 then -i else i) = ((i.natAbs : Nat) : Int) by split <;> omega]
  exact Post.tok S (.int _ _) h
theorem b_isi_bool {b : Bool} (h : Φ (.bool true) H) : OpC c A Z (.builtin "isinstance") [.bool b, .con (.type "bool")] H Φ := .con fun s vs S r => by
  obtain ⟨v, u, rfl, rv, ru⟩ := r.two
  rw [rv.bool_inv, ru.con_inv]
  exact call_isinstance_yes (Tx := "bool") rfl (by rfl) (by rw [isSubtype_type]; kernel_rfl) (Post.here S (.bool _) h)
theorem b_isi_int {i : Int} (h : Φ (.bool true) H) : OpC c A Z (.builtin "isinstance") [.int i, .con (.type "int")] H Φ := .con fun s vs S r => by
  obtain ⟨v, u, rfl, rv, ru⟩ := r.two
  obtain ⟨t, rfl⟩ := rv.int_inv
  rw [ru.con_inv]
  exact call_isinstance_yes (Tx := "int") (typeIs_int _ _ _) (by rfl) (by rw [isSubtype_type]; kernel_rfl) (Post.here S (.bool _) h)
theorem b_isi_int_bool {i : Int} (h : Φ (.bool false) H) : OpC c A Z (.builtin "isinstance") [.int i, .con (.type "bool")] H Φ := .con fun s vs S r => by
  obtain ⟨v, u, rfl, rv, ru⟩ := r.two
  obtain ⟨t, rfl⟩ := rv.int_inv
  rw [ru.con_inv]
  exact call_isinstance (isinstance_false_int (by decide) (by rfl) (by rw [isSubtype_type]; kernel_rfl)) (Post.tok S (.bool _) h)

/-- lists -/
theorem lst_put {a : Addr} {vs us : List Value} {m : Nat} {f : Array Value → Array Value} {l l' : List AV} {s : Shared} (S : Sta c Z H s) (P : Put a (.list l) (.list l') H H') (hg : s.heap.get? a = some (listOf vs.toArray m)) (hf : f vs.toArray = us.toArray) (r : VRs s.heap us l') (t : Nat) {Ψ : Unit → AHeap → Prop} :
    Sta c Z H' { s with heap := s.heap.update a (Obj.mapSeq f), toks := t } ∧ TK s.heap (s.heap.update a (Obj.mapSeq f)) := by
  have hs : Heap.SameBut a s.heap (s.heap.update a (Obj.mapSeq f)) := Heap.SameBut.update ..
  have tk := S.tkBut P.mem hs.extBut
  obtain ⟨n', hd'⟩ := Obj.data_mapSeq (o := listOf vs.toArray m) rfl f
  refine ⟨S.put P hs.extBut ⟨us, n', ?_, r.mono tk⟩ t, tk⟩
  rw [Heap.get?_update_self _ hg (Obj.isFreed_of_seq hd'), ← hf]
  refine congrArg some ?_
  have e1 : (Obj.mapSeq f (listOf vs.toArray m)).cls = .type "list" := Obj.cls_mapSeq ..
  have e2 : (Obj.mapSeq f (listOf vs.toArray m)).dict = none := rfl
  have e3 : (Obj.mapSeq f (listOf vs.toArray m)).slots = #[] := rfl
  cases hx : Obj.mapSeq f (listOf vs.toArray m) with
  | mk cl di da sl =>
    rw [hx] at e1 e2 e3 hd'
    dsimp only at e1 e2 e3 hd'
    rw [e1, e2, e3, hd']
theorem m_append {a : Addr} {l : List AV} {x : AV} (P : Put a (.list l) (.list (l ++ [x])) H H') (hz : l.length ≤ 1000000) (h : Φ .none H') : OpC c A Z (.builtin "list.append") [.ref a, x] H Φ := .con fun s vs S r => by
  obtain ⟨v, u, rfl, rv, ru⟩ := r.two
  rw [rv.ref_inv]
  obtain ⟨vs, m, hg, hv⟩ := S.owns _ P.mem
  have e := hv.len
  refine wpAny_call_entry slot_list_append (T := "list") ⟨_, hg, rfl⟩ entry_list_append ?_ (args_list_append _ _)
  show wpAny _ _ (updateSeq a (·.push u) >>= fun _ => ret .none) _ _ s
  refine wpAny_bind (wpAny_updateSeq hg rfl (wpAny_pure ⟨.none, rfl, ?_⟩) (hz := by rw [List.size_toArray, sizeLine_eq]; omega) (_hz' := by rw [Array.size_push, List.size_toArray, sizeLine_eq]; omega))
  obtain ⟨S', tk⟩ := lst_put (f := (·.push u)) (us := vs ++ [u]) S P hg (by simp) (hv.snoc ru) s.toks (Ψ := fun _ _ => True)
  exact ⟨.none, H', .none, S', tk, h⟩
theorem m_extend {a b : Addr} {l l' : List AV} (P : Put a (.list l) (.list (l ++ l')) H H') (hb : Rd c H b (.list l')) (hz : l.length + l'.length ≤ 1000000) (h : Φ .none H') : OpC c A Z (.builtin "list.extend") [.ref a, .ref b] H Φ := .con fun s vs S r => by
  obtain ⟨v, u, rfl, rv, ru⟩ := r.two
  rw [rv.ref_inv, ru.ref_inv]
  obtain ⟨vs, m, hg, hv⟩ := S.owns _ P.mem
  obtain ⟨⟨us, m', hg', hu⟩, _⟩ := hb Z s S
  have e := hv.len
  have e' := hu.len
  have hz' : vs.toArray.size + us.toArray.size ≤ sizeLine := by rw [List.size_toArray, List.size_toArray, sizeLine_eq]; omega
  refine call_meets F.slot_list_extend (T := "list") ⟨_, hg, rfl⟩ F.entry_list_extend (F.args_list_extend_2 _ _) (AutoSeq1.list_extend_list_list_0 a vs.toArray m b us.toArray m' (extend_door hz') (by omega) (by omega)) ⟨hg, hg', ?_⟩
  obtain ⟨S', tk⟩ := lst_put (f := (· ++ us.toArray)) (us := vs ++ us) S P hg (by simp) (hv.append hu) s.toks (Ψ := fun _ _ => True)
  exact ⟨.none, H', .none, S', tk, h⟩
theorem m_pop {a : Addr} {l : List AV} {x : AV} (P : Put a (.list (l ++ [x])) (.list l) H H') (hz : l.length ≤ 1000000) (h : Φ x H') : OpC c A Z (.builtin "list.pop") [.ref a] H Φ := .con fun s vs S r => by
  obtain ⟨v, rfl, rv⟩ := r.one
  rw [rv.ref_inv]
  obtain ⟨vs, m, hg, hv⟩ := S.owns _ P.mem
  have e := hv.len
  rw [List.length_append, List.length_singleton] at e
  obtain ⟨y, hy, ry⟩ := hv.get (i := l.length) (a := x) (by simp)
  have hy' : vs.toArray[vs.toArray.size - 1]? = some y := by simpa [e] using hy
  refine call_meets F.slot_list_pop (T := "list") ⟨_, hg, rfl⟩ F.entry_list_pop (F.args_list_pop_1 _) (MeetsSeq.list_pop_last a vs.toArray m y hy' (by rw [List.size_toArray, sizeLine_eq]; omega)) ⟨hg, ?_⟩
  have hf : (vs.toArray.eraseIdxIfInBounds (vs.toArray.size - 1)) = vs.dropLast.toArray := by
    have : vs.toArray.size - 1 < vs.toArray.size := by simp; omega
    rw [Array.eraseIdxIfInBounds, dif_pos this]
    apply Array.ext'
    simp [List.eraseIdx_length_sub_one]
  have hd : VRs s.heap vs.dropLast l := by have := hv.dropLast; rwa [List.dropLast_concat] at this
  obtain ⟨S', tk⟩ := lst_put (f := fun xs => xs.eraseIdxIfInBounds (vs.toArray.size - 1)) (us := vs.dropLast) S P hg hf hd s.toks (Ψ := fun _ _ => True)
  exact ⟨x, H', ry.mono tk, S', tk, h⟩
end
end Mine
end
section
open PySem PySem.W PySem.Calls PyProof.Rows
set_option Elab.async false
set_option maxRecDepth 100000
set_option linter.unusedVariables false
namespace Mine

section
variable {c : Cx} {A : Around} {Z : List (Addr × Obj)} {H H' : AHeap} {env : Env} {Φ : AV → AHeap → Prop} {n : Nat}

theorem OwnI.is {h : Heap} {d : Addr} {es} (x : OwnI c h d es) : ∃ ob, h.get? d = some ob ∧ ob.cls = .type "dict" ∧ ob.dict = none := by obtain ⟨kvs, ⟨o, _, _, e, x, _⟩, _⟩ := x; exact ⟨_, e, x.1, x.2.1⟩
theorem OwnT.is {h : Heap} {d : Addr} {es} (x : OwnT c h d es) : ∃ ob, h.get? d = some ob ∧ ob.cls = .type "dict" ∧ ob.dict = none := by obtain ⟨kvs, ⟨o, _, _, e, x, _⟩, _⟩ := x; exact ⟨_, e, x.1, x.2.1⟩
/-- a method of what may be read -/
theorem GM_rd {T : String} {name : Str} {id : String} {a : Addr} {o : AObj} {Φ : AV → List AV → AHeap → Prop} (hm : Rd c H a o)
    (ht : ∀ s, Owns c s a o → ∃ ob, s.get? a = some ob ∧ ob.cls = .type T ∧ ob.dict = none) (pa : PlainAttrs T) (slot : Slot T name id) (hty : typeOf (.builtin id) = pure (.type "method_descriptor")) (h : Φ (.con (.builtin id)) [.ref a] H) :
    GM c A Z name (.ref a) H Φ := fun s v pl S rv => by
  rw [rv.ref_inv]
  obtain ⟨ob, ho, hc, hd⟩ := ht s.heap (hm Z s S).1
  exact getMethod_builtin ⟨ob, ho, hc⟩ pa slot hty (fun b e => by cases e; exact ⟨ob, ho, hd⟩) ⟨(_, _), H, ⟨.con _, .cons (.ref _) .nil⟩, S, .refl _, h⟩

theorem a2_map {h : Heap} {kvs : List (Int × Value)} {es : List (Int × AV)} (x : A2 (fun p q => p.1 = q.1 ∧ VR h p.2 q.2) kvs es) (k : Int) {dv : Value} {da : AV} (r : VR h dv da) :
    VR h ((valueAt kvs k).getD dv) ((es.lookup k).getD da) := by
  rcases a2_valueAt x k with ⟨e1, e2⟩ | ⟨v, a, e1, e2, r'⟩
  · rw [e1, e2]; exact r
  · rw [e1, e2]; exact r'
theorem m_get {d : Addr} {es : List (Int × AV)} {k : Int} {x : AV} (hd : Rd c H d (.idict es)) (h : Φ ((es.lookup k).getD x) H) : OpC c A Z (.builtin "dict.get") [.ref d, .int k, x] H Φ := .con fun s vs S r => by
  obtain ⟨v, u, y, rfl, rv, ru, ry⟩ := r.three
  rw [rv.ref_inv]
  obtain ⟨t, rfl⟩ := ru.int_inv
  obtain ⟨⟨kvs, hD, ha⟩, hm⟩ := hd Z s S
  exact call_meetsIn PySem.F.slot_dict_get hD.mapOf.typeIs PySem.F.entry_dict_get (PySem.F.args_dict_get_3 _ _ _) (meets_dict_get_default (IK c) d (intKind_is _ _ k t) hm y) ⟨_, hD.mapOf, Post.tok S (a2_map ha k ry) h⟩
theorem m_getT {d : Addr} {es : List (List Int × AV)} {k : List Int} {x : AV} (hA : Ar A n) (hd : Rd c H d (.tdict es)) (h : Φ ((es.lookup k).getD x) H) : OpC c A Z (.builtin "dict.get") [.ref d, .tup (k.map .int), x] H Φ := .con fun s vs S r => by
  obtain ⟨v, u, y, rfl, rv, ru, ry⟩ := r.three
  rw [rv.ref_inv]
  obtain ⟨a, vs, rfl, hg, hv⟩ := ru.tup_inv
  obtain ⟨⟨ys, hD, ha⟩, hm⟩ := hd Z s S
  refine call_meetsIn PySem.F.slot_dict_get hD.typeIs PySem.F.entry_dict_get (PySem.F.args_dict_get_3 _ _ _) (meetsH_dict_get_default (TKd c) d a hm y) ⟨hA.in1, k, _, key_of hg hv, hD, Post.tok S ?_ h⟩
  rcases a2_atKey ha k with ⟨e1, e2⟩ | ⟨p, a', e1, e2, r'⟩
  · rw [e1, e2]; exact ry
  · rw [e1, e2]; exact r'
theorem m_setdefault {d : Addr} {es : List (Int × AV)} {k : Int} {x : AV} (P : Put d (.idict es) (.idict (ksetd es k x)) H H') (hz : es.length ≤ 1000000) (h : ∀ v, Φ v H') : OpC c A Z (.builtin "dict.setdefault") [.ref d, .int k, x] H Φ := .con fun s vs S r => by
  obtain ⟨v, u, y, rfl, rv, ru, ry⟩ := r.three
  rw [rv.ref_inv]
  obtain ⟨t, rfl⟩ := ru.int_inv
  obtain ⟨kvs, hD, ha⟩ := S.owns _ P.mem
  refine call_meetsIn PySem.F.slot_dict_setdefault hD.mapOf.typeIs PySem.F.entry_dict_setdefault (PySem.F.args_dict_setdefault_3 _ _ _) (kt_meets_setdefault (IK c) d (intKind_is _ _ k t) (S.mods P.mem) y)
    ⟨kvs, hD, by rw [ha.len, sizeLine_eq]; omega, fun v' e => ?_, fun e h' hD' hs => ?_⟩
  · rcases a2_valueAt ha k with ⟨e1, _⟩ | ⟨w, a, e1, e2, r'⟩
    · rw [e] at e1; cases e1
    · have hk : ksetd es k x = es := by unfold ksetd; rw [e2]; rfl
      rw [e1] at e; cases e
      refine ⟨a, H', r', ?_, .refl _, h _⟩
      exact (S.tell P fun o => by rw [hk]; exact o).tok _
  · rcases a2_valueAt ha k with ⟨_, e2⟩ | ⟨w, a, e1, _, _⟩
    · have hk : ksetd es k x = kput es k x := by unfold ksetd kput; rw [e2]; rfl
      have tk := S.tkBut P.mem hs.extBut
      refine ⟨x, H', ry.mono tk, S.put P hs.extBut ⟨_, hD', ?_⟩ _, tk, h _⟩
      rw [hk]
      exact a2_stored (ha.mono fun _ _ q => ⟨q.1, q.2.mono tk⟩) k (ry.mono tk)
    · rw [e] at e1; cases e1
theorem m_copy {d : Addr} {es : List (Int × AV)} (hd : Rd c H d (.idict es)) (hz : es.length ≤ 1000000) (h : ∀ a, Φ (.ref a) ((a, .idict es) :: H)) : OpC c A Z (.builtin "dict.copy") [.ref d] H Φ := .con fun s vs S r => by
  obtain ⟨v, rfl, rv⟩ := r.one
  rw [rv.ref_inv]
  obtain ⟨⟨kvs, hD, ha⟩, hm⟩ := hd Z s S
  refine call_meetsIn PySem.F.slot_dict_copy hD.mapOf.typeIs PySem.F.entry_dict_copy (PySem.F.args_dict_copy_1 _) (meets_dict_copy (IK c) d hm) ⟨kvs, hD, by rw [ha.len, sizeLine_eq]; omega, fun h' hD' _ k => ?_⟩
  exact ⟨.ref _, _, .ref _, S.new (o := .idict es) (fresh_size _) k ⟨kvs, hD', ha.mono fun _ _ q => ⟨q.1, q.2.mono (.of_keep k)⟩⟩ _, .of_keep k, h _⟩
theorem newView {T : String} {d : Addr} {s : Shared} (S : Sta c Z H s) (h : ∀ a, Φ (.ref a) ((a, .view T d) :: H)) : Post c Z VR s Φ (.ref s.heap.objs.size) { s with heap := s.heap.push { cls := .type T, data := .fields #[.ref d] } } :=
  ⟨.ref _, _, .ref _, S.new (o := .view T d) (fresh_size _) (fun _ _ e => Heap.get?_push_of_some _ e) (Heap.get?_push_size _ rfl) _, .of_keep fun _ _ e => Heap.get?_push_of_some _ e, h _⟩
theorem m_items {d : Addr} {es : List (Int × AV)} (hd : Rd c H d (.idict es)) (h : ∀ a, Φ (.ref a) ((a, .view "dict_items" d) :: H)) : OpC c A Z (.builtin "dict.items") [.ref d] H Φ := .con fun s vs S r => by
  obtain ⟨v, rfl, rv⟩ := r.one
  rw [rv.ref_inv]
  obtain ⟨⟨kvs, hD, ha⟩, hm⟩ := hd Z s S
  exact call_meetsIn PySem.F.slot_dict_items hD.mapOf.typeIs PySem.F.entry_dict_items (PySem.F.args_dict_items_1 _) (meets_dict_items (IK c) d hm) ⟨⟨kvs, hD⟩, newView S h⟩
theorem m_values {d : Addr} {es : List (Int × AV)} (hd : Rd c H d (.idict es)) (h : ∀ a, Φ (.ref a) ((a, .view "dict_values" d) :: H)) : OpC c A Z (.builtin "dict.values") [.ref d] H Φ := .con fun s vs S r => by
  obtain ⟨v, rfl, rv⟩ := r.one
  rw [rv.ref_inv]
  obtain ⟨⟨kvs, hD, ha⟩, hm⟩ := hd Z s S
  exact call_meetsIn PySem.F.slot_dict_values hD.mapOf.typeIs PySem.F.entry_dict_values (PySem.F.args_dict_values_1 _) (meets_dict_values (IK c) d hm) ⟨⟨kvs, hD⟩, newView S h⟩

/-- sets -/
theorem b_set (h : ∀ a, Φ (.ref a) ((a, .iset (fun _ => false) 0) :: H)) : OpC c A Z (.type "set") [] H Φ := .con fun s vs S r => by
  cases r
  refine call_set_0 fun led => ?_
  refine ⟨.ref _, _, .ref _, S.new (o := .iset (fun _ => false) 0) (fresh_size _) (fun _ _ e => Heap.get?_push_of_some _ e) ?_ _, .of_keep fun _ _ e => Heap.get?_push_of_some _ e, h _⟩
  obtain ⟨hx, es, ep, t, hd, r1, r2, r3, r4⟩ := setObjOf_fresh (knd := IK c) led
  exact ⟨_, es, ep, t, Heap.get?_push_size _ rfl, hx, hd, r1, r2, by rw [r3]; decide, r4, r3⟩
theorem m_add {a : Addr} {X : Int → Bool} {m : Nat} {k : Int} (P : Put a (.iset X m) (.iset (fun k' => X k' || decide (k' = k)) (if X k then m else m + 1)) H H') (hz : m ≤ 1000) (h : Φ .none H') : OpC c A Z (.builtin "set.add") [.ref a, .int k] H Φ := .con fun s vs S r => by
  obtain ⟨v, u, rfl, rv, ru⟩ := r.two
  rw [rv.ref_inv]
  obtain ⟨t, rfl⟩ := ru.int_inv
  have hS := S.owns _ P.mem
  refine call_set_add (knd := IK c) (intKind_is _ _ k t) rfl hS (by unfold scanBound; omega) fun h' hs hS' => ?_
  have tk := S.tkBut P.mem hs.extBut
  exact ⟨.none, H', .none, S.put P hs.extBut hS' _, tk, h⟩
theorem in_iset {a : Addr} {X : Int → Bool} {m : Nat} {k : Int} (P : (a, .iset X m) ∈ H) (h : Φ (.bool (X k)) H) : Op2 c A Z (compareOp .In) VR (.int k) (.ref a) H Φ := fun s v u S rv ru => by
  rw [ru.ref_inv]
  obtain ⟨t, rfl⟩ := rv.int_inv
  exact wpAny_inSet_of (knd := IK c) (intKind_is _ _ k t) rfl (S.owns _ P) (Post.tok S (.bool _) h)
theorem notin_iset {a : Addr} {X : Int → Bool} {m : Nat} {k : Int} (P : (a, .iset X m) ∈ H) (h : Φ (.bool (!X k)) H) : Op2 c A Z (compareOp .NotIn) VR (.int k) (.ref a) H Φ := fun s v u S rv ru => by
  rw [ru.ref_inv]
  obtain ⟨t, rfl⟩ := rv.int_inv
  exact wpAny_notInSet_of (knd := IK c) (intKind_is _ _ k t) rfl (S.owns _ P) (Post.tok S (.bool _) h)
/-- tuples of ints, written out -/
theorem notin_tup {l : List Int} {k : Int} (h : Φ (.bool (!l.any (· == k))) H) : Op2 c A Z (compareOp .NotIn) VR (.int k) (.tup (l.map .int)) H Φ := fun s v u S rv ru => by
  obtain ⟨a, vs, rfl, hg, hv⟩ := ru.tup_inv
  obtain ⟨t, rfl⟩ := rv.int_inv
  refine SeqAt.notIn_tupleAt (items := vs.toArray) (fun y => match y with | .int i _ => i == k | _ => false) ⟨_, hg, rfl, _, rfl⟩ (fun y hy => ?_) ?_
  · have : ∃ i t, y = .int i t := by
      have hy' : y ∈ vs := by simpa using hy
      clear hy hg h ru
      induction l generalizing vs with
      | nil => cases hv; cases hy'
      | cons i l ih =>
        cases hv with
        | cons p r =>
          rcases List.mem_cons.mp hy' with rfl | hy'
          · obtain ⟨t, e⟩ := p.int_inv; exact ⟨i, t, e⟩
          · exact ih _ r hy'
    obtain ⟨i, t', rfl⟩ := this
    exact SeqAt.EqAt.int_int i t' k t
  · have e : (vs.toArray.any fun y => match y with | .int i _ => i == k | _ => false) = l.any (· == k) := by
      rw [List.any_toArray]
      clear hg h ru
      induction l generalizing vs with
      | nil => cases hv; rfl
      | cons i l ih =>
        cases hv with
        | cons p r => obtain ⟨t, e⟩ := p.int_inv; subst e; rw [List.any_cons, List.any_cons, ih _ r]
    rw [e]
    exact Post.here S (.bool _) h
theorem ne_bool {a b : Bool} (h : Φ (.bool (!(a == b))) H) : Op2 c A Z (compareOp .NotEq) VR (.bool a) (.bool b) H Φ := fun s v u S rv ru => by
  rw [rv.bool_inv, ru.bool_inv]
  exact SeqAt.RcNeAt.bool_bool a b _ _ _ _ (Post.here S (.bool _) h)
theorem isnot_none {a : AV} (hc : ∀ v, a ≠ .con v) (h : Φ (.bool (match a with | .none => false | _ => true)) H) : Op2 c A Z (compareOp .IsNot) VR a .none H Φ := fun s v u S rv ru => by
  rw [ru.none_inv]
  cases rv with
  | none => exact isnot_none_none (Post.here S (.bool _) h)
  | con v => exact absurd rfl (hc v)
  | _ => exact isnot_none_ne (by intro e; cases e) (Post.here S (.bool _) h)
theorem is_none {a : AV} (hc : ∀ v, a ≠ .con v) (h : Φ (.bool (match a with | .none => true | _ => false)) H) : Op2 c A Z (compareOp .Is) VR a .none H Φ := fun s v u S rv ru => by
  rw [ru.none_inv]
  cases rv with
  | none => exact is_none_none (Post.here S (.bool _) h)
  | con v => exact absurd rfl (hc v)
  | _ => exact is_none_ne (by intro e; cases e) (Post.here S (.bool _) h)

/-- truth -/
theorem tr_list {a : Addr} {l : List AV} {Ψ : Bool → AHeap → Prop} (hd : Rd c H a (.list l)) (hz : l.length ≤ 1000000) (h : Ψ (!l.isEmpty) H) : Op1 c A Z truthy relB (.ref a) H Ψ := fun s v S rv => by
  rw [rv.ref_inv]
  obtain ⟨⟨vs, m, hg, hv⟩, _⟩ := hd Z s S
  have e := hv.len
  refine wpAny_truthy_list (items := vs.toArray) ⟨_, hg, rfl, m, rfl⟩ (by simp; omega) ?_
  have : (!vs.toArray.isEmpty) = !l.isEmpty := by cases hv <;> rfl
  rw [this]
  exact Post.tok S rfl h
theorem tr_tdict {d : Addr} {es : List (List Int × AV)} {Ψ : Bool → AHeap → Prop} (hd : Rd c H d (.tdict es)) (hz : es.length ≤ 1000000) (h : Ψ (!es.isEmpty) H) : Op1 c A Z truthy relB (.ref d) H Ψ := fun s v S rv => by
  rw [rv.ref_inv]
  obtain ⟨⟨ys, ⟨o, ee, ep, ho, hex, hdat, he, _, _⟩, ha⟩, hm⟩ := hd Z s S
  have sz : ee.size = es.length := by rw [size_of_entries he, List.length_map, ha.len]
  refine truthyH hm ho hex hdat (by omega) ?_
  have e : ((ee.size : Int) != 0) = !es.isEmpty := by rw [sz]; cases es <;> simp <;> omega
  rw [e]
  exact Post.tok S rfl h
end
end Mine
end
section
open PySem PySem.W PySem.Calls PyProof.Rows
set_option Elab.async false
set_option maxRecDepth 100000
set_option linter.unusedVariables false
namespace Mine

section
variable {c : Cx} {A : Around} {Z : List (Addr × Obj)} {H H' : AHeap} {env : Env} {Φ : AV → AHeap → Prop} {n : Nat}

theorem Rd.cons {d : Addr} {x : AObj} {p : Addr × AObj} (h : Rd c H d x) : Rd c (p :: H) d x := fun _ _ S => h _ _ (S.sub (List.sublist_cons_self _ _))
theorem Rd.weak {d : Addr} {x : AObj} (h : Rd c H' d x) (k : Weak c H H') : Rd c H d x := fun _ _ S => h _ _ (k _ _ S)

/-- the turns of a list comprehension -/
theorem comp_loop {elt target : Expr} {gens : List Comprehension} {scope : Scope} {pos p : Pos} {d : Nat} {it : Addr} {acc : Value} {cenv : Env} {body : Sem Unit} {l : List AV} {D : AHeap → Prop} {P : Nat → Obj → Prop} {I : Nat → AHeap → Prop} {h₀ : Heap} {s : Shared}
    (hturn : compTurn (.ListComp elt gens scope pos) d (.ref it) acc cenv = (standAt p >>= fun _ => pyNext (.ref it) >>= fun r => match r with
      | none => pure (.done .next)
      | some v => letOwnedTupleGo target (.ref it) v >>= fun _ => assign target cenv v >>= fun _ => body >>= fun _ => again (.compLoop (.ListComp elt gens scope pos) d (.ref it) acc cenv)))
    (X : LS c Z D P I it h₀ 0 H s) (T : Itr c A target l D P) (hD : ∀ i H, I i H → D H)
    (turn : ∀ i x H Z, l[i]? = some x → I i H → AT c A Z cenv target x H fun H' => Tr c A Z relU body H' fun (_ : Unit) H'' => I (i + 1) H'') :
    codeAny (model c.prog c.w) A (.compLoop (.ListComp elt gens scope pos) d (.ref it) acc cenv) (fun r s' => r = .ok .next ∧ ∃ H, Sta c Z H s' ∧ TK h₀ s'.heap ∧ I l.length H) s := by
  refine codeAny_loop rfl (fun n s₂ => ∃ i H, i ≤ l.length ∧ n = l.length - i ∧ LS c Z D P I it h₀ i H s₂) (fun n s₂ ⟨i, H, hi, hn, X⟩ => ?_) (l.length - 0) ⟨0, _, Nat.zero_le _, rfl, X⟩
  show wpAny _ A ((compTurn (.ListComp elt gens scope pos) d (.ref it) acc cenv).onRaise (fun x => do noteFrame x cenv; theTreesLotGoes x)) _ _ s₂
  refine wpAny_noted (up ?_)
  rw [hturn]
  refine wpAny_bind (wpAny_standAt (wpAny_bind (X.turn T hD (fun s₃ S₃ tk₃ e => ?_) fun x v s₃ hx hw => ?_)))
  · have : i = l.length := Nat.le_antisymm hi (List.getElem?_eq_none_iff.mp e)
    exact wpAny_pure ⟨rfl, H, S₃, tk₃, this ▸ X.inv⟩
  · refine wpAny_bind (wpAny_mono hw (fun _ s₄ ⟨r₄, o', S₄, tk₄, hp'⟩ => ?_) fun _ _ e => e)
    refine wpAny_bind (bq (turn i x H _ hx X.inv s₄ v S₄ r₄) fun _ _ H₅ s₅ _ S₅ tk₅ h₅ => wpAny_bind (bq (h₅ s₅ S₅) fun _ y H₆ s₆ r₆ S₆ tk₆ h₆ => ?_))
    have hlt : i < l.length := (List.getElem?_eq_some_iff.mp hx).1
    exact wpAny_pure ⟨rfl, l.length - (i + 1), by omega, i + 1, H₆, hlt, rfl, .back S₆ ((tk₄.trans tk₅).trans tk₆) hp' h₆ X.offZ X.offB⟩
theorem comp_loopD {ke ve target : Expr} {gens : List Comprehension} {scope : Scope} {pos p : Pos} {d : Nat} {it : Addr} {acc : Value} {cenv : Env} {body : Sem Unit} {l : List AV} {D : AHeap → Prop} {P : Nat → Obj → Prop} {I : Nat → AHeap → Prop} {h₀ : Heap} {s : Shared}
    (hturn : compTurn (.DictComp ke ve gens scope pos) d (.ref it) acc cenv = (standAt p >>= fun _ => pyNext (.ref it) >>= fun r => match r with
      | none => pure (.done .next)
      | some v => letOwnedTupleGo target (.ref it) v >>= fun _ => assign target cenv v >>= fun _ => body >>= fun _ => again (.compLoop (.DictComp ke ve gens scope pos) d (.ref it) acc cenv)))
    (X : LS c Z D P I it h₀ 0 H s) (T : Itr c A target l D P) (hD : ∀ i H, I i H → D H)
    (turn : ∀ i x H Z, l[i]? = some x → I i H → AT c A Z cenv target x H fun H' => Tr c A Z relU body H' fun (_ : Unit) H'' => I (i + 1) H'') :
    codeAny (model c.prog c.w) A (.compLoop (.DictComp ke ve gens scope pos) d (.ref it) acc cenv) (fun r s' => r = .ok .next ∧ ∃ H, Sta c Z H s' ∧ TK h₀ s'.heap ∧ I l.length H) s := by
  refine codeAny_loop rfl (fun n s₂ => ∃ i H, i ≤ l.length ∧ n = l.length - i ∧ LS c Z D P I it h₀ i H s₂) (fun n s₂ ⟨i, H, hi, hn, X⟩ => ?_) (l.length - 0) ⟨0, _, Nat.zero_le _, rfl, X⟩
  show wpAny _ A ((compTurn (.DictComp ke ve gens scope pos) d (.ref it) acc cenv).onRaise (fun x => do noteFrame x cenv; theTreesLotGoes x)) _ _ s₂
  refine wpAny_noted (up ?_)
  rw [hturn]
  refine wpAny_bind (wpAny_standAt (wpAny_bind (X.turn T hD (fun s₃ S₃ tk₃ e => ?_) fun x v s₃ hx hw => ?_)))
  · have : i = l.length := Nat.le_antisymm hi (List.getElem?_eq_none_iff.mp e)
    exact wpAny_pure ⟨rfl, H, S₃, tk₃, this ▸ X.inv⟩
  · refine wpAny_bind (wpAny_mono hw (fun _ s₄ ⟨r₄, o', S₄, tk₄, hp'⟩ => ?_) fun _ _ e => e)
    refine wpAny_bind (bq (turn i x H _ hx X.inv s₄ v S₄ r₄) fun _ _ H₅ s₅ _ S₅ tk₅ h₅ => wpAny_bind (bq (h₅ s₅ S₅) fun _ y H₆ s₆ r₆ S₆ tk₆ h₆ => ?_))
    have hlt : i < l.length := (List.getElem?_eq_some_iff.mp hx).1
    exact wpAny_pure ⟨rfl, l.length - (i + 1), by omega, i + 1, H₆, hlt, rfl, .back S₆ ((tk₄.trans tk₅).trans tk₆) hp' h₆ X.offZ X.offB⟩

/-- what a comprehension's body does: an item to the list -/
theorem emit_list {elt : Expr} {cenv : Env} {a : Addr} {H : AHeap} {Ψ : Unit → AHeap → Prop} (h : EV c A Z cenv elt H fun y H' => ∃ ys H'', Put a (.list ys) (.list (ys ++ [y])) H' H'' ∧ ys.length ≤ 1000000 ∧ Ψ () H'') :
    Tr c A Z relU (eval elt cenv >>= fun x => call (.builtin "list.append") [.ref a, x] >>= fun _ => (pure () : Sem Unit)) H Ψ := fun s S =>
  wpAny_bind (bq (h s S) fun x y H' s' r S' tk ⟨ys, H'', P, hz, hΨ⟩ => wpAny_bind (bq (m_append (Φ := fun _ H₃ => H₃ = H'') P hz rfl s' _ _ [] S' (.con _) (.cons (.ref _) (.cons r .nil)) .nil) fun _ _ H₃ s'' _ S'' tk' e => by
    subst e
    exact wpAny_pure ⟨(), _, trivial, S'', tk.trans tk', hΨ⟩))
theorem emit_dict {ke ve : Expr} {cenv : Env} {a : Addr} {p : Pos} {H : AHeap} {Ψ : Unit → AHeap → Prop} (h : EV c A Z cenv ke H fun x H₁ => EV c A Z cenv ve H₁ fun y H₂ => ∃ (k : Int) (es : List (Int × AV)) (H₃ : AHeap), x = .int k ∧ Put a (.idict es) (.idict (kput es k y)) H₂ H₃ ∧ es.length ≤ 1000000 ∧ Ψ () H₃) :
    Tr c A Z relU (eval ke cenv >>= fun kv => holding [kv] (eval ve cenv) >>= fun vv => standAt p >>= fun _ => holding [kv, vv] (dictSet a kv vv)) H Ψ := fun s S =>
  wpAny_bind (bq (h s S) fun kv x H₁ s' rx S' tk h' => wpAny_bind (wpAny_holding (bq (h' s' S') fun vv y H₂ s'' ry S'' tk' ⟨k, es, H₃, e, P, hz, hΨ⟩ => by
    subst e
    obtain ⟨t, rfl⟩ := (rx.mono tk').int_inv
    obtain ⟨kvs, hD, ha⟩ := S''.owns _ P.mem
    refine wpAny_bind (wpAny_standAt (wpAny_holding (wpAny_dictSet_pairs (knd := IK c) (intKind_is _ _ k t) hD (fun h' hD' hs => ?_) (by rw [ha.len, sizeLine_eq]; omega))))
    have tk₃ := S''.tkBut P.mem hs.extBut
    exact ⟨(), H₃, trivial, S''.put P hs.extBut ⟨_, hD', (a2_stored (ha.mono fun _ _ q => ⟨q.1, q.2.mono tk₃⟩) k (ry.mono tk₃))⟩ _, (tk.trans tk').trans tk₃, hΨ⟩)))

/-- the frame of a comprehension -/
noncomputable def cEnv (scope : Scope) (cl : List (Str × Addr)) (C : Addr) (env : Env) : Env := compEnvC scope cl C env

theorem LS.grow {D : AHeap → Prop} {P : Nat → Obj → Prop} {I : Nat → AHeap → Prop} {it a : Addr} {h₀ h' : Heap} {i : Nat} {s : Shared} {o : AObj} (X : LS c Z D P I it h₀ i H s) (hf : Fresh s.heap a) (k : ∀ b o, s.heap.get? b = some o → h'.get? b = some o) (ho : Owns c h' a o) (t : Nat) :
    LS c Z D P (fun _ H' => H' = (a, o) :: H) it h₀ i ((a, o) :: H) { s with heap := h', toks := t } :=
  ⟨X.sta.new hf k ho t, X.tk.trans (.of_keep k), rfl, fun p hp => by
    rcases List.mem_cons.mp hp with rfl | hp
    · obtain ⟨ob, hob, _⟩ := X.at'
      intro e
      rw [← e] at hob; rw [hf.1] at hob; cases hob
    · exact X.off p hp, X.offZ, X.offB, let ⟨ob, hob, hp⟩ := X.at'; ⟨ob, k _ _ hob, hp⟩⟩

/-- a comprehension: its start -/
theorem comp_start {e : Expr} {scope : Scope} {pos : Pos} {newAcc first : Sem Value} {g : Comprehension} {gs : List Comprehension} {cl : List (Str × Addr)} {use : Option (Value → Sem Unit)} {Q : Value → Shared → Prop} {s : Shared} {o₀ : AObj} {ob₀ : Obj}
    (hcl : clausesOf e = g :: gs) (hs : ∀ x, foldedSetIterable g.iter env x = pure x) (hclos : closureFor scope env = pure cl) (hkind : scope.kind = .function) (hnames : ∀ x ∈ scope.names, x.2 = .local → scope.names.lookup x.1 = some .local) (hcell : ∀ x ∈ scope.names, x.2 ≠ .cell)
    (hacc : ∀ (s : Shared) (Q : Value → Shared → Prop), Q (.ref s.heap.objs.size) { s with heap := s.heap.push ob₀ } → wpAny (model c.prog c.w) A newAcc Q no s) (hob : ob₀.isFreed = false) (ho : ∀ h a, h.get? a = some ob₀ → Owns c h a o₀)
    (S : Sta c Z H s)
    (h : Tr c A Z VR first H fun v H₁ => ∃ l D, Loop c A g.target v H₁ l D ∧
      ∀ it acc C s₁ P h₀, Itr c A g.target l D P → LS c Z (fun _ => True) P (fun _ _ => True) it h₀ 0 ((C, .ns []) :: (acc, o₀) :: H₁) s₁ → TK s.heap h₀ →
        codeAny (model c.prog c.w) A (.compStart e 0 (.ref it) (.ref acc) (cEnv scope cl C env)) (compPost (model c.prog c.w) A no use Q (.ref acc) C) s₁) :
    wpAny (model c.prog c.w) A (comprehension e scope env pos newAcc false first use) Q no s := by
  refine wpAny_comprehension_free hcl hs hclos hkind hnames (bq (h s S) fun v y H₁ s₁ r S₁ tk ⟨l, D, ⟨P, T, G⟩, k⟩ => G Z s₁ v _ S₁ r fun o hp hf => ?_)
  have X := LS.start (D := fun _ => True) (I := fun _ H => True) S₁ tk hp hf trivial
  generalize hit : s₁.heap.objs.size = it at X ⊢
  generalize ({ s₁ with heap := s₁.heap.push o } : Shared) = s₂ at X ⊢
  refine hacc _ _ ?_
  have X₂ := X.grow (h' := s₂.heap.push ob₀) (o := o₀) (fresh_size _) (fun _ _ e => Heap.get?_push_of_some _ e) (ho _ _ (Heap.get?_push_size _ hob)) s₂.toks
  generalize hac : s₂.heap.objs.size = acc at X₂ ⊢
  have X₂' : LS c Z (fun _ => True) P (fun _ H => True) it s.heap 0 ((acc, o₀) :: H₁) { s₂ with heap := s₂.heap.push ob₀ } := ⟨X₂.sta, X₂.tk, trivial, X₂.off, X₂.offZ, X₂.offB, X₂.at'⟩
  generalize ({ s₂ with heap := s₂.heap.push ob₀ } : Shared) = s₃ at X₂' ⊢
  refine wpAny_newFunctionEnv hcell (by intro x hx; cases hx) (fun h' hns hsb => ?_) hkind
  have hk : ∀ b o, s₃.heap.get? b = some o → h'.get? b = some o := fun b o e => hsb.extBut b o (Nat.ne_of_lt (Heap.lt_size e)) (Heap.get?_push_of_some _ e)
  have X₃ := X₂'.grow (h' := h') (o := .ns []) (fresh_size _) hk ⟨_, hns, fun x v e => by cases e⟩ (s₃.toks + 0)
  exact k it acc s₃.heap.objs.size _ P s.heap T ⟨X₃.sta, X₃.tk, trivial, X₃.off, X₃.offZ, X₃.offB, X₃.at'⟩ (.refl _)

/-- at the end of a comprehension its frame goes -/
theorem comp_end {m : List (Str × AV)} {C : Addr} {s' : Shared} (S : Sta c Z ((C, .ns m) :: H) s') : ∃ mm, s'.heap.Ns C mm ∧ ∀ h', Heap.SameBut C s'.heap h' → Sta c Z H { s' with heap := h' } ∧ TK s'.heap h' := by
  obtain ⟨mm, hn, _⟩ := S.owns _ (.head _)
  obtain ⟨ob, hob, hnt⟩ := S.alloced (o := .ns m) (a := C) (.head _)
  refine ⟨mm, hn, fun h' hs => ⟨(S.sub (List.sublist_cons_self _ _)).turn hob hnt (fun p hp e => ?_) (fun p hp e => S.offZ _ (.head _) p hp e.symm) (S.offB _ (.head _)) hs.extBut s'.toks, .but hob hnt hs.extBut⟩⟩
  have := S.nodup
  rw [List.map_cons, List.nodup_cons] at this
  exact this.1 (List.mem_map.mpr ⟨p, hp, e⟩)

/-- the first clause of a list comprehension -/
noncomputable def LCTurns (c : Cx) (A : Around) (cenv : Addr → Env) (body : Addr → Addr → Sem Unit) (target : Expr) (l : List AV) (I : Nat → List AV → AHeap → Prop) : Prop :=
  ∀ i x ys Hr Z C acc, l[i]? = some x → I i ys Hr → AT c A Z (cenv C) target x ((C, .ns []) :: (acc, .list ys) :: Hr) fun H' => Tr c A Z relU (body C acc) H' fun (_ : Unit) H'' => ∃ m' ys' Hr', Weak c H'' ((C, .ns m') :: (acc, .list ys') :: Hr') ∧ I (i + 1) ys' Hr'
theorem comp_list {elt : Expr} {g : Comprehension} {gs : List Comprehension} {scope : Scope} {pos fp : Pos} {first : Sem Value} {cl : List (Str × Addr)} {use : Option (Value → Sem Unit)} {Q : Value → Shared → Prop} {s : Shared} {body : Addr → Addr → Sem Unit} {n : Nat}
    (hga : g.is_async = 0) (hs : ∀ x, foldedSetIterable g.iter env x = pure x) (hclos : closureFor scope env = pure cl) (hkind : scope.kind = .function) (hnames : ∀ x ∈ scope.names, x.2 = .local → scope.names.lookup x.1 = some .local) (hcell : ∀ x ∈ scope.names, x.2 ≠ .cell)
    (hturn : ∀ (it acc C : Addr), compTurn (.ListComp elt (g :: gs) scope pos) 0 (.ref it) (.ref acc) (cEnv scope cl C env) = (standAt g.iter.pos >>= fun _ => pyNext (.ref it) >>= fun r => match r with
      | none => pure (.done .next)
      | some v => letOwnedTupleGo g.target (.ref it) v >>= fun _ => assign g.target (cEnv scope cl C env) v >>= fun _ => body C acc >>= fun _ => again (.compLoop (.ListComp elt (g :: gs) scope pos) 0 (.ref it) (.ref acc) (cEnv scope cl C env))))
    (S : Sta c Z H s)
    (h : Tr c A Z VR first H fun v H₁ => ∃ (l : List AV) (D : AHeap → Prop) (I : Nat → List AV → AHeap → Prop), Loop c A g.target v H₁ l D ∧ I 0 [] H₁ ∧ (∀ i ys Hr C acc m, I i ys Hr → D ((C, .ns m) :: (acc, .list ys) :: Hr)) ∧
      LCTurns c A (fun C => cEnv scope cl C env) body g.target l I ∧
      ∀ s' ys Hr C acc m, Sta c Z ((C, .ns m) :: (acc, .list ys) :: Hr) s' → TK s.heap s'.heap → I l.length ys Hr → compPost (model c.prog c.w) A no use Q (.ref acc) C (.ok .next) s') :
    wpAny (model c.prog c.w) A (comprehension (.ListComp elt (g :: gs) scope pos) scope env fp (newList []) false first use) Q no s := by
  refine comp_start (o₀ := .list []) (ob₀ := { cls := .type "list", data := .seq #[] }) rfl hs hclos hkind hnames hcell (fun s Q q => wpAny_newList q) rfl (fun h a e => ⟨[], 0, e, .nil⟩) S (Tr.mono h ?_)
  rintro v H₁ ⟨l, D, I, L, h0, hD, turn, fin⟩
  refine ⟨l, D, L, fun it acc C s₁ P h₀ T X tk => ?_⟩
  have loop : ∀ s₂, LS c Z (fun _ => True) P (fun _ _ => True) it h₀ 0 ((C, .ns []) :: (acc, .list []) :: H₁) s₂ → codeAny (model c.prog c.w) A (.compLoop (.ListComp elt (g :: gs) scope pos) 0 (.ref it) (.ref acc) (cEnv scope cl C env)) (compPost (model c.prog c.w) A no use Q (.ref acc) C) s₂ := fun s₂ X => by
    refine codeAny_mono (comp_loop (D := D) (I := fun i H => ∃ m ys Hr, Weak c H ((C, .ns m) :: (acc, .list ys) :: Hr) ∧ H = (C, .ns m) :: (acc, .list ys) :: Hr ∧ I i ys Hr) (hturn it acc C)
      ⟨X.sta, X.tk, ⟨[], [], H₁, .refl _ _, rfl, h0⟩, X.off, X.offZ, X.offB, X.at'⟩ T (fun i H ⟨m, ys, Hr, _, e, hI⟩ => e ▸ hD i ys Hr C acc m hI) ?_) fun r s' ⟨e, H, S', tk', m, ys, Hr, _, eH, hI⟩ => ?_
    · rintro i x H Z' hx ⟨m, ys, Hr, _, rfl, hI⟩
      exact fun s v S r => wpAny_mono (turn i x ys Hr Z' C acc hx hI s v (Weak.ns (m' := []) .here (fun _ _ e => by cases e) _ _ S) r) (fun _ s' p => p.mono fun _ H' q => Tr.post (Tr.mono q fun _ H'' ⟨m', ys', Hr', wk, hI'⟩ => ⟨_, wk, m', ys', Hr', .refl _ _, rfl, hI'⟩)) fun _ _ e => e
    · subst e eH
      exact fin s' ys Hr C acc m S' (tk.trans tk') hI
  obtain ⟨tg, gi, gf, ga⟩ := g
  dsimp only at hga
  subst hga
  refine codeAny_compStart_list (loop _ X) (up ?_)
  obtain ⟨o, ho, hp⟩ := X.at'
  exact T.self 0 o _ _ _ ho hp (loop _ X)

noncomputable def ScOk (sc : Scope) : Bool := sc.kind == .function && (sc.names.all fun x => x.2 != .cell && (x.2 != .local || sc.names.lookup x.1 == some .local))
theorem ScOk.get {sc : Scope} (h : ScOk sc = true) : sc.kind = .function ∧ (∀ x ∈ sc.names, x.2 = .local → sc.names.lookup x.1 = some .local) ∧ ∀ x ∈ sc.names, x.2 ≠ .cell := by
  unfold ScOk at h
  rw [Bool.and_eq_true, beq_iff_eq, List.all_eq_true] at h
  refine ⟨h.1, fun x hx e => ?_, fun x hx => ?_⟩
  · have := h.2 x hx
    rw [Bool.and_eq_true, Bool.or_eq_true, e] at this
    rcases this.2 with q | q
    · exact absurd q (by decide)
    · exact beq_iff_eq.mp q
  · have := h.2 x hx
    rw [Bool.and_eq_true] at this
    simpa using this.1

/-- a list comprehension as a value -/
theorem EV_LC {elt : Expr} {g : Comprehension} {gs : List Comprehension} {scope : Scope} {pos fp : Pos} (cl : List (Str × Addr)) (body : Addr → Addr → Sem Unit)
    (h : EV c A Z env g.iter H fun v H₁ => ∃ (l : List AV) (D : AHeap → Prop) (I : Nat → List AV → AHeap → Prop), Loop c A g.target v H₁ l D ∧ I 0 [] H₁ ∧ (∀ i ys Hr C acc m, I i ys Hr → D ((C, .ns m) :: (acc, .list ys) :: Hr)) ∧
      LCTurns c A (fun C => cEnv scope cl C env) body g.target l I ∧ ∀ ys Hr acc, I l.length ys Hr → Φ (.ref acc) ((acc, .list ys) :: Hr))
    (hturn : ∀ (it acc C : Addr), compTurn (.ListComp elt (g :: gs) scope pos) 0 (.ref it) (.ref acc) (cEnv scope cl C env) = (standAt g.iter.pos >>= fun _ => pyNext (.ref it) >>= fun r => match r with
      | none => pure (.done .next)
      | some v => letOwnedTupleGo g.target (.ref it) v >>= fun _ => assign g.target (cEnv scope cl C env) v >>= fun _ => body C acc >>= fun _ => again (.compLoop (.ListComp elt (g :: gs) scope pos) 0 (.ref it) (.ref acc) (cEnv scope cl C env))) := by intro _ _ _; with_unfolding_all rfl)
    (he : eval (.ListComp elt (g :: gs) scope pos) env = comprehension (.ListComp elt (g :: gs) scope pos) scope env fp (newList []) false (eval g.iter env) none := by with_unfolding_all rfl)
    (hga : g.is_async = 0 := by with_unfolding_all rfl) (hs : ∀ x, foldedSetIterable g.iter env x = pure x := by intro _; with_unfolding_all rfl) (hclos : closureFor scope env = pure cl := by with_unfolding_all rfl) (hsc : ScOk scope = true := by with_unfolding_all rfl) :
    EV c A Z env (.ListComp elt (g :: gs) scope pos) H Φ := fun s S => by
  rw [he]
  obtain ⟨h1, h2, h3⟩ := ScOk.get hsc
  refine comp_list (body := body) (n := 0) hga hs hclos h1 h2 h3 hturn S (Tr.mono h ?_)
  rintro v H₁ ⟨l, D, I, L, h0, hD, turn, fin⟩
  refine ⟨l, D, I, L, h0, hD, turn, fun s' ys Hr C acc m S' tk hI => ?_⟩
  obtain ⟨mm, hn, k⟩ := comp_end S'
  exact ⟨mm, hn, fun h' hs => ⟨.ref acc, _, .ref _, (k h' hs).1, tk.trans (k h' hs).2, fin ys Hr acc hI⟩⟩
/-- a list comprehension that goes to a name straight away -/
theorem EX_AssignLC {x : Str} {pos' spos : Pos} {rest : List Stmt} {elt : Expr} {g : Comprehension} {gs : List Comprehension} {scope : Scope} {pos fp : Pos} {Φ : AF → AHeap → Prop} (cl : List (Str × Addr)) (body : Addr → Addr → Sem Unit)
    (h : EV c A Z env g.iter H fun v H₁ => ∃ (l : List AV) (D : AHeap → Prop) (I : Nat → List AV → AHeap → Prop), Loop c A g.target v H₁ l D ∧ I 0 [] H₁ ∧ (∀ i ys Hr C acc m, I i ys Hr → D ((C, .ns m) :: (acc, .list ys) :: Hr)) ∧
      LCTurns c A (fun C => cEnv scope cl C env) body g.target l I ∧ ∀ ys Hr acc, I l.length ys Hr → ∃ m m' Hr', Put env.locals (.ns m) (.ns m') Hr Hr' ∧ NPut m x (.ref acc) m' ∧ EX c A Z env rest ((acc, .list ys) :: Hr') Φ)
    (hturn : ∀ (it acc C : Addr), compTurn (.ListComp elt (g :: gs) scope pos) 0 (.ref it) (.ref acc) (cEnv scope cl C env) = (standAt g.iter.pos >>= fun _ => pyNext (.ref it) >>= fun r => match r with
      | none => pure (.done .next)
      | some v => letOwnedTupleGo g.target (.ref it) v >>= fun _ => assign g.target (cEnv scope cl C env) v >>= fun _ => body C acc >>= fun _ => again (.compLoop (.ListComp elt (g :: gs) scope pos) 0 (.ref it) (.ref acc) (cEnv scope cl C env))) := by intro _ _ _; with_unfolding_all rfl)
    (hsw : swapsWith (.ListComp elt (g :: gs) scope pos) (some (.Name x pos')) spos.line env = pure true := by with_unfolding_all rfl)
    (he : evalThenUse (.ListComp elt (g :: gs) scope pos) env (assign (.Name x pos') env) = (do let _ ← comprehension (.ListComp elt (g :: gs) scope pos) scope env fp (newList []) false (eval g.iter env) (some (assign (.Name x pos') env))) := by with_unfolding_all rfl)
    (hl : env.kindOf x = some .local := by with_unfolding_all rfl) (hp : (env.scope.kind == .class || (env.scope.kind == .module && env.locals != env.globals)) = false := by with_unfolding_all rfl)
    (hga : g.is_async = 0 := by with_unfolding_all rfl) (hs : ∀ x, foldedSetIterable g.iter env x = pure x := by intro _; with_unfolding_all rfl) (hclos : closureFor scope env = pure cl := by with_unfolding_all rfl) (hsc : ScOk scope = true := by with_unfolding_all rfl) :
    EX c A Z env (.Assign [.Name x pos'] (.ListComp elt (g :: gs) scope pos) spos :: rest) H Φ := EX_cons fun s S => by
  rw [exec_Assign_Name_used x pos' _ spos hsw, he]
  obtain ⟨h1, h2, h3⟩ := ScOk.get hsc
  refine wpAny_bind (wpAny_standAt (wpAny_bind (wpAny_bind (comp_list (body := body) (n := 0) (Q := fun _ s' => wpAny _ A (pure ()) (fun _ s'' => wpAny _ A (pure Flow.next) (Post c Z FR s _) no s'') no s') hga hs hclos h1 h2 h3 hturn S (Tr.mono h ?_)))))
  rintro v H₁ ⟨l, D, I, L, h0, hD, turn, fin⟩
  refine ⟨l, D, I, L, h0, hD, turn, fun s' ys Hr C acc m S' tk hI => ?_⟩
  obtain ⟨m₁, m₂, Hr', P, np, ex⟩ := fin ys Hr acc hI
  have q : SN c A Z env x (.ref acc) ((C, .ns m) :: (acc, .list ys) :: Hr) fun H₂ => H₂ = (C, .ns m) :: (acc, .list ys) :: Hr' := SN_local hl (.there (.there P)) np rfl rfl hp
  refine wpAny_assign_Name (bq (q s' (.ref acc) S' (.ref _)) fun _ _ H₂ s'' _ S'' tk' e => ?_)
  subst e
  obtain ⟨mm, hn, k⟩ := comp_end S''
  exact ⟨mm, hn, fun h' hs => wpAny_pure (wpAny_pure ⟨.next, _, .next, (k h' hs).1, (tk.trans tk').trans (k h' hs).2, ex⟩)⟩

/-- the inner clause of two -/
theorem comp_inner {elt : Expr} {g0 g : Comprehension} {scope : Scope} {pos : Pos} {cenv : Env} {acc : Addr} {Ψ : Unit → AHeap → Prop}
    (h : EV c A Z cenv g.iter H fun v H₁ => ∃ (l : List AV) (D : AHeap → Prop) (I : Nat → AHeap → Prop), Loop c A g.target v H₁ l D ∧ I 0 H₁ ∧ (∀ i H, I i H → D H) ∧
      (∀ i x H Z, l[i]? = some x → I i H → AT c A Z cenv g.target x H fun H' => EV c A Z cenv elt H' fun y H'' => ∃ ys H₃, Put acc (.list ys) (.list (ys ++ [y])) H'' H₃ ∧ ys.length ≤ 1000000 ∧ I (i + 1) H₃) ∧ ∀ H, I l.length H → Ψ () H)
    (hturn : ∀ (it : Addr), compTurn (.ListComp elt [g0, g] scope pos) 1 (.ref it) (.ref acc) cenv = (standAt g.iter.pos >>= fun _ => pyNext (.ref it) >>= fun r => match r with
      | none => pure (.done .next)
      | some v => letOwnedTupleGo g.target (.ref it) v >>= fun _ => assign g.target cenv v >>= fun _ => (eval elt cenv >>= fun x => call (.builtin "list.append") [.ref acc, x] >>= fun _ => (pure () : Sem Unit)) >>= fun _ => again (.compLoop (.ListComp elt [g0, g] scope pos) 1 (.ref it) (.ref acc) cenv)) := by intro _; with_unfolding_all rfl)
    (hga : g.is_async = 0 := by with_unfolding_all rfl) (hs : ∀ x, foldedSetIterable g.iter cenv x = pure x := by intro _; with_unfolding_all rfl) :
    Tr c A Z relU (eval g.iter cenv >>= fun x => standAt g.iter.pos >>= fun _ => foldedSetIterable g.iter cenv x >>= fun x => holding [x] (pyIter x) >>= fun it => runOwn (.compStart (.ListComp elt [g0, g] scope pos) 1 it (.ref acc) cenv) cenv >>= fun _ => (pure () : Sem Unit)) H Ψ := fun s S => by
  refine wpAny_bind (bq (h s S) fun v y H₁ s₁ r S₁ tk ⟨l, D, I, ⟨P, T, G⟩, h0, hD, turn, fin⟩ => wpAny_bind (wpAny_standAt (wpAny_bind (wpAny_of_eq (hs v) (wpAny_bind (wpAny_holding (G Z s₁ v _ S₁ r fun o hp hf => ?_)))))))
  have X := LS.start (D := D) (I := I) S₁ tk hp hf h0
  generalize s₁.heap.objs.size = it at X ⊢
  generalize ({ s₁ with heap := s₁.heap.push o } : Shared) = s₂ at X ⊢
  refine wpAny_bind (wpAny_runOwn ?_)
  have loop : codeAny (model c.prog c.w) A (.compLoop (.ListComp elt [g0, g] scope pos) 1 (.ref it) (.ref acc) cenv) (fun r s' => match r with
      | .ok f => wpAny (model c.prog c.w) A (pure ()) (Post c Z relU s Ψ) no s' | .error e => cameBackBy (model c.prog c.w) A cenv no e s') s₂ := by
    refine codeAny_mono (comp_loop (hturn it) X T hD fun i x H Z hx hI => ?_) fun r s' ⟨e, H, S', tk', hI⟩ => ?_
    · exact fun s v S r => wpAny_mono (turn i x H Z hx hI s v S r) (fun _ s' p => p.mono fun _ H' q => emit_list q) fun _ _ e => e
    · subst e
      exact wpAny_pure ⟨(), H, trivial, S', tk', fin H hI⟩
  obtain ⟨o', ho', hp'⟩ := X.at'
  refine codeAny_of_tree ?_
  show wpAny _ A ((compStart (.ListComp elt [g0, g] scope pos) 1 (.ref it) (.ref acc) cenv).onRaise (fun x => do noteFrame x cenv; standAt theWindowsPlace)) _ _ s₂
  refine wpAny_notedAt (up ?_)
  obtain ⟨tg, gi, gf, ga⟩ := g
  dsimp only at hga
  subst hga
  unfold compStart
  show wpAny _ _ (ask >>= _) _ _ s₂
  refine wpAny_bind (wpAny_askSetting (wpAny_ite ?_))
  split
  · first
      | exact wpAny_bind (wpAny_pure (wpAny_pure (And.intro rfl loop)))
      | exact wpAny_pure (And.intro rfl loop)
  · refine wpAny_bind (wpAny_rule ?_)
    show wpAny _ _ (standAt gi.pos >>= _) _ _ s₂
    exact wpAny_bind (wpAny_standAt (wpAny_bind (T.self 0 o' _ _ _ ho' hp' (wpAny_pure (And.intro rfl loop)))))
end
end Mine
end
section
open PySem PySem.W PySem.Calls PyProof.Rows
set_option Elab.async false
set_option maxRecDepth 100000
set_option linter.unusedVariables false
namespace Mine

section
variable {c : Cx} {A : Around} {Z : List (Addr × Obj)} {H H' : AHeap} {env : Env} {Φ : AV → AHeap → Prop} {n : Nat}

theorem comp_dict {ke ve : Expr} {g : Comprehension} {scope : Scope} {pos fp p : Pos} {first : Sem Value} {cl : List (Str × Addr)} {use : Option (Value → Sem Unit)} {Q : Value → Shared → Prop} {s : Shared}
    (hga : g.is_async = 0) (hs : ∀ x, foldedSetIterable g.iter env x = pure x) (hclos : closureFor scope env = pure cl) (hkind : scope.kind = .function) (hnames : ∀ x ∈ scope.names, x.2 = .local → scope.names.lookup x.1 = some .local) (hcell : ∀ x ∈ scope.names, x.2 ≠ .cell)
    (hturn : ∀ (it acc C : Addr), compTurn (.DictComp ke ve [g] scope pos) 0 (.ref it) (.ref acc) (cEnv scope cl C env) = (standAt g.iter.pos >>= fun _ => pyNext (.ref it) >>= fun r => match r with
      | none => pure (.done .next)
      | some v => letOwnedTupleGo g.target (.ref it) v >>= fun _ => assign g.target (cEnv scope cl C env) v >>= fun _ => (eval ke (cEnv scope cl C env) >>= fun kv => holding [kv] (eval ve (cEnv scope cl C env)) >>= fun vv => standAt p >>= fun _ => holding [kv, vv] (dictSet acc kv vv)) >>= fun _ => again (.compLoop (.DictComp ke ve [g] scope pos) 0 (.ref it) (.ref acc) (cEnv scope cl C env))))
    (S : Sta c Z H s)
    (h : Tr c A Z VR first H fun v H₁ => ∃ (l : List AV) (D : AHeap → Prop) (I : Nat → List (Int × AV) → AHeap → Prop), Loop c A g.target v H₁ l D ∧ I 0 [] H₁ ∧ (∀ i es Hr C acc m, I i es Hr → D ((C, .ns m) :: (acc, .idict es) :: Hr)) ∧
      (∀ i x es Hr Z C acc, l[i]? = some x → I i es Hr → AT c A Z (cEnv scope cl C env) g.target x ((C, .ns []) :: (acc, .idict es) :: Hr) fun H₁ => EV c A Z (cEnv scope cl C env) ke H₁ fun x H₂ => EV c A Z (cEnv scope cl C env) ve H₂ fun y H₃ =>
        ∃ (k : Int) (m' : List (Str × AV)) (Hr' : AHeap), x = .int k ∧ Weak c H₃ ((C, .ns m') :: (acc, .idict es) :: Hr') ∧ es.length ≤ 1000000 ∧ I (i + 1) (kput es k y) Hr') ∧
      ∀ s' es Hr C acc m, Sta c Z ((C, .ns m) :: (acc, .idict es) :: Hr) s' → TK s.heap s'.heap → I l.length es Hr → compPost (model c.prog c.w) A no use Q (.ref acc) C (.ok .next) s') :
    wpAny (model c.prog c.w) A (comprehension (.DictComp ke ve [g] scope pos) scope env fp newDict false first use) Q no s := by
  refine comp_start (o₀ := .idict []) (ob₀ := { cls := .type "dict", data := .dict #[] }) rfl hs hclos hkind hnames hcell (fun s Q q => wpAny_newObj_type q) rfl (fun h a e => ?_) S (Tr.mono h ?_)
  · refine ⟨[], ?_, .nil⟩
    exact ⟨_, _, _, e, ⟨rfl, rfl, rfl⟩, rfl, fun e he => by simp at he, .nil, .nil⟩
  rintro v H₁ ⟨l, D, I, L, h0, hD, turn, fin⟩
  refine ⟨l, D, L, fun it acc C s₁ P h₀ T X tk => ?_⟩
  have loop : ∀ s₂, LS c Z (fun _ => True) P (fun _ _ => True) it h₀ 0 ((C, .ns []) :: (acc, .idict []) :: H₁) s₂ → codeAny (model c.prog c.w) A (.compLoop (.DictComp ke ve [g] scope pos) 0 (.ref it) (.ref acc) (cEnv scope cl C env)) (compPost (model c.prog c.w) A no use Q (.ref acc) C) s₂ := fun s₂ X => by
    refine codeAny_mono (comp_loopD (D := D) (I := fun i H => ∃ m es Hr, H = (C, .ns m) :: (acc, .idict es) :: Hr ∧ I i es Hr) (hturn it acc C)
      ⟨X.sta, X.tk, ⟨[], [], H₁, rfl, h0⟩, X.off, X.offZ, X.offB, X.at'⟩ T (fun i H ⟨m, es, Hr, e, hI⟩ => e ▸ hD i es Hr C acc m hI) ?_) fun r s' ⟨e, H, S', tk', m, es, Hr, eH, hI⟩ => ?_
    · rintro i x H Z' hx ⟨m, es, Hr, rfl, hI⟩
      refine fun s v S r => wpAny_mono (turn i x es Hr Z' C acc hx hI s v (Weak.ns (m' := []) .here (fun _ _ e => by cases e) _ _ S) r) (fun _ s' p => p.mono fun _ H' q => emit_dict (Tr.mono q fun kx H₂ q₂ => Tr.post (Tr.mono q₂ fun y H₃ ⟨k, m', Hr', e, wk, hz, hI'⟩ => ?_))) fun _ _ e => e
      exact ⟨_, wk, k, es, _, e, .there .here, hz, m', _, Hr', rfl, hI'⟩
    · subst e eH
      exact fin s' es Hr C acc m S' (tk.trans tk') hI
  obtain ⟨tg, gi, gf, ga⟩ := g
  dsimp only at hga
  subst hga
  refine codeAny_compStart_dict (loop _ X) (up ?_)
  obtain ⟨o, ho, hp⟩ := X.at'
  exact T.self 0 o _ _ _ ho hp (loop _ X)
theorem EX_AssignDC {x : Str} {pos' spos p : Pos} {rest : List Stmt} {ke ve : Expr} {g : Comprehension} {scope : Scope} {pos fp : Pos} {Φ : AF → AHeap → Prop} (cl : List (Str × Addr))
    (h : EV c A Z env g.iter H fun v H₁ => ∃ (l : List AV) (D : AHeap → Prop) (I : Nat → List (Int × AV) → AHeap → Prop), Loop c A g.target v H₁ l D ∧ I 0 [] H₁ ∧ (∀ i es Hr C acc m, I i es Hr → D ((C, .ns m) :: (acc, .idict es) :: Hr)) ∧
      (∀ i x es Hr Z C acc, l[i]? = some x → I i es Hr → AT c A Z (cEnv scope cl C env) g.target x ((C, .ns []) :: (acc, .idict es) :: Hr) fun H₁ => EV c A Z (cEnv scope cl C env) ke H₁ fun x H₂ => EV c A Z (cEnv scope cl C env) ve H₂ fun y H₃ =>
        ∃ (k : Int) (m' : List (Str × AV)) (Hr' : AHeap), x = .int k ∧ Weak c H₃ ((C, .ns m') :: (acc, .idict es) :: Hr') ∧ es.length ≤ 1000000 ∧ I (i + 1) (kput es k y) Hr') ∧
      ∀ es Hr acc, I l.length es Hr → ∃ m m' Hr', Put env.locals (.ns m) (.ns m') Hr Hr' ∧ NPut m x (.ref acc) m' ∧ EX c A Z env rest ((acc, .idict es) :: Hr') Φ)
    (hturn : ∀ (it acc C : Addr), compTurn (.DictComp ke ve [g] scope pos) 0 (.ref it) (.ref acc) (cEnv scope cl C env) = (standAt g.iter.pos >>= fun _ => pyNext (.ref it) >>= fun r => match r with
      | none => pure (.done .next)
      | some v => letOwnedTupleGo g.target (.ref it) v >>= fun _ => assign g.target (cEnv scope cl C env) v >>= fun _ => (eval ke (cEnv scope cl C env) >>= fun kv => holding [kv] (eval ve (cEnv scope cl C env)) >>= fun vv => standAt p >>= fun _ => holding [kv, vv] (dictSet acc kv vv)) >>= fun _ => again (.compLoop (.DictComp ke ve [g] scope pos) 0 (.ref it) (.ref acc) (cEnv scope cl C env))) := by intro _ _ _; with_unfolding_all rfl)
    (hsw : swapsWith (.DictComp ke ve [g] scope pos) (some (.Name x pos')) spos.line env = pure true := by with_unfolding_all rfl)
    (he : evalThenUse (.DictComp ke ve [g] scope pos) env (assign (.Name x pos') env) = (do let _ ← comprehension (.DictComp ke ve [g] scope pos) scope env fp newDict false (eval g.iter env) (some (assign (.Name x pos') env))) := by with_unfolding_all rfl)
    (hl : env.kindOf x = some .local := by with_unfolding_all rfl) (hp : (env.scope.kind == .class || (env.scope.kind == .module && env.locals != env.globals)) = false := by with_unfolding_all rfl)
    (hga : g.is_async = 0 := by with_unfolding_all rfl) (hs : ∀ x, foldedSetIterable g.iter env x = pure x := by intro _; with_unfolding_all rfl) (hclos : closureFor scope env = pure cl := by with_unfolding_all rfl) (hsc : ScOk scope = true := by with_unfolding_all rfl) :
    EX c A Z env (.Assign [.Name x pos'] (.DictComp ke ve [g] scope pos) spos :: rest) H Φ := EX_cons fun s S => by
  rw [exec_Assign_Name_used x pos' _ spos hsw, he]
  obtain ⟨h1, h2, h3⟩ := ScOk.get hsc
  refine wpAny_bind (wpAny_standAt (wpAny_bind (wpAny_bind (comp_dict (p := p) (Q := fun _ s' => wpAny _ A (pure ()) (fun _ s'' => wpAny _ A (pure Flow.next) (Post c Z FR s _) no s'') no s') hga hs hclos h1 h2 h3 hturn S (Tr.mono h ?_)))))
  rintro v H₁ ⟨l, D, I, L, h0, hD, turn, fin⟩
  refine ⟨l, D, I, L, h0, hD, turn, fun s' es Hr C acc m S' tk hI => ?_⟩
  obtain ⟨m₁, m₂, Hr', P, np, ex⟩ := fin es Hr acc hI
  have q : SN c A Z env x (.ref acc) ((C, .ns m) :: (acc, .idict es) :: Hr) fun H₂ => H₂ = (C, .ns m) :: (acc, .idict es) :: Hr' := SN_local hl (.there (.there P)) np rfl rfl hp
  refine wpAny_assign_Name (bq (q s' (.ref acc) S' (.ref _)) fun _ _ H₂ s'' _ S'' tk' e => ?_)
  subst e
  obtain ⟨mm, hn, k⟩ := comp_end S''
  exact ⟨mm, hn, fun h' hs => wpAny_pure (wpAny_pure ⟨.next, _, .next, (k h' hs).1, (tk.trans tk').trans (k h' hs).2, ex⟩)⟩

/-- items and values -/
theorem pinI_at {h : Heap} {d : Addr} {es : List (Int × AV)} {ob : Obj} (x : Owns c h d (.pidict es ob)) : ∃ kvs ee ep, ob.data = .dict ee ep ∧ h.DictAt (IK c) d kvs ep ∧ A2 (fun p q => p.1 = q.1 ∧ VR h p.2 q.2) kvs es := by
  obtain ⟨hob, kvs, ⟨o', es', ep', ho', hex, hdat, hk, hp, hn⟩, ha⟩ := x
  rw [hob] at ho'; cases ho'
  exact ⟨kvs, es', ep', hdat, ⟨ob, es', hob, hex, hdat, hk, hp, hn⟩, ha⟩
theorem Loop.values {target : Expr} {v d : Addr} {es : List (Int × AV)} {ob : Obj} (hA : Ar A n) (tg : TgOk target) (hv : (v, .view "dict_values" d) ∈ H) (h : (d, .pidict es ob) ∈ H) : Loop c A target (.ref v) H (es.map (·.2)) (fun H => (d, .pidict es ob) ∈ H) := by
  refine ⟨fun i o => o.cls = .type "dict_valueiterator" ∧ ∃ ee ep, ob.data = .dict ee ep ∧ o.data = .fields #[.ref d, .int i 0, .int es.length 0, .int ep 0], Itr.of (T := "dict_valueiterator") tg (by decide) (by decide) (fun _ _ p => p.1)
    (fun i o s it Q ho p hQ => by obtain ⟨h1, ee, ep, _, h2⟩ := p; exact wpAny_pyIter_valiter ⟨o, ho, h1, h2⟩ hQ) ?_ ?_, ?_⟩
  · intro Z H i o s it x Q S hd off ho ⟨h1, ee, ep, h2, h3⟩ e m
    obtain ⟨kvs, ee', ep', h4, hm, ha⟩ := pinI_at (S.owns _ hd)
    rw [h2] at h4; cases h4
    obtain ⟨q, hq, rfl⟩ : ∃ q, es[i]? = some q ∧ q.2 = x := by simpa using e
    obtain ⟨p, hp, _, r⟩ := ha.get hq
    rw [← ha.len] at h3
    refine wpAny_pyNext_values_item (knd := IK c) (kvs := kvs) (k := p.1) (v := p.2) ⟨o, ho, h1, h3⟩ hm hp fun h' hi hs => ?_
    exact m _ h' s.toks hs.extBut (r.mono (.but ho (notTup_cls h1 (by decide)) hs.extBut)) (by obtain ⟨o', q1, q2, q3⟩ := hi; exact ⟨o', q1, q2, ee, ep, h2, by rw [← ha.len]; exact q3⟩)
  · intro Z H i o s it Q S hd off ho ⟨h1, ee, ep, h2, h3⟩ e m
    obtain ⟨kvs, ee', ep', h4, hm, ha⟩ := pinI_at (S.owns _ hd)
    rw [h2] at h4; cases h4
    rw [← ha.len] at h3
    have := List.getElem?_eq_none_iff.mp e
    rw [List.length_map, ← ha.len] at this
    exact wpAny_pyNext_values_end (knd := IK c) hA.hd ⟨o, ho, h1, h3⟩ hm (List.getElem?_eq_none_iff.mpr this) m
  · intro Z s val Q S r m
    rw [r.ref_inv]
    obtain ⟨kvs, ee, ep, h4, hm, ha⟩ := pinI_at (S.owns _ h)
    exact wpAny_pyIter_values (knd := IK c) ⟨_, S.owns _ hv, rfl, rfl⟩ hm (m _ ⟨rfl, ee, ep, h4, by rw [ha.len]; rfl⟩ rfl)
theorem Loop.items {e1 e2 : Str} {p1 p2 p3 : Pos} {k3} {v d : Addr} {es : List (Int × AV)} {ob : Obj} (hA : Ar A n) (hv : (v, .view "dict_items" d) ∈ H) (h : (d, .pidict es ob) ∈ H) :
    Loop c A (.Tuple [.Name e1 p1, .Name e2 p2] k3 p3) (.ref v) H (es.map fun q => .tup [.int q.1, q.2]) (fun H => (d, .pidict es ob) ∈ H) := by
  refine ⟨fun i o => ∃ ee ep ok ov, ob.data = .dict ee ep ∧ o = { cls := .type "dict_itemiterator", dict := none, data := .fields #[.none, .bool false, .ref d, .int i 0, .int es.length 0, .int ep 0, ok, ov], slots := #[] }, ⟨?_, ?_, ?_⟩, ?_⟩
  · rintro i o ⟨ee, ep, ok, ov, _, rfl⟩
    exact notTup_cls rfl (by decide)
  · rintro i o s it Q ho ⟨ee, ep, ok, ov, _, rfl⟩ hQ
    exact kcp_self ho hQ
  · rintro Z H i o s it S hd off offZ offB ho ⟨ee, ep, ok, ov, h2, rfl⟩
    obtain ⟨kvs, ee', ep', h4, hm, ha⟩ := pinI_at (S.owns _ hd)
    rw [h2] at h4; cases h4
    have nt : ¬ IsTupO ({ cls := .type "dict_itemiterator", dict := none, data := .fields #[.none, .bool false, .ref d, .int i 0, .int es.length 0, .int ep 0, ok, ov], slots := #[] } : Obj) := notTup_cls rfl (by decide)
    have ho' := ho
    rw [← ha.len] at ho'
    cases e : kvs[i]? with
    | none =>
      have e' : (es.map fun q => AV.tup [.int q.1, q.2])[i]? = none := by
        rw [List.getElem?_eq_none_iff] at e ⊢
        rw [List.length_map, ← ha.len]; exact e
      rw [e']
      exact wpAny_pyNext_items_end (knd := IK c) hA.hd ho' hm e fun h' hx => ⟨rfl, S.turn ho nt off offZ offB hx s.toks, .but ho nt hx⟩
    | some kv =>
      obtain ⟨k, vv⟩ := kv
      have hlt : i < es.length := by rw [← ha.len]; exact (List.getElem?_eq_some_iff.mp e).1
      obtain ⟨q, hq⟩ : ∃ q, es[i]? = some q := ⟨_, List.getElem?_eq_getElem hlt⟩
      obtain ⟨p, hp, e1, r⟩ := ha.get hq
      rw [e] at hp; cases hp
      dsimp only at e1 r
      refine wpAny_pyNext_items_item (knd := IK c) ho' hm e fun key h' hk hi ht hz hkeep => ?_
      obtain ⟨t, rfl⟩ := Value.isInt_shape hk
      have e' : (es.map fun q => AV.tup [.int q.1, q.2])[i]? = some (.tup [.int q.1, q.2]) := by simp [hq]
      refine ⟨_, e', ?_⟩
      have S₁ := S.turn ho nt off offZ offB hkeep s.toks
      have tk₁ : TK s.heap h' := .but ho nt hkeep
      have hne : s.heap.objs.size ≠ it := (Nat.ne_of_lt (Heap.lt_size ho)).symm
      refine wpAny_letOwnedTupleGo_items hi fun h'' hi' hs => ?_
      have nt' : ¬ IsTupO ({ cls := .type "dict_itemiterator", dict := none, data := .fields #[rawInt s.heap.objs.size, .bool false, .ref d, .int ((i + 1 : Nat) : Int) 0, .int kvs.length 0, .int ep 0, .int k t, vv], slots := #[] } : Obj) := notTup_cls rfl (by decide)
      have tk₂ : TK h' h'' := .but hi nt' hs.extBut
      refine ⟨?_, S₁.turn hi nt' off offZ offB hs.extBut s.toks, tk₁.trans tk₂, _, hi', ee, ep, _, _, h2, by rw [ha.len]⟩
      refine .tup (vs := [.int k t, vv]) ((hs.extBut _ _ hne ht)) (.cons ?_ (.cons (r.mono (tk₁.trans tk₂)) .nil))
      rw [← e1]; exact .int _ _
  · intro Z s val Q S r m
    rw [r.ref_inv]
    obtain ⟨kvs, ee, ep, h4, hm, ha⟩ := pinI_at (S.owns _ h)
    exact wpAny_pyIter_items (knd := IK c) ⟨_, S.owns _ hv, rfl, rfl⟩ hm (m _ ⟨ee, ep, _, _, h4, by rw [ha.len]; rfl⟩ rfl)
end
end Mine
end
section
open PySem PySem.W PySem.Calls PyProof.Rows
set_option Elab.async false
set_option maxRecDepth 100000
set_option linter.unusedVariables false
namespace Mine

section
variable {c : Cx} {A : Around} {Z : List (Addr × Obj)} {H H' : AHeap} {env : Env} {Φ : AV → AHeap → Prop} {n : Nat}

theorem Ar.make {C : Addr} {vs : List Value} {kv : List (Str × Value)} (h : Ar A (n + 1)) : Ar (A.under (.builtin "type.__call__" ⟨.ref C :: vs, kv⟩)) n :=
  ⟨h.hd, by have := h.dp; show A.depth + 1 + 3 * n < recursionLimit; omega, by
    have := h.un
    have e : (A.under (.builtin "type.__call__" ⟨.ref C :: vs, kv⟩)).units ≤ A.units + 8 := by
      show A.units + (Code.builtin "type.__call__" ⟨.ref C :: vs, kv⟩).cUnits ≤ _
      have : (Code.builtin "type.__call__" ⟨.ref C :: vs, kv⟩).cUnits ≤ 8 := by
        have e : (Code.builtin "type.__call__" ⟨.ref C :: vs, kv⟩).cUnits = 1 := rfl
        omega
      omega
    omega⟩
/-- an object of an own class -/
theorem CodeT.make {C fI : Addr} {as : List AV} {ks : List (Str × AV)} (hA : Ar A (n + 1)) (hm : makesIn c.K C = true) (hi : findIn c.K (.ref C) "__init__" = some (some (.ref fI))) (hf : isFn c.K (.ref fI) = true)
    (h : ∀ x dx A', Ar A' n → CodeT c A' Z (.ref fI) (.ref x :: as) ks ((x, .inst C dx) :: (dx, .attrs []) :: H) fun v H' => v = .none ∧ Φ (.ref x) H') : CodeT c A Z (.ref C) as ks H Φ := fun s fv vs kv S r1 r2 r3 => by
  rw [r1.ref_inv]
  obtain ⟨hh, g, d, t, os⟩ := s
  refine make_core (makes_of S.K hm) (looks_findIn S.K hi) (fun self => bind_fn S.K self (beq_iff_eq.mp hf)) (.inl rfl) ?_
  have k1 : ∀ b o, hh.get? b = some o → (hh.push emptyDict).get? b = some o := fun _ _ e => Heap.get?_push_of_some _ e
  have S₁ := S.new (o := .attrs []) (fresh_size hh) k1 ⟨[], 0, Heap.get?_push_size _ rfl, .nil⟩ t
  have k2 : ∀ b o, (hh.push emptyDict).get? b = some o → ((hh.push emptyDict).push (instObj C hh.objs.size)).get? b = some o := fun _ _ e => Heap.get?_push_of_some _ e
  have S₂ := S₁.new (o := .inst C hh.objs.size) (fresh_size (hh.push emptyDict)) k2 (Heap.get?_push_size _ rfl) t
  rw [Heap.size_push] at S₂
  have tk : TK hh ((hh.push emptyDict).push (instObj C hh.objs.size)) := .of_keep fun b o e => k2 _ _ (k1 _ _ e)
  have r := h (hh.objs.size + 1) hh.objs.size _ (hA.make (C := C) (vs := vs) (kv := kv)) _ (.ref fI) (.ref (hh.objs.size + 1) :: vs) kv S₂ (.ref _) (.cons (.ref _) (r2.mono tk)) (r3.mono fun _ _ q => ⟨q.1, q.2.mono tk⟩)
  refine codeAny_mono r fun r s' q => ?_
  rcases r with e | (v | _ | _ | _) <;> first | exact q.elim | skip
  obtain ⟨y, H', ry, S', tk', e, hΦ⟩ := q
  subst e
  exact ⟨ry.none_inv, ⟨.ref _, H', .ref _, S', tk.trans tk', hΦ⟩⟩

/-- a property -/
theorem get_property {a d C p fget : Addr} {m : List (Str × AV)} {name : Str} {rest : List Value} {ex : Bool} (h1 : (a, .inst C d) ∈ H) (h2 : (d, .attrs m) ∈ H) (hg : plainGet c.K C name = true) (hh : hasDictIn c.K C = true)
    (ha : findIn c.K (.ref C) name = some (some (.ref p))) (hn : specialIn c.K (.ref p) "__get__" = some (some (.builtin "property.__get__"))) (ht : takesIn c.K (.ref p) = some true) (hp : recIn c.K p "property" = some (.ref fget :: rest))
    (h : CodeT c A.in1 Z (.ref fget) [.ref a] [] H fun v H' => (∀ x, v ≠ .con x) ∧ Φ v H') : Op1 c A Z (fun o => getAttr o name ex) VR (.ref a) H Φ := fun s o S ro => by
  rw [ro.ref_inv]
  obtain ⟨es, n, I, hd, hat⟩ := inst_at S h1 h2
  refine get_bind S.K I (plainGet_of hg).1 (findObj_data (by obtain ⟨cd, hc, _⟩ := any_some hh; rw [hc]; rfl) ha hn ht) (plainGet_of hg).2 (wpAny_call (prop_get (s := { s with toks := s.toks + 1 }) S.K hp ?_))
  refine codeAny_mono (h { s with toks := s.toks + 1 } (.ref fget) [.ref a] [] (S.tok _) (.ref _) (.cons (.ref _) .nil) .nil) fun r s' q => ?_
  rcases r with e | (v | _ | _ | _) <;> first | exact q.elim | skip
  obtain ⟨y, H', ry, S', tk', hc, hΦ⟩ := q
  exact handed_on (handed_of ry hc) ⟨y, H', ry, S', tk', hΦ⟩
theorem Ar.in1' {n : Nat} (h : Ar A (n + 1)) : Ar A.in1 n := ⟨h.hd, by have := h.dp; show A.depth + 3 * n < recursionLimit; omega, by have := h.un; show A.units + 1 + 32 * n + 64 < cLine; omega⟩
end
end Mine
end
section
open PySem PySem.W PySem.Calls PyProof.Rows
set_option Elab.async false
set_option maxRecDepth 100000
set_option maxHeartbeats 4000000
set_option linter.unusedVariables false
namespace Mine

theorem dq_plainAttrs : PlainAttrs "collections.deque" :=
  ⟨⟨"collections.deque.__getattribute__", by rw [typeLookup_type, builtinLookup_eq_fast]; kernel_rfl, by decide +kernel⟩, by rw [typeLookup_type, builtinLookup_eq_fast]; kernel_rfl⟩
theorem dq_owner : Manifest.owners.lookup (String.ofList ['e', 'u', 'q', 'e', 'd', '.', 's', 'n', 'o', 'i', 't', 'c', 'e', 'l', 'l', 'o', 'c'].reverse) = some Manifest.sig_collections_deque := by kernel_rfl
theorem dq_slot_append : Slot "collections.deque" "append" "collections.deque.append" :=
  .of (owner := "collections.deque") (n := "append") (by rw [typeLookup_type, builtinLookup_eq_fast]; kernel_rfl) (by decide +kernel) (by decide +kernel) (by decide +kernel)
    (by first | exact .inl (by decide +kernel) | exact .inr (by decide +kernel)) (by rw [isSubtype_type]; kernel_rfl)
theorem dq_type_append : typeOf (.builtin "collections.deque.append") = pure (.type "method_descriptor") := by show builtinType _ = _; rw [builtinType_eq_fast]; kernel_rfl
theorem dq_entry_append : entryFor table "collections.deque.append" = some Builtin.«collections.deque.append» := entryFor_of_tree (by kernel_rfl)
theorem dq_args_append (a b : Value) : argsOk "collections.deque.append" ⟨[a, b], []⟩ := by
  unfold argsOk; rw [signature?_of (id := "collections.deque.append") (n := ['d', 'n', 'e', 'p', 'p', 'a']) (o := ['e', 'u', 'q', 'e', 'd', '.', 's', 'n', 'o', 'i', 't', 'c', 'e', 'l', 'l', 'o', 'c']) (by kernel_rfl) dq_owner]; kernel_rfl
theorem dq_slot_popleft : Slot "collections.deque" "popleft" "collections.deque.popleft" :=
  .of (owner := "collections.deque") (n := "popleft") (by rw [typeLookup_type, builtinLookup_eq_fast]; kernel_rfl) (by decide +kernel) (by decide +kernel) (by decide +kernel)
    (by first | exact .inl (by decide +kernel) | exact .inr (by decide +kernel)) (by rw [isSubtype_type]; kernel_rfl)
theorem dq_type_popleft : typeOf (.builtin "collections.deque.popleft") = pure (.type "method_descriptor") := by show builtinType _ = _; rw [builtinType_eq_fast]; kernel_rfl
theorem dq_entry_popleft : entryFor table "collections.deque.popleft" = some Builtin.«collections.deque.popleft» := entryFor_of_tree (by kernel_rfl)
theorem dq_args_popleft (a : Value) : argsOk "collections.deque.popleft" ⟨[a], []⟩ := by
  unfold argsOk; rw [signature?_of (id := "collections.deque.popleft") (n := ['t', 'f', 'e', 'l', 'p', 'o', 'p']) (o := ['e', 'u', 'q', 'e', 'd', '.', 's', 'n', 'o', 'i', 't', 'c', 'e', 'l', 'l', 'o', 'c']) (by kernel_rfl) dq_owner]; kernel_rfl
theorem dq_slot_len : Slot "collections.deque" "__len__" "collections.deque.__len__" :=
  .of (owner := "collections.deque") (n := "__len__") (by rw [typeLookup_type, builtinLookup_eq_fast]; kernel_rfl) (by decide +kernel) (by decide +kernel) (by decide +kernel)
    (by first | exact .inl (by decide +kernel) | exact .inr (by decide +kernel)) (by rw [isSubtype_type]; kernel_rfl)
theorem dq_entry_len : entryFor table "collections.deque.__len__" = some Builtin.«collections.deque.__len__» := entryFor_of_tree (by kernel_rfl)
theorem dq_args_len (a : Value) : argsOk "collections.deque.__len__" ⟨[a], []⟩ := by
  unfold argsOk; rw [signature?_of (id := "collections.deque.__len__") (n := ['_', '_', 'n', 'e', 'l', '_', '_']) (o := ['e', 'u', 'q', 'e', 'd', '.', 's', 'n', 'o', 'i', 't', 'c', 'e', 'l', 'l', 'o', 'c']) (by kernel_rfl) dq_owner]; kernel_rfl
theorem dq_noBool : typeLookup (.type "collections.deque") "__bool__" = pure none := by rw [typeLookup_type, builtinLookup_eq_fast]; kernel_rfl
theorem dq_slot_init : Slot "collections.deque" "__init__" "collections.deque.__init__" :=
  .of (owner := "collections.deque") (n := "__init__") (by rw [typeLookup_type, builtinLookup_eq_fast]; kernel_rfl) (by decide +kernel) (by decide +kernel) (by decide +kernel)
    (by first | exact .inl (by decide +kernel) | exact .inr (by decide +kernel)) (by rw [isSubtype_type]; kernel_rfl)
theorem dq_entry_init : entryFor table "collections.deque.__init__" = some Builtin.«collections.deque.__init__» := entryFor_of_tree (by kernel_rfl)
theorem dq_args_init (a : Value) : argsOk "collections.deque.__init__" ⟨[a], []⟩ := by
  unfold argsOk; rw [signature?_of (id := "collections.deque.__init__") (n := ['_', '_', 't', 'i', 'n', 'i', '_', '_']) (o := ['e', 'u', 'q', 'e', 'd', '.', 's', 'n', 'o', 'i', 't', 'c', 'e', 'l', 'l', 'o', 'c']) (by kernel_rfl) dq_owner]; kernel_rfl
theorem dq_mro : mroOf (.type "collections.deque") = pure [.type "collections.deque", .type "object"] := by rw [mroOf_type]; kernel_rfl
theorem dq_lookup_new : typeLookup (.type "collections.deque") "__new__" = pure (some (.builtin "collections.deque.__new__")) := by rw [typeLookup_type, builtinLookup_eq_fast]; kernel_rfl
theorem dq_called : TypeCalled "collections.deque" "collections.deque.__new__" "collections.deque.__init__" :=
  ⟨by decide +kernel, by decide +kernel, ⟨_, _, dq_mro⟩, madeBy_type dq_mro dq_lookup_new (by decide +kernel), by decide +kernel, by rw [isSubtype_type]; kernel_rfl, dq_slot_init⟩
theorem dq_typeCall : checkTypeCall "collections.deque" ⟨[], []⟩ = pure () := by kernel_rfl
theorem dq_newCall : checkBuiltinCall "collections.deque.__new__" ⟨[.type "collections.deque"], []⟩ = pure () := by kernel_rfl
theorem dq_entry_new : entryFor table "collections.deque.__new__" = some Builtin.«collections.deque.__new__» := entryFor_of_tree (by kernel_rfl)
theorem dq_plain_new : plainId "collections.deque.__new__" = true := by decide +kernel
theorem dq_sub : isSubtype (.type "collections.deque") (.type "collections.deque") = pure true := by rw [isSubtype_type]; kernel_rfl

end Mine
end
section
open PySem PySem.W PySem.Calls PyProof.Rows
set_option Elab.async false
set_option maxRecDepth 100000
set_option maxHeartbeats 4000000
set_option linter.unusedVariables false
namespace Mine

section
variable {c : Cx} {A : Around} {Z : List (Addr × Obj)} {H H' : AHeap} {env : Env} {Φ : AV → AHeap → Prop} {n : Nat}

theorem b_deque (h : ∀ a, Φ (.ref a) ((a, .deque []) :: H)) : OpC c A Z (.type "collections.deque") [] H Φ := .con fun s vs S r => by
  cases r
  refine callType_codes (Q₁ := fun obj s₁ => obj = .ref s.heap.objs.size ∧ s₁ = { s with heap := s.heap.push (dqObj [] 0) }) dq_called dq_typeCall dq_entry_init ?_ ?_
  · refine codeAny_call_builtin dq_plain_new dq_entry_new (wpAny_of_eq dq_newCall ?_)
    have hsub := dq_sub
    have hmro := dq_mro
    obtain ⟨hp, g, d, tk, os⟩ := s
    unfold Builtin.«collections.deque.__new__» Builtin.Deque.newArgs Builtin.Deque.new Builtin.Deque.ty
    wp_walk
    exact ⟨rfl, rfl⟩
  · rintro obj s₁ ⟨rfl, rfl⟩
    have hg : (s.heap.push (dqObj [] 0)).get? s.heap.objs.size = some (dqObj [] 0) := Heap.get?_push_size _ rfl
    refine ⟨⟨_, hg, rfl⟩, dq_args_init _, ?_⟩
    show wpAny _ _ (setField (.ref s.heap.objs.size) 0 .none >>= fun _ => Builtin.Deque.clear (.ref s.heap.objs.size) >>= fun _ => ret .none) _ _ _
    refine wpAny_bind (wpAny_setField_rec hg (by simp) fun h' hg' hs => ?_)
    unfold Builtin.Deque.clear Builtin.Deque.items
    refine wpAny_bind (wpAny_bind (wpAny_bind (wpAny_fieldsOf hg' rfl (wpAny_pure ?_))))
    show wpAny _ _ (pure ()) _ _ _
    refine wpAny_pure (wpAny_pure ⟨rfl, ?_⟩)
    have k : ∀ b o, s.heap.get? b = some o → h'.get? b = some o := fun b o e => hs.extBut b o (Nat.ne_of_lt (Heap.lt_size e)) (Heap.get?_push_of_some _ e)
    exact ⟨.ref _, _, .ref _, S.new (o := .deque []) (fresh_size _) k ⟨[], 0, hg', .nil⟩ s.toks, .of_keep k, h _⟩
theorem dq_update {a : Addr} {vs us : List Value} {m : Int} {f : Array Value → Array Value} {s : Shared} (hg : s.heap.get? a = some (dqObj vs m)) (hf : f vs.toArray = us.toArray) (hz : us.length ≤ 1000000)
    {Q : Unit → Shared → Prop} (h : ∀ h', h'.get? a = some (dqObj us (m + 1)) → Heap.SameBut a s.heap h' → Q () { s with heap := h' }) : wpAny (model c.prog c.w) A (Builtin.Deque.change (.ref a) f) Q no s := by
  unfold Builtin.Deque.change Builtin.Deque.state
  dsimp only
  refine wpAny_bind (wpAny_bind (wpAny_field hg rfl (x := .int m 0) (by simp) (wpAny_pure ?_)))
  have e : ((#[Value.none, .int m 0] ++ vs.toArray).extract 2 (#[Value.none, .int m 0] ++ vs.toArray).size) = vs.toArray := by
    apply Array.ext'; simp
  have e2 : (fun (vs : Array Value) => #[vs.getD 0 Value.none, rawInt (if true = true then m + 1 else m)] ++ f (vs.extract 2 vs.size)) (#[Value.none, .int m 0] ++ vs.toArray) = #[Value.none, .int (m + 1) 0] ++ us.toArray := by
    dsimp only
    rw [e, hf]
    simp [rawInt]
  dsimp only at e2
  refine wpAny_updateFields hg rfl ?_ (by rw [e2]; simp [sizeLine_eq]; omega)
  refine h _ ?_ (Heap.SameBut.update ..)
  rw [Heap.get?_update_self _ hg (Obj.isFreed_of_fields (Obj.data_mapFields rfl _))]
  refine congrArg some ?_
  have e3 : Obj.mapFields (fun (vs : Array Value) => #[vs.getD 0 Value.none, rawInt (if true = true then m + 1 else m)] ++ f (vs.extract 2 vs.size)) (dqObj vs m) = dqObj us (m + 1) := by
    unfold Obj.mapFields
    dsimp only
    rw [e2]
  exact e3
theorem dq_items {vs : List Value} {m : Int} : ((#[Value.none, .int m 0] ++ vs.toArray).extract 2 (#[Value.none, .int m 0] ++ vs.toArray).size) = vs.toArray := by
  apply Array.ext'; simp
theorem dq_isT {s : Shared} {a : Addr} {vs : List Value} {m : Int} (hg : s.heap.get? a = some (dqObj vs m)) : s.TypeIs (.ref a) "collections.deque" := ⟨_, hg, rfl⟩
theorem m_dqappend {a : Addr} {l : List AV} {x : AV} (P : Put a (.deque l) (.deque (l ++ [x])) H H') (hz : l.length ≤ 900000) (h : Φ .none H') : OpC c A Z (.builtin "collections.deque.append") [.ref a, x] H Φ := .con fun s vs S r => by
  obtain ⟨v, u, rfl, rv, ru⟩ := r.two
  rw [rv.ref_inv]
  obtain ⟨vs, m, hg, hv⟩ := S.owns _ P.mem
  have e := hv.len
  refine wpAny_call_entry dq_slot_append (dq_isT hg) dq_entry_append ?_ (dq_args_append _ _)
  show wpAny _ _ (Builtin.Deque.pushRight (.ref a) u >>= fun _ => ret .none) _ _ s
  unfold Builtin.Deque.pushRight
  refine wpAny_bind (wpAny_bind (dq_update (us := vs ++ [u]) hg (by simp) (by rw [List.length_append, List.length_singleton]; omega) fun h' hg' hs => ?_))
  unfold Builtin.Deque.maxlen
  refine wpAny_bind (wpAny_bind (wpAny_field hg' rfl (x := .none) (by simp) (wpAny_pure ?_)))
  refine wpAny_pure (wpAny_pure ⟨.none, rfl, ?_⟩)
  have tk := S.tkBut P.mem hs.extBut
  exact ⟨.none, H', .none, S.put P hs.extBut ⟨_, _, hg', (hv.mono tk).snoc (ru.mono tk)⟩ s.toks, tk, h⟩
theorem m_dqpop {a : Addr} {l : List AV} {x : AV} (P : Put a (.deque (x :: l)) (.deque l) H H') (hz : l.length ≤ 1000000) (h : Φ x H') : OpC c A Z (.builtin "collections.deque.popleft") [.ref a] H Φ := .con fun s vs S r => by
  obtain ⟨v, rfl, rv⟩ := r.one
  rw [rv.ref_inv]
  obtain ⟨vs, m, hg, hv⟩ := S.owns _ P.mem
  cases hv with
  | @cons y _ vs _ ry hv =>
  have e := hv.len
  refine wpAny_call_entry dq_slot_popleft (dq_isT hg) dq_entry_popleft ?_ (dq_args_popleft _)
  show wpAny _ _ (Builtin.Deque.items (.ref a) >>= _) _ _ s
  unfold Builtin.Deque.items
  refine wpAny_bind (wpAny_bind (wpAny_fieldsOf hg rfl (wpAny_pure ?_)))
  rw [dq_items]
  have e0 : (y :: vs).toArray[0]? = some y := by simp
  rw [e0]
  refine wpAny_bind (dq_update (us := vs) hg (by apply Array.ext'; simp [Array.eraseIdxIfInBounds]) (by omega) fun h' hg' hs => ?_)
  have tk := S.tkBut P.mem hs.extBut
  exact wpAny_pure ⟨y, rfl, ⟨x, H', ry.mono tk, S.put P hs.extBut ⟨_, _, hg', hv.mono tk⟩ s.toks, tk, h⟩⟩
theorem tr_deque {a : Addr} {l : List AV} {Ψ : Bool → AHeap → Prop} (hm : (a, .deque l) ∈ H) (hz : l.length ≤ 1000000) (h : Ψ (!l.isEmpty) H) : Op1 c A Z truthy relB (.ref a) H Ψ := fun s v S rv => by
  rw [rv.ref_inv]
  obtain ⟨vs, m, hg, hv⟩ := S.owns _ hm
  have e := hv.len
  have hT := dq_isT hg
  have body : wpAny (model c.prog c.w) A.in1 (Builtin.«len» ⟨[.ref a], []⟩) (fun fin s' => ∃ r, fin = .done (.ret r) ∧ (r = .int vs.length (s.toks + 1) ∧ s' = { s with toks := s.toks + 1 + 1 })) no s := by
    unfold Builtin.«len»
    refine wpAny_bind (m := oneArg "len" _) (wpAny_pure ?_)
    refine wpAny_bind (m := callSpecial? (.ref a) (Str.ofString "__len__")) (wpAny_callSpecial?_slot (name := Str.ofString "__len__") hT dq_slot_len (wpAny_call_entry dq_slot_len hT dq_entry_len ?_ (dq_args_len _)))
    show wpAny _ _ (Builtin.Deque.size (.ref a) >>= fun x => retInt _) _ _ s
    unfold Builtin.Deque.size
    refine wpAny_bind (wpAny_bind (wpAny_fieldsOf hg rfl (wpAny_pure ?_)))
    rw [show (((#[Value.none, .int m 0] ++ vs.toArray).size - 2 : Nat) : Int) = (vs.length : Int) by simp]
    refine wpAny_ret_mkInt ?_
    refine wpAny_bind (wpAny_holding (wpAny_pure ?_))
    refine wpAny_bind (wpAny_letGo ?_)
    show wpAny _ _ (if ((vs.length : Nat) : Int) < 0 then _ else _) _ _ _
    rw [if_neg (by omega)]
    show wpAny _ _ (if ((vs.length : Nat) : Int) ≥ 2 ^ 63 then _ else _) _ _ _
    rw [if_neg (by omega)]
    exact wpAny_bind (wpAny_mkInt (wpAny_pure ⟨_, rfl, rfl, rfl⟩))
  have key : wpAny (model c.prog c.w) A (runValue (.builtin "len" ⟨[.ref a], []⟩)) (fun r s' => r = .int vs.length (s.toks + 1) ∧ s' = { s with toks := s.toks + 1 + 1 }) no s := by
    refine wpAny_runValue (codeAny_builtin entry_len ?_)
    rw [Around.under_plainId plain_len _]
    exact wpAny_mono body (fun fin s' ⟨r, e, hq⟩ => by subst e; exact hq) fun _ _ e => e
  have fin : Post c Z relB s Ψ ((vs.length : Int) != 0) { s with toks := s.toks + 1 + 1 } := by
    have e' : ((vs.length : Int) != 0) = !l.isEmpty := by rw [e]; cases l <;> simp <;> omega
    rw [e']
    exact Post.tok S rfl h
  unfold truthy
  first
    | refine wpAny_bind (wpAny_callSpecial?_none (name := Str.ofString "__bool__") hT dq_noBool ?_)
    | refine wpAny_bind (wpAny_pure (wpAny_bind (wpAny_callSpecial?_none (name := Str.ofString "__bool__") hT dq_noBool ?_)))
  first
    | refine wpAny_bind (wpAny_specialOf (name := Str.ofString "__len__") hT dq_slot_len.lookup ?_)
    | refine wpAny_bind (wpAny_pure (wpAny_bind (wpAny_specialOf (name := Str.ofString "__len__") hT dq_slot_len.lookup ?_)))
  first
    | exact wpAny_bind (wpAny_mono key (fun r s' h' => by obtain ⟨rfl, rfl⟩ := h'; exact wpAny_pure fin) fun _ _ e => e)
    | exact wpAny_bind (wpAny_pure (wpAny_bind (wpAny_mono key (fun r s' h' => by obtain ⟨rfl, rfl⟩ := h'; exact wpAny_pure fin) fun _ _ e => e)))
end
end Mine
end
section
open PySem PySem.W PySem.Calls PyProof.Rows
set_option Elab.async false
set_option maxRecDepth 100000
set_option maxHeartbeats 4000000
set_option linter.unusedVariables false
namespace Mine
theorem nsK {c : Cx} {x : Str} {r} (h : c.K = hd.heap_39 c.w.params) (e : nsIn (hd.heap_39 c.w.params) mainGlobals x = r) : nsIn c.K mainGlobals x = r := h ▸ e
theorem lkK {c : Cx} {f : Addr} {r} (h : c.K = hd.heap_39 c.w.params) (e : (hd.heap_39 c.w.params).lookup f = r) : c.K.lookup f = r := h ▸ e
theorem cdK {c : Cx} {f : Value} {q : Str} (h : c.K = hd.heap_39 c.w.params) (e : codeIn (hd.heap_39 c.w.params) f q = true) : codeIn c.K f q = true := h ▸ e
theorem fdK {c : Cx} {v : Value} {q : Str} {r} (h : c.K = hd.heap_39 c.w.params) (e : findIn (hd.heap_39 c.w.params) v q = r) : findIn c.K v q = r := h ▸ e
theorem kpK {c : Cx} {v : Value} (h : c.K = hd.heap_39 c.w.params) (e : keepIn (hd.heap_39 c.w.params) v = true) : keepIn c.K v = true := h ▸ e

theorem bb_len : bootBuiltins "len" = some (.builtin "len") := by decide +kernel
theorem bn_len (p) : nsIn (hd.heap_39 p) mainGlobals "len" = some none := by rfl
theorem bb_range : bootBuiltins "range" = some (.type "range") := by decide +kernel
theorem bn_range (p) : nsIn (hd.heap_39 p) mainGlobals "range" = some none := by rfl
theorem bb_isinstance : bootBuiltins "isinstance" = some (.builtin "isinstance") := by decide +kernel
theorem bn_isinstance (p) : nsIn (hd.heap_39 p) mainGlobals "isinstance" = some none := by rfl
theorem bb_all : bootBuiltins "all" = some (.builtin "all") := by decide +kernel
theorem bn_all (p) : nsIn (hd.heap_39 p) mainGlobals "all" = some none := by rfl
theorem bb_any : bootBuiltins "any" = some (.builtin "any") := by decide +kernel
theorem bn_any (p) : nsIn (hd.heap_39 p) mainGlobals "any" = some none := by rfl
theorem bb_int : bootBuiltins "int" = some (.type "int") := by decide +kernel
theorem bn_int (p) : nsIn (hd.heap_39 p) mainGlobals "int" = some none := by rfl
theorem bb_bool : bootBuiltins "bool" = some (.type "bool") := by decide +kernel
theorem bn_bool (p) : nsIn (hd.heap_39 p) mainGlobals "bool" = some none := by rfl
theorem bb_sorted : bootBuiltins "sorted" = some (.builtin "sorted") := by decide +kernel
theorem bn_sorted (p) : nsIn (hd.heap_39 p) mainGlobals "sorted" = some none := by rfl
theorem bb_min : bootBuiltins "min" = some (.builtin "min") := by decide +kernel
theorem bn_min (p) : nsIn (hd.heap_39 p) mainGlobals "min" = some none := by rfl
theorem bb_max : bootBuiltins "max" = some (.builtin "max") := by decide +kernel
theorem bn_max (p) : nsIn (hd.heap_39 p) mainGlobals "max" = some none := by rfl
theorem bb_dict : bootBuiltins "dict" = some (.type "dict") := by decide +kernel
theorem bn_dict (p) : nsIn (hd.heap_39 p) mainGlobals "dict" = some none := by rfl
theorem bb_set : bootBuiltins "set" = some (.type "set") := by decide +kernel
theorem bn_set (p) : nsIn (hd.heap_39 p) mainGlobals "set" = some none := by rfl
theorem bb_abs : bootBuiltins "abs" = some (.builtin "abs") := by decide +kernel
theorem bn_abs (p) : nsIn (hd.heap_39 p) mainGlobals "abs" = some none := by rfl
theorem gv_law_wide (p) : nsIn (hd.heap_39 p) mainGlobals "_law_wide" = some (some (.ref 209)) := by rfl
theorem gv_law_slim (p) : nsIn (hd.heap_39 p) mainGlobals "_law_slim" = some (some (.ref 210)) := by rfl
theorem gv_law_draw (p) : nsIn (hd.heap_39 p) mainGlobals "_law_draw" = some (some (.ref 222)) := by rfl
theorem gv_law_size (p) : nsIn (hd.heap_39 p) mainGlobals "_law_size" = some (some (.ref 229)) := by rfl
theorem gv_law_plain (p) : nsIn (hd.heap_39 p) mainGlobals "_law_plain" = some (some (.ref 215)) := by rfl
theorem gv_law_lines (p) : nsIn (hd.heap_39 p) mainGlobals "_law_lines" = some (some (.ref 234)) := by rfl
theorem gv_law_rows (p) : nsIn (hd.heap_39 p) mainGlobals "_law_rows" = some (some (.ref 239)) := by rfl
theorem gv_law_border (p) : nsIn (hd.heap_39 p) mainGlobals "_law_border" = some (some (.ref 244)) := by rfl
theorem gv_law_ways (p) : nsIn (hd.heap_39 p) mainGlobals "_law_ways" = some (some (.ref 251)) := by rfl
theorem gv_DeltaSimpleTemporalNetwork (p) : nsIn (hd.heap_39 p) mainGlobals "DeltaSimpleTemporalNetwork" = some (some (.ref 203)) := by rfl
theorem gv_DeltaNeighbors (p) : nsIn (hd.heap_39 p) mainGlobals "DeltaNeighbors" = some (some (.ref 96)) := by rfl
theorem gv_deque (p) : nsIn (hd.heap_39 p) mainGlobals "deque" = some (some (.type "collections.deque")) := by rfl
theorem gv_law_most (p) : ∃ t, nsIn (hd.heap_39 p) mainGlobals "_law_most" = some (some (.int 1000000000000000000000000000000 t)) := ⟨_, by rfl⟩
theorem okB {c : Cx} {i : String} {Q : Prop} (q : Q) : okF c (.con (.builtin i)) ∧ Q := ⟨.inl ⟨_, rfl⟩, q⟩
theorem okT {c : Cx} {T : String} {Q : Prop} (q : Q) : okF c (.con (.type T)) ∧ Q := ⟨.inr (.inl ⟨_, rfl⟩), q⟩
theorem okK {c : Cx} {a : Addr} {Q : Prop} (h : c.K = hd.heap_39 c.w.params) (e : keepIn (hd.heap_39 c.w.params) (.ref a) = true) (q : Q) : okF c (.ref a) ∧ Q := ⟨.inr (.inr ⟨_, rfl, kpK h e⟩), q⟩
theorem isName {c : Cx} {A Z env x pos H Φ} (h : EV c A Z env (.Name x pos) H Φ) : EV c A Z env (.Name x pos) H Φ := h
theorem isSet {c : Cx} {A Z env x v H Φ} (h : SN c A Z env x v H Φ) : SN c A Z env x v H Φ := h
theorem mul_ok {a b : Int} (m n : Nat) (ha : a.natAbs < 2 ^ m) (hb : b.natAbs < 2 ^ n) (h : m + n ≤ 134217728 := by decide) : IntMulOk a b := IntMulOk.of_le (intBits_le_iff.mpr ha) (intBits_le_iff.mpr hb) h
theorem keepsK {c : Cx} {H H' : AHeap} {Q : AHeap → Prop} (k : Weak c H H') (q : Q H') : ∃ H'', Weak c H H'' ∧ Q H'' := ⟨H', k, q⟩
end Mine
end
section
open PySem PySem.W PySem.Calls PyProof.Rows
set_option Elab.async false
set_option maxRecDepth 100000
set_option linter.unusedVariables false
namespace Mine
section
variable {c : Cx} {A : Around} {Z : List (Addr × Obj)} {H H' : AHeap} {env : Env} {Φ : AV → AHeap → Prop} {n : Nat}
theorem bools_get {h : Heap} {vs : List Value} {bs : List Bool} (r : VRs h vs (bs.map .bool)) {i : Nat} {v : Value} (e : vs[i]? = some v) : ∃ b, bs[i]? = some b ∧ v = .bool b := by
  have hl : i < bs.length := by
    have := (List.getElem?_eq_some_iff.mp e).1
    rw [r.len] at this; simpa using this
  obtain ⟨v', e', q⟩ := r.get (i := i) (a := .bool bs[i]) (by simp [hl])
  rw [e] at e'; cases e'
  exact ⟨bs[i], List.getElem?_eq_getElem hl, q.bool_inv⟩
theorem kept1 {s : Shared} {h' : Heap} {o : Obj} (hk : ∀ b x, b ∉ [s.heap.objs.size] → (s.heap.push o).get? b = some x → h'.get? b = some x) : ∀ b x, s.heap.get? b = some x → h'.get? b = some x :=
  fun b x e => hk b x (fun hm => by rw [List.mem_singleton.mp hm] at e; exact Nat.lt_irrefl _ (Heap.lt_size e)) (Heap.get?_push_of_some _ e)
theorem all_rng (bs : List Bool) : ((List.range bs.length).all fun i => (bs[i]?).getD true) = bs.all id := by
  rw [Bool.eq_iff_iff, List.all_eq_true, List.all_eq_true]
  constructor
  · intro h b hb
    obtain ⟨i, hi, rfl⟩ := List.getElem_of_mem hb
    have := h i (by simpa using hi)
    simpa [hi] using this
  · intro h i hi
    have hi' : i < bs.length := by simpa using hi
    simpa [hi'] using h bs[i] (List.getElem_mem hi')
theorem any_rng (bs : List Bool) : ((List.range bs.length).any fun i => (bs[i]?).getD false) = bs.any id := by
  rw [Bool.eq_iff_iff, List.any_eq_true, List.any_eq_true]
  constructor
  · rintro ⟨i, hi, h⟩
    have hi' : i < bs.length := by simpa using hi
    exact ⟨bs[i], List.getElem_mem hi', by simpa [hi'] using h⟩
  · rintro ⟨b, hb, h⟩
    obtain ⟨i, hi, rfl⟩ := List.getElem_of_mem hb
    exact ⟨i, by simpa using hi, by simpa [hi] using h⟩
theorem b_all {a : Addr} {bs : List Bool} (hA : Ar A n) (hd : Rd c H a (.list (bs.map .bool))) (k : Φ (.bool (bs.all id)) H) : OpC c A Z (.builtin "all") [.ref a] H Φ := .con fun s vs S r => by
  obtain ⟨v, rfl, rv⟩ := r.one
  rw [rv.ref_inv]
  obtain ⟨⟨vs, m, hg, hv⟩, _⟩ := hd Z s S
  have hl : s.heap.IsList a vs.toArray := ⟨_, hg, rfl, m, rfl⟩
  have e := hv.len
  rw [List.length_map] at e
  refine call_all_walk (wpAny_pyIter_list hl ?_)
  refine ⟨s.heap.objs.size, [s.heap.objs.size, a], [s.heap.objs.size], vs.toArray.size, _, _, fun i => (bs[i]?).getD true, rfl, Walks.list (A := A.in1) hA.hd _ a (Nat.ne_of_lt (Heap.lt_size hg)) vs.toArray,
    ⟨⟨_, Heap.get?_push_size _ rfl, rfl, rfl⟩, hl.push _⟩, fun i v s' Q' E' hP hQ => ?_, fun h' tk hk => ?_⟩
  · obtain ⟨b, e, rfl⟩ := bools_get hv (by simpa using hP)
    simp only [e, Option.getD_some] at hQ
    exact wpAny_truthy_bool hQ
  · rw [List.size_toArray, e, all_rng]
    exact ⟨_, H, .bool _, S.keep (kept1 hk) tk, .of_keep (kept1 hk), k⟩
theorem b_any {a : Addr} {bs : List Bool} (hA : Ar A n) (hd : Rd c H a (.list (bs.map .bool))) (k : Φ (.bool (bs.any id)) H) : OpC c A Z (.builtin "any") [.ref a] H Φ := .con fun s vs S r => by
  obtain ⟨v, rfl, rv⟩ := r.one
  rw [rv.ref_inv]
  obtain ⟨⟨vs, m, hg, hv⟩, _⟩ := hd Z s S
  have hl : s.heap.IsList a vs.toArray := ⟨_, hg, rfl, m, rfl⟩
  have e := hv.len
  rw [List.length_map] at e
  refine call_any_walk (wpAny_pyIter_list hl ?_)
  refine ⟨s.heap.objs.size, [s.heap.objs.size, a], [s.heap.objs.size], vs.toArray.size, _, _, fun i => (bs[i]?).getD false, rfl, Walks.list (A := A.in1) hA.hd _ a (Nat.ne_of_lt (Heap.lt_size hg)) vs.toArray,
    ⟨⟨_, Heap.get?_push_size _ rfl, rfl, rfl⟩, hl.push _⟩, fun i v s' Q' E' hP hQ => ?_, fun h' tk hk => ?_⟩
  · obtain ⟨b, e, rfl⟩ := bools_get hv (by simpa using hP)
    simp only [e, Option.getD_some] at hQ
    exact wpAny_truthy_bool hQ
  · rw [List.size_toArray, e, any_rng]
    exact ⟨_, H, .bool _, S.keep (kept1 hk) tk, .of_keep (kept1 hk), k⟩

/-- the frame that the kit's own rules want -/
theorem Sta.frame {s : Shared} {L : Addr} {m : List (Str × AV)} (S : Sta c Z H s) (hm : (L, .ns m) ∈ H) : ∃ (mm : Str → Option Value) (news : List (Addr × Obj)), Fr {} L s.heap mm ∧ News {} L s.heap news ∧ (∀ b o, b ≠ L → s.heap.get? b = some o → (b, o) ∈ news) ∧
    ∀ h' t, Fr {} L h' mm → News {} L h' news → Sta c Z H { s with heap := h', toks := t } ∧ TK s.heap h' ∧ ∀ b o, b ≠ L → s.heap.get? b = some o → h'.get? b = some o := by
  obtain ⟨mm, hn, hmm⟩ := S.owns _ hm
  obtain ⟨oL, hL, hnt⟩ := S.alloced hm
  let news : List (Addr × Obj) := (List.range s.heap.objs.size).filterMap fun b => if b = L then none else (s.heap.get? b).map (b, ·)
  have hnews : ∀ b o, b ≠ L → s.heap.get? b = some o → (b, o) ∈ news := fun b o hb e => by
    refine List.mem_filterMap.mpr ⟨b, by simpa using Heap.lt_size e, ?_⟩
    rw [if_neg hb, e]; rfl
  refine ⟨mm, news, ⟨hn, fun b o e => ?_, Nat.zero_le _⟩, fun p hp => ?_, hnews, fun h' t F N => ?_⟩
  · exact absurd (Heap.lt_size e) (Nat.not_lt_zero _)
  · obtain ⟨b, hb, e⟩ := List.mem_filterMap.mp hp
    by_cases q : b = L
    · rw [if_pos q] at e; cases e
    · rw [if_neg q] at e
      cases e' : s.heap.get? b with
      | none => rw [e'] at e; cases e
      | some o =>
        rw [e'] at e; cases e
        refine ⟨e', q, ?_⟩
        cases e2 : ({} : Heap).get? b with
        | none => rfl
        | some o => exact absurd (Heap.lt_size e2) (Nat.not_lt_zero _)
  · have k : ∀ b o, b ≠ L → s.heap.get? b = some o → h'.get? b = some o := fun b o hb e => (N (b, o) (hnews b o hb e)).1
    have tk : TK s.heap h' := .but hL hnt k
    refine ⟨⟨by rw [S.same], fun b o e => k b o (fun q => ?_) (S.base b o e), fun q hq => k _ _ (fun e => S.offZ _ hm q hq e.symm) (S.extra q hq), fun q hq => ?_, S.nodup, S.offB, S.offZ⟩, tk, k⟩
    · subst q; rw [(S.offB _ hm).1] at e; cases e
    · by_cases qL : q.1 = L
      · obtain ⟨qa, qo⟩ := q
        dsimp only at qL ⊢
        subst qL
        have : qo = .ns m := by
          have h1 := S.nodup
          clear hmm hn
          revert hq hm
          generalize H = HH at h1
          intro hm hq
          induction HH with
          | nil => cases hq
          | cons x xs ih =>
            rw [List.map_cons, List.nodup_cons] at h1
            rcases List.mem_cons.mp hq with e1 | hq <;> rcases List.mem_cons.mp hm with e2 | hm
            · rw [← e1] at e2; cases e2; rfl
            · exact absurd (List.mem_map.mpr ⟨_, hm, by rw [← e1]⟩) h1.1
            · exact absurd (List.mem_map.mpr ⟨_, hq, by rw [← e2]⟩) h1.1
            · exact ih h1.2 hm hq
        subst this
        exact ⟨mm, F.ns, fun x v e => let ⟨v', a, b⟩ := hmm x v e; ⟨v', a, b.mono tk⟩⟩
      · have x := S.owns q hq
        obtain ⟨ob, hob, _⟩ := x.at
        exact x.mono ((k _ _ qL hob).trans hob.symm) tk

/-- comprehensions of one clause -/
noncomputable def lcBody (elt : Expr) (scope : Scope) (cl : List (Str × Addr)) (env : Env) (C acc : Addr) : Sem Unit := eval elt (cEnv scope cl C env) >>= fun x => call (.builtin "list.append") [.ref acc, x] >>= fun _ => (pure () : Sem Unit)
noncomputable def LC1 (c : Cx) (A : Around) (cenv : Addr → Env) (elt target : Expr) (l : List AV) (I : Nat → List AV → AHeap → Prop) : Prop :=
  ∀ i x ys Hr Z C acc, l[i]? = some x → I i ys Hr → AT c A Z (cenv C) target x ((C, .ns []) :: (acc, .list ys) :: Hr) fun H' => EV c A Z (cenv C) elt H' fun y H'' =>
    ∃ (m' : List (Str × AV)) (Hr' : AHeap), Weak c H'' ((C, .ns m') :: (acc, .list ys) :: Hr') ∧ ys.length ≤ 1000000 ∧ I (i + 1) (ys ++ [y]) Hr'
theorem LC1.turns {elt target : Expr} {scope : Scope} {cl : List (Str × Addr)} {l : List AV} {I : Nat → List AV → AHeap → Prop} (h : LC1 c A (fun C => cEnv scope cl C env) elt target l I) : LCTurns c A (fun C => cEnv scope cl C env) (lcBody elt scope cl env) target l I := fun i x ys Hr Z C acc hx hI s v S r =>
  wpAny_mono (h i x ys Hr Z C acc hx hI s v S r) (fun _ s' p => p.mono fun _ H' q => Tr.mono (emit_list (a := acc) (Ψ := fun _ H'' => ∃ m' ys' Hr', H'' = (C, .ns m') :: (acc, .list ys') :: Hr' ∧ I (i + 1) ys' Hr') (Tr.post (Tr.mono q fun y H'' ⟨m', Hr', wk, hz, hI'⟩ =>
    ⟨_, wk, ys, _, .there .here, hz, m', _, Hr', rfl, hI'⟩))) fun _ H'' ⟨m', ys', Hr', e, hI'⟩ => ⟨m', ys', Hr', e ▸ .refl _ _, hI'⟩) fun _ _ e => e
theorem EV_LC1 {elt : Expr} {g : Comprehension} {scope : Scope} {pos fp : Pos} (cl : List (Str × Addr))
    (h : EV c A Z env g.iter H fun v H₁ => ∃ (l : List AV) (D : AHeap → Prop) (I : Nat → List AV → AHeap → Prop), Loop c A g.target v H₁ l D ∧ I 0 [] H₁ ∧ (∀ i ys Hr C acc m, I i ys Hr → D ((C, .ns m) :: (acc, .list ys) :: Hr)) ∧
      LC1 c A (fun C => cEnv scope cl C env) elt g.target l I ∧ ∀ ys Hr acc, I l.length ys Hr → Φ (.ref acc) ((acc, .list ys) :: Hr))
    (hturn : ∀ (it acc C : Addr), compTurn (.ListComp elt [g] scope pos) 0 (.ref it) (.ref acc) (cEnv scope cl C env) = (standAt g.iter.pos >>= fun _ => pyNext (.ref it) >>= fun r => match r with
      | none => pure (.done .next)
      | some v => letOwnedTupleGo g.target (.ref it) v >>= fun _ => assign g.target (cEnv scope cl C env) v >>= fun _ => lcBody elt scope cl env C acc >>= fun _ => again (.compLoop (.ListComp elt [g] scope pos) 0 (.ref it) (.ref acc) (cEnv scope cl C env))) := by intro _ _ _; with_unfolding_all rfl)
    (he : eval (.ListComp elt [g] scope pos) env = comprehension (.ListComp elt [g] scope pos) scope env fp (newList []) false (eval g.iter env) none := by with_unfolding_all rfl)
    (hga : g.is_async = 0 := by with_unfolding_all rfl) (hs : ∀ x, foldedSetIterable g.iter env x = pure x := by intro _; with_unfolding_all rfl) (hclos : closureFor scope env = pure cl := by with_unfolding_all rfl) (hsc : ScOk scope = true := by with_unfolding_all rfl) :
    EV c A Z env (.ListComp elt [g] scope pos) H Φ :=
  EV_LC cl (lcBody elt scope cl env) (Tr.mono h fun v H₁ ⟨l, D, I, L, h0, hD, t, f⟩ => ⟨l, D, I, L, h0, hD, t.turns, f⟩) hturn he hga hs hclos hsc
theorem EX_AssignLC1 {x : Str} {pos' spos : Pos} {rest : List Stmt} {elt : Expr} {g : Comprehension} {scope : Scope} {pos fp : Pos} {Φ : AF → AHeap → Prop} (cl : List (Str × Addr))
    (h : EV c A Z env g.iter H fun v H₁ => ∃ (l : List AV) (D : AHeap → Prop) (I : Nat → List AV → AHeap → Prop), Loop c A g.target v H₁ l D ∧ I 0 [] H₁ ∧ (∀ i ys Hr C acc m, I i ys Hr → D ((C, .ns m) :: (acc, .list ys) :: Hr)) ∧
      LC1 c A (fun C => cEnv scope cl C env) elt g.target l I ∧ ∀ ys Hr acc, I l.length ys Hr → ∃ m m' Hr', Put env.locals (.ns m) (.ns m') Hr Hr' ∧ NPut m x (.ref acc) m' ∧ EX c A Z env rest ((acc, .list ys) :: Hr') Φ)
    (hturn : ∀ (it acc C : Addr), compTurn (.ListComp elt [g] scope pos) 0 (.ref it) (.ref acc) (cEnv scope cl C env) = (standAt g.iter.pos >>= fun _ => pyNext (.ref it) >>= fun r => match r with
      | none => pure (.done .next)
      | some v => letOwnedTupleGo g.target (.ref it) v >>= fun _ => assign g.target (cEnv scope cl C env) v >>= fun _ => lcBody elt scope cl env C acc >>= fun _ => again (.compLoop (.ListComp elt [g] scope pos) 0 (.ref it) (.ref acc) (cEnv scope cl C env))) := by intro _ _ _; with_unfolding_all rfl)
    (hsw : swapsWith (.ListComp elt [g] scope pos) (some (.Name x pos')) spos.line env = pure true := by with_unfolding_all rfl)
    (he : evalThenUse (.ListComp elt [g] scope pos) env (assign (.Name x pos') env) = (do let _ ← comprehension (.ListComp elt [g] scope pos) scope env fp (newList []) false (eval g.iter env) (some (assign (.Name x pos') env))) := by with_unfolding_all rfl)
    (hl : env.kindOf x = some .local := by with_unfolding_all rfl) (hp : (env.scope.kind == .class || (env.scope.kind == .module && env.locals != env.globals)) = false := by with_unfolding_all rfl)
    (hga : g.is_async = 0 := by with_unfolding_all rfl) (hs : ∀ x, foldedSetIterable g.iter env x = pure x := by intro _; with_unfolding_all rfl) (hclos : closureFor scope env = pure cl := by with_unfolding_all rfl) (hsc : ScOk scope = true := by with_unfolding_all rfl) :
    EX c A Z env (.Assign [.Name x pos'] (.ListComp elt [g] scope pos) spos :: rest) H Φ :=
  EX_AssignLC cl (lcBody elt scope cl env) (Tr.mono h fun v H₁ ⟨l, D, I, L, h0, hD, t, f⟩ => ⟨l, D, I, L, h0, hD, t.turns, f⟩) hturn hsw he hl hp hga hs hclos hsc
theorem Sta.add {s : Shared} {a : Addr} {o : AObj} (S : Sta c Z H s) (ho : Owns c s.heap a o) (hH : ∀ p ∈ H, p.1 ≠ a) (hZ : ∀ p ∈ Z, p.1 ≠ a) (hB : Off c a) : Sta c Z ((a, o) :: H) s :=
  ⟨S.same, S.base, S.extra, fun p hp => by
    rcases List.mem_cons.mp hp with rfl | hp
    · exact ho
    · exact S.owns p hp, by
    rw [List.map_cons, List.nodup_cons]
    exact ⟨fun hm => by obtain ⟨p, hp, e⟩ := List.mem_map.mp hm; exact hH p hp e, S.nodup⟩, fun p hp => by
    rcases List.mem_cons.mp hp with rfl | hp
    · exact hB
    · exact S.offB p hp, fun p hp q hq => by
    rcases List.mem_cons.mp hp with rfl | hp
    · exact fun e => hZ q hq e.symm
    · exact S.offZ p hp q hq⟩
end
end Mine
end
section
open PySem PySem.W PySem.Calls PyProof.Rows
set_option Elab.async false
set_option maxRecDepth 100000
set_option linter.unusedVariables false
namespace Mine
section
variable {c : Cx} {A : Around} {Z : List (Addr × Obj)} {H H' : AHeap} {env : Env} {Φ : AV → AHeap → Prop} {n : Nat}
theorem own_empty {h : Heap} {a : Addr} {o : AObj} (hg : h.get? a = some { cls := .type "dict", data := .dict #[] }) (ho : o = .idict [] ∨ o = .tdict []) : Owns c h a o := by
  rcases ho with rfl | rfl
  · exact ⟨[], ⟨_, _, _, hg, ⟨rfl, rfl, rfl⟩, rfl, fun e he => by simp at he, .nil, .nil⟩, .nil⟩
  · exact ⟨[], ⟨_, _, _, hg, ⟨rfl, rfl, rfl⟩, rfl, rfl, (by intro x hx; cases hx), List.Pairwise.nil⟩, .nil⟩
theorem newD {s : Shared} {o : AObj} (S : Sta c Z H s) (ho : o = .idict [] ∨ o = .tdict []) : Sta c Z ((s.heap.objs.size, o) :: H) { s with heap := s.heap.push { cls := .type "dict", data := .dict #[] } } :=
  S.new (fresh_size _) (fun _ _ e => Heap.get?_push_of_some _ e) (own_empty (Heap.get?_push_size _ rfl) ho) s.toks
theorem EV_Dict0 (o : AObj) {pos} (ho : o = .idict [] ∨ o = .tdict []) (h : ∀ a, Φ (.ref a) ((a, o) :: H)) : EV c A Z env (.Dict [] [] pos) H Φ := fun s S => by
  rw [eval_Dict_empty]
  exact wpAny_bind (wpAny_standAt (wpAny_newObj_type ⟨.ref _, _, .ref _, newD S ho, .of_keep fun _ _ e => Heap.get?_push_of_some _ e, h _⟩))
theorem EV_Dict1 {k v : Expr} {pos} (hA : Ar A n) (h : ∀ d, EV c A Z env k ((d, .tdict []) :: H) fun kx H₁ => EV c A Z env v H₁ fun vx H₂ => ∃ (key : List Int) (H₃ : AHeap), kx = .tup (key.map .int) ∧ Put d (.tdict []) (.tdict [(key, vx)]) H₂ H₃ ∧ Φ (.ref d) H₃)
    (he : eval (.Dict [some k] [v] pos) env = (do standAt pos; dictDisplay ([(eval k env, (do let x ← eval v env; standAt pos; pure x))].map fun p => (some p.1, p.2))) := by with_unfolding_all rfl) : EV c A Z env (.Dict [some k] [v] pos) H Φ := fun s S => by
  rw [he, dictDisplay_pairs _ (by simp) (by simp)]
  refine wpAny_bind (wpAny_standAt (wpAny_bind ?_))
  unfold subDict
  refine wpAny_bind (wpAny_alloc ?_)
  have S₁ := newD S (o := .tdict []) (.inr rfl)
  have tk₁ : TK s.heap (s.heap.push { cls := .type "dict", data := .dict #[] }) := .of_keep fun _ _ e => Heap.get?_push_of_some _ e
  generalize s.heap.objs.size = d at S₁ ⊢
  generalize hs₁ : ({ s with heap := s.heap.push { cls := .type "dict", data := .dict #[] } } : Shared) = s₁ at S₁ ⊢
  have tk₁ : TK s.heap s₁.heap := by rw [← hs₁]; exact tk₁
  refine wpAny_bind (wpAny_holding ?_)
  simp only [List.length_cons, List.length_nil, Nat.reduceAdd, Nat.reduceLeDiff, if_true]
  refine wpAny_bind ?_
  unfold evalPairs
  refine wpAny_bind (bq (h d s₁ S₁) fun kv kx H₁ s₂ rk S₂ tk₂ h₂ => wpAny_bind (wpAny_holding (wpAny_bind (bq (h₂ s₂ S₂) fun vv vx H₂ s₃ rv S₃ tk₃ ⟨key, H₃, e, P, hΦ⟩ => wpAny_bind (wpAny_standAt (wpAny_pure ?_))))))
  subst e
  unfold evalPairs
  refine wpAny_bind (wpAny_holding (wpAny_pure (wpAny_pure (wpAny_holding ?_))))
  rw [List.forIn_cons]
  obtain ⟨a, its, rfl, hg, hv⟩ := (rk.mono tk₃).tup_inv
  obtain ⟨ys, hD, ha⟩ := S₃.owns _ P.mem
  have hys : ys = [] := by cases ha; rfl
  subst hys
  refine wpAny_bind (wpAny_bind (wpAny_bind (wpAny_dictSet_heap (knd := TKd c) (k := key) (by have := hA.un; show A.units < cLine; omega) (key_of hg hv) hD (fun h' hD' hs => ?_) (by simp [sizeLine_eq]))))
  have tk := S₃.tkBut P.mem hs.extBut
  obtain ⟨ys', e, ha'⟩ := a2_storedH (h := h') (ys := []) (es := []) .nil key (tk _ _ hg (isTup_tupObj _)) (hv.mono tk) (rv.mono tk)
  have e0 : ([] : List (List Int × Addr × Value × List Value)).map (fun y => (y.1, y.2.1, y.2.2.1)) = [] := rfl
  rw [e0] at e hD'
  rw [e] at hD'
  have hk : kput ([] : List (List Int × AV)) key vx = [(key, vx)] := rfl
  rw [hk] at ha'
  refine wpAny_pure ?_
  dsimp only
  rw [List.forIn_nil]
  exact wpAny_pure (wpAny_pure (wpAny_pure (wpAny_pure ⟨.ref d, H₃, .ref _, S₃.put P hs.extBut ⟨ys', hD', ha'⟩ _, ((tk₁.trans tk₂).trans tk₃).trans tk, hΦ⟩)))
theorem EV_Dict2 {k v k' v' : Expr} {pos} (h : ∀ d, EV c A Z env k ((d, .idict []) :: H) fun kx H₁ => EV c A Z env v H₁ fun vx H₂ => EV c A Z env k' H₂ fun kx' H₃ => EV c A Z env v' H₃ fun vx' H₄ =>
      ∃ (i j : Int) (H₅ : AHeap), kx = .int i ∧ kx' = .int j ∧ Put d (.idict []) (.idict (kput [(i, vx)] j vx')) H₄ H₅ ∧ Φ (.ref d) H₅)
    (he : eval (.Dict [some k, some k'] [v, v'] pos) env = (do standAt pos; dictDisplay ([(eval k env, (do let x ← eval v env; standAt pos; pure x)), (eval k' env, (do let x ← eval v' env; standAt pos; pure x))].map fun p => (some p.1, p.2))) := by with_unfolding_all rfl) :
    EV c A Z env (.Dict [some k, some k'] [v, v'] pos) H Φ := fun s S => by
  rw [he, dictDisplay_pairs _ (by simp) (by simp)]
  refine wpAny_bind (wpAny_standAt (wpAny_bind ?_))
  unfold subDict
  refine wpAny_bind (wpAny_alloc ?_)
  have S₁ := newD S (o := .idict []) (.inl rfl)
  have tk₁ : TK s.heap (s.heap.push { cls := .type "dict", data := .dict #[] }) := .of_keep fun _ _ e => Heap.get?_push_of_some _ e
  generalize s.heap.objs.size = d at S₁ ⊢
  generalize hs₁ : ({ s with heap := s.heap.push { cls := .type "dict", data := .dict #[] } } : Shared) = s₁ at S₁ ⊢
  have tk₁ : TK s.heap s₁.heap := by rw [← hs₁]; exact tk₁
  refine wpAny_bind (wpAny_holding ?_)
  simp only [List.length_cons, List.length_nil, Nat.reduceAdd, Nat.reduceLeDiff, if_true]
  refine wpAny_bind ?_
  unfold evalPairs
  refine wpAny_bind (bq (h d s₁ S₁) fun kv kx H₁ s₂ rk S₂ tk₂ h₂ => wpAny_bind (wpAny_holding (wpAny_bind (bq (h₂ s₂ S₂) fun vv vx H₂ s₃ rv S₃ tk₃ h₃ => wpAny_bind (wpAny_standAt (wpAny_pure ?_))))))
  unfold evalPairs
  refine wpAny_bind (wpAny_holding (wpAny_bind (bq (h₃ s₃ S₃) fun kv' kx' H₃ s₄ rk' S₄ tk₄ h₄ => wpAny_bind (wpAny_holding (wpAny_bind (bq (h₄ s₄ S₄) fun vv' vx' H₄ s₅ rv' S₅ tk₅ ⟨i, j, H₅, e1, e2, P, hΦ⟩ => wpAny_bind (wpAny_standAt (wpAny_pure ?_))))))))
  subst e1 e2
  unfold evalPairs
  refine wpAny_bind (wpAny_holding (wpAny_pure (wpAny_pure (wpAny_pure (wpAny_holding ?_)))))
  rw [List.forIn_cons]
  obtain ⟨t, rfl⟩ := rk.int_inv
  obtain ⟨t', rfl⟩ := rk'.int_inv
  obtain ⟨kvs, hD, ha⟩ := S₅.owns _ P.mem
  refine wpAny_bind (wpAny_bind (wpAny_bind (wpAny_dictSet_pairs (knd := IK c) (intKind_is _ _ i t) hD (fun h' hD' hs => ?_) (by rw [ha.len]; simp [sizeLine_eq]))))
  have tk := S₅.tkBut P.mem hs.extBut
  have ha1 := a2_stored (ha.mono fun _ _ q => ⟨q.1, q.2.mono tk⟩) i (rv.mono (((tk₄.trans tk₅)).trans tk))
  refine wpAny_pure ?_
  dsimp only
  rw [List.forIn_cons]
  refine wpAny_bind (wpAny_bind (wpAny_dictSet_pairs (knd := IK c) (s := { s₅ with heap := h', toks := s₅.toks + 1 }) (intKind_is _ _ j t') hD' (fun h'' hD'' hs' => ?_) (by rw [ha1.len]; unfold kput; simp [sizeLine_eq])))
  have tkb : TK h' h'' := by
    obtain ⟨ob, hob, hnt⟩ : ∃ ob, h'.get? d = some ob ∧ ¬ IsTupO ob := by
      obtain ⟨o, es, ep, ho, hx, hdt, _⟩ := hD'
      exact ⟨o, ho, notTup_dict hdt⟩
    exact .but hob hnt hs'.extBut
  have ha2 := a2_stored (ha1.mono fun _ _ q => ⟨q.1, q.2.mono tkb⟩) j (rv'.mono (tk.trans tkb))
  refine wpAny_pure ?_
  dsimp only
  rw [List.forIn_nil]
  refine wpAny_pure (wpAny_pure (wpAny_pure (wpAny_pure ⟨.ref d, H₅, .ref _, S₅.put P (fun b o hb e => hs'.extBut b o hb (hs.extBut b o hb e)) ⟨_, hD'', ?_⟩ _, ((((tk₁.trans tk₂).trans tk₃).trans tk₄).trans tk₅).trans (tk.trans tkb), hΦ⟩)))
  exact ha2
end
end Mine
end
section
open PySem PySem.W PySem.Calls PyProof.Rows
set_option Elab.async false
set_option maxRecDepth 100000
set_option linter.unusedVariables false
namespace Mine
section
variable {c : Cx} {A : Around} {Z : List (Addr × Obj)} {H H' : AHeap} {env : Env} {Φ : AV → AHeap → Prop} {n : Nat}
noncomputable def allIn (es es' : List (Int × Int)) : Bool := es.all fun p => es'.lookup p.1 == some p.2
theorem lookI {es : List (Int × Int)} {k : Int} : (es.map fun p => (p.1, AV.int p.2)).lookup k = (es.lookup k).map AV.int := by
  induction es with
  | nil => rfl
  | cons p es ih =>
    obtain ⟨a, b⟩ := p
    rw [List.map_cons, List.lookup_cons, List.lookup_cons]
    cases k == a with
    | true => rfl
    | false => exact ih
theorem hitsI {s : Shared} {kb : List (Int × Value)} {es' : List (Int × Int)} (hb : A2 (fun p q => p.1 = q.1 ∧ VR s.heap p.2 q.2) kb (es'.map fun p => (p.1, AV.int p.2))) : ∀ {ka : List (Int × Value)} {es : List (Int × Int)},
    A2 (fun p q => p.1 = q.1 ∧ VR s.heap p.2 q.2) ka (es.map fun p => (p.1, AV.int p.2)) → KeqHits A s kb ka (allIn es es') := by
  intro ka es ha
  induction es generalizing ka with
  | nil => cases ha; exact .nil
  | cons p es ih =>
    rw [List.map_cons] at ha
    cases ha with
    | @cons q _ l _ pq ha =>
    obtain ⟨e, r⟩ := pq
    obtain ⟨k, v⟩ := q
    obtain ⟨pk, pv⟩ := p
    dsimp only at e r
    subst e
    obtain ⟨t, rfl⟩ := r.int_inv
    rcases a2_valueAt hb k with ⟨e1, e2⟩ | ⟨y, a, e1, e2, r2⟩
    · rw [lookI] at e2
      have e3 : es'.lookup k = none := by cases q : es'.lookup k with | none => rfl | some _ => rw [q] at e2; cases e2
      have : allIn ((k, pv) :: es) es' = false := by unfold allIn; rw [List.all_cons, e3]; rfl
      rw [this]
      exact .miss e1
    · rw [lookI] at e2
      cases q : es'.lookup k with
      | none => rw [q] at e2; cases e2
      | some w =>
        rw [q] at e2
        cases e2
        obtain ⟨t', rfl⟩ := r2.int_inv
        have : allIn ((k, pv) :: es) es' = ((pv == w) && allIn es es') := by
          unfold allIn
          rw [List.all_cons, q]
          congr 1
          by_cases z : pv = w
          · subst z; simp
          · have z' : ¬ w = pv := fun e => z e.symm
            have h1 : (pv == w) = false := by simpa using z
            have h2 : (some w == some pv) = false := by simpa using z'
            rw [h1]; exact h2
        rw [this]
        exact .hit e1 (SeqAt.EqAt.int_int pv t w t') (ih ha)
theorem eq_idict (hA : Ar A n) {a b : Addr} {es es' : List (Int × Int)} (ha : Rd c H a (.idict (es.map fun p => (p.1, .int p.2)))) (hb : Rd c H b (.idict (es'.map fun p => (p.1, .int p.2)))) (h : Φ (.bool (es.length == es'.length && allIn es es')) H) :
    Op2 c A Z (compareOp .Eq) VR (.ref a) (.ref b) H Φ := fun s v u S rv ru => by
  rw [rv.ref_inv, ru.ref_inv]
  obtain ⟨⟨ka, dA, xa⟩, ma⟩ := ha Z s S
  obtain ⟨⟨kb, dB, xb⟩, mb⟩ := hb Z s S
  refine keq_eq (knd := IK c) ma mb dA dB hA.u (fun _ => hitsI xb xa) ?_
  have l1 := xa.len
  have l2 := xb.len
  rw [List.length_map] at l1 l2
  rw [l1, l2]
  exact Post.here S (.bool _) h
/-- lists of tuples of ints -/
theorem rd_ints {h : Heap} {vs : List Value} {ks : List Int} (r : VRs h vs (ks.map AV.int)) : ReadsAll h vs (ks.map PyData.int) [] := by
  induction ks generalizing vs with
  | nil => cases r; exact .nil
  | cons k ks ih =>
    cases r with
    | cons p r =>
      obtain ⟨t, rfl⟩ := p.int_inv
      exact readsAll_cons_val (.int _ _) (ih r)
noncomputable def tupD (l : List Int) : PyData := .tuple (l.map .int)
theorem rd_tups {h : Heap} {vs : List Value} {ls : List (List Int)} (r : VRs h vs (ls.map fun l => AV.tup (l.map .int))) : ReadsAll h vs (ls.map tupD) [] := by
  induction ls generalizing vs with
  | nil => cases r; exact .nil
  | cons l ls ih =>
    cases r with
    | cons p r =>
      obtain ⟨a, us, rfl, hg, hv⟩ := p.tup_inv
      exact readsAll_cons_val (reads_tuple_at hg rfl rfl (by simpa using rd_ints hv)) (ih r)
theorem lay_tups : ∀ ls : List (List Int), PyData.canLayAll0 (ls.map tupD) = true
  | [] => rfl
  | l :: r => by
    have e := ke_canLayAll0 l
    simp [PyData.canLayAll0, PyData.canLay0, tupD, lay_tups r, e]
theorem depth_tups : ∀ ls : List (List Int), PyData.depthAll (ls.map tupD) ≤ 1
  | [] => Nat.zero_le _
  | l :: r => by
    have := depth_tups r
    simp [PyData.depthAll, PyData.depth, tupD, ke_depthAll l]
    omega
theorem same_tups : ∀ ls ms : List (List Int), PySem.Spec.sameAll (ls.map tupD) (ms.map tupD) = decide (ls = ms)
  | [], [] => by simp [PySem.Spec.sameAll]
  | [], _ :: _ => by simp [PySem.Spec.sameAll]
  | _ :: _, [] => by simp [PySem.Spec.sameAll]
  | a :: r, b :: t => by
    simp only [List.map_cons, PySem.Spec.sameAll, tupD, PySem.Spec.same, ke_sameAll a b]
    rw [show PySem.Spec.sameAll (r.map tupD) (t.map tupD) = decide (r = t) from same_tups r t]
    by_cases h : a = b <;> by_cases h' : r = t <;> simp [h, h']
theorem eq_tups (hA : Ar A n) {a b : Addr} {ls ms : List (List Int)} (ha : Rd c H a (.list (ls.map fun l => .tup (l.map .int)))) (hb : Rd c H b (.list (ms.map fun l => .tup (l.map .int)))) (h : Φ (.bool (decide (ls = ms))) H) :
    Op2 c A Z (compareOp .Eq) VR (.ref a) (.ref b) H Φ := fun s v u S rv ru => by
  rw [rv.ref_inv, ru.ref_inv]
  obtain ⟨⟨va, na, ga, xa⟩, _⟩ := ha Z s S
  obtain ⟨⟨vb, nb, gb, xb⟩, _⟩ := hb Z s S
  have sh : ∀ ls : List (List Int), SeqAt.shaped (.list (ls.map tupD)) = true := fun ls => by
    have := depth_tups ls
    simp [SeqAt.shaped, PyData.canLay0, PyData.depth, lay_tups]
    omega
  have hs : ∀ ls : List (List Int), PySem.Spec.Shape.has (.list (.tuples .int)) (.list (ls.map tupD)) = true := fun ls => by
    simp [PySem.Spec.Shape.has, tupD]
  refine eq_dataH_same (reads_list_at ga rfl rfl (by simpa using rd_tups xa)) (reads_list_at gb rfl rfl (by simpa using rd_tups xb)) (sh ls) (sh ms) (by have := hA.un; omega)
    (SeqAt.noMix_of_shape (.list (.tuples .int)) rfl _ _ ?_ ?_) ?_
  · exact hs ls
  · exact hs ms
  · simp only [PySem.Spec.same]
    rw [same_tups]
    exact Post.here S (.bool _) h
end
end Mine
end
section
open PySem PySem.W PySem.Calls PyProof.Rows
set_option Elab.async false
set_option maxRecDepth 100000
set_option maxHeartbeats 1000000
set_option linter.unusedVariables false
namespace Mine
section
variable {c : Cx} {A : Around} {Z : List (Addr × Obj)} {H H' : AHeap} {env : Env} {Φ : AV → AHeap → Prop} {n : Nat}
theorem quiet_tup {s : Shared} {a : Addr} {vs : List Value} {Q : Bool → Shared → Prop} {E : Value → Shared → Prop} (hg : s.heap.get? a = some (tupObj vs)) (h : Q false s) : wpAny (model c.prog c.w) A (Builtin.Dict.quietEq (.ref a)) Q E s := by
  unfold Builtin.Dict.quietEq
  refine wpAny_bind (wpAny_specialOf (name := Str.ofString "__eq__") (T := "tuple") ⟨_, hg, rfl⟩ PySem.F.slot_tuple_eq.lookup (wpAny_pure ?_))
  exact h
theorem forIn_quiet {s : Shared} {E : Value → Shared → Prop} {Q : PUnit → Shared → Prop} {f : DictEntry → PUnit → Sem (ForInStep PUnit)} : ∀ (l : List DictEntry), (∀ e ∈ l, ∀ (Q' : ForInStep PUnit → Shared → Prop), Q' (.yield ⟨⟩) s → wpAny (model c.prog c.w) A (f e ⟨⟩) Q' E s) → Q ⟨⟩ s → wpAny (model c.prog c.w) A (forIn l PUnit.unit f) Q E s
  | [], _, h => by rw [List.forIn_nil]; exact wpAny_pure h
  | e :: l, hf, h => by
    rw [List.forIn_cons]
    exact wpAny_bind (hf e (.head _) _ (forIn_quiet l (fun e he => hf e (.tail _ he)) h))
theorem hash_one {es : List DictEntry} (nd : (es.map (·.hash)).Nodup) {e : DictEntry} (he : e ∈ es) : (es.filter (fun x => x.hash == e.hash)).length ≤ 1 := by
  induction es with
  | nil => cases he
  | cons x xs ih =>
    rw [List.map_cons, List.nodup_cons] at nd
    rcases List.mem_cons.mp he with rfl | he
    · have : xs.filter (fun x => x.hash == e.hash) = [] := by
        rw [List.filter_eq_nil_iff]
        intro y hy hq
        exact nd.1 (List.mem_map.mpr ⟨y, hy, by simpa using hq⟩)
      rw [List.filter_cons_of_pos (by simp), this]; simp
    · have : (x.hash == e.hash) = false := by
        simp only [beq_eq_false_iff_ne, ne_eq]
        intro q
        exact nd.1 (List.mem_map.mpr ⟨e, he, q.symm⟩)
      rw [List.filter_cons_of_neg (by simp [this])]
      exact ih nd.2 he
theorem hashes_of {h : Heap} {ys : List (List Int × Addr × Value × List Value)} {es : List (List Int × AV)} (ha : A2 (TR h) ys es) :
    List.map (fun e : DictEntry => e.hash) (List.map (entryOfKey (TKd c)) (List.map (fun y => (y.1, y.2.1, y.2.2.1)) ys)) = es.map fun p => (TKd c).hash p.1 := by
  induction ha with
  | nil => rfl
  | cons p _ ih =>
    simp only [List.map_cons, entryOfKey]
    rw [p.1, ih]
theorem b_dictT {d : Addr} {es : List (List Int × AV)} (hd : Rd c H d (.tdict es)) (hne : es ≠ []) (hz : es.length ≤ 1000) (nd : (es.map fun p => (TKd c).hash p.1).Nodup) (k : ∀ a, Φ (.ref a) ((a, .tdict es) :: H)) : OpC c A Z (.type "dict") [.ref d] H Φ := .con fun s vs S r => by
  obtain ⟨v, rfl, rv⟩ := r.one
  rw [rv.ref_inv]
  obtain ⟨⟨ys, ⟨o, ee, ep, ho, hex, hdat, hee, his, hnd⟩, ha⟩, hm⟩ := hd Z s S
  refine callType_codes (Q₁ := fun obj s₁ => obj = .ref s.heap.objs.size ∧ s₁ = { s with heap := s.heap.push { cls := .type "dict", data := .dict #[] } }) F.kt_called_dict (F.kt_typeCall_dict_1 _) F.entry_dict_init (kt_code_dict_new _ ⟨rfl, rfl⟩) ?_
  rintro obj s₁ ⟨rfl, rfl⟩
  have k1 : ∀ b x, s.heap.get? b = some x → (s.heap.push { cls := .type "dict", data := .dict #[] }).get? b = some x := fun _ _ e => Heap.get?_push_of_some _ e
  have hnew : (s.heap.push { cls := .type "dict", data := .dict #[] }).get? s.heap.objs.size = some { cls := .type "dict", data := .dict #[] } := Heap.get?_push_size _ rfl
  have ho' := k1 _ _ ho
  have hdo : s.heap.objs.size ≠ d := fun e => absurd (Heap.lt_size ho) (by rw [e]; exact Nat.lt_irrefl _)
  have hTn : Shared.TypeIs { s with heap := s.heap.push { cls := .type "dict", data := .dict #[] } } (.ref s.heap.objs.size) "dict" := ⟨_, hnew, rfl⟩
  have hTo : Shared.TypeIs { s with heap := s.heap.push { cls := .type "dict", data := .dict #[] } } (.ref d) "dict" := ⟨_, ho', hex.1⟩
  refine ⟨hTn, F.args_dict_init_2 _ _, ?_⟩
  unfold Builtin.«dict.__init__»
  refine wpAny_bind ?_
  unfold Builtin.Dict.selfAndRest
  refine wpAny_bind (wpAny_notOrdered_dict hTn ?_)
  show wpAny _ _ (pure (s.heap.objs.size, [Value.ref d])) _ _ _
  refine wpAny_pure ?_
  show wpAny _ _ (Builtin.Dict.updateFrom "dict.__init__" s.heap.objs.size (.ref d) [] .none) _ _ _
  unfold Builtin.Dict.updateFrom
  refine wpAny_bind (wpAny_typeOf hTo ?_)
  rw [if_neg (by decide)]
  refine wpAny_bind ?_
  unfold Builtin.Dict.merge
  refine wpAny_bind ?_
  unfold Builtin.Dict.readDirectly
  refine wpAny_bind (wpAny_isInstance hTo isSubtype_dict_dict ?_)
  simp only [Bool.not_true, Bool.false_eq_true, if_false]
  refine wpAny_bind (wpAny_specialOf hTo F.slot_dict_iter.lookup (wpAny_pure ?_))
  simp only [beq_self_eq_true, if_true]
  refine wpAny_bind (wpAny_pure ?_)
  have sz : ee.size = es.length := by rw [size_of_entries hee, List.length_map, ha.len]
  have hsz : 0 < ee.size := by
    rw [sz]
    cases es with
    | nil => exact absurd rfl hne
    | cons _ _ => simp
  have keys : ∀ e ∈ ee.toList, ∃ a vs, e.key = .ref a ∧ s.heap.get? a = some (tupObj vs) := fun e he => by
    rw [hee] at he
    obtain ⟨x, hx, rfl⟩ := List.mem_map.mp he
    obtain ⟨y, hy, rfl⟩ := List.mem_map.mp hx
    obtain ⟨i, hi, rfl⟩ := List.getElem_of_mem hy
    have hlt : i < es.length := by rw [← ha.len]; exact hi
    obtain ⟨y', hy', _, e2, _, _⟩ := ha.get (List.getElem?_eq_getElem hlt)
    rw [List.getElem?_eq_getElem hi] at hy'; cases hy'
    exact ⟨_, _, rfl, e2⟩
  have hfew : (decide (ee.size ≤ 8) && ee.all fun e => (keyPart e.key).isSome) = false := by
    have : (ee.all fun e => (keyPart e.key).isSome) = false := by
      cases hq : ee.all fun e => (keyPart e.key).isSome with
      | false => rfl
      | true =>
        rw [Array.all_eq_true'] at hq
        obtain ⟨a, vs, e1, _⟩ := keys ee[0] (by simp)
        have := hq ee[0] (by simp)
        rw [e1] at this
        cases this
    rw [this, Bool.and_false]
  have hash : (ee.toList.map (·.hash)).Nodup := by
    have : ee.toList.map (·.hash) = es.map fun p => (TKd c).hash p.1 := by
      rw [hee]
      exact hashes_of ha
    rw [this]; exact nd
  have fin : ∀ h', h'.get? s.heap.objs.size = some { cls := .type "dict", data := .dict ee (0 + 1) } → Heap.SameBut s.heap.objs.size (s.heap.push { cls := .type "dict", data := .dict #[] }) h' → Post c Z VR s Φ (.ref s.heap.objs.size) { s with heap := h' } := fun h' hg' hs => by
    have kk : ∀ b x, s.heap.get? b = some x → h'.get? b = some x := fun b x e => hs.extBut b x (Nat.ne_of_lt (Heap.lt_size e)) (k1 _ _ e)
    refine ⟨.ref _, _, .ref _, S.new (o := .tdict es) (fresh_size _) kk ⟨ys, ⟨_, ee, _, hg', ⟨rfl, rfl, rfl⟩, rfl, hee, fun x hx => isTupleKey_mono (.of_keep kk) (his x hx), hnd⟩, ha.mono fun _ _ q => ⟨q.1, kk _ _ q.2.1, q.2.2.1.mono (.of_keep kk), q.2.2.2.mono (.of_keep kk)⟩⟩ s.toks, .of_keep kk, k _⟩
  unfold Builtin.Dict.mergeDict
  rw [if_neg (by simpa using hdo)]
  unfold Builtin.Dict.showsAll
  rw [if_neg (by rw [hm]; exact Bool.false_ne_true)]
  refine wpAny_bind (wpAny_pure (wpAny_bind (wpAny_dictEntries ho' hdat ?_)))
  dsimp only
  rw [hfew]
  simp only [Bool.not_false, if_true]
  refine wpAny_bind (wpAny_dictEntries hnew rfl ?_)
  simp only [List.isEmpty_toArray, Array.isEmpty_empty, if_true]
  unfold Builtin.Dict.entriesForEmpty
  refine wpAny_bind (wpAny_bind (wpAny_dictEntries ho' hdat ?_))
  rw [← Array.forIn_toList]
  refine wpAny_bind (forIn_quiet _ (fun e he Q' hq => ?_) (wpAny_pure ?_))
  · obtain ⟨a, vs, e1, e2⟩ := keys e he
    rw [e1]
    refine wpAny_bind (quiet_tup (k1 _ _ e2) ?_)
    have : ¬ (ee.filter (·.hash == e.hash)).size > 1 := by
      have := hash_one hash he
      have e : (ee.filter (·.hash == e.hash)).size = (ee.toList.filter (·.hash == e.hash)).length := by
        rw [← Array.length_toList, Array.toList_filter]
      omega
    simp only [Bool.not_false, if_true, if_neg this]
    exact wpAny_pure hq
  · have hne' : (!ee.isEmpty) = true := by
      cases he : ee.isEmpty with
      | false => rfl
      | true => rw [Array.isEmpty_iff_size_eq_zero] at he; omega
    rw [if_pos hne']
    refine wpAny_bind (wpAny_updateDictKeysTo hnew rfl ?_ (by rw [sizeLine_eq]; omega))
    refine wpAny_pure ?_
    show wpAny _ _ (Builtin.Dict.addKeywords s.heap.objs.size [] >>= _) _ _ _
    refine wpAny_bind (wpAny_pure (wpAny_pure ⟨rfl, fin _ ?_ (Heap.SameBut.update ..)⟩))
    rw [Heap.get?_update_self _ hnew (Obj.isFreed_of_dict (Obj.data_mapDictKeys rfl _))]
    rfl
end
end Mine
end
section
open PySem PySem.W PySem.Calls PyProof.Rows
set_option Elab.async false
set_option maxRecDepth 100000
set_option linter.unusedVariables false
namespace Mine
section
variable (lt : Nat → Nat → Bool) (n : Nat)
noncomputable def Tri {α : Type} : KasT α → (α → Prop) → Prop
  | .ret a, Q => Q a
  | .ask i j k, Q => i < n ∧ j < n ∧ Tri (k (lt i j)) Q
variable {lt n}
theorem Tri.mono {α : Type} {Q Q' : α → Prop} (h : ∀ a, Q a → Q' a) : ∀ {t : KasT α}, Tri lt n t Q → Tri lt n t Q'
  | .ret a, q => h a q
  | .ask i j k, ⟨a, b, q⟩ => ⟨a, b, Tri.mono h q⟩
theorem Tri.bind {α β : Type} {Q : β → Prop} {f : α → KasT β} : ∀ {t : KasT α}, Tri lt n t (fun a => Tri lt n (f a) Q) → Tri lt n (t.bind f) Q
  | .ret a, q => q
  | .ask i j k, ⟨a, b, q⟩ => ⟨a, b, Tri.bind q⟩
theorem Tri.wp {α : Type} {cmp : Nat → Nat → (Bool → Shared → Prop) → Shared → Prop} {s : Shared} {Q : α → Prop} {R : α → Shared → Prop} (hc : ∀ i j (C : Bool → Shared → Prop), i < n → j < n → C (lt i j) s → cmp i j C s) (hR : ∀ a, Q a → R a s) :
    ∀ {t : KasT α}, Tri lt n t Q → t.kasWp cmp R s
  | .ret a, q => hR a q
  | .ask i j k, ⟨a, b, q⟩ => hc i j _ a b (Tri.wp hc hR q)
noncomputable abbrev gt (p : Array Nat) (i : Nat) : Nat := p.getD i 0
structure PV (n : Nat) (p : Array Nat) : Prop where
  sz : p.size = n
  lt : ∀ i, i < n → gt p i < n
  inj : ∀ i j, i < n → j < n → gt p i = gt p j → i = j
  pm : p.Perm (List.range n).toArray
structure Ord (lt : Nat → Nat → Bool) (n : Nat) : Prop where
  tot : ∀ i j, i < n → j < n → i ≠ j → lt i j = false → lt j i = true
  trans : ∀ i j k, i < n → j < n → k < n → lt i j = true → lt j k = true → lt i k = true
  asym : ∀ i j, i < n → j < n → lt i j = true → lt j i = false
noncomputable def SP (lt : Nat → Nat → Bool) (p : Array Nat) (m : Nat) : Prop := ∀ i j, i < j → j < m → lt (gt p i) (gt p j) = true
noncomputable def DP (lt : Nat → Nat → Bool) (p : Array Nat) (m : Nat) : Prop := ∀ i j, i < j → j < m → lt (gt p j) (gt p i) = true
variable {p : Array Nat}
theorem SP.step (O : Ord lt n) (V : PV n p) {k : Nat} (h1 : 1 ≤ k) (hk : k < n) (h : SP lt p k) (e : lt (gt p (k - 1)) (gt p k) = true) : SP lt p (k + 1) := fun i j hij hj => by
  by_cases q : j < k
  · exact h i j hij q
  · obtain rfl : j = k := by omega
    by_cases q' : i = j - 1
    · subst q'; exact e
    · exact O.trans _ _ _ (V.lt i (by omega)) (V.lt (j - 1) (by omega)) (V.lt j hk) (h i (j - 1) (by omega) (by omega)) e
theorem DP.step (O : Ord lt n) (V : PV n p) {k : Nat} (h1 : 1 ≤ k) (hk : k < n) (h : DP lt p k) (e : lt (gt p k) (gt p (k - 1)) = true) : DP lt p (k + 1) := fun i j hij hj => by
  by_cases q : j < k
  · exact h i j hij q
  · obtain rfl : j = k := by omega
    by_cases q' : i = j - 1
    · subst q'; exact e
    · exact O.trans _ _ _ (V.lt j hk) (V.lt (j - 1) (by omega)) (V.lt i (by omega)) e (h i (j - 1) (by omega) (by omega))
theorem asc_ok (O : Ord lt n) (V : PV n p) : ∀ (f k : Nat), 1 ≤ k → k + f ≤ n → SP lt p k → Tri lt n (kas_asc p f k) (fun m => k ≤ m ∧ m ≤ k + f ∧ SP lt p m ∧ (m < k + f → lt (gt p m) (gt p (m - 1)) = true))
  | 0, k, h1, hk, h => ⟨Nat.le_refl _, Nat.le_refl _, h, fun q => absurd q (by omega)⟩
  | f + 1, k, h1, hk, h => by
    refine ⟨V.lt k (by omega), V.lt (k - 1) (by omega), ?_⟩
    cases c : lt (gt p k) (gt p (k - 1)) with
    | true => exact ⟨Nat.le_refl _, by omega, h, fun _ => c⟩
    | false =>
      have e : lt (gt p (k - 1)) (gt p k) = true := O.tot _ _ (V.lt k (by omega)) (V.lt (k - 1) (by omega)) (fun q => by have := V.inj _ _ (by omega) (by omega) q; omega) c
      exact Tri.mono (fun m ⟨a, b, d, g⟩ => ⟨by omega, by omega, d, fun q => g (by omega)⟩) (asc_ok O V f (k + 1) (by omega) (by omega) (h.step O V h1 (by omega) e))
theorem desc_ok (O : Ord lt n) (V : PV n p) : ∀ (f k : Nat), 1 ≤ k → k + f ≤ n → DP lt p k → Tri lt n (kas_desc f p k 0) (fun r => r.1 = p ∧ r.2.2 = 0 ∧ k ≤ r.2.1 ∧ r.2.1 ≤ k + f ∧ DP lt p r.2.1)
  | 0, k, h1, hk, h => ⟨rfl, rfl, Nat.le_refl _, Nat.le_refl _, h⟩
  | f + 1, k, h1, hk, h => by
    refine ⟨V.lt k (by omega), V.lt (k - 1) (by omega), ?_⟩
    cases c : lt (gt p k) (gt p (k - 1)) with
    | true => exact Tri.mono (fun r ⟨a, b, d, e, g⟩ => ⟨a, b, by omega, by omega, g⟩) (desc_ok O V f (k + 1) (by omega) (by omega) (h.step O V h1 (by omega) c))
    | false =>
      have e : lt (gt p (k - 1)) (gt p k) = true := O.tot _ _ (V.lt k (by omega)) (V.lt (k - 1) (by omega)) (fun q => by have := V.inj _ _ (by omega) (by omega) q; omega) c
      refine ⟨V.lt (k - 1) (by omega), V.lt k (by omega), ?_⟩
      show Tri lt n (if lt (gt p (k - 1)) (gt p k) = true then _ else _) _
      rw [if_pos e]
      exact ⟨rfl, rfl, Nat.le_refl _, by show k ≤ k + (f + 1); omega, h⟩
theorem gt_rev (hm : m ≤ p.size) (k : Nat) : gt (kas_rev p 0 m) k = if k < m then gt p (m - 1 - k) else gt p k := by
  unfold kas_rev gt
  have e := getElem?_mirror_all (i := 0) hm k
  simp only [Nat.sub_zero, Nat.zero_add, Nat.zero_le, true_and] at e ⊢
  simp only [Array.getD_eq_getD_getElem?]
  rw [e]
  split <;> rfl
theorem PV.rev (V : PV n p) {m : Nat} (hm : m ≤ n) : PV n (kas_rev p 0 m) := by
  have hm' : m ≤ p.size := by rw [V.sz]; exact hm
  refine ⟨by unfold kas_rev; rw [mirror_size]; exact V.sz, fun i hi => ?_, fun i j hi hj e => ?_, (mirror_perm _ _ _ _).trans V.pm⟩
  · rw [gt_rev hm']; split
    · exact V.lt _ (by omega)
    · exact V.lt _ hi
  · rw [gt_rev hm', gt_rev hm'] at e
    split at e <;> split at e
    · have := V.inj _ _ (by omega) (by omega) e; omega
    · have := V.inj _ _ (by omega) (by omega) e; omega
    · have := V.inj _ _ (by omega) (by omega) e; omega
    · exact V.inj _ _ hi hj e
theorem DP.rev (V : PV n p) {m : Nat} (hm : m ≤ n) (h : DP lt p m) : SP lt (kas_rev p 0 m) m := fun i j hij hj => by
  have hm' : m ≤ p.size := by rw [V.sz]; exact hm
  rw [gt_rev hm', gt_rev hm', if_pos (by omega), if_pos hj]
  exact h _ _ (by omega) (by omega)
noncomputable def CntOk (lt : Nat → Nat → Bool) (n : Nat) (r : Nat × Array Nat) : Prop := PV n r.2 ∧ 1 ≤ r.1 ∧ r.1 ≤ n ∧ SP lt r.2 r.1
theorem tail3_ok (O : Ord lt n) (V : PV n p) {m : Nat} (h1 : 1 ≤ m) (hm : m ≤ n) (h : DP lt p m) : Tri lt n (kas_tail3 m n p) (CntOk lt n) :=
  Tri.bind (Tri.mono (fun k ⟨a, b, d, _⟩ => ⟨V.rev hm, by show 1 ≤ k; omega, by show k ≤ n; omega, d⟩) (asc_ok O (V.rev hm) (n - m) m h1 (by omega) (h.rev V hm)))
theorem SP_one (p : Array Nat) : SP lt p 1 := fun i j hij hj => by omega
theorem count_ok (O : Ord lt n) (V : PV n p) (h2 : 2 ≤ n) : Tri lt n (kas_count n p) (CntOk lt n) := by
  refine Tri.bind (Tri.mono (fun m ⟨a, b, d, e⟩ => ?_) (asc_ok O V (n - 1) 1 (Nat.le_refl _) (by omega) (SP_one p)))
  by_cases hm : m = n
  · rw [if_pos (by simpa using hm)]
    exact ⟨V, a, by show m ≤ n; omega, d⟩
  · rw [if_neg (by simpa using hm)]
    by_cases h1 : m > 1
    · rw [if_pos h1]
      refine ⟨V.lt 0 (by omega), V.lt (m - 1) (by omega), ?_⟩
      have : lt (gt p 0) (gt p (m - 1)) = true := d 0 (m - 1) (by omega) (by omega)
      show Tri lt n (if lt (gt p 0) (gt p (m - 1)) = true then _ else _) _
      rw [if_pos this]
      exact ⟨V, a, by show m ≤ n; omega, d⟩
    · rw [if_neg h1]
      obtain rfl : m = 1 := by omega
      have hd : DP lt p 2 := fun i j hij hj => by
        obtain rfl : j = 1 := by omega
        obtain rfl : i = 0 := by omega
        exact e (by omega)
      refine Tri.bind (Tri.mono (fun r ⟨e1, e2, e3, e4, e5⟩ => ?_) (desc_ok O V (n - 2) 2 (by omega) (by omega) hd))
      rw [e2, if_neg (by omega), e1]
      exact tail3_ok O V (by omega) (by omega) e5
theorem place_ok (O : Ord lt n) (V : PV n p) {k : Nat} (hk : k < n) (h : SP lt p k) : ∀ (f l r : Nat), l ≤ r → r ≤ k → r - l ≤ f → (∀ i, i < l → lt (gt p i) (gt p k) = true) → (∀ i, r ≤ i → i < k → lt (gt p k) (gt p i) = true) →
    Tri lt n (kas_place p k f l r) (fun m => m ≤ k ∧ (∀ i, i < m → lt (gt p i) (gt p k) = true) ∧ ∀ i, m ≤ i → i < k → lt (gt p k) (gt p i) = true)
  | 0, l, r, h1, h2, h3, ha, hb => ⟨by omega, ha, fun i hi hik => hb i (by omega) hik⟩
  | f + 1, l, r, h1, h2, h3, ha, hb => by
    unfold kas_place
    by_cases hlr : l ≥ r
    · rw [if_pos hlr]
      exact ⟨by omega, ha, fun i hi hik => hb i (by omega) hik⟩
    · rw [if_neg hlr]
      have hmid : (l + r) / 2 < r := by omega
      have hmid' : l ≤ (l + r) / 2 := by omega
      refine ⟨V.lt k hk, V.lt _ (by omega), ?_⟩
      generalize (l + r) / 2 = mid at hmid hmid'
      cases c : lt (gt p k) (gt p mid) with
      | true =>
        refine place_ok O V hk h f l mid (by omega) (by omega) (by omega) ha fun i hi hik => ?_
        by_cases q : i = mid
        · subst q; exact c
        · exact O.trans _ _ _ (V.lt k hk) (V.lt mid (by omega)) (V.lt i (by omega)) c (h mid i (by omega) hik)
      | false =>
        have e : lt (gt p mid) (gt p k) = true := O.tot _ _ (V.lt k hk) (V.lt mid (by omega)) (fun q => by have := V.inj _ _ hk (by omega) q; omega) c
        refine place_ok O V hk h f (mid + 1) r (by omega) h2 (by omega) (fun i hi => ?_) hb
        by_cases q : i = mid
        · subst q; exact e
        · exact O.trans _ _ _ (V.lt i (by omega)) (V.lt mid (by omega)) (V.lt k hk) (h i mid (by omega) (by omega)) e
theorem gt_bub {k l : Nat} (hk : k < p.size) (hl : l ≤ k) (i : Nat) : gt (bubble p k (k - l)) i = if i = l then gt p k else if l < i ∧ i ≤ k then gt p (i - 1) else gt p i := by
  have e := getElem?_bubble hk (k - l) (by omega) i
  rw [show k - (k - l) = l by omega] at e
  unfold gt
  simp only [Array.getD_eq_getD_getElem?]
  rw [e]
  split
  · rfl
  · split <;> rfl
theorem PV.bub (V : PV n p) {k l : Nat} (hk : k < n) (hl : l ≤ k) : PV n (bubble p k (k - l)) := by
  have hk' : k < p.size := by rw [V.sz]; exact hk
  have src : ∀ i, i < n → ∃ j, j < n ∧ gt (bubble p k (k - l)) i = gt p j ∧ ((i = l ∧ j = k) ∨ (l < i ∧ i ≤ k ∧ j + 1 = i) ∨ (i < l ∧ j = i) ∨ (k < i ∧ j = i)) := fun i hi => by
    have e := gt_bub hk' hl i
    by_cases h1 : i = l
    · rw [if_pos h1] at e; exact ⟨k, hk, e, .inl ⟨h1, rfl⟩⟩
    · rw [if_neg h1] at e
      by_cases h2 : l < i ∧ i ≤ k
      · rw [if_pos h2] at e; exact ⟨i - 1, by omega, e, .inr (.inl ⟨h2.1, h2.2, by omega⟩)⟩
      · rw [if_neg h2] at e
        refine ⟨i, hi, e, ?_⟩
        by_cases h3 : i < l
        · exact .inr (.inr (.inl ⟨h3, rfl⟩))
        · exact .inr (.inr (.inr ⟨by omega, rfl⟩))
  refine ⟨by rw [bubble_size]; exact V.sz, fun i hi => ?_, fun i j hi hj e => ?_, (bubble_perm _ _ _).trans V.pm⟩
  · obtain ⟨j, hj, e, _⟩ := src i hi
    rw [e]; exact V.lt j hj
  · obtain ⟨i', hi', e1, c1⟩ := src i hi
    obtain ⟨j', hj', e2, c2⟩ := src j hj
    rw [e1, e2] at e
    have := V.inj _ _ hi' hj' e
    omega
theorem bin_ok (O : Ord lt n) : ∀ (f : Nat) (p : Array Nat) (k : Nat), PV n p → 1 ≤ k → k + f = n → SP lt p k → Tri lt n (kas_bin f p k) (fun q => PV n q ∧ SP lt q n)
  | 0, p, k, V, h1, hk, h => ⟨V, by rw [← hk]; exact h⟩
  | f + 1, p, k, V, h1, hk, h => by
    refine Tri.bind (Tri.mono (fun l ⟨hl, ha, hb⟩ => ?_) (place_ok O V (k := k) (by omega) h k 0 k (Nat.zero_le _) (Nat.le_refl _) (by omega) (fun i hi => absurd hi (by omega)) (fun i h1 h2 => absurd h2 (by omega))))
    have hk' : k < p.size := by rw [V.sz]; omega
    refine bin_ok O f _ (k + 1) (V.bub (by omega) hl) (by omega) (by omega) fun i j hij hj => ?_
    have ei := gt_bub hk' hl i
    have ej := gt_bub hk' hl j
    by_cases i1 : i = l
    · rw [if_pos i1] at ei
      rw [if_neg (by omega), if_pos (by omega)] at ej
      rw [ei, ej]
      exact hb _ (by omega) (by omega)
    · rw [if_neg i1] at ei
      by_cases i2 : l < i ∧ i ≤ k
      · rw [if_pos i2] at ei
        rw [if_neg (by omega), if_pos (by omega)] at ej
        rw [ei, ej]
        exact h _ _ (by omega) (by omega)
      · rw [if_neg i2] at ei
        rw [ei]
        by_cases j1 : j = l
        · rw [if_pos j1] at ej
          rw [ej]
          exact ha _ (by omega)
        · rw [if_neg j1] at ej
          by_cases j2 : l < j ∧ j ≤ k
          · rw [if_pos j2] at ej
            rw [ej]
            exact h _ _ (by omega) (by omega)
          · rw [if_neg j2] at ej
            rw [ej]
            exact h _ _ hij (by omega)
theorem PV.range : PV n (List.range n).toArray := by
  have g : ∀ i, i < n → gt (List.range n).toArray i = i := fun i hi => by simp [gt, hi]
  exact ⟨by simp, fun i hi => by rw [g i hi]; exact hi, fun i j hi hj e => by rw [g i hi, g j hj] at e; exact e, .refl _⟩
theorem sort_ok (O : Ord lt n) (h2 : 2 ≤ n) : Tri lt n (kas_sort n) (fun q => PV n q ∧ SP lt q n) := by
  refine Tri.bind (Tri.mono (fun r ⟨V, a, b, d⟩ => ?_) (count_ok O (p := (List.range n).toArray) PV.range h2))
  by_cases h : r.1 < n
  · rw [if_pos h, show max r.1 1 = r.1 by omega]
    exact bin_ok O _ _ _ V a (by omega) d
  · rw [if_neg h]
    have : r.1 = n := by omega
    rw [this] at d
    exact ⟨V, d⟩
end
end Mine
end
section
open PySem PySem.W PySem.Calls PyProof.Rows
set_option Elab.async false
set_option maxRecDepth 100000
set_option linter.unusedVariables false
namespace Mine
noncomputable def lexLt : List Int → List Int → Bool
  | [], [] => false
  | [], _ :: _ => true
  | _ :: _, [] => false
  | a :: x, b :: y => if a = b then lexLt x y else decide (a < b)
theorem lex_tot : ∀ {x y : List Int}, x ≠ y → lexLt x y = false → lexLt y x = true
  | [], [], h, _ => absurd rfl h
  | [], _ :: _, _, h => by cases h
  | _ :: _, [], _, _ => rfl
  | a :: x, b :: y, h, e => by
    unfold lexLt at e ⊢
    by_cases q : a = b
    · subst q
      rw [if_pos rfl] at e ⊢
      exact lex_tot (fun z => h (by rw [z])) e
    · rw [if_neg q] at e
      rw [if_neg fun z => q z.symm]
      have : ¬ a < b := by simpa using e
      simp; omega
theorem lex_trans : ∀ {x y z : List Int}, lexLt x y = true → lexLt y z = true → lexLt x z = true
  | [], [], _, h, _ => by cases h
  | [], _ :: _, [], _, h => by cases h
  | [], _ :: _, _ :: _, _, _ => rfl
  | _ :: _, [], _, h, _ => by cases h
  | _ :: _, _ :: _, [], _, h => by cases h
  | a :: x, b :: y, d :: z, h, k => by
    unfold lexLt at h k ⊢
    by_cases q : a = b
    · subst q
      rw [if_pos rfl] at h
      by_cases q' : a = d
      · subst q'
        rw [if_pos rfl] at k ⊢
        exact lex_trans h k
      · rw [if_neg q'] at k ⊢; exact k
    · rw [if_neg q] at h
      have h1 : a < b := by simpa using h
      by_cases q' : b = d
      · subst q'
        rw [if_neg q]; exact h
      · rw [if_neg q'] at k
        have k1 : b < d := by simpa using k
        rw [if_neg (by omega)]; simp; omega
theorem lex_irr : ∀ x : List Int, lexLt x x = false
  | [] => rfl
  | a :: x => by unfold lexLt; rw [if_pos rfl]; exact lex_irr x
section
variable {c : Cx} {A : Around} {Z : List (Addr × Obj)} {H H' : AHeap} {env : Env} {Φ : AV → AHeap → Prop} {n : Nat}
theorem kat_lexI {h : Heap} {A : Around} {Q : Bool → Shared → Prop} {s : Shared} : ∀ {xs ys : List Value} {x y : List Int} (i : Nat), VRs h xs (x.map .int) → VRs h ys (y.map .int) → x.length = y.length → Q (lexLt x y) s → KatLex c.prog c.w A true false Q (xs.zip ys) i s
  | xs, ys, [], [], i, r1, r2, _, q => by cases r1; cases r2; exact kat_nil q
  | xs, ys, a :: x, b :: y, i, r1, r2, hl, q => by
    rw [List.map_cons] at r1 r2
    cases r1 with | cons p r1 =>
    cases r2 with | cons p' r2 =>
    obtain ⟨t, rfl⟩ := p.int_inv
    obtain ⟨t', rfl⟩ := p'.int_inv
    rw [List.zip_cons_cons]
    refine kat_cons (SeqAt.EqAt.int_int a t b t' _ _ _ _ ?_)
    by_cases e : a = b
    · subst e
      rw [show (a == a) = true by simp]
      unfold lexLt at q
      rw [if_pos rfl] at q
      exact kat_yes (kat_lexI (i + 1) r1 r2 (by simpa using hl) q)
    · rw [show (a == b) = false by simpa using e]
      unfold lexLt at q
      rw [if_neg e] at q
      refine kat_no ?_
      by_cases hi : i = 0
      · subst hi
        exact oneLt_int q
      · rw [show (true && i == 0) = false by simpa using hi]
        exact kat_one _ _ (PyProof.Rows.lt_int q)
theorem katT {h : Heap} {d : Nat} : ∀ {vs : List Value} {ls : List (List Int)}, VRs h vs (ls.map fun x => .tup (x.map .int)) → (∀ x ∈ ls, x.length = d + 1) → ∃ fs, KatTups h vs fs ∧ fs.length = ls.length ∧ ∀ v ∈ fs, ∃ i t, v = Value.int i t
  | vs, [], r, _ => by cases r; exact ⟨[], .nil, rfl, fun v h => by cases h⟩
  | vs, x :: ls, r, hl => by
    rw [List.map_cons] at r
    cases r with | cons p r =>
    obtain ⟨fs, k, l, hf⟩ := katT r fun y hy => hl y (.tail _ hy)
    obtain ⟨a, us, rfl, hg, hv⟩ := p.tup_inv
    cases x with
    | nil => have := hl [] (.head _); simp at this
    | cons i x =>
      rw [List.map_cons] at hv
      cases hv with | @cons u _ us _ q hv =>
      obtain ⟨t, rfl⟩ := q.int_inv
      refine ⟨.int i t :: fs, KatTups.cons hg rfl rfl (by simp) k, by simp [l], fun v hv => ?_⟩
      rcases List.mem_cons.mp hv with rfl | hv
      · exact ⟨i, t, rfl⟩
      · exact hf v hv
theorem ordL {ls : List (List Int)} (nd : ls.Nodup) : Ord (fun i j => lexLt (ls.getD i []) (ls.getD j [])) ls.length where
  tot := fun i j hi hj hne e => lex_tot (fun q => hne (by
    have h1 : ls.getD i [] = ls[i] := by simp [hi]
    have h2 : ls.getD j [] = ls[j] := by simp [hj]
    rw [h1, h2] at q
    rcases Nat.lt_trichotomy i j with z | z | z
    · exact absurd q ((List.pairwise_iff_getElem.mp nd) i j hi hj z)
    · exact z
    · exact absurd q.symm ((List.pairwise_iff_getElem.mp nd) j i hj hi z))) e
  trans := fun i j k _ _ _ a b => lex_trans a b
  asym := fun i j _ _ a => by
    cases b : lexLt (ls.getD j []) (ls.getD i []) with
    | false => rfl
    | true => have := lex_trans a b; rw [lex_irr] at this; cases this
theorem b_sorted {L l : Addr} {m : List (Str × AV)} {ls : List (List Int)} {d : Nat} (hm : (L, .ns m) ∈ H) (hd : Rd c H l (.list (ls.map fun x => .tup (x.map .int)))) (h2 : 2 ≤ ls.length) (h64 : ls.length < 64) (hlen : ∀ x ∈ ls, x.length = d + 1) (nd : ls.Nodup)
    (k : ∀ a out, List.Perm out ls → out.Pairwise (fun x y => lexLt x y = true) → Φ (.ref a) ((a, .list (out.map fun x => .tup (x.map .int))) :: H)) : OpC c A Z (.builtin "sorted") [.ref l] H Φ := .con fun s vs S r => by
  obtain ⟨v, rfl, rv⟩ := r.one
  rw [rv.ref_inv]
  obtain ⟨⟨vs, nn, hg, hv⟩, _⟩ := hd Z s S
  have hl : s.heap.IsList l vs.toArray := ⟨_, hg, rfl, nn, rfl⟩
  have e := hv.len
  rw [List.length_map] at e
  obtain ⟨mm, news, F, N, full, back⟩ := S.frame hm
  refine kat_sorted F N hl (by omega) (by omega) fun D e1 h' F' N' hD => ?_
  obtain ⟨S', tk, keep⟩ := back h' s.toks F' fun p hp => N' p (.tail _ hp)
  have hv' := hv.mono tk
  obtain ⟨fs, kt, fl, hf⟩ := katT hv' hlen
  refine kat_kind (T := .type "int") kt (by omega) (fun v hv => ?_) (by decide) ?_
  · obtain ⟨i, t, rfl⟩ := hf v hv
    exact Looks.of_pure rfl
  have hDL : D ≠ L := (N' _ (.head _)).2.1
  have hDs : s.heap.get? D = none := by
    cases q : s.heap.get? D with
    | none => rfl
    | some ob => exact absurd (hD _ (full D ob hDL q)) (Nat.lt_irrefl _)
  rw [e]
  refine Tri.wp (lt := fun i j => lexLt (ls.getD i []) (ls.getD j [])) (n := ls.length) (fun i j C hi hj hC => ?_) (fun p hp => ?_) (sort_ok (ordL nd) h2)
  · unfold kas_ask
    obtain ⟨x, hx, rx⟩ := hv'.get (i := i) (a := .tup ((ls.getD i []).map .int)) (by simp [hi])
    obtain ⟨y, hy, ry⟩ := hv'.get (i := j) (a := .tup ((ls.getD j []).map .int)) (by simp [hj])
    have ex : vs.getD i Value.none = x := by simp [List.getD, hx]
    have ey : vs.getD j Value.none = y := by simp [List.getD, hy]
    rw [ex, ey]
    obtain ⟨a, xs, rfl, hgx, hvx⟩ := rx.tup_inv
    obtain ⟨b, ys, rfl, hgy, hvy⟩ := ry.tup_inv
    have lx : (ls.getD i []).length = d + 1 := hlen _ (by simp [hi])
    have ly : (ls.getD j []).length = d + 1 := hlen _ (by simp [hj])
    refine kat_lt hgx rfl hgy rfl ?_
    have l1 := hvx.len
    have l2 := hvy.len
    rw [List.length_map] at l1 l2
    have ef : decide (xs.toArray.size < ys.toArray.size) = false := by simp; omega
    rw [ef]
    exact kat_lexI 0 hvx hvy (by omega) hC
  · obtain ⟨V, sp⟩ := hp
    refine KasFin.intro F' N' (.head fun q hq => Nat.ne_of_lt (hD q hq)) fun h'' cc F2 N2 => ?_
    obtain ⟨S2, tk2, _⟩ := back h'' s.toks F2 fun p hp => N2 p (.tail _ hp)
    have hgD : h''.get? D = some (listOf (List.toArray (p.toList.map fun i => vs.getD i Value.none)) cc) := (N2 _ (.head _)).1
    have out : VRs h'' (p.toList.map fun i => vs.getD i Value.none) ((p.toList.map fun i => ls.getD i []).map fun x => .tup (x.map .int)) := by
      have hin : ∀ i ∈ p.toList, i < ls.length := fun i hi => by
        have := V.pm.toList.mem_iff.mp hi
        simpa using this
      generalize p.toList = pl at hin
      induction pl with
      | nil => exact .nil
      | cons i pl ih =>
        refine .cons ?_ (ih fun j hj => hin j (.tail _ hj))
        have hi := hin i (.head _)
        obtain ⟨x, hx, rx⟩ := hv.get (i := i) (a := .tup ((ls.getD i []).map .int)) (by simp [hi])
        have ex : vs.getD i Value.none = x := by simp [List.getD, hx]
        dsimp only
        rw [ex]
        exact rx.mono tk2
    have off : ∀ p ∈ H, p.1 ≠ D := fun p hp q => by
      obtain ⟨ob, hob, _⟩ := S.alloced (o := p.2) (a := p.1) hp
      rw [q, hDs] at hob; cases hob
    refine ⟨.ref D, _, .ref _, S2.add (a := D) (o := .list ((p.toList.map fun i => ls.getD i []).map fun x => .tup (x.map .int))) ⟨_, _, hgD, out⟩ off (fun q hq e => ?_) ?_, tk2, k D (p.toList.map fun i => ls.getD i []) ?_ ?_⟩
    · have := S.extra q hq
      rw [e, hDs] at this; cases this
    · refine ⟨?_, ?_⟩
      · cases q : c.B.get? D with
        | none => rfl
        | some ob => have := S.base _ _ q; rw [hDs] at this; cases this
      · obtain ⟨mg, o, es, ep, ho, _⟩ := c.g
        have hne : mainGlobals ≠ L := fun q => by
          have := (S.offB _ hm).1
          dsimp only at this
          rw [← q, ho] at this; cases this
        have h1 : mainGlobals < D := hD _ (full _ _ hne (S.base _ _ ho))
        have h2 : sysModules < mainGlobals := by decide
        cases q : D == sysModules with
        | false => rfl
        | true => rw [beq_iff_eq.mp q] at h1; exact absurd (Nat.lt_trans h1 h2) (Nat.lt_irrefl _)
    · have h1 := V.pm.toList.map (fun i => ls.getD i [])
      refine h1.trans ?_
      have : (List.range ls.length).map (fun i => ls.getD i []) = ls := by
        apply List.ext_getElem
        · simp
        · intro i h1 h2
          simp [h2]
      rw [show (List.range ls.length).toArray.toList = List.range ls.length by simp, this]
    · rw [List.pairwise_iff_getElem]
      intro i j hi hj hij
      have hs : p.toList.length = ls.length := by rw [Array.length_toList]; exact V.sz
      have hi' : i < ls.length := by simpa [hs] using hi
      have hj' : j < ls.length := by simpa [hs] using hj
      have := sp i j hij hj'
      have e1 : gt p i = p.toList[i]'(by omega) := by
        have : i < p.size := by rw [V.sz]; exact hi'
        simp [gt, Array.getD_eq_getD_getElem?, this]
      have e2 : gt p j = p.toList[j]'(by omega) := by
        have : j < p.size := by rw [V.sz]; exact hj'
        simp [gt, Array.getD_eq_getD_getElem?, this]
      rw [e1, e2] at this
      simpa using this
end
end Mine
end
section
open PySem PySem.W PySem.Calls PyProof.Rows
set_option Elab.async false
set_option maxRecDepth 100000
set_option linter.unusedVariables false
namespace Mine
section
variable {c : Cx} {A : Around} {Z : List (Addr × Obj)} {H H' : AHeap} {env : Env} {Φ : AV → AHeap → Prop} {n : Nat}
/-- the outer turn of a list comprehension of two clauses -/
noncomputable def lcBody2 (elt : Expr) (g0 g : Comprehension) (scope : Scope) (pos : Pos) (cl : List (Str × Addr)) (env : Env) (C acc : Addr) : Sem Unit :=
  eval g.iter (cEnv scope cl C env) >>= fun x => standAt g.iter.pos >>= fun _ => foldedSetIterable g.iter (cEnv scope cl C env) x >>= fun x => holding [x] (pyIter x) >>= fun it => runOwn (.compStart (.ListComp elt [g0, g] scope pos) 1 it (.ref acc) (cEnv scope cl C env)) (cEnv scope cl C env) >>= fun _ => (pure () : Sem Unit)
theorem turn2 {elt : Expr} {g0 g : Comprehension} {scope : Scope} {pos : Pos} {cl : List (Str × Addr)} {it acc C : Addr} {t : Sem Fin}
    (h : t = (standAt g0.iter.pos >>= fun _ => pyNext (.ref it) >>= fun r => match r with
      | none => pure (.done .next)
      | some v => letOwnedTupleGo g0.target (.ref it) v >>= fun _ => assign g0.target (cEnv scope cl C env) v >>= fun _ => eval g.iter (cEnv scope cl C env) >>= fun x => standAt g.iter.pos >>= fun _ => foldedSetIterable g.iter (cEnv scope cl C env) x >>= fun x => holding [x] (pyIter x) >>= fun it' => runOwn (.compStart (.ListComp elt [g0, g] scope pos) 1 it' (.ref acc) (cEnv scope cl C env)) (cEnv scope cl C env) >>= fun _ => again (.compLoop (.ListComp elt [g0, g] scope pos) 0 (.ref it) (.ref acc) (cEnv scope cl C env)))) :
    t = (standAt g0.iter.pos >>= fun _ => pyNext (.ref it) >>= fun r => match r with
      | none => pure (.done .next)
      | some v => letOwnedTupleGo g0.target (.ref it) v >>= fun _ => assign g0.target (cEnv scope cl C env) v >>= fun _ => lcBody2 elt g0 g scope pos cl env C acc >>= fun _ => again (.compLoop (.ListComp elt [g0, g] scope pos) 0 (.ref it) (.ref acc) (cEnv scope cl C env))) := by
  rw [h]
  simp only [lcBody2, bind_assoc, pure_bind]
theorem EV_LC2 {elt : Expr} {g0 g : Comprehension} {scope : Scope} {pos fp : Pos} (cl : List (Str × Addr))
    (h : EV c A Z env g0.iter H fun v H₁ => ∃ (l : List AV) (D : AHeap → Prop) (I : Nat → List AV → AHeap → Prop), Loop c A g0.target v H₁ l D ∧ I 0 [] H₁ ∧ (∀ i ys Hr C acc m, I i ys Hr → D ((C, .ns m) :: (acc, .list ys) :: Hr)) ∧
      LCTurns c A (fun C => cEnv scope cl C env) (lcBody2 elt g0 g scope pos cl env) g0.target l I ∧ ∀ ys Hr acc, I l.length ys Hr → Φ (.ref acc) ((acc, .list ys) :: Hr))
    (hturn : ∀ (it acc C : Addr), compTurn (.ListComp elt [g0, g] scope pos) 0 (.ref it) (.ref acc) (cEnv scope cl C env) = (standAt g0.iter.pos >>= fun _ => pyNext (.ref it) >>= fun r => match r with
      | none => pure (.done .next)
      | some v => letOwnedTupleGo g0.target (.ref it) v >>= fun _ => assign g0.target (cEnv scope cl C env) v >>= fun _ => eval g.iter (cEnv scope cl C env) >>= fun x => standAt g.iter.pos >>= fun _ => foldedSetIterable g.iter (cEnv scope cl C env) x >>= fun x => holding [x] (pyIter x) >>= fun it' => runOwn (.compStart (.ListComp elt [g0, g] scope pos) 1 it' (.ref acc) (cEnv scope cl C env)) (cEnv scope cl C env) >>= fun _ => again (.compLoop (.ListComp elt [g0, g] scope pos) 0 (.ref it) (.ref acc) (cEnv scope cl C env))) := by intro _ _ _; with_unfolding_all rfl)
    (he : eval (.ListComp elt [g0, g] scope pos) env = comprehension (.ListComp elt [g0, g] scope pos) scope env fp (newList []) false (eval g0.iter env) none := by with_unfolding_all rfl)
    (hga : g0.is_async = 0 := by with_unfolding_all rfl) (hs : ∀ x, foldedSetIterable g0.iter env x = pure x := by intro _; with_unfolding_all rfl) (hclos : closureFor scope env = pure cl := by with_unfolding_all rfl) (hsc : ScOk scope = true := by with_unfolding_all rfl) :
    EV c A Z env (.ListComp elt [g0, g] scope pos) H Φ :=
  EV_LC cl (lcBody2 elt g0 g scope pos cl env) h (fun it acc C => turn2 (hturn it acc C)) he hga hs hclos hsc
theorem EX_AssignLC2 {x : Str} {pos' spos : Pos} {rest : List Stmt} {elt : Expr} {g0 g : Comprehension} {scope : Scope} {pos fp : Pos} {Φ : AF → AHeap → Prop} (cl : List (Str × Addr))
    (h : EV c A Z env g0.iter H fun v H₁ => ∃ (l : List AV) (D : AHeap → Prop) (I : Nat → List AV → AHeap → Prop), Loop c A g0.target v H₁ l D ∧ I 0 [] H₁ ∧ (∀ i ys Hr C acc m, I i ys Hr → D ((C, .ns m) :: (acc, .list ys) :: Hr)) ∧
      LCTurns c A (fun C => cEnv scope cl C env) (lcBody2 elt g0 g scope pos cl env) g0.target l I ∧ ∀ ys Hr acc, I l.length ys Hr → ∃ m m' Hr', Put env.locals (.ns m) (.ns m') Hr Hr' ∧ NPut m x (.ref acc) m' ∧ EX c A Z env rest ((acc, .list ys) :: Hr') Φ)
    (hturn : ∀ (it acc C : Addr), compTurn (.ListComp elt [g0, g] scope pos) 0 (.ref it) (.ref acc) (cEnv scope cl C env) = (standAt g0.iter.pos >>= fun _ => pyNext (.ref it) >>= fun r => match r with
      | none => pure (.done .next)
      | some v => letOwnedTupleGo g0.target (.ref it) v >>= fun _ => assign g0.target (cEnv scope cl C env) v >>= fun _ => eval g.iter (cEnv scope cl C env) >>= fun x => standAt g.iter.pos >>= fun _ => foldedSetIterable g.iter (cEnv scope cl C env) x >>= fun x => holding [x] (pyIter x) >>= fun it' => runOwn (.compStart (.ListComp elt [g0, g] scope pos) 1 it' (.ref acc) (cEnv scope cl C env)) (cEnv scope cl C env) >>= fun _ => again (.compLoop (.ListComp elt [g0, g] scope pos) 0 (.ref it) (.ref acc) (cEnv scope cl C env))) := by intro _ _ _; with_unfolding_all rfl)
    (hsw : swapsWith (.ListComp elt [g0, g] scope pos) (some (.Name x pos')) spos.line env = pure true := by with_unfolding_all rfl)
    (he : evalThenUse (.ListComp elt [g0, g] scope pos) env (assign (.Name x pos') env) = (do let _ ← comprehension (.ListComp elt [g0, g] scope pos) scope env fp (newList []) false (eval g0.iter env) (some (assign (.Name x pos') env))) := by with_unfolding_all rfl)
    (hl : env.kindOf x = some .local := by with_unfolding_all rfl) (hp : (env.scope.kind == .class || (env.scope.kind == .module && env.locals != env.globals)) = false := by with_unfolding_all rfl)
    (hga : g0.is_async = 0 := by with_unfolding_all rfl) (hs : ∀ x, foldedSetIterable g0.iter env x = pure x := by intro _; with_unfolding_all rfl) (hclos : closureFor scope env = pure cl := by with_unfolding_all rfl) (hsc : ScOk scope = true := by with_unfolding_all rfl) :
    EX c A Z env (.Assign [.Name x pos'] (.ListComp elt [g0, g] scope pos) spos :: rest) H Φ :=
  EX_AssignLC cl (lcBody2 elt g0 g scope pos cl env) h (fun it acc C => turn2 (hturn it acc C)) hsw he hl hp hga hs hclos hsc
end
end Mine
end
section
open PySem PySem.W PySem.Calls PyProof.Rows
set_option Elab.async false
set_option maxRecDepth 100000
set_option linter.unusedVariables false
namespace Mine
/-- the keys of a dict that does not change, one after the other -/
theorem kdl_raw {prog : Program} {w : World} {d : Addr} {ob : Obj} {ee : Array DictEntry} {ep : Nat} (lo : (d == sysModules) = false) (hex : ob.ExactDict) (hdat : ob.data = .dict ee ep) :
    KdlSrc prog w "dict" d d ee.size (fun i v => ∃ e, ee[i]? = some e ∧ v = e.key) (fun h => h.get? d = some ob) where
  type := fun s e => ⟨ob, e, hex.1⟩
  there := fun h e => ⟨Heap.lt_size e, Heap.lt_size e⟩
  keep := fun h h' e hk => hk d (.inl rfl) _ e
  notList := by decide
  notTuple := by decide
  hint := fun _ _ s _ e hq => kdl_hint_dict (s := s) ⟨ob, e, hex.1⟩ hq
  iter := fun A s hh e => by
    have hne : d ≠ s.heap.objs.size := Nat.ne_of_lt (Heap.lt_size e)
    refine ⟨{ cls := .type "dict_keyiterator", data := .fields #[.ref d, .int 0 0, .int ee.size 0, .int ep 0] }, fun i h => h.IsKeyIter s.heap.objs.size d i ee.size ep ∧ h.get? d = some ob, fun E Q hq => raw_iter lo e hex hdat hq, ⟨?_, ?_, ?_, ?_, ?_⟩, ⟨⟨_, Heap.get?_push_size _ rfl, rfl, rfl⟩, Heap.get?_push_of_some _ e⟩⟩
    · intro b hb
      rw [List.mem_singleton.mp hb]; exact .head _
    · rintro i h h' ⟨⟨oi, h1, h2⟩, h3⟩ hk
      exact ⟨⟨oi, hk _ (.head _) _ h1, h2⟩, hk _ (.tail _ (.head _)) _ h3⟩
    · rintro i s' Q E hi ⟨h1, h2⟩ hQ
      have hx : ee[i]? = some ee[i] := Array.getElem?_eq_getElem hi
      refine raw_next h1 h2 hdat hx fun h' hi' hs => ?_
      exact hQ ee[i].key h' s'.toks ⟨_, hx, rfl⟩ ⟨hi', hs.extBut _ _ hne h2⟩ (fun b o hb => hs.extBut _ _ (fun q => hb (by rw [q]; exact .head _)))
    · rintro s' Q E ⟨h1, h2⟩ hQ
      refine raw_end hh h1 h2 hdat (by simp) fun h' hs => ?_
      exact hQ h' s'.toks (fun b o hb => hs _ _ (fun q => hb (by rw [q]; exact .head _)))
    · rintro i s' Q E ⟨h1, h2⟩ hQ
      exact wpAny_pyIter_keyiter h1 hQ
/-- list.sort of one value -/
theorem list_sort1 {prog : Program} {w : World} {A : Around} {E : Value → Shared → Prop} {s : Shared} {a : Addr} {v : Value} {n : Nat} {P : PySem.Fin → Shared → Prop} (ho : s.heap.get? a = some (seqObj "list" #[v] n))
    (h : ∀ h', (∀ b o, b ≠ a → s.heap.get? b = some o → h'.get? b = some o) → (∃ e, h'.get? a = some (seqObj "list" #[v] e)) → P (.done (.ret .none)) { s with heap := h' }) : wpAny (model prog w) A (Builtin.«list.sort» ⟨[.ref a], []⟩) P E s := by
  have ha : a < s.heap.objs.size := Heap.lt_size ho
  obtain ⟨e1, ho1⟩ : ∃ e1, (s.heap.update a (Obj.mapSeq fun _ => (#[] : Array Value))).get? a = some (seqObj "list" #[] e1) := ⟨_, get?_update_seq ho fun _ => #[]⟩
  have hsz := Heap.size_update s.heap a (Obj.mapSeq fun _ => (#[] : Array Value))
  have ho6 : (((s.heap.update a (Obj.mapSeq fun _ => (#[] : Array Value))).push (seqObj "tuple" #[v] 0)).push (seqObj "list" #[] 0)).get? a = some (seqObj "list" #[] e1) := Heap.get?_push_of_some _ (Heap.get?_push_of_some _ ho1)
  rw [list_sort_plain]
  refine wpAny_bind (listItems_at ho rfl ?_)
  refine wpAny_bind (listUpdate_at ho rfl ?_ (by simp [sizeLine_eq]) (Nat.zero_le _))
  refine wpAny_bind (seqEpoch_at ho1 rfl ?_)
  refine wpAny_bind (wpAny_newTuple ?_ (by simp [sizeLine_eq]))
  refine wpAny_bind (wpAny_newList ?_ (Nat.zero_le _))
  refine wpAny_holding ?_
  rw [if_pos (by simp), if_pos (by simp)]
  refine wpAny_bind (wpAny_pure ?_)
  dsimp only
  rw [StateT.run_pure]
  refine wpAny_bind (wpAny_pure ?_)
  dsimp only
  have hmap : Array.map (fun x : Value × Value => x.2) (arrOf (SortSt.mk' general' ((#[v] : Array Value).zip #[v]) #[] 7 none)) = #[v] := by
    show Array.map (fun x : Value × Value => x.2) ((#[v] : Array Value).zip #[v]) = #[v]
    simp
  rw [hmap]
  refine wpAny_bind (seqEpoch_at ho6 rfl ?_)
  refine wpAny_bind (listUpdate_at ho6 rfl ?_ (Nat.zero_le _) (by
    simp [sizeLine_eq]))
  simp only [bne_self_eq_false, Bool.false_eq_true, if_false]
  refine wpAny_pure (h _ (fun b o hb e => ?_) ⟨_, get?_update_seq ho6 (fun _ => #[v])⟩)
  exact (Heap.get?_update_other _ _ (Ne.symm hb)).trans (Heap.get?_push_of_some _ (Heap.get?_push_of_some _ ((Heap.get?_update_other _ _ (Ne.symm hb)).trans e)))
theorem VRs.of_get {h : Heap} : ∀ {vs : List Value} {l : List AV}, vs.length = l.length → (∀ (i : Nat) (v : Value) (a : AV), vs[i]? = some v → l[i]? = some a → VR h v a) → VRs h vs l
  | [], [], _, _ => .nil
  | v :: vs, a :: l, e, k => .cons (k 0 v a rfl rfl) (VRs.of_get (by simpa using e) fun i v a e1 e2 => k (i + 1) v a (by simpa using e1) (by simpa using e2))
  | [], _ :: _, e, _ => by simp at e
  | _ :: _, [], e, _ => by simp at e
section
variable {c : Cx} {A : Around} {Z : List (Addr × Obj)} {H H' : AHeap} {env : Env} {Φ : AV → AHeap → Prop} {n : Nat}
theorem b_sortedT {L d : Addr} {m : List (Str × AV)} {es : List (List Int × AV)} {ob : Obj} {dd : Nat} (hA : Ar A n) (hm : (L, .ns m) ∈ H) (hd : (d, .ptdict es ob) ∈ H) (h1 : 1 ≤ es.length) (h64 : es.length < 64) (hlen : ∀ p ∈ es, p.1.length = dd + 1) (nd : (es.map (·.1)).Nodup)
    (k : ∀ a out, List.Perm out (es.map (·.1)) → Φ (.ref a) ((a, .list (out.map fun x => .tup (x.map .int))) :: H)) : OpC c A Z (.builtin "sorted") [.ref d] H Φ := .con fun s vs S r => by
  obtain ⟨v, rfl, rv⟩ := r.one
  rw [rv.ref_inv]
  obtain ⟨hob, ys, ⟨o', ee, ep, ho', hex, hdat, hk, hp, hn⟩, ha⟩ := S.owns _ hd
  dsimp only at hob ho'
  rw [hob] at ho'; cases ho'
  obtain ⟨mm, news, F, N, full, back⟩ := S.frame hm
  have hsz : ee.size = es.length := by
    have := size_of_entries hk
    rw [List.length_map] at this
    rw [← ha.len]; omega
  refine kdu_sorted (kdl_raw (S.mods hd) hex hdat) hA.hd F N hob (by rw [hsz, sizeLine_eq]; omega) fun D h' tk vs F' N' hD hvl hvs => ?_
  obtain ⟨S', tk', keep⟩ := back h' tk F' fun p hp => N' p (.tail _ hp)
  have hl : vs.length = es.length := hvl.trans hsz
  have hv : VRs s.heap vs ((es.map (·.1)).map fun x => AV.tup (x.map .int)) := by
    refine VRs.of_get (by rw [List.length_map, List.length_map, hl]) fun i v a e1 e2 => ?_
    obtain ⟨en, he, rfl⟩ := hvs i v e1
    rw [List.getElem?_map, List.getElem?_map] at e2
    cases hq : es[i]? with
    | none => rw [hq] at e2; cases e2
    | some q =>
      rw [hq] at e2; cases e2
      obtain ⟨y, hy, ey1, ey2, ey3, _⟩ := ha.get hq
      have he' : ee[i]? = some (entryOfKey (TKd c) (y.1, y.2.1, y.2.2.1)) := by rw [entry_at hk]; simp [hy]
      rw [he] at he'; cases he'
      exact VR.tup ey2 ey3
  have hDL : D ≠ L := (N' _ (.head _)).2.1
  have hDs : s.heap.get? D = none := by
    cases q : s.heap.get? D with
    | none => rfl
    | some ob => exact absurd (hD _ (full D ob hDL q)) (Nat.lt_irrefl _)
  have fin : ∀ (h'' : Heap) (t : Nat) (ks : List (List Int)) (us : List Value) (cc : Nat), List.Perm ks (es.map (·.1)) → Sta c Z H { s with heap := h'', toks := t } → TK s.heap h'' → h''.get? D = some (listOf us.toArray cc) → VRs h'' us (ks.map fun x => AV.tup (x.map .int)) →
      Post c Z VR s Φ (.ref D) { s with heap := h'', toks := t } := fun h'' t ks us cc hp S2 tk2 hgD out => by
    have off : ∀ p ∈ H, p.1 ≠ D := fun p hp q => by
      obtain ⟨ob, hob, _⟩ := S.alloced (o := p.2) (a := p.1) hp
      rw [q, hDs] at hob; cases hob
    refine ⟨.ref D, _, .ref _, S2.add (a := D) (o := .list (ks.map fun x => .tup (x.map .int))) ⟨_, _, hgD, out⟩ off (fun q hq e => ?_) ?_, tk2, k D ks hp⟩
    · have := S.extra q hq
      rw [e, hDs] at this; cases this
    · refine ⟨?_, ?_⟩
      · cases q : c.B.get? D with
        | none => rfl
        | some ob => have := S.base _ _ q; rw [hDs] at this; cases this
      · obtain ⟨mg, o, es', ep', ho, _⟩ := c.g
        have hne : mainGlobals ≠ L := fun q => by
          have := (S.offB _ hm).1
          dsimp only at this
          rw [← q, ho] at this; cases this
        have h1 : mainGlobals < D := hD _ (full _ _ hne (S.base _ _ ho))
        have h2 : sysModules < mainGlobals := by decide
        cases q : D == sysModules with
        | false => rfl
        | true => rw [beq_iff_eq.mp q] at h1; exact absurd (Nat.lt_trans h1 h2) (Nat.lt_irrefl _)
  by_cases h2 : es.length = 1
  · obtain ⟨v, rfl⟩ : ∃ v, vs = [v] := by
      match vs, hl with
      | [v], _ => exact ⟨v, rfl⟩
      | [], h => simp at h; omega
      | _ :: _ :: _, h => simp at h; omega
    have hgD := (N' _ (.head _)).1
    refine wpAny_call_entry slot_list_sort (T := "list") ⟨_, hgD, rfl⟩ entry_list_sort ?_ (args_list_sort _)
    refine list_sort1 (s := { s with heap := h', toks := tk }) hgD fun h'' keep' ⟨e', hg'⟩ => ?_
    have F'' : Fr {} L h'' mm := ⟨F'.ns.extBut (fun b o hb e => keep' b o hb e) hDL.symm, fun b o e => absurd (Heap.lt_size e) (Nat.not_lt_zero _), Nat.zero_le _⟩
    have N'' : News {} L h'' news := fun p hp => ⟨keep' _ _ (Nat.ne_of_lt (hD p hp)) (N' p (.tail _ hp)).1, (N' p (.tail _ hp)).2⟩
    obtain ⟨S2, tk2, _⟩ := back h'' tk F'' N''
    exact ⟨_, rfl, fin h'' tk (es.map (·.1)) [v] e' (.refl _) S2 tk2 hg' (hv.mono tk2)⟩
  · generalize hls : es.map (·.1) = ls at hv nd fin
    have hll : ls.length = es.length := by rw [← hls, List.length_map]
    have e : vs.length = ls.length := by omega
    have hlenl : ∀ x ∈ ls, x.length = dd + 1 := fun x hx => by
      rw [← hls] at hx
      obtain ⟨p, hp, rfl⟩ := List.mem_map.mp hx
      exact hlen p hp
    have h2' : 2 ≤ vs.length := by omega
    refine kat_lsort (vs := vs) (its := vs.toArray) (n := 0) F' N' (.head fun q hq => Nat.ne_of_lt (hD q hq)) rfl h2' (by omega) fun e1 h2 F2 N2 => ?_
    obtain ⟨S2, tk2, _⟩ := back h2 tk F2 fun p hp => N2 p (.tail _ hp)
    have hv' := hv.mono tk2
    obtain ⟨fs, kt, fl, hf⟩ := katT hv' hlenl
    refine kat_kind (T := .type "int") kt (by omega) (fun v hv => ?_) (by decide) ?_
    · obtain ⟨i, t, rfl⟩ := hf v hv
      exact Looks.of_pure rfl
    rw [e]
    refine Tri.wp (lt := fun i j => lexLt (ls.getD i []) (ls.getD j [])) (n := ls.length) (fun i j C hi hj hC => ?_) (fun p hp => ?_) (sort_ok (ordL nd) (by omega))
    · unfold kas_ask
      obtain ⟨x, hx, rx⟩ := hv'.get (i := i) (a := .tup ((ls.getD i []).map .int)) (by simp [hi])
      obtain ⟨y, hy, ry⟩ := hv'.get (i := j) (a := .tup ((ls.getD j []).map .int)) (by simp [hj])
      have ex : vs.getD i Value.none = x := by simp [List.getD, hx]
      have ey : vs.getD j Value.none = y := by simp [List.getD, hy]
      rw [ex, ey]
      obtain ⟨a, xs, rfl, hgx, hvx⟩ := rx.tup_inv
      obtain ⟨b, ys, rfl, hgy, hvy⟩ := ry.tup_inv
      have lx : (ls.getD i []).length = dd + 1 := hlenl _ (by simp [hi])
      have ly : (ls.getD j []).length = dd + 1 := hlenl _ (by simp [hj])
      refine kat_lt hgx rfl hgy rfl ?_
      have l1 := hvx.len
      have l2 := hvy.len
      rw [List.length_map] at l1 l2
      have ef : decide (xs.toArray.size < ys.toArray.size) = false := by simp; omega
      rw [ef]
      exact kat_lexI 0 hvx hvy (by omega) hC
    · obtain ⟨V, sp⟩ := hp
      refine KasFin.intro F2 N2 (.head fun q hq => Nat.ne_of_lt (hD q hq)) fun h'' cc F3 N3 => ?_
      obtain ⟨S3, tk3, _⟩ := back h'' tk F3 fun p hp => N3 p (.tail _ hp)
      have hgD : h''.get? D = some (listOf (List.toArray (p.toList.map fun i => vs.getD i Value.none)) cc) := (N3 _ (.head _)).1
      have out : VRs h'' (p.toList.map fun i => vs.getD i Value.none) ((p.toList.map fun i => ls.getD i []).map fun x => .tup (x.map .int)) := by
        have hin : ∀ i ∈ p.toList, i < ls.length := fun i hi => by
          have := V.pm.toList.mem_iff.mp hi
          simpa using this
        generalize p.toList = pl at hin
        induction pl with
        | nil => exact .nil
        | cons i pl ih =>
          refine .cons ?_ (ih fun j hj => hin j (.tail _ hj))
          have hi := hin i (.head _)
          obtain ⟨x, hx, rx⟩ := hv.get (i := i) (a := .tup ((ls.getD i []).map .int)) (by simp [hi])
          have ex : vs.getD i Value.none = x := by simp [List.getD, hx]
          dsimp only
          rw [ex]
          exact rx.mono tk3
      refine fin h'' tk (p.toList.map fun i => ls.getD i []) _ cc ?_ S3 tk3 hgD out
      have h1 := V.pm.toList.map (fun i => ls.getD i [])
      refine h1.trans ?_
      have : (List.range ls.length).map (fun i => ls.getD i []) = ls := by
        apply List.ext_getElem
        · simp
        · intro i h1 h2
          simp [h2]
      have e2 : (List.range ls.length).toArray.toList = List.range ls.length := rfl
      rw [e2, this]
end
end Mine
end
section
open PySem PySem.W PySem.Calls PyProof.Rows
set_option Elab.async false
set_option maxRecDepth 100000
set_option maxHeartbeats 4000000
set_option linter.unusedVariables false
namespace Mine
local macro_rules | `(tactic| k_call_by "bb" ()) => `(tactic| first | exact bb_len | exact bb_range | exact bb_isinstance | exact bb_all | exact bb_any | exact bb_int | exact bb_bool | exact bb_sorted | exact bb_min | exact bb_max | exact bb_dict | exact bb_set | exact bb_abs)
local macro_rules | `(tactic| k_call_by "bn" ()) => `(tactic| first | exact bn_len _ | exact bn_range _ | exact bn_isinstance _ | exact bn_all _ | exact bn_any _ | exact bn_int _ | exact bn_bool _ | exact bn_sorted _ | exact bn_min _ | exact bn_max _ | exact bn_dict _ | exact bn_set _ | exact bn_abs _)
local macro_rules | `(tactic| k_call_by "gv" ()) => `(tactic| first | exact gv_law_wide _ | exact gv_law_slim _ | exact gv_law_draw _ | exact gv_law_size _ | exact gv_law_plain _ | exact gv_law_lines _ | exact gv_law_rows _ | exact gv_law_border _ | exact gv_law_ways _ | exact gv_DeltaSimpleTemporalNetwork _ | exact gv_DeltaNeighbors _ | exact gv_deque _)
local macro_rules | `(tactic| k_call_by "mem" ()) => `(tactic| (repeat (first | with_unfolding_all exact List.Mem.head _ | with_unfolding_all apply List.Mem.tail)))
local macro_rules | `(tactic| k_call_by "get" ()) => `(tactic| (repeat (first | with_unfolding_all exact NGet.here | with_unfolding_all apply NGet.there (by with_unfolding_all exact rfl))))
local macro_rules | `(tactic| k_call_by "nput" ()) => `(tactic| (repeat (first | with_unfolding_all exact NPut.here | with_unfolding_all exact NPut.nil | with_unfolding_all apply NPut.there (by with_unfolding_all exact rfl))))
local macro_rules | `(tactic| k_call_by "put" ()) => `(tactic| (repeat (first | with_unfolding_all exact Put.here | with_unfolding_all apply Put.there)))
local macro_rules | `(tactic| k_call_by "rfl" ()) => `(tactic| with_unfolding_all exact rfl)
local macro_rules | `(tactic| k_call_by "name" ()) => `(tactic| (with_reducible refine isName ?_; first
  | with_reducible refine EV_local (by k_call_by "rfl" ()) (by k_call_by "mem" ()) (NGet.look (by k_call_by "get" ())) ?_
  | with_reducible refine EV_cell (by k_call_by "rfl" ()) (by k_call_by "rfl" ()) (by k_call_by "mem" ()) ?_
  | with_reducible refine EV_free (by k_call_by "rfl" ()) (by k_call_by "rfl" ()) (by k_call_by "mem" ()) ?_
  | with_reducible refine EV_builtin (nsK (by assumption) (by k_call_by "bn" ())) (by k_call_by "bb" ()) ?_
  | with_reducible refine EV_global (nsK (by assumption) (by k_call_by "gv" ())) (fun _ => .ref _) ?_
  | with_reducible refine EV_global (nsK (by assumption) (by k_call_by "gv" ())) (fun _ => .con _) ?_))
local macro_rules | `(tactic| k_call_by "set" ()) => `(tactic| (with_reducible refine isSet ?_; first
  | with_reducible refine SN_local (by k_call_by "rfl" ()) (by k_call_by "put" ()) (by k_call_by "nput" ()) ?_
  | with_reducible refine SN_cell (by k_call_by "rfl" ()) (by k_call_by "rfl" ()) (by k_call_by "put" ()) ?_))
local macro_rules | `(tactic| k_call_by "op" ()) => `(tactic| with_reducible first
  | refine op_add ?_
  | refine op_sub ?_
  | refine op_neg ?_
  | refine cmp_lt ?_
  | refine cmp_gt ?_
  | refine cmp_le ?_
  | refine cmp_ge ?_
  | refine cmp_eq ?_
  | refine cmp_ne ?_
  | refine tr_bool ?_
  | refine tr_int ?_
  | refine tr_none ?_)
local macro_rules | `(tactic| k_call_by "s" ()) => `(tactic| first
  | k_call_by "name" ()
  | with_reducible refine EX_If ?_
  | with_reducible refine EX_Return ?_
  | with_reducible refine EX_nil ?_
  | with_reducible refine EX_Continue ?_
  | with_reducible refine EX_Expr ?_
  | with_reducible refine EX_Assign ?_
  | with_reducible refine EX_AssignT ?_
  | with_reducible refine EX_AssignS ?_
  | with_reducible refine EX_AssignA ?_
  | with_reducible refine EV_int ?_
  | with_reducible refine EV_bool ?_
  | with_reducible refine EV_none ?_
  | with_reducible refine EV_BinOp ?_
  | with_reducible refine EV_UnaryOp ?_
  | with_reducible refine EB_Compare ?_
  | with_reducible refine EB_not ?_
  | with_reducible refine EB_and ?_
  | with_reducible refine EB_and_nil ?_
  | with_reducible refine EB_or ?_
  | with_reducible refine EB_or_nil ?_
  | with_reducible refine EV_Compare ?_
  | with_reducible refine EV_Sub ?_
  | with_reducible refine EV_IfExp ?_
  | with_reducible refine EV_Tuple ?_
  | with_reducible refine EV_List ?_
  | with_reducible refine EV_Call ?_
  | with_reducible refine EV_MCall ?_
  | with_reducible refine EV_Attr ?_
  | with_reducible refine EVs_cons ?_
  | with_reducible refine EVs_nil ?_
  | k_call_by "op" ()
  | k_call_by "set" ()
  | with_reducible refine AT_Name ?_
  | with_reducible refine EB_plain ?_
  | with_reducible refine okB ?_
  | with_reducible refine okT ?_
  | with_reducible refine okK (by assumption) (by k_call_by "rfl" ()) ?_)
local macro_rules | `(tactic| k_call_by "go" ()) => `(tactic| (repeat (k_call_by "s" ())))

noncomputable def draw (ns : List Int) (p m : Int) : Int := (if p < ns.length then ns.getD p.toNat 0 else p * 9 + 4).fmod m

section
variable (c : Cx) (hK : c.K = hd.heap_39 c.w.params)
include hK
theorem s_draw {A : Around} {Z : List (Addr × Obj)} {H : AHeap} {Φ : AV → AHeap → Prop} {n : Nat} (hA : Ar A (n + 1)) {a : Addr} {ns : List Int} (hl : Rd c H a (.list (ns.map .int))) (hz : ns.length ≤ 1000) {p m : Int} (hm : 0 < m) (hp : 0 ≤ p) (hp2 : p ≤ 1000) (h : Φ (.int (draw ns p m)) H) :
    CodeT c A Z (.ref 222) [.ref a, .int p, .int m] [] H Φ := by
  refine .own0 [("script", .ref a), ("place", .int p), ("most", .int m)] hA (lkK hK (by rfl)) (cdK hK (by rfl)) (fun Z s vs kv S r1 r2 => ?_) (fun L A' hA' => ?_)
  · obtain ⟨v, u, x, rfl, rv, ru, rx⟩ := r1.three
    cases r2
    exact binds_now rfl (.cons ⟨rfl, rv⟩ (.cons ⟨rfl, ru⟩ (.cons ⟨rfl, rx⟩ .nil)))
  · k_call_by "go" ()
    refine b_len_list (.cons hl) (by simp; omega) ?_
    k_call_by "go" ()
    unfold draw at h
    split
    · rename_i hlt
      have hlt' : p < ns.length := by simpa using hlt
      rw [if_pos hlt'] at h
      k_call_by "go" ()
      refine sub_list (.cons hl) hp (x := .int (ns.getD p.toNat 0)) ?_ (by omega) ?_
      · have : p.toNat < ns.length := by omega
        simp [List.getD, this]
      k_call_by "go" ()
      exact op_mod (by omega) ⟨H, Weak.sub' (List.sublist_cons_self _ _), h⟩
    · rename_i hlt
      have hlt' : ¬ p < ns.length := by simpa using hlt
      rw [if_neg hlt'] at h
      k_call_by "go" ()
      refine op_mul ?_ ?_
      · exact mul_ok 20 20 (by omega) (by decide)
      k_call_by "go" ()
      exact op_mod (by omega) ⟨H, Weak.sub' (List.sublist_cons_self _ _), h⟩
end

end Mine
end
section
open PySem PySem.W PySem.Calls PyProof.Rows
set_option Elab.async false
set_option maxRecDepth 100000
set_option maxHeartbeats 4000000
set_option linter.unusedVariables false
namespace Mine
local macro_rules | `(tactic| k_call_by "bb" ()) => `(tactic| first | exact bb_len | exact bb_range | exact bb_isinstance | exact bb_all | exact bb_any | exact bb_int | exact bb_bool | exact bb_sorted | exact bb_min | exact bb_max | exact bb_dict | exact bb_set | exact bb_abs)
local macro_rules | `(tactic| k_call_by "bn" ()) => `(tactic| first | exact bn_len _ | exact bn_range _ | exact bn_isinstance _ | exact bn_all _ | exact bn_any _ | exact bn_int _ | exact bn_bool _ | exact bn_sorted _ | exact bn_min _ | exact bn_max _ | exact bn_dict _ | exact bn_set _ | exact bn_abs _)
local macro_rules | `(tactic| k_call_by "gv" ()) => `(tactic| first | exact gv_law_wide _ | exact gv_law_slim _ | exact gv_law_draw _ | exact gv_law_size _ | exact gv_law_plain _ | exact gv_law_lines _ | exact gv_law_rows _ | exact gv_law_border _ | exact gv_law_ways _ | exact gv_DeltaSimpleTemporalNetwork _ | exact gv_DeltaNeighbors _ | exact gv_deque _)
local macro_rules | `(tactic| k_call_by "mem" ()) => `(tactic| (repeat (first | with_unfolding_all exact List.Mem.head _ | with_unfolding_all apply List.Mem.tail)))
local macro_rules | `(tactic| k_call_by "get" ()) => `(tactic| (repeat (first | with_unfolding_all exact NGet.here | with_unfolding_all apply NGet.there (by with_unfolding_all exact rfl))))
local macro_rules | `(tactic| k_call_by "nput" ()) => `(tactic| (repeat (first | with_unfolding_all exact NPut.here | with_unfolding_all exact NPut.nil | with_unfolding_all apply NPut.there (by with_unfolding_all exact rfl))))
local macro_rules | `(tactic| k_call_by "put" ()) => `(tactic| (repeat (first | with_unfolding_all exact Put.here | with_unfolding_all apply Put.there)))
local macro_rules | `(tactic| k_call_by "rfl" ()) => `(tactic| with_unfolding_all exact rfl)
local macro_rules | `(tactic| k_call_by "name" ()) => `(tactic| (with_reducible refine isName ?_; first
  | with_reducible refine EV_local (by k_call_by "rfl" ()) (by k_call_by "mem" ()) (NGet.look (by k_call_by "get" ())) ?_
  | with_reducible refine EV_cell (by k_call_by "rfl" ()) (by k_call_by "rfl" ()) (by k_call_by "mem" ()) ?_
  | with_reducible refine EV_free (by k_call_by "rfl" ()) (by k_call_by "rfl" ()) (by k_call_by "mem" ()) ?_
  | with_reducible refine EV_builtin (nsK (by assumption) (by k_call_by "bn" ())) (by k_call_by "bb" ()) ?_
  | with_reducible refine EV_global (nsK (by assumption) (by k_call_by "gv" ())) (fun _ => .ref _) ?_
  | with_reducible refine EV_global (nsK (by assumption) (by k_call_by "gv" ())) (fun _ => .con _) ?_))
local macro_rules | `(tactic| k_call_by "set" ()) => `(tactic| (with_reducible refine isSet ?_; first
  | with_reducible refine SN_local (by k_call_by "rfl" ()) (by k_call_by "put" ()) (by k_call_by "nput" ()) ?_
  | with_reducible refine SN_cell (by k_call_by "rfl" ()) (by k_call_by "rfl" ()) (by k_call_by "put" ()) ?_))
local macro_rules | `(tactic| k_call_by "op" ()) => `(tactic| with_reducible first
  | refine op_add ?_
  | refine op_sub ?_
  | refine op_neg ?_
  | refine cmp_lt ?_
  | refine cmp_gt ?_
  | refine cmp_le ?_
  | refine cmp_ge ?_
  | refine cmp_eq ?_
  | refine cmp_ne ?_
  | refine tr_bool ?_
  | refine tr_int ?_
  | refine tr_none ?_)
local macro_rules | `(tactic| k_call_by "s" ()) => `(tactic| first
  | k_call_by "name" ()
  | with_reducible refine EX_If ?_
  | with_reducible refine EX_Return ?_
  | with_reducible refine EX_nil ?_
  | with_reducible refine EX_Continue ?_
  | with_reducible refine EX_Expr ?_
  | with_reducible refine EX_Assign ?_
  | with_reducible refine EX_AssignT ?_
  | with_reducible refine EX_AssignS ?_
  | with_reducible refine EX_AssignA ?_
  | with_reducible refine EV_int ?_
  | with_reducible refine EV_bool ?_
  | with_reducible refine EV_none ?_
  | with_reducible refine EV_BinOp ?_
  | with_reducible refine EV_UnaryOp ?_
  | with_reducible refine EB_Compare ?_
  | with_reducible refine EB_not ?_
  | with_reducible refine EB_and ?_
  | with_reducible refine EB_and_nil ?_
  | with_reducible refine EB_or ?_
  | with_reducible refine EB_or_nil ?_
  | with_reducible refine EV_Compare ?_
  | with_reducible refine EV_Sub ?_
  | with_reducible refine EV_IfExp ?_
  | with_reducible refine EV_Tuple ?_
  | with_reducible refine EV_List ?_
  | with_reducible refine EV_Call ?_
  | with_reducible refine EV_MCall ?_
  | with_reducible refine EV_Attr ?_
  | with_reducible refine EVs_cons ?_
  | with_reducible refine EVs_nil ?_
  | k_call_by "op" ()
  | k_call_by "set" ()
  | with_reducible refine AT_Name ?_
  | with_reducible refine EB_plain ?_
  | with_reducible refine okB ?_
  | with_reducible refine okT ?_
  | with_reducible refine okK (by assumption) (by k_call_by "rfl" ()) ?_)
local macro_rules | `(tactic| k_call_by "go" ()) => `(tactic| (repeat (k_call_by "s" ())))

/-- the network in the heap -/
structure Net where
  a : Addr
  d : Addr
  dd : Addr
  cd : Addr
  dist : List (Int × Int)
  cons : List (Int × AV)
  sat : Bool
noncomputable abbrev netH (N : Net) (R : AHeap) : AHeap :=
  (N.a, .inst 203 N.d) :: (N.d, .attrs [("_constraints", .ref N.cd), ("_distances", .ref N.dd), ("_is_sat", .bool N.sat), ("_epsilon", .int 0)]) :: (N.dd, .idict (N.dist.map fun p => (p.1, .int p.2))) :: (N.cd, .idict N.cons) :: R
inductive Chain (nodes : AHeap) : AV → List (Int × Int) → Prop
  | nil : Chain nodes .none []
  | cons {a d : Addr} {y b : Int} {nx : AV} {l : List (Int × Int)} : (a, .inst 96 d) ∈ nodes → (d, .attrs [("dst", .int y), ("bound", .int b), ("next", nx)]) ∈ nodes → Chain nodes nx l → Chain nodes (.ref a) ((y, b) :: l)
theorem Chain.more {n m : AHeap} (k : ∀ p ∈ n, p ∈ m) {v l} (h : Chain n v l) : Chain m v l := by
  induction h with
  | nil => exact .nil
  | cons a b _ ih => exact .cons (k _ a) (k _ b) ih
theorem Chain.notCon {n : AHeap} {v l} (h : Chain n v l) : ∀ x, v ≠ .con x := by cases h <;> (intro x e; cases e)
noncomputable abbrev Chains (nodes : AHeap) (cons : List (Int × AV)) (C : CL) : Prop := A2 (fun p q => p.1 = q.1 ∧ Chain nodes p.2 q.2) cons C
theorem Chains.more {n m : AHeap} (k : ∀ p ∈ n, p ∈ m) {cons C} (h : Chains n cons C) : Chains m cons C := A2.mono (fun _ _ q => ⟨q.1, q.2.more k⟩) h
theorem Chains.look {nodes : AHeap} {cons C} (h : Chains nodes cons C) (k : Int) : (cons.lookup k = none ∧ C.lookup k = none) ∨ ∃ v l, cons.lookup k = some v ∧ C.lookup k = some l ∧ Chain nodes v l := by
  induction h with
  | nil => exact .inl ⟨rfl, rfl⟩
  | @cons p q l m pq _ ih =>
    obtain ⟨e, r⟩ := pq
    obtain ⟨pk, pv⟩ := p
    obtain ⟨qk, qv⟩ := q
    dsimp only at e r
    subst e
    by_cases hk : k = pk
    · subst hk; exact .inr ⟨pv, qv, by simp, by simp, r⟩
    · have : (k == pk) = false := by simpa using hk
      rw [List.lookup_cons, List.lookup_cons, this]; exact ih
theorem look_map {D : DL} {k v : Int} (h : D.lookup k = some v) : (D.map fun p => (p.1, AV.int p.2)).lookup k = some (.int v) := by
  induction D with
  | nil => simp at h
  | cons p D ih =>
    obtain ⟨a, b⟩ := p
    rw [List.map_cons]
    by_cases e : k = a
    · subst e; simp at h ⊢; exact h
    · have : (k == a) = false := by simpa using e
      rw [List.lookup_cons, this] at h ⊢; exact ih h
theorem look_map' {D : DL} {k : Int} : ((D.map fun p => (p.1, AV.int p.2)).lookup k).isSome = (D.lookup k).isSome := by
  induction D with
  | nil => rfl
  | cons p D ih =>
    obtain ⟨a, b⟩ := p
    rw [List.map_cons]
    by_cases e : k = a
    · subst e; simp
    · have : (k == a) = false := by simpa using e
      rw [List.lookup_cons, List.lookup_cons, this]; exact ih
theorem kput_map (D : DL) (k v : Int) : kput (D.map fun p => (p.1, AV.int p.2)) k (.int v) = (kput D k v).map fun p => (p.1, .int p.2) := by
  unfold kput
  rw [look_map']
  split
  · rw [List.map_map, List.map_map]
    refine List.map_congr_left fun p _ => ?_
    simp only [Function.comp]
    split <;> rfl
  · simp
theorem ksetd_map (D : DL) (k v : Int) : ksetd (D.map fun p => (p.1, AV.int p.2)) k (.int v) = (ksetd D k v).map fun p => (p.1, .int p.2) := by
  unfold ksetd
  rw [look_map']
  split
  · rfl
  · simp

section
variable {c : Cx} {A : Around} {Z : List (Addr × Obj)} {H : AHeap} {Φ : AV → AHeap → Prop} {n : Nat}
theorem gf_203 (hK : c.K = hd.heap_39 c.w.params) {a d : Addr} {m : List (Str × AV)} {x : Str} {v : AV} {ex : Bool} (h1 : (a, .inst 203 d) ∈ H) (h2 : (d, .attrs m) ∈ H) (hv : m.lookup x = some v) (nm : x = "_constraints" ∨ x = "_distances" ∨ x = "_is_sat" ∨ x = "_epsilon")
    (hc : ∀ x, v ≠ .con x) (h : Φ v H) : Op1 c A Z (fun o => getAttr o x ex) VR (.ref a) H Φ := by
  rcases nm with rfl | rfl | rfl | rfl <;> exact get_field h1 h2 hv hc (by rw [hK]; rfl) (by rw [hK]; rfl) (by rw [hK]; rfl) (by rw [hK]; rfl) h
theorem gf_96 (hK : c.K = hd.heap_39 c.w.params) {a d : Addr} {m : List (Str × AV)} {x : Str} {v : AV} {ex : Bool} (h1 : (a, .inst 96 d) ∈ H) (h2 : (d, .attrs m) ∈ H) (hv : m.lookup x = some v) (nm : x = "dst" ∨ x = "bound" ∨ x = "next")
    (hc : ∀ x, v ≠ .con x) (h : Φ v H) : Op1 c A Z (fun o => getAttr o x ex) VR (.ref a) H Φ := by
  rcases nm with rfl | rfl | rfl <;> exact get_field h1 h2 hv hc (by rw [hK]; rfl) (by rw [hK]; rfl) (by rw [hK]; rfl) (by rw [hK]; rfl) h
theorem sf_203 (hK : c.K = hd.heap_39 c.w.params) {a d : Addr} {m m' : List (Str × AV)} {x : Str} {v : AV} {Φ : Unit → AHeap → Prop} {H' : AHeap} (h1 : (a, .inst 203 d) ∈ H) (P : Put d (.attrs m) (.attrs m') H H') (hm : aput m x v = m') (nm : x = "_constraints" ∨ x = "_distances" ∨ x = "_is_sat" ∨ x = "_epsilon")
    (nd : nodupB (m.map (·.1)) = true) (hz : m.length ≤ 100) (h : Φ () H') : Op2 c A Z (fun o y => setAttr o x y) relU (.ref a) v H Φ := by
  rcases nm with rfl | rfl | rfl | rfl <;> exact set_field h1 P hm (nodupB.get nd) hz (by rw [hK]; rfl) (by rw [hK]; rfl) (by rw [hK]; rfl) (by rw [hK]; rfl) h
theorem sf_96 (hK : c.K = hd.heap_39 c.w.params) {a d : Addr} {m m' : List (Str × AV)} {x : Str} {v : AV} {Φ : Unit → AHeap → Prop} {H' : AHeap} (h1 : (a, .inst 96 d) ∈ H) (P : Put d (.attrs m) (.attrs m') H H') (hm : aput m x v = m') (nm : x = "dst" ∨ x = "bound" ∨ x = "next")
    (nd : nodupB (m.map (·.1)) = true) (hz : m.length ≤ 100) (h : Φ () H') : Op2 c A Z (fun o y => setAttr o x y) relU (.ref a) v H Φ := by
  rcases nm with rfl | rfl | rfl <;> exact set_field h1 P hm (nodupB.get nd) hz (by rw [hK]; rfl) (by rw [hK]; rfl) (by rw [hK]; rfl) (by rw [hK]; rfl) h
/-- its methods -/
theorem gm_203 (hK : c.K = hd.heap_39 c.w.params) {a d f : Addr} {m : List (Str × AV)} {x : Str} {Φ : AV → List AV → AHeap → Prop} (nm : (x, f) ∈ [(("add" : Str), 152), ("check_stn", 159), ("copy_stn", 145), ("get_stn_model", 166), ("_is_subsumed", 173), ("_inc_check", 180), ("insert_interval", 188), ("get_constraints", 193)])
    (h1 : (a, .inst 203 d) ∈ H) (h2 : (d, .attrs m) ∈ H) (hv : m.lookup x = none) (h : Φ (.ref f) [.ref a] H) : GM c A Z x (.ref a) H Φ := by
  have go : ∀ {x f}, plainGet (hd.heap_39 c.w.params) 203 x = true → findIn (hd.heap_39 c.w.params) (.ref 203) x = some (some (.ref f)) → isFn (hd.heap_39 c.w.params) (.ref f) = true → m.lookup x = none → Φ (.ref f) [.ref a] H → GM c A Z x (.ref a) H Φ := fun e1 e2 e3 hv h =>
    GM_inst h1 h2 hv (by rw [hK]; exact e1) (by rw [hK]; exact e2) (by rw [hK]; exact e3) h
  simp only [List.mem_cons, Prod.mk.injEq, List.not_mem_nil, or_false] at nm
  rcases nm with ⟨rfl, rfl⟩ | ⟨rfl, rfl⟩ | ⟨rfl, rfl⟩ | ⟨rfl, rfl⟩ | ⟨rfl, rfl⟩ | ⟨rfl, rfl⟩ | ⟨rfl, rfl⟩ | ⟨rfl, rfl⟩ <;> exact go (by rfl) (by rfl) (by rfl) hv h
theorem okK' (hK : c.K = hd.heap_39 c.w.params) {f : Addr} {Q : Prop} (e : keepIn (hd.heap_39 c.w.params) (.ref f) = true) (q : Q) : okF c (.ref f) ∧ Q := okK hK e q
end

end Mine
end
section
open PySem PySem.W PySem.Calls PyProof.Rows
set_option Elab.async false
set_option maxRecDepth 100000
set_option maxHeartbeats 4000000
set_option linter.unusedVariables false
namespace Mine
local macro_rules | `(tactic| k_call_by "bb" ()) => `(tactic| first | exact bb_len | exact bb_range | exact bb_isinstance | exact bb_all | exact bb_any | exact bb_int | exact bb_bool | exact bb_sorted | exact bb_min | exact bb_max | exact bb_dict | exact bb_set | exact bb_abs)
local macro_rules | `(tactic| k_call_by "bn" ()) => `(tactic| first | exact bn_len _ | exact bn_range _ | exact bn_isinstance _ | exact bn_all _ | exact bn_any _ | exact bn_int _ | exact bn_bool _ | exact bn_sorted _ | exact bn_min _ | exact bn_max _ | exact bn_dict _ | exact bn_set _ | exact bn_abs _)
local macro_rules | `(tactic| k_call_by "gv" ()) => `(tactic| first | exact gv_law_wide _ | exact gv_law_slim _ | exact gv_law_draw _ | exact gv_law_size _ | exact gv_law_plain _ | exact gv_law_lines _ | exact gv_law_rows _ | exact gv_law_border _ | exact gv_law_ways _ | exact gv_DeltaSimpleTemporalNetwork _ | exact gv_DeltaNeighbors _ | exact gv_deque _)
local macro_rules | `(tactic| k_call_by "mem" ()) => `(tactic| (repeat (first | with_unfolding_all exact List.Mem.head _ | with_unfolding_all apply List.Mem.tail)))
local macro_rules | `(tactic| k_call_by "get" ()) => `(tactic| (repeat (first | with_unfolding_all exact NGet.here | with_unfolding_all apply NGet.there (by with_unfolding_all exact rfl))))
local macro_rules | `(tactic| k_call_by "nput" ()) => `(tactic| (repeat (first | with_unfolding_all exact NPut.here | with_unfolding_all exact NPut.nil | with_unfolding_all apply NPut.there (by with_unfolding_all exact rfl))))
local macro_rules | `(tactic| k_call_by "put" ()) => `(tactic| (repeat (first | with_unfolding_all exact Put.here | with_unfolding_all apply Put.there)))
local macro_rules | `(tactic| k_call_by "rfl" ()) => `(tactic| with_unfolding_all exact rfl)
local macro_rules | `(tactic| k_call_by "name" ()) => `(tactic| (with_reducible refine isName ?_; first
  | with_reducible refine EV_local (by k_call_by "rfl" ()) (by k_call_by "mem" ()) (NGet.look (by k_call_by "get" ())) ?_
  | with_reducible refine EV_cell (by k_call_by "rfl" ()) (by k_call_by "rfl" ()) (by k_call_by "mem" ()) ?_
  | with_reducible refine EV_free (by k_call_by "rfl" ()) (by k_call_by "rfl" ()) (by k_call_by "mem" ()) ?_
  | with_reducible refine EV_builtin (nsK (by assumption) (by k_call_by "bn" ())) (by k_call_by "bb" ()) ?_
  | with_reducible refine EV_global (nsK (by assumption) (by k_call_by "gv" ())) (fun _ => .ref _) ?_
  | with_reducible refine EV_global (nsK (by assumption) (by k_call_by "gv" ())) (fun _ => .con _) ?_))
local macro_rules | `(tactic| k_call_by "set" ()) => `(tactic| (with_reducible refine isSet ?_; first
  | with_reducible refine SN_local (by k_call_by "rfl" ()) (by k_call_by "put" ()) (by k_call_by "nput" ()) ?_
  | with_reducible refine SN_cell (by k_call_by "rfl" ()) (by k_call_by "rfl" ()) (by k_call_by "put" ()) ?_))
local macro_rules | `(tactic| k_call_by "op" ()) => `(tactic| with_reducible first
  | refine op_add ?_
  | refine op_sub ?_
  | refine op_neg ?_
  | refine cmp_lt ?_
  | refine cmp_gt ?_
  | refine cmp_le ?_
  | refine cmp_ge ?_
  | refine cmp_eq ?_
  | refine cmp_ne ?_
  | refine tr_bool ?_
  | refine tr_int ?_
  | refine tr_none ?_)
local macro_rules | `(tactic| k_call_by "s" ()) => `(tactic| first
  | k_call_by "name" ()
  | with_reducible refine EX_If ?_
  | with_reducible refine EX_Return ?_
  | with_reducible refine EX_nil ?_
  | with_reducible refine EX_Continue ?_
  | with_reducible refine EX_Expr ?_
  | with_reducible refine EX_Assign ?_
  | with_reducible refine EX_AssignT ?_
  | with_reducible refine EX_AssignS ?_
  | with_reducible refine EX_AssignA ?_
  | with_reducible refine EV_int ?_
  | with_reducible refine EV_bool ?_
  | with_reducible refine EV_none ?_
  | with_reducible refine EV_BinOp ?_
  | with_reducible refine EV_UnaryOp ?_
  | with_reducible refine EB_Compare ?_
  | with_reducible refine EB_not ?_
  | with_reducible refine EB_and ?_
  | with_reducible refine EB_and_nil ?_
  | with_reducible refine EB_or ?_
  | with_reducible refine EB_or_nil ?_
  | with_reducible refine EV_Compare ?_
  | with_reducible refine EV_Sub ?_
  | with_reducible refine EV_IfExp ?_
  | with_reducible refine EV_Tuple ?_
  | with_reducible refine EV_List ?_
  | with_reducible refine EV_Call ?_
  | with_reducible refine EV_MCall ?_
  | with_reducible refine EV_Attr ?_
  | with_reducible refine EVs_cons ?_
  | with_reducible refine EVs_nil ?_
  | k_call_by "op" ()
  | k_call_by "set" ()
  | with_reducible refine AT_Name ?_
  | with_reducible refine EB_plain ?_
  | with_reducible refine okB ?_
  | with_reducible refine okT ?_
  | with_reducible refine okK (by assumption) (by k_call_by "rfl" ()) ?_)
local macro_rules | `(tactic| k_call_by "go" ()) => `(tactic| (repeat (k_call_by "s" ())))

local macro_rules | `(tactic| k_call_by "nm" ()) => `(tactic| (simp))
local macro_rules | `(tactic| k_call_by "nc" ()) => `(tactic| (intro x e; cases e))
local macro_rules | `(tactic| k_call_by "f203" ()) => `(tactic| refine gf_203 (by assumption) (by k_call_by "mem" ()) (by k_call_by "mem" ()) (NGet.look (by k_call_by "get" ())) (by simp) (by k_call_by "nc" ()) ?_)
local macro_rules | `(tactic| k_call_by "out" ()) => `(tactic| (refine ⟨_, Weak.sub' (List.sublist_cons_self _ _), ?_⟩))
local macro_rules | `(tactic| k_call_by "mget" ()) => `(tactic| (refine GM_rd (Rd.mem (by k_call_by "mem" ())) (fun _ x => own_idict x) F.plainAttrs_dict F.slot_dict_get F.type_dict_get ?_))
theorem inN {p : Addr × AObj} {N : Net} {nodes R : AHeap} (h : p ∈ nodes) : p ∈ netH N (nodes ++ R) := .tail _ (.tail _ (.tail _ (.tail _ (List.mem_append_left _ h))))
noncomputable def subL (l : List (Int × Int)) (y b : Int) : Bool := match l.find? (fun p => p.1 == y) with | some p => decide (p.2 ≤ b) | none => false
section
variable (c : Cx) (hK : c.K = hd.heap_39 c.w.params)
include hK
variable {A : Around} {Z : List (Addr × Obj)} {Φ : AV → AHeap → Prop} {n : Nat} {N : Net} {R nodes : AHeap}
theorem s_check (hA : Ar A (n + 1)) (h : Φ (.bool N.sat) (netH N R)) : CodeT c A Z (.ref 159) [.ref N.a] [] (netH N R) Φ := by
  refine .own0 [("self", .ref N.a)] hA (lkK hK (by rfl)) (cdK hK (by rfl)) (fun Z s vs kv S r1 r2 => ?_) (fun L A' hA' => ?_)
  · obtain ⟨v, rfl, rv⟩ := r1.one
    cases r2
    exact binds_now rfl (.cons ⟨rfl, rv⟩ .nil)
  · k_call_by "go" ()
    k_call_by "f203" ()
    k_call_by "out" ()
    exact h
theorem s_distances (hA : Ar A (n + 1)) (h : Φ (.ref N.dd) (netH N R)) : CodeT c A Z (.ref 137) [.ref N.a] [] (netH N R) Φ := by
  refine .own0 [("self", .ref N.a)] hA (lkK hK (by rfl)) (cdK hK (by rfl)) (fun Z s vs kv S r1 r2 => ?_) (fun L A' hA' => ?_)
  · obtain ⟨v, rfl, rv⟩ := r1.one
    cases r2
    exact binds_now rfl (.cons ⟨rfl, rv⟩ .nil)
  · k_call_by "go" ()
    k_call_by "f203" ()
    k_call_by "out" ()
    exact h
theorem s_model (hA : Ar A (n + 1)) {x v : Int} (hx : N.dist.lookup x = some v) (hv : v.natAbs < 2 ^ 1000000) (h : Φ (.int (-1 * v)) (netH N R)) : CodeT c A Z (.ref 166) [.ref N.a, .int x] [] (netH N R) Φ := by
  refine .own0 [("self", .ref N.a), ("x", .int x)] hA (lkK hK (by rfl)) (cdK hK (by rfl)) (fun Z s vs kv S r1 r2 => ?_) (fun L A' hA' => ?_)
  · obtain ⟨v, u, rfl, rv, ru⟩ := r1.two
    cases r2
    exact binds_now rfl (.cons ⟨rfl, rv⟩ (.cons ⟨rfl, ru⟩ .nil))
  · k_call_by "go" ()
    k_call_by "f203" ()
    k_call_by "go" ()
    refine sub_idict (.mem (by k_call_by "mem" ())) (look_map hx) ?_
    refine op_mul (mul_ok 20 1000000 (by decide) hv) ?_
    k_call_by "out" ()
    exact h
theorem s_subsumed (hA : Ar A (n + 1)) {x y b : Int} {C : CL} (hC : Chains nodes N.cons C) (h : Φ (.bool (subsumed C x y b)) (netH N (nodes ++ R))) : CodeT c A Z (.ref 173) [.ref N.a, .int x, .int y, .int b] [] (netH N (nodes ++ R)) Φ := by
  refine .own0 [("self", .ref N.a), ("x", .int x), ("y", .int y), ("b", .int b)] hA (lkK hK (by rfl)) (cdK hK (by rfl)) (fun Z s vs kv S r1 r2 => ?_) (fun L A' hA' => ?_)
  · cases r1 with | cons p0 r1 =>
    obtain ⟨v, u, x, rfl, rv, ru, rx⟩ := r1.three
    cases r2
    exact binds_now rfl (.cons ⟨rfl, p0⟩ (.cons ⟨rfl, rv⟩ (.cons ⟨rfl, ru⟩ (.cons ⟨rfl, rx⟩ .nil))))
  · k_call_by "go" ()
    k_call_by "f203" ()
    k_call_by "mget" ()
    k_call_by "go" ()
    have hch : Chain nodes ((N.cons.lookup x).getD .none) (ch C x) := by
      unfold ch
      rcases hC.look x with ⟨e1, e2⟩ | ⟨v, l, e1, e2, r⟩
      · rw [e1, e2]; exact .nil
      · rw [e1, e2]; exact r
    refine m_get (.mem (by k_call_by "mem" ())) ?_
    k_call_by "go" ()
    refine EX_While (fun k H' => ∃ v l, H' = (L, .ns [("self", .ref N.a), ("x", .int x), ("y", .int y), ("b", .int b), ("neighbor", v)]) :: netH N (nodes ++ R) ∧ Chain nodes v l ∧ k = l.length ∧ subL l y b = subsumed C x y b) (ch C x).length
      ⟨_, _, rfl, hch, rfl, rfl⟩ ?_
    rintro k H' ⟨v, l, rfl, hv, rfl, e⟩
    k_call_by "go" ()
    refine isnot_none hv.notCon ?_
    cases hv with
    | nil =>
      k_call_by "go" ()
      simp only [Bool.false_eq_true, if_false]
      k_call_by "go" ()
      k_call_by "out" ()
      rw [← e] at h
      exact h
    | @cons na nd y' b' nx l' m1 m2 hv =>
      k_call_by "go" ()
      simp only [if_true]
      k_call_by "go" ()
      refine gf_96 hK (.tail _ (inN m1)) (.tail _ (inN m2)) (NGet.look (by k_call_by "get" ())) (by simp) (by k_call_by "nc" ()) ?_
      k_call_by "go" ()
      by_cases hy : y' = y
      · rw [if_pos (by simpa using hy)]
        k_call_by "go" ()
        refine gf_96 hK (.tail _ (inN m1)) (.tail _ (inN m2)) (NGet.look (by k_call_by "get" ())) (by simp) (by k_call_by "nc" ()) ?_
        k_call_by "go" ()
        k_call_by "out" ()
        rw [← e] at h
        simpa [subL, hy, retOf] using h
      · rw [if_neg (by simpa using hy)]
        k_call_by "go" ()
        refine gf_96 hK (.tail _ (inN m1)) (.tail _ (inN m2)) (NGet.look (by k_call_by "get" ())) (by simp) hv.notCon ?_
        k_call_by "go" ()
        exact ⟨l'.length, Nat.lt_succ_self _, _, _, rfl, hv, rfl, by rw [← e]; simp [subL, hy]⟩
end

end Mine
end
section
open PySem PySem.W PySem.Calls PyProof.Rows
set_option Elab.async false
set_option maxRecDepth 100000
set_option maxHeartbeats 4000000
set_option linter.unusedVariables false
namespace Mine
local macro_rules | `(tactic| k_call_by "bb" ()) => `(tactic| first | exact bb_len | exact bb_range | exact bb_isinstance | exact bb_all | exact bb_any | exact bb_int | exact bb_bool | exact bb_sorted | exact bb_min | exact bb_max | exact bb_dict | exact bb_set | exact bb_abs)
local macro_rules | `(tactic| k_call_by "bn" ()) => `(tactic| first | exact bn_len _ | exact bn_range _ | exact bn_isinstance _ | exact bn_all _ | exact bn_any _ | exact bn_int _ | exact bn_bool _ | exact bn_sorted _ | exact bn_min _ | exact bn_max _ | exact bn_dict _ | exact bn_set _ | exact bn_abs _)
local macro_rules | `(tactic| k_call_by "gv" ()) => `(tactic| first | exact gv_law_wide _ | exact gv_law_slim _ | exact gv_law_draw _ | exact gv_law_size _ | exact gv_law_plain _ | exact gv_law_lines _ | exact gv_law_rows _ | exact gv_law_border _ | exact gv_law_ways _ | exact gv_DeltaSimpleTemporalNetwork _ | exact gv_DeltaNeighbors _ | exact gv_deque _)
local macro_rules | `(tactic| k_call_by "mem" ()) => `(tactic| (repeat (first | with_unfolding_all exact List.Mem.head _ | with_unfolding_all apply List.Mem.tail)))
local macro_rules | `(tactic| k_call_by "get" ()) => `(tactic| (repeat (first | with_unfolding_all exact NGet.here | with_unfolding_all apply NGet.there (by with_unfolding_all exact rfl))))
local macro_rules | `(tactic| k_call_by "nput" ()) => `(tactic| (repeat (first | with_unfolding_all exact NPut.here | with_unfolding_all exact NPut.nil | with_unfolding_all apply NPut.there (by with_unfolding_all exact rfl))))
local macro_rules | `(tactic| k_call_by "put" ()) => `(tactic| (repeat (first | with_unfolding_all exact Put.here | with_unfolding_all apply Put.there)))
local macro_rules | `(tactic| k_call_by "rfl" ()) => `(tactic| with_unfolding_all exact rfl)
local macro_rules | `(tactic| k_call_by "name" ()) => `(tactic| (with_reducible refine isName ?_; first
  | with_reducible refine EV_local (by k_call_by "rfl" ()) (by k_call_by "mem" ()) (NGet.look (by k_call_by "get" ())) ?_
  | with_reducible refine EV_cell (by k_call_by "rfl" ()) (by k_call_by "rfl" ()) (by k_call_by "mem" ()) ?_
  | with_reducible refine EV_free (by k_call_by "rfl" ()) (by k_call_by "rfl" ()) (by k_call_by "mem" ()) ?_
  | with_reducible refine EV_builtin (nsK (by assumption) (by k_call_by "bn" ())) (by k_call_by "bb" ()) ?_
  | with_reducible refine EV_global (nsK (by assumption) (by k_call_by "gv" ())) (fun _ => .ref _) ?_
  | with_reducible refine EV_global (nsK (by assumption) (by k_call_by "gv" ())) (fun _ => .con _) ?_))
local macro_rules | `(tactic| k_call_by "set" ()) => `(tactic| (with_reducible refine isSet ?_; first
  | with_reducible refine SN_local (by k_call_by "rfl" ()) (by k_call_by "put" ()) (by k_call_by "nput" ()) ?_
  | with_reducible refine SN_cell (by k_call_by "rfl" ()) (by k_call_by "rfl" ()) (by k_call_by "put" ()) ?_))
local macro_rules | `(tactic| k_call_by "op" ()) => `(tactic| with_reducible first
  | refine op_add ?_
  | refine op_sub ?_
  | refine op_neg ?_
  | refine cmp_lt ?_
  | refine cmp_gt ?_
  | refine cmp_le ?_
  | refine cmp_ge ?_
  | refine cmp_eq ?_
  | refine cmp_ne ?_
  | refine tr_bool ?_
  | refine tr_int ?_
  | refine tr_none ?_)
local macro_rules | `(tactic| k_call_by "s" ()) => `(tactic| first
  | k_call_by "name" ()
  | with_reducible refine EX_If ?_
  | with_reducible refine EX_Return ?_
  | with_reducible refine EX_nil ?_
  | with_reducible refine EX_Continue ?_
  | with_reducible refine EX_Expr ?_
  | with_reducible refine EX_Assign ?_
  | with_reducible refine EX_AssignT ?_
  | with_reducible refine EX_AssignS ?_
  | with_reducible refine EX_AssignA ?_
  | with_reducible refine EV_int ?_
  | with_reducible refine EV_bool ?_
  | with_reducible refine EV_none ?_
  | with_reducible refine EV_BinOp ?_
  | with_reducible refine EV_UnaryOp ?_
  | with_reducible refine EB_Compare ?_
  | with_reducible refine EB_not ?_
  | with_reducible refine EB_and ?_
  | with_reducible refine EB_and_nil ?_
  | with_reducible refine EB_or ?_
  | with_reducible refine EB_or_nil ?_
  | with_reducible refine EV_Compare ?_
  | with_reducible refine EV_Sub ?_
  | with_reducible refine EV_IfExp ?_
  | with_reducible refine EV_Tuple ?_
  | with_reducible refine EV_List ?_
  | with_reducible refine EV_Call ?_
  | with_reducible refine EV_MCall ?_
  | with_reducible refine EV_Attr ?_
  | with_reducible refine EVs_cons ?_
  | with_reducible refine EVs_nil ?_
  | k_call_by "op" ()
  | k_call_by "set" ()
  | with_reducible refine AT_Name ?_
  | with_reducible refine EB_plain ?_
  | with_reducible refine okB ?_
  | with_reducible refine okT ?_
  | with_reducible refine okK (by assumption) (by k_call_by "rfl" ()) ?_)
local macro_rules | `(tactic| k_call_by "go" ()) => `(tactic| (repeat (k_call_by "s" ())))

local macro_rules | `(tactic| k_call_by "nc" ()) => `(tactic| (intro x e; cases e))
local macro_rules | `(tactic| k_call_by "f203" ()) => `(tactic| refine gf_203 (by assumption) (by k_call_by "mem" ()) (by k_call_by "mem" ()) (NGet.look (by k_call_by "get" ())) (by simp) (by k_call_by "nc" ()) ?_)
local macro_rules | `(tactic| k_call_by "out" ()) => `(tactic| (refine ⟨_, Weak.sub' (List.sublist_cons_self _ _), ?_⟩))
local macro_rules | `(tactic| k_call_by "mappend" ()) => `(tactic| (refine GM_builtin (by k_call_by "mem" ()) (fun _ x => own_deque x) dq_plainAttrs dq_slot_append dq_type_append ?_))
local macro_rules | `(tactic| k_call_by "mpopleft" ()) => `(tactic| (refine GM_builtin (by k_call_by "mem" ()) (fun _ x => own_deque x) dq_plainAttrs dq_slot_popleft dq_type_popleft ?_))
local macro_rules | `(tactic| k_call_by "subl" ()) => `(tactic| (repeat (first | exact List.Sublist.refl _ | apply List.Sublist.cons₂ | apply List.Sublist.cons)))
section
variable (c : Cx) (hK : c.K = hd.heap_39 c.w.params)
include hK
variable {A : Around} {Z : List (Addr × Obj)} {Φ : AV → AHeap → Prop} {n : Nat} {N : Net} {R nodes : AHeap}
theorem s_dninit (hA : Ar A (n + 1)) {a d : Addr} {y b : Int} {nx : AV} {H : AHeap} (hc : ∀ x, nx ≠ .con x) (h : Φ .none ((a, .inst 96 d) :: (d, .attrs [("dst", .int y), ("bound", .int b), ("next", nx)]) :: H)) :
    CodeT c A Z (.ref 54) [.ref a, .int y, .int b, nx] [] ((a, .inst 96 d) :: (d, .attrs []) :: H) Φ := by
  refine .own0 [("self", .ref a), ("dst", .int y), ("bound", .int b), ("next", nx)] hA (lkK hK (by rfl)) (cdK hK (by rfl)) (fun Z s vs kv S r1 r2 => ?_) (fun L A' hA' => ?_)
  · cases r1 with | cons p0 r1 =>
    obtain ⟨v, u, x, rfl, rv, ru, rx⟩ := r1.three
    cases r2
    exact binds_now rfl (.cons ⟨rfl, p0⟩ (.cons ⟨rfl, rv⟩ (.cons ⟨rfl, ru⟩ (.cons ⟨rfl, rx⟩ .nil))))
  · k_call_by "go" ()
    refine sf_96 (m' := [("dst", .int y)]) hK (by k_call_by "mem" ()) (by k_call_by "put" ()) (by rfl) (by simp) (by rfl) (by simp) ?_
    k_call_by "go" ()
    refine sf_96 (m' := [("dst", .int y), ("bound", .int b)]) hK (by k_call_by "mem" ()) (by k_call_by "put" ()) (by rfl) (by simp) (by rfl) (by simp) ?_
    k_call_by "go" ()
    refine sf_96 (m' := [("dst", .int y), ("bound", .int b), ("next", nx)]) hK (by k_call_by "mem" ()) (by k_call_by "put" ()) (by rfl) (by simp) (by rfl) (by simp) ?_
    k_call_by "go" ()
    k_call_by "out" ()
    exact h
/-- the network's own start, all four given -/
theorem s_netinit4 (hA : Ar A (n + 1)) {a d cd dd : Addr} {b : Bool} {H : AHeap} (h : Φ .none ((a, .inst 203 d) :: (d, .attrs [("_constraints", .ref cd), ("_distances", .ref dd), ("_is_sat", .bool b), ("_epsilon", .int 0)]) :: H)) :
    CodeT c A Z (.ref 116) [.ref a, .ref cd, .ref dd, .bool b, .int 0] [] ((a, .inst 203 d) :: (d, .attrs []) :: H) Φ := by
  refine .own0 [("self", .ref a), ("constraints", .ref cd), ("distances", .ref dd), ("is_sat", .bool b), ("epsilon", .int 0)] hA (lkK hK (by rfl)) (cdK hK (by rfl)) (fun Z s vs kv S r1 r2 => ?_) (fun L A' hA' => ?_)
  · cases r1 with | cons p0 r1 =>
    cases r1 with | cons p1 r1 =>
    obtain ⟨v, u, x, rfl, rv, ru, rx⟩ := r1.three
    cases r2
    exact ⟨_, .of_defaults rfl (S.K _ _ (lkK hK (by rfl))) rfl rfl rfl, .cons ⟨rfl, p0⟩ (.cons ⟨rfl, p1⟩ (.cons ⟨rfl, rv⟩ (.cons ⟨rfl, ru⟩ (.cons ⟨rfl, rx⟩ .nil))))⟩
  · k_call_by "go" ()
    refine isnot_none (by k_call_by "nc" ()) ?_
    k_call_by "go" ()
    simp only [if_true]
    k_call_by "go" ()
    refine sf_203 (m' := [("_constraints", .ref cd)]) hK (by k_call_by "mem" ()) (by k_call_by "put" ()) (by rfl) (by simp) (by rfl) (by simp) ?_
    k_call_by "go" ()
    refine isnot_none (by k_call_by "nc" ()) ?_
    k_call_by "go" ()
    simp only [if_true]
    k_call_by "go" ()
    refine sf_203 (m' := [("_constraints", .ref cd), ("_distances", .ref dd)]) hK (by k_call_by "mem" ()) (by k_call_by "put" ()) (by rfl) (by simp) (by rfl) (by simp) ?_
    k_call_by "go" ()
    refine sf_203 (m' := [("_constraints", .ref cd), ("_distances", .ref dd), ("_is_sat", .bool b)]) hK (by k_call_by "mem" ()) (by k_call_by "put" ()) (by rfl) (by simp) (by rfl) (by simp) ?_
    k_call_by "go" ()
    refine sf_203 (m' := [("_constraints", .ref cd), ("_distances", .ref dd), ("_is_sat", .bool b), ("_epsilon", .int 0)]) hK (by k_call_by "mem" ()) (by k_call_by "put" ()) (by rfl) (by simp) (by rfl) (by simp) ?_
    k_call_by "go" ()
    k_call_by "out" ()
    exact h
theorem s_copy (hA : Ar A (n + 3)) (hz : N.dist.length ≤ 1000000) (hz2 : N.cons.length ≤ 1000000) (h : ∀ a d dd cd, Φ (.ref a) (netH ⟨a, d, dd, cd, N.dist, N.cons, N.sat⟩ (netH N R))) : CodeT c A Z (.ref 145) [.ref N.a] [] (netH N R) Φ := by
  refine .own0 [("self", .ref N.a)] hA (lkK hK (by rfl)) (cdK hK (by rfl)) (fun Z s vs kv S r1 r2 => ?_) (fun L A' hA' => ?_)
  · obtain ⟨v, rfl, rv⟩ := r1.one
    cases r2
    exact binds_now rfl (.cons ⟨rfl, rv⟩ .nil)
  · k_call_by "go" ()
    k_call_by "f203" ()
    refine GM_rd (Rd.mem (by k_call_by "mem" ())) (fun _ x => own_idict x) F.plainAttrs_dict F.slot_dict_copy F.type_dict_copy ?_
    k_call_by "go" ()
    refine m_copy (.mem (by k_call_by "mem" ())) hz2 fun cd => ?_
    k_call_by "go" ()
    k_call_by "f203" ()
    refine GM_rd (Rd.mem (by k_call_by "mem" ())) (fun _ x => own_idict x) F.plainAttrs_dict F.slot_dict_copy F.type_dict_copy ?_
    k_call_by "go" ()
    refine m_copy (.mem (by k_call_by "mem" ())) (by simpa using hz) fun dd => ?_
    k_call_by "go" ()
    k_call_by "f203" ()
    k_call_by "go" ()
    k_call_by "f203" ()
    k_call_by "go" ()
    refine (CodeT.make (n := n + 1) hA' (by rw [hK]; rfl) (fdK hK (by rfl)) (by rw [hK]; rfl) fun a d A'' hA'' => ?_).call
    exact s_netinit4 c hK hA'' ⟨rfl, _, Weak.sub' (by k_call_by "subl" ()), h a d dd cd⟩
end

end Mine
end
section
open PySem PySem.W PySem.Calls PyProof.Rows
set_option Elab.async false
set_option maxRecDepth 100000
set_option maxHeartbeats 4000000
set_option linter.unusedVariables false
namespace Mine
local macro_rules | `(tactic| k_call_by "bb" ()) => `(tactic| first | exact bb_len | exact bb_range | exact bb_isinstance | exact bb_all | exact bb_any | exact bb_int | exact bb_bool | exact bb_sorted | exact bb_min | exact bb_max | exact bb_dict | exact bb_set | exact bb_abs)
local macro_rules | `(tactic| k_call_by "bn" ()) => `(tactic| first | exact bn_len _ | exact bn_range _ | exact bn_isinstance _ | exact bn_all _ | exact bn_any _ | exact bn_int _ | exact bn_bool _ | exact bn_sorted _ | exact bn_min _ | exact bn_max _ | exact bn_dict _ | exact bn_set _ | exact bn_abs _)
local macro_rules | `(tactic| k_call_by "gv" ()) => `(tactic| first | exact gv_law_wide _ | exact gv_law_slim _ | exact gv_law_draw _ | exact gv_law_size _ | exact gv_law_plain _ | exact gv_law_lines _ | exact gv_law_rows _ | exact gv_law_border _ | exact gv_law_ways _ | exact gv_DeltaSimpleTemporalNetwork _ | exact gv_DeltaNeighbors _ | exact gv_deque _)
local macro_rules | `(tactic| k_call_by "mem" ()) => `(tactic| (repeat (first | with_unfolding_all exact List.Mem.head _ | with_unfolding_all apply List.Mem.tail)))
local macro_rules | `(tactic| k_call_by "get" ()) => `(tactic| (repeat (first | with_unfolding_all exact NGet.here | with_unfolding_all apply NGet.there (by with_unfolding_all exact rfl))))
local macro_rules | `(tactic| k_call_by "nput" ()) => `(tactic| (repeat (first | with_unfolding_all exact NPut.here | with_unfolding_all exact NPut.nil | with_unfolding_all apply NPut.there (by with_unfolding_all exact rfl))))
local macro_rules | `(tactic| k_call_by "put" ()) => `(tactic| (repeat (first | with_unfolding_all exact Put.here | with_unfolding_all apply Put.there)))
local macro_rules | `(tactic| k_call_by "rfl" ()) => `(tactic| with_unfolding_all exact rfl)
local macro_rules | `(tactic| k_call_by "name" ()) => `(tactic| (with_reducible refine isName ?_; first
  | with_reducible refine EV_local (by k_call_by "rfl" ()) (by k_call_by "mem" ()) (NGet.look (by k_call_by "get" ())) ?_
  | with_reducible refine EV_cell (by k_call_by "rfl" ()) (by k_call_by "rfl" ()) (by k_call_by "mem" ()) ?_
  | with_reducible refine EV_free (by k_call_by "rfl" ()) (by k_call_by "rfl" ()) (by k_call_by "mem" ()) ?_
  | with_reducible refine EV_builtin (nsK (by assumption) (by k_call_by "bn" ())) (by k_call_by "bb" ()) ?_
  | with_reducible refine EV_global (nsK (by assumption) (by k_call_by "gv" ())) (fun _ => .ref _) ?_
  | with_reducible refine EV_global (nsK (by assumption) (by k_call_by "gv" ())) (fun _ => .con _) ?_))
local macro_rules | `(tactic| k_call_by "set" ()) => `(tactic| (with_reducible refine isSet ?_; first
  | with_reducible refine SN_local (by k_call_by "rfl" ()) (by k_call_by "put" ()) (by k_call_by "nput" ()) ?_
  | with_reducible refine SN_cell (by k_call_by "rfl" ()) (by k_call_by "rfl" ()) (by k_call_by "put" ()) ?_))
local macro_rules | `(tactic| k_call_by "op" ()) => `(tactic| with_reducible first
  | refine op_add ?_
  | refine op_sub ?_
  | refine op_neg ?_
  | refine cmp_lt ?_
  | refine cmp_gt ?_
  | refine cmp_le ?_
  | refine cmp_ge ?_
  | refine cmp_eq ?_
  | refine cmp_ne ?_
  | refine tr_bool ?_
  | refine tr_int ?_
  | refine tr_none ?_)
local macro_rules | `(tactic| k_call_by "s" ()) => `(tactic| first
  | k_call_by "name" ()
  | with_reducible refine EX_If ?_
  | with_reducible refine EX_Return ?_
  | with_reducible refine EX_nil ?_
  | with_reducible refine EX_Continue ?_
  | with_reducible refine EX_Expr ?_
  | with_reducible refine EX_Assign ?_
  | with_reducible refine EX_AssignT ?_
  | with_reducible refine EX_AssignS ?_
  | with_reducible refine EX_AssignA ?_
  | with_reducible refine EV_int ?_
  | with_reducible refine EV_bool ?_
  | with_reducible refine EV_none ?_
  | with_reducible refine EV_BinOp ?_
  | with_reducible refine EV_UnaryOp ?_
  | with_reducible refine EB_Compare ?_
  | with_reducible refine EB_not ?_
  | with_reducible refine EB_and ?_
  | with_reducible refine EB_and_nil ?_
  | with_reducible refine EB_or ?_
  | with_reducible refine EB_or_nil ?_
  | with_reducible refine EV_Compare ?_
  | with_reducible refine EV_Sub ?_
  | with_reducible refine EV_IfExp ?_
  | with_reducible refine EV_Tuple ?_
  | with_reducible refine EV_List ?_
  | with_reducible refine EV_Call ?_
  | with_reducible refine EV_MCall ?_
  | with_reducible refine EV_Attr ?_
  | with_reducible refine EVs_cons ?_
  | with_reducible refine EVs_nil ?_
  | k_call_by "op" ()
  | k_call_by "set" ()
  | with_reducible refine AT_Name ?_
  | with_reducible refine EB_plain ?_
  | with_reducible refine okB ?_
  | with_reducible refine okT ?_
  | with_reducible refine okK (by assumption) (by k_call_by "rfl" ()) ?_)
local macro_rules | `(tactic| k_call_by "go" ()) => `(tactic| (repeat (k_call_by "s" ())))

local macro_rules | `(tactic| k_call_by "nc" ()) => `(tactic| (intro x e; cases e))
local macro_rules | `(tactic| k_call_by "f203" ()) => `(tactic| refine gf_203 (by assumption) (by k_call_by "mem" ()) (by k_call_by "mem" ()) (NGet.look (by k_call_by "get" ())) (by simp) (by k_call_by "nc" ()) ?_)
local macro_rules | `(tactic| k_call_by "out" ()) => `(tactic| (refine ⟨_, Weak.sub' (List.sublist_cons_self _ _), ?_⟩))
local macro_rules | `(tactic| k_call_by "subl" ()) => `(tactic| (repeat (first | exact List.Sublist.refl _ | apply List.Sublist.cons₂ | apply List.Sublist.cons)))
local macro_rules | `(tactic| k_call_by "mappend" ()) => `(tactic| (refine GM_builtin (by k_call_by "mem" ()) (fun _ x => own_deque x) dq_plainAttrs dq_slot_append dq_type_append ?_))
local macro_rules | `(tactic| k_call_by "mpopleft" ()) => `(tactic| (refine GM_builtin (by k_call_by "mem" ()) (fun _ x => own_deque x) dq_plainAttrs dq_slot_popleft dq_type_popleft ?_))
theorem kput_look {V : Type} (D : List (Int × V)) (k : Int) (v : V) (j : Int) : (kput D k v).lookup j = if j = k then some v else D.lookup j := by
  unfold kput
  cases h : (D.lookup k).isSome with
  | true =>
    simp only [if_true]
    induction D with
    | nil => simp at h
    | cons p D ih =>
      obtain ⟨a, b⟩ := p
      rw [List.map_cons]
      by_cases e : k = a
      · subst e
        simp only [beq_self_eq_true, if_true]
        by_cases q : j = k
        · subst q; simp
        · have : (j == k) = false := by simpa using q
          rw [List.lookup_cons, this, if_neg q, List.lookup_cons, this]
          clear ih h
          dsimp only
          induction D with
          | nil => rfl
          | cons p D ih =>
            obtain ⟨a, b'⟩ := p
            rw [List.map_cons]
            by_cases e : a = k
            · subst e
              simp only [beq_self_eq_true, if_true]
              rw [List.lookup_cons, this, List.lookup_cons, this]; exact ih
            · have e' : (a == k) = false := by simpa using e
              simp only [e', Bool.false_eq_true, if_false]
              rw [List.lookup_cons, List.lookup_cons, ih]
      · have e1 : (k == a) = false := by simpa using e
        have e2 : (a == k) = false := by simpa using fun q => e q.symm
        rw [List.lookup_cons, e1] at h
        simp only [e2, Bool.false_eq_true, if_false]
        rw [List.lookup_cons, List.lookup_cons]
        by_cases q : j = a
        · subst q
          simp only [beq_self_eq_true]
          rw [if_neg fun z => e z.symm]
        · have : (j == a) = false := by simpa using q
          rw [this]; exact ih h
  | false =>
    simp only [Bool.false_eq_true, if_false]
    induction D with
    | nil =>
      by_cases q : j = k
      · subst q; simp
      · have : (j == k) = false := by simpa using q
        simp [List.lookup_cons, this, q]
    | cons p D ih =>
      obtain ⟨a, b⟩ := p
      by_cases e : k = a
      · subst e; simp at h
      · have e1 : (k == a) = false := by simpa using e
        rw [List.lookup_cons, e1] at h
        rw [List.cons_append, List.lookup_cons, List.lookup_cons]
        by_cases q : j = a
        · subst q
          simp only [beq_self_eq_true]
          rw [if_neg fun z => e z.symm]
        · have : (j == a) = false := by simpa using q
          rw [this]; exact ih h
theorem look_app {V : Type} {l r : List (Str × V)} {x : Str} {v : V} (h : l.lookup x = some v) : (l ++ r).lookup x = some v := by
  induction l with
  | nil => cases h
  | cons p l ih =>
    obtain ⟨a, b⟩ := p
    rw [List.cons_append, List.lookup_cons]
    rw [List.lookup_cons] at h
    cases e : x == a with
    | true => rw [e] at h; exact h
    | false => rw [e] at h; exact ih h
theorem lk_of {D : DL} {k : Int} (h : (D.lookup k).isSome = true) : D.lookup k = some (lk D k) := by
  unfold lk
  cases e : D.lookup k with
  | none => rw [e] at h; cases h
  | some v => rfl
theorem kput_has {D : DL} {k v j : Int} (h : (D.lookup j).isSome = true) : ((kput D k v).lookup j).isSome = true := by
  rw [kput_look]; split
  · rfl
  · exact h
theorem kput_len {D : DL} {k v : Int} (h : (D.lookup k).isSome = true) : (kput D k v).length = D.length := by
  unfold kput; rw [h, if_pos rfl, List.length_map]
theorem Sub.set (N : Net) : { N with dist := N.dist } = N := rfl
noncomputable abbrev Net.withD (N : Net) (D : DL) : Net := { N with dist := D }
section
variable (c : Cx) (hK : c.K = hd.heap_39 c.w.params)
include hK
variable {A : Around} {Z : List (Addr × Obj)} {Φ : AV → AHeap → Prop} {n : Nat} {N : Net} {R nodes : AHeap}
theorem s_inc (hA : Ar A (n + 1)) {x y b : Int} {C : CL} {f : Nat} {D' : DL} {r : Bool} (hC : Chains nodes N.cons C) (hw : WF N.dist C) (hx : (N.dist.lookup x).isSome = true) (hy : (N.dist.lookup y).isSome = true) (hy2 : (C.lookup y).isSome = true) (hz : N.dist.length ≤ 1000000)
    (hf : f ≤ 10000) (hr : incAll C f N.dist x y b = some (D', r)) (h : Φ (.bool r) (netH (N.withD D') (nodes ++ R))) : CodeT c A Z (.ref 180) [.ref N.a, .int x, .int y, .int b] [] (netH N (nodes ++ R)) Φ := by
  refine .own0 [("self", .ref N.a), ("x", .int x), ("y", .int y), ("b", .int b)] hA (lkK hK (by rfl)) (cdK hK (by rfl)) (fun Z s vs kv S r1 r2 => ?_) (fun L A' hA' => ?_)
  · cases r1 with | cons p0 r1 =>
    obtain ⟨v, u, x, rfl, rv, ru, rx⟩ := r1.three
    cases r2
    exact binds_now rfl (.cons ⟨rfl, p0⟩ (.cons ⟨rfl, rv⟩ (.cons ⟨rfl, ru⟩ (.cons ⟨rfl, rx⟩ .nil))))
  · k_call_by "go" ()
    k_call_by "f203" ()
    k_call_by "go" ()
    refine sub_idict (.mem (by k_call_by "mem" ())) (look_map (lk_of hx)) ?_
    k_call_by "go" ()
    k_call_by "f203" ()
    k_call_by "go" ()
    refine sub_idict (.mem (by k_call_by "mem" ())) (look_map (lk_of hy)) ?_
    k_call_by "go" ()
    unfold incAll at hr
    by_cases hlt : lk N.dist x + b < lk N.dist y
    · rw [if_pos hlt] at hr
      rw [if_pos (by simpa using hlt)]
      k_call_by "go" ()
      k_call_by "f203" ()
      k_call_by "go" ()
      refine set_idict (es := N.dist.map fun p => (p.1, .int p.2)) (H' := (L, .ns [("self", .ref N.a), ("x", .int x), ("y", .int y), ("b", .int b), ("x_dist", .int (lk N.dist x)), ("x_plus_b", .int (lk N.dist x + b))]) :: netH (N.withD (kput N.dist y (lk N.dist x + b))) (nodes ++ R)) ?_ (by simpa using hz) ?_
      · rw [kput_map]; exact .there (.there (.there .here))
      k_call_by "go" ()
      refine b_deque fun dq => ?_
      k_call_by "go" ()
      k_call_by "mappend" ()
      k_call_by "go" ()
      refine m_dqappend (l := []) (by k_call_by "put" ()) (by decide) ?_
      k_call_by "go" ()
      refine EX_While (fun k H' => ∃ D q, Weak c H' ((dq, .deque (q.map .int)) :: (L, .ns [("self", .ref N.a), ("x", .int x), ("y", .int y), ("b", .int b), ("x_dist", .int (lk N.dist x)), ("x_plus_b", .int (lk N.dist x + b)), ("queue", .ref dq)]) :: netH (N.withD D) (nodes ++ R)) ∧
        inc C y b k D q = some (D', r) ∧ D.length = N.dist.length ∧ (∀ j, (N.dist.lookup j).isSome = true → (D.lookup j).isSome = true) ∧ (∀ j ∈ q, (N.dist.lookup j).isSome = true ∧ (C.lookup j).isSome = true) ∧ q.length + k * 64 ≤ 640064) f
        ⟨_, [y], .refl _ _, hr, kput_len hy, fun j hj => kput_has hj, fun j hj => by rw [List.mem_singleton.mp hj]; exact ⟨hy, hy2⟩, by simp; omega⟩ ?_
      rintro k H' ⟨D, q, wk, hi, hlen, hkeys, hq, hroom⟩
      refine Tr.weak ?_ wk
      k_call_by "go" ()
      refine tr_deque (by k_call_by "mem" ()) (by simp; omega) ?_
      cases q with
      | nil =>
        have hi' : some (D, true) = some (D', r) := by cases k <;> exact hi
        cases hi'
        simp only [List.map_nil, List.isEmpty_nil, Bool.not_true, Bool.false_eq_true, if_false]
        k_call_by "go" ()
        exact ⟨_, Weak.sub' (.cons _ (.cons _ (List.Sublist.refl _))), h⟩
      | cons c0 q =>
        cases k with
        | zero => exact absurd hi (by simp [inc])
        | succ k =>
          obtain ⟨hc1, hc2⟩ := hq c0 (.head _)
          simp only [List.map_cons, List.isEmpty_cons, Bool.not_false, if_true]
          k_call_by "go" ()
          k_call_by "mpopleft" ()
          k_call_by "go" ()
          refine m_dqpop (l := q.map .int) (by k_call_by "put" ()) (by simp; simp at hroom; omega) ?_
          k_call_by "go" ()
          k_call_by "f203" ()
          k_call_by "go" ()
          obtain ⟨v, l, e1, e2, hch⟩ : ∃ v l, N.cons.lookup c0 = some v ∧ C.lookup c0 = some l ∧ Chain nodes v l := by
            rcases hC.look c0 with ⟨_, e2⟩ | e
            · rw [e2] at hc2; cases hc2
            · exact e
          refine sub_idict (.mem (by k_call_by "mem" ())) e1 ?_
          k_call_by "go" ()
          obtain ⟨hl64, hl⟩ := hw c0 l e2
          have hchl : ch C c0 = l := by unfold ch; rw [e2]; rfl
          unfold inc at hi
          rw [hchl] at hi
          refine EX_While (fun k' H' => ∃ v l' D₁ q₁, Weak c H' ((dq, .deque (q₁.map .int)) :: (L, .ns [("self", .ref N.a), ("x", .int x), ("y", .int y), ("b", .int b), ("x_dist", .int (lk N.dist x)), ("x_plus_b", .int (lk N.dist x + b)), ("queue", .ref dq), ("c", .int c0), ("n", v)]) :: netH (N.withD D₁) (nodes ++ R)) ∧
            Chain nodes v l' ∧ k' = l'.length ∧ relax y b c0 l' D₁ q₁ = relax y b c0 l D q ∧ (∀ p ∈ l', p ∈ l) ∧ D₁.length = N.dist.length ∧ (∀ j, (N.dist.lookup j).isSome = true → (D₁.lookup j).isSome = true) ∧ (∀ j ∈ q₁, (N.dist.lookup j).isSome = true ∧ (C.lookup j).isSome = true) ∧
            q₁.length + l'.length ≤ q.length + 64) l.length
            ⟨v, l, D, q, .refl _ _, hch, rfl, rfl, fun _ h => h, hlen, hkeys, fun j hj => hq j (.tail _ hj), by omega⟩ ?_
          rintro k' H' ⟨v, l', D₁, q₁, wk, hv, rfl, e, hsub, hlen₁, hkeys₁, hq₁, hroom₁⟩
          refine Tr.weak ?_ wk
          k_call_by "go" ()
          refine isnot_none hv.notCon ?_
          cases hv with
          | nil =>
            k_call_by "go" ()
            simp only [Bool.false_eq_true, if_false]
            k_call_by "go" ()
            rw [← e] at hi
            simp only [relax] at hi
            refine ⟨k, Nat.lt_succ_self _, D₁, q₁, ?_, hi, hlen₁, hkeys₁, hq₁, by simp at hroom hroom₁; omega⟩
            exact Weak.ns (.there .here) fun x v e => (look_app (r := [("c", .int c0), ("n", .none)]) e :)
          | @cons na nd d w nx l' m1 m2 hv =>
            have hdw := hl (d, w) (hsub _ (.head _))
            have hd1 : (D₁.lookup d).isSome = true := hkeys₁ _ hdw.1
            have hc1' : (D₁.lookup c0).isSome = true := hkeys₁ _ hc1
            k_call_by "go" ()
            simp only [if_true]
            k_call_by "go" ()
            k_call_by "f203" ()
            k_call_by "go" ()
            refine sub_idict (.mem (by k_call_by "mem" ())) (look_map (lk_of hc1')) ?_
            k_call_by "go" ()
            refine gf_96 hK (.tail _ (.tail _ (inN m1))) (.tail _ (.tail _ (inN m2))) (NGet.look (by k_call_by "get" ())) (by simp) (by k_call_by "nc" ()) ?_
            k_call_by "go" ()
            k_call_by "f203" ()
            k_call_by "go" ()
            refine gf_96 hK (.tail _ (.tail _ (inN m1))) (.tail _ (.tail _ (inN m2))) (NGet.look (by k_call_by "get" ())) (by simp) (by k_call_by "nc" ()) ?_
            refine sub_idict (.mem (by k_call_by "mem" ())) (look_map (lk_of hd1)) ?_
            k_call_by "go" ()
            rw [← e] at hi
            simp only [relax] at hi e
            by_cases hrel : lk D₁ c0 + w < lk D₁ d
            · rw [if_pos hrel] at hi e
              rw [if_pos (by simpa using hrel)]
              refine EX_If ?_
              refine Tr.mono (Φ := fun q H' => q = decide (d = y ∧ w = b) ∧ H' = (dq, .deque (q₁.map .int)) :: (L, .ns [("self", .ref N.a), ("x", .int x), ("y", .int y), ("b", .int b), ("x_dist", .int (lk N.dist x)), ("x_plus_b", .int (lk N.dist x + b)), ("queue", .ref dq), ("c", .int c0), ("n", .ref na)]) :: netH (N.withD D₁) (nodes ++ R)) ?_ ?_
              · k_call_by "go" ()
                refine gf_96 hK (.tail _ (.tail _ (inN m1))) (.tail _ (.tail _ (inN m2))) (NGet.look (by k_call_by "get" ())) (by simp) (by k_call_by "nc" ()) ?_
                k_call_by "go" ()
                by_cases hdy : d = y
                · rw [if_pos (by simpa using hdy)]
                  k_call_by "go" ()
                  refine gf_96 hK (.tail _ (.tail _ (inN m1))) (.tail _ (.tail _ (inN m2))) (NGet.look (by k_call_by "get" ())) (by simp) (by k_call_by "nc" ()) ?_
                  k_call_by "go" ()
                  refine b_abs ?_
                  k_call_by "go" ()
                  k_call_by "f203" ()
                  k_call_by "go" ()
                  by_cases hwb : w = b
                  · rw [if_pos (by simp; omega)]
                    k_call_by "go" ()
                    exact ⟨by simp [hdy, hwb], rfl⟩
                  · rw [if_neg (by simp; omega)]
                    exact ⟨by simp [hwb], rfl⟩
                · rw [if_neg (by simpa using hdy)]
                  exact ⟨by simp [hdy], rfl⟩
              · rintro q' H'' ⟨rfl, rfl⟩
                by_cases hstop : d = y ∧ w = b
                · rw [if_pos hstop] at hi
                  rw [if_pos (by simpa using hstop)]
                  cases hi
                  k_call_by "go" ()
                  exact ⟨_, Weak.sub' (.cons _ (.cons _ (List.Sublist.refl _))), h⟩
                · rw [if_neg hstop] at hi e
                  rw [if_neg (by simpa using hstop)]
                  k_call_by "go" ()
                  k_call_by "f203" ()
                  k_call_by "go" ()
                  refine sub_idict (.mem (by k_call_by "mem" ())) (look_map (lk_of hc1')) ?_
                  k_call_by "go" ()
                  refine gf_96 hK (.tail _ (.tail _ (inN m1))) (.tail _ (.tail _ (inN m2))) (NGet.look (by k_call_by "get" ())) (by simp) (by k_call_by "nc" ()) ?_
                  k_call_by "go" ()
                  k_call_by "f203" ()
                  k_call_by "go" ()
                  refine gf_96 hK (.tail _ (.tail _ (inN m1))) (.tail _ (.tail _ (inN m2))) (NGet.look (by k_call_by "get" ())) (by simp) (by k_call_by "nc" ()) ?_
                  refine set_idict (es := D₁.map fun p => (p.1, .int p.2)) (H' := (dq, .deque (q₁.map .int)) :: (L, .ns [("self", .ref N.a), ("x", .int x), ("y", .int y), ("b", .int b), ("x_dist", .int (lk N.dist x)), ("x_plus_b", .int (lk N.dist x + b)), ("queue", .ref dq), ("c", .int c0), ("n", .ref na)]) :: netH (N.withD (kput D₁ d (lk D₁ c0 + w))) (nodes ++ R)) ?_ (by simp; omega) ?_
                  · rw [kput_map]; exact .there (.there (.there (.there .here)))
                  k_call_by "go" ()
                  k_call_by "mappend" ()
                  k_call_by "go" ()
                  refine gf_96 hK (.tail _ (.tail _ (inN m1))) (.tail _ (.tail _ (inN m2))) (NGet.look (by k_call_by "get" ())) (by simp) (by k_call_by "nc" ()) ?_
                  k_call_by "go" ()
                  refine m_dqappend (l := q₁.map .int) (by k_call_by "put" ()) (by simp; simp at hroom hroom₁; omega) ?_
                  k_call_by "go" ()
                  refine gf_96 hK (.tail _ (.tail _ (inN m1))) (.tail _ (.tail _ (inN m2))) (NGet.look (by k_call_by "get" ())) (by simp) hv.notCon ?_
                  k_call_by "go" ()
                  refine ⟨l'.length, Nat.lt_succ_self _, nx, l', kput D₁ d (lk D₁ c0 + w), q₁ ++ [d], ?_, hv, rfl, e, fun p hp => hsub p (.tail _ hp), (kput_len hd1).trans hlen₁, fun j hj => kput_has (hkeys₁ j hj), fun j hj => ?_, by simp at hroom₁ ⊢; omega⟩
                  · rw [List.map_append]; exact .refl _ _
                  · rcases List.mem_append.mp hj with hj | hj
                    · exact hq₁ j hj
                    · rw [List.mem_singleton.mp hj]; exact hdw
            · rw [if_neg hrel] at hi e
              rw [if_neg (by simpa using hrel)]
              k_call_by "go" ()
              refine gf_96 hK (.tail _ (.tail _ (inN m1))) (.tail _ (.tail _ (inN m2))) (NGet.look (by k_call_by "get" ())) (by simp) hv.notCon ?_
              k_call_by "go" ()
              refine ⟨l'.length, Nat.lt_succ_self _, nx, l', D₁, q₁, .refl _ _, hv, rfl, ?_, fun p hp => hsub p (.tail _ hp), hlen₁, hkeys₁, hq₁, by simp at hroom₁; omega⟩
              exact e
    · rw [if_neg hlt] at hr
      cases hr
      rw [if_neg (by simpa using hlt)]
      k_call_by "go" ()
      k_call_by "out" ()
      exact h
end

end Mine
end
section
open PySem PySem.W PySem.Calls PyProof.Rows
set_option Elab.async false
set_option maxRecDepth 100000
set_option maxHeartbeats 4000000
set_option linter.unusedVariables false
namespace Mine
local macro_rules | `(tactic| k_call_by "bb" ()) => `(tactic| first | exact bb_len | exact bb_range | exact bb_isinstance | exact bb_all | exact bb_any | exact bb_int | exact bb_bool | exact bb_sorted | exact bb_min | exact bb_max | exact bb_dict | exact bb_set | exact bb_abs)
local macro_rules | `(tactic| k_call_by "bn" ()) => `(tactic| first | exact bn_len _ | exact bn_range _ | exact bn_isinstance _ | exact bn_all _ | exact bn_any _ | exact bn_int _ | exact bn_bool _ | exact bn_sorted _ | exact bn_min _ | exact bn_max _ | exact bn_dict _ | exact bn_set _ | exact bn_abs _)
local macro_rules | `(tactic| k_call_by "gv" ()) => `(tactic| first | exact gv_law_wide _ | exact gv_law_slim _ | exact gv_law_draw _ | exact gv_law_size _ | exact gv_law_plain _ | exact gv_law_lines _ | exact gv_law_rows _ | exact gv_law_border _ | exact gv_law_ways _ | exact gv_DeltaSimpleTemporalNetwork _ | exact gv_DeltaNeighbors _ | exact gv_deque _)
local macro_rules | `(tactic| k_call_by "mem" ()) => `(tactic| (repeat (first | with_unfolding_all exact List.Mem.head _ | with_unfolding_all apply List.Mem.tail)))
local macro_rules | `(tactic| k_call_by "get" ()) => `(tactic| (repeat (first | with_unfolding_all exact NGet.here | with_unfolding_all apply NGet.there (by with_unfolding_all exact rfl))))
local macro_rules | `(tactic| k_call_by "nput" ()) => `(tactic| (repeat (first | with_unfolding_all exact NPut.here | with_unfolding_all exact NPut.nil | with_unfolding_all apply NPut.there (by with_unfolding_all exact rfl))))
local macro_rules | `(tactic| k_call_by "put" ()) => `(tactic| (repeat (first | with_unfolding_all exact Put.here | with_unfolding_all apply Put.there)))
local macro_rules | `(tactic| k_call_by "rfl" ()) => `(tactic| with_unfolding_all exact rfl)
local macro_rules | `(tactic| k_call_by "name" ()) => `(tactic| (with_reducible refine isName ?_; first
  | with_reducible refine EV_local (by k_call_by "rfl" ()) (by k_call_by "mem" ()) (NGet.look (by k_call_by "get" ())) ?_
  | with_reducible refine EV_cell (by k_call_by "rfl" ()) (by k_call_by "rfl" ()) (by k_call_by "mem" ()) ?_
  | with_reducible refine EV_free (by k_call_by "rfl" ()) (by k_call_by "rfl" ()) (by k_call_by "mem" ()) ?_
  | with_reducible refine EV_builtin (nsK (by assumption) (by k_call_by "bn" ())) (by k_call_by "bb" ()) ?_
  | with_reducible refine EV_global (nsK (by assumption) (by k_call_by "gv" ())) (fun _ => .ref _) ?_
  | with_reducible refine EV_global (nsK (by assumption) (by k_call_by "gv" ())) (fun _ => .con _) ?_))
local macro_rules | `(tactic| k_call_by "set" ()) => `(tactic| (with_reducible refine isSet ?_; first
  | with_reducible refine SN_local (by k_call_by "rfl" ()) (by k_call_by "put" ()) (by k_call_by "nput" ()) ?_
  | with_reducible refine SN_cell (by k_call_by "rfl" ()) (by k_call_by "rfl" ()) (by k_call_by "put" ()) ?_))
local macro_rules | `(tactic| k_call_by "op" ()) => `(tactic| with_reducible first
  | refine op_add ?_
  | refine op_sub ?_
  | refine op_neg ?_
  | refine cmp_lt ?_
  | refine cmp_gt ?_
  | refine cmp_le ?_
  | refine cmp_ge ?_
  | refine cmp_eq ?_
  | refine cmp_ne ?_
  | refine tr_bool ?_
  | refine tr_int ?_
  | refine tr_none ?_)
local macro_rules | `(tactic| k_call_by "s" ()) => `(tactic| first
  | k_call_by "name" ()
  | with_reducible refine EX_If ?_
  | with_reducible refine EX_Return ?_
  | with_reducible refine EX_nil ?_
  | with_reducible refine EX_Continue ?_
  | with_reducible refine EX_Expr ?_
  | with_reducible refine EX_Assign ?_
  | with_reducible refine EX_AssignT ?_
  | with_reducible refine EX_AssignS ?_
  | with_reducible refine EX_AssignA ?_
  | with_reducible refine EV_int ?_
  | with_reducible refine EV_bool ?_
  | with_reducible refine EV_none ?_
  | with_reducible refine EV_BinOp ?_
  | with_reducible refine EV_UnaryOp ?_
  | with_reducible refine EB_Compare ?_
  | with_reducible refine EB_not ?_
  | with_reducible refine EB_and ?_
  | with_reducible refine EB_and_nil ?_
  | with_reducible refine EB_or ?_
  | with_reducible refine EB_or_nil ?_
  | with_reducible refine EV_Compare ?_
  | with_reducible refine EV_Sub ?_
  | with_reducible refine EV_IfExp ?_
  | with_reducible refine EV_Tuple ?_
  | with_reducible refine EV_List ?_
  | with_reducible refine EV_Call ?_
  | with_reducible refine EV_MCall ?_
  | with_reducible refine EV_Attr ?_
  | with_reducible refine EVs_cons ?_
  | with_reducible refine EVs_nil ?_
  | k_call_by "op" ()
  | k_call_by "set" ()
  | with_reducible refine AT_Name ?_
  | with_reducible refine EB_plain ?_
  | with_reducible refine okB ?_
  | with_reducible refine okT ?_
  | with_reducible refine okK (by assumption) (by k_call_by "rfl" ()) ?_)
local macro_rules | `(tactic| k_call_by "go" ()) => `(tactic| (repeat (k_call_by "s" ())))

local macro_rules | `(tactic| k_call_by "nc" ()) => `(tactic| (intro x e; cases e))
local macro_rules | `(tactic| k_call_by "f203" ()) => `(tactic| refine gf_203 (by assumption) (by k_call_by "mem" ()) (by k_call_by "mem" ()) (NGet.look (by k_call_by "get" ())) (by simp) (by k_call_by "nc" ()) ?_)
local macro_rules | `(tactic| k_call_by "out" ()) => `(tactic| (refine ⟨_, Weak.sub' (List.sublist_cons_self _ _), ?_⟩))
local macro_rules | `(tactic| k_call_by "mget" ()) => `(tactic| (refine GM_rd (Rd.mem (by k_call_by "mem" ())) (fun _ x => own_idict x) F.plainAttrs_dict F.slot_dict_get F.type_dict_get ?_))
local macro_rules | `(tactic| k_call_by "msetd" ()) => `(tactic| (refine GM_rd (Rd.mem (by k_call_by "mem" ())) (fun _ x => own_idict x) F.plainAttrs_dict F.slot_dict_setdefault F.type_dict_setdefault ?_))
theorem ksetd_look {V : Type} (D : List (Int × V)) (k : Int) (v : V) (j : Int) : (ksetd D k v).lookup j = if (D.lookup j).isSome then D.lookup j else if j = k then some v else none := by
  have key := kput_look D k v j
  unfold ksetd
  unfold kput at key
  cases h : (D.lookup k).isSome with
  | true =>
    simp only [if_true]
    cases hj : D.lookup j with
    | some w => simp
    | none =>
      have : j ≠ k := fun e => by subst e; rw [hj] at h; cases h
      simp [this]
  | false =>
    rw [h] at key
    simp only [Bool.false_eq_true, if_false] at key ⊢
    rw [key]
    by_cases e : j = k
    · subst e
      have : D.lookup j = none := by cases q : D.lookup j with | none => rfl | some _ => rw [q] at h; cases h
      simp [this]
    · simp only [if_neg e]
      cases D.lookup j <;> simp
theorem ksetd_has {V : Type} {D : List (Int × V)} {k j : Int} {v : V} (h : (D.lookup j).isSome = true) : ((ksetd D k v).lookup j).isSome = true := by rw [ksetd_look, if_pos h]; exact h
theorem ksetd_self {V : Type} (D : List (Int × V)) (k : Int) (v : V) : ((ksetd D k v).lookup k).isSome = true := by
  rw [ksetd_look]; split
  · assumption
  · simp
theorem ksetd_len {V : Type} (D : List (Int × V)) (k : Int) (v : V) : (ksetd D k v).length ≤ D.length + 1 := by
  unfold ksetd; split <;> simp
theorem kput_len' {V : Type} (D : List (Int × V)) (k : Int) (v : V) : (kput D k v).length ≤ D.length + 1 := by
  unfold kput; split <;> simp
theorem kput_has' {V : Type} {D : List (Int × V)} {k j : Int} {v : V} (h : (D.lookup j).isSome = true) : ((kput D k v).lookup j).isSome = true := by
  rw [kput_look]; split
  · rfl
  · exact h
theorem Chains.isSome {nodes : AHeap} {cons C} (h : Chains nodes cons C) (k : Int) : (cons.lookup k).isSome = (C.lookup k).isSome := by
  rcases h.look k with ⟨e1, e2⟩ | ⟨v, l, e1, e2, _⟩ <;> rw [e1, e2] <;> rfl
theorem Chains.setd {nodes : AHeap} {cons C} (h : Chains nodes cons C) (k : Int) : Chains nodes (ksetd cons k .none) (ksetd C k []) := by
  unfold ksetd
  rw [h.isSome k]
  split
  · exact h
  · exact A2.append h (.cons ⟨rfl, .nil⟩ .nil)
theorem Chains.put {nodes : AHeap} {cons C} (h : Chains nodes cons C) (k : Int) {v : AV} {l} (r : Chain nodes v l) : Chains nodes (kput cons k v) (kput C k l) := by
  unfold kput
  rw [h.isSome k]
  cases hh : (C.lookup k).isSome with
  | true =>
    simp only [if_true]
    clear hh
    induction h with
    | nil => exact .nil
    | @cons p q l' m pq _ ih =>
      obtain ⟨e, r'⟩ := pq
      rw [List.map_cons, List.map_cons]
      refine .cons ?_ ih
      by_cases hk : p.1 = k
      · rw [if_pos (by simpa using hk), if_pos (by rw [← e]; simpa using hk)]; exact ⟨e, r⟩
      · rw [if_neg (by simpa using hk), if_neg (by rw [← e]; simpa using hk)]; exact ⟨e, r'⟩
  | false =>
    simp only [Bool.false_eq_true, if_false]
    exact A2.append h (.cons ⟨rfl, r⟩ .nil)
theorem Chains.get {nodes : AHeap} {cons C} (h : Chains nodes cons C) (x : Int) : Chain nodes ((cons.lookup x).getD .none) (ch C x) := by
  unfold ch
  rcases h.look x with ⟨e1, e2⟩ | ⟨v, l, e1, e2, r⟩
  · rw [e1, e2]; exact .nil
  · rw [e1, e2]; exact r
theorem perm_in (L : Addr × AObj) (N : Net) (a d : Addr × AObj) (X : AHeap) : (L :: netH N (a :: d :: X)).Perm (a :: d :: L :: netH N X) := by
  have h1 : ∀ (l X : AHeap) (a d : Addr × AObj), (l ++ a :: d :: X).Perm (a :: d :: (l ++ X)) := fun l X a d =>
    List.perm_middle.trans (List.Perm.cons _ List.perm_middle)
  exact h1 [L, _, _, _, _] X a d

theorem CodeT.under {c : Cx} {A Z f as ks} {N : Net} {nodes R : AHeap} {p : Addr × AObj} {Φ : AV → AHeap → Prop}
    (h : CodeT c A Z f as ks (netH N (nodes ++ p :: R)) fun v H' => ∃ N' nodes', H' = netH N' (nodes' ++ p :: R) ∧ Φ v (p :: netH N' (nodes' ++ R))) : CodeT c A Z f as ks (p :: netH N (nodes ++ R)) Φ := by
  have pm : ∀ (N : Net) (nodes : AHeap), (netH N (nodes ++ p :: R)).Perm (p :: netH N (nodes ++ R)) := fun N nodes => List.perm_middle (l₁ := netH N nodes) (a := p) (l₂ := R)
  refine CodeT.weak (CodeT.post (h.mono ?_)) (Weak.perm' (pm N nodes))
  rintro v H' ⟨N', nodes', rfl, hΦ⟩
  exact ⟨_, Weak.perm' (pm N' nodes').symm, hΦ⟩
section
variable (c : Cx) (hK : c.K = hd.heap_39 c.w.params)
include hK
variable {A : Around} {Z : List (Addr × Obj)} {Φ : AV → AHeap → Prop} {n : Nat} {N : Net} {R nodes : AHeap}
theorem s_add (hA : Ar A (n + 4)) {x y b : Int} {C : CL} {f : Nat} {S' : PS} (hC : Chains nodes N.cons C) (hw : WF (ksetd (ksetd N.dist x 0) y 0) (kput (ksetd C y []) x ((y, b) :: ch C x))) (hz : N.dist.length ≤ 1000) (hz2 : N.cons.length ≤ 1000) (hf : f ≤ 10000)
    (hr : PS.add f ⟨N.dist, C, N.sat⟩ x y b = some S')
    (h : ∀ N' nodes', N'.a = N.a → N'.d = N.d → N'.dd = N.dd → N'.cd = N.cd → N'.dist = S'.dist → N'.sat = S'.sat → (∀ p ∈ nodes, p ∈ nodes') → Chains nodes' N'.cons S'.cs → Φ .none (netH N' (nodes' ++ R))) :
    CodeT c A Z (.ref 152) [.ref N.a, .int x, .int y, .int b] [] (netH N (nodes ++ R)) Φ := by
  refine .own0 [("self", .ref N.a), ("x", .int x), ("y", .int y), ("b", .int b)] hA (lkK hK (by rfl)) (cdK hK (by rfl)) (fun Z s vs kv S r1 r2 => ?_) (fun L A' hA' => ?_)
  · cases r1 with | cons p0 r1 =>
    obtain ⟨v, u, x, rfl, rv, ru, rx⟩ := r1.three
    cases r2
    exact binds_now rfl (.cons ⟨rfl, p0⟩ (.cons ⟨rfl, rv⟩ (.cons ⟨rfl, ru⟩ (.cons ⟨rfl, rx⟩ .nil))))
  · unfold PS.add at hr
    dsimp only at hr
    k_call_by "go" ()
    k_call_by "f203" ()
    k_call_by "go" ()
    cases hs : N.sat with
    | false =>
      rw [hs] at hr
      simp only [Bool.false_eq_true, if_false] at hr ⊢
      cases hr
      k_call_by "go" ()
      k_call_by "out" ()
      exact h N nodes rfl rfl rfl rfl rfl hs (fun _ q => q) hC
    | true =>
      rw [hs] at hr
      simp only [if_true] at hr ⊢
      k_call_by "go" ()
      k_call_by "f203" ()
      k_call_by "msetd" ()
      k_call_by "go" ()
      refine m_setdefault (es := N.dist.map fun p => (p.1, .int p.2)) (H' := (L, .ns [("self", .ref N.a), ("x", .int x), ("y", .int y), ("b", .int b)]) :: netH (N.withD (ksetd N.dist x 0)) (nodes ++ R)) ?_ (by simp; omega) fun _ => ?_
      · rw [ksetd_map]; exact .there (.there (.there .here))
      k_call_by "go" ()
      k_call_by "f203" ()
      k_call_by "msetd" ()
      k_call_by "go" ()
      refine m_setdefault (es := (ksetd N.dist x 0).map fun p => (p.1, .int p.2)) (H' := (L, .ns [("self", .ref N.a), ("x", .int x), ("y", .int y), ("b", .int b)]) :: netH (N.withD (ksetd (ksetd N.dist x 0) y 0)) (nodes ++ R)) ?_ (by have := ksetd_len N.dist x 0; simp; omega) fun _ => ?_
      · rw [ksetd_map]; exact .there (.there (.there .here))
      k_call_by "go" ()
      k_call_by "f203" ()
      k_call_by "mget" ()
      k_call_by "go" ()
      refine m_get (.mem (by k_call_by "mem" ())) ?_
      k_call_by "go" ()
      k_call_by "f203" ()
      k_call_by "msetd" ()
      k_call_by "go" ()
      refine m_setdefault (es := N.cons) (by k_call_by "put" ()) (by omega) fun _ => ?_
      k_call_by "go" ()
      refine gm_203 hK (f := 173) (by simp) (by k_call_by "mem" ()) (by k_call_by "mem" ()) (by rfl) ?_
      k_call_by "go" ()
      refine (CodeT.under (nodes := nodes) (N := ⟨N.a, N.d, N.dd, N.cd, ksetd (ksetd N.dist x 0) y 0, ksetd N.cons y .none, N.sat⟩) (s_subsumed c hK hA' (C := ksetd C y []) (hC.setd y) ⟨_, nodes, rfl, ?_⟩)).call
      k_call_by "go" ()
      cases hsub : subsumed (ksetd C y []) x y b with
      | true =>
        rw [hsub] at hr
        simp only [Bool.not_true, Bool.false_eq_true, if_false, if_true] at hr ⊢
        cases hr
        k_call_by "go" ()
        k_call_by "out" ()
        exact h _ nodes rfl rfl rfl rfl rfl hs (fun _ q => q) (hC.setd y)
      | false =>
        rw [hsub] at hr
        simp only [Bool.not_false, Bool.false_eq_true, if_false, if_true] at hr ⊢
        k_call_by "go" ()
        refine (CodeT.make (n := n + 2) hA' (by rw [hK]; rfl) (fdK hK (by rfl)) (by rw [hK]; rfl) fun a d A'' hA'' => ?_).call
        refine s_dninit c hK hA'' (hC.get x).notCon ⟨rfl, ?_⟩
        k_call_by "set" ()
        refine Tr.weak ?_ (Weak.perm' (perm_in _ _ (a, .inst 96 d) (d, .attrs [("dst", .int y), ("bound", .int b), ("next", (N.cons.lookup x).getD .none)]) _))
        k_call_by "go" ()
        k_call_by "f203" ()
        k_call_by "go" ()
        have more : ∀ p ∈ nodes, p ∈ (a, AObj.inst 96 d) :: (d, .attrs [("dst", .int y), ("bound", .int b), ("next", (N.cons.lookup x).getD .none)]) :: nodes := fun p q => .tail _ (.tail _ q)
        have hC' : Chains ((a, AObj.inst 96 d) :: (d, .attrs [("dst", .int y), ("bound", .int b), ("next", (N.cons.lookup x).getD .none)]) :: nodes) (kput (ksetd N.cons y .none) x (.ref a)) (kput (ksetd C y []) x ((y, b) :: ch C x)) :=
          ((hC.setd y).more more).put x (.cons (.head _) (.tail _ (.head _)) ((hC.get x).more more))
        have l1 := ksetd_len N.cons y AV.none
        have l2 := ksetd_len N.dist x (0 : Int)
        have l3 := ksetd_len (ksetd N.dist x 0) y (0 : Int)
        refine set_idict (es := ksetd N.cons y .none) (x := .ref a) (by k_call_by "put" ()) (by omega) ?_
        k_call_by "go" ()
        refine gm_203 hK (f := 180) (by simp) (by k_call_by "mem" ()) (by k_call_by "mem" ()) (by rfl) ?_
        k_call_by "go" ()
        generalize hin : incAll (kput (ksetd C y []) x ((y, b) :: ch C x)) f (ksetd (ksetd N.dist x 0) y 0) x y b = res at hr
        cases res with
        | none => cases hr
        | some res =>
          obtain ⟨D', r⟩ := res
          cases hr
          refine (CodeT.under (nodes := (a, AObj.inst 96 d) :: (d, .attrs [("dst", .int y), ("bound", .int b), ("next", (N.cons.lookup x).getD .none)]) :: nodes) (N := ⟨N.a, N.d, N.dd, N.cd, ksetd (ksetd N.dist x 0) y 0, kput (ksetd N.cons y .none) x (.ref a), N.sat⟩)
            (s_inc c hK hA' hC' hw (ksetd_has (ksetd_self _ _ _)) (ksetd_self _ _ _) (kput_has' (ksetd_self _ _ _)) (by dsimp only; omega) hf hin ⟨_, (a, AObj.inst 96 d) :: (d, .attrs [("dst", .int y), ("bound", .int b), ("next", (N.cons.lookup x).getD .none)]) :: nodes, rfl, ?_⟩)).call
          k_call_by "go" ()
          refine sf_203 (m' := [("_constraints", .ref N.cd), ("_distances", .ref N.dd), ("_is_sat", .bool r), ("_epsilon", .int 0)]) hK (by k_call_by "mem" ()) (by k_call_by "put" ()) (by rfl) (by simp) (by rfl) (by simp) ?_
          k_call_by "go" ()
          refine ⟨_, Weak.sub' (List.sublist_cons_self _ _), ?_⟩
          exact h ⟨N.a, N.d, N.dd, N.cd, D', kput (ksetd N.cons y .none) x (.ref a), r⟩ ((a, AObj.inst 96 d) :: (d, .attrs [("dst", .int y), ("bound", .int b), ("next", (N.cons.lookup x).getD .none)]) :: nodes) rfl rfl rfl rfl rfl rfl more hC'
end

end Mine
end
section
open PySem PySem.W PySem.Calls PyProof.Rows
set_option Elab.async false
set_option maxRecDepth 100000
set_option maxHeartbeats 4000000
set_option linter.unusedVariables false
namespace Mine
local macro_rules | `(tactic| k_call_by "bb" ()) => `(tactic| first | exact bb_len | exact bb_range | exact bb_isinstance | exact bb_all | exact bb_any | exact bb_int | exact bb_bool | exact bb_sorted | exact bb_min | exact bb_max | exact bb_dict | exact bb_set | exact bb_abs)
local macro_rules | `(tactic| k_call_by "bn" ()) => `(tactic| first | exact bn_len _ | exact bn_range _ | exact bn_isinstance _ | exact bn_all _ | exact bn_any _ | exact bn_int _ | exact bn_bool _ | exact bn_sorted _ | exact bn_min _ | exact bn_max _ | exact bn_dict _ | exact bn_set _ | exact bn_abs _)
local macro_rules | `(tactic| k_call_by "gv" ()) => `(tactic| first | exact gv_law_wide _ | exact gv_law_slim _ | exact gv_law_draw _ | exact gv_law_size _ | exact gv_law_plain _ | exact gv_law_lines _ | exact gv_law_rows _ | exact gv_law_border _ | exact gv_law_ways _ | exact gv_DeltaSimpleTemporalNetwork _ | exact gv_DeltaNeighbors _ | exact gv_deque _)
local macro_rules | `(tactic| k_call_by "mem" ()) => `(tactic| (repeat (first | with_unfolding_all exact List.Mem.head _ | with_unfolding_all apply List.Mem.tail)))
local macro_rules | `(tactic| k_call_by "get" ()) => `(tactic| (repeat (first | with_unfolding_all exact NGet.here | with_unfolding_all apply NGet.there (by with_unfolding_all exact rfl))))
local macro_rules | `(tactic| k_call_by "nput" ()) => `(tactic| (repeat (first | with_unfolding_all exact NPut.here | with_unfolding_all exact NPut.nil | with_unfolding_all apply NPut.there (by with_unfolding_all exact rfl))))
local macro_rules | `(tactic| k_call_by "put" ()) => `(tactic| (repeat (first | with_unfolding_all exact Put.here | with_unfolding_all apply Put.there)))
local macro_rules | `(tactic| k_call_by "rfl" ()) => `(tactic| with_unfolding_all exact rfl)
local macro_rules | `(tactic| k_call_by "name" ()) => `(tactic| (with_reducible refine isName ?_; first
  | with_reducible refine EV_local (by k_call_by "rfl" ()) (by k_call_by "mem" ()) (NGet.look (by k_call_by "get" ())) ?_
  | with_reducible refine EV_cell (by k_call_by "rfl" ()) (by k_call_by "rfl" ()) (by k_call_by "mem" ()) ?_
  | with_reducible refine EV_free (by k_call_by "rfl" ()) (by k_call_by "rfl" ()) (by k_call_by "mem" ()) ?_
  | with_reducible refine EV_builtin (nsK (by assumption) (by k_call_by "bn" ())) (by k_call_by "bb" ()) ?_
  | with_reducible refine EV_global (nsK (by assumption) (by k_call_by "gv" ())) (fun _ => .ref _) ?_
  | with_reducible refine EV_global (nsK (by assumption) (by k_call_by "gv" ())) (fun _ => .con _) ?_))
local macro_rules | `(tactic| k_call_by "set" ()) => `(tactic| (with_reducible refine isSet ?_; first
  | with_reducible refine SN_local (by k_call_by "rfl" ()) (by k_call_by "put" ()) (by k_call_by "nput" ()) ?_
  | with_reducible refine SN_cell (by k_call_by "rfl" ()) (by k_call_by "rfl" ()) (by k_call_by "put" ()) ?_))
local macro_rules | `(tactic| k_call_by "op" ()) => `(tactic| with_reducible first
  | refine op_add ?_
  | refine op_sub ?_
  | refine op_neg ?_
  | refine cmp_lt ?_
  | refine cmp_gt ?_
  | refine cmp_le ?_
  | refine cmp_ge ?_
  | refine cmp_eq ?_
  | refine cmp_ne ?_
  | refine tr_bool ?_
  | refine tr_int ?_
  | refine tr_none ?_)
local macro_rules | `(tactic| k_call_by "s" ()) => `(tactic| first
  | k_call_by "name" ()
  | with_reducible refine EX_If ?_
  | with_reducible refine EX_Return ?_
  | with_reducible refine EX_nil ?_
  | with_reducible refine EX_Continue ?_
  | with_reducible refine EX_Expr ?_
  | with_reducible refine EX_Assign ?_
  | with_reducible refine EX_AssignT ?_
  | with_reducible refine EX_AssignS ?_
  | with_reducible refine EX_AssignA ?_
  | with_reducible refine EV_int ?_
  | with_reducible refine EV_bool ?_
  | with_reducible refine EV_none ?_
  | with_reducible refine EV_BinOp ?_
  | with_reducible refine EV_UnaryOp ?_
  | with_reducible refine EB_Compare ?_
  | with_reducible refine EB_not ?_
  | with_reducible refine EB_and ?_
  | with_reducible refine EB_and_nil ?_
  | with_reducible refine EB_or ?_
  | with_reducible refine EB_or_nil ?_
  | with_reducible refine EV_Compare ?_
  | with_reducible refine EV_Sub ?_
  | with_reducible refine EV_IfExp ?_
  | with_reducible refine EV_Tuple ?_
  | with_reducible refine EV_List ?_
  | with_reducible refine EV_Call ?_
  | with_reducible refine EV_MCall ?_
  | with_reducible refine EV_Attr ?_
  | with_reducible refine EVs_cons ?_
  | with_reducible refine EVs_nil ?_
  | k_call_by "op" ()
  | k_call_by "set" ()
  | with_reducible refine AT_Name ?_
  | with_reducible refine EB_plain ?_
  | with_reducible refine okB ?_
  | with_reducible refine okT ?_
  | with_reducible refine okK (by assumption) (by k_call_by "rfl" ()) ?_)
local macro_rules | `(tactic| k_call_by "go" ()) => `(tactic| (repeat (k_call_by "s" ())))

local macro_rules | `(tactic| k_call_by "nc" ()) => `(tactic| (intro x e; cases e))
local macro_rules | `(tactic| k_call_by "f203" ()) => `(tactic| refine gf_203 (by assumption) (by k_call_by "mem" ()) (by k_call_by "mem" ()) (NGet.look (by k_call_by "get" ())) (by simp) (by k_call_by "nc" ()) ?_)
local macro_rules | `(tactic| k_call_by "out" ()) => `(tactic| (refine ⟨_, Weak.sub' (List.sublist_cons_self _ _), ?_⟩))
local macro_rules | `(tactic| k_call_by "msetd" ()) => `(tactic| (refine GM_rd (Rd.mem (by k_call_by "mem" ())) (fun _ x => own_idict x) F.plainAttrs_dict F.slot_dict_setdefault F.type_dict_setdefault ?_))
noncomputable def oav : Option Int → AV
  | some i => .int i
  | none => .none
noncomputable def kwOf (lb rb : Option Int) : List (Str × AV) := (match lb with | some l => [("left_bound", .int l)] | none => []) ++ (match rb with | some r => [("right_bound", .int r)] | none => [])
theorem kr_one {h : Heap} {kv : List (Str × Value)} {k : Str} {a : AV} (r : KRs h kv [(k, a)]) : ∃ v, kv = [(k, v)] ∧ VR h v a := by
  cases r with | @cons p _ _ _ pq r =>
  cases r
  obtain ⟨k1, v1⟩ := p
  obtain ⟨e1, q1⟩ := pq
  dsimp only at e1 q1
  subst e1
  exact ⟨v1, rfl, q1⟩
theorem kr_two {h : Heap} {kv : List (Str × Value)} {k k' : Str} {a a' : AV} (r : KRs h kv [(k, a), (k', a')]) : ∃ v v', kv = [(k, v), (k', v')] ∧ VR h v a ∧ VR h v' a' := by
  cases r with | @cons p _ _ _ pq r =>
  obtain ⟨k1, v1⟩ := p
  obtain ⟨e1, q1⟩ := pq
  dsimp only at e1 q1
  subst e1
  obtain ⟨v', rfl, q⟩ := kr_one r
  exact ⟨v1, v', rfl, q1, q⟩
theorem kp_binds' {K : Frag} {s : Shared} {fd : FuncData} {args : Args} {ab : List (Str × AV)} (binds : List (Str × Value)) (X : K.In s.heap) (e : ∀ S, peek K S (bindArgs fd args) = some binds) (r : KRs s.heap binds ab) : ∃ binds, BindsTo s fd args binds ∧ KRs s.heap binds ab := ⟨binds, kp_binds X e, r⟩
noncomputable def NetOk (N : Net) (nodes : AHeap) (S : PS) : Prop := N.dist = S.dist ∧ N.sat = S.sat ∧ Chains nodes N.cons S.cs
noncomputable def SameA (N N' : Net) : Prop := N'.a = N.a ∧ N'.d = N.d ∧ N'.dd = N.dd ∧ N'.cd = N.cd
theorem SameA.trans {N N' N'' : Net} (x : SameA N N') (y : SameA N' N'') : SameA N N'' := ⟨y.1.trans x.1, y.2.1.trans x.2.1, y.2.2.1.trans x.2.2.1, y.2.2.2.trans x.2.2.2⟩
section
variable (c : Cx) (hK : c.K = hd.heap_39 c.w.params)
include hK
variable {A : Around} {Z : List (Addr × Obj)} {Φ : AV → AHeap → Prop} {n : Nat} {N : Net} {R nodes : AHeap}
theorem s_add' (hA : Ar A (n + 4)) {x y b : Int} {S S' : PS} {f : Nat} (hN : NetOk N nodes S) (hok : okAdd S x y b) (hf : f ≤ 10000) (hr : PS.add f S x y b = some S')
    (h : ∀ N' nodes', SameA N N' → (∀ p ∈ nodes, p ∈ nodes') → NetOk N' nodes' S' → Φ .none (netH N' (nodes' ++ R))) : CodeT c A Z (.ref 152) [.ref N.a, .int x, .int y, .int b] [] (netH N (nodes ++ R)) Φ := by
  obtain ⟨h1, h2, h3⟩ := hN
  obtain ⟨k1, k2, k3⟩ := hok
  refine s_add c hK hA h3 (by rw [h1]; exact k3) (by rw [h1]; exact k1) (by rw [h3.len]; exact k2) hf (S' := S') (by rw [h1, h2]; exact hr) fun N' nodes' e1 e2 e3 e4 e5 e6 e7 e8 => h N' nodes' ⟨e1, e2, e3, e4⟩ e7 ⟨e5, e6, e8⟩
theorem s_ins (hA : Ar A (n + 5)) {x y : Int} {lb rb : Option Int} {S S' : PS} {f : Nat} (hN : NetOk N nodes S) (hok : okIns f S x y lb rb) (hf : f ≤ 10000) (hr : PS.ins f S x y lb rb = some S')
    (h : ∀ N' nodes', SameA N N' → (∀ p ∈ nodes, p ∈ nodes') → NetOk N' nodes' S' → Φ .none (netH N' (nodes' ++ R))) : CodeT c A Z (.ref 188) [.ref N.a, .int x, .int y] (kwOf lb rb) (netH N (nodes ++ R)) Φ := by
  refine .own0 [("self", .ref N.a), ("left_event", .int x), ("right_event", .int y), ("left_bound", oav lb), ("right_bound", oav rb)] hA (lkK hK (by rfl)) (cdK hK (by rfl)) (fun Z s vs kv S r1 r2 => ?_) (fun L A' hA' => ?_)
  · obtain ⟨v, u, z, rfl, rv, ru, rz⟩ := r1.three
    have SK := S.K
    rw [hK] at SK
    cases lb with
    | none =>
      cases rb with
      | none =>
        cases r2
        exact kp_binds' [("self", v), ("left_event", u), ("right_event", z), ("left_bound", .none), ("right_bound", .none)] SK (fun _ => by kernel_rfl) (.cons ⟨rfl, rv⟩ (.cons ⟨rfl, ru⟩ (.cons ⟨rfl, rz⟩ (.cons ⟨rfl, .none⟩ (.cons ⟨rfl, .none⟩ .nil)))))
      | some r =>
        obtain ⟨v1, rfl, q⟩ := kr_one r2
        exact kp_binds' [("self", v), ("left_event", u), ("right_event", z), ("left_bound", .none), ("right_bound", v1)] SK (fun _ => by kernel_rfl) (.cons ⟨rfl, rv⟩ (.cons ⟨rfl, ru⟩ (.cons ⟨rfl, rz⟩ (.cons ⟨rfl, .none⟩ (.cons ⟨rfl, q⟩ .nil)))))
    | some l =>
      cases rb with
      | none =>
        obtain ⟨v1, rfl, q⟩ := kr_one r2
        exact kp_binds' [("self", v), ("left_event", u), ("right_event", z), ("left_bound", v1), ("right_bound", .none)] SK (fun _ => by kernel_rfl) (.cons ⟨rfl, rv⟩ (.cons ⟨rfl, ru⟩ (.cons ⟨rfl, rz⟩ (.cons ⟨rfl, q⟩ (.cons ⟨rfl, .none⟩ .nil)))))
      | some r =>
        obtain ⟨v1, v2, rfl, q, q'⟩ := kr_two r2
        exact kp_binds' [("self", v), ("left_event", u), ("right_event", z), ("left_bound", v1), ("right_bound", v2)] SK (fun _ => by kernel_rfl) (.cons ⟨rfl, rv⟩ (.cons ⟨rfl, ru⟩ (.cons ⟨rfl, rz⟩ (.cons ⟨rfl, q⟩ (.cons ⟨rfl, q'⟩ .nil)))))
  · cases lb with
    | none =>
      cases rb with
      | none =>
        dsimp only [oav]
        cases hr
        obtain ⟨h1, h2, h3⟩ := hN
        have l2 := ksetd_len N.dist x (0 : Int)
        have hz : N.dist.length ≤ 1000 := by rw [h1]; exact hok
        k_call_by "go" ()
        refine isnot_none (by k_call_by "nc" ()) ?_
        k_call_by "go" ()
        simp only [Bool.false_eq_true, if_false]
        k_call_by "go" ()
        refine isnot_none (by k_call_by "nc" ()) ?_
        k_call_by "go" ()
        simp only [Bool.false_eq_true, if_false]
        k_call_by "go" ()
        refine is_none (by k_call_by "nc" ()) ?_
        k_call_by "go" ()
        simp only [if_true]
        k_call_by "go" ()
        refine is_none (by k_call_by "nc" ()) ?_
        k_call_by "go" ()
        simp only [if_true]
        k_call_by "go" ()
        simp only [if_true]
        k_call_by "go" ()
        k_call_by "f203" ()
        k_call_by "msetd" ()
        k_call_by "go" ()
        refine m_setdefault (es := N.dist.map fun p => (p.1, .int p.2)) (H' := (L, .ns [("self", .ref N.a), ("left_event", .int x), ("right_event", .int y), ("left_bound", .none), ("right_bound", .none)]) :: netH (N.withD (ksetd N.dist x 0)) (nodes ++ R)) ?_ (by simp; omega) fun _ => ?_
        · rw [ksetd_map]; exact .there (.there (.there .here))
        k_call_by "go" ()
        k_call_by "f203" ()
        k_call_by "msetd" ()
        k_call_by "go" ()
        refine m_setdefault (es := (ksetd N.dist x 0).map fun p => (p.1, .int p.2)) (H' := (L, .ns [("self", .ref N.a), ("left_event", .int x), ("right_event", .int y), ("left_bound", .none), ("right_bound", .none)]) :: netH (N.withD (ksetd (ksetd N.dist x 0) y 0)) (nodes ++ R)) ?_ (by simp; omega) fun _ => ?_
        · rw [ksetd_map]; exact .there (.there (.there .here))
        k_call_by "go" ()
        k_call_by "out" ()
        exact h (N.withD (ksetd (ksetd N.dist x 0) y 0)) nodes ⟨rfl, rfl, rfl, rfl⟩ (fun _ q => q) ⟨by rw [h1], h2, h3⟩
      | some r =>
        dsimp only [oav]
        k_call_by "go" ()
        refine isnot_none (by k_call_by "nc" ()) ?_
        k_call_by "go" ()
        simp only [Bool.false_eq_true, if_false]
        k_call_by "go" ()
        refine isnot_none (by k_call_by "nc" ()) ?_
        k_call_by "go" ()
        simp only [if_true]
        k_call_by "go" ()
        refine gm_203 hK (f := 152) (by simp) (by k_call_by "mem" ()) (by k_call_by "mem" ()) (by rfl) ?_
        k_call_by "go" ()
        refine (CodeT.under (s_add' c hK hA' hN hok hf hr fun N' nodes' e1 e2 e3 => ⟨N', nodes', rfl, ?_⟩)).call
        k_call_by "go" ()
        refine is_none (by k_call_by "nc" ()) ?_
        k_call_by "go" ()
        simp only [if_true]
        k_call_by "go" ()
        refine is_none (by k_call_by "nc" ()) ?_
        k_call_by "go" ()
        simp only [Bool.false_eq_true, if_false]
        k_call_by "go" ()
        k_call_by "out" ()
        exact h N' nodes' e1 e2 e3
    | some l =>
      cases rb with
      | none =>
        dsimp only [oav]
        k_call_by "go" ()
        refine isnot_none (by k_call_by "nc" ()) ?_
        k_call_by "go" ()
        simp only [if_true]
        k_call_by "go" ()
        refine gm_203 hK (f := 152) (by simp) (by k_call_by "mem" ()) (by k_call_by "mem" ()) (by rfl) ?_
        k_call_by "go" ()
        refine (CodeT.under (s_add' c hK hA' hN hok hf hr fun N' nodes' e1 e2 e3 => ⟨N', nodes', rfl, ?_⟩)).call
        k_call_by "go" ()
        refine isnot_none (by k_call_by "nc" ()) ?_
        k_call_by "go" ()
        simp only [Bool.false_eq_true, if_false]
        k_call_by "go" ()
        refine is_none (by k_call_by "nc" ()) ?_
        k_call_by "go" ()
        simp only [Bool.false_eq_true, if_false]
        k_call_by "go" ()
        k_call_by "out" ()
        exact h N' nodes' e1 e2 e3
      | some r =>
        dsimp only [oav]
        simp only [PS.ins] at hr
        cases hS : S.add f x y (-l) with
        | none => rw [hS] at hr; cases hr
        | some S1 =>
          rw [hS] at hr
          have hr' : S1.add f y x r = some S' := hr
          k_call_by "go" ()
          refine isnot_none (by k_call_by "nc" ()) ?_
          k_call_by "go" ()
          simp only [if_true]
          k_call_by "go" ()
          refine gm_203 hK (f := 152) (by simp) (by k_call_by "mem" ()) (by k_call_by "mem" ()) (by rfl) ?_
          k_call_by "go" ()
          refine (CodeT.under (s_add' c hK hA' hN hok.1 hf hS fun N₁ nodes₁ e1 e2 e3 => ⟨N₁, nodes₁, rfl, ?_⟩)).call
          k_call_by "go" ()
          refine isnot_none (by k_call_by "nc" ()) ?_
          k_call_by "go" ()
          simp only [if_true]
          k_call_by "go" ()
          rw [← e1.1]
          refine gm_203 hK (f := 152) (by simp) (by k_call_by "mem" ()) (by k_call_by "mem" ()) (by rfl) ?_
          k_call_by "go" ()
          refine (CodeT.under (s_add' c hK hA' e3 (hok.2 S1 hS) hf hr' fun N' nodes' e1' e2' e3' => ⟨N', nodes', rfl, ?_⟩)).call
          k_call_by "go" ()
          refine is_none (by k_call_by "nc" ()) ?_
          k_call_by "go" ()
          simp only [Bool.false_eq_true, if_false]
          k_call_by "go" ()
          k_call_by "out" ()
          exact h N' nodes' (e1.trans e1') (fun p q => e2' p (e2 p q)) e3'
end

end Mine
end
section
open PySem PySem.W PySem.Calls PyProof.Rows
set_option Elab.async false
set_option maxRecDepth 100000
set_option maxHeartbeats 4000000
set_option linter.unusedVariables false
namespace Mine
local macro_rules | `(tactic| k_call_by "bb" ()) => `(tactic| first | exact bb_len | exact bb_range | exact bb_isinstance | exact bb_all | exact bb_any | exact bb_int | exact bb_bool | exact bb_sorted | exact bb_min | exact bb_max | exact bb_dict | exact bb_set | exact bb_abs)
local macro_rules | `(tactic| k_call_by "bn" ()) => `(tactic| first | exact bn_len _ | exact bn_range _ | exact bn_isinstance _ | exact bn_all _ | exact bn_any _ | exact bn_int _ | exact bn_bool _ | exact bn_sorted _ | exact bn_min _ | exact bn_max _ | exact bn_dict _ | exact bn_set _ | exact bn_abs _)
local macro_rules | `(tactic| k_call_by "gv" ()) => `(tactic| first | exact gv_law_wide _ | exact gv_law_slim _ | exact gv_law_draw _ | exact gv_law_size _ | exact gv_law_plain _ | exact gv_law_lines _ | exact gv_law_rows _ | exact gv_law_border _ | exact gv_law_ways _ | exact gv_DeltaSimpleTemporalNetwork _ | exact gv_DeltaNeighbors _ | exact gv_deque _)
local macro_rules | `(tactic| k_call_by "mem" ()) => `(tactic| (repeat (first | with_unfolding_all exact List.Mem.head _ | with_unfolding_all apply List.Mem.tail)))
local macro_rules | `(tactic| k_call_by "get" ()) => `(tactic| (repeat (first | with_unfolding_all exact NGet.here | with_unfolding_all apply NGet.there (by with_unfolding_all exact rfl))))
local macro_rules | `(tactic| k_call_by "nput" ()) => `(tactic| (repeat (first | with_unfolding_all exact NPut.here | with_unfolding_all exact NPut.nil | with_unfolding_all apply NPut.there (by with_unfolding_all exact rfl))))
local macro_rules | `(tactic| k_call_by "put" ()) => `(tactic| (repeat (first | with_unfolding_all exact Put.here | with_unfolding_all apply Put.there)))
local macro_rules | `(tactic| k_call_by "rfl" ()) => `(tactic| with_unfolding_all exact rfl)
local macro_rules | `(tactic| k_call_by "name" ()) => `(tactic| (with_reducible refine isName ?_; first
  | with_reducible refine EV_local (by k_call_by "rfl" ()) (by k_call_by "mem" ()) (NGet.look (by k_call_by "get" ())) ?_
  | with_reducible refine EV_cell (by k_call_by "rfl" ()) (by k_call_by "rfl" ()) (by k_call_by "mem" ()) ?_
  | with_reducible refine EV_free (by k_call_by "rfl" ()) (by k_call_by "rfl" ()) (by k_call_by "mem" ()) ?_
  | with_reducible refine EV_builtin (nsK (by assumption) (by k_call_by "bn" ())) (by k_call_by "bb" ()) ?_
  | with_reducible refine EV_global (nsK (by assumption) (by k_call_by "gv" ())) (fun _ => .ref _) ?_
  | with_reducible refine EV_global (nsK (by assumption) (by k_call_by "gv" ())) (fun _ => .con _) ?_))
local macro_rules | `(tactic| k_call_by "set" ()) => `(tactic| (with_reducible refine isSet ?_; first
  | with_reducible refine SN_local (by k_call_by "rfl" ()) (by k_call_by "put" ()) (by k_call_by "nput" ()) ?_
  | with_reducible refine SN_cell (by k_call_by "rfl" ()) (by k_call_by "rfl" ()) (by k_call_by "put" ()) ?_))
local macro_rules | `(tactic| k_call_by "op" ()) => `(tactic| with_reducible first
  | refine op_add ?_
  | refine op_sub ?_
  | refine op_neg ?_
  | refine cmp_lt ?_
  | refine cmp_gt ?_
  | refine cmp_le ?_
  | refine cmp_ge ?_
  | refine cmp_eq ?_
  | refine cmp_ne ?_
  | refine tr_bool ?_
  | refine tr_int ?_
  | refine tr_none ?_)
local macro_rules | `(tactic| k_call_by "s" ()) => `(tactic| first
  | k_call_by "name" ()
  | with_reducible refine EX_If ?_
  | with_reducible refine EX_Return ?_
  | with_reducible refine EX_nil ?_
  | with_reducible refine EX_Continue ?_
  | with_reducible refine EX_Expr ?_
  | with_reducible refine EX_Assign ?_
  | with_reducible refine EX_AssignT ?_
  | with_reducible refine EX_AssignS ?_
  | with_reducible refine EX_AssignA ?_
  | with_reducible refine EV_int ?_
  | with_reducible refine EV_bool ?_
  | with_reducible refine EV_none ?_
  | with_reducible refine EV_BinOp ?_
  | with_reducible refine EV_UnaryOp ?_
  | with_reducible refine EB_Compare ?_
  | with_reducible refine EB_not ?_
  | with_reducible refine EB_and ?_
  | with_reducible refine EB_and_nil ?_
  | with_reducible refine EB_or ?_
  | with_reducible refine EB_or_nil ?_
  | with_reducible refine EV_Compare ?_
  | with_reducible refine EV_Sub ?_
  | with_reducible refine EV_IfExp ?_
  | with_reducible refine EV_Tuple ?_
  | with_reducible refine EV_List ?_
  | with_reducible refine EV_Call ?_
  | with_reducible refine EV_MCall ?_
  | with_reducible refine EV_Attr ?_
  | with_reducible refine EVs_cons ?_
  | with_reducible refine EVs_nil ?_
  | k_call_by "op" ()
  | k_call_by "set" ()
  | with_reducible refine AT_Name ?_
  | with_reducible refine EB_plain ?_
  | with_reducible refine okB ?_
  | with_reducible refine okT ?_
  | with_reducible refine okK (by assumption) (by k_call_by "rfl" ()) ?_)
local macro_rules | `(tactic| k_call_by "go" ()) => `(tactic| (repeat (k_call_by "s" ())))

local macro_rules | `(tactic| k_call_by "nc" ()) => `(tactic| (intro x e; cases e))
local macro_rules | `(tactic| k_call_by "f203" ()) => `(tactic| refine gf_203 (by assumption) (by k_call_by "mem" ()) (by k_call_by "mem" ()) (NGet.look (by k_call_by "get" ())) (by simp) (by k_call_by "nc" ()) ?_)
local macro_rules | `(tactic| k_call_by "out" ()) => `(tactic| (refine ⟨_, Weak.sub' (List.sublist_cons_self _ _), ?_⟩))
/-- the first bound to each end -/
noncomputable def firsts : List (Int × Int) → List Int → List (Int × Int)
  | [], _ => []
  | (d, w) :: r, seen => if seen.contains d then firsts r seen else (w, d) :: firsts r (seen ++ [d])
noncomputable def pairAV (p : Int × Int) : AV := .tup [.int p.1, .int p.2]
/-- lists by their keys -/
noncomputable def objsG (ls : List (Int × Addr)) (g : Int → List AV) : AHeap := ls.map fun p => (p.2, .list (g p.1))
theorem Put.app {a o o'} {H H' : AHeap} (X : AHeap) (p : Put a o o' H H') : Put a o o' (X ++ H) (X ++ H') := by
  induction X with
  | nil => exact p
  | cons x X ih => exact .there ih
theorem Put.pre {a o o'} {H H' : AHeap} (X : AHeap) (p : Put a o o' H H') : Put a o o' (H ++ X) (H' ++ X) := by
  induction p with
  | here => exact .here
  | there _ ih => exact .there ih
theorem objsG_congr {ls : List (Int × Addr)} {g g' : Int → List AV} (h : ∀ p ∈ ls, g p.1 = g' p.1) : objsG ls g = objsG ls g' := List.map_congr_left fun p hp => by rw [h p hp]
theorem objsG_put {ls : List (Int × Addr)} {g : Int → List AV} {x : Int} {a : Addr} {v : List AV} (nd : (ls.map (·.1)).Nodup) (hm : (x, a) ∈ ls) : Put a (.list (g x)) (.list v) (objsG ls g) (objsG ls fun j => if j = x then v else g j) := by
  induction ls with
  | nil => cases hm
  | cons p ls ih =>
    rw [List.map_cons, List.nodup_cons] at nd
    rcases List.mem_cons.mp hm with rfl | hm
    · have e : objsG ls (fun j => if j = x then v else g j) = objsG ls g := objsG_congr fun p hp => if_neg fun e => nd.1 (List.mem_map.mpr ⟨p, hp, e⟩)
      have e1 : objsG ((x, a) :: ls) g = (a, AObj.list (g x)) :: objsG ls g := rfl
      have e2 : objsG ((x, a) :: ls) (fun j => if j = x then v else g j) = (a, AObj.list (if x = x then v else g x)) :: objsG ls (fun j => if j = x then v else g j) := rfl
      rw [e1, e2, e, if_pos rfl]
      exact .here
    · have e : p.1 ≠ x := fun e => nd.1 (List.mem_map.mpr ⟨(x, a), hm, e.symm⟩)
      have e1 : objsG (p :: ls) g = (p.2, AObj.list (g p.1)) :: objsG ls g := rfl
      have e2 : objsG (p :: ls) (fun j => if j = x then v else g j) = (p.2, AObj.list (if p.1 = x then v else g p.1)) :: objsG ls (fun j => if j = x then v else g j) := rfl
      rw [e1, e2, if_neg e]
      exact .there (ih nd.2 hm)
theorem look_mem {V : Type} {l : List (Int × V)} (nd : (l.map (·.1)).Nodup) {p : Int × V} (h : p ∈ l) : l.lookup p.1 = some p.2 := by
  induction l with
  | nil => cases h
  | cons q r ih =>
    obtain ⟨k, v⟩ := q
    rw [List.map_cons, List.nodup_cons] at nd
    rcases List.mem_cons.mp h with rfl | h
    · simp
    · have : (p.1 == k) = false := by
        simp only [beq_eq_false_iff_ne, ne_eq]
        intro e
        exact nd.1 (List.mem_map.mpr ⟨p, h, e⟩)
      rw [List.lookup_cons, this]; exact ih nd.2 h
theorem look_notin {V : Type} {l : List (Int × V)} {k : Int} (h : k ∉ l.map (·.1)) : l.lookup k = none := by
  induction l with
  | nil => rfl
  | cons q r ih =>
    obtain ⟨a, v⟩ := q
    rw [List.map_cons, List.mem_cons, not_or] at h
    have : (k == a) = false := by simpa using h.1
    rw [List.lookup_cons, this]; exact ih h.2
theorem kput_new {V : Type} {l : List (Int × V)} {k : Int} {v : V} (h : k ∉ l.map (·.1)) : kput l k v = l ++ [(k, v)] := by
  unfold kput; rw [look_notin h]; rfl
theorem nodup_take {l : List (Int × Int)} (nd : (l.map (·.1)).Nodup) {i : Nat} {p : Int × Int} (h : l[i]? = some p) : p.1 ∉ (l.take i).map (·.1) := by
  intro hm
  obtain ⟨q, hq, e⟩ := List.mem_map.mp hm
  obtain ⟨j, hj, hq'⟩ := List.getElem_of_mem hq
  have hj' : j < i := by simp at hj; omega
  have hjl : j < l.length := by simp at hj; omega
  obtain ⟨hi, hp⟩ := List.getElem?_eq_some_iff.mp h
  have e1 : (l.map (·.1))[j]'(by simpa using hjl) = (l.map (·.1))[i]'(by simpa using hi) := by
    simp only [List.getElem_map, hp]
    rw [← e, ← hq']
    simp
  exact (List.pairwise_iff_getElem.mp nd) j i (by simpa using hjl) (by simpa using hi) hj' e1
noncomputable abbrev netP (N : Net) (ob : Obj) (R : AHeap) : AHeap :=
  (N.a, .inst 203 N.d) :: (N.d, .attrs [("_constraints", .ref N.cd), ("_distances", .ref N.dd), ("_is_sat", .bool N.sat), ("_epsilon", .int 0)]) :: (N.dd, .pidict (N.dist.map fun p => (p.1, .int p.2)) ob) :: (N.cd, .idict N.cons) :: R
noncomputable abbrev netC (N : Net) (ob : Obj) (R : AHeap) : AHeap :=
  (N.a, .inst 203 N.d) :: (N.d, .attrs [("_constraints", .ref N.cd), ("_distances", .ref N.dd), ("_is_sat", .bool N.sat), ("_epsilon", .int 0)]) :: (N.dd, .idict (N.dist.map fun p => (p.1, .int p.2))) :: (N.cd, .pidict N.cons ob) :: R
theorem inC {p : Addr × AObj} {N : Net} {ob : Obj} {nodes R : AHeap} (h : p ∈ nodes) : p ∈ netC N ob (nodes ++ R) := .tail _ (.tail _ (.tail _ (.tail _ (List.mem_append_left _ h))))
noncomputable def gOf (C : CL) (i : Nat) (k : Int) : List AV := if k ∈ (C.take i).map (·.1) then (firsts (ch C k) []).map pairAV else []
theorem nodup_takeC {l : CL} (nd : (l.map (·.1)).Nodup) {i : Nat} {p : Int × List (Int × Int)} (h : l[i]? = some p) : p.1 ∉ (l.take i).map (·.1) := by
  intro hm
  obtain ⟨q, hq, e⟩ := List.mem_map.mp hm
  obtain ⟨j, hj, hq'⟩ := List.getElem_of_mem hq
  have hj' : j < i := by simp at hj; omega
  have hjl : j < l.length := by simp at hj; omega
  obtain ⟨hi, hp⟩ := List.getElem?_eq_some_iff.mp h
  have e1 : (l.map (·.1))[j]'(by simpa using hjl) = (l.map (·.1))[i]'(by simpa using hi) := by
    simp only [List.getElem_map, hp]
    rw [← e, ← hq']
    simp
  exact (List.pairwise_iff_getElem.mp nd) j i (by simpa using hjl) (by simpa using hi) hj' e1
theorem seen_add (seen : List Int) (d : Int) : (fun k' => seen.contains k' || decide (k' = d)) = fun k' => (seen ++ [d]).contains k' := by
  funext k'
  simp
theorem nm2 {a b : Str} {p q : Pos} : ∀ e ∈ [Expr.Name a p, Expr.Name b q], ∃ x p', e = .Name x p' := by
  intro e he
  rcases List.mem_cons.mp he with rfl | he
  · exact ⟨_, _, rfl⟩
  · rw [List.mem_singleton.mp he]; exact ⟨_, _, rfl⟩
theorem objsG_snoc (ls : List (Int × Addr)) (p : Int × Addr) (g : Int → List AV) : objsG (ls ++ [p]) g = objsG ls g ++ [(p.2, .list (g p.1))] := by simp [objsG]
section
variable (c : Cx) (hK : c.K = hd.heap_39 c.w.params)
include hK
variable {A : Around} {Z : List (Addr × Obj)} {Φ : AV → AHeap → Prop} {n : Nat} {N : Net} {R nodes : AHeap}
theorem s_getcons (hA : Ar A (n + 1)) {C : CL} (hC : Chains nodes N.cons C) (nd : (N.dist.map (·.1)).Nodup) (ndC : (C.map (·.1)).Nodup) (hsub : ∀ k, (C.lookup k).isSome = true → (N.dist.lookup k).isSome = true) (hz : N.dist.length ≤ 1000) (h64 : ∀ k, (ch C k).length ≤ 64)
    (h : ∀ a ls, ls.map (·.1) = N.dist.map (·.1) → Φ (.ref a) ((a, .idict (ls.map fun p => (p.1, .ref p.2))) :: netH N (nodes ++ (objsG ls (fun k => (firsts (ch C k) []).map pairAV) ++ R)))) :
    CodeT c A Z (.ref 193) [.ref N.a] [] (netH N (nodes ++ R)) Φ := by
  refine .own0 [("self", .ref N.a)] hA (lkK hK (by rfl)) (cdK hK (by rfl)) (fun Z s vs kv S r1 r2 => ?_) (fun L A' hA' => ?_)
  · obtain ⟨v, rfl, rv⟩ := r1.one
    cases r2
    exact binds_now rfl (.cons ⟨rfl, rv⟩ .nil)
  · refine Tr.pinI fun ob => ⟨_, .there (.there (.there .here)), ?_⟩
    refine EX_AssignDC [] ?_
    k_call_by "go" ()
    k_call_by "f203" ()
    have len : (N.dist.map fun p => AV.int p.1).length = N.dist.length := List.length_map _
    refine ⟨_, _, fun i es Hr => ∃ ls : List (Int × Addr), ls.map (·.1) = (N.dist.take i).map (·.1) ∧ es = ls.map (fun p => (p.1, .ref p.2)) ∧ Hr = objsG ls (fun _ => []) ++ ((L, .ns [("self", .ref N.a)]) :: netP N ob (nodes ++ R)),
      Loop.idict hA' (.inl ⟨_, _, rfl⟩) (by k_call_by "mem" ()), ⟨[], rfl, rfl, rfl⟩, ?_, ?_, ?_⟩
    · rintro i es Hr C acc m ⟨ls, h1, h2, rfl⟩
      exact .tail _ (.tail _ (List.mem_append_right _ (.tail _ (.tail _ (.tail _ (.head _))))))
    · rintro i x es Hr Z C' acc hx ⟨ls, h1, rfl, rfl⟩
      obtain ⟨p, hp, rfl⟩ : ∃ p, N.dist[i]? = some p ∧ AV.int p.1 = x := by simpa using hx
      k_call_by "go" ()
      refine ⟨by decide, fun a => ?_⟩
      refine ⟨p.1, [("el", .int p.1)], objsG (ls ++ [(p.1, a)]) (fun _ => []) ++ ((L, .ns [("self", .ref N.a)]) :: netP N ob (nodes ++ R)), rfl, Weak.perm' ?_, ?_, ls ++ [(p.1, a)], ?_, ?_, rfl⟩
      · rw [objsG_snoc, List.append_assoc]
        have := List.perm_middle (l₁ := (C', AObj.ns [("el", .int p.1)]) :: (acc, .idict (ls.map fun p => (p.1, .ref p.2))) :: objsG ls (fun _ => [])) (a := (a, AObj.list [])) (l₂ := (L, .ns [("self", .ref N.a)]) :: netP N ob (nodes ++ R))
        exact this
      · have := congrArg List.length h1
        simp at this ⊢
        omega
      · rw [List.map_append, h1, List.take_add_one, hp]
        simp
      · rw [kput_new, List.map_append]
        · rfl
        · have := nodup_take nd hp
          rw [← h1] at this
          simpa using this
    · rintro es Hr acc ⟨ls, h1, rfl, rfl⟩
      have h1' : ls.map (·.1) = N.dist.map (·.1) := by rw [h1]; simp
      refine ⟨_, _, _, Put.app _ .here, by k_call_by "nput" (), ?_⟩
      have ndl : (ls.map (·.1)).Nodup := by rw [h1']; exact nd
      have e0 : ∀ k ∈ ls.map (·.1), (fun _ => []) k = ((fun _ => []) k : List AV) := fun _ _ => rfl
      refine Tr.weak (H₁ := (L, .ns [("self", .ref N.a), ("constraints", .ref acc)]) :: (acc, .idict (ls.map fun p => (p.1, .ref p.2))) :: netH N (nodes ++ (objsG ls (fun _ => []) ++ R))) ?_ ?_
      · refine Tr.pinI fun ob' => ⟨_, .there (.there (.there (.there (.there .here)))), ?_⟩
        refine EX_For ?_
        k_call_by "go" ()
        k_call_by "f203" ()
        refine GM_rd (Rd.pinI (by k_call_by "mem" ())) (fun _ x => own_idict x) F.plainAttrs_dict F.slot_dict_items F.type_dict_items ?_
        k_call_by "go" ()
        refine m_items (.pinI (by k_call_by "mem" ())) fun vv => ?_
        refine ⟨_, _, fun i H => H = (vv, .view "dict_items" N.cd) :: (L, .ns [("self", .ref N.a), ("constraints", .ref acc)]) :: (acc, .idict (ls.map fun p => (p.1, .ref p.2))) :: netC N ob' (nodes ++ (objsG ls (gOf C i) ++ R)),
          Loop.items hA' (by k_call_by "mem" ()) (by k_call_by "mem" ()), ?_, ?_, ?_, ?_⟩
        · have : objsG ls (gOf C 0) = objsG ls (fun _ => []) := objsG_congr fun p _ => by simp [gOf]
          dsimp only
          rw [this]
        · rintro i H rfl
          exact .tail _ (.tail _ (.tail _ (.tail _ (.tail _ (.tail _ (.head _))))))
        · rintro i x H Z hx rfl
          obtain ⟨q, hq, rfl⟩ : ∃ q, N.cons[i]? = some q ∧ AV.tup [.int q.1, q.2] = x := by simpa using hx
          obtain ⟨k, nv⟩ := q
          have hCi : ∃ cl, C[i]? = some (k, cl) ∧ Chain nodes nv cl := by
            have hlt : i < C.length := by rw [← A2.len hC]; exact (List.getElem?_eq_some_iff.mp hq).1
            obtain ⟨p, hp, e1, r⟩ := A2.get hC (List.getElem?_eq_getElem hlt)
            rw [hq] at hp; cases hp
            dsimp only at e1 r
            subst e1
            exact ⟨_, List.getElem?_eq_getElem hlt, r⟩
          obtain ⟨cl, hCi, hch⟩ := hCi
          have hcl : ch C k = cl := by
            have := look_mem ndC (List.mem_of_getElem? hCi)
            unfold ch; dsimp only at this; rw [this]; rfl
          have hkd : k ∈ ls.map (·.1) := by
            rw [h1']
            have := look_mem ndC (List.mem_of_getElem? hCi)
            have hs := hsub k (by dsimp only at this; rw [this]; rfl)
            exact Decidable.byContradiction fun hn => by rw [look_notin hn] at hs; cases hs
          obtain ⟨⟨k', ka⟩, hka, e⟩ := List.mem_map.mp hkd
          dsimp only at e
          subst e
          refine AT_Tuple hA' rfl ?_ nm2
          simp only [ATs]
          k_call_by "go" ()
          refine b_set fun sd => ?_
          k_call_by "go" ()
          refine Tr.post ?_
          have hg0 : objsG ls (gOf C i) = objsG ls (fun j => if j = k' then [] else gOf C i j) := objsG_congr fun p _ => by
            by_cases e : p.1 = k'
            · rw [if_pos e, e]
              unfold gOf
              rw [if_neg (nodup_takeC ndC hCi)]
            · rw [if_neg e]
          refine EX_While (fun m H' => ∃ v l' seen done, Weak c H' ((sd, .iset (fun x => seen.contains x) seen.length) :: (vv, .view "dict_items" N.cd) :: (L, .ns [("self", .ref N.a), ("constraints", .ref acc), ("x", .int k'), ("neighbor", v), ("seen_dst", .ref sd)]) ::
              (acc, .idict (ls.map fun p => (p.1, .ref p.2))) :: netC N ob' (nodes ++ (objsG ls (fun j => if j = k' then done else gOf C i j) ++ R))) ∧
            Chain nodes v l' ∧ m = l'.length ∧ done ++ (firsts l' seen).map pairAV = (firsts cl []).map pairAV ∧ seen.length + l'.length ≤ 64 ∧ done.length + l'.length ≤ 64) cl.length
            ⟨nv, cl, [], [], ?_, hch, rfl, rfl, by have := h64 k'; rw [hcl] at this; simpa using this, by have := h64 k'; rw [hcl] at this; simpa using this⟩ ?_
          · rw [hg0]; exact .refl _ _
          · rintro m H' ⟨v, l', seen, done, wk, hv, rfl, e, hs1, hs2⟩
            refine Tr.weak ?_ wk
            k_call_by "go" ()
            refine isnot_none hv.notCon ?_
            cases hv with
            | nil =>
              k_call_by "go" ()
              simp only [Bool.false_eq_true, if_false]
              k_call_by "go" ()
              refine ⟨_, Weak.trans (Weak.sub' (List.sublist_cons_self _ _)) (Weak.ns (m' := [("self", .ref N.a), ("constraints", .ref acc)]) (.there .here) fun x v e => (look_app (r := [("x", .int k'), ("neighbor", .none), ("seen_dst", .ref sd)]) e :)), ?_⟩
              dsimp only
              have : objsG ls (fun j => if j = k' then done else gOf C i j) = objsG ls (gOf C (i + 1)) := objsG_congr fun p _ => by
                have ht : (C.take (i + 1)).map (·.1) = (C.take i).map (·.1) ++ [k'] := by rw [List.take_add_one, hCi]; simp
                by_cases q : p.1 = k'
                · rw [if_pos q, q]
                  unfold gOf
                  rw [ht, if_pos (by simp), hcl, ← e]
                  simp [firsts]
                · rw [if_neg q]
                  unfold gOf
                  rw [ht]
                  simp [q]
              rw [this]
            | @cons na nd' y' b' nx l' m1 m2 hv =>
              have inn : ∀ {q r s t : Addr × AObj} {p} {R : AHeap}, p ∈ nodes → p ∈ q :: r :: s :: t :: netC N ob' (nodes ++ R) := fun h => .tail _ (.tail _ (.tail _ (.tail _ (inC h))))
              k_call_by "go" ()
              simp only [if_true]
              refine EX_If ?_
              k_call_by "go" ()
              refine gf_96 hK (inn m1) (inn m2) (NGet.look (by k_call_by "get" ())) (by simp) (by k_call_by "nc" ()) ?_
              k_call_by "go" ()
              refine notin_iset (by k_call_by "mem" ()) ?_
              k_call_by "go" ()
              cases hin : seen.contains y' with
              | true =>
                simp only [Bool.not_true, Bool.false_eq_true, if_false]
                k_call_by "go" ()
                refine gf_96 hK (inn m1) (inn m2) (NGet.look (by k_call_by "get" ())) (by simp) hv.notCon ?_
                k_call_by "go" ()
                refine ⟨l'.length, Nat.lt_succ_self _, nx, l', seen, done, .refl _ _, hv, rfl, ?_, by simp at hs1; omega, by simp at hs2; omega⟩
                rw [← e]
                simp only [firsts, hin, if_true]
              | false =>
                simp only [Bool.not_false, if_true]
                k_call_by "go" ()
                refine GM_builtin (by k_call_by "mem" ()) (fun _ x => own_iset x) F.plainAttrs_set F.slot_set_add F.type_set_add ?_
                k_call_by "go" ()
                refine gf_96 hK (inn m1) (inn m2) (NGet.look (by k_call_by "get" ())) (by simp) (by k_call_by "nc" ()) ?_
                k_call_by "go" ()
                refine m_add (X := fun x => seen.contains x) (m := seen.length) (by k_call_by "put" ()) (by omega) ?_
                rw [seen_add, show (if (fun x => seen.contains x) y' = true then seen.length else seen.length + 1) = (seen ++ [y']).length by simp only [hin]; simp]
                k_call_by "go" ()
                refine sub_idict (x := .ref ka) (.mem (by k_call_by "mem" ())) ?_ ?_
                · exact look_mem (l := ls.map fun p => (p.1, AV.ref p.2)) (by rw [List.map_map]; exact ndl) (p := (k', .ref ka)) (List.mem_map.mpr ⟨_, hka, rfl⟩)
                have P := objsG_put (g := fun j => if j = k' then done else gOf C i j) (v := done ++ [pairAV (b', y')]) ndl hka
                rw [if_pos rfl] at P
                have P' : ∀ q r s t, Put ka (.list done) (.list (done ++ [pairAV (b', y')])) (q :: r :: s :: t :: netC N ob' (nodes ++ (objsG ls (fun j => if j = k' then done else gOf C i j) ++ R)))
                    (q :: r :: s :: t :: netC N ob' (nodes ++ (objsG ls (fun j => if j = k' then done ++ [pairAV (b', y')] else gOf C i j) ++ R))) := fun q r s t => by
                  have : objsG ls (fun j => if j = k' then done ++ [pairAV (b', y')] else if j = k' then done else gOf C i j) = objsG ls (fun j => if j = k' then done ++ [pairAV (b', y')] else gOf C i j) := objsG_congr fun p _ => by
                    by_cases q : p.1 = k' <;> simp [q]
                  rw [this] at P
                  exact .there (.there (.there (.there (.there (.there (.there (.there (Put.app nodes (Put.pre R P)))))))))
                refine GM_builtin (Put.mem (P' _ _ _ _)) (fun _ x => own_list x) F.plainAttrs_list F.slot_list_append F.type_list_append ?_
                k_call_by "go" ()
                refine gf_96 hK (inn m1) (inn m2) (NGet.look (by k_call_by "get" ())) (by simp) (by k_call_by "nc" ()) ?_
                k_call_by "go" ()
                refine gf_96 hK (inn m1) (inn m2) (NGet.look (by k_call_by "get" ())) (by simp) (by k_call_by "nc" ()) ?_
                k_call_by "go" ()
                refine ⟨by simp, ?_⟩
                k_call_by "go" ()
                refine m_append (l := done) (P' _ _ _ _) (by omega) ?_
                k_call_by "go" ()
                refine gf_96 hK (inn m1) (inn m2) (NGet.look (by k_call_by "get" ())) (by simp) hv.notCon ?_
                k_call_by "go" ()
                refine ⟨l'.length, Nat.lt_succ_self _, nx, l', seen ++ [y'], done ++ [pairAV (b', y')], .refl _ _, hv, rfl, ?_, by simp at hs1 ⊢; omega, by simp at hs2 ⊢; omega⟩
                rw [← e]
                simp only [firsts, hin, Bool.false_eq_true, if_false, List.map_cons, List.append_assoc, List.singleton_append]
        · rintro H rfl
          k_call_by "go" ()
          have hend : objsG ls (gOf C (N.cons.map fun q => AV.tup [.int q.1, q.2]).length) = objsG ls (fun k => (firsts (ch C k) []).map pairAV) := objsG_congr fun p _ => by
            have hl : (N.cons.map fun q => AV.tup [.int q.1, q.2]).length = C.length := by rw [List.length_map, A2.len hC]
            rw [hl]
            unfold gOf
            rw [List.take_length]
            split
            · rfl
            · rename_i hn
              have : ch C p.1 = [] := by unfold ch; rw [look_notin hn]; rfl
              rw [this]; rfl
          rw [hend]
          exact ⟨_, Weak.trans (Weak.sub' (.cons _ (.cons _ (List.Sublist.refl _)))) (Weak.unpinI (.there (.there (.there (.there .here))))), h acc ls h1'⟩
      · refine Weak.trans (Weak.unpinI (.there (Put.app _ (.there (.there (.there .here)))))) (Weak.perm' ?_)
        have p1 := List.perm_append_comm_assoc (objsG ls (fun _ => [])) ((L, AObj.ns [("self", .ref N.a), ("constraints", .ref acc)]) :: netH N nodes) R
        exact ((List.Perm.cons _ p1).trans (List.Perm.swap _ _ _)).symm
end

end Mine
end
section
open PySem PySem.W PySem.Calls PyProof.Rows
set_option Elab.async false
set_option maxRecDepth 100000
set_option maxHeartbeats 4000000
set_option linter.unusedVariables false
namespace Mine
local macro_rules | `(tactic| k_call_by "bb" ()) => `(tactic| first | exact bb_len | exact bb_range | exact bb_isinstance | exact bb_all | exact bb_any | exact bb_int | exact bb_bool | exact bb_sorted | exact bb_min | exact bb_max | exact bb_dict | exact bb_set | exact bb_abs)
local macro_rules | `(tactic| k_call_by "bn" ()) => `(tactic| first | exact bn_len _ | exact bn_range _ | exact bn_isinstance _ | exact bn_all _ | exact bn_any _ | exact bn_int _ | exact bn_bool _ | exact bn_sorted _ | exact bn_min _ | exact bn_max _ | exact bn_dict _ | exact bn_set _ | exact bn_abs _)
local macro_rules | `(tactic| k_call_by "gv" ()) => `(tactic| first | exact gv_law_wide _ | exact gv_law_slim _ | exact gv_law_draw _ | exact gv_law_size _ | exact gv_law_plain _ | exact gv_law_lines _ | exact gv_law_rows _ | exact gv_law_border _ | exact gv_law_ways _ | exact gv_DeltaSimpleTemporalNetwork _ | exact gv_DeltaNeighbors _ | exact gv_deque _)
local macro_rules | `(tactic| k_call_by "mem" ()) => `(tactic| (repeat (first | with_unfolding_all exact List.Mem.head _ | with_unfolding_all apply List.Mem.tail)))
local macro_rules | `(tactic| k_call_by "get" ()) => `(tactic| (repeat (first | with_unfolding_all exact NGet.here | with_unfolding_all apply NGet.there (by with_unfolding_all exact rfl))))
local macro_rules | `(tactic| k_call_by "nput" ()) => `(tactic| (repeat (first | with_unfolding_all exact NPut.here | with_unfolding_all exact NPut.nil | with_unfolding_all apply NPut.there (by with_unfolding_all exact rfl))))
local macro_rules | `(tactic| k_call_by "put" ()) => `(tactic| (repeat (first | with_unfolding_all exact Put.here | with_unfolding_all apply Put.there)))
local macro_rules | `(tactic| k_call_by "rfl" ()) => `(tactic| with_unfolding_all exact rfl)
local macro_rules | `(tactic| k_call_by "name" ()) => `(tactic| (with_reducible refine isName ?_; first
  | with_reducible refine EV_local (by k_call_by "rfl" ()) (by k_call_by "mem" ()) (NGet.look (by k_call_by "get" ())) ?_
  | with_reducible refine EV_cell (by k_call_by "rfl" ()) (by k_call_by "rfl" ()) (by k_call_by "mem" ()) ?_
  | with_reducible refine EV_free (by k_call_by "rfl" ()) (by k_call_by "rfl" ()) (by k_call_by "mem" ()) ?_
  | with_reducible refine EV_builtin (nsK (by assumption) (by k_call_by "bn" ())) (by k_call_by "bb" ()) ?_
  | with_reducible refine EV_global (nsK (by assumption) (by k_call_by "gv" ())) (fun _ => .ref _) ?_
  | with_reducible refine EV_global (nsK (by assumption) (by k_call_by "gv" ())) (fun _ => .con _) ?_))
local macro_rules | `(tactic| k_call_by "set" ()) => `(tactic| (with_reducible refine isSet ?_; first
  | with_reducible refine SN_local (by k_call_by "rfl" ()) (by k_call_by "put" ()) (by k_call_by "nput" ()) ?_
  | with_reducible refine SN_cell (by k_call_by "rfl" ()) (by k_call_by "rfl" ()) (by k_call_by "put" ()) ?_))
local macro_rules | `(tactic| k_call_by "op" ()) => `(tactic| with_reducible first
  | refine op_add ?_
  | refine op_sub ?_
  | refine op_neg ?_
  | refine cmp_lt ?_
  | refine cmp_gt ?_
  | refine cmp_le ?_
  | refine cmp_ge ?_
  | refine cmp_eq ?_
  | refine cmp_ne ?_
  | refine tr_bool ?_
  | refine tr_int ?_
  | refine tr_none ?_)
local macro_rules | `(tactic| k_call_by "s" ()) => `(tactic| first
  | k_call_by "name" ()
  | with_reducible refine EX_If ?_
  | with_reducible refine EX_Return ?_
  | with_reducible refine EX_nil ?_
  | with_reducible refine EX_Continue ?_
  | with_reducible refine EX_Expr ?_
  | with_reducible refine EX_Assign ?_
  | with_reducible refine EX_AssignT ?_
  | with_reducible refine EX_AssignS ?_
  | with_reducible refine EX_AssignA ?_
  | with_reducible refine EV_int ?_
  | with_reducible refine EV_bool ?_
  | with_reducible refine EV_none ?_
  | with_reducible refine EV_BinOp ?_
  | with_reducible refine EV_UnaryOp ?_
  | with_reducible refine EB_Compare ?_
  | with_reducible refine EB_not ?_
  | with_reducible refine EB_and ?_
  | with_reducible refine EB_and_nil ?_
  | with_reducible refine EB_or ?_
  | with_reducible refine EB_or_nil ?_
  | with_reducible refine EV_Compare ?_
  | with_reducible refine EV_Sub ?_
  | with_reducible refine EV_IfExp ?_
  | with_reducible refine EV_Tuple ?_
  | with_reducible refine EV_List ?_
  | with_reducible refine EV_Call ?_
  | with_reducible refine EV_MCall ?_
  | with_reducible refine EV_Attr ?_
  | with_reducible refine EVs_cons ?_
  | with_reducible refine EVs_nil ?_
  | k_call_by "op" ()
  | k_call_by "set" ()
  | with_reducible refine AT_Name ?_
  | with_reducible refine EB_plain ?_
  | with_reducible refine okB ?_
  | with_reducible refine okT ?_
  | with_reducible refine okK (by assumption) (by k_call_by "rfl" ()) ?_)
local macro_rules | `(tactic| k_call_by "go" ()) => `(tactic| (repeat (k_call_by "s" ())))

local macro_rules | `(tactic| k_call_by "nc" ()) => `(tactic| (intro x e; cases e))
local macro_rules | `(tactic| k_call_by "f203" ()) => `(tactic| refine gf_203 (by assumption) (by k_call_by "mem" ()) (by k_call_by "mem" ()) (NGet.look (by k_call_by "get" ())) (by simp) (by k_call_by "nc" ()) ?_)
local macro_rules | `(tactic| k_call_by "out" ()) => `(tactic| (refine ⟨_, Weak.sub' (List.sublist_cons_self _ _), ?_⟩))
noncomputable def lawMost : Int := 1000000000000000000000000000000
noncomputable def sizeOf (ns : List Int) (p : Int) : Int := let x := if p < ns.length then ns.getD p.toNat 0 else p; (if 0 ≤ x then x else -x).fmod lawMost
section
variable (c : Cx) (hK : c.K = hd.heap_39 c.w.params)
include hK
variable {A : Around} {Z : List (Addr × Obj)} {Φ : AV → AHeap → Prop} {n : Nat} {N : Net} {R nodes H : AHeap}
theorem s_size (hA : Ar A (n + 1)) {a : Addr} {ns : List Int} (hl : Rd c H a (.list (ns.map .int))) (hz : ns.length ≤ 1000) {p : Int} (hp : 0 ≤ p) (hp2 : p ≤ 1000) (h : Φ (.int (sizeOf ns p)) H) : CodeT c A Z (.ref 229) [.ref a, .int p] [] H Φ := by
  refine .own0 [("script", .ref a), ("place", .int p)] hA (lkK hK (by rfl)) (cdK hK (by rfl)) (fun Z s vs kv S r1 r2 => ?_) (fun L A' hA' => ?_)
  · obtain ⟨v, u, rfl, rv, ru⟩ := r1.two
    cases r2
    exact binds_now rfl (.cons ⟨rfl, rv⟩ (.cons ⟨rfl, ru⟩ .nil))
  · obtain ⟨t, hmost⟩ := gv_law_most c.w.params
    refine EX_Assign (Tr.mono (Φ := fun v H' => v = .int (if p < ns.length then ns.getD p.toNat 0 else p) ∧ H' = (L, .ns [("script", .ref a), ("place", .int p)]) :: H) ?_ ?_)
    · k_call_by "go" ()
      refine b_len_list (.cons hl) (by simp; omega) ?_
      k_call_by "go" ()
      split
      · rename_i hlt
        have hlt' : p < ns.length := by simpa using hlt
        k_call_by "go" ()
        refine sub_list (.cons hl) hp (x := .int (ns.getD p.toNat 0)) ?_ (by omega) ?_
        · have : p.toNat < ns.length := by omega
          simp [List.getD, this]
        exact ⟨by rw [if_pos hlt'], rfl⟩
      · rename_i hlt
        have hlt' : ¬ p < ns.length := by simpa using hlt
        k_call_by "name" ()
        exact ⟨by rw [if_neg hlt'], rfl⟩
    · rintro v H' ⟨rfl, rfl⟩
      unfold sizeOf at h
      generalize (if p < ns.length then ns.getD p.toNat 0 else p) = x at h ⊢
      k_call_by "set" ()
      refine EX_Return (EV_BinOp (Tr.mono (Φ := fun v H' => v = .int (if 0 ≤ x then x else -x) ∧ H' = (L, .ns [("script", .ref a), ("place", .int p), ("size", .int x)]) :: H) ?_ ?_))
      · k_call_by "go" ()
        split
        · rename_i h0
          have h0' : 0 ≤ x := by simpa using h0
          k_call_by "go" ()
          exact ⟨by rw [if_pos h0'], rfl⟩
        · rename_i h0
          have h0' : ¬ 0 ≤ x := by simpa using h0
          k_call_by "go" ()
          exact ⟨by rw [if_neg h0'], rfl⟩
      · rintro v H' ⟨rfl, rfl⟩
        refine EV_global (nsK hK hmost) (fun _ => .int _ t) ?_
        refine op_mod (by decide) ?_
        k_call_by "out" ()
        exact h
theorem s_dist' (hA : Ar A (n + 1)) {a d dd : Addr} {m : List (Str × AV)} (h1 : (a, .inst 203 d) ∈ H) (h2 : (d, .attrs m) ∈ H) (hv : m.lookup ("_distances" : Str) = some (AV.ref dd)) (h : Φ (.ref dd) H) : CodeT c A Z (.ref 137) [.ref a] [] H Φ := by
  refine .own0 [("self", .ref a)] hA (lkK hK (by rfl)) (cdK hK (by rfl)) (fun Z s vs kv S r1 r2 => ?_) (fun L A' hA' => ?_)
  · obtain ⟨v, rfl, rv⟩ := r1.one
    cases r2
    exact binds_now rfl (.cons ⟨rfl, rv⟩ .nil)
  · k_call_by "go" ()
    refine gf_203 hK (.tail _ h1) (.tail _ h2) hv (by simp) (by k_call_by "nc" ()) ?_
    k_call_by "out" ()
    exact h
theorem s_plain (hA : Ar A (n + 3)) (hz : N.dist.length ≤ 1000) (h : Φ (.bool true) (netH N R)) : CodeT c A Z (.ref 215) [.ref N.a] [] (netH N R) Φ := by
  refine .own0 [("net", .ref N.a)] hA (lkK hK (by rfl)) (cdK hK (by rfl)) (fun Z s vs kv S r1 r2 => ?_) (fun L A' hA' => ?_)
  · obtain ⟨v, rfl, rv⟩ := r1.one
    cases r2
    exact binds_now rfl (.cons ⟨rfl, rv⟩ .nil)
  · refine EX_Return (EV_and ?_)
    k_call_by "go" ()
    refine gm_203 hK (f := 159) (by simp) (by k_call_by "mem" ()) (by k_call_by "mem" ()) (by rfl) ?_
    k_call_by "go" ()
    refine (CodeT.under (nodes := []) (s_check c hK hA' ⟨N, [], rfl, ?_⟩)).call
    k_call_by "go" ()
    refine b_isi_bool ?_
    k_call_by "go" ()
    simp only [if_true]
    refine EV_one ?_
    refine Tr.pinI fun ob => ⟨_, .there (.there (.there .here)), ?_⟩
    k_call_by "go" ()
    refine EV_LC1 [] ?_
    k_call_by "go" ()
    refine get_property (p := 138) (fget := 137) (by k_call_by "mem" ()) (by k_call_by "mem" ()) (by rw [hK]; rfl) (by rw [hK]; rfl) (by rw [hK]; rfl) (by rw [hK]; rfl) (by rw [hK]; rfl) (by rw [hK]; rfl) ?_
    refine s_dist' c hK hA'.in1' (by k_call_by "mem" ()) (by k_call_by "mem" ()) (NGet.look (by k_call_by "get" ())) ⟨by k_call_by "nc" (), ?_⟩
    refine GM_rd (Rd.pinI (by k_call_by "mem" ())) (fun _ x => own_idict x) F.plainAttrs_dict F.slot_dict_values F.type_dict_values ?_
    k_call_by "go" ()
    refine m_values (.pinI (by k_call_by "mem" ())) fun vv => ?_
    refine ⟨_, _, fun i ys Hr => ys = List.replicate i (.bool true) ∧ i ≤ N.dist.length ∧ Hr = (vv, .view "dict_values" N.dd) :: (L, .ns [("net", .ref N.a)]) :: netP N ob R, Loop.values hA' (.inl ⟨_, _, rfl⟩) (by k_call_by "mem" ()) (by k_call_by "mem" ()), ⟨rfl, Nat.zero_le _, rfl⟩, ?_, ?_, ?_⟩
    · rintro i ys Hr C acc m ⟨_, _, rfl⟩
      exact .tail _ (.tail _ (.tail _ (.tail _ (.tail _ (.tail _ (.head _))))))
    · rintro i x ys Hr Z C acc hx ⟨rfl, hi, rfl⟩
      obtain ⟨p, hp, rfl⟩ : ∃ p, N.dist[i]? = some p ∧ AV.int p.2 = x := by simpa using hx
      have hlt := (List.getElem?_eq_some_iff.mp hp).1
      k_call_by "go" ()
      refine EV_and ?_
      k_call_by "go" ()
      refine b_isi_int ?_
      k_call_by "go" ()
      simp only [if_true]
      refine EV_one ?_
      k_call_by "go" ()
      refine b_isi_int_bool ?_
      refine op_not (tr_bool ?_)
      exact ⟨_, _, .refl _ _, by simp; omega, by rw [List.replicate_succ']; rfl, hlt, rfl⟩
    · rintro ys Hr acc ⟨rfl, _, rfl⟩
      k_call_by "go" ()
      refine b_all (bs := List.replicate (N.dist.map fun p => (p.1, AV.int p.2)).length true) hA' (.mem ?_) ?_
      · have : ((N.dist.map fun p => (p.1, AV.int p.2)).map (·.2)).length = (N.dist.map fun p => (p.1, AV.int p.2)).length := List.length_map _
        rw [this, List.map_replicate]
        exact .head _
      · have : (List.replicate (N.dist.map fun p => (p.1, AV.int p.2)).length true).all id = true := by simp
        rw [this]
        exact ⟨_, Weak.trans (Weak.sub' (.cons _ (.cons _ (.cons _ (List.Sublist.refl _))))) (Weak.unpinI (.there (.there .here))), h⟩
end

end Mine
end
section
open PySem PySem.W PySem.Calls PyProof.Rows
set_option Elab.async false
set_option maxRecDepth 100000
set_option maxHeartbeats 4000000
set_option linter.unusedVariables false
namespace Mine
local macro_rules | `(tactic| k_call_by "bb" ()) => `(tactic| first | exact bb_len | exact bb_range | exact bb_isinstance | exact bb_all | exact bb_any | exact bb_int | exact bb_bool | exact bb_sorted | exact bb_min | exact bb_max | exact bb_dict | exact bb_set | exact bb_abs)
local macro_rules | `(tactic| k_call_by "bn" ()) => `(tactic| first | exact bn_len _ | exact bn_range _ | exact bn_isinstance _ | exact bn_all _ | exact bn_any _ | exact bn_int _ | exact bn_bool _ | exact bn_sorted _ | exact bn_min _ | exact bn_max _ | exact bn_dict _ | exact bn_set _ | exact bn_abs _)
local macro_rules | `(tactic| k_call_by "gv" ()) => `(tactic| first | exact gv_law_wide _ | exact gv_law_slim _ | exact gv_law_draw _ | exact gv_law_size _ | exact gv_law_plain _ | exact gv_law_lines _ | exact gv_law_rows _ | exact gv_law_border _ | exact gv_law_ways _ | exact gv_DeltaSimpleTemporalNetwork _ | exact gv_DeltaNeighbors _ | exact gv_deque _)
local macro_rules | `(tactic| k_call_by "mem" ()) => `(tactic| (repeat (first | with_unfolding_all exact List.Mem.head _ | with_unfolding_all apply List.Mem.tail)))
local macro_rules | `(tactic| k_call_by "get" ()) => `(tactic| (repeat (first | with_unfolding_all exact NGet.here | with_unfolding_all apply NGet.there (by with_unfolding_all exact rfl))))
local macro_rules | `(tactic| k_call_by "nput" ()) => `(tactic| (repeat (first | with_unfolding_all exact NPut.here | with_unfolding_all exact NPut.nil | with_unfolding_all apply NPut.there (by with_unfolding_all exact rfl))))
local macro_rules | `(tactic| k_call_by "put" ()) => `(tactic| (repeat (first | with_unfolding_all exact Put.here | with_unfolding_all apply Put.there)))
local macro_rules | `(tactic| k_call_by "rfl" ()) => `(tactic| with_unfolding_all exact rfl)
local macro_rules | `(tactic| k_call_by "name" ()) => `(tactic| (with_reducible refine isName ?_; first
  | with_reducible refine EV_local (by k_call_by "rfl" ()) (by k_call_by "mem" ()) (NGet.look (by k_call_by "get" ())) ?_
  | with_reducible refine EV_cell (by k_call_by "rfl" ()) (by k_call_by "rfl" ()) (by k_call_by "mem" ()) ?_
  | with_reducible refine EV_free (by k_call_by "rfl" ()) (by k_call_by "rfl" ()) (by k_call_by "mem" ()) ?_
  | with_reducible refine EV_builtin (nsK (by assumption) (by k_call_by "bn" ())) (by k_call_by "bb" ()) ?_
  | with_reducible refine EV_global (nsK (by assumption) (by k_call_by "gv" ())) (fun _ => .ref _) ?_
  | with_reducible refine EV_global (nsK (by assumption) (by k_call_by "gv" ())) (fun _ => .con _) ?_))
local macro_rules | `(tactic| k_call_by "set" ()) => `(tactic| (with_reducible refine isSet ?_; first
  | with_reducible refine SN_local (by k_call_by "rfl" ()) (by k_call_by "put" ()) (by k_call_by "nput" ()) ?_
  | with_reducible refine SN_cell (by k_call_by "rfl" ()) (by k_call_by "rfl" ()) (by k_call_by "put" ()) ?_))
local macro_rules | `(tactic| k_call_by "op" ()) => `(tactic| with_reducible first
  | refine op_add ?_
  | refine op_sub ?_
  | refine op_neg ?_
  | refine cmp_lt ?_
  | refine cmp_gt ?_
  | refine cmp_le ?_
  | refine cmp_ge ?_
  | refine cmp_eq ?_
  | refine cmp_ne ?_
  | refine tr_bool ?_
  | refine tr_int ?_
  | refine tr_none ?_)
local macro_rules | `(tactic| k_call_by "s" ()) => `(tactic| first
  | k_call_by "name" ()
  | with_reducible refine EX_If ?_
  | with_reducible refine EX_Return ?_
  | with_reducible refine EX_nil ?_
  | with_reducible refine EX_Continue ?_
  | with_reducible refine EX_Expr ?_
  | with_reducible refine EX_Assign ?_
  | with_reducible refine EX_AssignT ?_
  | with_reducible refine EX_AssignS ?_
  | with_reducible refine EX_AssignA ?_
  | with_reducible refine EV_int ?_
  | with_reducible refine EV_bool ?_
  | with_reducible refine EV_none ?_
  | with_reducible refine EV_BinOp ?_
  | with_reducible refine EV_UnaryOp ?_
  | with_reducible refine EB_Compare ?_
  | with_reducible refine EB_not ?_
  | with_reducible refine EB_and ?_
  | with_reducible refine EB_and_nil ?_
  | with_reducible refine EB_or ?_
  | with_reducible refine EB_or_nil ?_
  | with_reducible refine EV_Compare ?_
  | with_reducible refine EV_Sub ?_
  | with_reducible refine EV_IfExp ?_
  | with_reducible refine EV_Tuple ?_
  | with_reducible refine EV_List ?_
  | with_reducible refine EV_Call ?_
  | with_reducible refine EV_MCall ?_
  | with_reducible refine EV_Attr ?_
  | with_reducible refine EVs_cons ?_
  | with_reducible refine EVs_nil ?_
  | k_call_by "op" ()
  | k_call_by "set" ()
  | with_reducible refine AT_Name ?_
  | with_reducible refine EB_plain ?_
  | with_reducible refine okB ?_
  | with_reducible refine okT ?_
  | with_reducible refine okK (by assumption) (by k_call_by "rfl" ()) ?_)
local macro_rules | `(tactic| k_call_by "go" ()) => `(tactic| (repeat (k_call_by "s" ())))

local macro_rules | `(tactic| k_call_by "nc" ()) => `(tactic| (intro x e; cases e))
local macro_rules | `(tactic| k_call_by "out" ()) => `(tactic| (refine ⟨_, Weak.sub' (List.sublist_cons_self _ _), ?_⟩))
noncomputable def bitAt (d k : Int) : Int := Builtin.bitAnd (d.fdiv (2 ^ k.toNat)) 1
noncomputable def skipK (m : Nat) (done : Int) (k : Nat) : Nat := if k < m ∧ bitAt done k ≠ 0 then skipK m done (k + 1) else k
  termination_by m - k
theorem skipK_le {m : Nat} {done : Int} {k : Nat} (h : k ≤ m) : skipK m done k ≤ m := by
  induction hk : m - k generalizing k with
  | zero => rw [skipK]; rw [if_neg (by omega)]; exact h
  | succ n ih =>
    rw [skipK]
    split
    · exact ih (by omega) (by omega)
    · exact h
noncomputable abbrev St3 := Nat × Int × Int
noncomputable def tup3 (p : St3) : AV := .tup [.int p.1, .int p.2.1, .int p.2.2]
noncomputable def por (a b : Int) : Int := Builtin.bitOr a b
noncomputable def shl1 (k : Int) : Int := 1 * 2 ^ k.toNat
noncomputable def waysPush (right below : List Int) (k : Nat) (done downs : Int) (st : List St3) : List St3 :=
  let r := right.getD k 0
  let b := below.getD k 0
  let st1 := if 0 ≤ r ∧ bitAt done r = 0 then (k + 1, por (por done (shl1 k)) (shl1 r), downs) :: st else st
  if 0 ≤ b then (k + 1, por (por done (shl1 k)) (shl1 b), por downs (shl1 k)) :: st1 else st1
noncomputable def waysRun (right below : List Int) : Nat → List St3 → List Int → Option (List Int)
  | _, [], w => some w
  | 0, _ :: _, _ => none
  | f + 1, (k, done, downs) :: st, w =>
    if skipK right.length done k = right.length then waysRun right below f st (w ++ [downs]) else waysRun right below f (waysPush right below (skipK right.length done k) done downs st) w
theorem nm3 {a b d : Str} {p q r : Pos} : ∀ e ∈ [Expr.Name a p, Expr.Name b q, Expr.Name d r], ∃ x p', e = .Name x p' := by
  intro e he
  rcases List.mem_cons.mp he with rfl | he
  · exact ⟨_, _, rfl⟩
  · exact nm2 e he
theorem op_iadd {c : Cx} {A : Around} {Z : List (Addr × Obj)} {H : AHeap} {Φ : AV → AHeap → Prop} {i j : Int} (h : Φ (.int (i + j)) H) : Op2 c A Z (inplaceOp .Add) VR (.int i) (.int j) H Φ := fun s v u S rv ru => by
  obtain ⟨t, rfl⟩ := rv.int_inv
  obtain ⟨t', rfl⟩ := ru.int_inv
  exact AutoIntOps.iadd_0 (Post.tok S (.int _ _) h)
theorem EX_IfJ {c : Cx} {A : Around} {Z : List (Addr × Obj)} {H : AHeap} {env : Env} {Φ : AF → AHeap → Prop} {test body orelse pos rest} (J : AHeap → Prop)
    (h : EB c A Z env test H fun b H' => if b = true then EX c A Z env body H' (fun f H'' => f = .next ∧ J H'') else EX c A Z env orelse H' (fun f H'' => f = .next ∧ J H''))
    (k : ∀ H'', J H'' → EX c A Z env rest H'' Φ) : EX c A Z env (.If test body orelse pos :: rest) H Φ := EX_If (Tr.mono h fun b H' q => by
  cases b with
  | true => exact Tr.mono q fun f H'' ⟨e, j⟩ => by subst e; exact k _ j
  | false => exact Tr.mono q fun f H'' ⟨e, j⟩ => by subst e; exact k _ j)
section
variable (c : Cx) (hK : c.K = hd.heap_39 c.w.params)
include hK
variable {A : Around} {Z : List (Addr × Obj)} {Φ : AV → AHeap → Prop} {n : Nat} {H : AHeap}
theorem s_ways (hA : Ar A (n + 1)) {ra ba : Addr} {right below : List Int} {f : Nat} {res : List Int} (hr : Rd c H ra (.list (right.map .int))) (hb : Rd c H ba (.list (below.map .int))) (hlen : below.length = right.length) (hz : right.length ≤ 1000)
    (hr2 : ∀ x ∈ right, x ≤ 1000) (hb2 : ∀ x ∈ below, x ≤ 1000) (hf : f ≤ 100000) (hres : waysRun right below f [(0, 0, 0)] [] = some res) (h : ∀ a, Φ (.ref a) ((a, .list (res.map .int)) :: H)) : CodeT c A Z (.ref 251) [.ref ra, .ref ba] [] H Φ := by
  refine .own0 [("right", .ref ra), ("below", .ref ba)] hA (lkK hK (by rfl)) (cdK hK (by rfl)) (fun Z s vs kv S r1 r2 => ?_) (fun L A' hA' => ?_)
  · obtain ⟨v, u, rfl, rv, ru⟩ := r1.two
    cases r2
    exact binds_now rfl (.cons ⟨rfl, rv⟩ (.cons ⟨rfl, ru⟩ .nil))
  · k_call_by "go" ()
    refine ⟨by simp, fun wa => ?_⟩
    k_call_by "go" ()
    refine ⟨by simp, ?_⟩
    k_call_by "go" ()
    refine ⟨by simp, fun sa => ?_⟩
    k_call_by "go" ()
    refine EX_While (fun k H' => ∃ st w, Weak c H' ((sa, .list (st.map tup3).reverse) :: (wa, .list (w.map .int)) :: (L, .ns [("right", .ref ra), ("below", .ref ba), ("ways", .ref wa), ("stack", .ref sa)]) :: H) ∧
      waysRun right below k st w = some res ∧ (∀ p ∈ st, p.1 ≤ right.length) ∧ st.length + 2 * k ≤ 200001 ∧ w.length + k ≤ 100000) f ⟨[(0, 0, 0)], [], .refl _ _, hres, by simp, by simp; omega, by simp; omega⟩ ?_
    rintro m H' ⟨st, w, wk, hrun, hst, hs1, hs2⟩
    refine Tr.weak ?_ wk
    k_call_by "go" ()
    refine tr_list (.mem (by k_call_by "mem" ())) (by simp; omega) ?_
    cases st with
    | nil =>
      have e : some w = some res := by cases m <;> exact hrun
      cases e
      simp only [List.map_nil, List.reverse_nil, List.isEmpty_nil, Bool.not_true, Bool.false_eq_true, if_false]
      k_call_by "go" ()
      exact ⟨_, Weak.sub' (.cons _ (.cons_cons _ (.cons _ (List.Sublist.refl _)))), h wa⟩
    | cons p st =>
      obtain ⟨k, done, downs⟩ := p
      cases m with
      | zero => exact absurd hrun (by simp [waysRun])
      | succ m =>
        have hk : k ≤ right.length := hst _ (.head _)
        have e1 : (!((List.map tup3 ((k, done, downs) :: st)).reverse).isEmpty) = true := by simp
        rw [e1, if_pos rfl]
        k_call_by "go" ()
        refine GM_builtin (by k_call_by "mem" ()) (fun _ x => own_list x) F.plainAttrs_list F.slot_list_pop F.type_list_pop ?_
        k_call_by "go" ()
        rw [List.map_cons, List.reverse_cons]
        refine m_pop (by k_call_by "put" ()) (by simp; simp at hs1; omega) ?_
        dsimp only [tup3]
        refine AT_Tuple hA' rfl ?_ nm3
        simp only [ATs]
        k_call_by "go" ()
        refine EX_While (fun m' H' => ∃ k1 : Nat, Weak c H' ((sa, .list (st.map tup3).reverse) :: (wa, .list (w.map .int)) :: (L, .ns [("right", .ref ra), ("below", .ref ba), ("ways", .ref wa), ("stack", .ref sa), ("k", .int k1), ("done", .int done), ("downs", .int downs)]) :: H) ∧
          k1 ≤ right.length ∧ m' = right.length - k1 ∧ skipK right.length done k1 = skipK right.length done k) (right.length - k) ⟨k, .refl _ _, hk, rfl, rfl⟩ ?_
        rintro m' H' ⟨k1, wk, hk1, rfl, e⟩
        refine Tr.weak ?_ wk
        refine Tr.mono (Φ := fun q H' => q = decide (k1 < right.length ∧ bitAt done k1 ≠ 0) ∧ H' = (sa, .list (st.map tup3).reverse) :: (wa, .list (w.map .int)) :: (L, .ns [("right", .ref ra), ("below", .ref ba), ("ways", .ref wa), ("stack", .ref sa), ("k", .int k1), ("done", .int done), ("downs", .int downs)]) :: H) ?_ ?_
        · k_call_by "go" ()
          refine b_len_list (.cons (.cons (.cons hr))) (by simp; omega) ?_
          k_call_by "go" ()
          by_cases h1 : k1 < right.length
          · rw [if_pos (by simpa using h1)]
            k_call_by "go" ()
            refine op_shr (by omega) ?_
            k_call_by "go" ()
            refine op_and ?_
            k_call_by "go" ()
            by_cases h2 : bitAt done k1 ≠ 0
            · rw [if_pos (by simpa [bitAt] using h2)]
              k_call_by "go" ()
              exact ⟨by simp [h1, h2], rfl⟩
            · rw [if_neg (by simpa [bitAt] using h2)]
              exact ⟨by simp [h2], rfl⟩
          · rw [if_neg (by simpa using h1)]
            exact ⟨by simp [h1], rfl⟩
        · rintro q H' ⟨rfl, rfl⟩
          by_cases hgo : k1 < right.length ∧ bitAt done k1 ≠ 0
          · rw [if_pos (by simpa using hgo)]
            refine EX_Aug (by rfl) (by k_call_by "mem" ()) (NGet.look (by k_call_by "get" ())) ?_
            k_call_by "go" ()
            refine op_iadd ?_
            k_call_by "go" ()
            refine ⟨right.length - (k1 + 1), by omega, k1 + 1, by rw [Int.natCast_succ]; exact .refl _ _, by omega, rfl, ?_⟩
            rw [← e, eq_comm, skipK, if_pos hgo]
          · rw [if_neg (by simpa using hgo)]
            have hk2 : skipK right.length done k = k1 := by rw [← e, skipK, if_neg hgo]
            simp only [waysRun] at hrun
            rw [hk2] at hrun
            refine EX_If ?_
            k_call_by "go" ()
            refine b_len_list (.cons (.cons (.cons hr))) (by simp; omega) ?_
            k_call_by "go" ()
            by_cases hend : k1 = right.length
            · rw [if_pos (by simp; omega)]
              rw [if_pos hend] at hrun
              k_call_by "go" ()
              refine GM_builtin (by k_call_by "mem" ()) (fun _ x => own_list x) F.plainAttrs_list F.slot_list_append F.type_list_append ?_
              k_call_by "go" ()
              refine m_append (l := w.map .int) (by k_call_by "put" ()) (by simp; omega) ?_
              k_call_by "go" ()
              refine ⟨m, Nat.lt_succ_self _, st, w ++ [downs], ?_, hrun, fun p hp => hst p (.tail _ hp), by simp at hs1; omega, by simp; omega⟩
              rw [List.map_append]
              exact Weak.ns (.there (.there .here)) fun x v e => (look_app (r := [("k", .int k1), ("done", .int done), ("downs", .int downs)]) e :)
            · rw [if_neg (by simp; omega)]
              rw [if_neg hend] at hrun
              have hlt : k1 < right.length := by omega
              have hltb : k1 < below.length := by omega
              have hrk : ∀ {H' : AHeap} {Φ : AV → AHeap → Prop} {v sl : Expr}, Rd c H' ra (.list (right.map .int)) → Φ (.int (right.getD k1 0)) H' → (∀ t, subscripted sl false (.ref ra) (.int k1 t) = operate [.ref ra, .int k1 t] (getItem (.ref ra) (.int k1 t))) → Op2 c A' Z (subscriptTail v sl) VR (.ref ra) (.int k1) H' Φ := fun hr hΦ hs =>
                sub_list hr (by omega) (by simp [List.getD, hlt]) (by omega) hΦ hs
              have hbk : ∀ {H' : AHeap} {Φ : AV → AHeap → Prop} {v sl : Expr}, Rd c H' ba (.list (below.map .int)) → Φ (.int (below.getD k1 0)) H' → (∀ t, subscripted sl false (.ref ba) (.int k1 t) = operate [.ref ba, .int k1 t] (getItem (.ref ba) (.int k1 t))) → Op2 c A' Z (subscriptTail v sl) VR (.ref ba) (.int k1) H' Φ := fun hr hΦ hs =>
                sub_list hr (by omega) (by simp [List.getD, hltb]) (by omega) hΦ hs
              have hr1 : right.getD k1 0 ≤ 1000 := hr2 _ (by simp [List.getD, hlt])
              have hb1 : below.getD k1 0 ≤ 1000 := hb2 _ (by simp [List.getD, hltb])
              refine EX_nil ?_
              simp only [waysPush] at hrun
              generalize right.getD k1 0 = r at hrun hrk hr1
              generalize below.getD k1 0 = b at hrun hbk hb1
              refine EX_IfJ (fun H'' => H'' = (sa, .list ((if 0 ≤ r ∧ bitAt done r = 0 then ((k1 + 1, por (por done (shl1 k1)) (shl1 r), downs) :: st : List St3) else st).map tup3).reverse) :: (wa, .list (w.map .int)) :: (L, .ns [("right", .ref ra), ("below", .ref ba), ("ways", .ref wa), ("stack", .ref sa), ("k", .int k1), ("done", .int done), ("downs", .int downs)]) :: H) ?_ ?_
              · k_call_by "go" ()
                refine hrk (.cons (.cons (.cons hr))) ?_ (by intro _; rfl)
                k_call_by "go" ()
                by_cases h0 : 0 ≤ r
                · rw [if_pos (by simpa using h0)]
                  k_call_by "go" ()
                  refine hrk (.cons (.cons (.cons hr))) ?_ (by intro _; rfl)
                  refine op_shr h0 ?_
                  k_call_by "go" ()
                  refine op_and ?_
                  k_call_by "go" ()
                  by_cases hb0 : bitAt done r = 0
                  · rw [if_pos (by simpa [bitAt] using hb0)]
                    k_call_by "go" ()
                    rw [if_pos rfl]
                    k_call_by "go" ()
                    refine GM_builtin (by k_call_by "mem" ()) (fun _ x => own_list x) F.plainAttrs_list F.slot_list_append F.type_list_append ?_
                    k_call_by "go" ()
                    refine op_shl (by omega) (by omega) (by decide) ?_
                    refine op_or ?_
                    k_call_by "go" ()
                    refine hrk (.cons (.cons (.cons hr))) ?_ (by intro _; rfl)
                    refine op_shl h0 (by omega) (by decide) ?_
                    refine op_or ?_
                    k_call_by "go" ()
                    refine ⟨by simp, ?_⟩
                    k_call_by "go" ()
                    refine m_append (by k_call_by "put" ()) (by simp; simp at hs1; omega) ?_
                    k_call_by "go" ()
                    refine ⟨rfl, ?_⟩
                    rw [if_pos ⟨h0, hb0⟩, List.map_cons, List.reverse_cons]
                    simp only [tup3, por, shl1, Int.natCast_succ]
                  · rw [if_neg (by simpa [bitAt] using hb0)]
                    simp only [Bool.false_eq_true, if_false]
                    k_call_by "go" ()
                    exact ⟨rfl, by rw [if_neg fun q => hb0 q.2]⟩
                · rw [if_neg (by simpa using h0)]
                  simp only [Bool.false_eq_true, if_false]
                  k_call_by "go" ()
                  exact ⟨rfl, by rw [if_neg fun q => h0 q.1]⟩
              · rintro H'' rfl
                generalize hst1 : (if 0 ≤ r ∧ bitAt done r = 0 then ((k1 + 1, por (por done (shl1 k1)) (shl1 r), downs) :: st : List St3) else st) = st1 at hrun ⊢
                have hl1 : st1.length ≤ st.length + 1 := by rw [← hst1]; split <;> simp
                have hm1 : ∀ p ∈ st1, p.1 ≤ right.length := fun p hp => by
                  rw [← hst1] at hp
                  split at hp
                  · rcases List.mem_cons.mp hp with rfl | hp
                    · exact hlt
                    · exact hst p (.tail _ hp)
                  · exact hst p (.tail _ hp)
                have wkf : ∀ X : AObj, Weak c ((sa, X) :: (wa, .list (w.map .int)) :: (L, .ns [("right", .ref ra), ("below", .ref ba), ("ways", .ref wa), ("stack", .ref sa), ("k", .int k1), ("done", .int done), ("downs", .int downs)]) :: H)
                    ((sa, X) :: (wa, .list (w.map .int)) :: (L, .ns [("right", .ref ra), ("below", .ref ba), ("ways", .ref wa), ("stack", .ref sa)]) :: H) := fun X =>
                  Weak.ns (.there (.there .here)) fun x v e => (look_app (r := [("k", .int k1), ("done", .int done), ("downs", .int downs)]) e :)
                refine EX_If ?_
                k_call_by "go" ()
                refine hbk (.cons (.cons (.cons hb))) ?_ (by intro _; rfl)
                k_call_by "go" ()
                by_cases h0 : 0 ≤ b
                · rw [if_pos (by simpa using h0)]
                  rw [if_pos h0] at hrun
                  k_call_by "go" ()
                  refine GM_builtin (by k_call_by "mem" ()) (fun _ x => own_list x) F.plainAttrs_list F.slot_list_append F.type_list_append ?_
                  k_call_by "go" ()
                  refine op_shl (by omega) (by omega) (by decide) ?_
                  refine op_or ?_
                  k_call_by "go" ()
                  refine hbk (.cons (.cons (.cons hb))) ?_ (by intro _; rfl)
                  refine op_shl h0 (by omega) (by decide) ?_
                  refine op_or ?_
                  k_call_by "go" ()
                  refine op_shl (by omega) (by omega) (by decide) ?_
                  refine op_or ?_
                  k_call_by "go" ()
                  refine ⟨by simp, ?_⟩
                  k_call_by "go" ()
                  refine m_append (by k_call_by "put" ()) (by simp; simp at hs1; omega) ?_
                  k_call_by "go" ()
                  refine ⟨m, Nat.lt_succ_self _, _, w, ?_, hrun, fun p hp => ?_, by simp at hs1 ⊢; omega, by omega⟩
                  · rw [List.map_cons, List.reverse_cons]
                    simp only [tup3, por, shl1, Int.natCast_succ]
                    exact wkf _
                  · rcases List.mem_cons.mp hp with rfl | hp
                    · exact hlt
                    · exact hm1 p hp
                · rw [if_neg (by simpa using h0)]
                  rw [if_neg h0] at hrun
                  k_call_by "go" ()
                  exact ⟨m, Nat.lt_succ_self _, st1, w, wkf _, hrun, hm1, by simp at hs1; omega, by omega⟩
end

end Mine
end
section
open PySem PySem.W PySem.Calls PyProof.Rows
set_option Elab.async false
set_option maxRecDepth 100000
set_option maxHeartbeats 4000000
set_option linter.unusedVariables false
namespace Mine
local macro_rules | `(tactic| k_call_by "bb" ()) => `(tactic| first | exact bb_len | exact bb_range | exact bb_isinstance | exact bb_all | exact bb_any | exact bb_int | exact bb_bool | exact bb_sorted | exact bb_min | exact bb_max | exact bb_dict | exact bb_set | exact bb_abs)
local macro_rules | `(tactic| k_call_by "bn" ()) => `(tactic| first | exact bn_len _ | exact bn_range _ | exact bn_isinstance _ | exact bn_all _ | exact bn_any _ | exact bn_int _ | exact bn_bool _ | exact bn_sorted _ | exact bn_min _ | exact bn_max _ | exact bn_dict _ | exact bn_set _ | exact bn_abs _)
local macro_rules | `(tactic| k_call_by "gv" ()) => `(tactic| first | exact gv_law_wide _ | exact gv_law_slim _ | exact gv_law_draw _ | exact gv_law_size _ | exact gv_law_plain _ | exact gv_law_lines _ | exact gv_law_rows _ | exact gv_law_border _ | exact gv_law_ways _ | exact gv_DeltaSimpleTemporalNetwork _ | exact gv_DeltaNeighbors _ | exact gv_deque _)
local macro_rules | `(tactic| k_call_by "mem" ()) => `(tactic| (repeat (first | with_unfolding_all exact List.Mem.head _ | with_unfolding_all apply List.Mem.tail)))
local macro_rules | `(tactic| k_call_by "get" ()) => `(tactic| (repeat (first | with_unfolding_all exact NGet.here | with_unfolding_all apply NGet.there (by with_unfolding_all exact rfl))))
local macro_rules | `(tactic| k_call_by "nput" ()) => `(tactic| (repeat (first | with_unfolding_all exact NPut.here | with_unfolding_all exact NPut.nil | with_unfolding_all apply NPut.there (by with_unfolding_all exact rfl))))
local macro_rules | `(tactic| k_call_by "put" ()) => `(tactic| (repeat (first | with_unfolding_all exact Put.here | with_unfolding_all apply Put.there)))
local macro_rules | `(tactic| k_call_by "rfl" ()) => `(tactic| with_unfolding_all exact rfl)
local macro_rules | `(tactic| k_call_by "name" ()) => `(tactic| (with_reducible refine isName ?_; first
  | with_reducible refine EV_local (by k_call_by "rfl" ()) (by k_call_by "mem" ()) (NGet.look (by k_call_by "get" ())) ?_
  | with_reducible refine EV_cell (by k_call_by "rfl" ()) (by k_call_by "rfl" ()) (by k_call_by "mem" ()) ?_
  | with_reducible refine EV_free (by k_call_by "rfl" ()) (by k_call_by "rfl" ()) (by k_call_by "mem" ()) ?_
  | with_reducible refine EV_builtin (nsK (by assumption) (by k_call_by "bn" ())) (by k_call_by "bb" ()) ?_
  | with_reducible refine EV_global (nsK (by assumption) (by k_call_by "gv" ())) (fun _ => .ref _) ?_
  | with_reducible refine EV_global (nsK (by assumption) (by k_call_by "gv" ())) (fun _ => .con _) ?_))
local macro_rules | `(tactic| k_call_by "set" ()) => `(tactic| (with_reducible refine isSet ?_; first
  | with_reducible refine SN_local (by k_call_by "rfl" ()) (by k_call_by "put" ()) (by k_call_by "nput" ()) ?_
  | with_reducible refine SN_cell (by k_call_by "rfl" ()) (by k_call_by "rfl" ()) (by k_call_by "put" ()) ?_))
local macro_rules | `(tactic| k_call_by "op" ()) => `(tactic| with_reducible first
  | refine op_add ?_
  | refine op_sub ?_
  | refine op_neg ?_
  | refine cmp_lt ?_
  | refine cmp_gt ?_
  | refine cmp_le ?_
  | refine cmp_ge ?_
  | refine cmp_eq ?_
  | refine cmp_ne ?_
  | refine tr_bool ?_
  | refine tr_int ?_
  | refine tr_none ?_)
local macro_rules | `(tactic| k_call_by "s" ()) => `(tactic| first
  | k_call_by "name" ()
  | with_reducible refine EX_If ?_
  | with_reducible refine EX_Return ?_
  | with_reducible refine EX_nil ?_
  | with_reducible refine EX_Continue ?_
  | with_reducible refine EX_Expr ?_
  | with_reducible refine EX_Assign ?_
  | with_reducible refine EX_AssignT ?_
  | with_reducible refine EX_AssignS ?_
  | with_reducible refine EX_AssignA ?_
  | with_reducible refine EV_int ?_
  | with_reducible refine EV_bool ?_
  | with_reducible refine EV_none ?_
  | with_reducible refine EV_BinOp ?_
  | with_reducible refine EV_UnaryOp ?_
  | with_reducible refine EB_Compare ?_
  | with_reducible refine EB_not ?_
  | with_reducible refine EB_and ?_
  | with_reducible refine EB_and_nil ?_
  | with_reducible refine EB_or ?_
  | with_reducible refine EB_or_nil ?_
  | with_reducible refine EV_Compare ?_
  | with_reducible refine EV_Sub ?_
  | with_reducible refine EV_IfExp ?_
  | with_reducible refine EV_Tuple ?_
  | with_reducible refine EV_List ?_
  | with_reducible refine EV_Call ?_
  | with_reducible refine EV_MCall ?_
  | with_reducible refine EV_Attr ?_
  | with_reducible refine EVs_cons ?_
  | with_reducible refine EVs_nil ?_
  | k_call_by "op" ()
  | k_call_by "set" ()
  | with_reducible refine AT_Name ?_
  | with_reducible refine EB_plain ?_
  | with_reducible refine okB ?_
  | with_reducible refine okT ?_
  | with_reducible refine okK (by assumption) (by k_call_by "rfl" ()) ?_)
local macro_rules | `(tactic| k_call_by "go" ()) => `(tactic| (repeat (k_call_by "s" ())))

local macro_rules | `(tactic| k_call_by "nc" ()) => `(tactic| (intro x e; cases e))
local macro_rules | `(tactic| k_call_by "out" ()) => `(tactic| (refine ⟨_, Weak.sub' (List.sublist_cons_self _ _), ?_⟩))
section
variable (c : Cx) (hK : c.K = hd.heap_39 c.w.params)
include hK
variable {A : Around} {Z : List (Addr × Obj)} {Φ : AV → AHeap → Prop} {n : Nat} {H : AHeap}
theorem s_netinit0 (hA : Ar A (n + 1)) {a d : Addr} (h : ∀ cd dd, Φ .none (netH ⟨a, d, dd, cd, [], [], true⟩ H)) : CodeT c A Z (.ref 116) [.ref a] [] ((a, .inst 203 d) :: (d, .attrs []) :: H) Φ := by
  refine .own0 [("self", .ref a), ("constraints", .none), ("distances", .none), ("is_sat", .bool true), ("epsilon", .int 0)] hA (lkK hK (by rfl)) (cdK hK (by rfl)) (fun Z s vs kv S r1 r2 => ?_) (fun L A' hA' => ?_)
  · obtain ⟨v, rfl, rv⟩ := r1.one
    cases r2
    exact ⟨_, .of_defaults rfl (S.K _ _ (lkK hK (by rfl))) rfl rfl rfl, .cons ⟨rfl, rv⟩ (.cons ⟨rfl, .none⟩ (.cons ⟨rfl, .none⟩ (.cons ⟨rfl, .bool _⟩ (.cons ⟨rfl, .int _ _⟩ .nil))))⟩
  · k_call_by "go" ()
    refine isnot_none (by k_call_by "nc" ()) ?_
    k_call_by "go" ()
    simp only [Bool.false_eq_true, if_false]
    refine EV_Dict0 (.idict []) (.inl rfl) fun cd => ?_
    k_call_by "go" ()
    refine sf_203 (m' := [("_constraints", .ref cd)]) hK (by k_call_by "mem" ()) (by k_call_by "put" ()) (by rfl) (by simp) (by rfl) (by simp) ?_
    k_call_by "go" ()
    refine isnot_none (by k_call_by "nc" ()) ?_
    k_call_by "go" ()
    simp only [Bool.false_eq_true, if_false]
    refine EV_Dict0 (.idict []) (.inl rfl) fun dd => ?_
    k_call_by "go" ()
    refine sf_203 (m' := [("_constraints", .ref cd), ("_distances", .ref dd)]) hK (by k_call_by "mem" ()) (by k_call_by "put" ()) (by rfl) (by simp) (by rfl) (by simp) ?_
    k_call_by "go" ()
    refine sf_203 (m' := [("_constraints", .ref cd), ("_distances", .ref dd), ("_is_sat", .bool true)]) hK (by k_call_by "mem" ()) (by k_call_by "put" ()) (by rfl) (by simp) (by rfl) (by simp) ?_
    k_call_by "go" ()
    refine sf_203 (m' := [("_constraints", .ref cd), ("_distances", .ref dd), ("_is_sat", .bool true), ("_epsilon", .int 0)]) hK (by k_call_by "mem" ()) (by k_call_by "put" ()) (by rfl) (by simp) (by rfl) (by simp) ?_
    k_call_by "go" ()
    refine ⟨_, Weak.trans (Weak.sub' (H' := (dd, .idict []) :: (cd, .idict []) :: (a, .inst 203 d) :: (d, .attrs [("_constraints", .ref cd), ("_distances", .ref dd), ("_is_sat", .bool true), ("_epsilon", .int 0)]) :: H) (.cons_cons _ (.cons_cons _ (.cons _ (List.Sublist.refl _))))) (Weak.perm' ?_), h cd dd⟩
    have p1 := List.perm_append_comm_assoc [(a, AObj.inst 203 d), (d, .attrs [("_constraints", .ref cd), ("_distances", .ref dd), ("_is_sat", .bool true), ("_epsilon", .int 0)])] [(dd, AObj.idict []), (cd, .idict [])] H
    exact p1
/-- the network made with no arguments -/
theorem s_net0 (hA : Ar A (n + 2)) (h : ∀ a d cd dd, Φ (.ref a) (netH ⟨a, d, dd, cd, [], [], true⟩ H)) : CodeT c A Z (.ref 203) [] [] H Φ :=
  CodeT.make (n := n + 1) hA (by rw [hK]; rfl) (fdK hK (by rfl)) (by rw [hK]; rfl) fun a d A' hA' => s_netinit0 c hK hA' fun cd dd => ⟨rfl, h a d cd dd⟩
end

end Mine
end
section
open PySem PySem.W PySem.Calls PyProof.Rows
set_option Elab.async false
set_option maxRecDepth 100000
set_option maxHeartbeats 4000000
set_option linter.unusedVariables false
namespace Mine
local macro_rules | `(tactic| k_call_by "bb" ()) => `(tactic| first | exact bb_len | exact bb_range | exact bb_isinstance | exact bb_all | exact bb_any | exact bb_int | exact bb_bool | exact bb_sorted | exact bb_min | exact bb_max | exact bb_dict | exact bb_set | exact bb_abs)
local macro_rules | `(tactic| k_call_by "bn" ()) => `(tactic| first | exact bn_len _ | exact bn_range _ | exact bn_isinstance _ | exact bn_all _ | exact bn_any _ | exact bn_int _ | exact bn_bool _ | exact bn_sorted _ | exact bn_min _ | exact bn_max _ | exact bn_dict _ | exact bn_set _ | exact bn_abs _)
local macro_rules | `(tactic| k_call_by "gv" ()) => `(tactic| first | exact gv_law_wide _ | exact gv_law_slim _ | exact gv_law_draw _ | exact gv_law_size _ | exact gv_law_plain _ | exact gv_law_lines _ | exact gv_law_rows _ | exact gv_law_border _ | exact gv_law_ways _ | exact gv_DeltaSimpleTemporalNetwork _ | exact gv_DeltaNeighbors _ | exact gv_deque _)
local macro_rules | `(tactic| k_call_by "mem" ()) => `(tactic| (repeat (first | with_unfolding_all exact List.Mem.head _ | with_unfolding_all apply List.Mem.tail)))
local macro_rules | `(tactic| k_call_by "get" ()) => `(tactic| (repeat (first | with_unfolding_all exact NGet.here | with_unfolding_all apply NGet.there (by with_unfolding_all exact rfl))))
local macro_rules | `(tactic| k_call_by "nput" ()) => `(tactic| (repeat (first | with_unfolding_all exact NPut.here | with_unfolding_all exact NPut.nil | with_unfolding_all apply NPut.there (by with_unfolding_all exact rfl))))
local macro_rules | `(tactic| k_call_by "put" ()) => `(tactic| (repeat (first | with_unfolding_all exact Put.here | with_unfolding_all apply Put.there)))
local macro_rules | `(tactic| k_call_by "rfl" ()) => `(tactic| with_unfolding_all exact rfl)
local macro_rules | `(tactic| k_call_by "name" ()) => `(tactic| (with_reducible refine isName ?_; first
  | with_reducible refine EV_local (by k_call_by "rfl" ()) (by k_call_by "mem" ()) (NGet.look (by k_call_by "get" ())) ?_
  | with_reducible refine EV_cell (by k_call_by "rfl" ()) (by k_call_by "rfl" ()) (by k_call_by "mem" ()) ?_
  | with_reducible refine EV_free (by k_call_by "rfl" ()) (by k_call_by "rfl" ()) (by k_call_by "mem" ()) ?_
  | with_reducible refine EV_builtin (nsK (by assumption) (by k_call_by "bn" ())) (by k_call_by "bb" ()) ?_
  | with_reducible refine EV_global (nsK (by assumption) (by k_call_by "gv" ())) (fun _ => .ref _) ?_
  | with_reducible refine EV_global (nsK (by assumption) (by k_call_by "gv" ())) (fun _ => .con _) ?_))
local macro_rules | `(tactic| k_call_by "set" ()) => `(tactic| (with_reducible refine isSet ?_; first
  | with_reducible refine SN_local (by k_call_by "rfl" ()) (by k_call_by "put" ()) (by k_call_by "nput" ()) ?_
  | with_reducible refine SN_cell (by k_call_by "rfl" ()) (by k_call_by "rfl" ()) (by k_call_by "put" ()) ?_))
local macro_rules | `(tactic| k_call_by "op" ()) => `(tactic| with_reducible first
  | refine op_add ?_
  | refine op_sub ?_
  | refine op_neg ?_
  | refine cmp_lt ?_
  | refine cmp_gt ?_
  | refine cmp_le ?_
  | refine cmp_ge ?_
  | refine cmp_eq ?_
  | refine cmp_ne ?_
  | refine tr_bool ?_
  | refine tr_int ?_
  | refine tr_none ?_)
local macro_rules | `(tactic| k_call_by "s" ()) => `(tactic| first
  | k_call_by "name" ()
  | with_reducible refine EX_If ?_
  | with_reducible refine EX_Return ?_
  | with_reducible refine EX_nil ?_
  | with_reducible refine EX_Continue ?_
  | with_reducible refine EX_Expr ?_
  | with_reducible refine EX_Assign ?_
  | with_reducible refine EX_AssignT ?_
  | with_reducible refine EX_AssignS ?_
  | with_reducible refine EX_AssignA ?_
  | with_reducible refine EV_int ?_
  | with_reducible refine EV_bool ?_
  | with_reducible refine EV_none ?_
  | with_reducible refine EV_BinOp ?_
  | with_reducible refine EV_UnaryOp ?_
  | with_reducible refine EB_Compare ?_
  | with_reducible refine EB_not ?_
  | with_reducible refine EB_and ?_
  | with_reducible refine EB_and_nil ?_
  | with_reducible refine EB_or ?_
  | with_reducible refine EB_or_nil ?_
  | with_reducible refine EV_Compare ?_
  | with_reducible refine EV_Sub ?_
  | with_reducible refine EV_IfExp ?_
  | with_reducible refine EV_Tuple ?_
  | with_reducible refine EV_List ?_
  | with_reducible refine EV_Call ?_
  | with_reducible refine EV_MCall ?_
  | with_reducible refine EV_Attr ?_
  | with_reducible refine EVs_cons ?_
  | with_reducible refine EVs_nil ?_
  | k_call_by "op" ()
  | k_call_by "set" ()
  | with_reducible refine AT_Name ?_
  | with_reducible refine EB_plain ?_
  | with_reducible refine okB ?_
  | with_reducible refine okT ?_
  | with_reducible refine okK (by assumption) (by k_call_by "rfl" ()) ?_)
local macro_rules | `(tactic| k_call_by "go" ()) => `(tactic| (repeat (k_call_by "s" ())))

local macro_rules | `(tactic| k_call_by "nc" ()) => `(tactic| (intro x e; cases e))
noncomputable def row3 (p : List Int × Int) : List Int := p.1 ++ [p.2]
noncomputable def tupL (l : List Int) : AV := .tup (l.map .int)
theorem Put.ofMem {a : Addr} {o : AObj} {H : AHeap} (h : (a, o) ∈ H) (o' : AObj) : ∃ H', Put a o o' H H' ∧ Put a o' o H' H := by
  induction H with
  | nil => cases h
  | cons p r ih =>
    rcases List.mem_cons.mp h with rfl | h
    · exact ⟨_, .here, .here⟩
    · obtain ⟨r', x, y⟩ := ih h
      exact ⟨p :: r', .there x, .there y⟩
theorem lookT {es : List (List Int × Int)} {k : List Int} : (es.map fun p => (p.1, AV.int p.2)).lookup k = (es.lookup k).map AV.int := by
  induction es with
  | nil => rfl
  | cons p r ih =>
    obtain ⟨a, b⟩ := p
    rw [List.map_cons, List.lookup_cons, List.lookup_cons]
    cases k == a with
    | true => rfl
    | false => exact ih
theorem lookup_nd {α β : Type} [BEq α] [LawfulBEq α] {l : List (α × β)} (nd : (l.map (·.1)).Nodup) {p : α × β} (h : p ∈ l) : l.lookup p.1 = some p.2 := by
  induction l with
  | nil => cases h
  | cons q r ih =>
    obtain ⟨k, v⟩ := q
    rw [List.map_cons, List.nodup_cons] at nd
    rcases List.mem_cons.mp h with rfl | h
    · simp
    · have : (p.1 == k) = false := by
        rw [beq_eq_false_iff_ne]
        intro e
        exact nd.1 (List.mem_map.mpr ⟨p, h, e⟩)
      rw [List.lookup_cons, this]; exact ih nd.2 h
theorem row3_nd {es : List (List Int × Int)} (hk : ∀ p ∈ es, ∃ x y, p.1 = [x, y]) (ndk : (es.map (·.1)).Nodup) : (es.map row3).Nodup := by
  induction es with
  | nil => exact .nil
  | cons p r ih =>
    rw [List.map_cons, List.nodup_cons] at ndk ⊢
    refine ⟨fun hm => ?_, ih (fun p hp => hk p (.tail _ hp)) ndk.2⟩
    obtain ⟨q, hq, e⟩ := List.mem_map.mp hm
    obtain ⟨x, y, e1⟩ := hk p (.head _)
    obtain ⟨x', y', e2⟩ := hk q (.tail _ hq)
    refine ndk.1 (List.mem_map.mpr ⟨q, hq, ?_⟩)
    rw [row3, row3, e1, e2] at e
    simp at e
    rw [e1, e2, e.1, e.2.1]
section
variable (c : Cx) (hK : c.K = hd.heap_39 c.w.params)
include hK
variable {A : Around} {Z : List (Addr × Obj)} {Φ : AV → AHeap → Prop} {n : Nat} {H : AHeap}
theorem s_rows (hA : Ar A (n + 1)) {t : Addr} {es : List (List Int × Int)} (hd' : (t, .tdict (es.map fun p => (p.1, .int p.2))) ∈ H) (hk : ∀ p ∈ es, ∃ x y, p.1 = [x, y]) (ndk : (es.map (·.1)).Nodup) (h2 : 2 ≤ es.length) (h64 : es.length < 64)
    (h : ∀ a out, List.Perm out (es.map row3) → out.Pairwise (fun x y => lexLt x y = true) → Φ (.ref a) ((a, .list (out.map fun x => .tup (x.map .int))) :: H)) : CodeT c A Z (.ref 239) [.ref t] [] H Φ := by
  refine .own [("tight", some (.ref t))] [] [("tight", .ref t)] hA (lkK hK (by rfl)) (cdK hK (by rfl)) (fun Z s vs kv S r1 r2 => ?_) (fun L A' hA' => ?_) (hlo2 := fun _ _ e => by cases e)
  · obtain ⟨v, rfl, rv⟩ := r1.one
    cases r2
    exact binds_now rfl (.cons ⟨rfl, rv⟩ .nil)
  · show EX c A' Z _ _ ((L, .ns []) :: (L + 1, .cell (some (.ref t))) :: H) _
    k_call_by "go" ()
    refine Tr.pinT (a := t) (es := es.map fun p => (p.1, .int p.2)) fun ob => ?_
    obtain ⟨H₁, P, P'⟩ := Put.ofMem hd' (.ptdict (es.map fun p => (p.1, .int p.2)) ob)
    have hm := P.mem'
    refine ⟨_, .there (.there P), ?_⟩
    refine EV_LC1 [("tight", L + 1)] ?_
    k_call_by "go" ()
    refine ⟨_, _, fun i ys Hr => ys = (es.take i).map (fun p => tupL (row3 p)) ∧ Hr = (L, .ns []) :: (L + 1, .cell (some (.ref t))) :: H₁, Loop.tdict (es := es.map fun p => (p.1, .int p.2)) hA' (.inr ⟨_, _, _, rfl⟩) (.tail _ (.tail _ hm)), ⟨rfl, rfl⟩, ?_, ?_, ?_⟩
    · rintro i ys Hr C acc m ⟨_, rfl⟩
      exact .tail _ (.tail _ (.tail _ (.tail _ hm)))
    · rintro i x ys Hr Z C acc hx ⟨rfl, rfl⟩
      obtain ⟨p, hp, rfl⟩ : ∃ p, es[i]? = some p ∧ AV.tup (p.1.map .int) = x := by simpa using hx
      have hlt := (List.getElem?_eq_some_iff.mp hp).1
      have hpm : p ∈ es := List.mem_of_getElem? hp
      obtain ⟨x, y, e⟩ := hk p hpm
      rw [e]
      refine AT_Tuple hA' rfl ?_ nm2
      simp only [ATs, List.map_cons, List.map_nil]
      k_call_by "go" ()
      refine ⟨by simp, ?_⟩
      refine sub_tdict hA' (k := [x, y]) (.cons (.cons (.cons (.cons (.pinT hm))))) (x := .int p.2) ?_ ?_
      · have := lookup_nd ndk hpm
        rw [lookT, ← e, this]; rfl
      · k_call_by "go" ()
        refine ⟨by simp, _, _, .refl _ _, by simp; omega, ?_, rfl⟩
        rw [List.take_add_one, hp]
        simp [tupL, row3, e]
    · rintro ys Hr acc ⟨rfl, rfl⟩
      k_call_by "go" ()
      refine b_sorted (L := L) (ls := es.map row3) (d := 2) (by k_call_by "mem" ()) (.mem ?_) (by simpa using h2) (by simpa using h64) ?_ ?_ fun a out hp ho => ?_
      · simp only [List.length_map, List.take_length, List.map_map]
        exact .head _
      · intro l hl
        obtain ⟨p, hp, rfl⟩ := List.mem_map.mp hl
        obtain ⟨x, y, e⟩ := hk p hp
        rw [row3, e]; rfl
      · exact row3_nd hk ndk
      · refine ⟨_, Weak.trans (Weak.sub' (H' := (a, .list (List.map (fun x : List Int => AV.tup (List.map AV.int x)) out)) :: H₁) (.cons_cons _ (.cons _ (.cons _ (.cons _ (List.Sublist.refl _)))))) (Weak.unpinT (.there P')), h a out hp ho⟩
end

end Mine
end
section
open PySem PySem.W PySem.Calls PyProof.Rows
set_option Elab.async false
set_option maxRecDepth 100000
set_option maxHeartbeats 4000000
set_option linter.unusedVariables false
namespace Mine
local macro_rules | `(tactic| k_call_by "bb" ()) => `(tactic| first | exact bb_len | exact bb_range | exact bb_isinstance | exact bb_all | exact bb_any | exact bb_int | exact bb_bool | exact bb_sorted | exact bb_min | exact bb_max | exact bb_dict | exact bb_set | exact bb_abs)
local macro_rules | `(tactic| k_call_by "bn" ()) => `(tactic| first | exact bn_len _ | exact bn_range _ | exact bn_isinstance _ | exact bn_all _ | exact bn_any _ | exact bn_int _ | exact bn_bool _ | exact bn_sorted _ | exact bn_min _ | exact bn_max _ | exact bn_dict _ | exact bn_set _ | exact bn_abs _)
local macro_rules | `(tactic| k_call_by "gv" ()) => `(tactic| first | exact gv_law_wide _ | exact gv_law_slim _ | exact gv_law_draw _ | exact gv_law_size _ | exact gv_law_plain _ | exact gv_law_lines _ | exact gv_law_rows _ | exact gv_law_border _ | exact gv_law_ways _ | exact gv_DeltaSimpleTemporalNetwork _ | exact gv_DeltaNeighbors _ | exact gv_deque _)
local macro_rules | `(tactic| k_call_by "mem" ()) => `(tactic| (repeat (first | with_unfolding_all exact List.Mem.head _ | with_unfolding_all apply List.Mem.tail)))
local macro_rules | `(tactic| k_call_by "get" ()) => `(tactic| (repeat (first | with_unfolding_all exact NGet.here | with_unfolding_all apply NGet.there (by with_unfolding_all exact rfl))))
local macro_rules | `(tactic| k_call_by "nput" ()) => `(tactic| (repeat (first | with_unfolding_all exact NPut.here | with_unfolding_all exact NPut.nil | with_unfolding_all apply NPut.there (by with_unfolding_all exact rfl))))
local macro_rules | `(tactic| k_call_by "put" ()) => `(tactic| (repeat (first | with_unfolding_all exact Put.here | with_unfolding_all apply Put.there)))
local macro_rules | `(tactic| k_call_by "rfl" ()) => `(tactic| with_unfolding_all exact rfl)
local macro_rules | `(tactic| k_call_by "name" ()) => `(tactic| (with_reducible refine isName ?_; first
  | with_reducible refine EV_local (by k_call_by "rfl" ()) (by k_call_by "mem" ()) (NGet.look (by k_call_by "get" ())) ?_
  | with_reducible refine EV_cell (by k_call_by "rfl" ()) (by k_call_by "rfl" ()) (by k_call_by "mem" ()) ?_
  | with_reducible refine EV_free (by k_call_by "rfl" ()) (by k_call_by "rfl" ()) (by k_call_by "mem" ()) ?_
  | with_reducible refine EV_builtin (nsK (by assumption) (by k_call_by "bn" ())) (by k_call_by "bb" ()) ?_
  | with_reducible refine EV_global (nsK (by assumption) (by k_call_by "gv" ())) (fun _ => .ref _) ?_
  | with_reducible refine EV_global (nsK (by assumption) (by k_call_by "gv" ())) (fun _ => .con _) ?_))
local macro_rules | `(tactic| k_call_by "set" ()) => `(tactic| (with_reducible refine isSet ?_; first
  | with_reducible refine SN_local (by k_call_by "rfl" ()) (by k_call_by "put" ()) (by k_call_by "nput" ()) ?_
  | with_reducible refine SN_cell (by k_call_by "rfl" ()) (by k_call_by "rfl" ()) (by k_call_by "put" ()) ?_))
local macro_rules | `(tactic| k_call_by "op" ()) => `(tactic| with_reducible first
  | refine op_add ?_
  | refine op_sub ?_
  | refine op_neg ?_
  | refine cmp_lt ?_
  | refine cmp_gt ?_
  | refine cmp_le ?_
  | refine cmp_ge ?_
  | refine cmp_eq ?_
  | refine cmp_ne ?_
  | refine tr_bool ?_
  | refine tr_int ?_
  | refine tr_none ?_)
local macro_rules | `(tactic| k_call_by "s" ()) => `(tactic| first
  | k_call_by "name" ()
  | with_reducible refine EX_If ?_
  | with_reducible refine EX_Return ?_
  | with_reducible refine EX_nil ?_
  | with_reducible refine EX_Continue ?_
  | with_reducible refine EX_Expr ?_
  | with_reducible refine EX_Assign ?_
  | with_reducible refine EX_AssignT ?_
  | with_reducible refine EX_AssignS ?_
  | with_reducible refine EX_AssignA ?_
  | with_reducible refine EV_int ?_
  | with_reducible refine EV_bool ?_
  | with_reducible refine EV_none ?_
  | with_reducible refine EV_BinOp ?_
  | with_reducible refine EV_UnaryOp ?_
  | with_reducible refine EB_Compare ?_
  | with_reducible refine EB_not ?_
  | with_reducible refine EB_and ?_
  | with_reducible refine EB_and_nil ?_
  | with_reducible refine EB_or ?_
  | with_reducible refine EB_or_nil ?_
  | with_reducible refine EV_Compare ?_
  | with_reducible refine EV_Sub ?_
  | with_reducible refine EV_IfExp ?_
  | with_reducible refine EV_Tuple ?_
  | with_reducible refine EV_List ?_
  | with_reducible refine EV_Call ?_
  | with_reducible refine EV_MCall ?_
  | with_reducible refine EV_Attr ?_
  | with_reducible refine EVs_cons ?_
  | with_reducible refine EVs_nil ?_
  | k_call_by "op" ()
  | k_call_by "set" ()
  | with_reducible refine AT_Name ?_
  | with_reducible refine EB_plain ?_
  | with_reducible refine okB ?_
  | with_reducible refine okT ?_
  | with_reducible refine okK (by assumption) (by k_call_by "rfl" ()) ?_)
local macro_rules | `(tactic| k_call_by "go" ()) => `(tactic| (repeat (k_call_by "s" ())))

local macro_rules | `(tactic| k_call_by "nc" ()) => `(tactic| (intro x e; cases e))
noncomputable def linesOf (D : DL) (C : CL) : List (List Int) := D.flatMap fun p => (firsts (ch C p.1) []).map fun q => [p.1, q.2, q.1]
theorem CodeT.unders {c : Cx} {A Z f as ks} {N : Net} {nodes R : AHeap} (X : AHeap) {Φ : AV → AHeap → Prop}
    (h : CodeT c A Z f as ks (netH N (nodes ++ (X ++ R))) fun v H' => ∃ N' nodes', H' = netH N' (nodes' ++ (X ++ R)) ∧ Φ v (X ++ netH N' (nodes' ++ R))) : CodeT c A Z f as ks (X ++ netH N (nodes ++ R)) Φ := by
  have pm : ∀ (N : Net) (nodes : AHeap), (netH N (nodes ++ (X ++ R))).Perm (X ++ netH N (nodes ++ R)) := fun N nodes => (List.perm_append_comm_assoc X (netH N nodes) R).symm
  refine CodeT.weak (CodeT.post (h.mono ?_)) (Weak.perm' (pm N nodes))
  rintro v H' ⟨N', nodes', rfl, hΦ⟩
  exact ⟨_, Weak.perm' (pm N' nodes').symm, hΦ⟩
theorem sub_lines {α β : Type} {f : α → List β} {l : List α} {i j : Nat} {p : α} (hp : l[i]? = some p) : ((l.take i).flatMap f ++ (f p).take j).Sublist (l.flatMap f) := by
  have h1 : ((l.take i).flatMap f ++ (f p).take j).Sublist ((l.take (i + 1)).flatMap f) := by
    rw [List.take_add_one, hp, List.flatMap_append]
    refine .append (.refl _) ?_
    simpa using List.take_sublist _ _
  refine h1.trans ?_
  rw [← List.take_append_drop (i + 1) l, List.flatMap_append, List.take_append_drop]
  exact List.sublist_append_left _ _
theorem lookR {es : List (Int × Addr)} {k : Int} : (es.map fun p => (p.1, AV.ref p.2)).lookup k = (es.lookup k).map AV.ref := by
  induction es with
  | nil => rfl
  | cons p r ih =>
    obtain ⟨a, b⟩ := p
    rw [List.map_cons, List.lookup_cons, List.lookup_cons]
    cases k == a with
    | true => rfl
    | false => exact ih
section
variable (c : Cx) (hK : c.K = hd.heap_39 c.w.params)
include hK
variable {A : Around} {Z : List (Addr × Obj)} {Φ : AV → AHeap → Prop} {n : Nat} {N : Net} {R nodes : AHeap}
theorem s_lines (hA : Ar A (n + 2)) {C : CL} (hC : Chains nodes N.cons C) (nd : (N.dist.map (·.1)).Nodup) (ndC : (C.map (·.1)).Nodup) (hsub : ∀ k, (C.lookup k).isSome = true → (N.dist.lookup k).isSome = true) (hz : N.dist.length ≤ 1000) (h64 : ∀ k, (ch C k).length ≤ 64)
    (h2 : 2 ≤ (linesOf N.dist C).length) (h63 : (linesOf N.dist C).length < 64) (ndl : (linesOf N.dist C).Nodup)
    (h : ∀ a out, List.Perm out (linesOf N.dist C) → out.Pairwise (fun x y => lexLt x y = true) → Φ (.ref a) ((a, .list (out.map fun x => .tup (x.map .int))) :: netH N (nodes ++ R))) : CodeT c A Z (.ref 234) [.ref N.a] [] (netH N (nodes ++ R)) Φ := by
  refine .own [("lines", none)] [("net", .ref N.a)] [("net", .ref N.a)] hA (lkK hK (by rfl)) (cdK hK (by rfl)) (fun Z s vs kv S r1 r2 => ?_) (fun L A' hA' => ?_)
  · obtain ⟨v, rfl, rv⟩ := r1.one
    cases r2
    exact binds_now rfl (.cons ⟨rfl, rv⟩ .nil)
  · show EX c A' Z _ _ ((L, .ns [("net", .ref N.a)]) :: (L + 1, .cell none) :: netH N (nodes ++ R)) _
    k_call_by "go" ()
    refine gm_203 hK (f := 193) (by simp) (by k_call_by "mem" ()) (by k_call_by "mem" ()) (by rfl) ?_
    k_call_by "go" ()
    refine CodeT.call ?_
    have pm : ∀ (Y : AHeap), (netH N (nodes ++ (Y ++ ((L, .ns [("net", .ref N.a)]) :: (L + 1, .cell none) :: R)))).Perm ((L, .ns [("net", .ref N.a)]) :: (L + 1, .cell none) :: netH N (nodes ++ (Y ++ R))) := fun Y => by
      have e1 : netH N (nodes ++ (Y ++ ((L, .ns [("net", .ref N.a)]) :: (L + 1, .cell none) :: R))) = netH N (nodes ++ Y) ++ ([(L, .ns [("net", .ref N.a)]), (L + 1, .cell none)] ++ R) := by simp [netH]
      have e2 : (L, .ns [("net", .ref N.a)]) :: (L + 1, .cell none) :: netH N (nodes ++ (Y ++ R)) = [(L, .ns [("net", .ref N.a)]), (L + 1, .cell none)] ++ (netH N (nodes ++ Y) ++ R) := by simp [netH]
      rw [e1, e2]
      exact (List.perm_append_comm_assoc _ _ _).symm
    refine CodeT.weak (CodeT.post (s_getcons c hK hA' hC nd ndC hsub hz h64 fun a ls hls => ?_)) (Weak.perm' (pm []))
    refine ⟨_, Weak.perm' (.cons _ (pm _).symm), ?_⟩
    have hmem : ∀ p ∈ ls, (p.2, AObj.list ((firsts (ch C p.1) []).map pairAV)) ∈ netH N (nodes ++ (objsG ls (fun k => (firsts (ch C k) []).map pairAV) ++ R)) := fun p hp =>
      by
      have h1 : (p.2, AObj.list ((firsts (ch C p.1) []).map pairAV)) ∈ objsG ls (fun k => (firsts (ch C k) []).map pairAV) := List.mem_map.mpr ⟨p, hp, rfl⟩
      exact .tail _ (.tail _ (.tail _ (.tail _ (List.mem_append_right nodes (List.mem_append_left R h1)))))
    have hT : (netH N (nodes ++ R)).Sublist (netH N (nodes ++ (objsG ls (fun k => (firsts (ch C k) []).map pairAV) ++ R))) :=
      .cons_cons _ (.cons_cons _ (.cons_cons _ (.cons_cons _ (.append (.refl nodes) (List.sublist_append_right _ _)))))
    generalize netH N (nodes ++ (objsG ls (fun k => (firsts (ch C k) []).map pairAV) ++ R)) = T at hmem hT ⊢
    have ndk : (ls.map (·.1)).Nodup := by rw [hls]; exact nd
    have elin : linesOf N.dist C = ls.flatMap fun p => (firsts (ch C p.1) []).map fun q => [p.1, q.2, q.1] := by
      have : ∀ l : List Int, l.flatMap (fun k => (firsts (ch C k) []).map fun q => [k, q.2, q.1]) = l.flatMap fun k => (firsts (ch C k) []).map fun q => [k, q.2, q.1] := fun _ => rfl
      unfold linesOf
      rw [← List.flatMap_map (f := fun p : Int × Int => p.1) (g := fun k => (firsts (ch C k) []).map fun q => [k, q.2, q.1]), ← hls, List.flatMap_map]
    clear pm
    k_call_by "go" ()
    refine Tr.pinI fun ob => ⟨_, .here, ?_⟩
    refine EV_LC2 [("lines", L + 1)] ?_
    k_call_by "go" ()
    refine ⟨_, _, fun i ys Hr => ys = (ls.take i).flatMap (fun p => (firsts (ch C p.1) []).map fun q => tupL [p.1, q.2, q.1]) ∧ Hr = (a, .pidict (ls.map fun p => (p.1, .ref p.2)) ob) :: (L, .ns [("net", .ref N.a)]) :: (L + 1, .cell (some (.ref a))) :: T, Loop.idict (es := ls.map fun p => (p.1, .ref p.2)) hA' (.inl ⟨_, _, rfl⟩) (.head _), ⟨rfl, rfl⟩, ?_, ?_, ?_⟩
    · rintro i ys Hr C acc m ⟨_, rfl⟩
      exact .tail _ (.tail _ (.head _))
    · rintro i x ys Hr Z K acc hx ⟨rfl, rfl⟩
      obtain ⟨p, hp, rfl⟩ : ∃ p, ls[i]? = some p ∧ AV.int p.1 = x := by simpa using hx
      have hlt := (List.getElem?_eq_some_iff.mp hp).1
      have hpm : p ∈ ls := List.mem_of_getElem? hp
      k_call_by "go" ()
      refine comp_inner ?_
      k_call_by "go" ()
      refine sub_idict (.pinI (by k_call_by "mem" ())) (x := .ref p.2) ?_ ?_
      · have := lookup_nd ndk hpm
        rw [lookR, this]; rfl
      refine ⟨_, _, fun j H' => H' = (K, .ns [("x", .int p.1)]) :: (acc, .list ((ls.take i).flatMap (fun p => (firsts (ch C p.1) []).map fun q => tupL [p.1, q.2, q.1]) ++ ((firsts (ch C p.1) []).take j).map fun q => tupL [p.1, q.2, q.1])) :: (a, .pidict (ls.map fun p => (p.1, .ref p.2)) ob) :: (L, .ns [("net", .ref N.a)]) :: (L + 1, .cell (some (.ref a))) :: T,
        Loop.list hA' (.inr ⟨_, _, _, rfl⟩) (.mem (.tail _ (.tail _ (.tail _ (.tail _ (.tail _ (hmem p hpm))))))), ?_, ?_, ?_, ?_⟩
      · show _ = _
        rw [List.take_zero, List.map_nil, List.append_nil]
      · rintro j H' rfl
        exact .mem (.tail _ (.tail _ (.tail _ (.tail _ (.tail _ (hmem p hpm))))))
      · rintro j x H' Z hx rfl
        obtain ⟨q, hq, rfl⟩ : ∃ q, (firsts (ch C p.1) [])[j]? = some q ∧ pairAV q = x := by simpa using hx
        refine AT_Tuple hA' rfl ?_ nm2
        simp only [ATs]
        k_call_by "s" ()
        k_call_by "s" ()
        k_call_by "s" ()
        k_call_by "s" ()
        refine Tr.post ?_
        k_call_by "go" ()
        refine ⟨by simp, _, Weak.ns (m' := [("x", .int p.1)]) .here (fun x v e => (look_app (r := [("b", .int q.1), ("y", .int q.2)]) e :)), _, _, .there .here, ?_, ?_⟩
        · have e1 := (sub_lines (f := fun p : Int × Addr => (firsts (ch C p.1) []).map fun q => tupL [p.1, q.2, q.1]) hp (j := j)).length_le
          have e2 : (ls.flatMap fun p => (firsts (ch C p.1) []).map fun q => tupL [p.1, q.2, q.1]).length = (linesOf N.dist C).length := by
            rw [elin]; simp only [List.length_flatMap, List.length_map]
          rw [← List.map_take] at e1
          omega
        · rw [List.take_add_one, hq]
          simp [tupL]
      · rintro H' rfl
        refine ⟨_, _, _, .refl _ _, ?_, rfl⟩
        rw [List.length_map, List.take_length, List.take_add_one, hp, List.flatMap_append]
        simp
    · rintro ys Hr acc ⟨rfl, rfl⟩
      k_call_by "go" ()
      refine b_sorted (L := L) (ls := linesOf N.dist C) (d := 2) (by k_call_by "mem" ()) (.mem ?_) (by simpa using h2) (by simpa using h63) ?_ ndl fun a' out hp ho => ?_
      · rw [elin]
        simp only [List.length_map, List.take_length, List.map_flatMap, List.map_map]
        exact .head _
      · intro l hl
        obtain ⟨p, hp, q, hq, rfl⟩ : ∃ p ∈ N.dist, ∃ q ∈ firsts (ch C p.1) [], [p.1, q.2, q.1] = l := by simpa [linesOf] using hl
        rfl
      · refine ⟨_, Weak.sub' (H' := (a', .list (List.map (fun x : List Int => AV.tup (List.map AV.int x)) out)) :: netH N (nodes ++ R)) (.cons_cons _ (.cons _ (.cons _ (.cons _ (.cons _ hT))))), h a' out hp ho⟩
end

end Mine
end
section
open PySem PySem.W PySem.Calls PyProof.Rows
set_option Elab.async false
set_option maxRecDepth 100000
set_option maxHeartbeats 4000000
set_option linter.unusedVariables false
namespace Mine
local macro_rules | `(tactic| k_call_by "bb" ()) => `(tactic| first | exact bb_len | exact bb_range | exact bb_isinstance | exact bb_all | exact bb_any | exact bb_int | exact bb_bool | exact bb_sorted | exact bb_min | exact bb_max | exact bb_dict | exact bb_set | exact bb_abs)
local macro_rules | `(tactic| k_call_by "bn" ()) => `(tactic| first | exact bn_len _ | exact bn_range _ | exact bn_isinstance _ | exact bn_all _ | exact bn_any _ | exact bn_int _ | exact bn_bool _ | exact bn_sorted _ | exact bn_min _ | exact bn_max _ | exact bn_dict _ | exact bn_set _ | exact bn_abs _)
local macro_rules | `(tactic| k_call_by "gv" ()) => `(tactic| first | exact gv_law_wide _ | exact gv_law_slim _ | exact gv_law_draw _ | exact gv_law_size _ | exact gv_law_plain _ | exact gv_law_lines _ | exact gv_law_rows _ | exact gv_law_border _ | exact gv_law_ways _ | exact gv_DeltaSimpleTemporalNetwork _ | exact gv_DeltaNeighbors _ | exact gv_deque _)
local macro_rules | `(tactic| k_call_by "mem" ()) => `(tactic| (repeat (first | with_unfolding_all exact List.Mem.head _ | with_unfolding_all apply List.Mem.tail)))
local macro_rules | `(tactic| k_call_by "get" ()) => `(tactic| (repeat (first | with_unfolding_all exact NGet.here | with_unfolding_all apply NGet.there (by with_unfolding_all exact rfl))))
local macro_rules | `(tactic| k_call_by "nput" ()) => `(tactic| (repeat (first | with_unfolding_all exact NPut.here | with_unfolding_all exact NPut.nil | with_unfolding_all apply NPut.there (by with_unfolding_all exact rfl))))
local macro_rules | `(tactic| k_call_by "put" ()) => `(tactic| (repeat (first | with_unfolding_all exact Put.here | with_unfolding_all apply Put.there)))
local macro_rules | `(tactic| k_call_by "rfl" ()) => `(tactic| with_unfolding_all exact rfl)
local macro_rules | `(tactic| k_call_by "name" ()) => `(tactic| (with_reducible refine isName ?_; first
  | with_reducible refine EV_local (by k_call_by "rfl" ()) (by k_call_by "mem" ()) (NGet.look (by k_call_by "get" ())) ?_
  | with_reducible refine EV_cell (by k_call_by "rfl" ()) (by k_call_by "rfl" ()) (by k_call_by "mem" ()) ?_
  | with_reducible refine EV_free (by k_call_by "rfl" ()) (by k_call_by "rfl" ()) (by k_call_by "mem" ()) ?_
  | with_reducible refine EV_builtin (nsK (by assumption) (by k_call_by "bn" ())) (by k_call_by "bb" ()) ?_
  | with_reducible refine EV_global (nsK (by assumption) (by k_call_by "gv" ())) (fun _ => .ref _) ?_
  | with_reducible refine EV_global (nsK (by assumption) (by k_call_by "gv" ())) (fun _ => .con _) ?_))
local macro_rules | `(tactic| k_call_by "set" ()) => `(tactic| (with_reducible refine isSet ?_; first
  | with_reducible refine SN_local (by k_call_by "rfl" ()) (by k_call_by "put" ()) (by k_call_by "nput" ()) ?_
  | with_reducible refine SN_cell (by k_call_by "rfl" ()) (by k_call_by "rfl" ()) (by k_call_by "put" ()) ?_))
local macro_rules | `(tactic| k_call_by "op" ()) => `(tactic| with_reducible first
  | refine op_add ?_
  | refine op_sub ?_
  | refine op_neg ?_
  | refine cmp_lt ?_
  | refine cmp_gt ?_
  | refine cmp_le ?_
  | refine cmp_ge ?_
  | refine cmp_eq ?_
  | refine cmp_ne ?_
  | refine tr_bool ?_
  | refine tr_int ?_
  | refine tr_none ?_)
local macro_rules | `(tactic| k_call_by "s" ()) => `(tactic| first
  | k_call_by "name" ()
  | with_reducible refine EX_If ?_
  | with_reducible refine EX_Return ?_
  | with_reducible refine EX_nil ?_
  | with_reducible refine EX_Continue ?_
  | with_reducible refine EX_Expr ?_
  | with_reducible refine EX_Assign ?_
  | with_reducible refine EX_AssignT ?_
  | with_reducible refine EX_AssignS ?_
  | with_reducible refine EX_AssignA ?_
  | with_reducible refine EV_int ?_
  | with_reducible refine EV_bool ?_
  | with_reducible refine EV_none ?_
  | with_reducible refine EV_BinOp ?_
  | with_reducible refine EV_UnaryOp ?_
  | with_reducible refine EB_Compare ?_
  | with_reducible refine EB_not ?_
  | with_reducible refine EB_and ?_
  | with_reducible refine EB_and_nil ?_
  | with_reducible refine EB_or ?_
  | with_reducible refine EB_or_nil ?_
  | with_reducible refine EV_Compare ?_
  | with_reducible refine EV_Sub ?_
  | with_reducible refine EV_IfExp ?_
  | with_reducible refine EV_Tuple ?_
  | with_reducible refine EV_List ?_
  | with_reducible refine EV_Call ?_
  | with_reducible refine EV_MCall ?_
  | with_reducible refine EV_Attr ?_
  | with_reducible refine EVs_cons ?_
  | with_reducible refine EVs_nil ?_
  | k_call_by "op" ()
  | k_call_by "set" ()
  | with_reducible refine AT_Name ?_
  | with_reducible refine EB_plain ?_
  | with_reducible refine okB ?_
  | with_reducible refine okT ?_
  | with_reducible refine okK (by assumption) (by k_call_by "rfl" ()) ?_)
local macro_rules | `(tactic| k_call_by "go" ()) => `(tactic| (repeat (k_call_by "s" ())))

local macro_rules | `(tactic| k_call_by "nc" ()) => `(tactic| (intro x e; cases e))
noncomputable def pr2 (p : Int × Int) : AV := .tup [.int p.1, .int p.2]
noncomputable def bR (rows : List (Int × Int)) (r : Nat) : List (List Int) :=
  [(r : Int) + 1, (rows.getD r (0, 0)).2, (r : Int), (rows.getD r (0, 0)).2 - 1] :: (if r + 1 < rows.length then
    (rangeL (rows.getD r (0, 0)).2 (rows.getD (r + 1) (0, 0)).2 1).map (fun c => [(r : Int) + 1, c + 1, (r : Int) + 1, c]) ++ (rangeL (rows.getD r (0, 0)).2 (rows.getD (r + 1) (0, 0)).2 (-1)).map (fun c => [(r : Int) + 1, c - 1, (r : Int), c - 1]) else [])
noncomputable def bL (rows : List (Int × Int)) (r : Nat) : List (List Int) :=
  [(r : Int), (rows.getD r (0, 0)).1, (r : Int), (rows.getD r (0, 0)).1] :: (if r = 0 then [] else
    (rangeL (rows.getD r (0, 0)).1 (rows.getD (r - 1) (0, 0)).1 1).map (fun c => [(r : Int), c + 1, (r : Int), c]) ++ (rangeL (rows.getD r (0, 0)).1 (rows.getD (r - 1) (0, 0)).1 (-1)).map (fun c => [(r : Int), c - 1, (r : Int) - 1, c - 1]))
noncomputable def borderOf (rows : List (Int × Int)) : List (List Int) :=
  (((rangeL (rows.getD 0 (0, 0)).1 (rows.getD 0 (0, 0)).2 1).map (fun c => [0, c + 1, 0, c]) ++ (List.range rows.length).flatMap (bR rows)) ++
    (rangeL (rows.getD (rows.length - 1) (0, 0)).2 (rows.getD (rows.length - 1) (0, 0)).1 (-1)).map (fun c => [(rows.length : Int), c - 1, (rows.length : Int) - 1, c - 1])) ++ (List.range rows.length).flatMap fun i => bL rows (rows.length - 1 - i)
theorem small_r {i j : Int} (hi : 0 ≤ i ∧ i ≤ 1000) (hj : 0 ≤ j ∧ j ≤ 1000) {k : Int} (hk : k = 1 ∨ k = -1) : Builtin.Range.small i j k = true ∧ 0 ≤ Builtin.Range.rangeSize i j k ∧ (rangeL i j k).length ≤ 1000 := by
  have h0 : 0 ≤ Builtin.Range.rangeSize i j k ∧ Builtin.Range.rangeSize i j k ≤ 1000 := by
    unfold Builtin.Range.rangeSize
    rcases hk with rfl | rfl
    · rw [if_pos (by decide)]
      split
      · rw [Int.ediv_one]; omega
      · omega
    · rw [if_neg (by decide)]
      split
      · rw [Int.neg_neg, Int.ediv_one]; omega
      · omega
  refine ⟨?_, h0.1, ?_⟩
  · have e1 : k.natAbs = 1 := by rcases hk with rfl | rfl <;> rfl
    have f : ∀ x : Int, -2000 ≤ x ∧ x ≤ 2000 → Builtin.Range.rangeFitsLong x = true := fun x hx => by
      unfold Builtin.Range.rangeFitsLong
      simp; omega
    unfold Builtin.Range.small
    rw [f _ (by omega), f _ (by omega), f _ (by omega), f _ (by omega)]
    simp only [Bool.and_self, Bool.true_and]
    rw [Bool.or_eq_true]
    refine .inr ?_
    split
    · exact f _ (by omega)
    · exact f _ (by omega)
  · simp [rangeL]; omega
theorem LCrange {c : Cx} {A : Around} {H : AHeap} {Ξ : List AV → AHeap → Addr → Prop} {n : Nat} {elt : Expr} {x : Str} {p : Pos} {cenv : Addr → Env} {ra : Addr} {i j k : Int} {f : Int → List Int} (hA : Ar A n) (hm : (ra, .range i j k) ∈ H) (hs : Builtin.Range.small i j k = true ∧ 0 ≤ Builtin.Range.rangeSize i j k ∧ (rangeL i j k).length ≤ 1000)
    (ha : ∀ x' C acc ys Z Ψ, Ψ ((C, .ns [(x, .int x')]) :: (acc, .list ys) :: H) → AT c A Z (cenv C) (.Name x p) (.int x') ((C, .ns []) :: (acc, .list ys) :: H) Ψ)
    (he : ∀ x' C acc ys Z (Ψ : AV → AHeap → Prop), Ψ (tupL (f x')) ((C, .ns [(x, .int x')]) :: (acc, .list ys) :: H) → EV c A Z (cenv C) elt ((C, .ns [(x, .int x')]) :: (acc, .list ys) :: H) Ψ)
    (h : ∀ acc, Ξ (((rangeL i j k).map f).map tupL) H acc) :
    ∃ (l : List AV) (D : AHeap → Prop) (I : Nat → List AV → AHeap → Prop), Loop c A (.Name x p) (.ref ra) H l D ∧ I 0 [] H ∧ (∀ i ys Hr C acc m, I i ys Hr → D ((C, .ns m) :: (acc, .list ys) :: Hr)) ∧
      LC1 c A cenv elt (.Name x p) l I ∧ ∀ ys Hr acc, I l.length ys Hr → Ξ ys Hr acc := by
  refine ⟨_, _, fun m ys Hr => ys = ((rangeL i j k).take m).map (fun x => tupL (f x)) ∧ Hr = H, Loop.range hA (.inl ⟨_, _, rfl⟩) hm hs.1 hs.2.1, ⟨rfl, rfl⟩, fun _ _ _ _ _ _ _ => trivial, ?_, ?_⟩
  · rintro m x' ys Hr Z C acc hx ⟨rfl, rfl⟩
    obtain ⟨y, hy, rfl⟩ : ∃ y, (rangeL i j k)[m]? = some y ∧ AV.int y = x' := by simpa using hx
    refine ha y C acc _ Z _ (he y C acc _ Z _ ⟨_, _, .refl _ _, ?_, ?_, rfl⟩)
    · have := hs.2.2
      simp only [List.length_map, List.length_take]; omega
    · rw [List.take_add_one, hy, List.map_append]; rfl
  · rintro ys Hr acc ⟨rfl, rfl⟩
    have := h acc
    rw [List.map_map] at this
    rw [List.length_map, List.take_length]; exact this
theorem AT.weak {c : Cx} {A : Around} {Z : List (Addr × Obj)} {env : Env} {t : Expr} {v : AV} {H H' : AHeap} {Φ : AHeap → Prop} (h : AT c A Z env t v H' Φ) (x : Weak c H H') : AT c A Z env t v H Φ := fun s v S r => h s v (x _ _ S) r
theorem rangeL_up (n : Nat) : rangeL 0 n 1 = (List.range n).map fun x : Nat => (x : Int) := by
  have e : (Builtin.Range.rangeSize 0 n 1).toNat = n := by
    unfold Builtin.Range.rangeSize
    rw [if_pos (by decide)]
    split
    · rw [Int.ediv_one]; omega
    · omega
  rw [rangeL, e]
  refine List.map_congr_left fun x _ => by omega
theorem rangeL_dn (n : Nat) : rangeL ((n : Int) - 1) (-1) (-1) = (List.range n).map fun x : Nat => (n : Int) - 1 - x := by
  have e : (Builtin.Range.rangeSize ((n : Int) - 1) (-1) (-1)).toNat = n := by
    unfold Builtin.Range.rangeSize
    rw [if_neg (by decide)]
    split
    · rw [Int.neg_neg, Int.ediv_one]; omega
    · omega
  rw [rangeL, e]
  refine List.map_congr_left fun x _ => by omega
theorem small_d {n : Nat} (hn : n ≤ 1000) : Builtin.Range.small ((n : Int) - 1) (-1) (-1) = true ∧ 0 ≤ Builtin.Range.rangeSize ((n : Int) - 1) (-1) (-1) := by
  have h0 : 0 ≤ Builtin.Range.rangeSize ((n : Int) - 1) (-1) (-1) ∧ Builtin.Range.rangeSize ((n : Int) - 1) (-1) (-1) ≤ 1000 := by
    unfold Builtin.Range.rangeSize
    rw [if_neg (by decide)]
    split
    · rw [Int.neg_neg, Int.ediv_one]; omega
    · omega
  have f : ∀ x : Int, -2000 ≤ x ∧ x ≤ 2000 → Builtin.Range.rangeFitsLong x = true := fun x hx => by
    unfold Builtin.Range.rangeFitsLong
    simp; omega
  refine ⟨?_, h0.1⟩
  unfold Builtin.Range.small
  rw [f _ (by omega), f _ (by omega), f _ (by omega), f _ (by omega)]
  simp only [Bool.and_self, Bool.true_and]
  rw [Bool.or_eq_true]
  exact .inr rfl
theorem flat_len {α β : Type} {f : α → List β} {l : List α} {m : Nat} (h : ∀ a ∈ l, (f a).length ≤ m) : (l.flatMap f).length ≤ m * l.length := by
  induction l with
  | nil => simp
  | cons a r ih =>
    have h1 := h a (.head _)
    have h2 := ih fun x hx => h x (.tail _ hx)
    simp only [List.flatMap_cons, List.length_append, List.length_cons, Nat.mul_add, Nat.mul_one]
    omega
section
variable (c : Cx) (hK : c.K = hd.heap_39 c.w.params)
include hK
variable {A : Around} {Z : List (Addr × Obj)} {Φ : AV → AHeap → Prop} {n : Nat} {H : AHeap}
theorem s_border (hA : Ar A (n + 1)) {ra : Addr} {rows : List (Int × Int)} (hr : Rd c H ra (.list (rows.map pr2))) (h1 : 1 ≤ rows.length) (hz : rows.length ≤ 100) (hb : ∀ p ∈ rows, (0 ≤ p.1 ∧ p.1 ≤ 1000) ∧ 0 ≤ p.2 ∧ p.2 ≤ 1000)
    (h : ∀ a, Φ (.ref a) ((a, .list ((borderOf rows).map tupL)) :: H)) : CodeT c A Z (.ref 244) [.ref ra] [] H Φ := by
  have hg : ∀ i, i < rows.length → rows[i]? = some (rows.getD i (0, 0)) := fun i hi => by simp [List.getD, hi]
  have hgb : ∀ i, (0 ≤ (rows.getD i (0, 0)).1 ∧ (rows.getD i (0, 0)).1 ≤ 1000) ∧ 0 ≤ (rows.getD i (0, 0)).2 ∧ (rows.getD i (0, 0)).2 ≤ 1000 := fun i => by
    by_cases hi : i < rows.length
    · exact hb _ (List.mem_of_getElem? (hg i hi))
    · simp [List.getD, hi]
  have sub : ∀ {A : Around} {Z : List (Addr × Obj)} {H' : AHeap} {Φ : AV → AHeap → Prop} {v sl : Expr} {i : Int} (_ : 0 ≤ i) (_ : i.toNat < rows.length) (_ : Rd c H' ra (.list (rows.map pr2))) (_ : Φ (pr2 (rows.getD i.toNat (0, 0))) H') (_ : ∀ t, subscripted sl false (.ref ra) (.int i t) = operate [.ref ra, .int i t] (getItem (.ref ra) (.int i t))), Op2 c A Z (subscriptTail v sl) VR (.ref ra) (.int i) H' Φ := fun h0 hi hr hΦ hs =>
    sub_list hr h0 (by rw [List.getElem?_map, hg _ hi]; rfl) (by omega) hΦ hs
  refine .own [("tall", none), ("r", none)] [("rows", .ref ra)] [("rows", .ref ra)] hA (lkK hK (by rfl)) (cdK hK (by rfl)) (fun Z s vs kv S r1 r2 => ?_) (fun L A' hA' => ?_)
  · obtain ⟨v, rfl, rv⟩ := r1.one
    cases r2
    exact binds_now rfl (.cons ⟨rfl, rv⟩ .nil)
  · show EX c A' Z _ _ ((L, .ns [("rows", .ref ra)]) :: (L + 1, .cell none) :: (L + 2, .cell none) :: H) _
    k_call_by "go" ()
    refine b_len_list (.cons (.cons (.cons hr))) (by simp; omega) ?_
    rw [List.length_map]
    k_call_by "go" ()
    refine EX_AssignLC1 [] ?_
    k_call_by "go" ()
    refine sub (by decide) (by show 0 < _; omega) (.cons (.cons (.cons hr))) ?_ (by intro _; rfl)
    k_call_by "go" ()
    have g0 := hgb 0
    refine sub_tup (by decide) (x := .int (rows.getD 0 (0, 0)).1) (by rfl) (by decide) ?_
    k_call_by "go" ()
    refine sub (by decide) (by show 0 < _; omega) (.cons (.cons (.cons hr))) ?_ (by intro _; rfl)
    k_call_by "go" ()
    refine sub_tup (by decide) (x := .int (rows.getD 0 (0, 0)).2) (by rfl) (by decide) ?_
    k_call_by "go" ()
    refine b_range2 fun r0 => ?_
    refine LCrange (f := fun c => [0, c + 1, 0, c]) hA' (.head _) (small_r g0.1 g0.2 (.inl rfl)) ?_ ?_ fun st => ?_
    · intro x' C acc ys Z Ψ hΨ
      k_call_by "go" ()
      exact hΨ
    · intro x' C acc ys Z Ψ hΨ
      k_call_by "go" ()
      exact ⟨by simp, hΨ⟩
    k_call_by "go" ()
    refine ⟨_, _, _, .there .here, by k_call_by "nput" (), ?_⟩
    generalize hP0 : ((rangeL (rows.getD 0 (0, 0)).1 (rows.getD 0 (0, 0)).2 1).map fun c => [0, c + 1, 0, c]) = P0
    have hP0l : P0.length ≤ 1000 := by rw [← hP0, List.length_map]; exact (small_r g0.1 g0.2 (.inl rfl)).2.2
    refine EX_For ?_
    k_call_by "go" ()
    refine b_range1 fun r1 => ?_
    have hbl : ∀ r, (bR rows r).length ≤ 2001 := fun r => by
      have g1 := hgb r
      have g2 := hgb (r + 1)
      unfold bR
      rw [List.length_cons]
      split
      · have e1 := (small_r g1.2 g2.2 (.inl rfl)).2.2
        have e2 := (small_r g1.2 g2.2 (.inr rfl)).2.2
        simp only [List.length_append, List.length_map]; omega
      · simp
    have hfl : ∀ m, m ≤ rows.length → ((List.range m).flatMap (bR rows)).length ≤ 200100 := fun m hm => by
      have := flat_len (f := bR rows) (l := List.range m) (m := 2001) (fun a _ => hbl a)
      rw [List.length_range] at this
      omega
    refine ⟨_, _, fun i H' => ∃ rv, Weak c H' ((st, .list ((P0 ++ (List.range i).flatMap (bR rows)).map tupL)) :: (L, .ns [("rows", .ref ra), ("steps", .ref st)]) :: (L + 1, .cell (some (.int rows.length))) :: (L + 2, .cell rv) :: H), Loop.range hA' (.inl ⟨_, _, rfl⟩) (.head _) ?_ ?_, ?_, fun _ _ _ => trivial, ?_, ?_⟩
    · exact (small_r (i := 0) (j := rows.length) (by omega) (by omega) (.inl rfl)).1
    · exact (small_r (i := 0) (j := rows.length) (by omega) (by omega) (.inl rfl)).2.1
    · exact ⟨none, by simp only [List.range_zero, List.flatMap_nil, List.append_nil]; exact Weak.sub' (.cons _ (.cons_cons _ (.cons _ (List.Sublist.refl _))))⟩
    · rintro i x H' Z hx ⟨rv, wk⟩
      obtain ⟨hi, rfl⟩ : i < rows.length ∧ AV.int i = x := by
        rw [rangeL_up] at hx
        obtain ⟨j, hj, rfl⟩ : ∃ a, (List.range rows.length)[i]? = some a ∧ AV.int a = x := by simpa using hx
        obtain ⟨h1, h2⟩ := List.getElem?_eq_some_iff.mp hj
        rw [List.getElem_range] at h2
        rw [List.length_range] at h1
        exact ⟨h1, by rw [h2]⟩
      have hf1 := hfl i (by omega)
      refine AT.weak ?_ wk
      k_call_by "go" ()
      refine sub (by omega) (by simpa using hi) (.cons (.cons (.cons (.cons hr)))) ?_ (by intro _; rfl)
      k_call_by "go" ()
      have g1 := hgb i
      refine sub_tup (by decide) (x := .int (rows.getD i (0, 0)).2) (by rfl) (by decide) ?_
      k_call_by "go" ()
      refine GM_builtin (by k_call_by "mem" ()) (fun _ x => own_list x) F.plainAttrs_list F.slot_list_append F.type_list_append ?_
      k_call_by "go" ()
      refine ⟨by simp, ?_⟩
      k_call_by "go" ()
      refine m_append (by k_call_by "put" ()) (by simp only [List.length_map, List.length_append, List.length_cons, List.length_nil]; omega) ?_
      k_call_by "go" ()
      have g2 := hgb (i + 1)
      have hbi := hbl i
      have fin : ∀ (mm : List (Str × AV)) (M : AHeap) (W : List AV), W = (bR rows i).map tupL → 
          ∃ rv, Weak c (M ++ (st, .list ((P0 ++ (List.range i).flatMap (bR rows)).map tupL ++ W)) :: (L, .ns (("rows", .ref ra) :: ("steps", .ref st) :: mm)) :: (L + 1, .cell (some (.int rows.length))) :: (L + 2, .cell (some (.int i))) :: H) ((st, .list ((P0 ++ (List.range (i + 1)).flatMap (bR rows)).map tupL)) :: (L, .ns [("rows", .ref ra), ("steps", .ref st)]) :: (L + 1, .cell (some (.int rows.length))) :: (L + 2, .cell rv) :: H) := fun mm M W hW => by
        refine ⟨some (.int i), Weak.trans (Weak.sub' (List.sublist_append_right _ _)) ?_⟩
        rw [hW, ← List.map_append, List.append_assoc]
        have : (List.range i).flatMap (bR rows) ++ bR rows i = (List.range (i + 1)).flatMap (bR rows) := by rw [List.range_succ]; simp
        rw [this]
        exact Weak.ns (.there .here) fun x v e => (look_app (l := [("rows", .ref ra), ("steps", .ref st)]) (r := mm) e :)
      split
      · rename_i hlt
        have hlt' : i + 1 < rows.length := by have := of_decide_eq_true hlt; omega
        k_call_by "go" ()
        refine sub (by omega) (by show (((i : Int) + 1)).toNat < _; omega) (.cons (.cons (.cons (.cons hr)))) ?_ (by intro _; rfl)
        have e1 : ((i : Int) + 1).toNat = i + 1 := by omega
        rw [e1]
        k_call_by "go" ()
        refine sub_tup (by decide) (x := .int (rows.getD (i + 1) (0, 0)).2) (by rfl) (by decide) ?_
        k_call_by "go" ()
        refine GM_builtin (by k_call_by "mem" ()) (fun _ x => own_list x) F.plainAttrs_list F.slot_list_extend F.type_list_extend ?_
        k_call_by "go" ()
        refine EV_LC1 [("r", L + 2)] ?_
        k_call_by "go" ()
        refine b_range2 fun r2 => ?_
        refine LCrange (f := fun c => [(i : Int) + 1, c + 1, (i : Int) + 1, c]) hA' (.head _) (small_r g1.2 g2.2 (.inl rfl)) ?_ ?_ fun s2 => ?_
        · intro x' C acc ys Z Ψ hΨ
          k_call_by "go" ()
          exact hΨ
        · intro x' C acc ys Z Ψ hΨ
          k_call_by "go" ()
          exact ⟨by simp, hΨ⟩
        have e2 := (small_r g1.2 g2.2 (.inl rfl)).2.2
        have e3 := (small_r g1.2 g2.2 (.inr rfl)).2.2
        k_call_by "go" ()
        refine m_extend (by k_call_by "put" ()) (.mem (by k_call_by "mem" ())) (by simp only [List.length_map, List.length_append, List.length_cons, List.length_nil]; omega) ?_
        k_call_by "go" ()
        refine GM_builtin (by k_call_by "mem" ()) (fun _ x => own_list x) F.plainAttrs_list F.slot_list_extend F.type_list_extend ?_
        k_call_by "go" ()
        refine EV_LC1 [("r", L + 2)] ?_
        k_call_by "go" ()
        refine b_range3 (by decide) (by decide) fun r3 => ?_
        refine LCrange (f := fun c => [(i : Int) + 1, c - 1, (i : Int), c - 1]) hA' (.head _) (small_r g1.2 g2.2 (.inr rfl)) ?_ ?_ fun s3 => ?_
        · intro x' C acc ys Z Ψ hΨ
          k_call_by "go" ()
          exact hΨ
        · intro x' C acc ys Z Ψ hΨ
          k_call_by "go" ()
          exact ⟨by simp, hΨ⟩
        k_call_by "go" ()
        refine m_extend (by k_call_by "put" ()) (.mem (by k_call_by "mem" ())) (by simp only [List.length_map, List.length_append, List.length_cons, List.length_nil]; omega) ?_
        k_call_by "go" ()
        simp only [List.append_assoc]
        refine fin [("here", _), ("there", _)] [(_, _), (_, _), (_, _), (_, _)] _ ?_
        unfold bR
        rw [if_pos hlt']
        simp [tupL]
      · rename_i hlt
        have hlt' : ¬ i + 1 < rows.length := fun q => hlt (decide_eq_true (by omega))
        k_call_by "go" ()
        refine fin [("here", _)] [] _ ?_
        unfold bR
        rw [if_neg hlt']
        simp [tupL]
    · rintro H' ⟨rv, wk⟩
      have hlen : ((rangeL 0 rows.length 1).map AV.int).length = rows.length := by rw [rangeL_up]; simp
      rw [hlen] at wk
      refine Tr.weak ?_ wk
      have hf1 := hfl rows.length (Nat.le_refl _)
      generalize hP1 : (List.range rows.length).flatMap (bR rows) = P1 at hf1 ⊢
      clear hfl hbl
      have gl := hgb (rows.length - 1)
      k_call_by "go" ()
      have hneg : ∀ {A : Around} {Z : List (Addr × Obj)} {H' : AHeap} {Φ : AV → AHeap → Prop} {v sl : Expr} (_ : Rd c H' ra (.list (rows.map pr2))) (_ : Φ (pr2 (rows.getD (rows.length - 1) (0, 0))) H') (_ : ∀ t, subscripted sl false (.ref ra) (.int (-1) t) = operate [.ref ra, .int (-1) t] (getItem (.ref ra) (.int (-1) t))), Op2 c A Z (subscriptTail v sl) VR (.ref ra) (.int (-1)) H' Φ := fun hr hΦ hs =>
        sub_list_neg hr (by decide) (by simp; omega) (by
          rw [List.length_map, List.getElem?_map]
          have : ((-1 : Int) + rows.length).toNat = rows.length - 1 := by omega
          rw [this, hg _ (by omega)]; rfl) (by decide) hΦ hs
      refine GM_builtin (by k_call_by "mem" ()) (fun _ x => own_list x) F.plainAttrs_list F.slot_list_extend F.type_list_extend ?_
      k_call_by "go" ()
      refine EV_LC1 [("tall", L + 1)] ?_
      k_call_by "go" ()
      refine hneg (.cons (.cons (.cons (.cons hr)))) ?_ (by intro _; rfl)
      k_call_by "go" ()
      refine sub_tup (by decide) (x := .int (rows.getD (rows.length - 1) (0, 0)).2) (by rfl) (by decide) ?_
      k_call_by "go" ()
      refine hneg (.cons (.cons (.cons (.cons hr)))) ?_ (by intro _; rfl)
      k_call_by "go" ()
      refine sub_tup (by decide) (x := .int (rows.getD (rows.length - 1) (0, 0)).1) (by rfl) (by decide) ?_
      k_call_by "go" ()
      refine b_range3 (by decide) (by decide) fun r4 => ?_
      have el := (small_r gl.2 gl.1 (.inr rfl)).2.2
      refine LCrange (f := fun c => [(rows.length : Int), c - 1, (rows.length : Int) - 1, c - 1]) hA' (.head _) (small_r gl.2 gl.1 (.inr rfl)) ?_ ?_ fun s4 => ?_
      · intro x' C acc ys Z Ψ hΨ
        k_call_by "go" ()
        exact hΨ
      · intro x' C acc ys Z Ψ hΨ
        k_call_by "go" ()
        exact ⟨by simp, hΨ⟩
      k_call_by "go" ()
      refine m_extend (by k_call_by "put" ()) (.mem (by k_call_by "mem" ())) (by simp only [List.length_map, List.length_append, List.length_cons, List.length_nil]; omega) ?_
      generalize hP2 : ((rangeL (rows.getD (rows.length - 1) (0, 0)).2 (rows.getD (rows.length - 1) (0, 0)).1 (-1)).map fun c => [(rows.length : Int), c - 1, (rows.length : Int) - 1, c - 1]) = P2
      have hP2l : P2.length ≤ 1000 := by rw [← hP2, List.length_map]; exact el
      refine EX_For ?_
      k_call_by "go" ()
      refine b_range3 (by decide) (by decide) fun r5 => ?_
      have hbl : ∀ r, (bL rows r).length ≤ 2001 := fun r => by
        have g1 := hgb r
        have g2 := hgb (r - 1)
        unfold bL
        rw [List.length_cons]
        split
        · simp
        · have e1 := (small_r g1.1 g2.1 (.inl rfl)).2.2
          have e2 := (small_r g1.1 g2.1 (.inr rfl)).2.2
          simp only [List.length_append, List.length_map]; omega
      have hfl : ∀ m, m ≤ rows.length → ((List.range m).flatMap fun i => bL rows (rows.length - 1 - i)).length ≤ 200100 := fun m hm => by
        have := flat_len (f := fun i => bL rows (rows.length - 1 - i)) (l := List.range m) (m := 2001) (fun a _ => hbl _)
        rw [List.length_range] at this
        omega
      have hsm : Builtin.Range.small ((rows.length : Int) - 1) (-1) (-1) = true ∧ 0 ≤ Builtin.Range.rangeSize ((rows.length : Int) - 1) (-1) (-1) := small_d (by omega)
      refine ⟨_, _, fun i H' => ∃ rv, Weak c H' ((st, .list (((P0 ++ P1) ++ P2 ++ (List.range i).flatMap fun i => bL rows (rows.length - 1 - i)).map tupL)) :: (L, .ns [("rows", .ref ra), ("steps", .ref st)]) :: (L + 1, .cell (some (.int rows.length))) :: (L + 2, .cell rv) :: H), Loop.range hA' (.inl ⟨_, _, rfl⟩) (.head _) hsm.1 hsm.2, ?_, fun _ _ _ => trivial, ?_, ?_⟩
      · refine ⟨rv, Weak.trans (Weak.sub' (.cons _ (.cons _ (.cons _ (List.Sublist.refl _))))) ?_⟩
        simp only [List.range_zero, List.flatMap_nil, List.append_nil, List.map_append]
        exact .refl _ _
      · rintro i x H' Z hx ⟨rv, wk⟩
        obtain ⟨hi, rfl⟩ : i < rows.length ∧ AV.int ((rows.length - 1 - i : Nat) : Int) = x := by
          rw [rangeL_dn] at hx
          obtain ⟨j, hj, rfl⟩ : ∃ a, (List.range rows.length)[i]? = some a ∧ AV.int ((rows.length : Int) - 1 - a) = x := by simpa using hx
          obtain ⟨h1, h2⟩ := List.getElem?_eq_some_iff.mp hj
          rw [List.getElem_range] at h2
          rw [List.length_range] at h1
          subst h2
          exact ⟨h1, by congr 1; omega⟩
        have hf2 := hfl i (by omega)
        refine AT.weak ?_ wk
        have hbi := hbl (rows.length - 1 - i)
        have fin : ∀ (mm : List (Str × AV)) (M : AHeap) (W : List AV), W = (bL rows (rows.length - 1 - i)).map tupL → 
            ∃ rv, Weak c (M ++ (st, .list (((P0 ++ P1) ++ P2 ++ (List.range i).flatMap fun i => bL rows (rows.length - 1 - i)).map tupL ++ W)) :: (L, .ns (("rows", .ref ra) :: ("steps", .ref st) :: mm)) :: (L + 1, .cell (some (.int rows.length))) :: (L + 2, .cell (some (.int (rows.length - 1 - i : Nat)))) :: H) ((st, .list (((P0 ++ P1) ++ P2 ++ (List.range (i + 1)).flatMap fun i => bL rows (rows.length - 1 - i)).map tupL)) :: (L, .ns [("rows", .ref ra), ("steps", .ref st)]) :: (L + 1, .cell (some (.int rows.length))) :: (L + 2, .cell rv) :: H) := fun mm M W hW => by
          refine ⟨some (.int (rows.length - 1 - i : Nat)), Weak.trans (Weak.sub' (List.sublist_append_right _ _)) ?_⟩
          rw [hW, ← List.map_append, List.append_assoc _ _ (bL rows (rows.length - 1 - i))]
          have : ((List.range i).flatMap fun i => bL rows (rows.length - 1 - i)) ++ bL rows (rows.length - 1 - i) = (List.range (i + 1)).flatMap fun i => bL rows (rows.length - 1 - i) := by rw [List.range_succ]; simp
          rw [this]
          exact Weak.ns (.there .here) fun x v e => (look_app (l := [("rows", .ref ra), ("steps", .ref st)]) (r := mm) e :)
        generalize hr' : rows.length - 1 - i = r at hbi fin ⊢
        have hrl : r < rows.length := by omega
        k_call_by "go" ()
        refine sub (by omega) (by simpa using hrl) (.cons (.cons (.cons (.cons hr)))) ?_ (by intro _; rfl)
        k_call_by "go" ()
        have g1 := hgb r
        refine sub_tup (by decide) (x := .int (rows.getD r (0, 0)).1) (by rfl) (by decide) ?_
        k_call_by "go" ()
        refine GM_builtin (by k_call_by "mem" ()) (fun _ x => own_list x) F.plainAttrs_list F.slot_list_append F.type_list_append ?_
        k_call_by "go" ()
        refine ⟨by simp, ?_⟩
        k_call_by "go" ()
        refine m_append (by k_call_by "put" ()) (by simp only [List.length_map, List.length_append, List.length_cons, List.length_nil]; omega) ?_
        k_call_by "go" ()
        have g2 := hgb (r - 1)
        by_cases h0 : r = 0
        · rw [if_neg (by simp [h0])]
          k_call_by "go" ()
          refine fin [("here", _)] [] _ ?_
          unfold bL
          rw [if_pos h0]
          simp [tupL]
        · rw [if_pos (by simp [h0])]
          k_call_by "go" ()
          have e1 : ((r : Int) - 1).toNat = r - 1 := by omega
          refine sub (by omega) (by omega) (.cons (.cons (.cons (.cons hr)))) ?_ (by intro _; rfl)
          rw [e1]
          k_call_by "go" ()
          refine sub_tup (by decide) (x := .int (rows.getD (r - 1) (0, 0)).1) (by rfl) (by decide) ?_
          k_call_by "go" ()
          refine GM_builtin (by k_call_by "mem" ()) (fun _ x => own_list x) F.plainAttrs_list F.slot_list_extend F.type_list_extend ?_
          k_call_by "go" ()
          refine EV_LC1 [("r", L + 2)] ?_
          k_call_by "go" ()
          refine b_range2 fun r6 => ?_
          refine LCrange (f := fun c => [(r : Int), c + 1, (r : Int), c]) hA' (.head _) (small_r g1.1 g2.1 (.inl rfl)) ?_ ?_ fun s2 => ?_
          · intro x' C acc ys Z Ψ hΨ
            k_call_by "go" ()
            exact hΨ
          · intro x' C acc ys Z Ψ hΨ
            k_call_by "go" ()
            exact ⟨by simp, hΨ⟩
          have e2 := (small_r g1.1 g2.1 (.inl rfl)).2.2
          have e3 := (small_r g1.1 g2.1 (.inr rfl)).2.2
          k_call_by "go" ()
          refine m_extend (by k_call_by "put" ()) (.mem (by k_call_by "mem" ())) (by simp only [List.length_map, List.length_append, List.length_cons, List.length_nil]; omega) ?_
          k_call_by "go" ()
          refine GM_builtin (by k_call_by "mem" ()) (fun _ x => own_list x) F.plainAttrs_list F.slot_list_extend F.type_list_extend ?_
          k_call_by "go" ()
          refine EV_LC1 [("r", L + 2)] ?_
          k_call_by "go" ()
          refine b_range3 (by decide) (by decide) fun r7 => ?_
          refine LCrange (f := fun c => [(r : Int), c - 1, (r : Int) - 1, c - 1]) hA' (.head _) (small_r g1.1 g2.1 (.inr rfl)) ?_ ?_ fun s3 => ?_
          · intro x' C acc ys Z Ψ hΨ
            k_call_by "go" ()
            exact hΨ
          · intro x' C acc ys Z Ψ hΨ
            k_call_by "go" ()
            exact ⟨by simp, hΨ⟩
          k_call_by "go" ()
          refine m_extend (by k_call_by "put" ()) (.mem (by k_call_by "mem" ())) (by simp only [List.length_map, List.length_append, List.length_cons, List.length_nil]; omega) ?_
          k_call_by "go" ()
          simp only [List.append_assoc (List.map tupL _)]
          refine fin [("here", _), ("there", _)] [(_, _), (_, _), (_, _), (_, _)] _ ?_
          unfold bL
          rw [if_neg h0]
          simp [tupL]
      · rintro H' ⟨rv, wk⟩
        have hlen : ((rangeL ((rows.length : Int) - 1) (-1) (-1)).map AV.int).length = rows.length := by rw [rangeL_dn]; simp
        rw [hlen] at wk
        refine Tr.weak ?_ wk
        k_call_by "go" ()
        refine ⟨_, Weak.sub' (.cons_cons _ (.cons _ (.cons _ (.cons _ (List.Sublist.refl _))))), ?_⟩
        have : ((P0 ++ P1) ++ P2 ++ (List.range rows.length).flatMap fun i => bL rows (rows.length - 1 - i)) = borderOf rows := by
          rw [← hP0, ← hP1, ← hP2]; rfl
        rw [this]
        exact h st
end

end Mine
end
section
open PySem PySem.W PySem.Calls PyProof.Rows
set_option Elab.async false
set_option maxRecDepth 100000
set_option maxHeartbeats 4000000
set_option linter.unusedVariables false
namespace Mine
local macro_rules | `(tactic| k_call_by "bb" ()) => `(tactic| first | exact bb_len | exact bb_range | exact bb_isinstance | exact bb_all | exact bb_any | exact bb_int | exact bb_bool | exact bb_sorted | exact bb_min | exact bb_max | exact bb_dict | exact bb_set | exact bb_abs)
local macro_rules | `(tactic| k_call_by "bn" ()) => `(tactic| first | exact bn_len _ | exact bn_range _ | exact bn_isinstance _ | exact bn_all _ | exact bn_any _ | exact bn_int _ | exact bn_bool _ | exact bn_sorted _ | exact bn_min _ | exact bn_max _ | exact bn_dict _ | exact bn_set _ | exact bn_abs _)
local macro_rules | `(tactic| k_call_by "gv" ()) => `(tactic| first | exact gv_law_wide _ | exact gv_law_slim _ | exact gv_law_draw _ | exact gv_law_size _ | exact gv_law_plain _ | exact gv_law_lines _ | exact gv_law_rows _ | exact gv_law_border _ | exact gv_law_ways _ | exact gv_DeltaSimpleTemporalNetwork _ | exact gv_DeltaNeighbors _ | exact gv_deque _)
local macro_rules | `(tactic| k_call_by "mem" ()) => `(tactic| (repeat (first | with_unfolding_all exact List.Mem.head _ | with_unfolding_all apply List.Mem.tail)))
local macro_rules | `(tactic| k_call_by "get" ()) => `(tactic| (repeat (first | with_unfolding_all exact NGet.here | with_unfolding_all apply NGet.there (by with_unfolding_all exact rfl))))
local macro_rules | `(tactic| k_call_by "nput" ()) => `(tactic| (repeat (first | with_unfolding_all exact NPut.here | with_unfolding_all exact NPut.nil | with_unfolding_all apply NPut.there (by with_unfolding_all exact rfl))))
local macro_rules | `(tactic| k_call_by "put" ()) => `(tactic| (repeat (first | with_unfolding_all exact Put.here | with_unfolding_all apply Put.there)))
local macro_rules | `(tactic| k_call_by "rfl" ()) => `(tactic| with_unfolding_all exact rfl)
local macro_rules | `(tactic| k_call_by "name" ()) => `(tactic| (with_reducible refine isName ?_; first
  | with_reducible refine EV_local (by k_call_by "rfl" ()) (by k_call_by "mem" ()) (NGet.look (by k_call_by "get" ())) ?_
  | with_reducible refine EV_cell (by k_call_by "rfl" ()) (by k_call_by "rfl" ()) (by k_call_by "mem" ()) ?_
  | with_reducible refine EV_free (by k_call_by "rfl" ()) (by k_call_by "rfl" ()) (by k_call_by "mem" ()) ?_
  | with_reducible refine EV_builtin (nsK (by assumption) (by k_call_by "bn" ())) (by k_call_by "bb" ()) ?_
  | with_reducible refine EV_global (nsK (by assumption) (by k_call_by "gv" ())) (fun _ => .ref _) ?_
  | with_reducible refine EV_global (nsK (by assumption) (by k_call_by "gv" ())) (fun _ => .con _) ?_))
local macro_rules | `(tactic| k_call_by "set" ()) => `(tactic| (with_reducible refine isSet ?_; first
  | with_reducible refine SN_local (by k_call_by "rfl" ()) (by k_call_by "put" ()) (by k_call_by "nput" ()) ?_
  | with_reducible refine SN_cell (by k_call_by "rfl" ()) (by k_call_by "rfl" ()) (by k_call_by "put" ()) ?_))
local macro_rules | `(tactic| k_call_by "op" ()) => `(tactic| with_reducible first
  | refine op_add ?_
  | refine op_sub ?_
  | refine op_neg ?_
  | refine cmp_lt ?_
  | refine cmp_gt ?_
  | refine cmp_le ?_
  | refine cmp_ge ?_
  | refine cmp_eq ?_
  | refine cmp_ne ?_
  | refine tr_bool ?_
  | refine tr_int ?_
  | refine tr_none ?_)
local macro_rules | `(tactic| k_call_by "s" ()) => `(tactic| first
  | k_call_by "name" ()
  | with_reducible refine EX_If ?_
  | with_reducible refine EX_Return ?_
  | with_reducible refine EX_nil ?_
  | with_reducible refine EX_Continue ?_
  | with_reducible refine EX_Expr ?_
  | with_reducible refine EX_Assign ?_
  | with_reducible refine EX_AssignT ?_
  | with_reducible refine EX_AssignS ?_
  | with_reducible refine EX_AssignA ?_
  | with_reducible refine EV_int ?_
  | with_reducible refine EV_bool ?_
  | with_reducible refine EV_none ?_
  | with_reducible refine EV_BinOp ?_
  | with_reducible refine EV_UnaryOp ?_
  | with_reducible refine EB_Compare ?_
  | with_reducible refine EB_not ?_
  | with_reducible refine EB_and ?_
  | with_reducible refine EB_and_nil ?_
  | with_reducible refine EB_or ?_
  | with_reducible refine EB_or_nil ?_
  | with_reducible refine EV_Compare ?_
  | with_reducible refine EV_Sub ?_
  | with_reducible refine EV_IfExp ?_
  | with_reducible refine EV_Tuple ?_
  | with_reducible refine EV_List ?_
  | with_reducible refine EV_Call ?_
  | with_reducible refine EV_MCall ?_
  | with_reducible refine EV_Attr ?_
  | with_reducible refine EVs_cons ?_
  | with_reducible refine EVs_nil ?_
  | k_call_by "op" ()
  | k_call_by "set" ()
  | with_reducible refine AT_Name ?_
  | with_reducible refine EB_plain ?_
  | with_reducible refine okB ?_
  | with_reducible refine okT ?_
  | with_reducible refine okK (by assumption) (by k_call_by "rfl" ()) ?_)
local macro_rules | `(tactic| k_call_by "go" ()) => `(tactic| (repeat (k_call_by "s" ())))

local macro_rules | `(tactic| k_call_by "nc" ()) => `(tactic| (intro x e; cases e))
noncomputable def fdAt (K : Frag) (f : Addr) : FuncData := match K.lookup f with
  | some ⟨_, _, .func fd, _⟩ => fd
  | _ => default
noncomputable def stmtsOf : FuncBody → List Stmt
  | .stmts b => b
  | _ => []
noncomputable def lawBodyX : { b : List Stmt // ∀ p, stmtsOf (fdAt (hd.heap_39 p) 256).body = b } := by
  refine ⟨?b, fun p => ?h⟩
  case h =>
    conv => lhs; whnf

noncomputable def lawScopeX : { b : Scope // ∀ p, (fdAt (hd.heap_39 p) 256).scope = b } := by
  refine ⟨?b, fun p => ?h⟩
  case h =>
    conv => lhs; whnf

noncomputable abbrev lawBody : List Stmt := lawBodyX.1
noncomputable abbrev lawEnv (L : Addr) : Env := envK "law" lawScopeX.1 L 256 (.ref 255)

noncomputable abbrev frL (L : Addr) (m : List (Str × AV)) (c1 c2 c3 c4 : Option AV) (R : AHeap) : AHeap := (L, .ns m) :: (L + 1, .cell c1) :: (L + 1 + 1, .cell c2) :: (L + 1 + 1 + 1, .cell c3) :: (L + 1 + 1 + 1 + 1, .cell c4) :: R
theorem EV_IfExpJ {c : Cx} {A : Around} {Z : List (Addr × Obj)} {H : AHeap} {env : Env} {Φ : AV → AHeap → Prop} {t b o pos} (J : AV → AHeap → Prop)
    (h : EB c A Z env t H fun q H₁ => if q = true then EV c A Z env b H₁ J else EV c A Z env o H₁ J) (k : ∀ v H', J v H' → Φ v H') : EV c A Z env (.IfExp t b o pos) H Φ := Tr.mono (EV_IfExp h) k
theorem Weak.dropNs {c : Cx} {H H' : AHeap} {a : Addr} {m r : List (Str × AV)} (p : Put a (.ns (m ++ r)) (.ns m) H H') : Weak c H H' := Weak.ns p fun x v e => look_app e
/-- the law's body from the k-th statement on -/
structure LawAt (c : Cx) (A : Around) (Z : List (Addr × Obj)) (L : Addr) (k : Nat) (H : AHeap) (Φ : AF → AHeap → Prop) : Prop where
  out : EX c A Z (lawEnv L) (lawBody.drop k) H Φ
theorem LawAt.go {c : Cx} {A Z L H Φ} {b : List Stmt} (k : Nat) (h : LawAt c A Z L k H Φ) (hb : b = lawBody.drop k := by with_unfolding_all exact rfl) : EX c A Z (lawEnv L) b H Φ := by
  subst hb
  cases h with | mk h => exact h
theorem LawAt.of {c : Cx} {A Z L k H Φ} {b : List Stmt} (hb : lawBody.drop k = b) (h : EX c A Z (lawEnv L) b H Φ) : LawAt c A Z L k H Φ := by
  subst hb; exact ⟨h⟩
theorem LawAt.weak {c : Cx} {A Z L k H H' Φ} (h : LawAt c A Z L k H' Φ) (w : Weak c H H') : LawAt c A Z L k H Φ := by
  cases h with | mk h => exact ⟨Tr.weak h w⟩
noncomputable def wideL : List Int := [2, 4, 3, 1, 4, 2]
noncomputable def slimL : List Int := [2, 3, 2, 1, 3, 2]
noncomputable def lastD (rows : List (Int × Int)) : Int × Int := rows.getD (rows.length - 1) (0, 0)
noncomputable def widthOf (ns : List Int) (tall : Nat) (r : Nat) : Int := (if tall = 3 then wideL else slimL).getD (draw ns (2 * (r : Int) + 2) 6).toNat 0
noncomputable def leftOf (ns : List Int) (r : Nat) (w : Int) (rows : List (Int × Int)) : Int := if rows = [] then 8 else (lastD rows).1 - w + 1 + draw ns (2 * (r : Int) + 3) ((lastD rows).2 - (lastD rows).1 + w - 1)
noncomputable def rowsN (ns : List Int) (tall : Nat) : Nat → List (Int × Int)
  | 0 => []
  | r + 1 => rowsN ns tall r ++ [(leftOf ns r (widthOf ns tall r) (rowsN ns tall r), leftOf ns r (widthOf ns tall r) (rowsN ns tall r) + widthOf ns tall r)]
theorem draw_pos {ns : List Int} {p m : Int} (h : 0 < m) : 0 ≤ draw ns p m ∧ draw ns p m < m := by
  unfold draw
  rw [Int.fmod_eq_emod_of_nonneg _ (by omega)]
  exact ⟨Int.emod_nonneg _ (by omega), Int.emod_lt_of_pos _ h⟩
theorem width_ok (ns : List Int) (tall r : Nat) : 1 ≤ widthOf ns tall r ∧ widthOf ns tall r ≤ 4 := by
  have h := draw_pos (ns := ns) (p := 2 * (r : Int) + 2) (m := 6) (by decide)
  unfold widthOf
  generalize draw ns (2 * (r : Int) + 2) 6 = d at h ⊢
  have : ∀ k : Nat, k < 6 → 1 ≤ (if tall = 3 then wideL else slimL).getD k 0 ∧ (if tall = 3 then wideL else slimL).getD k 0 ≤ 4 := by
    split <;> decide
  exact this _ (by omega)
theorem rowsN_len (ns : List Int) (tall : Nat) : ∀ r, (rowsN ns tall r).length = r
  | 0 => rfl
  | r + 1 => by rw [rowsN, List.length_append, rowsN_len ns tall r]; rfl
theorem rowsN_wide {ns : List Int} {tall : Nat} : ∀ {r : Nat} {p : Int × Int}, p ∈ rowsN ns tall r → 1 ≤ p.2 - p.1 ∧ p.2 - p.1 ≤ 4
  | 0, _, h => nomatch h
  | r + 1, p, h => by
    rcases List.mem_append.mp h with h | h
    · exact rowsN_wide h
    · rw [List.mem_singleton.mp h]
      have := width_ok ns tall r
      dsimp only; omega
section
variable (c : Cx) (hK : c.K = hd.heap_39 c.w.params)
include hK
variable {A : Around} {Z : List (Addr × Obj)} {Φ : AF → AHeap → Prop} {n : Nat} {H : AHeap}
theorem rd_wide : Rd c H 209 (.list (wideL.map .int)) := by
  have h := c.kin 209 _ (lkK hK (by rfl))
  refine .base h (.cons (.int _ _) (.cons (.int _ _) (.cons (.int _ _) (.cons (.int _ _) (.cons (.int _ _) (.cons (.int _ _) .nil)))))) (by decide)
theorem rd_slim : Rd c H 210 (.list (slimL.map .int)) := by
  have h := c.kin 210 _ (lkK hK (by rfl))
  refine .base h (.cons (.int _ _) (.cons (.int _ _) (.cons (.int _ _) (.cons (.int _ _) (.cons (.int _ _) (.cons (.int _ _) .nil)))))) (by decide)
theorem seg0 (hA : Ar A (n + 1)) {L sa : Addr} {ns : List Int} (hl : ∀ H, Rd c H sa (.list (ns.map .int))) (hz : ns.length ≤ 63) 
   (h : LawAt c A Z L 2 (frL L [("script", .ref sa), ("tall", .int (3 + draw ns 0 2)), ("dark", .int (draw ns 1 2))] none none none none H) Φ) :
   LawAt c A Z L 0 (frL L [("script", .ref sa)] none none none none H) Φ := by
  refine ⟨?_⟩
  refine EX_Assign ?_
  k_call_by "go" ()
  refine CodeT.call (s_draw c hK hA (hl _) (by omega) (by omega) (by omega) (by omega) ?_)
  k_call_by "go" ()
  refine CodeT.call (s_draw c hK hA (hl _) (by omega) (by omega) (by omega) (by omega) ?_)
  k_call_by "set" ()
  with_reducible refine LawAt.go (L := L) 2 ?_
  exact h
theorem seg1 (hA : Ar A (n + 1)) {L sa : Addr} {ns : List Int} {T : Nat} (hT : T = 3 ∨ T = 4) {dark : Int} (hl : ∀ H, Rd c H sa (.list (ns.map .int))) (hz : ns.length ≤ 63) 
   (h : ∀ ra, LawAt c A Z L 4 ((ra, .list ((rowsN ns T T).map pr2)) :: frL L [("script", .ref sa), ("tall", .int T), ("dark", .int dark)] (some (.ref ra)) none none none H) Φ) :
   LawAt c A Z L 2 (frL L [("script", .ref sa), ("tall", .int T), ("dark", .int dark)] none none none none H) Φ := by
  refine ⟨?_⟩
  refine EX_Assign ?_
  k_call_by "go" ()
  refine ⟨by simp, fun ra => ?_⟩
  k_call_by "set" ()
  refine EX_For ?_
  k_call_by "go" ()
  refine b_range1 fun rg => ?_
  have hsm := small_r (i := 0) (j := T) (by omega) (by omega) (.inl rfl)
  refine ⟨_, _, fun i H' => Weak c H' ((ra, .list ((rowsN ns T i).map pr2)) :: frL L [("script", .ref sa), ("tall", .int T), ("dark", .int dark)] (some (.ref ra)) none none none H), Loop.range hA (.inl ⟨_, _, rfl⟩) (.head _) hsm.1 hsm.2.1, ?_, fun _ _ _ => trivial, ?_, ?_⟩
  · exact Weak.sub' (.cons _ (List.Sublist.refl _))
  · rintro i x H' Z hx wk
    obtain ⟨hi, rfl⟩ : i < T ∧ AV.int i = x := by
      rw [rangeL_up] at hx
      obtain ⟨j, hj, rfl⟩ : ∃ a, (List.range T)[i]? = some a ∧ AV.int a = x := by simpa using hx
      obtain ⟨h1, h2⟩ := List.getElem?_eq_some_iff.mp hj
      rw [List.getElem_range] at h2
      rw [List.length_range] at h1
      exact ⟨h1, by rw [h2]⟩
    have hi4 : i ≤ 4 := by omega
    refine AT.weak ?_ wk
    have hw := width_ok ns T i
    have hlen := rowsN_len ns T i
    have hwide := fun p => @rowsN_wide ns T i p
    have hsucc : rowsN ns T (i + 1) = rowsN ns T i ++ [(leftOf ns i (widthOf ns T i) (rowsN ns T i), leftOf ns i (widthOf ns T i) (rowsN ns T i) + widthOf ns T i)] := rfl
    generalize hW : widthOf ns T i = W at hw hsucc ⊢
    generalize hX : rowsN ns T i = X at hlen hwide hsucc ⊢
    have hdr := draw_pos (ns := ns) (p := 2 * (i : Int) + 2) (m := 6) (by decide)
    refine AT_Name ?_
    k_call_by "set" ()
    refine EX_Assign (EV_Sub (EV_IfExpJ (fun v H' => v = AV.ref (if T = 3 then 209 else 210) ∧ H' = (ra, .list (X.map pr2)) :: frL L [("script", .ref sa), ("tall", .int T), ("dark", .int dark), ("r", .int i)] (some (.ref ra)) none none none H) ?_ ?_))
    · k_call_by "go" ()
      by_cases h3 : T = 3
      · subst h3
        rw [if_pos (by decide)]
        k_call_by "go" ()
        exact ⟨rfl, rfl⟩
      · rw [if_neg (by simp; omega)]
        k_call_by "go" ()
        exact ⟨by rw [if_neg h3], rfl⟩
    · rintro v H' ⟨rfl, rfl⟩
      k_call_by "go" ()
      refine op_mul (mul_ok 3 3 (by decide) (by omega)) ?_
      k_call_by "go" ()
      refine CodeT.call (s_draw c hK hA (hl _) (by omega) (by omega) (by omega) (by omega) ?_)
      refine sub_list (l := (if T = 3 then wideL else slimL).map .int) (x := .int W) (by split; exact rd_wide c hK; exact rd_slim c hK) hdr.1 ?_ (by omega) ?_ (by intro _; rfl)
      · rw [List.getElem?_map, ← hW]
        unfold widthOf
        have h6 : (draw ns (2 * (i : Int) + 2) 6).toNat < (if T = 3 then wideL else slimL).length := by
          have : (if T = 3 then wideL else slimL).length = 6 := by split <;> rfl
          omega
        simp only [List.getD, List.getElem?_eq_getElem h6]
        rfl
      k_call_by "set" ()
      refine EX_Assign (EV_int ?_)
      k_call_by "set" ()
      refine EX_IfJ (fun H'' => H'' = (ra, .list (X.map pr2)) :: frL L [("script", .ref sa), ("tall", .int T), ("dark", .int dark), ("r", .int i), ("wide", .int W), ("a", .int (leftOf ns i W X))] (some (.ref ra)) none none none H) ?_ ?_
      · k_call_by "go" ()
        refine tr_list (.mem (by k_call_by "mem" ())) (by rw [List.length_map, hlen]; omega) ?_
        by_cases hX0 : X = []
        · subst hX0
          rw [if_neg (by simp)]
          k_call_by "go" ()
          exact ⟨rfl, rfl⟩
        · have hXl : 0 < X.length := List.length_pos_iff.mpr hX0
          rw [if_pos (by simpa using hX0)]
          have hg : X[X.length - 1]? = some (lastD X) := by
            have h1 : X.length - 1 < X.length := by omega
            simp [lastD, List.getD, h1]
          have hwl := hwide _ (List.mem_of_getElem? hg)
          have hneg : ∀ {A : Around} {Z : List (Addr × Obj)} {H' : AHeap} {Φ : AV → AHeap → Prop} {v sl : Expr} (_ : Rd c H' ra (.list (X.map pr2))) (_ : Φ (pr2 (lastD X)) H') (_ : ∀ t, subscripted sl false (.ref ra) (.int (-1) t) = operate [.ref ra, .int (-1) t] (getItem (.ref ra) (.int (-1) t))), Op2 c A Z (subscriptTail v sl) VR (.ref ra) (.int (-1)) H' Φ := fun hr hΦ hs =>
            sub_list_neg hr (by decide) (by simp; omega) (by
              rw [List.length_map, List.getElem?_map]
              have : ((-1 : Int) + X.length).toNat = X.length - 1 := by omega
              rw [this, hg]; rfl) (by decide) hΦ hs
          k_call_by "go" ()
          refine hneg (.mem (.head _)) ?_ (by intro _; rfl)
          k_call_by "go" ()
          refine sub_tup (by decide) (x := .int (lastD X).1) (by rfl) (by decide) ?_
          k_call_by "go" ()
          refine op_mul (mul_ok 3 3 (by decide) (by omega)) ?_
          k_call_by "go" ()
          refine hneg (.mem (.head _)) ?_ (by intro _; rfl)
          k_call_by "go" ()
          refine sub_tup (by decide) (x := .int (lastD X).2) (by rfl) (by decide) ?_
          k_call_by "go" ()
          refine hneg (.mem (.head _)) ?_ (by intro _; rfl)
          k_call_by "go" ()
          refine sub_tup (by decide) (x := .int (lastD X).1) (by rfl) (by decide) ?_
          k_call_by "go" ()
          refine CodeT.call (s_draw c hK hA (hl _) (by omega) (by omega) (by omega) (by omega) ?_)
          k_call_by "go" ()
          refine ⟨rfl, ?_⟩
          unfold leftOf
          rw [if_neg hX0]
      · rintro H'' rfl
        k_call_by "go" ()
        refine GM_builtin (by k_call_by "mem" ()) (fun _ x => own_list x) F.plainAttrs_list F.slot_list_append F.type_list_append ?_
        k_call_by "go" ()
        refine ⟨by simp, ?_⟩
        k_call_by "go" ()
        refine m_append (by k_call_by "put" ()) (by rw [List.length_map, hlen]; omega) ?_
        k_call_by "go" ()
        dsimp only
        rw [hsucc, List.map_append]
        exact Weak.dropNs (m := [("script", .ref sa), ("tall", .int T), ("dark", .int dark)]) (.there .here)
  · rintro H' wk
    rw [rangeL_up, List.length_map, List.length_map, List.length_range] at wk
    with_reducible refine LawAt.go (L := L) 4 ?_
    exact (h ra).weak wk
end

end Mine
end
section
open PySem PySem.W PySem.Calls PyProof.Rows
set_option Elab.async false
set_option maxRecDepth 100000
set_option maxHeartbeats 4000000
set_option linter.unusedVariables false
namespace Mine
local macro_rules | `(tactic| k_call_by "bb" ()) => `(tactic| first | exact bb_len | exact bb_range | exact bb_isinstance | exact bb_all | exact bb_any | exact bb_int | exact bb_bool | exact bb_sorted | exact bb_min | exact bb_max | exact bb_dict | exact bb_set | exact bb_abs)
local macro_rules | `(tactic| k_call_by "bn" ()) => `(tactic| first | exact bn_len _ | exact bn_range _ | exact bn_isinstance _ | exact bn_all _ | exact bn_any _ | exact bn_int _ | exact bn_bool _ | exact bn_sorted _ | exact bn_min _ | exact bn_max _ | exact bn_dict _ | exact bn_set _ | exact bn_abs _)
local macro_rules | `(tactic| k_call_by "gv" ()) => `(tactic| first | exact gv_law_wide _ | exact gv_law_slim _ | exact gv_law_draw _ | exact gv_law_size _ | exact gv_law_plain _ | exact gv_law_lines _ | exact gv_law_rows _ | exact gv_law_border _ | exact gv_law_ways _ | exact gv_DeltaSimpleTemporalNetwork _ | exact gv_DeltaNeighbors _ | exact gv_deque _)
local macro_rules | `(tactic| k_call_by "mem" ()) => `(tactic| (repeat (first | with_unfolding_all exact List.Mem.head _ | with_unfolding_all apply List.Mem.tail)))
local macro_rules | `(tactic| k_call_by "get" ()) => `(tactic| (repeat (first | with_unfolding_all exact NGet.here | with_unfolding_all apply NGet.there (by with_unfolding_all exact rfl))))
local macro_rules | `(tactic| k_call_by "nput" ()) => `(tactic| (repeat (first | with_unfolding_all exact NPut.here | with_unfolding_all exact NPut.nil | with_unfolding_all apply NPut.there (by with_unfolding_all exact rfl))))
local macro_rules | `(tactic| k_call_by "put" ()) => `(tactic| (repeat (first | with_unfolding_all exact Put.here | with_unfolding_all apply Put.there)))
local macro_rules | `(tactic| k_call_by "rfl" ()) => `(tactic| with_unfolding_all exact rfl)
local macro_rules | `(tactic| k_call_by "name" ()) => `(tactic| (with_reducible refine isName ?_; first
  | with_reducible refine EV_local (by k_call_by "rfl" ()) (by k_call_by "mem" ()) (NGet.look (by k_call_by "get" ())) ?_
  | with_reducible refine EV_cell (by k_call_by "rfl" ()) (by k_call_by "rfl" ()) (by k_call_by "mem" ()) ?_
  | with_reducible refine EV_free (by k_call_by "rfl" ()) (by k_call_by "rfl" ()) (by k_call_by "mem" ()) ?_
  | with_reducible refine EV_builtin (nsK (by assumption) (by k_call_by "bn" ())) (by k_call_by "bb" ()) ?_
  | with_reducible refine EV_global (nsK (by assumption) (by k_call_by "gv" ())) (fun _ => .ref _) ?_
  | with_reducible refine EV_global (nsK (by assumption) (by k_call_by "gv" ())) (fun _ => .con _) ?_))
local macro_rules | `(tactic| k_call_by "set" ()) => `(tactic| (with_reducible refine isSet ?_; first
  | with_reducible refine SN_local (by k_call_by "rfl" ()) (by k_call_by "put" ()) (by k_call_by "nput" ()) ?_
  | with_reducible refine SN_cell (by k_call_by "rfl" ()) (by k_call_by "rfl" ()) (by k_call_by "put" ()) ?_))
local macro_rules | `(tactic| k_call_by "op" ()) => `(tactic| with_reducible first
  | refine op_add ?_
  | refine op_sub ?_
  | refine op_neg ?_
  | refine cmp_lt ?_
  | refine cmp_gt ?_
  | refine cmp_le ?_
  | refine cmp_ge ?_
  | refine cmp_eq ?_
  | refine cmp_ne ?_
  | refine tr_bool ?_
  | refine tr_int ?_
  | refine tr_none ?_)
local macro_rules | `(tactic| k_call_by "s" ()) => `(tactic| first
  | k_call_by "name" ()
  | with_reducible refine EX_If ?_
  | with_reducible refine EX_Return ?_
  | with_reducible refine EX_nil ?_
  | with_reducible refine EX_Continue ?_
  | with_reducible refine EX_Expr ?_
  | with_reducible refine EX_Assign ?_
  | with_reducible refine EX_AssignT ?_
  | with_reducible refine EX_AssignS ?_
  | with_reducible refine EX_AssignA ?_
  | with_reducible refine EV_int ?_
  | with_reducible refine EV_bool ?_
  | with_reducible refine EV_none ?_
  | with_reducible refine EV_BinOp ?_
  | with_reducible refine EV_UnaryOp ?_
  | with_reducible refine EB_Compare ?_
  | with_reducible refine EB_not ?_
  | with_reducible refine EB_and ?_
  | with_reducible refine EB_and_nil ?_
  | with_reducible refine EB_or ?_
  | with_reducible refine EB_or_nil ?_
  | with_reducible refine EV_Compare ?_
  | with_reducible refine EV_Sub ?_
  | with_reducible refine EV_IfExp ?_
  | with_reducible refine EV_Tuple ?_
  | with_reducible refine EV_List ?_
  | with_reducible refine EV_Call ?_
  | with_reducible refine EV_MCall ?_
  | with_reducible refine EV_Attr ?_
  | with_reducible refine EVs_cons ?_
  | with_reducible refine EVs_nil ?_
  | k_call_by "op" ()
  | k_call_by "set" ()
  | with_reducible refine AT_Name ?_
  | with_reducible refine EB_plain ?_
  | with_reducible refine okB ?_
  | with_reducible refine okT ?_
  | with_reducible refine okK (by assumption) (by k_call_by "rfl" ()) ?_)
local macro_rules | `(tactic| k_call_by "go" ()) => `(tactic| (repeat (k_call_by "s" ())))

local macro_rules | `(tactic| k_call_by "at" ()) => `(tactic| (refine LawAt.of (b := ?b9) ?hb9 ?_; case hb9 => (conv => lhs; whnf)))
local macro_rules | `(tactic| k_call_by "nc" ()) => `(tactic| (intro x e; cases e))
noncomputable def sqOf (rows : List (Int × Int)) : List (List Int) := (List.range rows.length).flatMap fun r => (rangeL (rows.getD r (0, 0)).1 (rows.getD r (0, 0)).2 1).map fun c => [(r : Int), c]
noncomputable abbrev TD := List (List Int × Int)
noncomputable def placeN (sq : List (List Int)) (m : Nat) : TD := (List.range m).foldl (fun d (k : Nat) => kput d (sq.getD k []) (k : Int)) []
noncomputable def placeOf (sq : List (List Int)) : TD := placeN sq sq.length
noncomputable def rightOf (sq : List (List Int)) (pl : TD) : List Int := sq.map fun s => (pl.lookup [s.getD 0 0, s.getD 1 0 + 1]).getD (-1)
noncomputable def belowOf (sq : List (List Int)) (pl : TD) : List Int := sq.map fun s => (pl.lookup [s.getD 0 0 + 1, s.getD 1 0]).getD (-1)
noncomputable abbrev tdA (es : TD) : AObj := .tdict (es.map fun p => (p.1, AV.int p.2))
theorem kput_mapV {K V W : Type} [BEq K] (f : V → W) (es : List (K × V)) (k : K) (v : V) : kput (es.map fun p => (p.1, f p.2)) k (f v) = (kput es k v).map fun p => (p.1, f p.2) := by
  have hk : ((es.map fun p => (p.1, f p.2)).lookup k).isSome = (es.lookup k).isSome := by
    induction es with
    | nil => rfl
    | cons p r ih =>
      obtain ⟨a, b⟩ := p
      rw [List.map_cons, List.lookup_cons, List.lookup_cons]
      cases k == a with
      | true => rfl
      | false => exact ih
  unfold kput
  rw [hk]
  split
  · rw [List.map_map, List.map_map]
    refine List.map_congr_left fun p _ => ?_
    simp only [Function.comp]
    split <;> rfl
  · rw [List.map_append]; rfl
theorem rangeIdx {T : Nat} {i : Nat} {x : AV} (hx : ((rangeL 0 T 1).map AV.int)[i]? = some x) : i < T ∧ AV.int i = x := by
  rw [rangeL_up] at hx
  obtain ⟨j, hj, rfl⟩ : ∃ a, (List.range T)[i]? = some a ∧ AV.int a = x := by simpa using hx
  obtain ⟨h1, h2⟩ := List.getElem?_eq_some_iff.mp hj
  rw [List.getElem_range] at h2
  rw [List.length_range] at h1
  exact ⟨h1, by rw [h2]⟩
theorem rangeLen (T : Nat) : ((rangeL 0 T 1).map AV.int).length = T := by rw [rangeL_up]; simp
theorem range_get {T i : Nat} (h : i < T) : (List.range T)[i]? = some i := by simp [h]
theorem kput_le1 {K V : Type} [BEq K] (es : List (K × V)) (k : K) (v : V) : (kput es k v).length ≤ es.length + 1 := by
  unfold kput; split <;> simp
theorem placeN_succ (sq : List (List Int)) (m : Nat) : placeN sq (m + 1) = kput (placeN sq m) (sq.getD m []) (m : Int) := by
  unfold placeN; rw [List.range_succ, List.foldl_append]; rfl
theorem placeN_len (sq : List (List Int)) : ∀ m, (placeN sq m).length ≤ m
  | 0 => Nat.le_refl _
  | m + 1 => by rw [placeN_succ]; exact Nat.le_trans (kput_le1 _ _ _) (Nat.succ_le_succ (placeN_len sq m))
theorem frUp {c : Cx} {L a : Addr} {x : AObj} {m c1 c2 c3 c4 R} : Weak c ((a, x) :: frL L m c1 c2 c3 c4 R) (frL L m c1 c2 c3 c4 ((a, x) :: R)) := Weak.perm' (List.perm_middle (l₁ := frL L m c1 c2 c3 c4 []) (a := (a, x)) (l₂ := R))
theorem Rd.fr {c : Cx} {H : AHeap} {d : Addr} {x : AObj} (h : Rd c H d x) (Y : AHeap) {L m c1 c2 c3 c4} : Rd c (Y ++ frL L m c1 c2 c3 c4 H) d x :=
  h.weak (Weak.sub' (List.Sublist.trans (.cons _ (.cons _ (.cons _ (.cons _ (.cons _ (List.Sublist.refl _)))))) (List.sublist_append_right Y _)))
section
variable (c : Cx) (hK : c.K = hd.heap_39 c.w.params)
include hK
variable {A : Around} {Z : List (Addr × Obj)} {Φ : AF → AHeap → Prop} {n : Nat} {H : AHeap}
theorem seg2 (hA : Ar A (n + 1)) {L ra : Addr} {rows : List (Int × Int)} {sc dk : AV} (hr : Rd c H ra (.list (rows.map pr2))) (hz : rows.length ≤ 100) (hb : ∀ p ∈ rows, (0 ≤ p.1 ∧ p.1 ≤ 1000) ∧ 0 ≤ p.2 ∧ p.2 ≤ 1000) (hz2 : (sqOf rows).length ≤ 1000)
   (h : ∀ sa, LawAt c A Z L 5 ((sa, .list ((sqOf rows).map tupL)) :: frL L [("script", sc), ("tall", .int rows.length), ("dark", dk), ("squares", .ref sa)] (some (.ref ra)) none none none H) Φ) :
   LawAt c A Z L 4 (frL L [("script", sc), ("tall", .int rows.length), ("dark", dk)] (some (.ref ra)) none none none H) Φ := by
  k_call_by "at" ()
  have hg : ∀ i, i < rows.length → rows[i]? = some (rows.getD i (0, 0)) := fun i hi => by simp [List.getD, hi]
  have hgb : ∀ i, (0 ≤ (rows.getD i (0, 0)).1 ∧ (rows.getD i (0, 0)).1 ≤ 1000) ∧ 0 ≤ (rows.getD i (0, 0)).2 ∧ (rows.getD i (0, 0)).2 ≤ 1000 := fun i => by
    by_cases hi : i < rows.length
    · exact hb _ (List.mem_of_getElem? (hg i hi))
    · simp [List.getD, hi]
  refine EX_AssignLC2 [("rows", L + 1)] ?_
  k_call_by "go" ()
  refine b_range1 fun rg => ?_
  have hsm := small_r (i := 0) (j := rows.length) (by omega) (by omega) (.inl rfl)
  refine ⟨_, _, fun i ys Hr => ys = (((List.range i).flatMap fun r => (rangeL (rows.getD r (0, 0)).1 (rows.getD r (0, 0)).2 1).map fun c => [(r : Int), c])).map tupL ∧ Hr = (rg, .range 0 rows.length 1) :: frL L [("script", sc), ("tall", .int rows.length), ("dark", dk)] (some (.ref ra)) none none none H, Loop.range hA (.inl ⟨_, _, rfl⟩) (.head _) hsm.1 hsm.2.1, ⟨rfl, rfl⟩, fun _ _ _ _ _ _ _ => trivial, ?_, ?_⟩
  · rintro i x ys Hr Z K acc hx ⟨rfl, rfl⟩
    obtain ⟨hi, rfl⟩ := rangeIdx hx
    have gi := hgb i
    have hsi := small_r gi.1 gi.2 (.inl rfl)
    have hrd : ∀ X : AHeap, Rd c (X ++ (rg, .range 0 rows.length 1) :: frL L [("script", sc), ("tall", .int rows.length), ("dark", dk)] (some (.ref ra)) none none none H) ra (.list (rows.map pr2)) := fun X => hr.weak (Weak.sub' (List.Sublist.trans (.cons _ (.cons _ (.cons _ (.cons _ (.cons _ (.cons _ (List.Sublist.refl _))))))) (List.sublist_append_right X _)))
    k_call_by "go" ()
    refine comp_inner ?_
    k_call_by "go" ()
    refine sub_list (hrd [_, _]) (by omega) (x := pr2 (rows.getD i (0, 0))) (by rw [List.getElem?_map, Int.toNat_natCast, hg i hi]; rfl) (by omega) ?_
    k_call_by "go" ()
    refine sub_tup (by decide) (x := .int (rows.getD i (0, 0)).1) (by rfl) (by decide) ?_
    k_call_by "go" ()
    refine sub_list (hrd [_, _]) (by omega) (x := pr2 (rows.getD i (0, 0))) (by rw [List.getElem?_map, Int.toNat_natCast, hg i hi]; rfl) (by omega) ?_
    k_call_by "go" ()
    refine sub_tup (by decide) (x := .int (rows.getD i (0, 0)).2) (by rfl) (by decide) ?_
    k_call_by "go" ()
    refine b_range2 fun rg2 => ?_
    generalize hO : ((List.range i).flatMap fun r => (rangeL (rows.getD r (0, 0)).1 (rows.getD r (0, 0)).2 1).map fun c => [(r : Int), c]) = O
    have hsq : (List.range (i + 1)).flatMap (fun r => (rangeL (rows.getD r (0, 0)).1 (rows.getD r (0, 0)).2 1).map fun c => [(r : Int), c]) = O ++ (rangeL (rows.getD i (0, 0)).1 (rows.getD i (0, 0)).2 1).map fun c => [(i : Int), c] := by
      rw [List.range_succ, List.flatMap_append, hO]; simp
    have hlen : (O ++ (rangeL (rows.getD i (0, 0)).1 (rows.getD i (0, 0)).2 1).map fun c => [(i : Int), c]).length ≤ 1000 := by
      have e1 := (sub_lines (f := fun r => (rangeL (rows.getD r (0, 0)).1 (rows.getD r (0, 0)).2 1).map fun c => [(r : Int), c]) (range_get hi) (j := 1000)).length_le
      have e2 : ((List.range rows.length).take i) = List.range i := by rw [List.take_range, Nat.min_eq_left (by omega)]
      rw [e2, hO, List.take_of_length_le (by rw [List.length_map]; exact hsi.2.2)] at e1
      exact Nat.le_trans e1 hz2
    generalize hV : rangeL (rows.getD i (0, 0)).1 (rows.getD i (0, 0)).2 1 = V at hsq hlen
    refine ⟨_, _, fun j H' => H' = (rg2, .range (rows.getD i (0, 0)).1 (rows.getD i (0, 0)).2 1) :: (K, .ns [("r", .int i)]) :: (acc, .list (O.map tupL ++ (V.take j).map fun c => tupL [(i : Int), c])) :: (rg, .range 0 rows.length 1) :: frL L [("script", sc), ("tall", .int rows.length), ("dark", dk)] (some (.ref ra)) none none none H,
      Loop.range hA (.inl ⟨_, _, rfl⟩) (.head _) hsi.1 hsi.2.1, ?_, fun _ _ _ => trivial, ?_, ?_⟩
    · show _ = _
      rw [List.take_zero, List.map_nil, List.append_nil]
    · rintro j x H' Z hx rfl
      rw [hV] at hx
      obtain ⟨y, hy, rfl⟩ : ∃ y, V[j]? = some y ∧ AV.int y = x := by simpa using hx
      k_call_by "s" ()
      k_call_by "set" ()
      refine Tr.post ?_
      k_call_by "go" ()
      refine ⟨by simp, _, Weak.dropNs (m := [("r", .int i)]) (.there .here), _, _, .there (.there .here), ?_, ?_⟩
      · simp only [List.length_append, List.length_map, List.length_take] at hlen ⊢
        omega
      · dsimp only
        rw [List.take_add_one, hy]
        simp [tupL]
    · rintro H' rfl
      refine ⟨[("r", .int i)], _, _, Weak.sub' (.cons _ (List.Sublist.refl _)), ?_, rfl⟩
      rw [List.length_map, hV, List.take_length, hsq]
      simp
  · rintro ys Hr acc ⟨rfl, rfl⟩
    refine ⟨_, _, _, .there .here, by k_call_by "nput" (), ?_⟩
    rw [rangeLen]
    with_reducible refine LawAt.go (L := L) 5 ?_
    refine (h acc).weak (Weak.sub' (.cons_cons _ (.cons _ (List.Sublist.refl _))))
theorem seg3 (hA : Ar A (n + 1)) {L sqa : Addr} {sq : List (List Int)} {sc tl dk rw' : AV} (hs : Rd c H sqa (.list (sq.map tupL))) (hsq : ∀ s ∈ sq, ∃ r c, s = [r, c]) (hz : sq.length ≤ 1000)
   (h : ∀ pa, LawAt c A Z L 7 (frL L [("script", sc), ("tall", tl), ("dark", dk), ("squares", .ref sqa)] (some rw') (some (.ref pa)) none none ((pa, tdA (placeOf sq)) :: H)) Φ) :
   LawAt c A Z L 5 (frL L [("script", sc), ("tall", tl), ("dark", dk), ("squares", .ref sqa)] (some rw') none none none H) Φ := by
  k_call_by "at" ()
  with_reducible refine EX_Assign ?_
  refine EV_Dict0 (.tdict []) (.inr rfl) fun pa => ?_
  k_call_by "set" ()
  refine EX_For ?_
  k_call_by "go" ()
  refine b_len_list (hs.fr [_]) (by rw [List.length_map]; omega) ?_
  rw [List.length_map]
  k_call_by "go" ()
  refine b_range1 fun rg => ?_
  have hsm := small_r (i := 0) (j := sq.length) (by omega) (by omega) (.inl rfl)
  refine ⟨_, _, fun i H' => Weak c H' ((pa, tdA (placeN sq i)) :: frL L [("script", sc), ("tall", tl), ("dark", dk), ("squares", .ref sqa)] (some rw') (some (.ref pa)) none none H), Loop.range hA (.inl ⟨_, _, rfl⟩) (.head _) hsm.1 hsm.2.1, ?_, fun _ _ _ => trivial, ?_, ?_⟩
  · exact Weak.sub' (.cons _ (List.Sublist.refl _))
  · rintro i x H' Z hx wk
    obtain ⟨hi, rfl⟩ := rangeIdx hx
    refine AT.weak ?_ wk
    have hg : sq[i]? = some (sq.getD i []) := by simp [List.getD, hi]
    k_call_by "go" ()
    refine sub_list (hs.fr [_]) (by omega) (x := tupL (sq.getD i [])) (by rw [List.getElem?_map, Int.toNat_natCast, hg]; rfl) (by omega) ?_ (by intro _; rfl)
    have hle := placeN_len sq i
    refine set_tdict hA (k := sq.getD i []) (es := (placeN sq i).map fun p => (p.1, AV.int p.2)) (x := .int i) .here (by rw [List.length_map]; omega) ?_
    rw [kput_mapV AV.int, ← placeN_succ]
    k_call_by "go" ()
    exact Weak.dropNs (m := [("script", sc), ("tall", tl), ("dark", dk), ("squares", .ref sqa)]) (.there .here)
  · rintro H' wk
    rw [rangeLen] at wk
    with_reducible refine LawAt.go (L := L) 7 ?_
    refine (h pa).weak (wk.trans frUp)
theorem seg4 (hA : Ar A (n + 1)) {L sqa pa : Addr} {sq : List (List Int)} {pl : TD} {sc tl dk rw' : AV} (hs : Rd c H sqa (.list (sq.map tupL))) (hp : Rd c H pa (tdA pl)) (hsq : ∀ s ∈ sq, ∃ r c, s = [r, c]) (hz : sq.length ≤ 1000)
   (h : ∀ a, LawAt c A Z L 8 (frL L [("script", sc), ("tall", tl), ("dark", dk), ("squares", .ref sqa), ("right", .ref a)] (some rw') (some (.ref pa)) none none ((a, .list ((rightOf sq pl).map .int)) :: H)) Φ) :
   LawAt c A Z L 7 (frL L [("script", sc), ("tall", tl), ("dark", dk), ("squares", .ref sqa)] (some rw') (some (.ref pa)) none none H) Φ := by
  k_call_by "at" ()
  with_reducible refine EX_AssignLC1 [("place", L + 1 + 1)] ?_
  k_call_by "go" ()
  have hX : ∀ Y : AHeap, Rd c (Y ++ frL L [("script", sc), ("tall", tl), ("dark", dk), ("squares", .ref sqa)] (some rw') (some (.ref pa)) none none H) sqa (.list (sq.map tupL)) := fun Y => hs.fr Y
  have hY : ∀ Y : AHeap, Rd c (Y ++ frL L [("script", sc), ("tall", tl), ("dark", dk), ("squares", .ref sqa)] (some rw') (some (.ref pa)) none none H) pa (tdA pl) := fun Y => hp.fr Y
  refine ⟨_, _, fun i ys Hr => ys = ((rightOf sq pl).take i).map .int ∧ Hr = frL L [("script", sc), ("tall", tl), ("dark", dk), ("squares", .ref sqa)] (some rw') (some (.ref pa)) none none H, Loop.list hA (.inr ⟨_, _, _, rfl⟩) (hX []), ⟨rfl, rfl⟩, ?_, ?_, ?_⟩
  · rintro i ys Hr K acc m ⟨_, rfl⟩
    exact hX [_, _]
  · rintro i x ys Hr Z K acc hx ⟨rfl, rfl⟩
    obtain ⟨s, hsi, rfl⟩ : ∃ s, sq[i]? = some s ∧ tupL s = x := by simpa using hx
    have hlt := (List.getElem?_eq_some_iff.mp hsi).1
    obtain ⟨r, q, rfl⟩ := hsq s (List.mem_of_getElem? hsi)
    have hri : (rightOf sq pl)[i]? = some ((pl.lookup [r, q + 1]).getD (-1)) := by rw [rightOf, List.getElem?_map, hsi]; rfl
    refine AT_Tuple hA rfl ?_ nm2
    simp only [ATs, List.map_cons, List.map_nil]
    k_call_by "go" ()
    refine GM_rd (hY [_, _]) (fun _ x => own_tdict x) F.plainAttrs_dict F.slot_dict_get F.type_dict_get ?_
    k_call_by "go" ()
    refine ⟨by simp, ?_⟩
    k_call_by "go" ()
    refine m_getT hA (k := [r, q + 1]) (hY [_, _]) ?_
    refine ⟨_, _, .refl _ _, by simp only [List.length_map, List.length_take]; rw [rightOf, List.length_map]; omega, ?_, rfl⟩
    rw [List.take_add_one, hri, lookT, List.map_append]
    cases pl.lookup [r, q + 1] <;> rfl
  · rintro ys Hr acc ⟨rfl, rfl⟩
    refine ⟨_, _, _, .here, by k_call_by "nput" (), ?_⟩
    with_reducible refine LawAt.go (L := L) 8 ?_
    refine (h acc).weak ?_
    have : (rightOf sq pl).length = ((sq.map tupL).length) := by rw [rightOf, List.length_map, List.length_map]
    rw [← this, List.take_length]
    exact frUp
theorem seg5 (hA : Ar A (n + 1)) {L sqa pa : Addr} {sq : List (List Int)} {pl : TD} {sc tl dk rw' rt : AV} (hs : Rd c H sqa (.list (sq.map tupL))) (hp : Rd c H pa (tdA pl)) (hsq : ∀ s ∈ sq, ∃ r c, s = [r, c]) (hz : sq.length ≤ 1000)
   (h : ∀ a, LawAt c A Z L 9 (frL L [("script", sc), ("tall", tl), ("dark", dk), ("squares", .ref sqa), ("right", rt), ("below", .ref a)] (some rw') (some (.ref pa)) none none ((a, .list ((belowOf sq pl).map .int)) :: H)) Φ) :
   LawAt c A Z L 8 (frL L [("script", sc), ("tall", tl), ("dark", dk), ("squares", .ref sqa), ("right", rt)] (some rw') (some (.ref pa)) none none H) Φ := by
  k_call_by "at" ()
  with_reducible refine EX_AssignLC1 [("place", L + 1 + 1)] ?_
  k_call_by "go" ()
  have hX : ∀ Y : AHeap, Rd c (Y ++ frL L [("script", sc), ("tall", tl), ("dark", dk), ("squares", .ref sqa), ("right", rt)] (some rw') (some (.ref pa)) none none H) sqa (.list (sq.map tupL)) := fun Y => hs.fr Y
  have hY : ∀ Y : AHeap, Rd c (Y ++ frL L [("script", sc), ("tall", tl), ("dark", dk), ("squares", .ref sqa), ("right", rt)] (some rw') (some (.ref pa)) none none H) pa (tdA pl) := fun Y => hp.fr Y
  refine ⟨_, _, fun i ys Hr => ys = ((belowOf sq pl).take i).map .int ∧ Hr = frL L [("script", sc), ("tall", tl), ("dark", dk), ("squares", .ref sqa), ("right", rt)] (some rw') (some (.ref pa)) none none H, Loop.list hA (.inr ⟨_, _, _, rfl⟩) (hX []), ⟨rfl, rfl⟩, ?_, ?_, ?_⟩
  · rintro i ys Hr K acc m ⟨_, rfl⟩
    exact hX [_, _]
  · rintro i x ys Hr Z K acc hx ⟨rfl, rfl⟩
    obtain ⟨s, hsi, rfl⟩ : ∃ s, sq[i]? = some s ∧ tupL s = x := by simpa using hx
    have hlt := (List.getElem?_eq_some_iff.mp hsi).1
    obtain ⟨r, q, rfl⟩ := hsq s (List.mem_of_getElem? hsi)
    have hri : (belowOf sq pl)[i]? = some ((pl.lookup [r + 1, q]).getD (-1)) := by rw [belowOf, List.getElem?_map, hsi]; rfl
    refine AT_Tuple hA rfl ?_ nm2
    simp only [ATs, List.map_cons, List.map_nil]
    k_call_by "go" ()
    refine GM_rd (hY [_, _]) (fun _ x => own_tdict x) F.plainAttrs_dict F.slot_dict_get F.type_dict_get ?_
    k_call_by "go" ()
    refine ⟨by simp, ?_⟩
    k_call_by "go" ()
    refine m_getT hA (k := [r + 1, q]) (hY [_, _]) ?_
    refine ⟨_, _, .refl _ _, by simp only [List.length_map, List.length_take]; rw [belowOf, List.length_map]; omega, ?_, rfl⟩
    rw [List.take_add_one, hri, lookT, List.map_append]
    cases pl.lookup [r + 1, q] <;> rfl
  · rintro ys Hr acc ⟨rfl, rfl⟩
    refine ⟨_, _, _, .here, by k_call_by "nput" (), ?_⟩
    with_reducible refine LawAt.go (L := L) 9 ?_
    refine (h acc).weak ?_
    have : (belowOf sq pl).length = ((sq.map tupL).length) := by rw [belowOf, List.length_map, List.length_map]
    rw [← this, List.take_length]
    exact frUp
end

end Mine
end
section
open PySem PySem.W PySem.Calls PyProof.Rows
set_option Elab.async false
set_option maxRecDepth 100000
set_option maxHeartbeats 4000000
set_option linter.unusedVariables false
namespace Mine
local macro_rules | `(tactic| k_call_by "bb" ()) => `(tactic| first | exact bb_len | exact bb_range | exact bb_isinstance | exact bb_all | exact bb_any | exact bb_int | exact bb_bool | exact bb_sorted | exact bb_min | exact bb_max | exact bb_dict | exact bb_set | exact bb_abs)
local macro_rules | `(tactic| k_call_by "bn" ()) => `(tactic| first | exact bn_len _ | exact bn_range _ | exact bn_isinstance _ | exact bn_all _ | exact bn_any _ | exact bn_int _ | exact bn_bool _ | exact bn_sorted _ | exact bn_min _ | exact bn_max _ | exact bn_dict _ | exact bn_set _ | exact bn_abs _)
local macro_rules | `(tactic| k_call_by "gv" ()) => `(tactic| first | exact gv_law_wide _ | exact gv_law_slim _ | exact gv_law_draw _ | exact gv_law_size _ | exact gv_law_plain _ | exact gv_law_lines _ | exact gv_law_rows _ | exact gv_law_border _ | exact gv_law_ways _ | exact gv_DeltaSimpleTemporalNetwork _ | exact gv_DeltaNeighbors _ | exact gv_deque _)
local macro_rules | `(tactic| k_call_by "mem" ()) => `(tactic| (repeat (first | with_unfolding_all exact List.Mem.head _ | with_unfolding_all apply List.Mem.tail)))
local macro_rules | `(tactic| k_call_by "get" ()) => `(tactic| (repeat (first | with_unfolding_all exact NGet.here | with_unfolding_all apply NGet.there (by with_unfolding_all exact rfl))))
local macro_rules | `(tactic| k_call_by "nput" ()) => `(tactic| (repeat (first | with_unfolding_all exact NPut.here | with_unfolding_all exact NPut.nil | with_unfolding_all apply NPut.there (by with_unfolding_all exact rfl))))
local macro_rules | `(tactic| k_call_by "put" ()) => `(tactic| (repeat (first | with_unfolding_all exact Put.here | with_unfolding_all apply Put.there)))
local macro_rules | `(tactic| k_call_by "rfl" ()) => `(tactic| with_unfolding_all exact rfl)
local macro_rules | `(tactic| k_call_by "name" ()) => `(tactic| (with_reducible refine isName ?_; first
  | with_reducible refine EV_local (by k_call_by "rfl" ()) (by k_call_by "mem" ()) (NGet.look (by k_call_by "get" ())) ?_
  | with_reducible refine EV_cell (by k_call_by "rfl" ()) (by k_call_by "rfl" ()) (by k_call_by "mem" ()) ?_
  | with_reducible refine EV_free (by k_call_by "rfl" ()) (by k_call_by "rfl" ()) (by k_call_by "mem" ()) ?_
  | with_reducible refine EV_builtin (nsK (by assumption) (by k_call_by "bn" ())) (by k_call_by "bb" ()) ?_
  | with_reducible refine EV_global (nsK (by assumption) (by k_call_by "gv" ())) (fun _ => .ref _) ?_
  | with_reducible refine EV_global (nsK (by assumption) (by k_call_by "gv" ())) (fun _ => .con _) ?_))
local macro_rules | `(tactic| k_call_by "set" ()) => `(tactic| (with_reducible refine isSet ?_; first
  | with_reducible refine SN_local (by k_call_by "rfl" ()) (by k_call_by "put" ()) (by k_call_by "nput" ()) ?_
  | with_reducible refine SN_cell (by k_call_by "rfl" ()) (by k_call_by "rfl" ()) (by k_call_by "put" ()) ?_))
local macro_rules | `(tactic| k_call_by "op" ()) => `(tactic| with_reducible first
  | refine op_add ?_
  | refine op_sub ?_
  | refine op_neg ?_
  | refine cmp_lt ?_
  | refine cmp_gt ?_
  | refine cmp_le ?_
  | refine cmp_ge ?_
  | refine cmp_eq ?_
  | refine cmp_ne ?_
  | refine tr_bool ?_
  | refine tr_int ?_
  | refine tr_none ?_)
local macro_rules | `(tactic| k_call_by "s" ()) => `(tactic| first
  | k_call_by "name" ()
  | with_reducible refine EX_If ?_
  | with_reducible refine EX_Return ?_
  | with_reducible refine EX_nil ?_
  | with_reducible refine EX_Continue ?_
  | with_reducible refine EX_Expr ?_
  | with_reducible refine EX_Assign ?_
  | with_reducible refine EX_AssignT ?_
  | with_reducible refine EX_AssignS ?_
  | with_reducible refine EX_AssignA ?_
  | with_reducible refine EV_int ?_
  | with_reducible refine EV_bool ?_
  | with_reducible refine EV_none ?_
  | with_reducible refine EV_BinOp ?_
  | with_reducible refine EV_UnaryOp ?_
  | with_reducible refine EB_Compare ?_
  | with_reducible refine EB_not ?_
  | with_reducible refine EB_and ?_
  | with_reducible refine EB_and_nil ?_
  | with_reducible refine EB_or ?_
  | with_reducible refine EB_or_nil ?_
  | with_reducible refine EV_Compare ?_
  | with_reducible refine EV_Sub ?_
  | with_reducible refine EV_IfExp ?_
  | with_reducible refine EV_Tuple ?_
  | with_reducible refine EV_List ?_
  | with_reducible refine EV_Call ?_
  | with_reducible refine EV_MCall ?_
  | with_reducible refine EV_Attr ?_
  | with_reducible refine EVs_cons ?_
  | with_reducible refine EVs_nil ?_
  | k_call_by "op" ()
  | k_call_by "set" ()
  | with_reducible refine AT_Name ?_
  | with_reducible refine EB_plain ?_
  | with_reducible refine okB ?_
  | with_reducible refine okT ?_
  | with_reducible refine okK (by assumption) (by k_call_by "rfl" ()) ?_)
local macro_rules | `(tactic| k_call_by "go" ()) => `(tactic| (repeat (k_call_by "s" ())))

local macro_rules | `(tactic| k_call_by "at" ()) => `(tactic| (refine LawAt.of (b := ?b9) ?hb9 ?_; case hb9 => (conv => lhs; whnf)))
local macro_rules | `(tactic| k_call_by "nc" ()) => `(tactic| (intro x e; cases e))
noncomputable def hStep (dark : Int) (st : TD × Int) (s : List Int) : TD × Int :=
  let h := st.2 + (if (s.getD 2 0 + s.getD 3 0 + dark).fmod 2 = 0 then -1 else 1)
  (if (st.1.lookup [s.getD 0 0, s.getD 1 0]).isSome then st.1 else kput st.1 [s.getD 0 0, s.getD 1 0] h, h)
noncomputable def heightsN (rows : List (Int × Int)) (dark : Int) (m : Nat) : TD × Int := ((borderOf rows).take m).foldl (hStep dark) ([([0, (rows.getD 0 (0, 0)).1], 0)], 0)
noncomputable def heightsOf (rows : List (Int × Int)) (dark : Int) : TD × Int := (borderOf rows).foldl (hStep dark) ([([0, (rows.getD 0 (0, 0)).1], 0)], 0)
theorem heightsN_succ {rows : List (Int × Int)} {dark : Int} {m : Nat} {s : List Int} (h : (borderOf rows)[m]? = some s) : heightsN rows dark (m + 1) = hStep dark (heightsN rows dark m) s := by
  unfold heightsN
  rw [List.take_add_one, h, List.foldl_append]; rfl
theorem heightsN_len (rows : List (Int × Int)) (dark : Int) : ∀ m, (heightsN rows dark m).1.length ≤ m + 1
  | 0 => Nat.le_refl _
  | m + 1 => by
    have ih := heightsN_len rows dark m
    cases h : (borderOf rows)[m]? with
    | none =>
      have : heightsN rows dark (m + 1) = heightsN rows dark m := by
        unfold heightsN
        rw [List.take_add_one, h]; simp
      rw [this]; omega
    | some s =>
      rw [heightsN_succ h]
      unfold hStep
      dsimp only
      split
      · omega
      · have := kput_le1 (heightsN rows dark m).1 [s.getD 0 0, s.getD 1 0] ((heightsN rows dark m).2 + (if (s.getD 2 0 + s.getD 3 0 + dark).fmod 2 = 0 then -1 else 1))
        omega
theorem border_four {rows : List (Int × Int)} : ∀ s ∈ borderOf rows, ∃ a b d e, s = [a, b, d, e] := by
  intro s hs
  simp only [borderOf, bR, bL, List.mem_append, List.mem_map, List.mem_flatMap, List.mem_cons] at hs
  rcases hs with ((⟨x, _, rfl⟩ | ⟨r, _, hs⟩) | ⟨x, _, rfl⟩) | ⟨r, _, hs⟩
  · exact ⟨_, _, _, _, rfl⟩
  · rcases hs with rfl | hs
    · exact ⟨_, _, _, _, rfl⟩
    · split at hs
      · rcases List.mem_append.mp hs with hs | hs <;> obtain ⟨x, _, rfl⟩ := List.mem_map.mp hs <;> exact ⟨_, _, _, _, rfl⟩
      · cases hs
  · exact ⟨_, _, _, _, rfl⟩
  · rcases hs with rfl | hs
    · exact ⟨_, _, _, _, rfl⟩
    · split at hs
      · cases hs
      · rcases List.mem_append.mp hs with hs | hs <;> obtain ⟨x, _, rfl⟩ := List.mem_map.mp hs <;> exact ⟨_, _, _, _, rfl⟩
theorem nm4 {a b d f : Str} {p q r t : Pos} : ∀ e ∈ [Expr.Name a p, Expr.Name b q, Expr.Name d r, Expr.Name f t], ∃ x p', e = .Name x p' := by
  intro e he
  rcases List.mem_cons.mp he with rfl | he
  · exact ⟨_, _, rfl⟩
  · exact nm3 e he
theorem fr0 {c : Cx} {L : Addr} {m c1 c2 c3 c4 R} (Y : AHeap) : Weak c (Y ++ frL L m c1 c2 c3 c4 R) (frL L m c1 c2 c3 c4 R) := Weak.sub' (List.sublist_append_right _ _)
theorem frIn {c : Cx} {L a : Addr} {x : AObj} {m c1 c2 c3 c4 R} (P : AHeap) : Weak c ((a, x) :: (P ++ frL L m c1 c2 c3 c4 R)) (P ++ frL L m c1 c2 c3 c4 ((a, x) :: R)) := by
  refine Weak.perm' ?_
  have := List.perm_middle (l₁ := P ++ frL L m c1 c2 c3 c4 []) (a := (a, x)) (l₂ := R)
  rw [List.append_assoc, List.append_assoc] at this
  exact this
section
variable (c : Cx) (hK : c.K = hd.heap_39 c.w.params)
include hK
variable {A : Around} {Z : List (Addr × Obj)} {Φ : AF → AHeap → Prop} {n : Nat} {H : AHeap}
theorem seg6 (hA : Ar A (n + 2)) {L ra : Addr} {rows : List (Int × Int)} {dark : Int} {sc tl sq rt bl c2 : AV} (hr : Rd c H ra (.list (rows.map pr2))) (h1 : 1 ≤ rows.length) (hz : rows.length ≤ 100) (hb : ∀ p ∈ rows, (0 ≤ p.1 ∧ p.1 ≤ 1000) ∧ 0 ≤ p.2 ∧ p.2 ≤ 1000) (hzb : (borderOf rows).length ≤ 1000)
   (h : ∀ ha, LawAt c A Z L 12 (frL L [("script", sc), ("tall", tl), ("dark", .int dark), ("squares", sq), ("right", rt), ("below", bl), ("heights", .ref ha), ("height", .int (heightsOf rows dark).2)] (some (.ref ra)) (some c2) none none ((ha, tdA (heightsOf rows dark).1) :: H)) Φ) :
   LawAt c A Z L 9 (frL L [("script", sc), ("tall", tl), ("dark", .int dark), ("squares", sq), ("right", rt), ("below", bl)] (some (.ref ra)) (some c2) none none H) Φ := by
  k_call_by "at" ()
  with_reducible refine EX_Assign ?_
  with_reducible refine EV_Dict1 hA fun ha => ?_
  have hg0 : rows[0]? = some (rows.getD 0 (0, 0)) := by
    have : 0 < rows.length := h1
    simp [List.getD, this]
  k_call_by "go" ()
  refine sub_list (hr.fr [_]) (by decide) (x := pr2 (rows.getD 0 (0, 0))) (by rw [List.getElem?_map]; exact congrArg _ hg0) (by decide) ?_
  k_call_by "go" ()
  refine sub_tup (by decide) (x := .int (rows.getD 0 (0, 0)).1) (by rfl) (by decide) ?_
  k_call_by "go" ()
  refine ⟨by simp, ?_⟩
  k_call_by "go" ()
  refine ⟨[0, (rows.getD 0 (0, 0)).1], _, rfl, .here, ?_⟩
  k_call_by "go" ()
  with_reducible refine EX_For ?_
  k_call_by "go" ()
  refine CodeT.call (s_border c hK hA (hr.fr [_]) h1 hz hb fun ba => ?_)
  refine ⟨_, _, fun i H' => Weak c H' ((ha, tdA (heightsN rows dark i).1) :: frL L [("script", sc), ("tall", tl), ("dark", .int dark), ("squares", sq), ("right", rt), ("below", bl), ("heights", .ref ha), ("height", .int (heightsN rows dark i).2)] (some (.ref ra)) (some c2) none none ((ba, .list ((borderOf rows).map tupL)) :: H)),
    Loop.list hA (.inr ⟨_, _, _, rfl⟩) (.mem (.head _)), ?_, ?_, ?_, ?_⟩
  · exact frIn [(ha, tdA (heightsN rows dark 0).1)]
  · intro i H' wk
    exact Rd.weak (.mem (by k_call_by "mem" ())) wk
  · rintro i x H' Z hx wk
    obtain ⟨s, hsi, rfl⟩ : ∃ s, (borderOf rows)[i]? = some s ∧ tupL s = x := by simpa using hx
    have hlt := (List.getElem?_eq_some_iff.mp hsi).1
    have hsucc := heightsN_succ (dark := dark) hsi
    have hlen := heightsN_len rows dark i
    obtain ⟨r, q, sr, sq', rfl⟩ := border_four s (List.mem_of_getElem? hsi)
    refine AT.weak ?_ wk
    generalize heightsN rows dark i = st at hsucc hlen ⊢
    obtain ⟨es, ht⟩ := st
    dsimp only at hlen ⊢
    refine AT_Tuple hA rfl ?_ nm4
    simp only [ATs, List.map_cons, List.map_nil]
    k_call_by "s" ()
    k_call_by "set" ()
    k_call_by "s" ()
    k_call_by "set" ()
    k_call_by "s" ()
    k_call_by "set" ()
    k_call_by "s" ()
    k_call_by "set" ()
    generalize hd1 : (if (sr + sq' + dark).fmod 2 = 0 then (-1 : Int) else 1) = dl
    with_reducible refine EX_Aug (by k_call_by "rfl" ()) (by k_call_by "mem" ()) (NGet.look (by k_call_by "get" ())) ?_
    with_reducible refine EV_IfExpJ (fun v H' => v = AV.int dl ∧ H' = (ha, tdA es) :: frL L [("script", sc), ("tall", tl), ("dark", .int dark), ("squares", sq), ("right", rt), ("below", bl), ("heights", .ref ha), ("height", .int ht), ("r", .int r), ("c", .int q), ("sr", .int sr), ("sc", .int sq')] (some (.ref ra)) (some c2) none none ((ba, .list ((borderOf rows).map tupL)) :: H)) ?_ ?_
    · k_call_by "go" ()
      refine op_mod (by decide) ?_
      k_call_by "go" ()
      by_cases hp : (sr + sq' + dark).fmod 2 = 0
      · rw [if_pos hp] at hd1
        rw [if_pos (by simpa using hp)]
        k_call_by "go" ()
        exact ⟨by rw [← hd1], rfl⟩
      · rw [if_neg hp] at hd1
        rw [if_neg (by simpa using hp)]
        k_call_by "go" ()
        exact ⟨by rw [← hd1], rfl⟩
    · rintro v H' ⟨rfl, rfl⟩
      refine op_iadd ?_
      k_call_by "go" ()
      refine ⟨by simp, ?_⟩
      k_call_by "go" ()
      refine notin_tdict hA (k := [r, q]) (.mem (.head _)) ?_
      rw [lookT, Option.isSome_map]
      k_call_by "go" ()
      have hh : hStep dark (es, ht) [r, q, sr, sq'] = (if (es.lookup [r, q]).isSome then es else kput es [r, q] (ht + dl), ht + dl) := by
        rw [← hd1]; rfl
      rw [hsucc, hh]
      by_cases hin : (es.lookup [r, q]).isSome = true
      · rw [if_pos hin, hin]
        simp only [Bool.not_true, Bool.false_eq_true, if_false]
        k_call_by "go" ()
        exact Weak.dropNs (m := [("script", sc), ("tall", tl), ("dark", .int dark), ("squares", sq), ("right", rt), ("below", bl), ("heights", .ref ha), ("height", .int (ht + dl))]) (.there .here)
      · rw [if_neg hin, eq_false_of_ne_true hin]
        simp only [Bool.not_false, if_true]
        k_call_by "go" ()
        refine ⟨by simp, ?_⟩
        k_call_by "go" ()
        refine set_tdict hA (k := [r, q]) (es := es.map fun p => (p.1, AV.int p.2)) (x := .int (ht + dl)) .here (by rw [List.length_map]; omega) ?_
        rw [kput_mapV AV.int]
        k_call_by "go" ()
        exact Weak.dropNs (m := [("script", sc), ("tall", tl), ("dark", .int dark), ("squares", sq), ("right", rt), ("below", bl), ("heights", .ref ha), ("height", .int (ht + dl))]) (.there .here)
  · rintro H' wk
    rw [List.length_map] at wk
    have e : heightsN rows dark (borderOf rows).length = heightsOf rows dark := by unfold heightsN heightsOf; rw [List.take_length]
    rw [e] at wk
    with_reducible refine LawAt.go (L := L) 12 ?_
    refine (h ha).weak (wk.trans (Weak.trans frUp (Weak.sub' ?_)))
    exact .cons_cons _ (.cons_cons _ (.cons_cons _ (.cons_cons _ (.cons_cons _ (.cons_cons _ (.cons _ (List.Sublist.refl _)))))))
end

end Mine
end
section
open PySem PySem.W PySem.Calls PyProof.Rows
set_option Elab.async false
set_option maxRecDepth 100000
set_option maxHeartbeats 4000000
set_option linter.unusedVariables false
namespace Mine
local macro_rules | `(tactic| k_call_by "bb" ()) => `(tactic| first | exact bb_len | exact bb_range | exact bb_isinstance | exact bb_all | exact bb_any | exact bb_int | exact bb_bool | exact bb_sorted | exact bb_min | exact bb_max | exact bb_dict | exact bb_set | exact bb_abs)
local macro_rules | `(tactic| k_call_by "bn" ()) => `(tactic| first | exact bn_len _ | exact bn_range _ | exact bn_isinstance _ | exact bn_all _ | exact bn_any _ | exact bn_int _ | exact bn_bool _ | exact bn_sorted _ | exact bn_min _ | exact bn_max _ | exact bn_dict _ | exact bn_set _ | exact bn_abs _)
local macro_rules | `(tactic| k_call_by "gv" ()) => `(tactic| first | exact gv_law_wide _ | exact gv_law_slim _ | exact gv_law_draw _ | exact gv_law_size _ | exact gv_law_plain _ | exact gv_law_lines _ | exact gv_law_rows _ | exact gv_law_border _ | exact gv_law_ways _ | exact gv_DeltaSimpleTemporalNetwork _ | exact gv_DeltaNeighbors _ | exact gv_deque _)
local macro_rules | `(tactic| k_call_by "mem" ()) => `(tactic| (repeat (first | with_unfolding_all exact List.Mem.head _ | with_unfolding_all apply List.Mem.tail)))
local macro_rules | `(tactic| k_call_by "get" ()) => `(tactic| (repeat (first | with_unfolding_all exact NGet.here | with_unfolding_all apply NGet.there (by with_unfolding_all exact rfl))))
local macro_rules | `(tactic| k_call_by "nput" ()) => `(tactic| (repeat (first | with_unfolding_all exact NPut.here | with_unfolding_all exact NPut.nil | with_unfolding_all apply NPut.there (by with_unfolding_all exact rfl))))
local macro_rules | `(tactic| k_call_by "put" ()) => `(tactic| (repeat (first | with_unfolding_all exact Put.here | with_unfolding_all apply Put.there)))
local macro_rules | `(tactic| k_call_by "rfl" ()) => `(tactic| with_unfolding_all exact rfl)
local macro_rules | `(tactic| k_call_by "name" ()) => `(tactic| (with_reducible refine isName ?_; first
  | with_reducible refine EV_local (by k_call_by "rfl" ()) (by k_call_by "mem" ()) (NGet.look (by k_call_by "get" ())) ?_
  | with_reducible refine EV_cell (by k_call_by "rfl" ()) (by k_call_by "rfl" ()) (by k_call_by "mem" ()) ?_
  | with_reducible refine EV_free (by k_call_by "rfl" ()) (by k_call_by "rfl" ()) (by k_call_by "mem" ()) ?_
  | with_reducible refine EV_builtin (nsK (by assumption) (by k_call_by "bn" ())) (by k_call_by "bb" ()) ?_
  | with_reducible refine EV_global (nsK (by assumption) (by k_call_by "gv" ())) (fun _ => .ref _) ?_
  | with_reducible refine EV_global (nsK (by assumption) (by k_call_by "gv" ())) (fun _ => .con _) ?_))
local macro_rules | `(tactic| k_call_by "set" ()) => `(tactic| (with_reducible refine isSet ?_; first
  | with_reducible refine SN_local (by k_call_by "rfl" ()) (by k_call_by "put" ()) (by k_call_by "nput" ()) ?_
  | with_reducible refine SN_cell (by k_call_by "rfl" ()) (by k_call_by "rfl" ()) (by k_call_by "put" ()) ?_))
local macro_rules | `(tactic| k_call_by "op" ()) => `(tactic| with_reducible first
  | refine op_add ?_
  | refine op_sub ?_
  | refine op_neg ?_
  | refine cmp_lt ?_
  | refine cmp_gt ?_
  | refine cmp_le ?_
  | refine cmp_ge ?_
  | refine cmp_eq ?_
  | refine cmp_ne ?_
  | refine tr_bool ?_
  | refine tr_int ?_
  | refine tr_none ?_)
local macro_rules | `(tactic| k_call_by "s" ()) => `(tactic| first
  | k_call_by "name" ()
  | with_reducible refine EX_If ?_
  | with_reducible refine EX_Return ?_
  | with_reducible refine EX_nil ?_
  | with_reducible refine EX_Continue ?_
  | with_reducible refine EX_Expr ?_
  | with_reducible refine EX_Assign ?_
  | with_reducible refine EX_AssignT ?_
  | with_reducible refine EX_AssignS ?_
  | with_reducible refine EX_AssignA ?_
  | with_reducible refine EV_int ?_
  | with_reducible refine EV_bool ?_
  | with_reducible refine EV_none ?_
  | with_reducible refine EV_BinOp ?_
  | with_reducible refine EV_UnaryOp ?_
  | with_reducible refine EB_Compare ?_
  | with_reducible refine EB_not ?_
  | with_reducible refine EB_and ?_
  | with_reducible refine EB_and_nil ?_
  | with_reducible refine EB_or ?_
  | with_reducible refine EB_or_nil ?_
  | with_reducible refine EV_Compare ?_
  | with_reducible refine EV_Sub ?_
  | with_reducible refine EV_IfExp ?_
  | with_reducible refine EV_Tuple ?_
  | with_reducible refine EV_List ?_
  | with_reducible refine EV_Call ?_
  | with_reducible refine EV_MCall ?_
  | with_reducible refine EV_Attr ?_
  | with_reducible refine EVs_cons ?_
  | with_reducible refine EVs_nil ?_
  | k_call_by "op" ()
  | k_call_by "set" ()
  | with_reducible refine AT_Name ?_
  | with_reducible refine EB_plain ?_
  | with_reducible refine okB ?_
  | with_reducible refine okT ?_
  | with_reducible refine okK (by assumption) (by k_call_by "rfl" ()) ?_)
local macro_rules | `(tactic| k_call_by "go" ()) => `(tactic| (repeat (k_call_by "s" ())))

local macro_rules | `(tactic| k_call_by "at" ()) => `(tactic| (refine LawAt.of (b := ?b9) ?hb9 ?_; case hb9 => (conv => lhs; whnf)))
local macro_rules | `(tactic| k_call_by "nc" ()) => `(tactic| (intro x e; cases e))
noncomputable def S0 (far : Int) : PS := ⟨[(1, 0), (0, -far)], [(0, []), (1, [(0, -far)])], true⟩
theorem start_add {far : Int} (h : 0 < far) (f : Nat) : PS.add (f + 2) ⟨[], [], true⟩ 1 0 (-far) = some (S0 far) := by
  have h' : ¬ (0 ≤ -far) := by omega
  have h2 : (0 : Int) + -far < 0 := by omega
  simp [PS.add, ksetd, kput, subsumed, ch, incAll, lk, inc, relax, S0, List.lookup, h]
theorem start_ok (far : Int) : okAdd ⟨[], [], true⟩ 1 0 (-far) := by
  refine ⟨by simp, by simp, ?_⟩
  intro k l hk
  have : kput (ksetd ([] : CL) 0 []) 1 ((0, -far) :: ch [] 1) = [(0, []), (1, [(0, -far)])] := by simp [ksetd, kput, ch, List.lookup]
  dsimp only at hk ⊢
  rw [this] at hk ⊢
  rw [List.lookup_cons] at hk
  by_cases h0 : k = 0
  · subst h0
    simp at hk
    subst hk
    simp
  · by_cases h1 : k = 1
    · subst h1
      simp [List.lookup] at hk
      subst hk
      simp [ksetd, List.lookup]
    · have e0 : (k == 0) = false := by simpa using h0
      have e1 : (k == 1) = false := by simpa using h1
      rw [e0, List.lookup_cons, e1] at hk
      simp at hk
theorem SN.weak {c : Cx} {A : Around} {Z : List (Addr × Obj)} {env : Env} {x : Str} {v : AV} {H H' : AHeap} {Φ : AHeap → Prop} (h : SN c A Z env x v H' Φ) (k : Weak c H H') : SN c A Z env x v H Φ := fun s vv S r => h s vv (k _ _ S) r
section
variable (c : Cx) (hK : c.K = hd.heap_39 c.w.params)
include hK
variable {A : Around} {Z : List (Addr × Obj)} {n : Nat} {H : AHeap}
theorem insCall {N : Net} {nodes R : AHeap} (X : AHeap) (hA : Ar A (n + 5)) {x y : Int} {lb rb : Option Int} {S S' : PS} {f : Nat} {Φ : AV → AHeap → Prop} (hN : NetOk N nodes S) (hok : okIns f S x y lb rb) (hf : f ≤ 10000) (hr : PS.ins f S x y lb rb = some S')
    (h : ∀ N' nodes', SameA N N' → (∀ p ∈ nodes, p ∈ nodes') → NetOk N' nodes' S' → Φ .none (X ++ netH N' (nodes' ++ R))) : CallT c A Z (.ref 188) [.ref N.a, .int x, .int y] (kwOf lb rb) (X ++ netH N (nodes ++ R)) Φ :=
  CodeT.call (CodeT.unders X (s_ins c hK hA hN hok hf hr fun N' nodes' h1 h2 h3 => ⟨N', nodes', rfl, h N' nodes' h1 h2 h3⟩))
theorem seg7 {Φ : AF → AHeap → Prop} (hA : Ar A (n + 6)) {L sa : Addr} {ns : List Int} (hl : ∀ H, Rd c H sa (.list (ns.map .int))) (hz : ns.length ≤ 63) {tl dk sq rt bl ht hg c1 c2 : AV}
   (h : ∀ N nodes, NetOk N nodes (S0 (64 + sizeOf ns 3)) → LawAt c A Z L 16 (frL L [("script", .ref sa), ("tall", tl), ("dark", dk), ("squares", sq), ("right", rt), ("below", bl), ("heights", ht), ("height", hg), ("far", .int (64 + sizeOf ns 3)), ("net", .ref N.a)] (some c1) (some c2) none none (netH N (nodes ++ H))) Φ) :
   LawAt c A Z L 12 (frL L [("script", .ref sa), ("tall", tl), ("dark", dk), ("squares", sq), ("right", rt), ("below", bl), ("heights", ht), ("height", hg)] (some c1) (some c2) none none H) Φ := by
  k_call_by "at" ()
  with_reducible refine EX_Assign ?_
  k_call_by "go" ()
  refine CodeT.call (s_size c hK hA (hl _) (by omega) (by omega) (by omega) ?_)
  have hfar : 0 < 64 + sizeOf ns 3 := by
    have : 0 ≤ sizeOf ns 3 := by
      unfold sizeOf
      dsimp only
      rw [Int.fmod_eq_emod_of_nonneg _ (by decide)]
      exact Int.emod_nonneg _ (by decide)
    omega
  k_call_by "go" ()
  generalize 64 + sizeOf ns 3 = far at hfar h ⊢
  refine CodeT.call (s_net0 c hK hA fun a d cd dd => ?_)
  have pm : ∀ F : AHeap, Weak c (netH ⟨a, d, dd, cd, [], [], true⟩ (F ++ H)) (F ++ netH ⟨a, d, dd, cd, [], [], true⟩ H) := fun F => Weak.perm' (List.perm_append_comm_assoc F (netH ⟨a, d, dd, cd, [], [], true⟩ []) H)
  refine SN.weak ?_ (pm (frL L [("script", .ref sa), ("tall", tl), ("dark", dk), ("squares", sq), ("right", rt), ("below", bl), ("heights", ht), ("height", hg), ("far", .int far)] (some c1) (some c2) none none []))
  show SN c A Z _ _ _ (frL L [("script", .ref sa), ("tall", tl), ("dark", dk), ("squares", sq), ("right", rt), ("below", bl), ("heights", ht), ("height", hg), ("far", .int far)] (some c1) (some c2) none none (netH ⟨a, d, dd, cd, [], [], true⟩ H)) _
  k_call_by "set" ()
  with_reducible refine EX_IfJ (fun H'' => ∃ N nodes, N.a = a ∧ NetOk N nodes (S0 far) ∧ H'' = frL L [("script", .ref sa), ("tall", tl), ("dark", dk), ("squares", sq), ("right", rt), ("below", bl), ("heights", ht), ("height", hg), ("far", .int far), ("net", .ref a)] (some c1) (some c2) none none (netH N (nodes ++ H))) ?_ ?_
  · k_call_by "go" ()
    refine CodeT.call (s_draw c hK hA (hl _) (by omega) (by omega) (by omega) (by omega) ?_)
    k_call_by "go" ()
    have hN : NetOk ⟨a, d, dd, cd, [], [], true⟩ [] ⟨[], [], true⟩ := ⟨rfl, rfl, .nil⟩
    split
    · with_reducible refine EX_Expr (EV_MCallK ?_)
      k_call_by "go" ()
      refine gm_203 hK (f := 188) (by simp) (by k_call_by "mem" ()) (by k_call_by "mem" ()) (by rfl) ?_
      k_call_by "go" ()
      refine EKs_cons ?_
      k_call_by "go" ()
      refine EKs_nil ?_
      refine insCall c hK (N := ⟨a, d, dd, cd, [], [], true⟩) (nodes := []) (R := H) (lb := some far) (rb := none) (f := 2) (frL L [("script", .ref sa), ("tall", tl), ("dark", dk), ("squares", sq), ("right", rt), ("below", bl), ("heights", ht), ("height", hg), ("far", .int far), ("net", .ref a)] (some c1) (some c2) none none []) hA hN (start_ok far) (by omega) (start_add hfar 0) fun N' nodes' h1 h2 h3 => ?_
      k_call_by "go" ()
      exact ⟨rfl, N', nodes', h1.1, h3, rfl⟩
    · with_reducible refine EX_Expr (EV_MCallK ?_)
      k_call_by "go" ()
      refine gm_203 hK (f := 188) (by simp) (by k_call_by "mem" ()) (by k_call_by "mem" ()) (by rfl) ?_
      k_call_by "go" ()
      refine EKs_cons ?_
      k_call_by "go" ()
      refine EKs_nil ?_
      refine insCall c hK (N := ⟨a, d, dd, cd, [], [], true⟩) (nodes := []) (R := H) (lb := none) (rb := some (-far)) (f := 2) (frL L [("script", .ref sa), ("tall", tl), ("dark", dk), ("squares", sq), ("right", rt), ("below", bl), ("heights", ht), ("height", hg), ("far", .int far), ("net", .ref a)] (some c1) (some c2) none none []) hA hN (start_ok far) (by omega) (start_add hfar 0) fun N' nodes' h1 h2 h3 => ?_
      k_call_by "go" ()
      exact ⟨rfl, N', nodes', h1.1, h3, rfl⟩
  · rintro H'' ⟨N, nodes, rfl, hN, rfl⟩
    k_call_by "go" ()
    refine gm_203 hK (f := 188) (by simp) (by k_call_by "mem" ()) (by k_call_by "mem" ()) (by rfl) ?_
    k_call_by "go" ()
    refine insCall c hK (N := N) (nodes := nodes) (R := H) (lb := none) (rb := none) (f := 2) (S' := S0 far) (frL L [("script", .ref sa), ("tall", tl), ("dark", dk), ("squares", sq), ("right", rt), ("below", bl), ("heights", ht), ("height", hg), ("far", .int far), ("net", .ref N.a)] (some c1) (some c2) none none []) hA hN (by show (S0 far).dist.length ≤ 1000; simp [S0]) (by omega) (by simp [PS.ins, S0, ksetd, List.lookup]) fun N' nodes' h1 h2 h3 => ?_
    with_reducible refine LawAt.go (L := L) 16 ?_
    have := h N' nodes' h3
    rw [h1.1] at this
    exact this
end

end Mine
end
section
open PySem PySem.W PySem.Calls PyProof.Rows
set_option Elab.async false
set_option maxRecDepth 100000
set_option maxHeartbeats 4000000
set_option linter.unusedVariables false
namespace Mine
local macro_rules | `(tactic| k_call_by "bb" ()) => `(tactic| first | exact bb_len | exact bb_range | exact bb_isinstance | exact bb_all | exact bb_any | exact bb_int | exact bb_bool | exact bb_sorted | exact bb_min | exact bb_max | exact bb_dict | exact bb_set | exact bb_abs)
local macro_rules | `(tactic| k_call_by "bn" ()) => `(tactic| first | exact bn_len _ | exact bn_range _ | exact bn_isinstance _ | exact bn_all _ | exact bn_any _ | exact bn_int _ | exact bn_bool _ | exact bn_sorted _ | exact bn_min _ | exact bn_max _ | exact bn_dict _ | exact bn_set _ | exact bn_abs _)
local macro_rules | `(tactic| k_call_by "gv" ()) => `(tactic| first | exact gv_law_wide _ | exact gv_law_slim _ | exact gv_law_draw _ | exact gv_law_size _ | exact gv_law_plain _ | exact gv_law_lines _ | exact gv_law_rows _ | exact gv_law_border _ | exact gv_law_ways _ | exact gv_DeltaSimpleTemporalNetwork _ | exact gv_DeltaNeighbors _ | exact gv_deque _)
local macro_rules | `(tactic| k_call_by "mem" ()) => `(tactic| (repeat (first | with_unfolding_all exact List.Mem.head _ | with_unfolding_all apply List.Mem.tail)))
local macro_rules | `(tactic| k_call_by "get" ()) => `(tactic| (repeat (first | with_unfolding_all exact NGet.here | with_unfolding_all apply NGet.there (by with_unfolding_all exact rfl))))
local macro_rules | `(tactic| k_call_by "nput" ()) => `(tactic| (repeat (first | with_unfolding_all exact NPut.here | with_unfolding_all exact NPut.nil | with_unfolding_all apply NPut.there (by with_unfolding_all exact rfl))))
local macro_rules | `(tactic| k_call_by "put" ()) => `(tactic| (repeat (first | with_unfolding_all exact Put.here | with_unfolding_all apply Put.there)))
local macro_rules | `(tactic| k_call_by "rfl" ()) => `(tactic| with_unfolding_all exact rfl)
local macro_rules | `(tactic| k_call_by "name" ()) => `(tactic| (with_reducible refine isName ?_; first
  | with_reducible refine EV_local (by k_call_by "rfl" ()) (by k_call_by "mem" ()) (NGet.look (by k_call_by "get" ())) ?_
  | with_reducible refine EV_cell (by k_call_by "rfl" ()) (by k_call_by "rfl" ()) (by k_call_by "mem" ()) ?_
  | with_reducible refine EV_free (by k_call_by "rfl" ()) (by k_call_by "rfl" ()) (by k_call_by "mem" ()) ?_
  | with_reducible refine EV_builtin (nsK (by assumption) (by k_call_by "bn" ())) (by k_call_by "bb" ()) ?_
  | with_reducible refine EV_global (nsK (by assumption) (by k_call_by "gv" ())) (fun _ => .ref _) ?_
  | with_reducible refine EV_global (nsK (by assumption) (by k_call_by "gv" ())) (fun _ => .con _) ?_))
local macro_rules | `(tactic| k_call_by "set" ()) => `(tactic| (with_reducible refine isSet ?_; first
  | with_reducible refine SN_local (by k_call_by "rfl" ()) (by k_call_by "put" ()) (by k_call_by "nput" ()) ?_
  | with_reducible refine SN_cell (by k_call_by "rfl" ()) (by k_call_by "rfl" ()) (by k_call_by "put" ()) ?_))
local macro_rules | `(tactic| k_call_by "op" ()) => `(tactic| with_reducible first
  | refine op_add ?_
  | refine op_sub ?_
  | refine op_neg ?_
  | refine cmp_lt ?_
  | refine cmp_gt ?_
  | refine cmp_le ?_
  | refine cmp_ge ?_
  | refine cmp_eq ?_
  | refine cmp_ne ?_
  | refine tr_bool ?_
  | refine tr_int ?_
  | refine tr_none ?_)
local macro_rules | `(tactic| k_call_by "s" ()) => `(tactic| first
  | k_call_by "name" ()
  | with_reducible refine EX_If ?_
  | with_reducible refine EX_Return ?_
  | with_reducible refine EX_nil ?_
  | with_reducible refine EX_Continue ?_
  | with_reducible refine EX_Expr ?_
  | with_reducible refine EX_Assign ?_
  | with_reducible refine EX_AssignT ?_
  | with_reducible refine EX_AssignS ?_
  | with_reducible refine EX_AssignA ?_
  | with_reducible refine EV_int ?_
  | with_reducible refine EV_bool ?_
  | with_reducible refine EV_none ?_
  | with_reducible refine EV_BinOp ?_
  | with_reducible refine EV_UnaryOp ?_
  | with_reducible refine EB_Compare ?_
  | with_reducible refine EB_not ?_
  | with_reducible refine EB_and ?_
  | with_reducible refine EB_and_nil ?_
  | with_reducible refine EB_or ?_
  | with_reducible refine EB_or_nil ?_
  | with_reducible refine EV_Compare ?_
  | with_reducible refine EV_Sub ?_
  | with_reducible refine EV_IfExp ?_
  | with_reducible refine EV_Tuple ?_
  | with_reducible refine EV_List ?_
  | with_reducible refine EV_Call ?_
  | with_reducible refine EV_MCall ?_
  | with_reducible refine EV_Attr ?_
  | with_reducible refine EVs_cons ?_
  | with_reducible refine EVs_nil ?_
  | k_call_by "op" ()
  | k_call_by "set" ()
  | with_reducible refine AT_Name ?_
  | with_reducible refine EB_plain ?_
  | with_reducible refine okB ?_
  | with_reducible refine okT ?_
  | with_reducible refine okK (by assumption) (by k_call_by "rfl" ()) ?_)
local macro_rules | `(tactic| k_call_by "go" ()) => `(tactic| (repeat (k_call_by "s" ())))

local macro_rules | `(tactic| k_call_by "at" ()) => `(tactic| (refine LawAt.of (b := ?b9) ?hb9 ?_; case hb9 => (conv => lhs; whnf)))
local macro_rules | `(tactic| k_call_by "nc" ()) => `(tactic| (intro x e; cases e))
noncomputable abbrev Edge := List Int × List Int
noncomputable def edgeA (e : Edge) : AV := .tup [tupL e.1, tupL e.2]
noncomputable def rightE (dark : Int) (r c x : Int) : List Edge := if 0 ≤ x then [if (r + c + dark).fmod 2 == 0 then ([r + 1, c + 1], [r, c + 1]) else ([r, c + 1], [r + 1, c + 1])] else []
noncomputable def belowE (dark : Int) (r c x : Int) : List Edge := if 0 ≤ x then [if (r + c + dark).fmod 2 == 0 then ([r + 1, c], [r + 1, c + 1]) else ([r + 1, c + 1], [r + 1, c])] else []
noncomputable def edgesAt (sq : List (List Int)) (right below : List Int) (dark : Int) (k : Nat) : List Edge :=
  rightE dark ((sq.getD k []).getD 0 0) ((sq.getD k []).getD 1 0) (right.getD k 0) ++ belowE dark ((sq.getD k []).getD 0 0) ((sq.getD k []).getD 1 0) (below.getD k 0)
noncomputable def edgesN (sq : List (List Int)) (right below : List Int) (dark : Int) (m : Nat) : List Edge := (List.range m).flatMap (edgesAt sq right below dark)
noncomputable def edgesOf (sq : List (List Int)) (right below : List Int) (dark : Int) : List Edge := edgesN sq right below dark sq.length
theorem rightE_len (dark r c x : Int) : (rightE dark r c x).length ≤ 1 := by unfold rightE; split <;> simp
theorem belowE_len (dark r c x : Int) : (belowE dark r c x).length ≤ 1 := by unfold belowE; split <;> simp
theorem edgesN_len (sq : List (List Int)) (right below : List Int) (dark : Int) (m : Nat) : (edgesN sq right below dark m).length ≤ 2 * m := by
  have := flat_len (f := edgesAt sq right below dark) (l := List.range m) (m := 2) (fun a _ => by
    unfold edgesAt
    rw [List.length_append]
    exact Nat.add_le_add (rightE_len ..) (belowE_len ..))
  rw [List.length_range] at this
  exact this
section
variable (c : Cx) (hK : c.K = hd.heap_39 c.w.params)
include hK
variable {A : Around} {Z : List (Addr × Obj)} {n : Nat} {H : AHeap}
theorem seg8 {Φ : AF → AHeap → Prop} (hA : Ar A (n + 1)) {L sqa rta bla : Addr} {sq : List (List Int)} {right below : List Int} {dark : Int} {sc tl ht hg fr nt c1 c2 : AV}
   (hs : Rd c H sqa (.list (sq.map tupL))) (hrt : Rd c H rta (.list (right.map .int))) (hbl : Rd c H bla (.list (below.map .int))) (hsq : ∀ s ∈ sq, ∃ r c, s = [r, c]) (hz : sq.length ≤ 100) (hz1 : right.length = sq.length) (hz2 : below.length = sq.length)
   (h : ∀ ea, LawAt c A Z L 18 (frL L [("script", sc), ("tall", tl), ("dark", .int dark), ("squares", .ref sqa), ("right", .ref rta), ("below", .ref bla), ("heights", ht), ("height", hg), ("far", fr), ("net", nt), ("edges", .ref ea)] (some c1) (some c2) none none ((ea, .list ((edgesOf sq right below dark).map edgeA)) :: H)) Φ) :
   LawAt c A Z L 16 (frL L [("script", sc), ("tall", tl), ("dark", .int dark), ("squares", .ref sqa), ("right", .ref rta), ("below", .ref bla), ("heights", ht), ("height", hg), ("far", fr), ("net", nt)] (some c1) (some c2) none none H) Φ := by
  k_call_by "at" ()
  with_reducible refine EX_Assign ?_
  k_call_by "go" ()
  refine ⟨by simp, fun ea => ?_⟩
  k_call_by "set" ()
  with_reducible refine EX_For ?_
  k_call_by "go" ()
  refine b_len_list (hs.fr [_]) (by rw [List.length_map]; omega) ?_
  rw [List.length_map]
  k_call_by "go" ()
  refine b_range1 fun rg => ?_
  have hsm := small_r (i := 0) (j := sq.length) (by omega) (by omega) (.inl rfl)
  refine ⟨_, _, fun i H' => Weak c H' ((ea, .list ((edgesN sq right below dark i).map edgeA)) :: frL L [("script", sc), ("tall", tl), ("dark", .int dark), ("squares", .ref sqa), ("right", .ref rta), ("below", .ref bla), ("heights", ht), ("height", hg), ("far", fr), ("net", nt), ("edges", .ref ea)] (some c1) (some c2) none none H), Loop.range hA (.inl ⟨_, _, rfl⟩) (.head _) hsm.1 hsm.2.1, ?_, fun _ _ _ => trivial, ?_, ?_⟩
  · exact Weak.sub' (.cons _ (List.Sublist.refl _))
  · rintro i x H' Z hx wk
    obtain ⟨hi, rfl⟩ := rangeIdx hx
    refine AT.weak ?_ wk
    have hgs : sq[i]? = some (sq.getD i []) := by simp [List.getD, hi]
    obtain ⟨r, q, hrq⟩ := hsq _ (List.mem_of_getElem? hgs)
    have hgr : right[i]? = some (right.getD i 0) := by
      have : i < right.length := by omega
      simp [List.getD, this]
    have hgb : below[i]? = some (below.getD i 0) := by
      have : i < below.length := by omega
      simp [List.getD, this]
    have hE : edgesN sq right below dark (i + 1) = edgesN sq right below dark i ++ (rightE dark r q (right.getD i 0) ++ belowE dark r q (below.getD i 0)) := by
      unfold edgesN
      rw [List.range_succ, List.flatMap_append]
      simp only [List.flatMap_cons, List.flatMap_nil, List.append_nil]
      congr 1
      unfold edgesAt
      rw [hrq]; rfl
    have hlen := edgesN_len sq right below dark i
    generalize edgesN sq right below dark i = E at hE hlen ⊢
    generalize right.getD i 0 = x1 at hE hgr
    generalize below.getD i 0 = x2 at hE hgb
    k_call_by "go" ()
    refine sub_list (hs.fr [_]) (by omega) (x := tupL [r, q]) (by rw [List.getElem?_map, Int.toNat_natCast, hgs, hrq]; rfl) (by omega) ?_ (by intro _; rfl)
    refine AT_Tuple hA rfl ?_ nm2
    simp only [ATs, List.map_cons, List.map_nil]
    k_call_by "go" ()
    refine op_mod (by decide) ?_
    k_call_by "s" ()
    k_call_by "op" ()
    k_call_by "set" ()
    have hlen1 := rightE_len dark r q x1
    have hlen2 := belowE_len dark r q x2
    generalize hR : rightE dark r q x1 = R at hlen1 hE ⊢
    generalize hB : belowE dark r q x2 = B at hlen2 hE ⊢
    unfold rightE at hR
    unfold belowE at hB
    generalize ((r + q + dark).fmod 2 == 0) = b at hR hB ⊢
    with_reducible refine EX_IfJ (fun H'' => H'' = (ea, .list ((E ++ R).map edgeA)) :: frL L [("script", sc), ("tall", tl), ("dark", .int dark), ("squares", .ref sqa), ("right", .ref rta), ("below", .ref bla), ("heights", ht), ("height", hg), ("far", fr), ("net", nt), ("edges", .ref ea), ("k", .int i), ("r", .int r), ("c", .int q), ("black", .bool b)] (some c1) (some c2) none none H) ?_ ?_
    · k_call_by "go" ()
      refine sub_list (hrt.fr [_]) (by omega) (x := .int x1) (by rw [List.getElem?_map, Int.toNat_natCast, hgr]; rfl) (by omega) ?_ (by intro _; rfl)
      k_call_by "go" ()
      by_cases h0 : 0 ≤ x1
      · rw [if_pos (by simpa using h0)]
        rw [if_pos h0] at hR
        k_call_by "go" ()
        refine GM_builtin (by k_call_by "mem" ()) (fun _ x => own_list x) F.plainAttrs_list F.slot_list_append F.type_list_append ?_
        k_call_by "go" ()
        cases b with
        | true =>
          rw [if_pos rfl] at hR ⊢
          k_call_by "go" ()
          refine ⟨by simp, ?_⟩
          k_call_by "go" ()
          refine ⟨by simp, ?_⟩
          k_call_by "go" ()
          refine ⟨by simp, ?_⟩
          k_call_by "go" ()
          refine m_append (by k_call_by "put" ()) (by rw [List.length_map]; omega) ?_
          k_call_by "go" ()
          exact ⟨rfl, by rw [← hR, List.map_append]; rfl⟩
        | false =>
          rw [if_neg (by decide)] at hR ⊢
          k_call_by "go" ()
          refine ⟨by simp, ?_⟩
          k_call_by "go" ()
          refine ⟨by simp, ?_⟩
          k_call_by "go" ()
          refine ⟨by simp, ?_⟩
          k_call_by "go" ()
          refine m_append (by k_call_by "put" ()) (by rw [List.length_map]; omega) ?_
          k_call_by "go" ()
          exact ⟨rfl, by rw [← hR, List.map_append]; rfl⟩
      · rw [if_neg (by simpa using h0)]
        rw [if_neg h0] at hR
        k_call_by "go" ()
        exact ⟨rfl, by rw [← hR, List.append_nil]⟩
    · rintro H'' rfl
      with_reducible refine EX_IfJ (fun H'' => H'' = (ea, .list (((E ++ R) ++ B).map edgeA)) :: frL L [("script", sc), ("tall", tl), ("dark", .int dark), ("squares", .ref sqa), ("right", .ref rta), ("below", .ref bla), ("heights", ht), ("height", hg), ("far", fr), ("net", nt), ("edges", .ref ea), ("k", .int i), ("r", .int r), ("c", .int q), ("black", .bool b)] (some c1) (some c2) none none H) ?_ ?_
      · k_call_by "go" ()
        refine sub_list (hbl.fr [_]) (by omega) (x := .int x2) (by rw [List.getElem?_map, Int.toNat_natCast, hgb]; rfl) (by omega) ?_ (by intro _; rfl)
        k_call_by "go" ()
        by_cases h0 : 0 ≤ x2
        · rw [if_pos (by simpa using h0)]
          rw [if_pos h0] at hB
          k_call_by "go" ()
          refine GM_builtin (by k_call_by "mem" ()) (fun _ x => own_list x) F.plainAttrs_list F.slot_list_append F.type_list_append ?_
          k_call_by "go" ()
          cases b with
          | true =>
            rw [if_pos rfl] at hB ⊢
            k_call_by "go" ()
            refine ⟨by simp, ?_⟩
            k_call_by "go" ()
            refine ⟨by simp, ?_⟩
            k_call_by "go" ()
            refine ⟨by simp, ?_⟩
            k_call_by "go" ()
            refine m_append (by k_call_by "put" ()) (by rw [List.length_map, List.length_append]; omega) ?_
            k_call_by "go" ()
            exact ⟨rfl, by rw [← hB, List.map_append (l₁ := E ++ R)]; rfl⟩
          | false =>
            rw [if_neg (by decide)] at hB ⊢
            k_call_by "go" ()
            refine ⟨by simp, ?_⟩
            k_call_by "go" ()
            refine ⟨by simp, ?_⟩
            k_call_by "go" ()
            refine ⟨by simp, ?_⟩
            k_call_by "go" ()
            refine m_append (by k_call_by "put" ()) (by rw [List.length_map, List.length_append]; omega) ?_
            k_call_by "go" ()
            exact ⟨rfl, by rw [← hB, List.map_append (l₁ := E ++ R)]; rfl⟩
        · rw [if_neg (by simpa using h0)]
          rw [if_neg h0] at hB
          k_call_by "go" ()
          exact ⟨rfl, by rw [← hB, List.append_nil]⟩
      · rintro H'' rfl
        k_call_by "go" ()
        rw [hE, ← List.append_assoc]
        exact Weak.dropNs (m := [("script", sc), ("tall", tl), ("dark", .int dark), ("squares", .ref sqa), ("right", .ref rta), ("below", .ref bla), ("heights", ht), ("height", hg), ("far", fr), ("net", nt), ("edges", .ref ea)]) (.there .here)
  · rintro H' wk
    rw [rangeLen] at wk
    with_reducible refine LawAt.go (L := L) 18 ?_
    exact (h ea).weak (wk.trans frUp)
end

end Mine
end
section
open PySem PySem.W PySem.Calls PyProof.Rows
set_option Elab.async false
set_option maxRecDepth 100000
set_option maxHeartbeats 4000000
set_option linter.unusedVariables false
namespace Mine
local macro_rules | `(tactic| k_call_by "bb" ()) => `(tactic| first | exact bb_len | exact bb_range | exact bb_isinstance | exact bb_all | exact bb_any | exact bb_int | exact bb_bool | exact bb_sorted | exact bb_min | exact bb_max | exact bb_dict | exact bb_set | exact bb_abs)
local macro_rules | `(tactic| k_call_by "bn" ()) => `(tactic| first | exact bn_len _ | exact bn_range _ | exact bn_isinstance _ | exact bn_all _ | exact bn_any _ | exact bn_int _ | exact bn_bool _ | exact bn_sorted _ | exact bn_min _ | exact bn_max _ | exact bn_dict _ | exact bn_set _ | exact bn_abs _)
local macro_rules | `(tactic| k_call_by "gv" ()) => `(tactic| first | exact gv_law_wide _ | exact gv_law_slim _ | exact gv_law_draw _ | exact gv_law_size _ | exact gv_law_plain _ | exact gv_law_lines _ | exact gv_law_rows _ | exact gv_law_border _ | exact gv_law_ways _ | exact gv_DeltaSimpleTemporalNetwork _ | exact gv_DeltaNeighbors _ | exact gv_deque _)
local macro_rules | `(tactic| k_call_by "mem" ()) => `(tactic| (repeat (first | with_unfolding_all exact List.Mem.head _ | with_unfolding_all apply List.Mem.tail)))
local macro_rules | `(tactic| k_call_by "get" ()) => `(tactic| (repeat (first | with_unfolding_all exact NGet.here | with_unfolding_all apply NGet.there (by with_unfolding_all exact rfl))))
local macro_rules | `(tactic| k_call_by "nput" ()) => `(tactic| (repeat (first | with_unfolding_all exact NPut.here | with_unfolding_all exact NPut.nil | with_unfolding_all apply NPut.there (by with_unfolding_all exact rfl))))
local macro_rules | `(tactic| k_call_by "put" ()) => `(tactic| (repeat (first | with_unfolding_all exact Put.here | with_unfolding_all apply Put.there)))
local macro_rules | `(tactic| k_call_by "rfl" ()) => `(tactic| with_unfolding_all exact rfl)
local macro_rules | `(tactic| k_call_by "name" ()) => `(tactic| (with_reducible refine isName ?_; first
  | with_reducible refine EV_local (by k_call_by "rfl" ()) (by k_call_by "mem" ()) (NGet.look (by k_call_by "get" ())) ?_
  | with_reducible refine EV_cell (by k_call_by "rfl" ()) (by k_call_by "rfl" ()) (by k_call_by "mem" ()) ?_
  | with_reducible refine EV_free (by k_call_by "rfl" ()) (by k_call_by "rfl" ()) (by k_call_by "mem" ()) ?_
  | with_reducible refine EV_builtin (nsK (by assumption) (by k_call_by "bn" ())) (by k_call_by "bb" ()) ?_
  | with_reducible refine EV_global (nsK (by assumption) (by k_call_by "gv" ())) (fun _ => .ref _) ?_
  | with_reducible refine EV_global (nsK (by assumption) (by k_call_by "gv" ())) (fun _ => .con _) ?_))
local macro_rules | `(tactic| k_call_by "set" ()) => `(tactic| (with_reducible refine isSet ?_; first
  | with_reducible refine SN_local (by k_call_by "rfl" ()) (by k_call_by "put" ()) (by k_call_by "nput" ()) ?_
  | with_reducible refine SN_cell (by k_call_by "rfl" ()) (by k_call_by "rfl" ()) (by k_call_by "put" ()) ?_))
local macro_rules | `(tactic| k_call_by "op" ()) => `(tactic| with_reducible first
  | refine op_add ?_
  | refine op_sub ?_
  | refine op_neg ?_
  | refine cmp_lt ?_
  | refine cmp_gt ?_
  | refine cmp_le ?_
  | refine cmp_ge ?_
  | refine cmp_eq ?_
  | refine cmp_ne ?_
  | refine tr_bool ?_
  | refine tr_int ?_
  | refine tr_none ?_)
local macro_rules | `(tactic| k_call_by "s" ()) => `(tactic| first
  | k_call_by "name" ()
  | with_reducible refine EX_If ?_
  | with_reducible refine EX_Return ?_
  | with_reducible refine EX_nil ?_
  | with_reducible refine EX_Continue ?_
  | with_reducible refine EX_Expr ?_
  | with_reducible refine EX_Assign ?_
  | with_reducible refine EX_AssignT ?_
  | with_reducible refine EX_AssignS ?_
  | with_reducible refine EX_AssignA ?_
  | with_reducible refine EV_int ?_
  | with_reducible refine EV_bool ?_
  | with_reducible refine EV_none ?_
  | with_reducible refine EV_BinOp ?_
  | with_reducible refine EV_UnaryOp ?_
  | with_reducible refine EB_Compare ?_
  | with_reducible refine EB_not ?_
  | with_reducible refine EB_and ?_
  | with_reducible refine EB_and_nil ?_
  | with_reducible refine EB_or ?_
  | with_reducible refine EB_or_nil ?_
  | with_reducible refine EV_Compare ?_
  | with_reducible refine EV_Sub ?_
  | with_reducible refine EV_IfExp ?_
  | with_reducible refine EV_Tuple ?_
  | with_reducible refine EV_List ?_
  | with_reducible refine EV_Call ?_
  | with_reducible refine EV_MCall ?_
  | with_reducible refine EV_Attr ?_
  | with_reducible refine EVs_cons ?_
  | with_reducible refine EVs_nil ?_
  | k_call_by "op" ()
  | k_call_by "set" ()
  | with_reducible refine AT_Name ?_
  | with_reducible refine EB_plain ?_
  | with_reducible refine okB ?_
  | with_reducible refine okT ?_
  | with_reducible refine okK (by assumption) (by k_call_by "rfl" ()) ?_)
local macro_rules | `(tactic| k_call_by "go" ()) => `(tactic| (repeat (k_call_by "s" ())))

local macro_rules | `(tactic| k_call_by "at" ()) => `(tactic| (refine LawAt.of (b := ?b9) ?hb9 ?_; case hb9 => (conv => lhs; whnf)))
local macro_rules | `(tactic| k_call_by "nc" ()) => `(tactic| (intro x e; cases e))
noncomputable def idOf (hs : TD) (u : List Int) : Int := if (hs.lookup u).isSome then 0 else u.getD 0 0 * 64 + u.getD 1 0 + 32
noncomputable def riseOf (hs : TD) (e : Edge) : Int := (hs.lookup e.1).getD 0 - (hs.lookup e.2).getD 0
noncomputable def askOf (hs : TD) (e : Edge) : List Int := [idOf hs e.1, idOf hs e.2, riseOf hs e - 3, riseOf hs e + 1]
noncomputable def askedOf (hs : TD) (height : Int) (edges : List Edge) : List (List Int) := edges.map (askOf hs) ++ [[0, 0, height, height]]
noncomputable def EdgesOk (edges : List Edge) : Prop := ∀ e ∈ edges, ∃ a b a' b', e = ([a, b], [a', b']) ∧ a.natAbs < 1000 ∧ a'.natAbs < 1000
section
variable (c : Cx) (hK : c.K = hd.heap_39 c.w.params)
include hK
variable {A : Around} {Z : List (Addr × Obj)} {n : Nat} {H : AHeap}
theorem seg9 {Φ : AF → AHeap → Prop} (hA : Ar A (n + 1)) {L ha ea : Addr} {hs : TD} {edges : List Edge} {height : Int} {sc tl dk sq rt bl fr nt c1 c2 : AV}
   (hh : Rd c H ha (tdA hs)) (he : Rd c H ea (.list (edges.map edgeA))) (hE : EdgesOk edges) (hz : edges.length ≤ 1000)
   (h : ∀ aa, LawAt c A Z L 21 (frL L [("script", sc), ("tall", tl), ("dark", dk), ("squares", sq), ("right", rt), ("below", bl), ("heights", .ref ha), ("height", .int height), ("far", fr), ("net", nt), ("edges", .ref ea), ("asked", .ref aa)] (some c1) (some c2) none none ((aa, .list ((askedOf hs height edges).map tupL)) :: H)) Φ) :
   LawAt c A Z L 18 (frL L [("script", sc), ("tall", tl), ("dark", dk), ("squares", sq), ("right", rt), ("below", bl), ("heights", .ref ha), ("height", .int height), ("far", fr), ("net", nt), ("edges", .ref ea)] (some c1) (some c2) none none H) Φ := by
  k_call_by "at" ()
  with_reducible refine EX_Assign ?_
  k_call_by "go" ()
  refine ⟨by simp, fun aa => ?_⟩
  k_call_by "set" ()
  with_reducible refine EX_For ?_
  k_call_by "go" ()
  refine ⟨_, _, fun i H' => Weak c H' ((aa, .list (((edges.take i).map (askOf hs)).map tupL)) :: frL L [("script", sc), ("tall", tl), ("dark", dk), ("squares", sq), ("right", rt), ("below", bl), ("heights", .ref ha), ("height", .int height), ("far", fr), ("net", nt), ("edges", .ref ea), ("asked", .ref aa)] (some c1) (some c2) none none H), Loop.list hA (.inr ⟨_, _, _, rfl⟩) (he.fr [_]), ?_, ?_, ?_, ?_⟩
  · exact .refl _ _
  · intro i H' wk
    exact Rd.weak (he.fr [_]) wk
  · rintro i x H' Z hx wk
    obtain ⟨e, hei, rfl⟩ : ∃ e, edges[i]? = some e ∧ edgeA e = x := by simpa using hx
    have hlt := (List.getElem?_eq_some_iff.mp hei).1
    have hsucc : edges.take (i + 1) = edges.take i ++ [e] := by rw [List.take_add_one, hei]; rfl
    obtain ⟨a, b, a', b', rfl, ha1, ha2⟩ := hE e (List.mem_of_getElem? hei)
    have hask : askOf hs ([a, b], [a', b']) = [idOf hs [a, b], idOf hs [a', b'], riseOf hs ([a, b], [a', b']) - 3, riseOf hs ([a, b], [a', b']) + 1] := rfl
    have hrise : riseOf hs ([a, b], [a', b']) = (hs.lookup [a, b]).getD 0 - (hs.lookup [a', b']).getD 0 := rfl
    have hid1 : idOf hs [a, b] = if (hs.lookup [a, b]).isSome then 0 else a * 64 + b + 32 := rfl
    have hid2 : idOf hs [a', b'] = if (hs.lookup [a', b']).isSome then 0 else a' * 64 + b' + 32 := rfl
    have hlen : (edges.take i).length ≤ 1000 := by rw [List.length_take]; omega
    generalize edges.take i = E at hsucc hlen wk
    generalize idOf hs [a, b] = i1 at hid1 hask
    generalize idOf hs [a', b'] = i2 at hid2 hask
    generalize riseOf hs ([a, b], [a', b']) = rise at hrise hask
    refine AT.weak ?_ wk
    refine AT_Tuple hA rfl ?_ nm2
    simp only [ATs, List.map_cons, List.map_nil]
    k_call_by "s" ()
    k_call_by "set" ()
    k_call_by "s" ()
    k_call_by "set" ()
    with_reducible refine EX_Assign (EV_IfExpJ (fun v H' => v = AV.int i1 ∧ H' = (aa, .list ((E.map (askOf hs)).map tupL)) :: frL L [("script", sc), ("tall", tl), ("dark", dk), ("squares", sq), ("right", rt), ("below", bl), ("heights", .ref ha), ("height", .int height), ("far", fr), ("net", nt), ("edges", .ref ea), ("asked", .ref aa), ("u", tupL [a, b]), ("v", tupL [a', b'])] (some c1) (some c2) none none H) ?_ ?_)
    · k_call_by "go" ()
      refine in_tdict hA (k := [a, b]) (hh.fr [_]) ?_
      rw [lookT, Option.isSome_map]
      k_call_by "go" ()
      split
      · rename_i hin
        rw [if_pos hin] at hid1
        k_call_by "go" ()
        exact ⟨by rw [hid1], rfl⟩
      · rename_i hin
        rw [if_neg hin] at hid1
        k_call_by "go" ()
        refine sub_tup (by decide) (x := .int a) (by rfl) (by decide) ?_
        k_call_by "go" ()
        refine op_mul (mul_ok 10 7 (by omega) (by decide)) ?_
        k_call_by "go" ()
        refine sub_tup (by decide) (x := .int b) (by rfl) (by decide) ?_
        k_call_by "go" ()
        exact ⟨by rw [hid1], rfl⟩
    rintro v H' ⟨rfl, rfl⟩
    k_call_by "set" ()
    with_reducible refine EX_Assign (EV_IfExpJ (fun v H' => v = AV.int i2 ∧ H' = (aa, .list ((E.map (askOf hs)).map tupL)) :: frL L [("script", sc), ("tall", tl), ("dark", dk), ("squares", sq), ("right", rt), ("below", bl), ("heights", .ref ha), ("height", .int height), ("far", fr), ("net", nt), ("edges", .ref ea), ("asked", .ref aa), ("u", tupL [a, b]), ("v", tupL [a', b']), ("one", .int i1)] (some c1) (some c2) none none H) ?_ ?_)
    · k_call_by "go" ()
      refine in_tdict hA (k := [a', b']) (hh.fr [_]) ?_
      rw [lookT, Option.isSome_map]
      k_call_by "go" ()
      split
      · rename_i hin
        rw [if_pos hin] at hid2
        k_call_by "go" ()
        exact ⟨by rw [hid2], rfl⟩
      · rename_i hin
        rw [if_neg hin] at hid2
        k_call_by "go" ()
        refine sub_tup (by decide) (x := .int a') (by rfl) (by decide) ?_
        k_call_by "go" ()
        refine op_mul (mul_ok 10 7 (by omega) (by decide)) ?_
        k_call_by "go" ()
        refine sub_tup (by decide) (x := .int b') (by rfl) (by decide) ?_
        k_call_by "go" ()
        exact ⟨by rw [hid2], rfl⟩
    rintro v H' ⟨rfl, rfl⟩
    k_call_by "set" ()
    k_call_by "go" ()
    refine GM_rd (hh.fr [_]) (fun _ x => own_tdict x) F.plainAttrs_dict F.slot_dict_get F.type_dict_get ?_
    k_call_by "go" ()
    refine m_getT hA (k := [a, b]) (hh.fr [_]) ?_
    rw [lookT, show ((hs.lookup [a, b]).map AV.int).getD (.int 0) = .int ((hs.lookup [a, b]).getD 0) by cases hs.lookup [a, b] <;> rfl]
    k_call_by "go" ()
    refine GM_rd (hh.fr [_]) (fun _ x => own_tdict x) F.plainAttrs_dict F.slot_dict_get F.type_dict_get ?_
    k_call_by "go" ()
    refine m_getT hA (k := [a', b']) (hh.fr [_]) ?_
    rw [lookT, show ((hs.lookup [a', b']).map AV.int).getD (.int 0) = .int ((hs.lookup [a', b']).getD 0) by cases hs.lookup [a', b'] <;> rfl]
    k_call_by "op" ()
    rw [← hrise]
    k_call_by "go" ()
    refine GM_builtin (by k_call_by "mem" ()) (fun _ x => own_list x) F.plainAttrs_list F.slot_list_append F.type_list_append ?_
    k_call_by "go" ()
    refine ⟨by simp, ?_⟩
    k_call_by "go" ()
    refine m_append (by k_call_by "put" ()) (by rw [List.length_map, List.length_map]; omega) ?_
    k_call_by "go" ()
    rw [hsucc, List.map_append, List.map_append]
    simp only [List.map_cons, List.map_nil, hask]
    exact Weak.dropNs (m := [("script", sc), ("tall", tl), ("dark", dk), ("squares", sq), ("right", rt), ("below", bl), ("heights", .ref ha), ("height", .int height), ("far", fr), ("net", nt), ("edges", .ref ea), ("asked", .ref aa)]) (.there .here)
  · rintro H' wk
    rw [List.length_map, List.take_length] at wk
    refine Tr.weak ?_ wk
    k_call_by "go" ()
    refine GM_builtin (by k_call_by "mem" ()) (fun _ x => own_list x) F.plainAttrs_list F.slot_list_append F.type_list_append ?_
    k_call_by "go" ()
    refine ⟨by simp, ?_⟩
    k_call_by "go" ()
    refine m_append (by k_call_by "put" ()) (by rw [List.length_map, List.length_map]; omega) ?_
    with_reducible refine LawAt.go (L := L) 21 ?_
    have := h aa
    unfold askedOf at this
    rw [List.map_append] at this
    exact this.weak frUp
end

end Mine
end
section
open PySem PySem.W PySem.Calls PyProof.Rows
set_option Elab.async false
set_option maxRecDepth 100000
set_option maxHeartbeats 4000000
set_option linter.unusedVariables false
namespace Mine
local macro_rules | `(tactic| k_call_by "bb" ()) => `(tactic| first | exact bb_len | exact bb_range | exact bb_isinstance | exact bb_all | exact bb_any | exact bb_int | exact bb_bool | exact bb_sorted | exact bb_min | exact bb_max | exact bb_dict | exact bb_set | exact bb_abs)
local macro_rules | `(tactic| k_call_by "bn" ()) => `(tactic| first | exact bn_len _ | exact bn_range _ | exact bn_isinstance _ | exact bn_all _ | exact bn_any _ | exact bn_int _ | exact bn_bool _ | exact bn_sorted _ | exact bn_min _ | exact bn_max _ | exact bn_dict _ | exact bn_set _ | exact bn_abs _)
local macro_rules | `(tactic| k_call_by "gv" ()) => `(tactic| first | exact gv_law_wide _ | exact gv_law_slim _ | exact gv_law_draw _ | exact gv_law_size _ | exact gv_law_plain _ | exact gv_law_lines _ | exact gv_law_rows _ | exact gv_law_border _ | exact gv_law_ways _ | exact gv_DeltaSimpleTemporalNetwork _ | exact gv_DeltaNeighbors _ | exact gv_deque _)
local macro_rules | `(tactic| k_call_by "mem" ()) => `(tactic| (repeat (first | with_unfolding_all exact List.Mem.head _ | with_unfolding_all apply List.Mem.tail)))
local macro_rules | `(tactic| k_call_by "get" ()) => `(tactic| (repeat (first | with_unfolding_all exact NGet.here | with_unfolding_all apply NGet.there (by with_unfolding_all exact rfl))))
local macro_rules | `(tactic| k_call_by "nput" ()) => `(tactic| (repeat (first | with_unfolding_all exact NPut.here | with_unfolding_all exact NPut.nil | with_unfolding_all apply NPut.there (by with_unfolding_all exact rfl))))
local macro_rules | `(tactic| k_call_by "put" ()) => `(tactic| (repeat (first | with_unfolding_all exact Put.here | with_unfolding_all apply Put.there)))
local macro_rules | `(tactic| k_call_by "rfl" ()) => `(tactic| with_unfolding_all exact rfl)
local macro_rules | `(tactic| k_call_by "name" ()) => `(tactic| (with_reducible refine isName ?_; first
  | with_reducible refine EV_local (by k_call_by "rfl" ()) (by k_call_by "mem" ()) (NGet.look (by k_call_by "get" ())) ?_
  | with_reducible refine EV_cell (by k_call_by "rfl" ()) (by k_call_by "rfl" ()) (by k_call_by "mem" ()) ?_
  | with_reducible refine EV_free (by k_call_by "rfl" ()) (by k_call_by "rfl" ()) (by k_call_by "mem" ()) ?_
  | with_reducible refine EV_builtin (nsK (by assumption) (by k_call_by "bn" ())) (by k_call_by "bb" ()) ?_
  | with_reducible refine EV_global (nsK (by assumption) (by k_call_by "gv" ())) (fun _ => .ref _) ?_
  | with_reducible refine EV_global (nsK (by assumption) (by k_call_by "gv" ())) (fun _ => .con _) ?_))
local macro_rules | `(tactic| k_call_by "set" ()) => `(tactic| (with_reducible refine isSet ?_; first
  | with_reducible refine SN_local (by k_call_by "rfl" ()) (by k_call_by "put" ()) (by k_call_by "nput" ()) ?_
  | with_reducible refine SN_cell (by k_call_by "rfl" ()) (by k_call_by "rfl" ()) (by k_call_by "put" ()) ?_))
local macro_rules | `(tactic| k_call_by "op" ()) => `(tactic| with_reducible first
  | refine op_add ?_
  | refine op_sub ?_
  | refine op_neg ?_
  | refine cmp_lt ?_
  | refine cmp_gt ?_
  | refine cmp_le ?_
  | refine cmp_ge ?_
  | refine cmp_eq ?_
  | refine cmp_ne ?_
  | refine tr_bool ?_
  | refine tr_int ?_
  | refine tr_none ?_)
local macro_rules | `(tactic| k_call_by "s" ()) => `(tactic| first
  | k_call_by "name" ()
  | with_reducible refine EX_If ?_
  | with_reducible refine EX_Return ?_
  | with_reducible refine EX_nil ?_
  | with_reducible refine EX_Continue ?_
  | with_reducible refine EX_Expr ?_
  | with_reducible refine EX_Assign ?_
  | with_reducible refine EX_AssignT ?_
  | with_reducible refine EX_AssignS ?_
  | with_reducible refine EX_AssignA ?_
  | with_reducible refine EV_int ?_
  | with_reducible refine EV_bool ?_
  | with_reducible refine EV_none ?_
  | with_reducible refine EV_BinOp ?_
  | with_reducible refine EV_UnaryOp ?_
  | with_reducible refine EB_Compare ?_
  | with_reducible refine EB_not ?_
  | with_reducible refine EB_and ?_
  | with_reducible refine EB_and_nil ?_
  | with_reducible refine EB_or ?_
  | with_reducible refine EB_or_nil ?_
  | with_reducible refine EV_Compare ?_
  | with_reducible refine EV_Sub ?_
  | with_reducible refine EV_IfExp ?_
  | with_reducible refine EV_Tuple ?_
  | with_reducible refine EV_List ?_
  | with_reducible refine EV_Call ?_
  | with_reducible refine EV_MCall ?_
  | with_reducible refine EV_Attr ?_
  | with_reducible refine EVs_cons ?_
  | with_reducible refine EVs_nil ?_
  | k_call_by "op" ()
  | k_call_by "set" ()
  | with_reducible refine AT_Name ?_
  | with_reducible refine EB_plain ?_
  | with_reducible refine okB ?_
  | with_reducible refine okT ?_
  | with_reducible refine okK (by assumption) (by k_call_by "rfl" ()) ?_)
local macro_rules | `(tactic| k_call_by "go" ()) => `(tactic| (repeat (k_call_by "s" ())))

local macro_rules | `(tactic| k_call_by "at" ()) => `(tactic| (refine LawAt.of (b := ?b9) ?hb9 ?_; case hb9 => (conv => lhs; whnf)))
local macro_rules | `(tactic| k_call_by "nc" ()) => `(tactic| (intro x e; cases e))
noncomputable def netRun (f : Nat) : PS → List (List Int) → Option PS
  | S, [] => some S
  | S, q :: l => (S.ins f (q.getD 0 0) (q.getD 1 0) (some (q.getD 2 0)) (some (q.getD 3 0))).bind fun S' => netRun f S' l
noncomputable def okRun (f : Nat) : PS → List (List Int) → Prop
  | _, [] => True
  | S, q :: l => okIns f S (q.getD 0 0) (q.getD 1 0) (some (q.getD 2 0)) (some (q.getD 3 0)) ∧ ∀ S', S.ins f (q.getD 0 0) (q.getD 1 0) (some (q.getD 2 0)) (some (q.getD 3 0)) = some S' → okRun f S' l
noncomputable def tStep (t : TD) (q : List Int) : TD :=
  let t1 := kput t [q.getD 0 0, q.getD 1 0] (min (-q.getD 2 0) ((t.lookup [q.getD 0 0, q.getD 1 0]).getD (-q.getD 2 0)))
  kput t1 [q.getD 1 0, q.getD 0 0] (min (q.getD 3 0) ((t1.lookup [q.getD 1 0, q.getD 0 0]).getD (q.getD 3 0)))
noncomputable def tightN (far : Int) (asked : List (List Int)) (m : Nat) : TD := (asked.take m).foldl tStep [([1, 0], -far)]
noncomputable def tightOf (far : Int) (asked : List (List Int)) : TD := asked.foldl tStep [([1, 0], -far)]
theorem tightN_succ {far : Int} {asked : List (List Int)} {m : Nat} {q : List Int} (h : asked[m]? = some q) : tightN far asked (m + 1) = tStep (tightN far asked m) q := by
  unfold tightN
  rw [List.take_add_one, h, List.foldl_append]; rfl
theorem tStep_len (t : TD) (q : List Int) : (tStep t q).length ≤ t.length + 2 := by
  unfold tStep
  dsimp only
  exact Nat.le_trans (kput_le1 _ _ _) (Nat.succ_le_succ (kput_le1 _ _ _))
theorem fold_len (l : List (List Int)) : ∀ t : TD, (l.foldl tStep t).length ≤ t.length + 2 * l.length := by
  induction l with
  | nil => intro t; exact Nat.le_refl _
  | cons q l ih =>
    intro t
    have h1 := ih (tStep t q)
    have h2 := tStep_len t q
    rw [List.foldl_cons, List.length_cons]
    omega
theorem tightN_len (far : Int) (asked : List (List Int)) (m : Nat) : (tightN far asked m).length ≤ 1 + 2 * asked.length := by
  have := fold_len (asked.take m) [([1, 0], -far)]
  have h2 : (asked.take m).length ≤ asked.length := by rw [List.length_take]; omega
  unfold tightN
  simp only [List.length_cons, List.length_nil] at this
  omega
theorem Rd.net {c : Cx} {H : AHeap} {d : Addr} {x : AObj} (h : Rd c H d x) (Y : AHeap) {L m c1 c2 c3 c4 N nodes} : Rd c (Y ++ frL L m c1 c2 c3 c4 (netH N (nodes ++ H))) d x := by
  refine Rd.fr (H := netH N (nodes ++ H)) ?_ Y
  exact h.weak (Weak.sub' (.cons _ (.cons _ (.cons _ (.cons _ (List.sublist_append_right _ _))))))
section
variable (c : Cx) (hK : c.K = hd.heap_39 c.w.params)
include hK
variable {A : Around} {Z : List (Addr × Obj)} {n : Nat} {H : AHeap}
theorem seg10 {Φ : AF → AHeap → Prop} (hA : Ar A (n + 6)) {L aa : Addr} {N : Net} {nodes : AHeap} {asked : List (List Int)} {far : Int} {S Sf : PS} {f : Nat} {sc tl dk sq rt bl ht' hg eg c1 c2 : AV}
   (hq : Rd c H aa (.list (asked.map tupL))) (hE : ∀ q ∈ asked, ∃ x y l h, q = [x, y, l, h]) (hz : asked.length ≤ 400) (hN : NetOk N nodes S) (hf : f ≤ 10000) (hok : okRun f S asked) (hrun : netRun f S asked = some Sf)
   (h : ∀ ta N' nodes', N'.a = N.a → NetOk N' nodes' Sf → LawAt c A Z L 23 (frL L [("script", sc), ("tall", tl), ("dark", dk), ("squares", sq), ("right", rt), ("below", bl), ("heights", ht'), ("height", hg), ("far", .int far), ("net", .ref N.a), ("edges", eg), ("asked", .ref aa), ("tight", .ref ta)] (some c1) (some c2) none none (netH N' (nodes' ++ (ta, tdA (tightOf far asked)) :: H))) Φ) :
   LawAt c A Z L 21 (frL L [("script", sc), ("tall", tl), ("dark", dk), ("squares", sq), ("right", rt), ("below", bl), ("heights", ht'), ("height", hg), ("far", .int far), ("net", .ref N.a), ("edges", eg), ("asked", .ref aa)] (some c1) (some c2) none none (netH N (nodes ++ H))) Φ := by
  k_call_by "at" ()
  with_reducible refine EX_Assign ?_
  with_reducible refine EV_Dict1 hA fun ta => ?_
  k_call_by "go" ()
  refine ⟨by simp, ?_⟩
  k_call_by "go" ()
  refine ⟨[1, 0], _, rfl, .here, ?_⟩
  k_call_by "set" ()
  with_reducible refine EX_For ?_
  k_call_by "go" ()
  refine ⟨_, _, fun i H' => ∃ Si N' nodes', N'.a = N.a ∧ NetOk N' nodes' Si ∧ okRun f Si (asked.drop i) ∧ netRun f Si (asked.drop i) = some Sf ∧
    Weak c H' ((ta, tdA (tightN far asked i)) :: frL L [("script", sc), ("tall", tl), ("dark", dk), ("squares", sq), ("right", rt), ("below", bl), ("heights", ht'), ("height", hg), ("far", .int far), ("net", .ref N.a), ("edges", eg), ("asked", .ref aa), ("tight", .ref ta)] (some c1) (some c2) none none (netH N' (nodes' ++ H))), Loop.list hA (.inr ⟨_, _, _, rfl⟩) (hq.net [_]), ?_, ?_, ?_, ?_⟩
  · exact ⟨S, N, nodes, rfl, hN, hok, hrun, .refl _ _⟩
  · rintro i H' ⟨Si, N', nodes', _, _, _, _, wk⟩
    exact Rd.weak (hq.net [_]) wk
  · rintro i x H' Z hx ⟨Si, N', nodes', ea, hN, hok, hrun, wk⟩
    obtain ⟨e, hei, rfl⟩ : ∃ e, asked[i]? = some e ∧ tupL e = x := by simpa using hx
    obtain ⟨hlt, hget⟩ := List.getElem?_eq_some_iff.mp hei
    have hdrop : asked.drop i = e :: asked.drop (i + 1) := by rw [List.drop_eq_getElem_cons hlt, hget]
    have hsucc := tightN_succ (far := far) hei
    have hlen := tightN_len far asked i
    obtain ⟨x, y, l, h, rfl⟩ := hE e (List.mem_of_getElem? hei)
    rw [hdrop] at hok hrun
    obtain ⟨hok1, hok2⟩ := hok
    generalize tightN far asked i = t at hsucc hlen wk
    simp only [netRun] at hrun
    cases hS : Si.ins f x y (some l) (some h) with
    | none => 
      have : ([x, y, l, h] : List Int).getD 0 0 = x := rfl
      change (Si.ins f x y (some l) (some h)).bind _ = _ at hrun
      rw [hS] at hrun; cases hrun
    | some S1 =>
      change (Si.ins f x y (some l) (some h)).bind _ = _ at hrun
      rw [hS] at hrun
      have hok2 := hok2 S1 hS
      refine AT.weak ?_ wk
      refine AT_Tuple hA rfl ?_ nm4
      simp only [ATs, List.map_cons, List.map_nil]
      k_call_by "s" ()
      k_call_by "set" ()
      k_call_by "s" ()
      k_call_by "set" ()
      k_call_by "s" ()
      k_call_by "set" ()
      k_call_by "s" ()
      k_call_by "set" ()
      rw [← ea]
      with_reducible refine EX_Expr (EV_MCallK ?_)
      k_call_by "go" ()
      refine gm_203 hK (f := 188) (by simp) (by k_call_by "mem" ()) (by k_call_by "mem" ()) (by rfl) ?_
      k_call_by "go" ()
      refine EKs_cons ?_
      k_call_by "go" ()
      refine EKs_cons ?_
      k_call_by "go" ()
      refine EKs_nil ?_
      refine insCall c hK (N := N') (nodes := nodes') (R := H) (lb := some l) (rb := some h) (f := f) ((ta, tdA t) :: frL L [("script", sc), ("tall", tl), ("dark", dk), ("squares", sq), ("right", rt), ("below", bl), ("heights", ht'), ("height", hg), ("far", .int far), ("net", .ref N'.a), ("edges", eg), ("asked", .ref aa), ("tight", .ref ta), ("one", .int x), ("other", .int y), ("low", .int l), ("high", .int h)] (some c1) (some c2) none none []) hA hN hok1 hf hS fun N2 nodes2 h1 h2 h3 => ?_
      have ht : tStep t [x, y, l, h] = kput (kput t [x, y] (min (-l) ((t.lookup [x, y]).getD (-l)))) [y, x] (min h (((kput t [x, y] (min (-l) ((t.lookup [x, y]).getD (-l)))).lookup [y, x]).getD h)) := rfl
      simp only [List.cons_append, List.nil_append]
      k_call_by "go" ()
      refine GM_rd (Rd.mem (.head _)) (fun _ x => own_tdict x) F.plainAttrs_dict F.slot_dict_get F.type_dict_get ?_
      k_call_by "go" ()
      refine ⟨by simp, ?_⟩
      k_call_by "go" ()
      refine m_getT hA (k := [x, y]) (Rd.mem (.head _)) ?_
      rw [lookT, show ((t.lookup [x, y]).map AV.int).getD (.int (-l)) = .int ((t.lookup [x, y]).getD (-l)) by cases t.lookup [x, y] <;> rfl]
      k_call_by "go" ()
      refine b_min hA ?_
      k_call_by "go" ()
      refine ⟨by simp, ?_⟩
      k_call_by "go" ()
      refine set_tdict hA (k := [x, y]) (es := t.map fun p => (p.1, AV.int p.2)) (x := .int (min (-l) ((t.lookup [x, y]).getD (-l)))) .here (by rw [List.length_map]; omega) ?_
      rw [kput_mapV AV.int]
      have hlen2 := kput_le1 t [x, y] (min (-l) ((t.lookup [x, y]).getD (-l)))
      generalize kput t [x, y] (min (-l) ((t.lookup [x, y]).getD (-l))) = t1 at ht hlen2 ⊢
      k_call_by "go" ()
      refine GM_rd (Rd.mem (.head _)) (fun _ x => own_tdict x) F.plainAttrs_dict F.slot_dict_get F.type_dict_get ?_
      k_call_by "go" ()
      refine ⟨by simp, ?_⟩
      k_call_by "go" ()
      refine m_getT hA (k := [y, x]) (Rd.mem (.head _)) ?_
      rw [lookT, show ((t1.lookup [y, x]).map AV.int).getD (.int h) = .int ((t1.lookup [y, x]).getD h) by cases t1.lookup [y, x] <;> rfl]
      k_call_by "go" ()
      refine b_min hA ?_
      k_call_by "go" ()
      refine ⟨by simp, ?_⟩
      k_call_by "go" ()
      refine set_tdict hA (k := [y, x]) (es := t1.map fun p => (p.1, AV.int p.2)) (x := .int (min h ((t1.lookup [y, x]).getD h))) .here (by rw [List.length_map]; omega) ?_
      rw [kput_mapV AV.int]
      k_call_by "go" ()
      rw [hsucc, ht]
      exact ⟨S1, N2, nodes2, h1.1.trans rfl, h3, hok2, hrun, Weak.dropNs (m := [("script", sc), ("tall", tl), ("dark", dk), ("squares", sq), ("right", rt), ("below", bl), ("heights", ht'), ("height", hg), ("far", .int far), ("net", .ref N'.a), ("edges", eg), ("asked", .ref aa), ("tight", .ref ta)]) (.there .here)⟩
  · rintro H' ⟨Si, N', nodes', ea, hN, hok, hrun, wk⟩
    rw [List.length_map] at hrun wk
    have e : tightN far asked asked.length = tightOf far asked := by unfold tightN tightOf; rw [List.take_length]
    rw [e] at wk
    rw [List.drop_length] at hrun
    cases hrun
    with_reducible refine LawAt.go (L := L) 23 ?_
    refine (h ta N' nodes' ea hN).weak (wk.trans ?_)
    refine Weak.perm' ?_
    have := List.perm_middle (l₁ := frL L [("script", sc), ("tall", tl), ("dark", dk), ("squares", sq), ("right", rt), ("below", bl), ("heights", ht'), ("height", hg), ("far", .int far), ("net", .ref N.a), ("edges", eg), ("asked", .ref aa), ("tight", .ref ta)] (some c1) (some c2) none none (netH N' nodes')) (a := (ta, tdA (tightOf far asked))) (l₂ := H)
    exact this
end

end Mine
end
section
open PySem PySem.W PySem.Calls PyProof.Rows
set_option Elab.async false
set_option maxRecDepth 100000
set_option maxHeartbeats 4000000
set_option linter.unusedVariables false
namespace Mine
local macro_rules | `(tactic| k_call_by "bb" ()) => `(tactic| first | exact bb_len | exact bb_range | exact bb_isinstance | exact bb_all | exact bb_any | exact bb_int | exact bb_bool | exact bb_sorted | exact bb_min | exact bb_max | exact bb_dict | exact bb_set | exact bb_abs)
local macro_rules | `(tactic| k_call_by "bn" ()) => `(tactic| first | exact bn_len _ | exact bn_range _ | exact bn_isinstance _ | exact bn_all _ | exact bn_any _ | exact bn_int _ | exact bn_bool _ | exact bn_sorted _ | exact bn_min _ | exact bn_max _ | exact bn_dict _ | exact bn_set _ | exact bn_abs _)
local macro_rules | `(tactic| k_call_by "gv" ()) => `(tactic| first | exact gv_law_wide _ | exact gv_law_slim _ | exact gv_law_draw _ | exact gv_law_size _ | exact gv_law_plain _ | exact gv_law_lines _ | exact gv_law_rows _ | exact gv_law_border _ | exact gv_law_ways _ | exact gv_DeltaSimpleTemporalNetwork _ | exact gv_DeltaNeighbors _ | exact gv_deque _)
local macro_rules | `(tactic| k_call_by "mem" ()) => `(tactic| (repeat (first | with_unfolding_all exact List.Mem.head _ | with_unfolding_all apply List.Mem.tail)))
local macro_rules | `(tactic| k_call_by "get" ()) => `(tactic| (repeat (first | with_unfolding_all exact NGet.here | with_unfolding_all apply NGet.there (by with_unfolding_all exact rfl))))
local macro_rules | `(tactic| k_call_by "nput" ()) => `(tactic| (repeat (first | with_unfolding_all exact NPut.here | with_unfolding_all exact NPut.nil | with_unfolding_all apply NPut.there (by with_unfolding_all exact rfl))))
local macro_rules | `(tactic| k_call_by "put" ()) => `(tactic| (repeat (first | with_unfolding_all exact Put.here | with_unfolding_all apply Put.there)))
local macro_rules | `(tactic| k_call_by "rfl" ()) => `(tactic| with_unfolding_all exact rfl)
local macro_rules | `(tactic| k_call_by "name" ()) => `(tactic| (with_reducible refine isName ?_; first
  | with_reducible refine EV_local (by k_call_by "rfl" ()) (by k_call_by "mem" ()) (NGet.look (by k_call_by "get" ())) ?_
  | with_reducible refine EV_cell (by k_call_by "rfl" ()) (by k_call_by "rfl" ()) (by k_call_by "mem" ()) ?_
  | with_reducible refine EV_free (by k_call_by "rfl" ()) (by k_call_by "rfl" ()) (by k_call_by "mem" ()) ?_
  | with_reducible refine EV_builtin (nsK (by assumption) (by k_call_by "bn" ())) (by k_call_by "bb" ()) ?_
  | with_reducible refine EV_global (nsK (by assumption) (by k_call_by "gv" ())) (fun _ => .ref _) ?_
  | with_reducible refine EV_global (nsK (by assumption) (by k_call_by "gv" ())) (fun _ => .con _) ?_))
local macro_rules | `(tactic| k_call_by "set" ()) => `(tactic| (with_reducible refine isSet ?_; first
  | with_reducible refine SN_local (by k_call_by "rfl" ()) (by k_call_by "put" ()) (by k_call_by "nput" ()) ?_
  | with_reducible refine SN_cell (by k_call_by "rfl" ()) (by k_call_by "rfl" ()) (by k_call_by "put" ()) ?_))
local macro_rules | `(tactic| k_call_by "op" ()) => `(tactic| with_reducible first
  | refine op_add ?_
  | refine op_sub ?_
  | refine op_neg ?_
  | refine cmp_lt ?_
  | refine cmp_gt ?_
  | refine cmp_le ?_
  | refine cmp_ge ?_
  | refine cmp_eq ?_
  | refine cmp_ne ?_
  | refine tr_bool ?_
  | refine tr_int ?_
  | refine tr_none ?_)
local macro_rules | `(tactic| k_call_by "s" ()) => `(tactic| first
  | k_call_by "name" ()
  | with_reducible refine EX_If ?_
  | with_reducible refine EX_Return ?_
  | with_reducible refine EX_nil ?_
  | with_reducible refine EX_Continue ?_
  | with_reducible refine EX_Expr ?_
  | with_reducible refine EX_Assign ?_
  | with_reducible refine EX_AssignT ?_
  | with_reducible refine EX_AssignS ?_
  | with_reducible refine EX_AssignA ?_
  | with_reducible refine EV_int ?_
  | with_reducible refine EV_bool ?_
  | with_reducible refine EV_none ?_
  | with_reducible refine EV_BinOp ?_
  | with_reducible refine EV_UnaryOp ?_
  | with_reducible refine EB_Compare ?_
  | with_reducible refine EB_not ?_
  | with_reducible refine EB_and ?_
  | with_reducible refine EB_and_nil ?_
  | with_reducible refine EB_or ?_
  | with_reducible refine EB_or_nil ?_
  | with_reducible refine EV_Compare ?_
  | with_reducible refine EV_Sub ?_
  | with_reducible refine EV_IfExp ?_
  | with_reducible refine EV_Tuple ?_
  | with_reducible refine EV_List ?_
  | with_reducible refine EV_Call ?_
  | with_reducible refine EV_MCall ?_
  | with_reducible refine EV_Attr ?_
  | with_reducible refine EVs_cons ?_
  | with_reducible refine EVs_nil ?_
  | k_call_by "op" ()
  | k_call_by "set" ()
  | with_reducible refine AT_Name ?_
  | with_reducible refine EB_plain ?_
  | with_reducible refine okB ?_
  | with_reducible refine okT ?_
  | with_reducible refine okK (by assumption) (by k_call_by "rfl" ()) ?_)
local macro_rules | `(tactic| k_call_by "go" ()) => `(tactic| (repeat (k_call_by "s" ())))

local macro_rules | `(tactic| k_call_by "at" ()) => `(tactic| (refine LawAt.of (b := ?b9) ?hb9 ?_; case hb9 => (conv => lhs; whnf)))
local macro_rules | `(tactic| k_call_by "nc" ()) => `(tactic| (intro x e; cases e))
section
variable (c : Cx) (hK : c.K = hd.heap_39 c.w.params)
include hK
variable {A : Around} {Z : List (Addr × Obj)} {n : Nat} {H : AHeap}
theorem seg11 {Φ : AF → AHeap → Prop} (hA : Ar A (n + 6)) {L rta bla : Addr} {N : Net} {nodes : AHeap} {right below ways : List Int} {fw : Nat} {S : PS} {sc tl dk sq ht' hg fr eg aq tt c1 c2 : AV}
   (hrt : Rd c H rta (.list (right.map .int))) (hbl : Rd c H bla (.list (below.map .int))) (hlen : below.length = right.length) (hz : right.length ≤ 1000)
    (hr2 : ∀ x ∈ right, x ≤ 1000) (hb2 : ∀ x ∈ below, x ≤ 1000) (hf : fw ≤ 100000) (hres : waysRun right below fw [(0, 0, 0)] [] = some ways) (hwl : ways.length ≤ 1000)
    (hN : NetOk N nodes S) (hd : S.dist.length ≤ 1000) (hcl : N.cons.length ≤ 1000) (hsat : S.sat = !ways.isEmpty) (hΦ : ∀ H', Φ (.ret (.bool true)) H')
   (h : ways ≠ [] → ∀ wa, LawAt c A Z L 26 (frL L [("script", sc), ("tall", tl), ("dark", dk), ("squares", sq), ("right", .ref rta), ("below", .ref bla), ("heights", ht'), ("height", hg), ("far", fr), ("net", .ref N.a), ("edges", eg), ("asked", aq), ("tight", tt), ("ways", .ref wa)] (some c1) (some c2) none none (netH N (nodes ++ (wa, .list (ways.map .int)) :: H))) Φ) :
   LawAt c A Z L 23 (frL L [("script", sc), ("tall", tl), ("dark", dk), ("squares", sq), ("right", .ref rta), ("below", .ref bla), ("heights", ht'), ("height", hg), ("far", fr), ("net", .ref N.a), ("edges", eg), ("asked", aq), ("tight", tt)] (some c1) (some c2) none none (netH N (nodes ++ H))) Φ := by
  k_call_by "at" ()
  with_reducible refine EX_Assign ?_
  k_call_by "go" ()
  refine CodeT.call (s_ways c hK hA (hrt.net []) (hbl.net []) hlen hz hr2 hb2 hf hres fun wa => ?_)
  k_call_by "set" ()
  have hp : ∀ M : List (Str × AV), Weak c ((wa, .list (ways.map .int)) :: frL L M (some c1) (some c2) none none (netH N (nodes ++ H))) (frL L M (some c1) (some c2) none none (netH N (nodes ++ (wa, .list (ways.map .int)) :: H))) := fun M => by
    refine Weak.perm' ?_
    have := List.perm_middle (l₁ := frL L M (some c1) (some c2) none none (netH N nodes)) (a := (wa, AObj.list (ways.map .int))) (l₂ := H)
    exact this
  refine Tr.weak ?_ (hp _)
  generalize hH : (wa, AObj.list (ways.map .int)) :: H = H2 at h ⊢
  have hw : Rd c H2 wa (.list (ways.map .int)) := by rw [← hH]; exact .mem (.head _)
  have hd' : N.dist.length ≤ 1000 := by rw [hN.1]; exact hd
  have un : ∀ {f as ks} {N : Net} {nodes : AHeap} {Φ : AV → AHeap → Prop} (M : List (Str × AV)) (_ : CodeT c A Z f as ks (netH N (nodes ++ (frL L M (some c1) (some c2) none none [] ++ H2))) fun v H' => ∃ N' nodes', H' = netH N' (nodes' ++ (frL L M (some c1) (some c2) none none [] ++ H2)) ∧ Φ v (frL L M (some c1) (some c2) none none (netH N' (nodes' ++ H2)))), CallT c A Z f as ks (frL L M (some c1) (some c2) none none (netH N (nodes ++ H2))) Φ := fun M h => CodeT.call (CodeT.unders (frL L M (some c1) (some c2) none none []) h)
  with_reducible refine EX_If ?_
  k_call_by "go" ()
  refine un _ (s_plain c hK hA hd' ⟨N, nodes, rfl, ?_⟩)
  k_call_by "go" ()
  simp only [Bool.not_true, Bool.false_eq_true, if_false]
  k_call_by "go" ()
  refine gm_203 hK (f := 159) (by simp) (by k_call_by "mem" ()) (by k_call_by "mem" ()) (by rfl) ?_
  k_call_by "go" ()
  refine un _ (s_check c hK hA ⟨N, nodes, rfl, ?_⟩)
  k_call_by "go" ()
  refine b_len_list (hw.net []) (by rw [List.length_map]; omega) ?_
  rw [List.length_map]
  k_call_by "go" ()
  refine ne_bool ?_
  have hs : N.sat = !ways.isEmpty := by rw [hN.2.1]; exact hsat
  have e1 : (!(N.sat == decide ((0 : Int) < ways.length))) = false := by
    rw [hs]
    cases ways <;> simp
  rw [e1]
  k_call_by "go" ()
  simp only [Bool.false_eq_true, if_false]
  k_call_by "go" ()
  simp only [Bool.false_eq_true, if_false]
  k_call_by "go" ()
  refine tr_list (hw.net []) (by rw [List.length_map]; omega) ?_
  cases hw0 : ways with
  | nil =>
    simp only [List.map_nil, List.isEmpty_nil, Bool.not_true, Bool.not_false, if_true]
    with_reducible refine EX_Return (EV_UnaryOp ?_)
    k_call_by "go" ()
    refine gm_203 hK (f := 145) (by simp) (by k_call_by "mem" ()) (by k_call_by "mem" ()) (by rfl) ?_
    k_call_by "go" ()
    refine un _ (s_copy c hK hA (by omega) (by omega) fun a d dd cd => ⟨⟨a, d, dd, cd, N.dist, N.cons, N.sat⟩, netH N nodes, rfl, ?_⟩)
    refine gm_203 hK (f := 159) (by simp) (by k_call_by "mem" ()) (by k_call_by "mem" ()) (by rfl) ?_
    k_call_by "go" ()
    refine un (N := ⟨a, d, dd, cd, N.dist, N.cons, N.sat⟩) (nodes := netH N nodes) _ (s_check c hK hA ⟨_, _, rfl, ?_⟩)
    refine op_not (tr_bool ?_)
    rw [hs, hw0]
    exact hΦ _
  | cons x l =>
    simp only [List.map_cons, List.isEmpty_cons, Bool.not_false, Bool.not_true, Bool.false_eq_true, if_false]
    k_call_by "s" ()
    with_reducible refine LawAt.go (L := L) 26 ?_
    rw [← hH]
    exact h (by rw [hw0]; simp) wa
end

end Mine
end
section
open PySem PySem.W PySem.Calls PyProof.Rows
set_option Elab.async false
set_option maxRecDepth 100000
set_option maxHeartbeats 4000000
set_option linter.unusedVariables false
namespace Mine
local macro_rules | `(tactic| k_call_by "bb" ()) => `(tactic| first | exact bb_len | exact bb_range | exact bb_isinstance | exact bb_all | exact bb_any | exact bb_int | exact bb_bool | exact bb_sorted | exact bb_min | exact bb_max | exact bb_dict | exact bb_set | exact bb_abs)
local macro_rules | `(tactic| k_call_by "bn" ()) => `(tactic| first | exact bn_len _ | exact bn_range _ | exact bn_isinstance _ | exact bn_all _ | exact bn_any _ | exact bn_int _ | exact bn_bool _ | exact bn_sorted _ | exact bn_min _ | exact bn_max _ | exact bn_dict _ | exact bn_set _ | exact bn_abs _)
local macro_rules | `(tactic| k_call_by "gv" ()) => `(tactic| first | exact gv_law_wide _ | exact gv_law_slim _ | exact gv_law_draw _ | exact gv_law_size _ | exact gv_law_plain _ | exact gv_law_lines _ | exact gv_law_rows _ | exact gv_law_border _ | exact gv_law_ways _ | exact gv_DeltaSimpleTemporalNetwork _ | exact gv_DeltaNeighbors _ | exact gv_deque _)
local macro_rules | `(tactic| k_call_by "mem" ()) => `(tactic| (repeat (first | with_unfolding_all exact List.Mem.head _ | with_unfolding_all apply List.Mem.tail)))
local macro_rules | `(tactic| k_call_by "get" ()) => `(tactic| (repeat (first | with_unfolding_all exact NGet.here | with_unfolding_all apply NGet.there (by with_unfolding_all exact rfl))))
local macro_rules | `(tactic| k_call_by "nput" ()) => `(tactic| (repeat (first | with_unfolding_all exact NPut.here | with_unfolding_all exact NPut.nil | with_unfolding_all apply NPut.there (by with_unfolding_all exact rfl))))
local macro_rules | `(tactic| k_call_by "put" ()) => `(tactic| (repeat (first | with_unfolding_all exact Put.here | with_unfolding_all apply Put.there)))
local macro_rules | `(tactic| k_call_by "rfl" ()) => `(tactic| with_unfolding_all exact rfl)
local macro_rules | `(tactic| k_call_by "name" ()) => `(tactic| (with_reducible refine isName ?_; first
  | with_reducible refine EV_local (by k_call_by "rfl" ()) (by k_call_by "mem" ()) (NGet.look (by k_call_by "get" ())) ?_
  | with_reducible refine EV_cell (by k_call_by "rfl" ()) (by k_call_by "rfl" ()) (by k_call_by "mem" ()) ?_
  | with_reducible refine EV_free (by k_call_by "rfl" ()) (by k_call_by "rfl" ()) (by k_call_by "mem" ()) ?_
  | with_reducible refine EV_builtin (nsK (by assumption) (by k_call_by "bn" ())) (by k_call_by "bb" ()) ?_
  | with_reducible refine EV_global (nsK (by assumption) (by k_call_by "gv" ())) (fun _ => .ref _) ?_
  | with_reducible refine EV_global (nsK (by assumption) (by k_call_by "gv" ())) (fun _ => .con _) ?_))
local macro_rules | `(tactic| k_call_by "set" ()) => `(tactic| (with_reducible refine isSet ?_; first
  | with_reducible refine SN_local (by k_call_by "rfl" ()) (by k_call_by "put" ()) (by k_call_by "nput" ()) ?_
  | with_reducible refine SN_cell (by k_call_by "rfl" ()) (by k_call_by "rfl" ()) (by k_call_by "put" ()) ?_))
local macro_rules | `(tactic| k_call_by "op" ()) => `(tactic| with_reducible first
  | refine op_add ?_
  | refine op_sub ?_
  | refine op_neg ?_
  | refine cmp_lt ?_
  | refine cmp_gt ?_
  | refine cmp_le ?_
  | refine cmp_ge ?_
  | refine cmp_eq ?_
  | refine cmp_ne ?_
  | refine tr_bool ?_
  | refine tr_int ?_
  | refine tr_none ?_)
local macro_rules | `(tactic| k_call_by "s" ()) => `(tactic| first
  | k_call_by "name" ()
  | with_reducible refine EX_If ?_
  | with_reducible refine EX_Return ?_
  | with_reducible refine EX_nil ?_
  | with_reducible refine EX_Continue ?_
  | with_reducible refine EX_Expr ?_
  | with_reducible refine EX_Assign ?_
  | with_reducible refine EX_AssignT ?_
  | with_reducible refine EX_AssignS ?_
  | with_reducible refine EX_AssignA ?_
  | with_reducible refine EV_int ?_
  | with_reducible refine EV_bool ?_
  | with_reducible refine EV_none ?_
  | with_reducible refine EV_BinOp ?_
  | with_reducible refine EV_UnaryOp ?_
  | with_reducible refine EB_Compare ?_
  | with_reducible refine EB_not ?_
  | with_reducible refine EB_and ?_
  | with_reducible refine EB_and_nil ?_
  | with_reducible refine EB_or ?_
  | with_reducible refine EB_or_nil ?_
  | with_reducible refine EV_Compare ?_
  | with_reducible refine EV_Sub ?_
  | with_reducible refine EV_IfExp ?_
  | with_reducible refine EV_Tuple ?_
  | with_reducible refine EV_List ?_
  | with_reducible refine EV_Call ?_
  | with_reducible refine EV_MCall ?_
  | with_reducible refine EV_Attr ?_
  | with_reducible refine EVs_cons ?_
  | with_reducible refine EVs_nil ?_
  | k_call_by "op" ()
  | k_call_by "set" ()
  | with_reducible refine AT_Name ?_
  | with_reducible refine EB_plain ?_
  | with_reducible refine okB ?_
  | with_reducible refine okT ?_
  | with_reducible refine okK (by assumption) (by k_call_by "rfl" ()) ?_)
local macro_rules | `(tactic| k_call_by "go" ()) => `(tactic| (repeat (k_call_by "s" ())))

local macro_rules | `(tactic| k_call_by "at" ()) => `(tactic| (refine LawAt.of (b := ?b9) ?hb9 ?_; case hb9 => (conv => lhs; whnf)))
local macro_rules | `(tactic| k_call_by "nc" ()) => `(tactic| (intro x e; cases e))
noncomputable abbrev MD := List (List Int × Bool)
noncomputable abbrev LM := TD × MD
noncomputable abbrev mdA (es : MD) : AObj := .tdict (es.map fun p => (p.1, AV.bool p.2))
theorem bit01 (d k : Int) : 0 ≤ bitAt d k ∧ bitAt d k ≤ 1 := by
  unfold bitAt
  generalize d.fdiv (2 ^ k.toNat) = x
  unfold Builtin.bitAnd
  have h1 : decide ((0 : Int) ≤ 1) = true := by decide
  rw [h1]
  cases decide (0 ≤ x) with
  | true =>
    have : (x.toNat &&& (1 : Int).toNat) ≤ 1 := Nat.and_le_right
    dsimp only; omega
  | false =>
    have : ((1 : Int).toNat &&& (Builtin.bitNot x).toNat) ≤ 1 := Nat.and_le_left
    dsimp only; omega
noncomputable def lmWhile (pl : TD) (dark downs r : Int) : Nat → Int → Int → LM → LM
  | 0, _, _, s => s
  | m + 1, c, h, s =>
    let fall := 4 * bitAt downs ((pl.lookup [r - 1, c]).getD 0)
    let h' := h + (if (r - 1 + c + dark).fmod 2 == 0 then 1 - fall else fall - 1)
    lmWhile pl dark downs r m (c + 1) h' (kput s.1 [r, c + 1] (min h' ((s.1.lookup [r, c + 1]).getD h')), kput s.2 [r, c + 1, h'] true)
noncomputable def lmRow (rows : List (Int × Int)) (hs pl : TD) (dark downs : Int) (i : Nat) (s : LM) : LM :=
  let p := rows.getD i (0, 0)
  let q := rows.getD (i + 1) (0, 0)
  lmWhile pl dark downs ((i : Int) + 1) (min p.2 q.2 - (max p.1 q.1 + 1)).toNat (max p.1 q.1) ((hs.lookup [(i : Int) + 1, max p.1 q.1]).getD 0) s
noncomputable def lmDowns (rows : List (Int × Int)) (hs pl : TD) (dark : Int) (s : LM) (downs : Int) : LM := (List.range (rows.length - 1)).foldl (fun s i => lmRow rows hs pl dark downs i s) s
noncomputable def lmOf (rows : List (Int × Int)) (hs pl : TD) (dark : Int) (ways : List Int) : LM := ways.foldl (lmDowns rows hs pl dark) ([], [])
theorem rangeL_from1 (n : Nat) (h : 1 ≤ n) : rangeL 1 n 1 = (List.range (n - 1)).map fun x : Nat => (x : Int) + 1 := by
  have e : (Builtin.Range.rangeSize 1 n 1).toNat = n - 1 := by
    unfold Builtin.Range.rangeSize
    rw [if_pos (by decide)]
    split
    · rw [Int.ediv_one]; omega
    · omega
  rw [rangeL, e]
  refine List.map_congr_left fun x _ => by omega
section
variable (c : Cx) (hK : c.K = hd.heap_39 c.w.params)
include hK
variable {A : Around} {Z : List (Addr × Obj)} {n : Nat} {H : AHeap}
theorem seg12 {Φ : AF → AHeap → Prop} (hA : Ar A (n + 1)) {L ra pa ha wa : Addr} {rows : List (Int × Int)} {hs pl : TD} {ways : List Int} {dark : Int} {sc sq rt bl hg fr nt eg aq tt : AV}
   (hr : Rd c H ra (.list (rows.map pr2))) (hp : Rd c H pa (tdA pl)) (hh : Rd c H ha (tdA hs)) (hw : Rd c H wa (.list (ways.map .int))) (h1 : 1 ≤ rows.length) (hz : rows.length ≤ 4) (hb : ∀ p ∈ rows, (0 ≤ p.1 ∧ p.1 ≤ 1000) ∧ 0 ≤ p.2 ∧ p.2 ≤ 1000) (hwl : ways.length ≤ 100)
   (hH : ∀ i, i + 1 < rows.length → (hs.lookup [(i : Int) + 1, max (rows.getD i (0, 0)).1 (rows.getD (i + 1) (0, 0)).1]).isSome = true)
   (hP : ∀ (i : Nat) (x : Int), i + 1 < rows.length → max (rows.getD i (0, 0)).1 (rows.getD (i + 1) (0, 0)).1 ≤ x → x + 1 < min (rows.getD i (0, 0)).2 (rows.getD (i + 1) (0, 0)).2 → ∃ k, 0 ≤ k ∧ pl.lookup [(i : Int), x] = some k)
   (h : ∀ la ma hv, LawAt c A Z L 29 ((ma, mdA (lmOf rows hs pl dark ways).2) :: (la, tdA (lmOf rows hs pl dark ways).1) :: frL L [("script", sc), ("tall", .int rows.length), ("dark", .int dark), ("squares", sq), ("right", rt), ("below", bl), ("heights", .ref ha), ("height", hv), ("far", fr), ("net", nt), ("edges", eg), ("asked", aq), ("tight", tt), ("ways", .ref wa), ("met", .ref ma)] (some (.ref ra)) (some (.ref pa)) (some (.ref la)) none H) Φ) :
   LawAt c A Z L 26 (frL L [("script", sc), ("tall", .int rows.length), ("dark", .int dark), ("squares", sq), ("right", rt), ("below", bl), ("heights", .ref ha), ("height", hg), ("far", fr), ("net", nt), ("edges", eg), ("asked", aq), ("tight", tt), ("ways", .ref wa)] (some (.ref ra)) (some (.ref pa)) none none H) Φ := by
  have hg' : ∀ i, i < rows.length → rows[i]? = some (rows.getD i (0, 0)) := fun i hi => by simp [List.getD, hi]
  have hgb : ∀ i, (0 ≤ (rows.getD i (0, 0)).1 ∧ (rows.getD i (0, 0)).1 ≤ 1000) ∧ 0 ≤ (rows.getD i (0, 0)).2 ∧ (rows.getD i (0, 0)).2 ≤ 1000 := fun i => by
    by_cases hi : i < rows.length
    · exact hb _ (List.mem_of_getElem? (hg' i hi))
    · simp [List.getD, hi]
  have sub : ∀ {A : Around} {Z : List (Addr × Obj)} {H' : AHeap} {Φ : AV → AHeap → Prop} {v sl : Expr} {i : Int} (j : Nat) (_ : i = j) (_ : j < rows.length) (_ : Rd c H' ra (.list (rows.map pr2))) (_ : Φ (pr2 (rows.getD j (0, 0))) H') (_ : ∀ t, subscripted sl false (.ref ra) (.int i t) = operate [.ref ra, .int i t] (getItem (.ref ra) (.int i t))), Op2 c A Z (subscriptTail v sl) VR (.ref ra) (.int i) H' Φ := fun j e hi hr hΦ hs => by
    subst e
    exact sub_list hr (by omega) (by rw [List.getElem?_map, Int.toNat_natCast, hg' _ hi]; rfl) (by omega) hΦ hs
  k_call_by "at" ()
  with_reducible refine EX_Assign ?_
  with_reducible refine EV_Dict0 (.tdict []) (.inr rfl) fun la => ?_
  k_call_by "set" ()
  with_reducible refine EX_Assign ?_
  with_reducible refine EV_Dict0 (.tdict []) (.inr rfl) fun ma => ?_
  k_call_by "set" ()
  with_reducible refine EX_For ?_
  k_call_by "go" ()
  refine ⟨_, _, fun i H' => ∃ hv, ((ways.take i).foldl (lmDowns rows hs pl dark) ([], [])).1.length ≤ i * 5000 ∧ ((ways.take i).foldl (lmDowns rows hs pl dark) ([], [])).2.length ≤ i * 5000 ∧ Weak c H' ((ma, mdA ((ways.take i).foldl (lmDowns rows hs pl dark) ([], [])).2) :: (la, tdA ((ways.take i).foldl (lmDowns rows hs pl dark) ([], [])).1) :: frL L [("script", sc), ("tall", .int rows.length), ("dark", .int dark), ("squares", sq), ("right", rt), ("below", bl), ("heights", .ref ha), ("height", hv), ("far", fr), ("net", nt), ("edges", eg), ("asked", aq), ("tight", tt), ("ways", .ref wa), ("met", .ref ma)] (some (.ref ra)) (some (.ref pa)) (some (.ref la)) none H),
    Loop.list hA (.inl ⟨_, _, rfl⟩) (hw.fr [_, _]), ?_, ?_, ?_, ?_⟩
  · exact ⟨hg, by simp, by simp, .refl _ _⟩
  · rintro i H' ⟨hv, _, _, wk⟩
    exact Rd.weak (hw.fr [_, _]) wk
  · rintro i x H' Z hx ⟨hv, hl1, hl2, wk⟩
    obtain ⟨d, hdi, rfl⟩ : ∃ d, ways[i]? = some d ∧ AV.int d = x := by simpa using hx
    have hlt := (List.getElem?_eq_some_iff.mp hdi).1
    have hsucc : (ways.take (i + 1)).foldl (lmDowns rows hs pl dark) ([], []) = lmDowns rows hs pl dark ((ways.take i).foldl (lmDowns rows hs pl dark) ([], [])) d := by
      rw [List.take_add_one, hdi, List.foldl_append]; rfl
    dsimp only
    rw [hsucc]
    generalize (ways.take i).foldl (lmDowns rows hs pl dark) ([], []) = s0 at hl1 hl2 wk ⊢
    refine AT.weak ?_ wk
    k_call_by "s" ()
    k_call_by "set" ()
    with_reducible refine EX_For ?_
    k_call_by "go" ()
    refine b_range2 fun rg => ?_
    have hsm := small_r (i := 1) (j := rows.length) (by omega) (by omega) (.inl rfl)
    refine ⟨_, _, fun j H' => ∃ hv, ((List.range j).foldl (fun s i => lmRow rows hs pl dark d i s) s0).1.length ≤ i * 5000 + j * 1000 ∧ ((List.range j).foldl (fun s i => lmRow rows hs pl dark d i s) s0).2.length ≤ i * 5000 + j * 1000 ∧ Weak c H' ((ma, mdA ((List.range j).foldl (fun s i => lmRow rows hs pl dark d i s) s0).2) :: (la, tdA ((List.range j).foldl (fun s i => lmRow rows hs pl dark d i s) s0).1) :: frL L [("script", sc), ("tall", .int rows.length), ("dark", .int dark), ("squares", sq), ("right", rt), ("below", bl), ("heights", .ref ha), ("height", hv), ("far", fr), ("net", nt), ("edges", eg), ("asked", aq), ("tight", tt), ("ways", .ref wa), ("met", .ref ma), ("downs", .int d)] (some (.ref ra)) (some (.ref pa)) (some (.ref la)) none H),
      Loop.range hA (.inl ⟨_, _, rfl⟩) (.head _) hsm.1 hsm.2.1, ?_, fun _ _ _ => trivial, ?_, ?_⟩
    · exact ⟨hv, by simpa using hl1, by simpa using hl2, Weak.sub' (.cons _ (List.Sublist.refl _))⟩
    · rintro j x H' Z hx ⟨hv, hk1, hk2, wk⟩
      obtain ⟨hj, rfl⟩ : j + 1 < rows.length ∧ AV.int ((j : Int) + 1) = x := by
        rw [rangeL_from1 _ h1] at hx
        obtain ⟨k, hk, rfl⟩ : ∃ a, (List.range (rows.length - 1))[j]? = some a ∧ AV.int ((a : Int) + 1) = x := by simpa using hx
        obtain ⟨h1, h2⟩ := List.getElem?_eq_some_iff.mp hk
        rw [List.getElem_range] at h2
        rw [List.length_range] at h1
        subst h2
        exact ⟨by omega, rfl⟩
      have hsucc : (List.range (j + 1)).foldl (fun s i => lmRow rows hs pl dark d i s) s0 = lmRow rows hs pl dark d j ((List.range j).foldl (fun s i => lmRow rows hs pl dark d i s) s0) := by
        rw [List.range_succ, List.foldl_append]; rfl
      dsimp only
      rw [hsucc]
      generalize (List.range j).foldl (fun s i => lmRow rows hs pl dark d i s) s0 = s1 at hk1 hk2 wk ⊢
      have g1 := hgb j
      have g2 := hgb (j + 1)
      have hHj := hH j hj
      have hPj := hP j
      have hrow : lmRow rows hs pl dark d j s1 = lmWhile pl dark d ((j : Int) + 1) (min (rows.getD j (0, 0)).2 (rows.getD (j + 1) (0, 0)).2 - (max (rows.getD j (0, 0)).1 (rows.getD (j + 1) (0, 0)).1 + 1)).toNat (max (rows.getD j (0, 0)).1 (rows.getD (j + 1) (0, 0)).1) ((hs.lookup [(j : Int) + 1, max (rows.getD j (0, 0)).1 (rows.getD (j + 1) (0, 0)).1]).getD 0) s1 := rfl
      refine AT.weak ?_ wk
      k_call_by "s" ()
      k_call_by "set" ()
      k_call_by "go" ()
      refine sub j (by omega) (by omega) (hr.fr [_, _]) ?_ (by intro _; rfl)
      k_call_by "go" ()
      refine sub_tup (by decide) (x := .int (rows.getD j (0, 0)).1) (by rfl) (by decide) ?_
      k_call_by "go" ()
      refine sub (j + 1) (by omega) (by omega) (hr.fr [_, _]) ?_ (by intro _; rfl)
      k_call_by "go" ()
      refine sub_tup (by decide) (x := .int (rows.getD (j + 1) (0, 0)).1) (by rfl) (by decide) ?_
      k_call_by "go" ()
      refine b_max hA ?_
      have hmx : 0 ≤ max (rows.getD j (0, 0)).1 (rows.getD (j + 1) (0, 0)).1 ∧ max (rows.getD j (0, 0)).1 (rows.getD (j + 1) (0, 0)).1 ≤ 1000 := by omega
      have hmn : min (rows.getD j (0, 0)).2 (rows.getD (j + 1) (0, 0)).2 ≤ 1000 := by omega
      generalize max (rows.getD j (0, 0)).1 (rows.getD (j + 1) (0, 0)).1 = mx at hrow hHj hPj hmx ⊢
      obtain ⟨h0, hh0⟩ := Option.isSome_iff_exists.mp hHj
      rw [hh0] at hrow
      k_call_by "go" ()
      refine ⟨by simp, ?_⟩
      k_call_by "go" ()
      refine sub_tdict hA (k := [(j : Int) + 1, mx]) (hh.fr [_, _]) (x := .int h0) (by rw [lookT, hh0]; rfl) ?_
      k_call_by "go" ()
      generalize hmne : min (rows.getD j (0, 0)).2 (rows.getD (j + 1) (0, 0)).2 = mn at hrow hPj hmn
      generalize hfin : lmRow rows hs pl dark d j s1 = fin at hrow ⊢
      with_reducible refine EX_While (fun k H' => ∃ (x hv : Int) (fl : List (Str × AV)) (s : LM), k = (mn - (x + 1)).toNat ∧ mx ≤ x ∧ fin = lmWhile pl dark d ((j : Int) + 1) k x hv s ∧ s.1.length + k ≤ i * 5000 + j * 1000 + 1000 ∧ s.2.length + k ≤ i * 5000 + j * 1000 + 1000 ∧
        Weak c H' ((ma, mdA s.2) :: (la, tdA s.1) :: frL L [("script", sc), ("tall", .int rows.length), ("dark", .int dark), ("squares", sq), ("right", rt), ("below", bl), ("heights", .ref ha), ("height", .int hv), ("far", fr), ("net", nt), ("edges", eg), ("asked", aq), ("tight", tt), ("ways", .ref wa), ("met", .ref ma), ("downs", .int d), ("r", .int ((j : Int) + 1)), ("c", .int x)] (some (.ref ra)) (some (.ref pa)) (some (.ref la)) none H)) (mn - (mx + 1)).toNat ?_ ?_
      · exact ⟨mx, h0, [], s1, rfl, Int.le_refl _, hrow, by omega, by omega, .refl _ _⟩
      · rintro k H' ⟨x, hv, fl, s, hk, hxm, hfin', hs1, hs2, wk⟩
        refine Tr.weak ?_ wk
        k_call_by "go" ()
        refine sub j (by omega) (by omega) (hr.fr [_, _]) ?_ (by intro _; rfl)
        k_call_by "go" ()
        refine sub_tup (by decide) (x := .int (rows.getD j (0, 0)).2) (by rfl) (by decide) ?_
        k_call_by "go" ()
        refine sub (j + 1) (by omega) (by omega) (hr.fr [_, _]) ?_ (by intro _; rfl)
        k_call_by "go" ()
        refine sub_tup (by decide) (x := .int (rows.getD (j + 1) (0, 0)).2) (by rfl) (by decide) ?_
        k_call_by "go" ()
        refine b_min hA ?_
        rw [hmne]
        k_call_by "go" ()
        by_cases hlt2 : x + 1 < mn
        · rw [if_pos (by simpa using hlt2)]
          cases k with
          | zero => omega
          | succ k =>
            obtain ⟨kp, hkp0, hkp⟩ := hPj x hj hxm hlt2
            have hfall := bit01 d kp
            have e1 : ((j : Int) + 1) - 1 = j := by omega
            have hstep : lmWhile pl dark d ((j : Int) + 1) (k + 1) x hv s = lmWhile pl dark d ((j : Int) + 1) k (x + 1) (hv + (if ((j : Int) + 1 - 1 + x + dark).fmod 2 == 0 then 1 - 4 * bitAt d kp else 4 * bitAt d kp - 1))
                (kput s.1 [(j : Int) + 1, x + 1] (min (hv + (if ((j : Int) + 1 - 1 + x + dark).fmod 2 == 0 then 1 - 4 * bitAt d kp else 4 * bitAt d kp - 1)) ((s.1.lookup [(j : Int) + 1, x + 1]).getD (hv + (if ((j : Int) + 1 - 1 + x + dark).fmod 2 == 0 then 1 - 4 * bitAt d kp else 4 * bitAt d kp - 1)))), kput s.2 [(j : Int) + 1, x + 1, hv + (if ((j : Int) + 1 - 1 + x + dark).fmod 2 == 0 then 1 - 4 * bitAt d kp else 4 * bitAt d kp - 1)] true) := by
              rw [lmWhile, e1, hkp]; rfl
            k_call_by "go" ()
            refine ⟨by simp, ?_⟩
            k_call_by "go" ()
            refine sub_tdict hA (k := [(j : Int) + 1 - 1, x]) (hp.fr [_, _]) (x := .int kp) (by rw [lookT, e1, hkp]; rfl) ?_
            refine op_shr hkp0 ?_
            k_call_by "go" ()
            refine op_and ?_
            rw [show Builtin.bitAnd (d.fdiv (2 ^ kp.toNat)) 1 = bitAt d kp from rfl]
            generalize bitAt d kp = bt at hstep hfall ⊢
            refine op_mul (mul_ok 3 1 (by decide) (by omega)) ?_
            k_call_by "set" ()
            generalize hdl : (if ((j : Int) + 1 - 1 + x + dark).fmod 2 == 0 then 1 - 4 * bt else 4 * bt - 1) = dl at hstep
            with_reducible refine EX_Aug (by k_call_by "rfl" ()) (by k_call_by "mem" ()) (NGet.look (by k_call_by "get" ())) ?_
            with_reducible refine EV_IfExpJ (fun v H' => v = AV.int dl ∧ H' = (ma, mdA s.2) :: (la, tdA s.1) :: frL L [("script", sc), ("tall", .int rows.length), ("dark", .int dark), ("squares", sq), ("right", rt), ("below", bl), ("heights", .ref ha), ("height", .int hv), ("far", fr), ("net", nt), ("edges", eg), ("asked", aq), ("tight", tt), ("ways", .ref wa), ("met", .ref ma), ("downs", .int d), ("r", .int ((j : Int) + 1)), ("c", .int x), ("fall", .int (4 * bt))] (some (.ref ra)) (some (.ref pa)) (some (.ref la)) none H) ?_ ?_
            · k_call_by "go" ()
              refine op_mod (by decide) ?_
              k_call_by "go" ()
              by_cases hpar : ((j : Int) + 1 - 1 + x + dark).fmod 2 == 0
              · rw [if_pos hpar] at hdl ⊢
                k_call_by "go" ()
                exact ⟨by rw [hdl], rfl⟩
              · rw [if_neg hpar] at hdl ⊢
                k_call_by "go" ()
                exact ⟨by rw [hdl], rfl⟩
            · rintro v H' ⟨rfl, rfl⟩
              refine op_iadd ?_
              k_call_by "set" ()
              generalize hv + dl = h2 at hstep ⊢
              with_reducible refine EX_Aug (by k_call_by "rfl" ()) (by k_call_by "mem" ()) (NGet.look (by k_call_by "get" ())) ?_
              k_call_by "go" ()
              refine op_iadd ?_
              k_call_by "go" ()
              refine GM_rd (Rd.mem (.tail _ (.head _))) (fun _ x => own_tdict x) F.plainAttrs_dict F.slot_dict_get F.type_dict_get ?_
              k_call_by "go" ()
              refine ⟨by simp, ?_⟩
              k_call_by "go" ()
              refine m_getT hA (k := [(j : Int) + 1, x + 1]) (Rd.mem (.tail _ (.head _))) ?_
              rw [lookT, show ((s.1.lookup [(j : Int) + 1, x + 1]).map AV.int).getD (.int h2) = .int ((s.1.lookup [(j : Int) + 1, x + 1]).getD h2) by cases s.1.lookup [(j : Int) + 1, x + 1] <;> rfl]
              k_call_by "go" ()
              refine b_min hA ?_
              k_call_by "go" ()
              refine ⟨by simp, ?_⟩
              k_call_by "go" ()
              have hle1 := kput_le1 s.1 [(j : Int) + 1, x + 1] (min h2 ((s.1.lookup [(j : Int) + 1, x + 1]).getD h2))
              have hle2 := kput_le1 s.2 [(j : Int) + 1, x + 1, h2] true
              refine set_tdict hA (k := [(j : Int) + 1, x + 1]) (es := s.1.map fun p => (p.1, AV.int p.2)) (x := .int (min h2 ((s.1.lookup [(j : Int) + 1, x + 1]).getD h2))) (.there .here) (by rw [List.length_map]; omega) ?_
              rw [kput_mapV AV.int]
              k_call_by "go" ()
              refine ⟨by simp, ?_⟩
              k_call_by "go" ()
              refine set_tdict hA (k := [(j : Int) + 1, x + 1, h2]) (es := s.2.map fun p => (p.1, AV.bool p.2)) (x := .bool true) .here (by rw [List.length_map]; omega) ?_
              rw [kput_mapV AV.bool]
              k_call_by "go" ()
              refine ⟨k, Nat.lt_succ_self _, x + 1, h2, [], _, by omega, by omega, hfin'.trans hstep, by dsimp only; omega, by dsimp only; omega, ?_⟩
              exact Weak.dropNs (m := [("script", sc), ("tall", .int rows.length), ("dark", .int dark), ("squares", sq), ("right", rt), ("below", bl), ("heights", .ref ha), ("height", .int h2), ("far", fr), ("net", nt), ("edges", eg), ("asked", aq), ("tight", tt), ("ways", .ref wa), ("met", .ref ma), ("downs", .int d), ("r", .int ((j : Int) + 1)), ("c", .int (x + 1))]) (.there (.there .here))
        · rw [if_neg (by simpa using hlt2)]
          have hk0 : k = 0 := by omega
          subst hk0
          k_call_by "go" ()
          have hf : fin = s := hfin'
          subst hf
          refine ⟨.int hv, by rw [Nat.add_mul]; omega, by rw [Nat.add_mul]; omega, ?_⟩
          exact Weak.dropNs (m := [("script", sc), ("tall", .int rows.length), ("dark", .int dark), ("squares", sq), ("right", rt), ("below", bl), ("heights", .ref ha), ("height", .int hv), ("far", fr), ("net", nt), ("edges", eg), ("asked", aq), ("tight", tt), ("ways", .ref wa), ("met", .ref ma), ("downs", .int d)]) (.there (.there .here))
    · rintro H' ⟨hv, hk1, hk2, wk⟩
      have hl : ((rangeL 1 rows.length 1).map AV.int).length = rows.length - 1 := by rw [rangeL_from1 _ h1]; simp
      rw [hl] at wk hk1 hk2
      refine Tr.weak ?_ wk
      k_call_by "go" ()
      refine ⟨hv, by refine Nat.le_trans hk1 ?_; omega, by refine Nat.le_trans hk2 ?_; omega, ?_⟩
      exact Weak.dropNs (m := [("script", sc), ("tall", .int rows.length), ("dark", .int dark), ("squares", sq), ("right", rt), ("below", bl), ("heights", .ref ha), ("height", hv), ("far", fr), ("net", nt), ("edges", eg), ("asked", aq), ("tight", tt), ("ways", .ref wa), ("met", .ref ma)]) (.there (.there .here))
  · rintro H' ⟨hv, hk1, hk2, wk⟩
    rw [List.length_map, List.take_length] at wk
    with_reducible refine LawAt.go (L := L) 29 ?_
    exact (h la ma hv).weak wk
end

end Mine
end
section
open PySem PySem.W PySem.Calls PyProof.Rows
set_option Elab.async false
set_option maxRecDepth 100000
set_option maxHeartbeats 4000000
set_option linter.unusedVariables false
namespace Mine
local macro_rules | `(tactic| k_call_by "bb" ()) => `(tactic| first | exact bb_len | exact bb_range | exact bb_isinstance | exact bb_all | exact bb_any | exact bb_int | exact bb_bool | exact bb_sorted | exact bb_min | exact bb_max | exact bb_dict | exact bb_set | exact bb_abs)
local macro_rules | `(tactic| k_call_by "bn" ()) => `(tactic| first | exact bn_len _ | exact bn_range _ | exact bn_isinstance _ | exact bn_all _ | exact bn_any _ | exact bn_int _ | exact bn_bool _ | exact bn_sorted _ | exact bn_min _ | exact bn_max _ | exact bn_dict _ | exact bn_set _ | exact bn_abs _)
local macro_rules | `(tactic| k_call_by "gv" ()) => `(tactic| first | exact gv_law_wide _ | exact gv_law_slim _ | exact gv_law_draw _ | exact gv_law_size _ | exact gv_law_plain _ | exact gv_law_lines _ | exact gv_law_rows _ | exact gv_law_border _ | exact gv_law_ways _ | exact gv_DeltaSimpleTemporalNetwork _ | exact gv_DeltaNeighbors _ | exact gv_deque _)
local macro_rules | `(tactic| k_call_by "mem" ()) => `(tactic| (repeat (first | with_unfolding_all exact List.Mem.head _ | with_unfolding_all apply List.Mem.tail)))
local macro_rules | `(tactic| k_call_by "get" ()) => `(tactic| (repeat (first | with_unfolding_all exact NGet.here | with_unfolding_all apply NGet.there (by with_unfolding_all exact rfl))))
local macro_rules | `(tactic| k_call_by "nput" ()) => `(tactic| (repeat (first | with_unfolding_all exact NPut.here | with_unfolding_all exact NPut.nil | with_unfolding_all apply NPut.there (by with_unfolding_all exact rfl))))
local macro_rules | `(tactic| k_call_by "put" ()) => `(tactic| (repeat (first | with_unfolding_all exact Put.here | with_unfolding_all apply Put.there)))
local macro_rules | `(tactic| k_call_by "rfl" ()) => `(tactic| with_unfolding_all exact rfl)
local macro_rules | `(tactic| k_call_by "name" ()) => `(tactic| (with_reducible refine isName ?_; first
  | with_reducible refine EV_local (by k_call_by "rfl" ()) (by k_call_by "mem" ()) (NGet.look (by k_call_by "get" ())) ?_
  | with_reducible refine EV_cell (by k_call_by "rfl" ()) (by k_call_by "rfl" ()) (by k_call_by "mem" ()) ?_
  | with_reducible refine EV_free (by k_call_by "rfl" ()) (by k_call_by "rfl" ()) (by k_call_by "mem" ()) ?_
  | with_reducible refine EV_builtin (nsK (by assumption) (by k_call_by "bn" ())) (by k_call_by "bb" ()) ?_
  | with_reducible refine EV_global (nsK (by assumption) (by k_call_by "gv" ())) (fun _ => .ref _) ?_
  | with_reducible refine EV_global (nsK (by assumption) (by k_call_by "gv" ())) (fun _ => .con _) ?_))
local macro_rules | `(tactic| k_call_by "set" ()) => `(tactic| (with_reducible refine isSet ?_; first
  | with_reducible refine SN_local (by k_call_by "rfl" ()) (by k_call_by "put" ()) (by k_call_by "nput" ()) ?_
  | with_reducible refine SN_cell (by k_call_by "rfl" ()) (by k_call_by "rfl" ()) (by k_call_by "put" ()) ?_))
local macro_rules | `(tactic| k_call_by "op" ()) => `(tactic| with_reducible first
  | refine op_add ?_
  | refine op_sub ?_
  | refine op_neg ?_
  | refine cmp_lt ?_
  | refine cmp_gt ?_
  | refine cmp_le ?_
  | refine cmp_ge ?_
  | refine cmp_eq ?_
  | refine cmp_ne ?_
  | refine tr_bool ?_
  | refine tr_int ?_
  | refine tr_none ?_)
local macro_rules | `(tactic| k_call_by "s" ()) => `(tactic| first
  | k_call_by "name" ()
  | with_reducible refine EX_If ?_
  | with_reducible refine EX_Return ?_
  | with_reducible refine EX_nil ?_
  | with_reducible refine EX_Continue ?_
  | with_reducible refine EX_Expr ?_
  | with_reducible refine EX_Assign ?_
  | with_reducible refine EX_AssignT ?_
  | with_reducible refine EX_AssignS ?_
  | with_reducible refine EX_AssignA ?_
  | with_reducible refine EV_int ?_
  | with_reducible refine EV_bool ?_
  | with_reducible refine EV_none ?_
  | with_reducible refine EV_BinOp ?_
  | with_reducible refine EV_UnaryOp ?_
  | with_reducible refine EB_Compare ?_
  | with_reducible refine EB_not ?_
  | with_reducible refine EB_and ?_
  | with_reducible refine EB_and_nil ?_
  | with_reducible refine EB_or ?_
  | with_reducible refine EB_or_nil ?_
  | with_reducible refine EV_Compare ?_
  | with_reducible refine EV_Sub ?_
  | with_reducible refine EV_IfExp ?_
  | with_reducible refine EV_Tuple ?_
  | with_reducible refine EV_List ?_
  | with_reducible refine EV_Call ?_
  | with_reducible refine EV_MCall ?_
  | with_reducible refine EV_Attr ?_
  | with_reducible refine EVs_cons ?_
  | with_reducible refine EVs_nil ?_
  | k_call_by "op" ()
  | k_call_by "set" ()
  | with_reducible refine AT_Name ?_
  | with_reducible refine EB_plain ?_
  | with_reducible refine okB ?_
  | with_reducible refine okT ?_
  | with_reducible refine okK (by assumption) (by k_call_by "rfl" ()) ?_)
local macro_rules | `(tactic| k_call_by "go" ()) => `(tactic| (repeat (k_call_by "s" ())))

local macro_rules | `(tactic| k_call_by "at" ()) => `(tactic| (refine LawAt.of (b := ?b9) ?hb9 ?_; case hb9 => (conv => lhs; whnf)))
local macro_rules | `(tactic| k_call_by "nc" ()) => `(tactic| (intro x e; cases e))
noncomputable abbrev idA (es : DL) : AObj := .idict (es.map fun p => (p.1, AV.int p.2))
noncomputable def idAt (k : List Int) : Int := k.getD 0 0 * 64 + k.getD 1 0 + 32
noncomputable def toldOf (hs lows : TD) : TD := lows.foldl (fun t p => kput t p.1 p.2) hs
noncomputable def timesOf (far : Int) (lows : TD) : DL := lows.foldl (fun t p => kput t (idAt p.1) (-far - p.2)) [(0, -far), (1, 0)]
/-- what the network tells of the lows -/
noncomputable def LowsOk (D : DL) (far : Int) (lows : TD) : Prop := ∀ p ∈ lows, ∃ r q, p.1 = [r, q] ∧ r.natAbs < 1000 ∧ p.2.natAbs < 1000000 ∧ D.lookup (r * 64 + q + 32) = some (-far - p.2)
set_option exponentiation.threshold 2000000 in
theorem big_lt {v : Int} (h : v.natAbs < 2 ^ 200) : v.natAbs < 2 ^ 1000000 := Nat.lt_of_lt_of_le h (Nat.pow_le_pow_right (by decide) (by omega))
theorem told_len (lows : TD) : ∀ hs : TD, (lows.foldl (fun t p => kput t p.1 p.2) hs).length ≤ hs.length + lows.length := by
  induction lows with
  | nil => intro hs; exact Nat.le_refl _
  | cons p l ih =>
    intro hs
    have h1 := ih (kput hs p.1 p.2)
    have h2 := kput_le1 hs p.1 p.2
    rw [List.foldl_cons, List.length_cons]; omega
theorem times_len (far : Int) (lows : TD) : ∀ t : DL, (lows.foldl (fun t p => kput t (idAt p.1) (-far - p.2)) t).length ≤ t.length + lows.length := by
  induction lows with
  | nil => intro hs; exact Nat.le_refl _
  | cons p l ih =>
    intro t
    have h1 := ih (kput t (idAt p.1) (-far - p.2))
    have h2 := kput_le1 t (idAt p.1) (-far - p.2)
    rw [List.foldl_cons, List.length_cons]; omega
theorem mem_net {H : AHeap} {p : Addr × AObj} (h : p ∈ H) (Y : AHeap) {L m c1 c2 c3 c4 N nodes} : p ∈ Y ++ frL L m c1 c2 c3 c4 (netH N (nodes ++ H)) :=
  List.mem_append_right _ (.tail _ (.tail _ (.tail _ (.tail _ (.tail _ (.tail _ (.tail _ (.tail _ (.tail _ (List.mem_append_right _ h))))))))))
section
variable (c : Cx) (hK : c.K = hd.heap_39 c.w.params)
include hK
variable {A : Around} {Z : List (Addr × Obj)} {n : Nat} {H : AHeap}
theorem seg13 {Φ : AF → AHeap → Prop} (hA : Ar A (n + 2)) {L la ha : Addr} {N : Net} {nodes : AHeap} {S : PS} {hs lows : TD} {far : Int} {ob : Obj} {sc tl dk sq rt bl hg eg aq tt wy mt c1 c2 : AV}
   (hl : (la, .ptdict (lows.map fun p => (p.1, AV.int p.2)) ob) ∈ H) (hh : Rd c H ha (tdA hs)) (hN : NetOk N nodes S) (hfar : 0 < far) (hfar2 : far.natAbs < 2 ^ 150) (h0 : S.dist.lookup 0 = some (-far)) (h1 : S.dist.lookup 1 = some 0) (hL : LowsOk S.dist far lows) (ndl : (lows.map (·.1)).Nodup)
   (hne : hs ≠ []) (hz : hs.length ≤ 1000) (hz2 : lows.length ≤ 1000) (hnd : (hs.map fun p => (TKd c).hash p.1).Nodup)
   (h : ∀ da ti, LawAt c A Z L 33 ((ti, idA (timesOf far lows)) :: (da, tdA (toldOf hs lows)) :: frL L [("script", sc), ("tall", tl), ("dark", dk), ("squares", sq), ("right", rt), ("below", bl), ("heights", .ref ha), ("height", hg), ("far", .int far), ("net", .ref N.a), ("edges", eg), ("asked", aq), ("tight", tt), ("ways", wy), ("met", mt), ("times", .ref ti)] (some c1) (some c2) (some (.ref la)) (some (.ref da)) (netH N (nodes ++ H))) Φ) :
   LawAt c A Z L 29 (frL L [("script", sc), ("tall", tl), ("dark", dk), ("squares", sq), ("right", rt), ("below", bl), ("heights", .ref ha), ("height", hg), ("far", .int far), ("net", .ref N.a), ("edges", eg), ("asked", aq), ("tight", tt), ("ways", wy), ("met", mt)] (some c1) (some c2) (some (.ref la)) none (netH N (nodes ++ H))) Φ := by
  have un : ∀ {Z} {f as ks} {N : Net} {nodes : AHeap} {Φ : AV → AHeap → Prop} (X : AHeap) (M : List (Str × AV)) (c4 : Option AV) (_ : CodeT c A Z f as ks (netH N (nodes ++ ((X ++ frL L M (some c1) (some c2) (some (.ref la)) c4 []) ++ H))) fun v H' => ∃ N' nodes', H' = netH N' (nodes' ++ ((X ++ frL L M (some c1) (some c2) (some (.ref la)) c4 []) ++ H)) ∧ Φ v (X ++ frL L M (some c1) (some c2) (some (.ref la)) c4 (netH N' (nodes' ++ H)))), CallT c A Z f as ks (X ++ frL L M (some c1) (some c2) (some (.ref la)) c4 (netH N (nodes ++ H))) Φ := fun {Z f as ks N nodes Φ} X M c4 h => by
    have e : ∀ N nodes, X ++ frL L M (some c1) (some c2) (some (.ref la)) c4 (netH N (nodes ++ H)) = (X ++ frL L M (some c1) (some c2) (some (.ref la)) c4 []) ++ netH N (nodes ++ H) := fun N nodes => by rw [List.append_assoc]; rfl
    simp only [e] at h ⊢
    exact CodeT.call (CodeT.unders _ h)
  have l0 : N.dist.lookup 0 = some (-far) := by rw [hN.1]; exact h0
  have l1 : N.dist.lookup 1 = some 0 := by rw [hN.1]; exact h1
  have p150 : 2 ^ 150 < 2 ^ 200 := by decide
  have hfb : (-far).natAbs < 2 ^ 200 := by omega
  k_call_by "at" ()
  with_reducible refine EX_If ?_
  k_call_by "go" ()
  refine gm_203 hK (f := 166) (by simp) (by k_call_by "mem" ()) (by k_call_by "mem" ()) (by rfl) ?_
  k_call_by "go" ()
  refine un [] _ none (s_model c hK hA l0 (big_lt hfb) ⟨N, nodes, rfl, ?_⟩)
  simp only [List.nil_append]
  k_call_by "go" ()
  rw [show ((-1 * -far : Int) != far) = false by simp]
  k_call_by "go" ()
  simp only [Bool.false_eq_true, if_false]
  k_call_by "go" ()
  refine gm_203 hK (f := 166) (by simp) (by k_call_by "mem" ()) (by k_call_by "mem" ()) (by rfl) ?_
  k_call_by "go" ()
  refine un [] _ none (s_model c hK hA l1 (big_lt (by decide)) ⟨N, nodes, rfl, ?_⟩)
  simp only [List.nil_append]
  k_call_by "go" ()
  rw [show ((-1 * 0 : Int) != 0) = false by decide]
  k_call_by "go" ()
  simp only [Bool.false_eq_true, if_false]
  k_call_by "go" ()
  simp only [Bool.false_eq_true, if_false]
  k_call_by "go" ()
  refine b_dictT (es := hs.map fun p : List Int × Int => (p.1, AV.int p.2)) (hh.net []) (by simpa using hne) (by rw [List.length_map]; exact hz) (by rw [List.map_map]; exact hnd) fun da => ?_
  k_call_by "set" ()
  with_reducible refine EX_Assign ?_
  with_reducible refine EV_Dict2 fun ti => ?_
  k_call_by "go" ()
  refine ⟨0, 1, _, rfl, rfl, .here, ?_⟩
  rw [show kput [((0 : Int), AV.int (-far))] 1 (.int 0) = [(0, .int (-far)), (1, .int 0)] by simp [kput, List.lookup]]
  k_call_by "set" ()
  with_reducible refine EX_For ?_
  k_call_by "go" ()
  refine ⟨_, _, fun i H' => H' = (ti, idA (timesOf far (lows.take i))) :: (da, tdA (toldOf hs (lows.take i))) :: frL L [("script", sc), ("tall", tl), ("dark", dk), ("squares", sq), ("right", rt), ("below", bl), ("heights", .ref ha), ("height", hg), ("far", .int far), ("net", .ref N.a), ("edges", eg), ("asked", aq), ("tight", tt), ("ways", wy), ("met", mt), ("times", .ref ti)] (some c1) (some c2) (some (.ref la)) (some (.ref da)) (netH N (nodes ++ H)),
    Loop.tdict (es := lows.map fun p => (p.1, .int p.2)) (ob := ob) hA (.inr ⟨_, _, _, rfl⟩) ?_, ?_, ?_, ?_, ?_⟩
  · exact mem_net hl [_, _]
  · rfl
  · rintro i H' rfl
    exact mem_net hl [_, _]
  · rintro i x H' Z hx rfl
    obtain ⟨p, hpi, rfl⟩ : ∃ p, lows[i]? = some p ∧ AV.tup (p.1.map .int) = x := by simpa using hx
    have hpm : p ∈ lows := List.mem_of_getElem? hpi
    have hs1 : toldOf hs (lows.take (i + 1)) = kput (toldOf hs (lows.take i)) p.1 p.2 := by
      unfold toldOf; rw [List.take_add_one, hpi, List.foldl_append]; rfl
    have hs2 : timesOf far (lows.take (i + 1)) = kput (timesOf far (lows.take i)) (idAt p.1) (-far - p.2) := by
      unfold timesOf; rw [List.take_add_one, hpi, List.foldl_append]; rfl
    have hn1 := told_len (lows.take i) hs
    have hn2 := times_len far (lows.take i) [(0, -far), (1, 0)]
    have hn3 : (lows.take i).length ≤ lows.length := by rw [List.length_take]; omega
    have hlk := lookup_nd ndl hpm
    obtain ⟨r, q, hrq, hr1, hr2, hD⟩ := hL p hpm
    have lD : N.dist.lookup (r * 64 + q + 32) = some (-far - p.2) := by rw [hN.1]; exact hD
    have hid : idAt p.1 = r * 64 + q + 32 := by rw [hrq]; rfl
    have hvb : (-far - p.2).natAbs < 2 ^ 200 := by
      have : (1000000 : Nat) < 2 ^ 150 := by decide
      have : 2 ^ 150 + 2 ^ 150 < 2 ^ 200 := by decide
      omega
    change (toldOf hs (lows.take i)).length ≤ _ at hn1
    change (timesOf far (lows.take i)).length ≤ _ at hn2
    simp only [List.length_cons, List.length_nil] at hn2
    rw [hid] at hs2
    dsimp only
    rw [hs1, hs2]
    generalize toldOf hs (lows.take i) = t1 at hn1 ⊢
    generalize timesOf far (lows.take i) = t2 at hn2 ⊢
    rw [hrq] at hlk ⊢
    refine AT_Tuple hA rfl ?_ nm2
    simp only [ATs, List.map_cons, List.map_nil]
    k_call_by "s" ()
    k_call_by "set" ()
    k_call_by "s" ()
    k_call_by "set" ()
    refine Tr.post ?_
    k_call_by "go" ()
    refine gm_203 hK (f := 166) (by simp) (by k_call_by "mem" ()) (by k_call_by "mem" ()) (by rfl) ?_
    k_call_by "go" ()
    refine op_mul (mul_ok 10 7 (by omega) (by decide)) ?_
    k_call_by "go" ()
    refine un [_, _] _ _ (s_model c hK hA lD (big_lt hvb) ⟨N, nodes, rfl, ?_⟩)
    simp only [List.cons_append, List.nil_append]
    k_call_by "go" ()
    refine ⟨by simp, ?_⟩
    k_call_by "go" ()
    rw [show (-1 * (-far - p.2) - far) = p.2 by omega]
    refine set_tdict hA (k := [r, q]) (es := t1.map fun p => (p.1, AV.int p.2)) (x := .int p.2) (.there .here) (by rw [List.length_map]; omega) ?_
    rw [kput_mapV AV.int]
    k_call_by "go" ()
    refine ⟨by simp, ?_⟩
    k_call_by "go" ()
    refine sub_tdict hA (k := [r, q]) (.pinT (mem_net hl [_, _])) (x := .int p.2) (by rw [lookT, hlk]; rfl) ?_
    k_call_by "go" ()
    refine op_mul (mul_ok 10 7 (by omega) (by decide)) ?_
    k_call_by "go" ()
    refine set_idict (es := t2.map fun p => (p.1, AV.int p.2)) (x := .int (-far - p.2)) .here (by rw [List.length_map]; omega) ?_
    rw [kput_mapV AV.int]
    k_call_by "go" ()
    exact ⟨_, Weak.dropNs (m := [("script", sc), ("tall", tl), ("dark", dk), ("squares", sq), ("right", rt), ("below", bl), ("heights", .ref ha), ("height", hg), ("far", .int far), ("net", .ref N.a), ("edges", eg), ("asked", aq), ("tight", tt), ("ways", wy), ("met", mt), ("times", .ref ti)]) (.there (.there .here)), rfl⟩
  · rintro H' rfl
    rw [List.length_map, List.length_map, List.take_length]
    with_reducible refine LawAt.go (L := L) 33 ?_
    exact h da ti
end

end Mine
end
section
open PySem PySem.W PySem.Calls PyProof.Rows
set_option Elab.async false
set_option maxRecDepth 100000
set_option maxHeartbeats 4000000
set_option linter.unusedVariables false
namespace Mine
local macro_rules | `(tactic| k_call_by "bb" ()) => `(tactic| first | exact bb_len | exact bb_range | exact bb_isinstance | exact bb_all | exact bb_any | exact bb_int | exact bb_bool | exact bb_sorted | exact bb_min | exact bb_max | exact bb_dict | exact bb_set | exact bb_abs)
local macro_rules | `(tactic| k_call_by "bn" ()) => `(tactic| first | exact bn_len _ | exact bn_range _ | exact bn_isinstance _ | exact bn_all _ | exact bn_any _ | exact bn_int _ | exact bn_bool _ | exact bn_sorted _ | exact bn_min _ | exact bn_max _ | exact bn_dict _ | exact bn_set _ | exact bn_abs _)
local macro_rules | `(tactic| k_call_by "gv" ()) => `(tactic| first | exact gv_law_wide _ | exact gv_law_slim _ | exact gv_law_draw _ | exact gv_law_size _ | exact gv_law_plain _ | exact gv_law_lines _ | exact gv_law_rows _ | exact gv_law_border _ | exact gv_law_ways _ | exact gv_DeltaSimpleTemporalNetwork _ | exact gv_DeltaNeighbors _ | exact gv_deque _)
local macro_rules | `(tactic| k_call_by "mem" ()) => `(tactic| (repeat (first | with_unfolding_all exact List.Mem.head _ | with_unfolding_all apply List.Mem.tail)))
local macro_rules | `(tactic| k_call_by "get" ()) => `(tactic| (repeat (first | with_unfolding_all exact NGet.here | with_unfolding_all apply NGet.there (by with_unfolding_all exact rfl))))
local macro_rules | `(tactic| k_call_by "nput" ()) => `(tactic| (repeat (first | with_unfolding_all exact NPut.here | with_unfolding_all exact NPut.nil | with_unfolding_all apply NPut.there (by with_unfolding_all exact rfl))))
local macro_rules | `(tactic| k_call_by "put" ()) => `(tactic| (repeat (first | with_unfolding_all exact Put.here | with_unfolding_all apply Put.there)))
local macro_rules | `(tactic| k_call_by "rfl" ()) => `(tactic| with_unfolding_all exact rfl)
local macro_rules | `(tactic| k_call_by "name" ()) => `(tactic| (with_reducible refine isName ?_; first
  | with_reducible refine EV_local (by k_call_by "rfl" ()) (by k_call_by "mem" ()) (NGet.look (by k_call_by "get" ())) ?_
  | with_reducible refine EV_cell (by k_call_by "rfl" ()) (by k_call_by "rfl" ()) (by k_call_by "mem" ()) ?_
  | with_reducible refine EV_free (by k_call_by "rfl" ()) (by k_call_by "rfl" ()) (by k_call_by "mem" ()) ?_
  | with_reducible refine EV_builtin (nsK (by assumption) (by k_call_by "bn" ())) (by k_call_by "bb" ()) ?_
  | with_reducible refine EV_global (nsK (by assumption) (by k_call_by "gv" ())) (fun _ => .ref _) ?_
  | with_reducible refine EV_global (nsK (by assumption) (by k_call_by "gv" ())) (fun _ => .con _) ?_))
local macro_rules | `(tactic| k_call_by "set" ()) => `(tactic| (with_reducible refine isSet ?_; first
  | with_reducible refine SN_local (by k_call_by "rfl" ()) (by k_call_by "put" ()) (by k_call_by "nput" ()) ?_
  | with_reducible refine SN_cell (by k_call_by "rfl" ()) (by k_call_by "rfl" ()) (by k_call_by "put" ()) ?_))
local macro_rules | `(tactic| k_call_by "op" ()) => `(tactic| with_reducible first
  | refine op_add ?_
  | refine op_sub ?_
  | refine op_neg ?_
  | refine cmp_lt ?_
  | refine cmp_gt ?_
  | refine cmp_le ?_
  | refine cmp_ge ?_
  | refine cmp_eq ?_
  | refine cmp_ne ?_
  | refine tr_bool ?_
  | refine tr_int ?_
  | refine tr_none ?_)
local macro_rules | `(tactic| k_call_by "s" ()) => `(tactic| first
  | k_call_by "name" ()
  | with_reducible refine EX_If ?_
  | with_reducible refine EX_Return ?_
  | with_reducible refine EX_nil ?_
  | with_reducible refine EX_Continue ?_
  | with_reducible refine EX_Expr ?_
  | with_reducible refine EX_Assign ?_
  | with_reducible refine EX_AssignT ?_
  | with_reducible refine EX_AssignS ?_
  | with_reducible refine EX_AssignA ?_
  | with_reducible refine EV_int ?_
  | with_reducible refine EV_bool ?_
  | with_reducible refine EV_none ?_
  | with_reducible refine EV_BinOp ?_
  | with_reducible refine EV_UnaryOp ?_
  | with_reducible refine EB_Compare ?_
  | with_reducible refine EB_not ?_
  | with_reducible refine EB_and ?_
  | with_reducible refine EB_and_nil ?_
  | with_reducible refine EB_or ?_
  | with_reducible refine EB_or_nil ?_
  | with_reducible refine EV_Compare ?_
  | with_reducible refine EV_Sub ?_
  | with_reducible refine EV_IfExp ?_
  | with_reducible refine EV_Tuple ?_
  | with_reducible refine EV_List ?_
  | with_reducible refine EV_Call ?_
  | with_reducible refine EV_MCall ?_
  | with_reducible refine EV_Attr ?_
  | with_reducible refine EVs_cons ?_
  | with_reducible refine EVs_nil ?_
  | k_call_by "op" ()
  | k_call_by "set" ()
  | with_reducible refine AT_Name ?_
  | with_reducible refine EB_plain ?_
  | with_reducible refine okB ?_
  | with_reducible refine okT ?_
  | with_reducible refine okK (by assumption) (by k_call_by "rfl" ()) ?_)
local macro_rules | `(tactic| k_call_by "go" ()) => `(tactic| (repeat (k_call_by "s" ())))

local macro_rules | `(tactic| k_call_by "at" ()) => `(tactic| (refine LawAt.of (b := ?b9) ?hb9 ?_; case hb9 => (conv => lhs; whnf)))
local macro_rules | `(tactic| k_call_by "nc" ()) => `(tactic| (intro x e; cases e))
noncomputable def ToldOk (told : TD) (edges : List Edge) : Prop := ∀ e ∈ edges, ∃ a b a' b' x y, e = ([a, b], [a', b']) ∧ told.lookup [a', b'] = some x ∧ told.lookup [a, b] = some y ∧ (x - y = 1 ∨ x - y = -3)
theorem mem_fr {H : AHeap} {p : Addr × AObj} (h : p ∈ H) (Y : AHeap) {L m c1 c2 c3 c4} : p ∈ Y ++ frL L m c1 c2 c3 c4 H :=
  List.mem_append_right _ (.tail _ (.tail _ (.tail _ (.tail _ (.tail _ h)))))
section
variable (c : Cx) (hK : c.K = hd.heap_39 c.w.params)
include hK
variable {A : Around} {Z : List (Addr × Obj)} {n : Nat} {H : AHeap}
theorem seg14 {Φ : AF → AHeap → Prop} (hA : Ar A (n + 2)) {L la da ea : Addr} {told lows : TD} {edges : List Edge} {ob : Obj} {sc tl dk sq rt bl ht' hg fr nt aq tt wy mt tm c1 c2 : AV}
   (hl : (la, .ptdict (lows.map fun p => (p.1, AV.int p.2)) ob) ∈ H) (hd' : Rd c H da (tdA told)) (he : Rd c H ea (.list (edges.map edgeA))) (hT : ToldOk told edges) (hT2 : ∀ p ∈ lows, told.lookup p.1 = some p.2) (ndl : (lows.map (·.1)).Nodup) (hz : edges.length ≤ 1000) (hz2 : lows.length ≤ 1000)
   (h : LawAt c A Z L 34 (frL L [("script", sc), ("tall", tl), ("dark", dk), ("squares", sq), ("right", rt), ("below", bl), ("heights", ht'), ("height", hg), ("far", fr), ("net", nt), ("edges", .ref ea), ("asked", aq), ("tight", tt), ("ways", wy), ("met", mt), ("times", tm)] (some c1) (some c2) (some (.ref la)) (some (.ref da)) H) Φ) :
   LawAt c A Z L 33 (frL L [("script", sc), ("tall", tl), ("dark", dk), ("squares", sq), ("right", rt), ("below", bl), ("heights", ht'), ("height", hg), ("far", fr), ("net", nt), ("edges", .ref ea), ("asked", aq), ("tight", tt), ("ways", wy), ("met", mt), ("times", tm)] (some c1) (some c2) (some (.ref la)) (some (.ref da)) H) Φ := by
  k_call_by "at" ()
  with_reducible refine EX_If ?_
  k_call_by "s" ()
  with_reducible refine EB_plain ?_
  k_call_by "go" ()
  with_reducible refine EV_LC1 [("told", L + 1 + 1 + 1 + 1)] ?_
  k_call_by "go" ()
  have hz3 : ∀ b : Bool, ∀ m, ((List.replicate m b).map AV.bool).length = m := fun b m => by simp
  refine ⟨_, _, fun i ys Hr => ys = (List.replicate i false).map .bool ∧ i ≤ edges.length ∧ Hr = frL L [("script", sc), ("tall", tl), ("dark", dk), ("squares", sq), ("right", rt), ("below", bl), ("heights", ht'), ("height", hg), ("far", fr), ("net", nt), ("edges", .ref ea), ("asked", aq), ("tight", tt), ("ways", wy), ("met", mt), ("times", tm)] (some c1) (some c2) (some (.ref la)) (some (.ref da)) H, Loop.list hA (.inr ⟨_, _, _, rfl⟩) (he.fr []), ⟨rfl, Nat.zero_le _, rfl⟩, ?_, ?_, ?_⟩
  · rintro i ys Hr K acc m ⟨_, _, rfl⟩
    exact he.fr [_, _]
  · rintro i x ys Hr Z K acc hx ⟨rfl, hi, rfl⟩
    obtain ⟨e, hei, rfl⟩ : ∃ e, edges[i]? = some e ∧ edgeA e = x := by simpa using hx
    have hlt := (List.getElem?_eq_some_iff.mp hei).1
    obtain ⟨a, b, a', b', x, y, rfl, hx, hy, hxy⟩ := hT e (List.mem_of_getElem? hei)
    refine AT_Tuple hA rfl ?_ nm2
    simp only [ATs]
    k_call_by "go" ()
    refine sub_tdict hA (k := [a', b']) (hd'.fr [_, _]) (x := .int x) (by rw [lookT, hx]; rfl) ?_
    k_call_by "go" ()
    refine sub_tdict hA (k := [a, b]) (hd'.fr [_, _]) (x := .int y) (by rw [lookT, hy]; rfl) ?_
    k_call_by "go" ()
    refine ⟨by simp, ?_⟩
    refine notin_tup (l := [1, -3]) ?_
    rw [show (!([1, -3] : List Int).any (· == x - y)) = false by rcases hxy with h | h <;> rw [h] <;> decide]
    refine ⟨_, _, .refl _ _, by rw [hz3]; omega, ?_, hlt, rfl⟩
    rw [List.replicate_succ', List.map_append]; rfl
  · rintro ys Hr acc ⟨rfl, _, rfl⟩
    k_call_by "go" ()
    refine b_any (bs := List.replicate (edges.map edgeA).length false) hA (.mem (.head _)) ?_
    rw [show (List.replicate (edges.map edgeA).length false).any id = false by simp]
    k_call_by "go" ()
    simp only [Bool.false_eq_true, if_false]
    refine Tr.weak ?_ (Weak.sub' (List.sublist_cons_self _ _))
    k_call_by "s" ()
    with_reducible refine EB_plain ?_
    k_call_by "go" ()
    with_reducible refine EV_LC1 [("told", L + 1 + 1 + 1 + 1), ("lows", L + 1 + 1 + 1)] ?_
    k_call_by "go" ()
    refine ⟨_, _, fun i ys Hr => ys = (List.replicate i false).map .bool ∧ i ≤ lows.length ∧ Hr = frL L [("script", sc), ("tall", tl), ("dark", dk), ("squares", sq), ("right", rt), ("below", bl), ("heights", ht'), ("height", hg), ("far", fr), ("net", nt), ("edges", .ref ea), ("asked", aq), ("tight", tt), ("ways", wy), ("met", mt), ("times", tm)] (some c1) (some c2) (some (.ref la)) (some (.ref da)) H, Loop.tdict (es := lows.map fun p => (p.1, .int p.2)) (ob := ob) hA (.inl ⟨_, _, rfl⟩) (mem_fr hl []), ⟨rfl, Nat.zero_le _, rfl⟩, ?_, ?_, ?_⟩
    · rintro i ys Hr K acc m ⟨_, _, rfl⟩
      exact mem_fr hl [_, _]
    · rintro i x ys Hr Z K acc hx ⟨rfl, hi, rfl⟩
      obtain ⟨p, hpi, rfl⟩ : ∃ p, lows[i]? = some p ∧ AV.tup (p.1.map .int) = x := by simpa using hx
      have hlt := (List.getElem?_eq_some_iff.mp hpi).1
      have hpm : p ∈ lows := List.mem_of_getElem? hpi
      have hlk := lookup_nd ndl hpm
      have htk := hT2 p hpm
      k_call_by "go" ()
      refine sub_tdict hA (k := p.1) (hd'.fr [_, _]) (x := .int p.2) (by rw [lookT, htk]; rfl) ?_
      k_call_by "go" ()
      refine sub_tdict hA (k := p.1) (.pinT (mem_fr hl [_, _])) (x := .int p.2) (by rw [lookT, hlk]; rfl) ?_
      k_call_by "go" ()
      rw [show (p.2 != p.2) = false by simp]
      refine ⟨_, _, .refl _ _, by rw [hz3]; omega, ?_, hlt, rfl⟩
      rw [List.replicate_succ', List.map_append]; rfl
    · rintro ys Hr acc ⟨rfl, _, rfl⟩
      k_call_by "go" ()
      refine b_any (bs := List.replicate ((lows.map fun p => (p.1, AV.int p.2)).map fun q => AV.tup (q.1.map .int)).length false) hA (.mem (.head _)) ?_
      rw [show (List.replicate ((lows.map fun p => (p.1, AV.int p.2)).map fun q => AV.tup (q.1.map .int)).length false).any id = false by simp]
      k_call_by "go" ()
      simp only [Bool.false_eq_true, if_false]
      k_call_by "go" ()
      simp only [Bool.false_eq_true, if_false]
      refine Tr.weak ?_ (Weak.sub' (List.sublist_cons_self _ _))
      k_call_by "s" ()
      with_reducible refine LawAt.go (L := L) 34 ?_
      exact h
end

end Mine
end
section
open PySem PySem.W PySem.Calls PyProof.Rows
set_option Elab.async false
set_option maxRecDepth 100000
set_option maxHeartbeats 4000000
set_option linter.unusedVariables false
namespace Mine
local macro_rules | `(tactic| k_call_by "bb" ()) => `(tactic| first | exact bb_len | exact bb_range | exact bb_isinstance | exact bb_all | exact bb_any | exact bb_int | exact bb_bool | exact bb_sorted | exact bb_min | exact bb_max | exact bb_dict | exact bb_set | exact bb_abs)
local macro_rules | `(tactic| k_call_by "bn" ()) => `(tactic| first | exact bn_len _ | exact bn_range _ | exact bn_isinstance _ | exact bn_all _ | exact bn_any _ | exact bn_int _ | exact bn_bool _ | exact bn_sorted _ | exact bn_min _ | exact bn_max _ | exact bn_dict _ | exact bn_set _ | exact bn_abs _)
local macro_rules | `(tactic| k_call_by "gv" ()) => `(tactic| first | exact gv_law_wide _ | exact gv_law_slim _ | exact gv_law_draw _ | exact gv_law_size _ | exact gv_law_plain _ | exact gv_law_lines _ | exact gv_law_rows _ | exact gv_law_border _ | exact gv_law_ways _ | exact gv_DeltaSimpleTemporalNetwork _ | exact gv_DeltaNeighbors _ | exact gv_deque _)
local macro_rules | `(tactic| k_call_by "mem" ()) => `(tactic| (repeat (first | with_unfolding_all exact List.Mem.head _ | with_unfolding_all apply List.Mem.tail)))
local macro_rules | `(tactic| k_call_by "get" ()) => `(tactic| (repeat (first | with_unfolding_all exact NGet.here | with_unfolding_all apply NGet.there (by with_unfolding_all exact rfl))))
local macro_rules | `(tactic| k_call_by "nput" ()) => `(tactic| (repeat (first | with_unfolding_all exact NPut.here | with_unfolding_all exact NPut.nil | with_unfolding_all apply NPut.there (by with_unfolding_all exact rfl))))
local macro_rules | `(tactic| k_call_by "put" ()) => `(tactic| (repeat (first | with_unfolding_all exact Put.here | with_unfolding_all apply Put.there)))
local macro_rules | `(tactic| k_call_by "rfl" ()) => `(tactic| with_unfolding_all exact rfl)
local macro_rules | `(tactic| k_call_by "name" ()) => `(tactic| (with_reducible refine isName ?_; first
  | with_reducible refine EV_local (by k_call_by "rfl" ()) (by k_call_by "mem" ()) (NGet.look (by k_call_by "get" ())) ?_
  | with_reducible refine EV_cell (by k_call_by "rfl" ()) (by k_call_by "rfl" ()) (by k_call_by "mem" ()) ?_
  | with_reducible refine EV_free (by k_call_by "rfl" ()) (by k_call_by "rfl" ()) (by k_call_by "mem" ()) ?_
  | with_reducible refine EV_builtin (nsK (by assumption) (by k_call_by "bn" ())) (by k_call_by "bb" ()) ?_
  | with_reducible refine EV_global (nsK (by assumption) (by k_call_by "gv" ())) (fun _ => .ref _) ?_
  | with_reducible refine EV_global (nsK (by assumption) (by k_call_by "gv" ())) (fun _ => .con _) ?_))
local macro_rules | `(tactic| k_call_by "set" ()) => `(tactic| (with_reducible refine isSet ?_; first
  | with_reducible refine SN_local (by k_call_by "rfl" ()) (by k_call_by "put" ()) (by k_call_by "nput" ()) ?_
  | with_reducible refine SN_cell (by k_call_by "rfl" ()) (by k_call_by "rfl" ()) (by k_call_by "put" ()) ?_))
local macro_rules | `(tactic| k_call_by "op" ()) => `(tactic| with_reducible first
  | refine op_add ?_
  | refine op_sub ?_
  | refine op_neg ?_
  | refine cmp_lt ?_
  | refine cmp_gt ?_
  | refine cmp_le ?_
  | refine cmp_ge ?_
  | refine cmp_eq ?_
  | refine cmp_ne ?_
  | refine tr_bool ?_
  | refine tr_int ?_
  | refine tr_none ?_)
local macro_rules | `(tactic| k_call_by "s" ()) => `(tactic| first
  | k_call_by "name" ()
  | with_reducible refine EX_If ?_
  | with_reducible refine EX_Return ?_
  | with_reducible refine EX_nil ?_
  | with_reducible refine EX_Continue ?_
  | with_reducible refine EX_Expr ?_
  | with_reducible refine EX_Assign ?_
  | with_reducible refine EX_AssignT ?_
  | with_reducible refine EX_AssignS ?_
  | with_reducible refine EX_AssignA ?_
  | with_reducible refine EV_int ?_
  | with_reducible refine EV_bool ?_
  | with_reducible refine EV_none ?_
  | with_reducible refine EV_BinOp ?_
  | with_reducible refine EV_UnaryOp ?_
  | with_reducible refine EB_Compare ?_
  | with_reducible refine EB_not ?_
  | with_reducible refine EB_and ?_
  | with_reducible refine EB_and_nil ?_
  | with_reducible refine EB_or ?_
  | with_reducible refine EB_or_nil ?_
  | with_reducible refine EV_Compare ?_
  | with_reducible refine EV_Sub ?_
  | with_reducible refine EV_IfExp ?_
  | with_reducible refine EV_Tuple ?_
  | with_reducible refine EV_List ?_
  | with_reducible refine EV_Call ?_
  | with_reducible refine EV_MCall ?_
  | with_reducible refine EV_Attr ?_
  | with_reducible refine EVs_cons ?_
  | with_reducible refine EVs_nil ?_
  | k_call_by "op" ()
  | k_call_by "set" ()
  | with_reducible refine AT_Name ?_
  | with_reducible refine EB_plain ?_
  | with_reducible refine okB ?_
  | with_reducible refine okT ?_
  | with_reducible refine okK (by assumption) (by k_call_by "rfl" ()) ?_)
local macro_rules | `(tactic| k_call_by "go" ()) => `(tactic| (repeat (k_call_by "s" ())))

local macro_rules | `(tactic| k_call_by "at" ()) => `(tactic| (refine LawAt.of (b := ?b9) ?hb9 ?_; case hb9 => (conv => lhs; whnf)))
local macro_rules | `(tactic| k_call_by "nc" ()) => `(tactic| (intro x e; cases e))
noncomputable def HeldOk (f : Nat) (S : PS) (lows : TD) (met : MD) : Prop := ∀ p ∈ lows, ∃ r q, p.1 = [r, q] ∧ r.natAbs < 1000 ∧ ∀ j : Int, 0 ≤ j → j < 3 → okIns f S 0 (r * 64 + q + 32) (some (p.2 + 4 * j)) (some (p.2 + 4 * j)) ∧
  ∃ S', S.ins f 0 (r * 64 + q + 32) (some (p.2 + 4 * j)) (some (p.2 + 4 * j)) = some S' ∧ S'.sat = (met.lookup [r, q, p.2 + 4 * j]).isSome
theorem lookV {K V W : Type} [BEq K] (f : V → W) (es : List (K × V)) (k : K) : (es.map fun p => (p.1, f p.2)).lookup k = (es.lookup k).map f := by
  induction es with
  | nil => rfl
  | cons p r ih =>
    obtain ⟨a, b⟩ := p
    rw [List.map_cons, List.lookup_cons, List.lookup_cons]
    cases k == a with
    | true => rfl
    | false => exact ih
theorem Tr.nodup {c : Cx} {A : Around} {Z : List (Addr × Obj)} {α β : Type} {rel : Heap → α → β → Prop} {t : Sem α} {H : AHeap} {Φ : β → AHeap → Prop} (h : (H.map (·.1)).Nodup → Tr c A Z rel t H Φ) : Tr c A Z rel t H Φ := fun s S => h S.nodup s S
theorem Weak.mem {c : Cx} {H H' : AHeap} (h : ∀ p ∈ H', p ∈ H) (nd : (H'.map (·.1)).Nodup) : Weak c H H' := fun Z s S =>
  ⟨S.same, S.base, S.extra, fun p hp => S.owns p (h p hp), nd, fun p hp => S.offB p (h p hp), fun p hp => S.offZ p (h p hp)⟩
section
variable (c : Cx) (hK : c.K = hd.heap_39 c.w.params)
include hK
variable {A : Around} {Z : List (Addr × Obj)} {n : Nat} {H : AHeap}
theorem seg15 {Φ : AF → AHeap → Prop} (hA : Ar A (n + 6)) {L la ma sa : Addr} {ns : List Int} {N : Net} {nodes : AHeap} {S : PS} {lows : TD} {met : MD} {f : Nat} {ob : Obj} {tl dk sq rt bl ht' hg fr eg aq tt wy tm c1 c2 c4 : AV}
   (hsl : ∀ H, Rd c H sa (.list (ns.map .int))) (hns : ns.length ≤ 63) (hl : (la, .ptdict (lows.map fun p => (p.1, AV.int p.2)) ob) ∈ H) (hm : Rd c H ma (mdA met)) (hN : NetOk N nodes S) (hf : f ≤ 10000) (hH : HeldOk f S lows met) (ndl : (lows.map (·.1)).Nodup) (hz : lows.length < 64) (hd1 : N.dist.length ≤ 1000) (hd2 : N.cons.length ≤ 1000)
   (h : LawAt c A Z L 35 (frL L [("script", .ref sa), ("tall", tl), ("dark", dk), ("squares", sq), ("right", rt), ("below", bl), ("heights", ht'), ("height", hg), ("far", fr), ("net", .ref N.a), ("edges", eg), ("asked", aq), ("tight", tt), ("ways", wy), ("met", .ref ma), ("times", tm)] (some c1) (some c2) (some (.ref la)) (some c4) (netH N (nodes ++ H))) Φ) :
   LawAt c A Z L 34 (frL L [("script", .ref sa), ("tall", tl), ("dark", dk), ("squares", sq), ("right", rt), ("below", bl), ("heights", ht'), ("height", hg), ("far", fr), ("net", .ref N.a), ("edges", eg), ("asked", aq), ("tight", tt), ("ways", wy), ("met", .ref ma), ("times", tm)] (some c1) (some c2) (some (.ref la)) (some c4) (netH N (nodes ++ H))) Φ := by
  have un : ∀ {Z} {f as ks} {N : Net} {nodes : AHeap} {Φ : AV → AHeap → Prop} (X : AHeap) (M : List (Str × AV)) (_ : CodeT c A Z f as ks (netH N (nodes ++ ((X ++ frL L M (some c1) (some c2) (some (.ref la)) (some c4) []) ++ H))) fun v H' => ∃ N' nodes', H' = netH N' (nodes' ++ ((X ++ frL L M (some c1) (some c2) (some (.ref la)) (some c4) []) ++ H)) ∧ Φ v (X ++ frL L M (some c1) (some c2) (some (.ref la)) (some c4) (netH N' (nodes' ++ H)))), CallT c A Z f as ks (X ++ frL L M (some c1) (some c2) (some (.ref la)) (some c4) (netH N (nodes ++ H))) Φ := fun {Z f as ks N nodes Φ} X M h => by
    have e : ∀ N nodes, X ++ frL L M (some c1) (some c2) (some (.ref la)) (some c4) (netH N (nodes ++ H)) = (X ++ frL L M (some c1) (some c2) (some (.ref la)) (some c4) []) ++ netH N (nodes ++ H) := fun N nodes => by rw [List.append_assoc]; rfl
    simp only [e] at h ⊢
    exact CodeT.call (CodeT.unders _ h)
  k_call_by "at" ()
  refine Tr.nodup fun nd0 => ?_
  have nd1 : ((netH N (nodes ++ H)).map (·.1)).Nodup := by
    rw [List.map_cons, List.nodup_cons, List.map_cons, List.nodup_cons, List.map_cons, List.nodup_cons, List.map_cons, List.nodup_cons, List.map_cons, List.nodup_cons] at nd0
    exact nd0.2.2.2.2.2
  with_reducible refine EX_IfJ (fun H'' => Weak c H'' (frL L [("script", .ref sa), ("tall", tl), ("dark", dk), ("squares", sq), ("right", rt), ("below", bl), ("heights", ht'), ("height", hg), ("far", fr), ("net", .ref N.a), ("edges", eg), ("asked", aq), ("tight", tt), ("ways", wy), ("met", .ref ma), ("times", tm)] (some c1) (some c2) (some (.ref la)) (some c4) (netH N (nodes ++ H)))) ?_ ?_
  · k_call_by "go" ()
    refine tr_tdict (.pinT (mem_net hl [])) (by rw [List.length_map]; omega) ?_
    cases hlw : lows with
    | nil =>
      simp only [List.map_nil, List.isEmpty_nil, Bool.not_true, Bool.false_eq_true, if_false]
      k_call_by "s" ()
      exact ⟨rfl, .refl _ _⟩
    | cons p0 l0 =>
      simp only [List.map_cons, List.isEmpty_cons, Bool.not_false, if_true]
      have hl1 : 1 ≤ lows.length := by rw [hlw]; simp
      clear hlw
      with_reducible refine EX_AssignT ?_
      k_call_by "go" ()
      refine b_sortedT (L := L) (dd := 1) hA (.head _) (mem_net hl []) (by rw [List.length_map]; exact hl1) (by rw [List.length_map]; exact hz) ?_ (by rw [List.map_map]; exact ndl) fun so out hp => ?_
      · intro p hp
        obtain ⟨q, hq, rfl⟩ := List.mem_map.mp hp
        obtain ⟨r, q', e, _⟩ := hH q hq
        dsimp only
        rw [e]; rfl
      rw [List.map_map] at hp
      have hol : out.length = lows.length := by rw [hp.length_eq, List.length_map]
      k_call_by "go" ()
      refine b_len_tdict (.pinT (mem_net hl [_])) (by rw [List.length_map]; omega) ?_
      rw [List.length_map]
      k_call_by "go" ()
      refine CodeT.call (s_draw c hK hA (hsl _) (by omega) (by omega) (by omega) (by omega) ?_)
      have hdr := draw_pos (ns := ns) (p := 10) (m := lows.length) (by omega)
      generalize draw ns 10 lows.length = d at hdr ⊢
      obtain ⟨key, hkey⟩ : ∃ key, out[d.toNat]? = some key := ⟨_, List.getElem?_eq_getElem (by omega)⟩
      have hkm : key ∈ lows.map (·.1) := hp.mem_iff.mp (List.mem_of_getElem? hkey)
      obtain ⟨p, hpm, rfl⟩ := List.mem_map.mp hkm
      have hlk := lookup_nd ndl hpm
      obtain ⟨r, q, hrq, hrb, hheld⟩ := hH p hpm
      refine sub_list (.mem (.head _)) hdr.1 (x := tupL p.1) (by rw [List.getElem?_map, hkey]; rfl) (by omega) ?_ (by intro _; rfl)
      rw [hrq] at hlk ⊢
      refine AT_Tuple hA rfl ?_ nm2
      simp only [ATs, List.map_cons, List.map_nil]
      k_call_by "s" ()
      k_call_by "set" ()
      k_call_by "s" ()
      k_call_by "set" ()
      k_call_by "go" ()
      refine ⟨by simp, ?_⟩
      k_call_by "go" ()
      refine sub_tdict hA (k := [r, q]) (.pinT (mem_net hl [_])) (x := .int p.2) (by rw [lookT, hlk]; rfl) ?_
      k_call_by "go" ()
      refine CodeT.call (s_draw c hK hA (hsl _) (by omega) (by omega) (by omega) (by omega) ?_)
      have hdr2 := draw_pos (ns := ns) (p := 11) (m := 3) (by decide)
      generalize draw ns 11 3 = j at hdr2 ⊢
      obtain ⟨hok, S', hins, hsat⟩ := hheld j hdr2.1 hdr2.2
      refine op_mul (mul_ok 4 3 (by decide) (by omega)) ?_
      k_call_by "go" ()
      generalize p.2 + 4 * j = held at hok hins hsat ⊢
      refine gm_203 hK (f := 145) (by simp) (by k_call_by "mem" ()) (by k_call_by "mem" ()) (by rfl) ?_
      k_call_by "go" ()
      refine un [_] _ (s_copy c hK hA (by omega) (by omega) fun a d' dd cd => ⟨⟨a, d', dd, cd, N.dist, N.cons, N.sat⟩, netH N nodes, rfl, ?_⟩)
      simp only [List.cons_append, List.nil_append]
      k_call_by "set" ()
      have hN2 : NetOk ⟨a, d', dd, cd, N.dist, N.cons, N.sat⟩ (netH N nodes) S := ⟨hN.1, hN.2.1, hN.2.2.more fun p hp => .tail _ (.tail _ (.tail _ (.tail _ hp)))⟩
      with_reducible refine EX_Expr (EV_MCallK ?_)
      k_call_by "go" ()
      refine gm_203 hK (f := 188) (by simp) (by k_call_by "mem" ()) (by k_call_by "mem" ()) (by rfl) ?_
      k_call_by "go" ()
      refine op_mul (mul_ok 10 7 (by omega) (by decide)) ?_
      k_call_by "go" ()
      refine EKs_cons ?_
      k_call_by "go" ()
      refine EKs_cons ?_
      k_call_by "go" ()
      refine EKs_nil ?_
      refine insCall c hK (N := ⟨a, d', dd, cd, N.dist, N.cons, N.sat⟩) (nodes := netH N nodes) (R := H) (lb := some held) (rb := some held) (f := f) ((so, AObj.list (List.map (fun x => AV.tup (List.map AV.int x)) out)) :: frL L [("script", .ref sa), ("tall", tl), ("dark", dk), ("squares", sq), ("right", rt), ("below", bl), ("heights", ht'), ("height", hg), ("far", fr), ("net", .ref N.a), ("edges", eg), ("asked", aq), ("tight", tt), ("ways", wy), ("met", .ref ma), ("times", tm), ("r", .int r), ("c", .int q), ("held", .int held), ("fixed", .ref a)] (some c1) (some c2) (some (.ref la)) (some c4) []) hA hN2 hok hf hins fun N3 nodes3 h1 h2 h3 => ?_
      obtain ⟨e1, _⟩ := h1
      dsimp only at e1
      subst e1
      simp only [List.cons_append, List.nil_append]
      k_call_by "s" ()
      k_call_by "go" ()
      refine gm_203 hK (f := 159) (by simp) (by k_call_by "mem" ()) (by k_call_by "mem" ()) (by rfl) ?_
      k_call_by "go" ()
      refine un [_] _ (s_check c hK hA ⟨N3, nodes3, rfl, ?_⟩)
      simp only [List.cons_append, List.nil_append]
      k_call_by "go" ()
      refine ⟨by simp, ?_⟩
      k_call_by "go" ()
      refine in_tdict hA (k := [r, q, held]) (hm.net [_]) ?_
      rw [lookV AV.bool, Option.isSome_map]
      refine ne_bool ?_
      rw [h3.2.1, hsat]
      rw [show (!((List.lookup [r, q, held] met).isSome == (List.lookup [r, q, held] met).isSome)) = false by simp]
      k_call_by "go" ()
      simp only [Bool.false_eq_true, if_false]
      k_call_by "go" ()
      refine ⟨rfl, ?_⟩
      refine Weak.trans (Weak.dropNs (m := [("script", .ref sa), ("tall", tl), ("dark", dk), ("squares", sq), ("right", rt), ("below", bl), ("heights", ht'), ("height", hg), ("far", fr), ("net", .ref N.a), ("edges", eg), ("asked", aq), ("tight", tt), ("ways", wy), ("met", .ref ma), ("times", tm)]) (.there .here)) ?_
      refine Weak.trans (Weak.sub' (List.sublist_cons_self _ _)) ?_
      refine Weak.mem (fun p hp => ?_) nd0
      rcases List.mem_append.mp (show p ∈ frL L [("script", .ref sa), ("tall", tl), ("dark", dk), ("squares", sq), ("right", rt), ("below", bl), ("heights", ht'), ("height", hg), ("far", fr), ("net", .ref N.a), ("edges", eg), ("asked", aq), ("tight", tt), ("ways", wy), ("met", .ref ma), ("times", tm)] (some c1) (some c2) (some (.ref la)) (some c4) [] ++ (netH N nodes ++ H) from hp) with hp | hp
      · exact List.mem_append_left (netH N3 (nodes3 ++ H)) hp
      · refine List.mem_append_right (frL L [("script", .ref sa), ("tall", tl), ("dark", dk), ("squares", sq), ("right", rt), ("below", bl), ("heights", ht'), ("height", hg), ("far", fr), ("net", .ref N.a), ("edges", eg), ("asked", aq), ("tight", tt), ("ways", wy), ("met", .ref ma), ("times", tm)] (some c1) (some c2) (some (.ref la)) (some c4) []) ?_
        rcases List.mem_append.mp hp with hp | hp
        · exact .tail _ (.tail _ (.tail _ (.tail _ (List.mem_append_left _ (h2 p hp)))))
        · exact .tail _ (.tail _ (.tail _ (.tail _ (List.mem_append_right _ hp))))
  · rintro H'' wk
    with_reducible refine LawAt.go (L := L) 35 ?_
    exact h.weak wk
end

end Mine
end
section
open PySem PySem.W PySem.Calls PyProof.Rows
set_option Elab.async false
set_option maxRecDepth 100000
set_option maxHeartbeats 4000000
set_option linter.unusedVariables false
namespace Mine
local macro_rules | `(tactic| k_call_by "bb" ()) => `(tactic| first | exact bb_len | exact bb_range | exact bb_isinstance | exact bb_all | exact bb_any | exact bb_int | exact bb_bool | exact bb_sorted | exact bb_min | exact bb_max | exact bb_dict | exact bb_set | exact bb_abs)
local macro_rules | `(tactic| k_call_by "bn" ()) => `(tactic| first | exact bn_len _ | exact bn_range _ | exact bn_isinstance _ | exact bn_all _ | exact bn_any _ | exact bn_int _ | exact bn_bool _ | exact bn_sorted _ | exact bn_min _ | exact bn_max _ | exact bn_dict _ | exact bn_set _ | exact bn_abs _)
local macro_rules | `(tactic| k_call_by "gv" ()) => `(tactic| first | exact gv_law_wide _ | exact gv_law_slim _ | exact gv_law_draw _ | exact gv_law_size _ | exact gv_law_plain _ | exact gv_law_lines _ | exact gv_law_rows _ | exact gv_law_border _ | exact gv_law_ways _ | exact gv_DeltaSimpleTemporalNetwork _ | exact gv_DeltaNeighbors _ | exact gv_deque _)
local macro_rules | `(tactic| k_call_by "mem" ()) => `(tactic| (repeat (first | with_unfolding_all exact List.Mem.head _ | with_unfolding_all apply List.Mem.tail)))
local macro_rules | `(tactic| k_call_by "get" ()) => `(tactic| (repeat (first | with_unfolding_all exact NGet.here | with_unfolding_all apply NGet.there (by with_unfolding_all exact rfl))))
local macro_rules | `(tactic| k_call_by "nput" ()) => `(tactic| (repeat (first | with_unfolding_all exact NPut.here | with_unfolding_all exact NPut.nil | with_unfolding_all apply NPut.there (by with_unfolding_all exact rfl))))
local macro_rules | `(tactic| k_call_by "put" ()) => `(tactic| (repeat (first | with_unfolding_all exact Put.here | with_unfolding_all apply Put.there)))
local macro_rules | `(tactic| k_call_by "rfl" ()) => `(tactic| with_unfolding_all exact rfl)
local macro_rules | `(tactic| k_call_by "name" ()) => `(tactic| (with_reducible refine isName ?_; first
  | with_reducible refine EV_local (by k_call_by "rfl" ()) (by k_call_by "mem" ()) (NGet.look (by k_call_by "get" ())) ?_
  | with_reducible refine EV_cell (by k_call_by "rfl" ()) (by k_call_by "rfl" ()) (by k_call_by "mem" ()) ?_
  | with_reducible refine EV_free (by k_call_by "rfl" ()) (by k_call_by "rfl" ()) (by k_call_by "mem" ()) ?_
  | with_reducible refine EV_builtin (nsK (by assumption) (by k_call_by "bn" ())) (by k_call_by "bb" ()) ?_
  | with_reducible refine EV_global (nsK (by assumption) (by k_call_by "gv" ())) (fun _ => .ref _) ?_
  | with_reducible refine EV_global (nsK (by assumption) (by k_call_by "gv" ())) (fun _ => .con _) ?_))
local macro_rules | `(tactic| k_call_by "set" ()) => `(tactic| (with_reducible refine isSet ?_; first
  | with_reducible refine SN_local (by k_call_by "rfl" ()) (by k_call_by "put" ()) (by k_call_by "nput" ()) ?_
  | with_reducible refine SN_cell (by k_call_by "rfl" ()) (by k_call_by "rfl" ()) (by k_call_by "put" ()) ?_))
local macro_rules | `(tactic| k_call_by "op" ()) => `(tactic| with_reducible first
  | refine op_add ?_
  | refine op_sub ?_
  | refine op_neg ?_
  | refine cmp_lt ?_
  | refine cmp_gt ?_
  | refine cmp_le ?_
  | refine cmp_ge ?_
  | refine cmp_eq ?_
  | refine cmp_ne ?_
  | refine tr_bool ?_
  | refine tr_int ?_
  | refine tr_none ?_)
local macro_rules | `(tactic| k_call_by "s" ()) => `(tactic| first
  | k_call_by "name" ()
  | with_reducible refine EX_If ?_
  | with_reducible refine EX_Return ?_
  | with_reducible refine EX_nil ?_
  | with_reducible refine EX_Continue ?_
  | with_reducible refine EX_Expr ?_
  | with_reducible refine EX_Assign ?_
  | with_reducible refine EX_AssignT ?_
  | with_reducible refine EX_AssignS ?_
  | with_reducible refine EX_AssignA ?_
  | with_reducible refine EV_int ?_
  | with_reducible refine EV_bool ?_
  | with_reducible refine EV_none ?_
  | with_reducible refine EV_BinOp ?_
  | with_reducible refine EV_UnaryOp ?_
  | with_reducible refine EB_Compare ?_
  | with_reducible refine EB_not ?_
  | with_reducible refine EB_and ?_
  | with_reducible refine EB_and_nil ?_
  | with_reducible refine EB_or ?_
  | with_reducible refine EB_or_nil ?_
  | with_reducible refine EV_Compare ?_
  | with_reducible refine EV_Sub ?_
  | with_reducible refine EV_IfExp ?_
  | with_reducible refine EV_Tuple ?_
  | with_reducible refine EV_List ?_
  | with_reducible refine EV_Call ?_
  | with_reducible refine EV_MCall ?_
  | with_reducible refine EV_Attr ?_
  | with_reducible refine EVs_cons ?_
  | with_reducible refine EVs_nil ?_
  | k_call_by "op" ()
  | k_call_by "set" ()
  | with_reducible refine AT_Name ?_
  | with_reducible refine EB_plain ?_
  | with_reducible refine okB ?_
  | with_reducible refine okT ?_
  | with_reducible refine okK (by assumption) (by k_call_by "rfl" ()) ?_)
local macro_rules | `(tactic| k_call_by "go" ()) => `(tactic| (repeat (k_call_by "s" ())))

local macro_rules | `(tactic| k_call_by "at" ()) => `(tactic| (refine LawAt.of (b := ?b9) ?hb9 ?_; case hb9 => (conv => lhs; whnf)))
local macro_rules | `(tactic| k_call_by "nc" ()) => `(tactic| (intro x e; cases e))
theorem sorted_eq : ∀ {l m : List (List Int)}, l.Perm m → l.Pairwise (fun x y => lexLt x y = true) → m.Pairwise (fun x y => lexLt x y = true) → l = m
  | [], m, p, _, _ => by rw [List.nil_perm] at p; exact p.symm
  | a :: l, [], p, _, _ => by simp at p
  | a :: l, b :: m, p, h1, h2 => by
    rw [List.pairwise_cons] at h1 h2
    have hab : a = b := by
      have ha := p.mem_iff.mp (List.mem_cons_self (a := a) (l := l))
      have hb := p.mem_iff.mpr (List.mem_cons_self (a := b) (l := m))
      rcases List.mem_cons.mp ha with e | ha
      · exact e
      · rcases List.mem_cons.mp hb with e | hb
        · exact e.symm
        · have x1 := h1.1 b hb
          have x2 := h2.1 a ha
          have := lex_trans x1 x2
          rw [lex_irr] at this; cases this
    subst hab
    rw [List.perm_cons] at p
    rw [sorted_eq p h1.2 h2.2]
section
variable (c : Cx) (hK : c.K = hd.heap_39 c.w.params)
include hK
variable {A : Around} {Z : List (Addr × Obj)} {n : Nat} {H : AHeap}
theorem seg16 {Φ : AF → AHeap → Prop} (hA : Ar A (n + 3)) {L ti ta : Addr} {N : Net} {nodes : AHeap} {S : PS} {times : DL} {tight : TD} {sc tl dk sq rt bl ht' hg fr eg aq wy mt c1 c2 c3 c4 : AV}
   (hti : Rd c H ti (idA times)) (hta : (ta, tdA tight) ∈ H) (hN : NetOk N nodes S) (hdist : (S.dist.length == times.length && allIn S.dist times) = true)
   (nd : (S.dist.map (·.1)).Nodup) (ndC : (S.cs.map (·.1)).Nodup) (hsub : ∀ k, (S.cs.lookup k).isSome = true → (S.dist.lookup k).isSome = true) (hz : S.dist.length ≤ 1000) (h64 : ∀ k, (ch S.cs k).length ≤ 64)
   (h2 : 2 ≤ (linesOf S.dist S.cs).length) (h63 : (linesOf S.dist S.cs).length < 64) (ndl : (linesOf S.dist S.cs).Nodup) (hk : ∀ p ∈ tight, ∃ x y, p.1 = [x, y]) (ndt : (tight.map (·.1)).Nodup) (hperm : (linesOf S.dist S.cs).Perm (tight.map row3)) (hΦ : ∀ H', Φ (.ret (.bool true)) H') :
   LawAt c A Z L 35 (frL L [("script", sc), ("tall", tl), ("dark", dk), ("squares", sq), ("right", rt), ("below", bl), ("heights", ht'), ("height", hg), ("far", fr), ("net", .ref N.a), ("edges", eg), ("asked", aq), ("tight", .ref ta), ("ways", wy), ("met", mt), ("times", .ref ti)] (some c1) (some c2) (some c3) (some c4) (netH N (nodes ++ H))) Φ := by
  obtain ⟨hN1, hN2, hN3⟩ := hN
  have ht2 : 2 ≤ tight.length := by have := hperm.length_eq; rw [List.length_map] at this; omega
  have ht63 : tight.length < 64 := by have := hperm.length_eq; rw [List.length_map] at this; omega
  k_call_by "at" ()
  with_reducible refine EX_Return (EV_and ?_)
  k_call_by "go" ()
  refine get_property (p := 138) (fget := 137) (by k_call_by "mem" ()) (by k_call_by "mem" ()) (by rw [hK]; rfl) (by rw [hK]; rfl) (by rw [hK]; rfl) (by rw [hK]; rfl) (by rw [hK]; rfl) (by rw [hK]; rfl) ?_
  refine s_dist' c hK hA.in1' (by k_call_by "mem" ()) (by k_call_by "mem" ()) (NGet.look (by k_call_by "get" ())) ⟨by k_call_by "nc" (), ?_⟩
  k_call_by "go" ()
  refine eq_idict (es := S.dist) (es' := times) hA (.mem (by rw [← hN1]; k_call_by "mem" ())) (hti.net []) ?_
  rw [hdist]
  k_call_by "go" ()
  simp only [if_true]
  refine EV_one ?_
  k_call_by "go" ()
  have e : ∀ M, frL L M (some c1) (some c2) (some c3) (some c4) (netH N (nodes ++ H)) = frL L M (some c1) (some c2) (some c3) (some c4) [] ++ netH N (nodes ++ H) := fun M => rfl
  refine CodeT.call (CodeT.unders (frL L [("script", sc), ("tall", tl), ("dark", dk), ("squares", sq), ("right", rt), ("below", bl), ("heights", ht'), ("height", hg), ("far", fr), ("net", .ref N.a), ("edges", eg), ("asked", aq), ("tight", .ref ta), ("ways", wy), ("met", mt), ("times", .ref ti)] (some c1) (some c2) (some c3) (some c4) []) (CodeT.post (s_lines c hK hA hN3 (by rw [hN1]; exact nd) ndC (by rw [hN1]; exact hsub) (by rw [hN1]; exact hz) h64 (by rw [hN1]; exact h2) (by rw [hN1]; exact h63) (by rw [hN1]; exact ndl) fun a out hp ho => ⟨netH N (((a, .list (out.map fun x => .tup (x.map .int))) :: nodes) ++ _), Weak.perm' (List.perm_middle (l₁ := netH N [])), N, (a, .list (out.map fun x => .tup (x.map .int))) :: nodes, rfl, ?_⟩)))
  simp only [List.cons_append, List.nil_append]
  k_call_by "go" ()
  have hta' : (ta, tdA tight) ∈ (a, AObj.list (out.map fun x => .tup (x.map .int))) :: (nodes ++ H) := .tail _ (List.mem_append_right _ hta)
  refine CodeT.call (s_rows c hK hA (mem_fr (H := netH N ((a, .list (out.map fun x => .tup (x.map .int))) :: (nodes ++ H))) (.tail _ (.tail _ (.tail _ (.tail _ hta')))) []) hk ndt ht2 ht63 fun a2 out2 hp2 ho2 => ?_)
  refine eq_tups hA (ls := out) (ms := out2) (.mem ?_) (.mem (.head _)) ?_
  · exact .tail _ (.tail _ (.tail _ (.tail _ (.tail _ (.tail _ (.tail _ (.tail _ (.tail _ (.tail _ (.head _))))))))))
  rw [hN1] at hp
  have : out = out2 := sorted_eq (hp.trans (hperm.trans hp2.symm)) ho ho2
  rw [show decide (out = out2) = true from decide_eq_true this]
  exact hΦ _
end

end Mine
end
section
open PySem PySem.W PySem.Calls PyProof.Rows
set_option Elab.async false
set_option maxRecDepth 100000
set_option maxHeartbeats 4000000
set_option linter.unusedVariables false
namespace Mine
local macro_rules | `(tactic| k_call_by "bb" ()) => `(tactic| first | exact bb_len | exact bb_range | exact bb_isinstance | exact bb_all | exact bb_any | exact bb_int | exact bb_bool | exact bb_sorted | exact bb_min | exact bb_max | exact bb_dict | exact bb_set | exact bb_abs)
local macro_rules | `(tactic| k_call_by "bn" ()) => `(tactic| first | exact bn_len _ | exact bn_range _ | exact bn_isinstance _ | exact bn_all _ | exact bn_any _ | exact bn_int _ | exact bn_bool _ | exact bn_sorted _ | exact bn_min _ | exact bn_max _ | exact bn_dict _ | exact bn_set _ | exact bn_abs _)
local macro_rules | `(tactic| k_call_by "gv" ()) => `(tactic| first | exact gv_law_wide _ | exact gv_law_slim _ | exact gv_law_draw _ | exact gv_law_size _ | exact gv_law_plain _ | exact gv_law_lines _ | exact gv_law_rows _ | exact gv_law_border _ | exact gv_law_ways _ | exact gv_DeltaSimpleTemporalNetwork _ | exact gv_DeltaNeighbors _ | exact gv_deque _)
local macro_rules | `(tactic| k_call_by "mem" ()) => `(tactic| (repeat (first | with_unfolding_all exact List.Mem.head _ | with_unfolding_all apply List.Mem.tail)))
local macro_rules | `(tactic| k_call_by "get" ()) => `(tactic| (repeat (first | with_unfolding_all exact NGet.here | with_unfolding_all apply NGet.there (by with_unfolding_all exact rfl))))
local macro_rules | `(tactic| k_call_by "nput" ()) => `(tactic| (repeat (first | with_unfolding_all exact NPut.here | with_unfolding_all exact NPut.nil | with_unfolding_all apply NPut.there (by with_unfolding_all exact rfl))))
local macro_rules | `(tactic| k_call_by "put" ()) => `(tactic| (repeat (first | with_unfolding_all exact Put.here | with_unfolding_all apply Put.there)))
local macro_rules | `(tactic| k_call_by "rfl" ()) => `(tactic| with_unfolding_all exact rfl)
local macro_rules | `(tactic| k_call_by "name" ()) => `(tactic| (with_reducible refine isName ?_; first
  | with_reducible refine EV_local (by k_call_by "rfl" ()) (by k_call_by "mem" ()) (NGet.look (by k_call_by "get" ())) ?_
  | with_reducible refine EV_cell (by k_call_by "rfl" ()) (by k_call_by "rfl" ()) (by k_call_by "mem" ()) ?_
  | with_reducible refine EV_free (by k_call_by "rfl" ()) (by k_call_by "rfl" ()) (by k_call_by "mem" ()) ?_
  | with_reducible refine EV_builtin (nsK (by assumption) (by k_call_by "bn" ())) (by k_call_by "bb" ()) ?_
  | with_reducible refine EV_global (nsK (by assumption) (by k_call_by "gv" ())) (fun _ => .ref _) ?_
  | with_reducible refine EV_global (nsK (by assumption) (by k_call_by "gv" ())) (fun _ => .con _) ?_))
local macro_rules | `(tactic| k_call_by "set" ()) => `(tactic| (with_reducible refine isSet ?_; first
  | with_reducible refine SN_local (by k_call_by "rfl" ()) (by k_call_by "put" ()) (by k_call_by "nput" ()) ?_
  | with_reducible refine SN_cell (by k_call_by "rfl" ()) (by k_call_by "rfl" ()) (by k_call_by "put" ()) ?_))
local macro_rules | `(tactic| k_call_by "op" ()) => `(tactic| with_reducible first
  | refine op_add ?_
  | refine op_sub ?_
  | refine op_neg ?_
  | refine cmp_lt ?_
  | refine cmp_gt ?_
  | refine cmp_le ?_
  | refine cmp_ge ?_
  | refine cmp_eq ?_
  | refine cmp_ne ?_
  | refine tr_bool ?_
  | refine tr_int ?_
  | refine tr_none ?_)
local macro_rules | `(tactic| k_call_by "s" ()) => `(tactic| first
  | k_call_by "name" ()
  | with_reducible refine EX_If ?_
  | with_reducible refine EX_Return ?_
  | with_reducible refine EX_nil ?_
  | with_reducible refine EX_Continue ?_
  | with_reducible refine EX_Expr ?_
  | with_reducible refine EX_Assign ?_
  | with_reducible refine EX_AssignT ?_
  | with_reducible refine EX_AssignS ?_
  | with_reducible refine EX_AssignA ?_
  | with_reducible refine EV_int ?_
  | with_reducible refine EV_bool ?_
  | with_reducible refine EV_none ?_
  | with_reducible refine EV_BinOp ?_
  | with_reducible refine EV_UnaryOp ?_
  | with_reducible refine EB_Compare ?_
  | with_reducible refine EB_not ?_
  | with_reducible refine EB_and ?_
  | with_reducible refine EB_and_nil ?_
  | with_reducible refine EB_or ?_
  | with_reducible refine EB_or_nil ?_
  | with_reducible refine EV_Compare ?_
  | with_reducible refine EV_Sub ?_
  | with_reducible refine EV_IfExp ?_
  | with_reducible refine EV_Tuple ?_
  | with_reducible refine EV_List ?_
  | with_reducible refine EV_Call ?_
  | with_reducible refine EV_MCall ?_
  | with_reducible refine EV_Attr ?_
  | with_reducible refine EVs_cons ?_
  | with_reducible refine EVs_nil ?_
  | k_call_by "op" ()
  | k_call_by "set" ()
  | with_reducible refine AT_Name ?_
  | with_reducible refine EB_plain ?_
  | with_reducible refine okB ?_
  | with_reducible refine okT ?_
  | with_reducible refine okK (by assumption) (by k_call_by "rfl" ()) ?_)
local macro_rules | `(tactic| k_call_by "go" ()) => `(tactic| (repeat (k_call_by "s" ())))

noncomputable abbrev plR (rows : List (Int × Int)) : TD := placeOf (sqOf rows)
noncomputable abbrev rtR (rows : List (Int × Int)) : List Int := rightOf (sqOf rows) (plR rows)
noncomputable abbrev blR (rows : List (Int × Int)) : List Int := belowOf (sqOf rows) (plR rows)
noncomputable abbrev hsR (rows : List (Int × Int)) (dark : Int) : TD := (heightsOf rows dark).1
noncomputable abbrev edR (rows : List (Int × Int)) (dark : Int) : List Edge := edgesOf (sqOf rows) (rtR rows) (blR rows) dark
noncomputable abbrev aqR (rows : List (Int × Int)) (dark : Int) : List (List Int) := askedOf (hsR rows dark) (heightsOf rows dark).2 (edR rows dark)
noncomputable abbrev lmR (rows : List (Int × Int)) (dark : Int) (ways : List Int) : LM := lmOf rows (hsR rows dark) (plR rows) dark ways
structure LawMore (hash : List Int → Int) (rows : List (Int × Int)) (dark far : Int) (f : Nat) (Sf : PS) (ways : List Int) : Prop where
  hH : ∀ i, i + 1 < rows.length → ((hsR rows dark).lookup [(i : Int) + 1, max (rows.getD i (0, 0)).1 (rows.getD (i + 1) (0, 0)).1]).isSome = true
  hP : ∀ (i : Nat) (x : Int), i + 1 < rows.length → max (rows.getD i (0, 0)).1 (rows.getD (i + 1) (0, 0)).1 ≤ x → x + 1 < min (rows.getD i (0, 0)).2 (rows.getD (i + 1) (0, 0)).2 → ∃ k, 0 ≤ k ∧ (plR rows).lookup [(i : Int), x] = some k
  h0 : Sf.dist.lookup 0 = some (-far)
  h1 : Sf.dist.lookup 1 = some 0
  lows : LowsOk Sf.dist far (lmR rows dark ways).1
  ndl : ((lmR rows dark ways).1.map (·.1)).Nodup
  lz : (lmR rows dark ways).1.length < 64
  hnd : ((hsR rows dark).map fun p => hash p.1).Nodup
  told : ToldOk (toldOf (hsR rows dark) (lmR rows dark ways).1) (edR rows dark)
  told2 : ∀ p ∈ (lmR rows dark ways).1, (toldOf (hsR rows dark) (lmR rows dark ways).1).lookup p.1 = some p.2
  held : HeldOk f Sf (lmR rows dark ways).1 (lmR rows dark ways).2
  dist : (Sf.dist.length == (timesOf far (lmR rows dark ways).1).length && allIn Sf.dist (timesOf far (lmR rows dark ways).1)) = true
  nd : (Sf.dist.map (·.1)).Nodup
  ndC : (Sf.cs.map (·.1)).Nodup
  sub : ∀ k, (Sf.cs.lookup k).isSome = true → (Sf.dist.lookup k).isSome = true
  c64 : ∀ k, (ch Sf.cs k).length ≤ 64
  l2 : 2 ≤ (linesOf Sf.dist Sf.cs).length
  l63 : (linesOf Sf.dist Sf.cs).length < 64
  lnd : (linesOf Sf.dist Sf.cs).Nodup
  tk : ∀ p ∈ tightOf far (aqR rows dark), ∃ x y, p.1 = [x, y]
  tnd : ((tightOf far (aqR rows dark)).map (·.1)).Nodup
  perm : (linesOf Sf.dist Sf.cs).Perm ((tightOf far (aqR rows dark)).map row3)
structure LawOk (hash : List Int → Int) (rows : List (Int × Int)) (dark far : Int) (f fw : Nat) (Sf : PS) (ways : List Int) : Prop where
  len1 : 1 ≤ rows.length
  len4 : rows.length ≤ 4
  hb : ∀ p ∈ rows, (0 ≤ p.1 ∧ p.1 ≤ 1000) ∧ 0 ≤ p.2 ∧ p.2 ≤ 1000
  sqz : (sqOf rows).length ≤ 100
  bz : (borderOf rows).length ≤ 900
  hf : f ≤ 10000
  hfw : fw ≤ 100000
  ok : okRun f (S0 far) (aqR rows dark)
  run : netRun f (S0 far) (aqR rows dark) = some Sf
  dz : Sf.dist.length ≤ 1000
  cz : Sf.cs.length ≤ 1000
  wr : waysRun (rtR rows) (blR rows) fw [(0, 0, 0)] [] = some ways
  wl : ways.length ≤ 100
  r2 : ∀ x ∈ rtR rows, x ≤ 1000
  b2 : ∀ x ∈ blR rows, x ≤ 1000
  sat : Sf.sat = !ways.isEmpty
  more : ways ≠ [] → LawMore hash rows dark far f Sf ways
theorem sq_two {rows : List (Int × Int)} : ∀ s ∈ sqOf rows, ∃ r c, s = [r, c] ∧ 0 ≤ r ∧ r < rows.length := by
  intro s hs
  obtain ⟨r, hr, hs⟩ := List.mem_flatMap.mp hs
  obtain ⟨x, _, rfl⟩ := List.mem_map.mp hs
  have := List.mem_range.mp hr
  exact ⟨_, _, rfl, by omega, by omega⟩
theorem edges_ok {rows : List (Int × Int)} {right below : List Int} {dark : Int} (h : rows.length ≤ 100) : EdgesOk (edgesOf (sqOf rows) right below dark) := by
  intro e he
  obtain ⟨k, hk, he⟩ := List.mem_flatMap.mp he
  have hk := List.mem_range.mp hk
  obtain ⟨r, q, hrq, h1, h2⟩ := sq_two (rows := rows) ((sqOf rows).getD k []) (by
    have : (sqOf rows)[k]? = some ((sqOf rows).getD k []) := by simp [List.getD, hk]
    exact List.mem_of_getElem? this)
  unfold edgesAt at he
  rw [hrq] at he
  change e ∈ rightE dark r q (right.getD k 0) ++ belowE dark r q (below.getD k 0) at he
  unfold rightE belowE at he
  rcases List.mem_append.mp he with he | he
  · split at he
    · rw [List.mem_singleton] at he
      subst he
      split <;> exact ⟨_, _, _, _, rfl, by omega, by omega⟩
    · cases he
  · split at he
    · rw [List.mem_singleton] at he
      subst he
      split <;> exact ⟨_, _, _, _, rfl, by omega, by omega⟩
    · cases he
theorem asked_four {hs : TD} {h : Int} {edges : List Edge} : ∀ q ∈ askedOf hs h edges, ∃ x y l h, q = [x, y, l, h] := by
  intro q hq
  rcases List.mem_append.mp hq with hq | hq
  · obtain ⟨e, _, rfl⟩ := List.mem_map.mp hq
    exact ⟨_, _, _, _, rfl⟩
  · rw [List.mem_singleton] at hq
    exact ⟨_, _, _, _, hq⟩
theorem kput_ne {K V : Type} [BEq K] {es : List (K × V)} {k : K} {v : V} (h : es ≠ []) : kput es k v ≠ [] := by
  unfold kput
  split
  · simpa using h
  · simp
theorem heightsN_ne (rows : List (Int × Int)) (dark : Int) : ∀ m, (heightsN rows dark m).1 ≠ []
  | 0 => by simp [heightsN]
  | m + 1 => by
    have ih := heightsN_ne rows dark m
    cases h : (borderOf rows)[m]? with
    | none =>
      have : heightsN rows dark (m + 1) = heightsN rows dark m := by
        unfold heightsN
        rw [List.take_add_one, h]; simp
      rw [this]; exact ih
    | some s =>
      rw [heightsN_succ h]
      unfold hStep
      dsimp only
      split
      · exact ih
      · exact kput_ne ih
theorem heights_eq (rows : List (Int × Int)) (dark : Int) : heightsOf rows dark = heightsN rows dark (borderOf rows).length := by unfold heightsN heightsOf; rw [List.take_length]
theorem frNet {c : Cx} {L a : Addr} {x : AObj} {m c1 c2 c3 c4 N nodes R} : Weak c (frL L m c1 c2 c3 c4 ((a, x) :: netH N (nodes ++ R))) (frL L m c1 c2 c3 c4 (netH N (nodes ++ (a, x) :: R))) := by
  refine Weak.perm' ?_
  have h1 := List.perm_middle (l₁ := frL L m c1 c2 c3 c4 (netH N nodes)) (a := (a, x)) (l₂ := R)
  have h2 := List.perm_middle (l₁ := frL L m c1 c2 c3 c4 []) (a := (a, x)) (l₂ := netH N (nodes ++ R))
  exact h1.trans h2.symm
theorem frInto {c : Cx} {L a : Addr} {x : AObj} {m c1 c2 c3 c4 N nodes R} (P : AHeap) : Weak c ((a, x) :: (P ++ frL L m c1 c2 c3 c4 (netH N (nodes ++ R)))) (P ++ frL L m c1 c2 c3 c4 (netH N (nodes ++ (a, x) :: R))) := by
  refine Weak.perm' ?_
  have h1 := List.perm_middle (l₁ := P ++ frL L m c1 c2 c3 c4 (netH N nodes)) (a := (a, x)) (l₂ := R)
  rw [List.append_assoc, List.append_assoc] at h1
  exact h1
theorem LawAt.pinT {c : Cx} {A Z L k H Φ} {a : Addr} {es} (h : ∀ o, ∃ H', Put a (.tdict es) (.ptdict es o) H H' ∧ LawAt c A Z L k H' Φ) : LawAt c A Z L k H Φ := by
  refine ⟨Tr.pinT (a := a) (es := es) fun o => ?_⟩
  obtain ⟨H', P, hh⟩ := h o
  cases hh with | mk hh => exact ⟨H', P, hh⟩
theorem chains_len {nodes : AHeap} {cons} {C : CL} (h : Chains nodes cons C) : cons.length = C.length := A2.len h
section
variable (c : Cx) (hK : c.K = hd.heap_39 c.w.params)
include hK
theorem s_law {A : Around} {n : Nat} (hA : Ar A (n + 7)) {sa : Addr} {ns : List Int} (hl : ∀ H, Rd c H sa (.list (ns.map .int))) (hz : ns.length ≤ 63) {T : Nat} (hT : T = 3 ∨ T = 4) (hT2 : 3 + draw ns 0 2 = (T : Int)) {f fw : Nat} {Sf : PS} {ways : List Int}
    (ok : LawOk (fun k => (TKd c).hash k) (rowsN ns T T) (draw ns 1 2) (64 + sizeOf ns 3) f fw Sf ways) : CodeT c A [] (.ref 256) [.ref sa] [] [] (fun v _ => v = .bool true) := by
  refine .own [("rows", none), ("place", none), ("lows", none), ("told", none)] [("script", .ref sa)] [("script", .ref sa)] hA (lkK hK (by rfl)) (cdK hK (by rfl)) (fun Z s vs kv S r1 r2 => ?_) (fun L A' hA' => ?_)
  · obtain ⟨v, rfl, rv⟩ := r1.one
    cases r2
    exact binds_now rfl (.cons ⟨rfl, rv⟩ .nil)
  · refine LawAt.go (L := L) 0 ?_
    show LawAt c A' [] L 0 (frL L [("script", .ref sa)] none none none none []) _
    have hΦ : ∀ H' : AHeap, ∃ H'', Weak c H' H'' ∧ retOf (.ret (.bool true)) = AV.bool true := fun H' => ⟨H', .refl _ _, rfl⟩
    refine seg0 c hK hA' hl hz ?_
    rw [hT2]
    refine seg1 c hK hA' hT hl hz fun ra => LawAt.weak ?_ frUp
    have hlen := rowsN_len ns T T
    rw [show (T : Int) = (rowsN ns T T).length by rw [hlen]]
    generalize rowsN ns T T = rows at ok hlen ⊢
    generalize draw ns 1 2 = dark at ok ⊢
    have h4 := ok.len4
    have h1 := ok.len1
    have hsqz := ok.sqz
    have hbz := ok.bz
    have hsq2 : ∀ s ∈ sqOf rows, ∃ r c, s = [r, c] := fun s hs => by
      obtain ⟨r, q, e, _⟩ := sq_two s hs
      exact ⟨r, q, e⟩
    refine seg2 c hK hA' (.mem (.head _)) (by omega) ok.hb (by omega) fun sqa => LawAt.weak ?_ frUp
    refine seg3 c hK hA' (.mem (.head _)) hsq2 (by omega) fun pa => ?_
    refine seg4 c hK hA' (.mem (.tail _ (.head _))) (.mem (.head _)) hsq2 (by omega) fun rta => ?_
    refine seg5 c hK hA' (.mem (.tail _ (.tail _ (.head _)))) (.mem (.tail _ (.head _))) hsq2 (by omega) fun bla => ?_
    refine seg6 c hK hA' (.mem (.tail _ (.tail _ (.tail _ (.tail _ (.head _)))))) (by omega) (by omega) ok.hb (by omega) fun ha => ?_
    refine seg7 c hK hA' hl hz fun N nodes hN => ?_
    have hrl : (rtR rows).length = (sqOf rows).length := by rw [rtR, rightOf, List.length_map]
    have hbl : (blR rows).length = (sqOf rows).length := by rw [blR, belowOf, List.length_map]
    have netmem : ∀ {p : Addr × AObj} {N : Net} {nodes H : AHeap}, p ∈ H → p ∈ netH N (nodes ++ H) := fun h => .tail _ (.tail _ (.tail _ (.tail _ (List.mem_append_right _ h))))
    refine seg8 c hK hA' (right := rtR rows) (below := blR rows) (.mem (netmem (.tail _ (.tail _ (.tail _ (.tail _ (.head _))))))) (.mem (netmem (.tail _ (.tail _ (.head _))))) (.mem (netmem (.tail _ (.head _)))) hsq2 hsqz hrl hbl fun ea => LawAt.weak ?_ frNet
    have hez : (edR rows dark).length ≤ 200 := Nat.le_trans (edgesN_len _ _ _ _ _) (by omega)
    refine seg9 c hK hA' (hs := hsR rows dark) (edges := edR rows dark) (.mem (netmem (.tail _ (.head _)))) (.mem (netmem (.head _))) (edges_ok (by omega)) (by omega) fun aa => LawAt.weak ?_ frNet
    have haz : (aqR rows dark).length ≤ 201 := by
      unfold aqR askedOf
      rw [List.length_append, List.length_map]
      simp only [List.length_cons, List.length_nil]; omega
    refine seg10 c hK hA' (asked := aqR rows dark) (.mem (.head _)) asked_four (by omega) hN ok.hf ok.ok ok.run fun ta N2 nodes2 e2 hN2 => ?_
    rw [← e2]
    have hcl : N2.cons.length ≤ 1000 := by rw [chains_len hN2.2.2]; exact ok.cz
    refine seg11 c hK hA' (.mem (.tail _ (.tail _ (.tail _ (.tail _ (.tail _ (.head _))))))) (.mem (.tail _ (.tail _ (.tail _ (.tail _ (.head _)))))) (hbl.trans hrl.symm) (by rw [hrl]; omega) ok.r2 ok.b2 ok.hfw ok.wr (Nat.le_trans ok.wl (by decide)) hN2 ok.dz hcl ok.sat hΦ fun hw wa => ?_
    have M := ok.more hw
    have hhz : (hsR rows dark).length ≤ 1000 := by
      have := heightsN_len rows dark (borderOf rows).length
      rw [← heights_eq] at this
      exact Nat.le_trans this (by omega)
    have hhn : hsR rows dark ≠ [] := by
      have := heightsN_ne rows dark (borderOf rows).length
      rw [← heights_eq] at this
      exact this
    refine seg12 c hK hA' (hs := hsR rows dark) (pl := plR rows) (.mem (netmem (.tail _ (.tail _ (.tail _ (.tail _ (.tail _ (.tail _ (.tail _ (.tail _ (.tail _ (.head _)))))))))))) (.mem (netmem (.tail _ (.tail _ (.tail _ (.tail _ (.tail _ (.tail _ (.tail _ (.head _)))))))))) (.mem (netmem (.tail _ (.tail _ (.tail _ (.tail _ (.head _))))))) (.mem (netmem (.head _))) (by omega) (by omega) ok.hb ok.wl M.hH M.hP fun la ma hv => ?_
    refine LawAt.pinT (a := la) (es := (lmR rows dark ways).1.map fun p => (p.1, AV.int p.2)) fun ob => ⟨_, .there .here, ?_⟩
    refine LawAt.weak ?_ (frInto [(la, _)])
    refine LawAt.weak ?_ (frInto [])
    have hfarp : 0 < 64 + sizeOf ns 3 ∧ (64 + sizeOf ns 3).natAbs < 2 ^ 150 := by
      have : 0 ≤ sizeOf ns 3 ∧ sizeOf ns 3 < lawMost := by
        unfold sizeOf
        dsimp only
        rw [Int.fmod_eq_emod_of_nonneg _ (by decide)]
        exact ⟨Int.emod_nonneg _ (by decide), Int.emod_lt_of_pos _ (by decide)⟩
      have h2 : lawMost = 1000000000000000000000000000000 := rfl
      have h3 : (2 : Nat) ^ 150 = 1427247692705959881058285969449495136382746624 := by decide
      omega
    refine seg13 c hK hA' (hs := hsR rows dark) (lows := (lmR rows dark ways).1) (.head _) (.mem (.tail _ (.tail _ (.tail _ (.tail _ (.tail _ (.tail _ (.head _)))))))) hN2 hfarp.1 hfarp.2 M.h0 M.h1 M.lows M.ndl hhn hhz (Nat.le_of_lt (Nat.lt_of_lt_of_le M.lz (by decide))) M.hnd fun da ti => ?_
    refine LawAt.weak ?_ (frInto [(da, _)])
    refine LawAt.weak ?_ (frInto [])
    refine seg14 c hK hA' (lows := (lmR rows dark ways).1) (edges := edR rows dark) (netmem (.tail _ (.tail _ (.head _)))) (.mem (netmem (.head _))) (.mem (netmem (.tail _ (.tail _ (.tail _ (.tail _ (.tail _ (.tail _ (.tail _ (.head _)))))))))) M.told M.told2 M.ndl (by omega) (Nat.le_of_lt (Nat.lt_of_lt_of_le M.lz (by decide))) ?_
    have hdz2 : N2.dist.length ≤ 1000 := by rw [hN2.1]; exact ok.dz
    refine seg15 c hK hA' (lows := (lmR rows dark ways).1) (met := (lmR rows dark ways).2) hl hz (.tail _ (.tail _ (.head _))) (.mem (.tail _ (.tail _ (.tail _ (.head _))))) hN2 ok.hf M.held M.ndl M.lz hdz2 hcl ?_
    refine seg16 c hK hA' (times := timesOf (64 + sizeOf ns 3) (lmR rows dark ways).1) (tight := tightOf (64 + sizeOf ns 3) (aqR rows dark)) (.mem (.tail _ (.head _))) (.tail _ (.tail _ (.tail _ (.tail _ (.tail _ (.head _)))))) hN2 M.dist M.nd M.ndC M.sub ok.dz M.c64 M.l2 M.l63 M.lnd M.tk M.tnd M.perm hΦ
end

end Mine
end
section
namespace Mine
set_option maxRecDepth 100000
noncomputable section
noncomputable def digF (P k : Nat) : Nat := Nat.land (Nat.shiftRight P (Nat.mul 8 k)) 255
noncomputable def setF (P k v : Nat) : Nat := Nat.lor P (Nat.shiftLeft v (Nat.mul 8 k))
noncomputable def upF (a n : Nat) : List Nat := Nat.rec (fun _ => []) (fun _ ih a => a :: ih (Nat.succ a)) n a
noncomputable def dnF (a n : Nat) : List Nat := Nat.rec (fun _ => []) (fun _ ih a => a :: ih (Nat.pred a)) n a
noncomputable abbrev Rows := List (Nat × Nat)
noncomputable def sqF (rows : Rows) : Nat → List Nat := List.rec (fun _ => []) (fun p _ ih r => upF (Nat.add (Nat.mul r 64) p.1) (Nat.sub p.2 p.1) ++ ih (Nat.succ r)) rows
/-- packed places: k + 1 -/
noncomputable def plF (sq : List Nat) : Nat → Nat → Nat := List.rec (fun _ P => P) (fun s _ ih k P => ih (Nat.succ k) (setF P s (Nat.succ k))) sq
/-- packed neighbours -/
noncomputable def nbF (d PL : Nat) (sq : List Nat) : Nat → Nat → Nat := List.rec (fun _ P => P) (fun s _ ih k P => ih (Nat.succ k) (setF P k (digF PL (Nat.add s d)))) sq
noncomputable def bitF (d k : Nat) : Bool := Nat.beq (Nat.land (Nat.shiftRight d k) 1) 1
noncomputable def skipF (done : Nat) (f : Nat) : Nat → Nat := Nat.rec (fun k => k) (fun _ ih k => Bool.rec k (ih (Nat.succ k)) (bitF done k)) f
noncomputable def pushF (RP BP : Nat) (k done downs : Nat) (st : List (Nat × Nat × Nat)) : List (Nat × Nat × Nat) :=
  (fun st1 => Nat.rec st1 (fun b _ => (Nat.succ k, Nat.lor (Nat.lor done (Nat.shiftLeft 1 k)) (Nat.shiftLeft 1 b), Nat.lor downs (Nat.shiftLeft 1 k)) :: st1) (digF BP k))
  (Nat.rec st (fun r _ => Bool.rec ((Nat.succ k, Nat.lor (Nat.lor done (Nat.shiftLeft 1 k)) (Nat.shiftLeft 1 r), downs) :: st) st (bitF done r)) (digF RP k))
noncomputable def waysF (m RP BP : Nat) (f : Nat) : List (Nat × Nat × Nat) → List Nat → Option (List Nat) :=
  Nat.rec (fun st w => List.rec (some w) (fun _ _ _ => none) st)
    (fun _ ih st w => List.rec (some w) (fun s st _ =>
      (fun k => Bool.rec (ih (pushF RP BP k s.2.1 s.2.2 st) w) (ih st (w ++ [s.2.2])) (Nat.beq k m)) (skipF s.2.1 (Nat.sub m s.1) s.1)) st) f
noncomputable def mapC (f : Nat → Nat × Nat) (l : List Nat) : List (Nat × Nat) := List.rec [] (fun a _ ih => f a :: ih) l
noncomputable def brF (rows : Rows) : Nat → List (Nat × Nat) := List.rec (fun _ => []) (fun p t ih r =>
    (Nat.add (Nat.mul (Nat.succ r) 64) p.2, Nat.add r (Nat.pred p.2)) :: (List.rec (ih (Nat.succ r)) (fun q _ _ =>
      mapC (fun c => (Nat.add (Nat.mul (Nat.succ r) 64) (Nat.succ c), Nat.add (Nat.succ r) c)) (upF p.2 (Nat.sub q.2 p.2)) ++ (mapC (fun c => (Nat.add (Nat.mul (Nat.succ r) 64) (Nat.pred c), Nat.add r (Nat.pred c))) (dnF p.2 (Nat.sub p.2 q.2)) ++ ih (Nat.succ r))) t)) rows
noncomputable def lastF (rows : Rows) : Nat × Nat := List.rec (0, 0) (fun p t ih => List.rec p (fun _ _ _ => ih) t) rows
noncomputable def blF (rows : Rows) : Nat → List (Nat × Nat) := List.rec (fun _ => []) (fun p t ih r =>
    (Nat.add (Nat.mul r 64) p.1, Nat.add r p.1) :: (List.rec (ih (Nat.pred r)) (fun q _ _ =>
      mapC (fun c => (Nat.add (Nat.mul r 64) (Nat.succ c), Nat.add r c)) (upF p.1 (Nat.sub q.1 p.1)) ++ (mapC (fun c => (Nat.add (Nat.mul r 64) (Nat.pred c), Nat.add (Nat.pred r) (Nat.pred c))) (dnF p.1 (Nat.sub p.1 q.1)) ++ ih (Nat.pred r))) t)) rows
noncomputable def topF (rows : Rows) : List (Nat × Nat) := List.rec [] (fun p _ _ => mapC (fun c => (Nat.succ c, c)) (upF p.1 (Nat.sub p.2 p.1))) rows
noncomputable def borderF (rows : Rows) : List (Nat × Nat) := topF rows ++ (brF rows 0 ++ (mapC (fun c => (Nat.add (Nat.mul rows.length 64) (Nat.pred c), Nat.add (Nat.pred rows.length) (Nat.pred c))) (dnF (lastF rows).2 (Nat.sub (lastF rows).2 (lastF rows).1)) ++ blF rows.reverse (Nat.pred rows.length)))
noncomputable def evenF (n : Nat) : Bool := Nat.beq (Nat.mod n 2) 0
/-- packed heights: h + 64 -/
noncomputable def hF (dark : Nat) (l : List (Nat × Nat)) : Nat → Nat → Nat × Nat :=
  List.rec (fun P v => (P, v)) (fun s _ ih P v => (fun v' => ih (Nat.rec (setF P s.1 v') (fun _ _ => P) (digF P s.1)) v') (Bool.rec (Nat.succ v) (Nat.pred v) (evenF (Nat.add s.2 dark)))) l
/-- edges with their rises (+ 256): one, other, rise -/
noncomputable def nodeF (a u : Nat) : Nat := Nat.rec (Nat.add u 32) (fun _ _ => 0) a
noncomputable def valF (a : Nat) : Nat := Nat.rec 64 (fun n _ => Nat.succ n) a
noncomputable def edgeF (P u v : Nat) : Nat × Nat × Nat := (fun a b => (nodeF a u, nodeF b v, Nat.sub (Nat.add (valF a) 256) (valF b))) (digF P u) (digF P v)
/-- the network: none is 0, some h is h - far -/
noncomputable def lookF {V : Type} (l : List (Nat × V)) (k : Nat) : Option V := List.rec none (fun p _ ih => Bool.rec ih (some p.2) (Nat.beq p.1 k)) l
noncomputable abbrev DF := List (Nat × Option Int)
noncomputable abbrev CF := List (Nat × List (Nat × Int))
noncomputable def iltF (a b : Int) : Bool := Int.rec (fun m => Int.rec (fun n => Nat.blt m n) (fun _ => false) b) (fun m => Int.rec (fun _ => true) (fun n => Nat.blt n m) b) a
noncomputable def ieqF (a b : Int) : Bool := Int.rec (fun m => Int.rec (fun n => Nat.beq m n) (fun _ => false) b) (fun m => Int.rec (fun _ => false) (fun n => Nat.beq n m) b) a
noncomputable def putF {V : Type} (l : List (Nat × V)) (k : Nat) (v : V) : List (Nat × V) := List.rec [(k, v)] (fun p t ih => Bool.rec (p :: ih) ((k, v) :: t) (Nat.beq p.1 k)) l
noncomputable def setdF {V : Type} (l : List (Nat × V)) (k : Nat) (v : V) : List (Nat × V) := List.rec [(k, v)] (fun p t ih => Bool.rec (p :: ih) (p :: t) (Nat.beq p.1 k)) l
noncomputable def chF (C : CF) (k : Nat) : List (Nat × Int) := Option.rec [] (fun l => l) (lookF C k)
noncomputable def dF (D : DF) (k : Nat) : Option Int := Option.rec none (fun v => v) (lookF D k)
noncomputable def lessF (s : Int) (o : Option Int) : Option Bool := Option.rec (Bool.rec none (some true) (iltF s 64)) (fun hd => some (iltF s hd)) o
noncomputable def relaxF (y : Nat) (b : Int) (c : Nat) (l : List (Nat × Int)) : DF → List Nat → Option (DF × Option (List Nat)) :=
  List.rec (fun D q => some (D, some q)) (fun p _ ih D q => Option.rec none (fun hc =>
    (fun s => Option.rec none (fun t => Bool.rec (ih D q) (Bool.rec (ih (putF D p.1 (some s)) (q ++ [p.1])) (some (D, none)) (and (Nat.beq p.1 y) (ieqF p.2 b))) t) (lessF s (dF D p.1))) (Int.add hc p.2)) (dF D c)) l
noncomputable def incF (C : CF) (y : Nat) (b : Int) (f : Nat) : DF → List Nat → Option (DF × Bool) :=
  Nat.rec (fun D q => List.rec (some (D, true)) (fun _ _ _ => none) q)
    (fun _ ih D q => List.rec (some (D, true)) (fun c q _ => Option.rec none (fun r => Option.rec (some (r.1, false)) (fun q' => ih r.1 q') r.2) (relaxF y b c (chF C c) D q)) q) f
structure SF where
  d : DF
  c : CF
  sat : Bool
noncomputable def subF (l : List (Nat × Int)) (y : Nat) (b : Int) : Bool := List.rec false (fun p _ ih => Bool.rec ih (Bool.not (iltF b p.2)) (Nat.beq p.1 y)) l
noncomputable def startF (D : DF) (x y : Nat) (b : Int) : Option (Option Int) :=
  Option.rec (Option.rec (Bool.rec (some none) none (iltF b 0)) (fun hy => Bool.rec (some none) none (iltF b (Int.sub hy 64))) (dF D y))
    (fun hx => (fun s => Option.rec none (fun t => Bool.rec (some none) (some (some s)) t) (lessF s (dF D y))) (Int.add hx b)) (dF D x)
noncomputable def addF (f : Nat) (S : SF) (x y : Nat) (b : Int) : Option SF :=
  Bool.rec (some S) ((fun D C => Bool.rec
    ((fun C' => Option.rec none (fun o => Option.rec (some ⟨D, C', true⟩) (fun s => Option.rec none (fun r => some ⟨r.1, C', r.2⟩) (incF C' y b f (putF D y (some s)) [y])) o) (startF D x y b)) (putF C x ((y, b) :: chF S.c x)))
    (some ⟨D, C, true⟩) (subF (chF C x) y b)) (setdF (setdF S.d x none) y none) (setdF S.c y [])) S.sat
noncomputable def insF (f : Nat) (S : SF) (x y : Nat) (l h : Int) : Option SF := Option.rec none (fun S1 => addF f S1 y x h) (addF f S x y (Int.neg l))
/-- one asked pair of bounds; n is the rise + 256 -/
noncomputable def askF (f : Nat) (S : SF) (x y n : Nat) : Option SF :=
  Bool.rec (insF f S x y (Int.subNatNat n 259) (Int.subNatNat n 255)) (Bool.rec none (some ⟨S.d, S.c, and (Nat.ble n 259) (Nat.ble 255 n)⟩) (Nat.beq x 0)) (Nat.beq x y)
noncomputable def runF (f : Nat) (aq : List (Nat × Nat × Nat)) : SF → Option SF := List.rec (fun S => some S) (fun q _ ih S => Bool.rec (some S) (Option.rec none (fun S' => ih S') (askF f S q.1 q.2.1 q.2.2)) S.sat) aq
noncomputable def S0F : SF := ⟨[(1, none), (0, some 0)], [(0, []), (1, [])], true⟩
/-- the lows and what was met -/
noncomputable def minF (a b : Nat) : Nat := Bool.rec b a (Nat.ble a b)
noncomputable def putMin (l : List (Nat × Nat)) (k h : Nat) : List (Nat × Nat) := List.rec [(k, h)] (fun p t ih => Bool.rec (p :: ih) ((k, minF h p.2) :: t) (Nat.beq p.1 k)) l
noncomputable def memF (l : List (Nat × Nat)) (k h : Nat) : Bool := List.rec false (fun p _ ih => or (and (Nat.beq p.1 k) (Nat.beq p.2 h)) ih) l
noncomputable def putMet (l : List (Nat × Nat)) (k h : Nat) : List (Nat × Nat) := Bool.rec (l ++ [(k, h)]) l (memF l k h)
noncomputable abbrev LF := List (Nat × Nat) × List (Nat × Nat)
/-- along a line of crossings; u the code of the crossing, its square above is u - 64 -/
noncomputable def whF (dark PL downs : Nat) (m : Nat) : Nat → Nat → LF → LF :=
  Nat.rec (fun _ _ s => s) (fun _ ih u h s => (fun h' => ih (Nat.succ u) h' (putMin s.1 (Nat.succ u) h', putMet s.2 (Nat.succ u) h'))
    ((fun bit => Bool.rec (Bool.rec (Nat.pred h) (Nat.add h 3) bit) (Bool.rec (Nat.succ h) (Nat.sub h 3) bit) (evenF (Nat.add (Nat.add (Nat.div (Nat.sub u 64) 64) (Nat.mod u 64)) dark))) (bitF downs (Nat.pred (digF PL (Nat.sub u 64)))))) m
noncomputable def maxF (a b : Nat) : Nat := Bool.rec a b (Nat.ble a b)
noncomputable def rwF (dark P PL downs : Nat) (rows : Rows) : Nat → LF → LF := List.rec (fun _ s => s) (fun p t ih r s => List.rec s (fun q _ _ => ih (Nat.succ r)
    ((fun c => whF dark PL downs (Nat.sub (minF p.2 q.2) (Nat.succ c)) (Nat.add (Nat.mul (Nat.succ r) 64) c) (Nat.add (digF P (Nat.add (Nat.mul (Nat.succ r) 64) c)) 192) s) (maxF p.1 q.1))) t) rows
noncomputable def lmF (dark P PL : Nat) (rows : Rows) (ways : List Nat) : LF → LF := List.rec (fun s => s) (fun d _ ih s => ih (rwF dark P PL d rows 0 s)) ways
noncomputable def edF (dark PL : Nat) (sq : List Nat) : List (Nat × Nat) :=
  List.rec [] (fun s _ ih =>
    (fun black => (fun rest => Nat.rec rest (fun _ _ => Bool.rec (Nat.add s 1, Nat.add s 65) (Nat.add s 65, Nat.add s 1) black :: rest) (digF PL (Nat.add s 1)))
      (Nat.rec ih (fun _ _ => Bool.rec (Nat.add s 65, Nat.add s 64) (Nat.add s 64, Nat.add s 65) black :: ih) (digF PL (Nat.add s 64))))
      (evenF (Nat.add (Nat.add (Nat.div s 64) (Nat.mod s 64)) dark))) sq
noncomputable def aqF (P : Nat) (ed : List (Nat × Nat)) : List (Nat × Nat × Nat) := List.rec [] (fun e _ ih => edgeF P e.1 e.2 :: ih) ed
noncomputable def toF (P : Nat) (lows : List (Nat × Nat)) (u : Nat) : Nat := Option.rec (Nat.rec 0 (fun n _ => Nat.add n 193) (digF P u)) (fun v => v) (lookF lows u)
noncomputable def allF {A : Type} (f : A → Bool) (l : List A) : Bool := List.rec true (fun a _ ih => and (f a) ih) l
noncomputable def toldF (P : Nat) (lows : List (Nat × Nat)) (ed : List (Nat × Nat)) : Bool := allF (fun e => (fun a b => and (and (Nat.blt 0 a) (Nat.blt 0 b)) (or (Nat.beq b (Nat.succ a)) (Nat.beq (Nat.add b 3) a))) (toF P lows e.1) (toF P lows e.2)) ed
noncomputable def optEq (o : Option Int) (v : Int) : Bool := Option.rec false (fun x => ieqF x v) o
noncomputable def noneF (o : Option Int) : Bool := Option.rec true (fun _ => false) o
noncomputable def rowD (lows : List (Nat × Nat)) (p : Nat × Option Int) : Bool := Bool.rec (Bool.rec (Option.rec false (fun v => and (Nat.ble 32 p.1) (optEq p.2 (Int.subNatNat 256 v))) (lookF lows (Nat.sub p.1 32))) (noneF p.2) (Nat.beq p.1 1)) (optEq p.2 0) (Nat.beq p.1 0)
noncomputable def distF (D : DF) (lows : List (Nat × Nat)) : Bool := and (Nat.beq D.length (Nat.add 2 lows.length)) (and (optEq (dF D 0) 0) (and (Option.rec false (fun o => noneF o) (lookF D 1))
  (and (allF (fun p => and (and (Nat.ble p.1 1000) (Nat.ble p.2 1000)) (optEq (dF D (Nat.add p.1 32)) (Int.subNatNat 256 p.2))) lows) (allF (fun p => rowD lows p) D))))
noncomputable def beqF (a b : Bool) : Bool := Bool.rec (Bool.rec true false b) b a
noncomputable def heldF (f : Nat) (S : SF) (lows met : List (Nat × Nat)) : Bool := allF (fun p => allF (fun j => (fun L => Option.rec false (fun S' => beqF S'.sat (memF met p.1 L)) (insF f S 0 (Nat.add p.1 32) (Int.subNatNat L 256) (Int.subNatNat L 256))) (Nat.add p.2 j)) [0, 4, 8]) lows
noncomputable def startsF (P : Nat) (rows : Rows) : Nat → Bool := List.rec (fun _ => true) (fun p t ih r => List.rec true (fun q _ _ => and (Nat.blt 0 (digF P (Nat.add (Nat.mul (Nat.succ r) 64) (maxF p.1 q.1)))) (ih (Nat.succ r))) t) rows
noncomputable def codesF (l : List (Nat × Nat)) : Bool := allF (fun s => and (Nat.ble (Nat.div s.1 64) 4) (and (Nat.ble 2 (Nat.mod s.1 64)) (Nat.ble (Nat.mod s.1 64) 18))) l
noncomputable def moreF (dark P PL : Nat) (rows : Rows) (br : List (Nat × Nat)) (ed : List (Nat × Nat)) (ways : List Nat) (S : SF) : Bool :=
  (fun lm => and (Nat.blt lm.1.length 64) (and (startsF P rows 0) (and (codesF (((List.headD rows (0, 0)).1, 0) :: br)) (and (toldF P lm.1 ed) (and (distF S.d lm.1) (heldF 100 S lm.1 lm.2)))))) (lmF dark P PL rows ways ([], []))
noncomputable def darkF (rows : Rows) (sq : List Nat) (PL : Nat) (br : List (Nat × Nat)) (ways : List Nat) (dark : Nat) : Bool :=
  (fun hh => (fun ed => and (Nat.ble ed.length 25) <| Option.rec false (fun S => List.rec (Bool.not (and S.sat (Nat.beq hh.2 64))) (fun _ _ _ => and (and S.sat (Nat.beq hh.2 64)) (moreF dark hh.1 PL rows br ed ways S)) ways) (runF 100 (aqF hh.1 ed) S0F)) (edF dark PL sq)) (hF dark br (setF 0 (List.headD rows (0,0)).1 64) 64)
noncomputable def goodF (rows : Rows) : Bool := and (and (Nat.ble 1 rows.length) (Nat.ble rows.length 4)) (allF (fun p => and (Nat.ble 2 p.1) (and (Nat.blt p.1 p.2) (Nat.ble p.2 20))) rows)
noncomputable def rowsF (rows : Rows) : Bool := and (goodF rows) <|
  (fun sq => (fun PL => (fun br => Option.rec false (fun ways => and (and (Nat.ble ways.length 100) (Nat.ble br.length 60)) (and (darkF rows sq PL br ways 0) (darkF rows sq PL br ways 1))) (waysF sq.length (nbF 1 PL sq 0 0) (nbF 64 PL sq 0 0) 200 [(0,0,0)] [])) (borderF rows)) (plF sq 0 0)) (sqF rows 0)
end
end Mine
end
section
open PySem PySem.W PySem.Calls PyProof.Rows
set_option Elab.async false
set_option maxRecDepth 100000
set_option linter.unusedVariables false
namespace Mine
/-- the code of a place -/
noncomputable def dk (u : Nat) : List Int := [((u / 64 : Nat) : Int), ((u % 64 : Nat) : Int)]
theorem dk_code {r c : Nat} (h : c < 64) : dk (r * 64 + c) = [(r : Int), (c : Int)] := by
  unfold dk
  have h1 : (r * 64 + c) / 64 = r := by omega
  have h2 : (r * 64 + c) % 64 = c := by omega
  rw [h1, h2]
theorem dk_inj {u v : Nat} (h : dk u = dk v) : u = v := by
  unfold dk at h
  simp only [List.cons.injEq, and_true, Int.natCast_inj] at h
  omega
noncomputable abbrev castR (rows : Rows) : List (Int × Int) := rows.map fun p => ((p.1 : Int), (p.2 : Int))
theorem upF_succ (a n : Nat) : upF a (n + 1) = a :: upF (a + 1) n := rfl
theorem dnF_succ (a n : Nat) : dnF a (n + 1) = a :: dnF (a - 1) n := rfl
theorem upF_eq (n : Nat) : ∀ a, upF a n = (List.range n).map fun x => a + x := by
  induction n with
  | zero => intro a; rfl
  | succ n ih =>
    intro a
    rw [upF_succ, ih, List.range_succ_eq_map, List.map_cons, List.map_map]
    congr 1
    refine List.map_congr_left fun x _ => ?_
    show a + 1 + x = a + (x + 1); omega
theorem dnF_eq (n : Nat) : ∀ a, n ≤ a + 1 → dnF a n = (List.range n).map fun x => a - x := by
  induction n with
  | zero => intro a _; rfl
  | succ n ih =>
    intro a h
    rw [dnF_succ, List.range_succ_eq_map, List.map_cons, List.map_map]
    by_cases h0 : n = 0
    · subst h0; rfl
    rw [ih (a - 1) (by omega)]
    congr 1
    refine List.map_congr_left fun x _ => ?_
    show a - 1 - x = a - (x + 1); omega
theorem rangeL_upF (a b : Nat) : rangeL a b 1 = (upF a (b - a)).map fun x : Nat => (x : Int) := by
  have e : (Builtin.Range.rangeSize (a : Int) (b : Int) 1).toNat = b - a := by
    unfold Builtin.Range.rangeSize
    rw [if_pos (by decide)]
    split
    · rw [Int.ediv_one]; omega
    · omega
  rw [rangeL, e, upF_eq, List.map_map]
  refine List.map_congr_left fun x _ => ?_
  show (a : Int) + 1 * (x : Int) = ((a + x : Nat) : Int)
  omega
theorem rangeL_dnF (a b : Nat) : rangeL a b (-1) = (dnF a (a - b)).map fun x : Nat => (x : Int) := by
  have e : (Builtin.Range.rangeSize (a : Int) (b : Int) (-1)).toNat = a - b := by
    unfold Builtin.Range.rangeSize
    rw [if_neg (by decide)]
    split
    · rw [Int.neg_neg, Int.ediv_one]; omega
    · omega
  rw [rangeL, e, dnF_eq _ _ (by omega), List.map_map]
  refine List.map_congr_left fun x hx => ?_
  have := List.mem_range.mp hx
  show (a : Int) + -1 * (x : Int) = ((a - x : Nat) : Int)
  omega
noncomputable def recL {α β : Type} (f : Nat → α → List β) : List α → Nat → List β
  | [], _ => []
  | p :: t, k => f k p ++ recL f t (k + 1)
theorem flat_rows {α β : Type} (d : α) (f : Nat → α → List β) : ∀ (l : List α) (k : Nat), (List.range l.length).flatMap (fun r => f (k + r) (l.getD r d)) = recL f l k
  | [], _ => rfl
  | p :: t, k => by
    rw [List.length_cons, List.range_succ_eq_map, List.flatMap_cons, recL, ← flat_rows d f t (k + 1)]
    congr 1
    rw [List.flatMap_map]
    congr 1
    funext r
    have : k + (r + 1) = k + 1 + r := by omega
    show f (k + (r + 1)) _ = _
    rw [this]; rfl
noncomputable def Good (rows : Rows) : Prop := (1 ≤ rows.length ∧ rows.length ≤ 4) ∧ ∀ p ∈ rows, 2 ≤ p.1 ∧ p.1 < p.2 ∧ p.2 ≤ 20
theorem sq_eq {rows : Rows} (h : ∀ p ∈ rows, p.2 ≤ 20) : sqOf (castR rows) = (sqF rows 0).map dk := by
  have h1 := flat_rows (0, 0) (fun r (p : Int × Int) => (rangeL p.1 p.2 1).map fun c => [(r : Int), c]) (castR rows) 0
  simp only [Nat.zero_add] at h1
  unfold sqOf
  rw [h1]
  clear h1
  suffices ∀ k, recL (fun r (p : Int × Int) => (rangeL p.1 p.2 1).map fun c => [(r : Int), c]) (castR rows) k = (sqF rows k).map dk from this 0
  induction rows with
  | nil => intro k; rfl
  | cons p t ih =>
    intro k
    have e : sqF (p :: t) k = upF (k * 64 + p.1) (p.2 - p.1) ++ sqF t (k + 1) := rfl
    rw [e, List.map_append, ← ih (fun q hq => h q (.tail _ hq))]
    show _ ++ _ = _
    congr 1
    have hp := h p (.head _)
    dsimp only
    rw [rangeL_upF, List.map_map, upF_eq, upF_eq, List.map_map, List.map_map]
    refine List.map_congr_left fun x hx => ?_
    have := List.mem_range.mp hx
    show [(k : Int), ((p.1 + x : Nat) : Int)] = dk (k * 64 + p.1 + x)
    rw [Nat.add_assoc, dk_code (by omega)]
end Mine
end
section
open PySem PySem.W PySem.Calls PyProof.Rows
set_option Elab.async false
set_option maxRecDepth 100000
set_option linter.unusedVariables false
namespace Mine
theorem digF_zero (k : Nat) : digF 0 k = 0 := by
  show Nat.land (Nat.shiftRight 0 _) 255 = 0
  have : Nat.shiftRight 0 (Nat.mul 8 k) = 0 := Nat.zero_shiftRight _
  rw [this]; rfl
theorem digF_bit (P k i : Nat) : (digF P k).testBit i = (decide (i < 8) && P.testBit (8 * k + i)) := by
  have e : digF P k = (P >>> (8 * k)) &&& (2 ^ 8 - 1) := rfl
  rw [e, Nat.and_two_pow_sub_one_eq_mod, Nat.testBit_mod_two_pow, Nat.testBit_shiftRight]
theorem digF_lt (P k : Nat) : digF P k < 256 := by
  have e : digF P k = (P >>> (8 * k)) &&& (2 ^ 8 - 1) := rfl
  rw [e, Nat.and_two_pow_sub_one_eq_mod]
  exact Nat.mod_lt _ (by decide)
theorem digF_setF {P k v : Nat} (hv : v < 256) (h0 : digF P k = 0) (j : Nat) : digF (setF P k v) j = if j = k then v else digF P j := by
  apply Nat.eq_of_testBit_eq
  intro i
  have e : setF P k v = P ||| (v <<< (8 * k)) := rfl
  rw [digF_bit, e, Nat.testBit_or, Nat.testBit_shiftLeft]
  have hk : ∀ i, i < 8 → P.testBit (8 * k + i) = false := fun i hi => by
    have := digF_bit P k i
    rw [h0, Nat.zero_testBit] at this
    simpa [hi] using this.symm
  have hv' : ∀ i, 8 ≤ i → v.testBit i = false := fun i hi => Nat.testBit_lt_two_pow (Nat.lt_of_lt_of_le hv (by
    have : 2 ^ 8 ≤ 2 ^ i := Nat.pow_le_pow_right (by decide) hi
    exact this))
  by_cases hj : j = k
  · subst hj
    rw [if_pos rfl]
    by_cases hi : i < 8
    · rw [hk i hi]
      have h1 : 8 * j + i ≥ 8 * j := by omega
      have h2 : 8 * j + i - 8 * j = i := by omega
      simp [hi, h2]
    · rw [hv' i (by omega)]
      simp [hi]
  · rw [if_neg hj, digF_bit]
    by_cases hi : i < 8
    · by_cases hlt : j < k
      · have h1 : ¬ (8 * j + i ≥ 8 * k) := by omega
        simp [h1]
      · rw [hv' (8 * j + i - 8 * k) (by omega)]
        simp
    · simp [hi]
theorem kput_lookup {K V : Type} [BEq K] [LawfulBEq K] [DecidableEq K] (es : List (K × V)) (k k' : K) (v : V) : (kput es k v).lookup k' = if k' = k then some v else es.lookup k' := by
  unfold kput
  cases h : (es.lookup k).isSome with
  | true =>
    rw [if_pos rfl]
    induction es with
    | nil => cases h
    | cons p t ih =>
      obtain ⟨a, b⟩ := p
      rw [List.map_cons]
      dsimp only
      by_cases hak : a = k
      · subst hak
        rw [if_pos (by simp), List.lookup_cons, List.lookup_cons]
        by_cases hk : k' = a
        · subst hk; simp
        · have e : (k' == a) = false := by simpa using hk
          rw [e, if_neg hk]
          dsimp only
          by_cases ht : (t.lookup a).isSome = true
          · rw [ih ht, if_neg hk]
          · have : ∀ l : List (K × V), ¬ (l.lookup a).isSome = true → l.map (fun p => if (p.1 == a) = true then (p.1, v) else p) = l := by
              intro l hl
              induction l with
              | nil => rfl
              | cons q l ih2 =>
                obtain ⟨x, y⟩ := q
                rw [List.lookup_cons] at hl
                by_cases hx : a = x
                · subst hx; simp at hl
                · have e2 : (a == x) = false := by simpa using hx
                  rw [e2] at hl
                  have e3 : (x == a) = false := by simpa using fun q => hx q.symm
                  rw [List.map_cons, ih2 hl]
                  simp [e3]
            rw [this t ht]
      · rw [List.lookup_cons] at h
        have e0 : (k == a) = false := by simpa using fun q => hak q.symm
        rw [e0] at h
        have e1 : (a == k) = false := by simpa using hak
        rw [if_neg (by simp [e1]), List.lookup_cons, List.lookup_cons]
        by_cases hk : k' = a
        · subst hk
          rw [if_neg hak]; simp
        · have e : (k' == a) = false := by simpa using hk
          rw [e]
          exact ih h
  | false =>
    rw [if_neg (by decide)]
    induction es with
    | nil =>
      by_cases hk : k' = k
      · subst hk; simp [List.lookup]
      · have e : (k' == k) = false := by simpa using hk
        simp [List.lookup, e, hk]
    | cons p t ih =>
      obtain ⟨a, b⟩ := p
      rw [List.lookup_cons] at h
      rw [List.cons_append, List.lookup_cons, List.lookup_cons]
      by_cases hak : k = a
      · subst hak; simp at h
      · have e0 : (k == a) = false := by simpa using hak
        rw [e0] at h
        by_cases hk : k' = a
        · subst hk
          rw [if_neg (fun q => hak q.symm)]; simp
        · have e : (k' == a) = false := by simpa using hk
          rw [e]
          exact ih h
noncomputable def decP : Nat → Option Int
  | 0 => none
  | k + 1 => some (k : Int)
theorem plF_cons (s : Nat) (t : List Nat) (k P : Nat) : plF (s :: t) k P = plF t (k + 1) (setF P s (k + 1)) := rfl
theorem place_dig {sq : List Nat} (nd : sq.Nodup) (hl : sq.length < 255) (u : Nat) : (placeOf (sq.map dk)).lookup (dk u) = decP (digF (plF sq 0 0) u) := by
  have main : ∀ (rest pre : List Nat) (P : Nat), sq = pre ++ rest → (∀ u, (placeN (sq.map dk) pre.length).lookup (dk u) = decP (digF P u)) → (∀ u, digF P u ≠ 0 → u ∈ pre) →
      ∀ u, (placeN (sq.map dk) sq.length).lookup (dk u) = decP (digF (plF rest pre.length P) u) := by
    intro rest
    induction rest with
    | nil =>
      intro pre P e h1 h2 u
      rw [List.append_nil] at e
      rw [e] at h1 ⊢
      exact h1 u
    | cons s t ih =>
      intro pre P e h1 h2 u
      rw [plF_cons]
      have hlt : pre.length < sq.length := by rw [e]; simp
      have hs : s ∉ pre := by
        rw [e, List.nodup_append] at nd
        exact fun hm => nd.2.2 s hm s (.head _) rfl
      have h0 : digF P s = 0 := by
        cases hd : digF P s with
        | zero => rfl
        | succ n => exact absurd (h2 s (by rw [hd]; simp)) hs
      have hget : (sq.map dk).getD pre.length [] = dk s := by
        rw [e]; simp [List.getD]
      have := ih (pre ++ [s]) (setF P s (pre.length + 1)) (by rw [e]; simp) (fun u => ?_) (fun u hu => ?_) u
      · rw [List.length_append] at this
        exact this
      · rw [List.length_append, List.length_singleton, placeN_succ, hget, kput_lookup, digF_setF (by omega) h0]
        by_cases huv : u = s
        · subst huv; rw [if_pos rfl, if_pos rfl]; rfl
        · rw [if_neg (fun q => huv (dk_inj q)), if_neg huv]; exact h1 u
      · rw [digF_setF (by omega) h0] at hu
        by_cases huv : u = s
        · rw [huv]; simp
        · rw [if_neg huv] at hu
          exact List.mem_append_left _ (h2 u hu)
  have := main sq [] 0 rfl (fun u => by rw [digF_zero]; rfl) (fun u hu => absurd (digF_zero u) hu) u
  unfold placeOf
  rw [List.length_map]
  exact this
theorem upF_mem {a n u : Nat} : u ∈ upF a n ↔ a ≤ u ∧ u < a + n := by
  rw [upF_eq, List.mem_map]
  constructor
  · rintro ⟨x, hx, rfl⟩
    have := List.mem_range.mp hx
    omega
  · rintro ⟨h1, h2⟩
    exact ⟨u - a, List.mem_range.mpr (by omega), by omega⟩
theorem sqF_mem {rows : Rows} : ∀ {k u : Nat}, (∀ p ∈ rows, 2 ≤ p.1 ∧ p.2 ≤ 20) → u ∈ sqF rows k → k * 64 ≤ u ∧ u < (k + rows.length) * 64 ∧ 2 ≤ u % 64 ∧ u % 64 < 20 := by
  induction rows with
  | nil => intro k u _ h; cases h
  | cons p t ih =>
    intro k u hg h
    have e : sqF (p :: t) k = upF (k * 64 + p.1) (p.2 - p.1) ++ sqF t (k + 1) := rfl
    rw [e] at h
    have hp := hg p (.head _)
    rw [List.length_cons]
    rcases List.mem_append.mp h with h | h
    · have := upF_mem.mp h
      omega
    · have := ih (fun q hq => hg q (.tail _ hq)) h
      omega
theorem upF_nodup (n : Nat) : ∀ a, (upF a n).Nodup := by
  induction n with
  | zero => intro a; exact .nil
  | succ n ih =>
    intro a
    rw [upF_succ, List.nodup_cons]
    refine ⟨fun h => ?_, ih _⟩
    have := upF_mem.mp h
    omega
theorem sqF_nodup {rows : Rows} (hg : ∀ p ∈ rows, 2 ≤ p.1 ∧ p.2 ≤ 20) : ∀ k, (sqF rows k).Nodup := by
  induction rows with
  | nil => intro k; exact .nil
  | cons p t ih =>
    intro k
    have e : sqF (p :: t) k = upF (k * 64 + p.1) (p.2 - p.1) ++ sqF t (k + 1) := rfl
    rw [e, List.nodup_append]
    refine ⟨upF_nodup _ _, ih (fun q hq => hg q (.tail _ hq)) _, fun a ha b hb q => ?_⟩
    have h1 := upF_mem.mp ha
    have h2 := sqF_mem (fun q hq => hg q (.tail _ hq)) hb
    have hp := hg p (.head _)
    omega
theorem sqF_len {rows : Rows} (hg : ∀ p ∈ rows, 2 ≤ p.1 ∧ p.2 ≤ 20) : ∀ k, (sqF rows k).length ≤ 18 * rows.length := by
  induction rows with
  | nil => intro k; exact Nat.zero_le _
  | cons p t ih =>
    intro k
    have e : sqF (p :: t) k = upF (k * 64 + p.1) (p.2 - p.1) ++ sqF t (k + 1) := rfl
    have h := ih (fun q hq => hg q (.tail _ hq)) (k + 1)
    have hp := hg p (.head _)
    rw [e, List.length_append, List.length_cons, upF_eq, List.length_map, List.length_range]
    omega
theorem Good.two {rows : Rows} (h : Good rows) : ∀ p ∈ rows, 2 ≤ p.1 ∧ p.2 ≤ 20 := fun p hp => ⟨(h.2 p hp).1, (h.2 p hp).2.2⟩
noncomputable abbrev PLo (rows : Rows) : Nat := plF (sqF rows 0) 0 0
theorem pl_dig {rows : Rows} (h : Good rows) (u : Nat) : (plR (castR rows)).lookup (dk u) = decP (digF (PLo rows) u) := by
  unfold plR
  rw [sq_eq (fun p hp => (h.2 p hp).2.2)]
  refine place_dig (sqF_nodup h.two 0) ?_ u
  have := sqF_len h.two 0
  have := h.1
  omega
theorem rt_eq {rows : Rows} (h : Good rows) : rtR (castR rows) = (sqF rows 0).map fun u => (decP (digF (PLo rows) (u + 1))).getD (-1) := by
  unfold rtR rightOf
  rw [sq_eq (fun p hp => (h.2 p hp).2.2), List.map_map]
  refine List.map_congr_left fun u hu => ?_
  have hm := sqF_mem h.two hu
  rw [← pl_dig h]
  have : dk (u + 1) = [((u / 64 : Nat) : Int), ((u % 64 : Nat) : Int) + 1] := by
    have e : u + 1 = u / 64 * 64 + (u % 64 + 1) := by omega
    rw [e, dk_code (by omega)]; rfl
  rw [this]; rfl
theorem bl_eq {rows : Rows} (h : Good rows) : blR (castR rows) = (sqF rows 0).map fun u => (decP (digF (PLo rows) (u + 64))).getD (-1) := by
  unfold blR belowOf
  rw [sq_eq (fun p hp => (h.2 p hp).2.2), List.map_map]
  refine List.map_congr_left fun u hu => ?_
  have hm := sqF_mem h.two hu
  rw [← pl_dig h]
  have : dk (u + 64) = [((u / 64 : Nat) : Int) + 1, ((u % 64 : Nat) : Int)] := by
    have e : u + 64 = (u / 64 + 1) * 64 + u % 64 := by omega
    rw [e, dk_code (by omega)]; rfl
  rw [this]; rfl
end Mine
end
section
open PySem PySem.W PySem.Calls PyProof.Rows
set_option Elab.async false
set_option maxRecDepth 100000
set_option linter.unusedVariables false
namespace Mine
theorem bitAt_nat (d k : Nat) : bitAt (d : Int) (k : Int) = if bitF d k then 1 else 0 := by
  have e1 : (d : Int).fdiv (2 ^ (k : Int).toNat) = ((d >>> k : Nat) : Int) := by
    rw [Int.toNat_natCast, Nat.shiftRight_eq_div_pow, Int.fdiv_eq_ediv_of_nonneg _ (by exact_mod_cast Nat.zero_le _)]
    push_cast; rfl
  unfold bitAt
  rw [e1]
  unfold Builtin.bitAnd
  rw [decide_eq_true (show (0 : Int) ≤ ((d >>> k : Nat) : Int) from Int.natCast_nonneg _), show decide ((0 : Int) ≤ 1) = true from rfl]
  dsimp only
  rw [Int.toNat_natCast]
  have e2 : bitF d k = Nat.beq ((d >>> k) &&& 1) 1 := rfl
  rw [e2]
  have e3 : (1 : Int).toNat = 1 := rfl
  rw [e3]
  have h : (d >>> k) &&& 1 = 0 ∨ (d >>> k) &&& 1 = 1 := by
    have : (d >>> k) &&& 1 ≤ 1 := Nat.and_le_right
    omega
  rcases h with h | h <;> rw [h] <;> rfl
theorem por_nat (a b : Nat) : por (a : Int) (b : Int) = ((a ||| b : Nat) : Int) := by
  have hn : ∀ a : Nat, decide ((0 : Int) ≤ Builtin.bitNot (a : Int)) = false := fun a => by
    apply decide_eq_false
    unfold Builtin.bitNot
    omega
  have hnn : ∀ x : Int, Builtin.bitNot (Builtin.bitNot x) = x := fun x => by unfold Builtin.bitNot; omega
  unfold por Builtin.bitOr Builtin.bitAnd
  rw [hn, hn]
  dsimp only
  rw [hnn, hnn, hnn]
  rfl
theorem shl1_nat (k : Nat) : shl1 (k : Int) = ((1 <<< k : Nat) : Int) := by
  unfold shl1
  rw [Int.toNat_natCast, Nat.shiftLeft_eq]
  push_cast; rfl
theorem bitAt_zero {d k : Nat} : bitAt (d : Int) (k : Int) = 0 ↔ bitF d k = false := by
  rw [bitAt_nat]
  cases bitF d k <;> simp
theorem skip_eq (m done : Nat) : ∀ (f k : Nat), f = m - k → k ≤ m → skipK m (done : Int) k = skipF done f k
  | 0, k, h, hk => by
    rw [skipK, if_neg (by omega)]; rfl
  | f + 1, k, h, hk => by
    have e : skipF done (f + 1) k = Bool.rec k (skipF done f (k + 1)) (bitF done k) := rfl
    rw [skipK, e]
    cases hbit : bitF done k with
    | true =>
      rw [if_pos ⟨by omega, fun q => by rw [bitAt_zero.mp q] at hbit; cases hbit⟩]
      exact skip_eq m done f (k + 1) (by omega) (by omega)
    | false => rw [if_neg fun q => q.2 (bitAt_zero.mpr hbit)]
noncomputable def castS (s : Nat × Nat × Nat) : St3 := (s.1, (s.2.1 : Int), (s.2.2 : Int))
theorem push_eq {right below : List Int} {RP BP k done downs : Nat} {st : List (Nat × Nat × Nat)} (hr : right.getD k 0 = (decP (digF RP k)).getD (-1)) (hb : below.getD k 0 = (decP (digF BP k)).getD (-1)) :
    waysPush right below k (done : Int) (downs : Int) (st.map castS) = (pushF RP BP k done downs st).map castS := by
  unfold waysPush pushF
  rw [hr, hb]
  dsimp only
  generalize hst1 : (Nat.rec (motive := fun _ => List (Nat × Nat × Nat)) st (fun r _ => Bool.rec ((Nat.succ k, Nat.lor (Nat.lor done (Nat.shiftLeft 1 k)) (Nat.shiftLeft 1 r), downs) :: st) st (bitF done r)) (digF RP k)) = st1
  have h1 : (if 0 ≤ (decP (digF RP k)).getD (-1) ∧ bitAt (done : Int) ((decP (digF RP k)).getD (-1)) = 0 then (k + 1, por (por (done : Int) (shl1 k)) (shl1 ((decP (digF RP k)).getD (-1))), (downs : Int)) :: st.map castS else st.map castS) = st1.map castS := by
    rw [← hst1]
    cases digF RP k with
    | zero =>
      rw [if_neg fun q => absurd q.1 (by decide)]
      rfl
    | succ r =>
      show (if 0 ≤ (r : Int) ∧ bitAt (done : Int) (r : Int) = 0 then (k + 1, por (por (done : Int) (shl1 k)) (shl1 (r : Int)), (downs : Int)) :: st.map castS else st.map castS) = List.map castS (Bool.rec ((Nat.succ k, Nat.lor (Nat.lor done (Nat.shiftLeft 1 k)) (Nat.shiftLeft 1 r), downs) :: st) st (bitF done r))
      cases hbit : bitF done r with
      | true => rw [if_neg fun q => by rw [bitAt_zero.mp q.2] at hbit; cases hbit]
      | false =>
        rw [if_pos ⟨by omega, bitAt_zero.mpr hbit⟩, shl1_nat, shl1_nat, por_nat, por_nat]
        rfl
  rw [h1]
  cases digF BP k with
  | zero =>
    rw [if_neg (by decide)]
    rfl
  | succ b =>
    show (if 0 ≤ (b : Int) then (k + 1, por (por (done : Int) (shl1 k)) (shl1 (b : Int)), por (downs : Int) (shl1 k)) :: st1.map castS else st1.map castS) = List.map castS ((Nat.succ k, Nat.lor (Nat.lor done (Nat.shiftLeft 1 k)) (Nat.shiftLeft 1 b), Nat.lor downs (Nat.shiftLeft 1 k)) :: st1)
    rw [if_pos (by omega), shl1_nat, shl1_nat, por_nat, por_nat, por_nat]
    rfl
theorem push_le {RP BP k done downs : Nat} {st : List (Nat × Nat × Nat)} {m : Nat} (hk : k < m) (h : ∀ s ∈ st, s.1 ≤ m) : ∀ s ∈ pushF RP BP k done downs st, s.1 ≤ m := by
  unfold pushF
  dsimp only
  generalize hst1 : (Nat.rec (motive := fun _ => List (Nat × Nat × Nat)) st (fun r _ => Bool.rec ((Nat.succ k, Nat.lor (Nat.lor done (Nat.shiftLeft 1 k)) (Nat.shiftLeft 1 r), downs) :: st) st (bitF done r)) (digF RP k)) = st1
  have h1 : ∀ s ∈ st1, s.1 ≤ m := by
    rw [← hst1]
    cases digF RP k with
    | zero => exact h
    | succ r =>
      cases hbit : bitF done r with
      | true =>
        intro s hs
        dsimp only at hs
        rw [hbit] at hs
        exact h s hs
      | false =>
        intro s hs
        dsimp only at hs
        rw [hbit] at hs
        rcases List.mem_cons.mp hs with rfl | hs
        · exact hk
        · exact h s hs
  cases digF BP k with
  | zero => exact h1
  | succ b =>
    intro s hs
    rcases List.mem_cons.mp hs with rfl | hs
    · exact hk
    · exact h1 s hs
theorem skipF_le (done : Nat) : ∀ f k : Nat, k ≤ skipF done f k ∧ skipF done f k ≤ k + f
  | 0, k => ⟨Nat.le_refl _, Nat.le_refl _⟩
  | f + 1, k => by
    have e : skipF done (f + 1) k = Bool.rec k (skipF done f (k + 1)) (bitF done k) := rfl
    rw [e]
    cases bitF done k with
    | false => exact ⟨Nat.le_refl _, Nat.le_add_right _ _⟩
    | true =>
      have := skipF_le done f (k + 1)
      dsimp only; omega
theorem ways_eq {right below : List Int} {RP BP : Nat} (hl : below.length = right.length) (hr : ∀ k, k < right.length → right.getD k 0 = (decP (digF RP k)).getD (-1)) (hb : ∀ k, k < right.length → below.getD k 0 = (decP (digF BP k)).getD (-1)) :
    ∀ (f : Nat) (st : List (Nat × Nat × Nat)) (w : List Nat), (∀ s ∈ st, s.1 ≤ right.length) → waysRun right below f (st.map castS) (w.map fun x : Nat => (x : Int)) = (waysF right.length RP BP f st w).map fun l => l.map fun x : Nat => (x : Int)
  | 0, [], w, _ => rfl
  | 0, s :: st, w, _ => rfl
  | f + 1, [], w, _ => rfl
  | f + 1, s :: st, w, hs => by
    obtain ⟨k, done, downs⟩ := s
    have hk : k ≤ right.length := hs _ (.head _)
    have hle := skipF_le done (right.length - k) k
    have hsk := skip_eq right.length done (right.length - k) k rfl hk
    have e : waysF right.length RP BP (f + 1) ((k, done, downs) :: st) w = Bool.rec (waysF right.length RP BP f (pushF RP BP (skipF done (right.length - k) k) done downs st) w) (waysF right.length RP BP f st (w ++ [downs])) (Nat.beq (skipF done (right.length - k) k) right.length) := rfl
    have e2 : waysRun right below (f + 1) (((k, done, downs) :: st).map castS) (w.map fun x : Nat => (x : Int)) = if skipK right.length (done : Int) k = right.length then waysRun right below f (st.map castS) (w.map (fun x : Nat => (x : Int)) ++ [(downs : Int)]) else waysRun right below f (waysPush right below (skipK right.length (done : Int) k) (done : Int) (downs : Int) (st.map castS)) (w.map fun x : Nat => (x : Int)) := rfl
    rw [e, e2, hsk]
    by_cases hend : skipF done (right.length - k) k = right.length
    · rw [if_pos hend, hend, Nat.beq_refl]
      have := ways_eq hl hr hb f st (w ++ [downs]) (fun s h => hs s (.tail _ h))
      rw [List.map_append] at this
      exact this
    · have hbeq : Nat.beq (skipF done (right.length - k) k) right.length = false := by
        cases hq : Nat.beq (skipF done (right.length - k) k) right.length with
        | false => rfl
        | true => exact absurd (Nat.eq_of_beq_eq_true hq) hend
      have hlt : skipF done (right.length - k) k < right.length := by omega
      rw [if_neg hend, hbeq, push_eq (hr _ hlt) (hb _ hlt)]
      exact ways_eq hl hr hb f _ w (push_le hlt fun s h => hs s (.tail _ h))
theorem nbF_cons (d PL s : Nat) (t : List Nat) (k P : Nat) : nbF d PL (s :: t) k P = nbF d PL t (k + 1) (setF P k (digF PL (s + d))) := rfl
theorem nb_dig (d PL : Nat) : ∀ (sq : List Nat) (k P : Nat), (∀ j, k ≤ j → digF P j = 0) → ∀ j, digF (nbF d PL sq k P) j = if h : k ≤ j ∧ j < k + sq.length then digF PL (sq[j - k]'(by omega) + d) else digF P j
  | [], k, P, h0, j => by
    rw [dif_neg (fun q => by rw [List.length_nil] at q; omega)]; rfl
  | s :: t, k, P, h0, j => by
    rw [nbF_cons, nb_dig d PL t (k + 1) _ (fun j hj => by rw [digF_setF (digF_lt _ _) (h0 k (Nat.le_refl _)), if_neg (by omega)]; exact h0 j (by omega)) j]
    rw [digF_setF (digF_lt _ _) (h0 k (Nat.le_refl _))]
    by_cases hj : j = k
    · subst hj
      rw [dif_neg (by omega), if_pos rfl, dif_pos (by simp)]
      simp
    · rw [if_neg hj]
      by_cases h : k + 1 ≤ j ∧ j < k + 1 + t.length
      · rw [dif_pos h, dif_pos (by rw [List.length_cons]; omega)]
        have : j - k = (j - (k + 1)) + 1 := by omega
        simp only [this, List.getElem_cons_succ]
      · rw [dif_neg h, dif_neg (by rw [List.length_cons]; omega)]
noncomputable abbrev RPo (rows : Rows) : Nat := nbF 1 (PLo rows) (sqF rows 0) 0 0
noncomputable abbrev BPo (rows : Rows) : Nat := nbF 64 (PLo rows) (sqF rows 0) 0 0
theorem ways_ok {rows : Rows} (h : Good rows) {ways : List Nat} (hw : waysF (sqF rows 0).length (RPo rows) (BPo rows) 200 [(0, 0, 0)] [] = some ways) :
    waysRun (rtR (castR rows)) (blR (castR rows)) 200 [(0, 0, 0)] [] = some (ways.map fun x : Nat => (x : Int)) := by
  have l1 : (rtR (castR rows)).length = (sqF rows 0).length := by rw [rt_eq h, List.length_map]
  have l2 : (blR (castR rows)).length = (sqF rows 0).length := by rw [bl_eq h, List.length_map]
  have z : ∀ j, 0 ≤ j → digF 0 j = 0 := fun j _ => digF_zero j
  have := ways_eq (RP := RPo rows) (BP := BPo rows) (l2.trans l1.symm) (fun k hk => ?_) (fun k hk => ?_) 200 [(0, 0, 0)] [] (fun s hs => by rw [List.mem_singleton.mp hs]; exact Nat.zero_le _)
  · rw [l1, hw] at this
    exact this
  · rw [l1] at hk
    rw [nb_dig 1 (PLo rows) (sqF rows 0) 0 0 z k, dif_pos ⟨Nat.zero_le _, by omega⟩, rt_eq h]
    simp [List.getD, hk]
  · rw [l1] at hk
    rw [nb_dig 64 (PLo rows) (sqF rows 0) 0 0 z k, dif_pos ⟨Nat.zero_le _, by omega⟩, bl_eq h]
    simp [List.getD, hk]
end Mine
end
section
open PySem PySem.W PySem.Calls PyProof.Rows
set_option Elab.async false
set_option maxRecDepth 100000
set_option linter.unusedVariables false
namespace Mine
/-- a step of the border and its code -/
noncomputable def RB (s : List Int) (q : Nat × Nat) : Prop := ∃ sr sc : Int, s = dk q.1 ++ [sr, sc] ∧ sr + sc = (q.2 : Int)
theorem mapC_eq (f : Nat → Nat × Nat) (l : List Nat) : mapC f l = l.map f := by
  induction l with
  | nil => rfl
  | cons a t ih => rw [List.map_cons, ← ih]; rfl
theorem A2.maps {α β γ : Type} {R : β → γ → Prop} {f : α → β} {g : α → γ} {l : List α} (h : ∀ a ∈ l, R (f a) (g a)) : A2 R (l.map f) (l.map g) := by
  induction l with
  | nil => exact .nil
  | cons a t ih => exact .cons (h a (.head _)) (ih fun b hb => h b (.tail _ hb))
theorem RB.mk' {r c : Nat} {sr sc : Int} {p : Nat} {s : List Int} {k : Nat} (hc : c < 64) (hk : k = r * 64 + c) (hs : s = [(r : Int), (c : Int), sr, sc]) (hp : sr + sc = (p : Int)) : RB s (k, p) := ⟨sr, sc, by rw [hs, hk, dk_code hc]; rfl, hp⟩
theorem dnF_mem {a n u : Nat} (h : n ≤ a + 1) (hu : u ∈ dnF a n) : u ≤ a ∧ a < u + n := by
  rw [dnF_eq _ _ h, List.mem_map] at hu
  obtain ⟨x, hx, rfl⟩ := hu
  have := List.mem_range.mp hx
  omega
theorem ups {r a b : Nat} (hb : b ≤ 40) : A2 RB ((rangeL a b 1).map fun c => [(r : Int), c + 1, (r : Int), c]) (mapC (fun c => (Nat.add (Nat.mul r 64) (Nat.succ c), Nat.add r c)) (upF a (b - a))) := by
  rw [rangeL_upF, List.map_map, mapC_eq]
  refine A2.maps fun c hc => ?_
  have := upF_mem.mp hc
  exact RB.mk' (r := r) (c := c + 1) (sr := (r : Int)) (sc := (c : Int)) (by omega) rfl (by simp) (by rfl)
theorem downs {r0 r a b : Nat} (ha : a ≤ 40) : A2 RB ((rangeL a b (-1)).map fun c => [(r : Int), c - 1, (r0 : Int), c - 1]) (mapC (fun c => (Nat.add (Nat.mul r 64) (Nat.pred c), Nat.add r0 (Nat.pred c))) (dnF a (a - b))) := by
  rw [rangeL_dnF, List.map_map, mapC_eq]
  refine A2.maps fun c hc => ?_
  have := dnF_mem (by omega) hc
  have e : (c : Int) - 1 = ((c - 1 : Nat) : Int) := by omega
  refine RB.mk' (r := r) (c := c - 1) (sr := (r0 : Int)) (sc := ((c - 1 : Nat) : Int)) (by omega) rfl ?_ (by rfl)
  show [(r : Int), (c : Int) - 1, (r0 : Int), (c : Int) - 1] = _
  rw [e]
theorem getD_cast (rows : Rows) (i : Nat) : (castR rows).getD i (0, 0) = (((rows.getD i (0, 0)).1 : Int), ((rows.getD i (0, 0)).2 : Int)) := by
  unfold castR
  simp only [List.getD, List.getElem?_map]
  cases rows[i]? <;> rfl
theorem brF_nil (r : Nat) : brF [] r = [] := rfl
theorem brF_one (p : Nat × Nat) (r : Nat) : brF [p] r = [(Nat.add (Nat.mul (Nat.succ r) 64) p.2, Nat.add r (Nat.pred p.2))] := rfl
theorem brF_two (p q : Nat × Nat) (t : Rows) (r : Nat) : brF (p :: q :: t) r = (Nat.add (Nat.mul (Nat.succ r) 64) p.2, Nat.add r (Nat.pred p.2)) ::
      (mapC (fun c => (Nat.add (Nat.mul (Nat.succ r) 64) (Nat.succ c), Nat.add (Nat.succ r) c)) (upF p.2 (Nat.sub q.2 p.2)) ++ (mapC (fun c => (Nat.add (Nat.mul (Nat.succ r) 64) (Nat.pred c), Nat.add r (Nat.pred c))) (dnF p.2 (Nat.sub p.2 q.2)) ++ brF (q :: t) (Nat.succ r))) := rfl
theorem right_ok {all : Rows} (hg : ∀ p ∈ all, 2 ≤ p.1 ∧ p.1 < p.2 ∧ p.2 ≤ 20) : ∀ (rest pre : Rows), all = pre ++ rest → A2 RB ((List.range rest.length).flatMap fun i => bR (castR all) (pre.length + i)) (brF rest pre.length)
  | [], pre, e => .nil
  | [p], pre, e => by
    have hlen : all.length = pre.length + 1 := by rw [e]; simp
    have hp : all.getD pre.length (0, 0) = p := by rw [e]; simp [List.getD]
    have hgp := hg p (by rw [e]; simp)
    rw [brF_one]
    show A2 RB (bR (castR all) (pre.length + 0) ++ []) _
    rw [List.append_nil, Nat.add_zero]
    unfold bR
    rw [List.length_map, if_neg (by omega), getD_cast, hp]
    refine .cons ?_ .nil
    refine RB.mk' (r := pre.length + 1) (c := p.2) (sr := (pre.length : Int)) (sc := (p.2 : Int) - 1) (by omega) rfl (by simp) ?_
    show (pre.length : Int) + ((p.2 : Int) - 1) = ((pre.length + (p.2 - 1) : Nat) : Int)
    omega
  | p :: q :: t, pre, e => by
    have hlen : all.length = pre.length + (t.length + 2) := by rw [e]; simp
    have hp : all.getD pre.length (0, 0) = p := by rw [e]; simp [List.getD]
    have hq : all.getD (pre.length + 1) (0, 0) = q := by rw [e]; simp [List.getD]
    have hgp := hg p (by rw [e]; simp)
    have hgq := hg q (by rw [e]; simp)
    have ih := right_ok hg (q :: t) (pre ++ [p]) (by rw [e]; simp)
    rw [List.length_append, List.length_singleton] at ih
    rw [brF_two, List.length_cons, List.range_succ_eq_map, List.flatMap_cons, List.flatMap_map]
    have hb : bR (castR all) pre.length = [(pre.length : Int) + 1, (p.2 : Int), (pre.length : Int), (p.2 : Int) - 1] :: ((rangeL p.2 q.2 1).map (fun c => [((pre.length + 1 : Nat) : Int), c + 1, ((pre.length + 1 : Nat) : Int), c]) ++ (rangeL p.2 q.2 (-1)).map (fun c => [((pre.length + 1 : Nat) : Int), c - 1, (pre.length : Int), c - 1])) := by
      unfold bR
      rw [List.length_map, if_pos (by omega), getD_cast, hp, getD_cast, hq]
      rfl
    rw [Nat.add_zero, hb, List.cons_append, List.append_assoc]
    refine .cons ?_ (A2.append ?_ (A2.append ?_ ?_))
    · refine RB.mk' (r := pre.length + 1) (c := p.2) (sr := (pre.length : Int)) (sc := (p.2 : Int) - 1) (by omega) rfl (by simp) ?_
      show (pre.length : Int) + ((p.2 : Int) - 1) = ((pre.length + (p.2 - 1) : Nat) : Int)
      omega
    · exact ups (r := pre.length + 1) (by omega)
    · exact downs (r0 := pre.length) (r := pre.length + 1) (by omega)
    · have e2 : (fun a => bR (castR all) (pre.length + Nat.succ a)) = fun i => bR (castR all) (pre.length + 1 + i) := by
        funext a
        have : pre.length + Nat.succ a = pre.length + 1 + a := by omega
        rw [this]
      rw [e2]
      exact ih
theorem blF_nil (r : Nat) : blF [] r = [] := rfl
theorem blF_one (p : Nat × Nat) (r : Nat) : blF [p] r = [(Nat.add (Nat.mul r 64) p.1, Nat.add r p.1)] := rfl
theorem blF_two (p q : Nat × Nat) (t : Rows) (r : Nat) : blF (p :: q :: t) r = (Nat.add (Nat.mul r 64) p.1, Nat.add r p.1) ::
      (mapC (fun c => (Nat.add (Nat.mul r 64) (Nat.succ c), Nat.add r c)) (upF p.1 (Nat.sub q.1 p.1)) ++ (mapC (fun c => (Nat.add (Nat.mul r 64) (Nat.pred c), Nat.add (Nat.pred r) (Nat.pred c))) (dnF p.1 (Nat.sub p.1 q.1)) ++ blF (q :: t) (Nat.pred r))) := rfl
theorem left_ok {all : Rows} (hg : ∀ p ∈ all, 2 ≤ p.1 ∧ p.1 < p.2 ∧ p.2 ≤ 20) : ∀ m, m ≤ all.length → A2 RB ((List.range m).flatMap fun i => bL (castR all) (m - 1 - i)) (blF (all.take m).reverse (m - 1))
  | 0, _ => .nil
  | m + 1, h => by
    have ih := left_ok hg m (by omega)
    have hlt : m < all.length := by omega
    have hgm : all[m]? = some (all.getD m (0, 0)) := by simp [List.getD, hlt]
    have hm := hg _ (List.mem_of_getElem? hgm)
    have etake : (all.take (m + 1)).reverse = all.getD m (0, 0) :: (all.take m).reverse := by
      rw [List.take_add_one, hgm]; simp
    rw [etake, List.range_succ_eq_map, List.flatMap_cons, List.flatMap_map]
    have e2 : (fun a => bL (castR all) (m + 1 - 1 - Nat.succ a)) = fun i => bL (castR all) (m - 1 - i) := by
      funext a
      have : m + 1 - 1 - Nat.succ a = m - 1 - a := by omega
      rw [this]
    rw [e2]
    have e3 : m + 1 - 1 - 0 = m := by omega
    rw [e3]
    generalize hp : all.getD m (0, 0) = p at hm ⊢
    cases m with
    | zero =>
      have hb : bL (castR all) 0 = [[((0 : Nat) : Int), (p.1 : Int), ((0 : Nat) : Int), (p.1 : Int)]] := by
        unfold bL
        rw [if_pos rfl, getD_cast, hp]
      rw [hb]
      show A2 RB ([[_, _, _, _]] ++ []) (blF [p] 0)
      rw [List.append_nil, blF_one]
      refine .cons ?_ .nil
      exact RB.mk' (r := 0) (c := p.1) (sr := ((0 : Nat) : Int)) (sc := (p.1 : Int)) (by omega) rfl (by simp) (by rfl)
    | succ j =>
      have hgj : all[j]? = some (all.getD j (0, 0)) := by
        have : j < all.length := by omega
        simp [List.getD, this]
      have hj := hg _ (List.mem_of_getElem? hgj)
      have et2 : (all.take (j + 1)).reverse = all.getD j (0, 0) :: (all.take j).reverse := by
        rw [List.take_add_one, hgj]; simp
      rw [et2] at ih ⊢
      generalize hq : all.getD j (0, 0) = q at hj ih ⊢
      have hb : bL (castR all) (j + 1) = [((j + 1 : Nat) : Int), (p.1 : Int), ((j + 1 : Nat) : Int), (p.1 : Int)] :: ((rangeL p.1 q.1 1).map (fun c => [((j + 1 : Nat) : Int), c + 1, ((j + 1 : Nat) : Int), c]) ++ (rangeL p.1 q.1 (-1)).map (fun c => [((j + 1 : Nat) : Int), c - 1, (j : Int), c - 1])) := by
        unfold bL
        rw [if_neg (by omega), getD_cast, hp, getD_cast, show j + 1 - 1 = j from rfl, hq]
        have : ((j + 1 : Nat) : Int) - 1 = (j : Int) := by omega
        rw [this]
      rw [hb, blF_two, List.cons_append, List.append_assoc]
      refine .cons ?_ (A2.append ?_ (A2.append ?_ ?_))
      · exact RB.mk' (r := j + 1) (c := p.1) (sr := ((j + 1 : Nat) : Int)) (sc := (p.1 : Int)) (by omega) rfl (by simp) (by rfl)
      · exact ups (r := j + 1) (by omega)
      · exact downs (r0 := j) (r := j + 1) (by omega)
      · exact ih
theorem lastF_eq (p : Nat × Nat) : ∀ (t : Rows), lastF (t ++ [p]) = p
  | [] => rfl
  | [q] => rfl
  | q :: r :: t => by
    have := lastF_eq p (r :: t)
    exact this
theorem border_ok {rows : Rows} (h : Good rows) : A2 RB (borderOf (castR rows)) (borderF rows) := by
  have hg := h.2
  have h1 := right_ok hg rows [] rfl
  have h2 := left_ok hg rows.length (Nat.le_refl _)
  rw [List.take_length] at h2
  unfold borderOf borderF
  rw [List.length_map, List.append_assoc, List.append_assoc]
  have hl : rows.length - 1 < rows.length := by have := h.1; omega
  have hne : rows ≠ [] := fun q => by rw [q] at hl; simp at hl
  refine A2.append ?_ (A2.append ?_ (A2.append ?_ h2))
  · obtain ⟨p, t, rfl⟩ := List.exists_cons_of_ne_nil hne
    have hp := hg p (.head _)
    rw [getD_cast]
    show A2 RB ((rangeL (p.1 : Int) (p.2 : Int) 1).map fun c => [0, c + 1, 0, c]) (mapC (fun c => (Nat.succ c, c)) (upF p.1 (Nat.sub p.2 p.1)))
    have := ups (r := 0) (a := p.1) (b := p.2) (by omega)
    have e : (fun c => (Nat.add (Nat.mul 0 64) (Nat.succ c), Nat.add 0 c)) = fun c : Nat => (Nat.succ c, c) := by
      funext c
      show (0 * 64 + (c + 1), 0 + c) = (c + 1, c)
      rw [Nat.zero_mul, Nat.zero_add, Nat.zero_add]
    rw [e] at this
    exact this
  · have e : (fun i => bR (castR rows) (([] : Rows).length + i)) = bR (castR rows) := by
      funext i
      rw [List.length_nil, Nat.zero_add]
    rw [e] at h1
    exact h1
  · have hlast : rows[rows.length - 1]? = some (rows.getD (rows.length - 1) (0, 0)) := by simp [List.getD, hl]
    have hm := hg _ (List.mem_of_getElem? hlast)
    have e1 : lastF rows = rows.getD (rows.length - 1) (0, 0) := by
      have := List.dropLast_concat_getLast hne
      rw [← this, lastF_eq]
      rw [this, List.getLast_eq_getElem]
      simp [List.getD, hl]
    rw [getD_cast, e1]
    have e2 : ((rows.length : Int) - 1) = ((rows.length - 1 : Nat) : Int) := by omega
    rw [e2]
    exact downs (r0 := rows.length - 1) (r := rows.length) (by omega)
end Mine
end
section
open PySem PySem.W PySem.Calls PyProof.Rows
set_option Elab.async false
set_option maxRecDepth 100000
set_option linter.unusedVariables false
namespace Mine
noncomputable def decH : Nat → Option Int
  | 0 => none
  | n + 1 => some ((n : Int) + 1 - 64)
theorem even_nat (n d : Nat) (a : Int) (h : a = (n : Int)) : ((a + (d : Int)).fmod 2 = 0) ↔ evenF (Nat.add n d) = true := by
  subst h
  rw [Int.fmod_eq_emod_of_nonneg _ (by decide)]
  have e : evenF (Nat.add n d) = Nat.beq ((n + d) % 2) 0 := rfl
  rw [e]
  constructor
  · intro q
    have : (n + d) % 2 = 0 := by omega
    rw [this]; rfl
  · intro q
    have := Nat.eq_of_beq_eq_true q
    omega
theorem hF_cons (dark : Nat) (s : Nat × Nat) (t : List (Nat × Nat)) (P v : Nat) : hF dark (s :: t) P v = hF dark t
    (Nat.rec (setF P s.1 (Bool.rec (Nat.succ v) (Nat.pred v) (evenF (Nat.add s.2 dark)))) (fun _ _ => P) (digF P s.1)) (Bool.rec (Nat.succ v) (Nat.pred v) (evenF (Nat.add s.2 dark))) := rfl
structure HInv (a0 : Nat) (br : List (Nat × Nat)) (es : TD) (P : Nat) : Prop where
  look : ∀ u, es.lookup (dk u) = decH (digF P u)
  nd : (es.map (·.1)).Nodup
  keys : ∀ p ∈ es, ∃ u, p.1 = dk u ∧ (u = a0 ∨ ∃ q ∈ br, q.1 = u)
  small : ∀ p ∈ es, p.2.natAbs ≤ 200
theorem kput_keys {K V : Type} [BEq K] [LawfulBEq K] (es : List (K × V)) (k : K) (v : V) : (kput es k v).map (·.1) = if (es.lookup k).isSome then es.map (·.1) else es.map (·.1) ++ [k] := by
  unfold kput
  split
  · rw [List.map_map]
    refine List.map_congr_left fun p _ => ?_
    simp only [Function.comp]
    split <;> rfl
  · rw [List.map_append]; rfl
theorem look_none_keys {K V : Type} [BEq K] [LawfulBEq K] {es : List (K × V)} {k : K} (h : (es.lookup k).isSome = false) : k ∉ es.map (·.1) := by
  induction es with
  | nil => simp
  | cons p t ih =>
    obtain ⟨a, b⟩ := p
    rw [List.lookup_cons] at h
    by_cases hk : k = a
    · subst hk; simp at h
    · have e : (k == a) = false := by simpa using hk
      rw [e] at h
      rw [List.map_cons, List.mem_cons, not_or]
      exact ⟨hk, ih h⟩
theorem kput_nodup {K V : Type} [BEq K] [LawfulBEq K] {es : List (K × V)} {k : K} {v : V} (h : (es.map (·.1)).Nodup) : ((kput es k v).map (·.1)).Nodup := by
  rw [kput_keys]
  cases hq : (es.lookup k).isSome with
  | true => exact h
  | false =>
    rw [if_neg (by decide), List.nodup_append]
    refine ⟨h, by simp, fun a ha b hb e => ?_⟩
    rw [List.mem_singleton.mp hb] at e
    exact look_none_keys hq (e ▸ ha)
theorem kput_mem {K V : Type} [BEq K] [LawfulBEq K] {es : List (K × V)} {k : K} {v : V} {p : K × V} (h : p ∈ kput es k v) : p = (k, v) ∨ p ∈ es := by
  unfold kput at h
  split at h
  · obtain ⟨q, hq, e⟩ := List.mem_map.mp h
    split at e
    · rename_i hqk
      rw [← e, beq_iff_eq.mp hqk]; exact .inl rfl
    · rw [← e]; exact .inr hq
  · rcases List.mem_append.mp h with h | h
    · exact .inr h
    · exact .inl (List.mem_singleton.mp h)
theorem heights_fold (dark a0 : Nat) (br : List (Nat × Nat)) : ∀ (l : List (List Int)) (t : List (Nat × Nat)), A2 RB l t → (∀ q ∈ t, q ∈ br) → ∀ (es : TD) (P v : Nat), HInv a0 br es P → t.length < v → v + t.length < 200 →
    HInv a0 br (l.foldl (hStep (dark : Int)) (es, (v : Int) - 64)).1 (hF dark t P v).1 ∧ (l.foldl (hStep (dark : Int)) (es, (v : Int) - 64)).2 = ((hF dark t P v).2 : Int) - 64 := by
  intro l t hA
  induction hA with
  | nil => intro _ es P v hI _ _; exact ⟨hI, rfl⟩
  | @cons s q l t hs hA ih =>
    intro hbr es P v hI h1 h2
    rw [List.length_cons] at h1 h2
    obtain ⟨sr, sc, hs1, hs2⟩ := hs
    have hk : [s.getD 0 0, s.getD 1 0] = dk q.1 := by rw [hs1]; rfl
    have hsum : s.getD 2 0 + s.getD 3 0 = (q.2 : Int) := by rw [hs1]; exact hs2
    rw [List.foldl_cons, hF_cons]
    generalize hv : (Bool.rec (Nat.succ v) (Nat.pred v) (evenF (Nat.add q.2 dark)) : Nat) = v'
    have hv' : (v : Int) - 64 + (if (s.getD 2 0 + s.getD 3 0 + (dark : Int)).fmod 2 = 0 then -1 else 1) = (v' : Int) - 64 := by
      have he := even_nat q.2 dark _ hsum
      cases hev : evenF (Nat.add q.2 dark) with
      | true =>
        rw [if_pos (he.mpr hev), ← hv, hev]
        show (v : Int) - 64 + -1 = ((v - 1 : Nat) : Int) - 64
        omega
      | false =>
        rw [if_neg (fun q => by rw [he.mp q] at hev; cases hev), ← hv, hev]
        show (v : Int) - 64 + 1 = ((v + 1 : Nat) : Int) - 64
        omega
    have hvb : v' = v + 1 ∨ v' = v - 1 := by
      rw [← hv]
      cases evenF (Nat.add q.2 dark)
      · exact .inl rfl
      · exact .inr rfl
    have hstep : hStep (dark : Int) (es, (v : Int) - 64) s = (if (es.lookup (dk q.1)).isSome then es else kput es (dk q.1) ((v' : Int) - 64), (v' : Int) - 64) := by
      unfold hStep
      dsimp only
      rw [hk, hv']
    rw [hstep]
    have hlk := hI.look q.1
    cases hd : digF P q.1 with
    | zero =>
      rw [hd] at hlk
      have hlk' : es.lookup (dk q.1) = none := hlk
      rw [hlk', if_neg (by decide)]
      refine ih (fun q hq => hbr q (.tail _ hq)) (kput es (dk q.1) ((v' : Int) - 64)) (setF P q.1 v') v' ⟨fun u => ?_, kput_nodup hI.nd, fun p hp => ?_, fun p hp => ?_⟩ (by omega) (by omega)
      · rw [kput_lookup, digF_setF (by omega) hd]
        by_cases huq : u = q.1
        · subst huq
          rw [if_pos rfl, if_pos rfl]
          obtain ⟨n, rfl⟩ : ∃ n, v' = n + 1 := ⟨v' - 1, by omega⟩
          show some (((n + 1 : Nat) : Int) - 64) = some ((n : Int) + 1 - 64)
          simp
        · rw [if_neg (fun e => huq (dk_inj e)), if_neg huq]
          exact hI.look u
      · rcases kput_mem hp with rfl | hp
        · exact ⟨q.1, rfl, .inr ⟨q, hbr q (.head _), rfl⟩⟩
        · exact hI.keys p hp
      · rcases kput_mem hp with rfl | hp
        · dsimp only; omega
        · exact hI.small p hp
    | succ n =>
      rw [hd] at hlk
      have hlk' : es.lookup (dk q.1) = some ((n : Int) + 1 - 64) := hlk
      rw [hlk', Option.isSome_some, if_pos rfl]
      exact ih (fun q hq => hbr q (.tail _ hq)) es P v' hI (by omega) (by omega)
noncomputable abbrev hhF (rows : Rows) (dark : Nat) : Nat × Nat := hF dark (borderF rows) (setF 0 (List.headD rows (0, 0)).1 64) 64
theorem heights_ok {rows : Rows} (h : Good rows) (hb : (borderF rows).length ≤ 60) (dark : Nat) :
    HInv (List.headD rows (0, 0)).1 (borderF rows) (hsR (castR rows) dark) (hhF rows dark).1 ∧ (heightsOf (castR rows) dark).2 = ((hhF rows dark).2 : Int) - 64 := by
  have hne : rows ≠ [] := fun q => by have := h.1; rw [q] at this; simp at this
  obtain ⟨p, t, rfl⟩ := List.exists_cons_of_ne_nil hne
  have hp := h.2 p (.head _)
  have e0 : ((castR (p :: t)).getD 0 (0, 0)).1 = (p.1 : Int) := rfl
  have := heights_fold dark p.1 (borderF (p :: t)) _ _ (border_ok h) (fun q hq => hq) [([0, (p.1 : Int)], 0)] (setF 0 p.1 64) 64 ⟨fun u => ?_, by simp, fun q hq => ?_, fun q hq => ?_⟩ (by omega) (by omega)
  · exact this
  · rw [digF_setF (by decide) (digF_zero _)]
    have ed : dk p.1 = [0, (p.1 : Int)] := by
      have := dk_code (r := 0) (c := p.1) (by omega)
      rw [Nat.zero_mul, Nat.zero_add] at this
      exact this
    by_cases hu : u = p.1
    · subst hu
      rw [if_pos rfl, ed]
      simp [List.lookup]; rfl
    · rw [if_neg hu, digF_zero]
      have : (dk u == [0, (p.1 : Int)]) = false := by
        rw [beq_eq_false_iff_ne, ← ed]
        exact fun e => hu (dk_inj e)
      simp [List.lookup, this]; rfl
  · rw [List.mem_singleton.mp hq]
    refine ⟨p.1, ?_, .inl rfl⟩
    have := dk_code (r := 0) (c := p.1) (by omega)
    rw [Nat.zero_mul, Nat.zero_add] at this
    exact this.symm
  · rw [List.mem_singleton.mp hq]; show (0 : Int).natAbs ≤ 200; decide
end Mine
end
section
open PySem PySem.W PySem.Calls PyProof.Rows
set_option Elab.async false
set_option maxRecDepth 100000
set_option linter.unusedVariables false
namespace Mine
noncomputable def dkE (e : Nat × Nat) : Edge := (dk e.1, dk e.2)
theorem recL_flat {α β : Type} (E : α → List β) : ∀ (l : List α) (k : Nat), recL (fun _ u => E u) l k = l.flatMap E
  | [], _ => rfl
  | a :: t, k => by rw [recL, recL_flat E t, List.flatMap_cons]
theorem edF_cons (dark PL s : Nat) (t : List Nat) : edF dark PL (s :: t) =
    Nat.rec (Nat.rec (edF dark PL t) (fun _ _ => Bool.rec (Nat.add s 65, Nat.add s 64) (Nat.add s 64, Nat.add s 65) (evenF (Nat.add (Nat.add (Nat.div s 64) (Nat.mod s 64)) dark)) :: edF dark PL t) (digF PL (Nat.add s 64)))
      (fun _ _ => Bool.rec (Nat.add s 1, Nat.add s 65) (Nat.add s 65, Nat.add s 1) (evenF (Nat.add (Nat.add (Nat.div s 64) (Nat.mod s 64)) dark)) :: (Nat.rec (edF dark PL t) (fun _ _ => Bool.rec (Nat.add s 65, Nat.add s 64) (Nat.add s 64, Nat.add s 65) (evenF (Nat.add (Nat.add (Nat.div s 64) (Nat.mod s 64)) dark)) :: edF dark PL t) (digF PL (Nat.add s 64)))) (digF PL (Nat.add s 1)) := rfl
theorem dk_add1 {u : Nat} (h : u % 64 + 1 < 64) : dk (u + 1) = [((u / 64 : Nat) : Int), ((u % 64 : Nat) : Int) + 1] := by
  have e : u + 1 = u / 64 * 64 + (u % 64 + 1) := by omega
  rw [e, dk_code h]; rfl
theorem dk_add64 {u : Nat} : dk (u + 64) = [((u / 64 : Nat) : Int) + 1, ((u % 64 : Nat) : Int)] := by
  have e : u + 64 = (u / 64 + 1) * 64 + u % 64 := by omega
  rw [e, dk_code (by omega)]; rfl
theorem dk_add65 {u : Nat} (h : u % 64 + 1 < 64) : dk (u + 65) = [((u / 64 : Nat) : Int) + 1, ((u % 64 : Nat) : Int) + 1] := by
  have e : u + 65 = (u / 64 + 1) * 64 + (u % 64 + 1) := by omega
  rw [e, dk_code h]; rfl
theorem ed_at (dark PL : Nat) {s : Nat} (t : List Nat) (h : s % 64 + 1 < 64) : (edF dark PL (s :: t)).map dkE =
    (rightE (dark : Int) ((s / 64 : Nat) : Int) ((s % 64 : Nat) : Int) ((decP (digF PL (s + 1))).getD (-1)) ++ belowE (dark : Int) ((s / 64 : Nat) : Int) ((s % 64 : Nat) : Int) ((decP (digF PL (s + 64))).getD (-1))) ++ (edF dark PL t).map dkE := by
  have hb : ((((s / 64 : Nat) : Int) + ((s % 64 : Nat) : Int) + (dark : Int)).fmod 2 == 0) = evenF (Nat.add (Nat.add (Nat.div s 64) (Nat.mod s 64)) dark) := by
    have := even_nat (s / 64 + s % 64) dark (((s / 64 : Nat) : Int) + ((s % 64 : Nat) : Int)) (by rfl)
    rw [Bool.eq_iff_iff, beq_iff_eq]
    exact this
  rw [edF_cons]
  unfold rightE belowE
  rw [hb]
  generalize evenF (Nat.add (Nat.add (Nat.div s 64) (Nat.mod s 64)) dark) = black
  have h1 : (Nat.rec (edF dark PL t) (fun _ _ => Bool.rec (Nat.add s 65, Nat.add s 64) (Nat.add s 64, Nat.add s 65) black :: edF dark PL t) (digF PL (Nat.add s 64)) : List (Nat × Nat)).map dkE =
      (if 0 ≤ (decP (digF PL (s + 64))).getD (-1) then [if black = true then ([((s / 64 : Nat) : Int) + 1, ((s % 64 : Nat) : Int)], [((s / 64 : Nat) : Int) + 1, ((s % 64 : Nat) : Int) + 1]) else ([((s / 64 : Nat) : Int) + 1, ((s % 64 : Nat) : Int) + 1], [((s / 64 : Nat) : Int) + 1, ((s % 64 : Nat) : Int)])] else []) ++ (edF dark PL t).map dkE := by
    show _ = (if 0 ≤ (decP (digF PL (Nat.add s 64))).getD (-1) then _ else _) ++ _
    cases digF PL (Nat.add s 64) with
    | zero => rw [if_neg (by decide)]; rfl
    | succ n =>
      rw [if_pos (show (0 : Int) ≤ (decP (n + 1)).getD (-1) from Int.natCast_nonneg n)]
      rw [← dk_add64, ← dk_add65 h]
      cases black <;> rfl
  show _ = ((if 0 ≤ (decP (digF PL (Nat.add s 1))).getD (-1) then _ else _) ++ _) ++ _
  rw [List.append_assoc, ← h1]
  generalize (Nat.rec (edF dark PL t) (fun _ _ => Bool.rec (Nat.add s 65, Nat.add s 64) (Nat.add s 64, Nat.add s 65) black :: edF dark PL t) (digF PL (Nat.add s 64)) : List (Nat × Nat)) = rest
  cases digF PL (Nat.add s 1) with
  | zero => rw [if_neg (by decide)]; rfl
  | succ n =>
    rw [if_pos (show (0 : Int) ≤ (decP (n + 1)).getD (-1) from Int.natCast_nonneg n)]
    rw [← dk_add1 h, ← dk_add65 h]
    cases black <;> rfl
theorem edges_eq {rows : Rows} (h : Good rows) (dark : Nat) : edR (castR rows) (dark : Int) = (edF dark (PLo rows) (sqF rows 0)).map dkE := by
  have hs := sq_eq (rows := rows) (fun p hp => (h.2 p hp).2.2)
  have hm : ∀ u ∈ sqF rows 0, u % 64 + 1 < 64 := fun u hu => by have := sqF_mem h.two hu; omega
  unfold edR
  rw [rt_eq h, bl_eq h, hs]
  unfold edgesOf edgesN
  rw [List.length_map]
  generalize sqF rows 0 = sq at hm ⊢
  generalize PLo rows = PL
  have e1 : ((List.range sq.length).flatMap (edgesAt (sq.map dk) (sq.map fun u => (decP (digF PL (u + 1))).getD (-1)) (sq.map fun u => (decP (digF PL (u + 64))).getD (-1)) (dark : Int))) =
      (List.range sq.length).flatMap (fun k => (fun (_ : Nat) (u : Nat) => rightE (dark : Int) ((u / 64 : Nat) : Int) ((u % 64 : Nat) : Int) ((decP (digF PL (u + 1))).getD (-1)) ++ belowE (dark : Int) ((u / 64 : Nat) : Int) ((u % 64 : Nat) : Int) ((decP (digF PL (u + 64))).getD (-1))) (0 + k) (sq.getD k 0)) := by
    rw [List.flatMap_def, List.flatMap_def]
    congr 1
    refine List.map_congr_left fun k hk => ?_
    have hk := List.mem_range.mp hk
    unfold edgesAt
    simp only [List.getD, List.getElem?_map, List.getElem?_eq_getElem hk, Option.map_some, Option.getD_some]
    rfl
  have e2 := flat_rows 0 (fun (_ : Nat) (u : Nat) => rightE (dark : Int) ((u / 64 : Nat) : Int) ((u % 64 : Nat) : Int) ((decP (digF PL (u + 1))).getD (-1)) ++ belowE (dark : Int) ((u / 64 : Nat) : Int) ((u % 64 : Nat) : Int) ((decP (digF PL (u + 64))).getD (-1))) sq 0
  rw [e1]
  refine e2.trans ?_
  rw [recL_flat]
  clear e2
  clear e1 hs
  induction sq with
  | nil => rfl
  | cons s t ih =>
    rw [List.flatMap_cons, ih (fun u hu => hm u (.tail _ hu)), ed_at dark PL t (hm s (.head _))]
noncomputable def decq (q : Nat × Nat × Nat) : List Int := [(q.1 : Int), (q.2.1 : Int), (q.2.2 : Int) - 259, (q.2.2 : Int) - 255]
theorem val_eq {a : Nat} : ((decH a).getD 0 : Int) = (valF a : Int) - 64 := by
  cases a with
  | zero => rfl
  | succ n => show (n : Int) + 1 - 64 = ((n + 1 : Nat) : Int) - 64; omega
theorem valF_le {a : Nat} (h : a < 256) : valF a < 256 := by
  cases a with
  | zero => decide
  | succ n => exact h
theorem ask_eq {hs : TD} {P : Nat} (h : ∀ u, hs.lookup (dk u) = decH (digF P u)) (e : Nat × Nat) : askOf hs (dkE e) = decq (edgeF P e.1 e.2) := by
  obtain ⟨u, v⟩ := e
  have hn : ∀ w, idOf hs (dk w) = (nodeF (digF P w) w : Int) := fun w => by
    unfold idOf
    rw [h]
    cases digF P w with
    | zero =>
      rw [show decH 0 = none from rfl]
      show ((w / 64 : Nat) : Int) * 64 + ((w % 64 : Nat) : Int) + 32 = ((w + 32 : Nat) : Int)
      omega
    | succ n => rfl
  have hr : riseOf hs (dkE (u, v)) = ((valF (digF P u) + 256 - valF (digF P v) : Nat) : Int) - 256 := by
    unfold riseOf dkE
    dsimp only
    rw [h, h, val_eq, val_eq]
    have := valF_le (digF_lt P v)
    omega
  unfold askOf
  rw [hr]
  show [idOf hs (dk u), idOf hs (dk v), _, _] = _
  rw [hn, hn]
  show [_, _, _, _] = [_, _, ((Nat.sub (Nat.add (valF (digF P u)) 256) (valF (digF P v)) : Nat) : Int) - 259, ((Nat.sub (Nat.add (valF (digF P u)) 256) (valF (digF P v)) : Nat) : Int) - 255]
  have e1 : Nat.sub (Nat.add (valF (digF P u)) 256) (valF (digF P v)) = valF (digF P u) + 256 - valF (digF P v) := rfl
  rw [e1]
  congr 3
  · omega
  · congr 1; omega
theorem aqF_eq (P : Nat) (ed : List (Nat × Nat)) : aqF P ed = ed.map fun e => edgeF P e.1 e.2 := by
  induction ed with
  | nil => rfl
  | cons e t ih => rw [List.map_cons, ← ih]; rfl
theorem asked_eq {rows : Rows} (h : Good rows) (hb : (borderF rows).length ≤ 60) (dark : Nat) : aqR (castR rows) (dark : Int) = (aqF (hhF rows dark).1 (edF dark (PLo rows) (sqF rows 0))).map decq ++ [[0, 0, ((hhF rows dark).2 : Int) - 64, ((hhF rows dark).2 : Int) - 64]] := by
  obtain ⟨hI, hh⟩ := heights_ok h hb dark
  unfold aqR askedOf
  rw [hh, edges_eq h, aqF_eq, List.map_map, List.map_map]
  congr 1
  exact List.map_congr_left fun e _ => ask_eq hI.look e
end Mine
end
section
open PySem PySem.W PySem.Calls PyProof.Rows
set_option Elab.async false
set_option maxRecDepth 100000
set_option linter.unusedVariables false
namespace Mine
theorem ilt_eq (a b : Int) : iltF a b = decide (a < b) := by
  cases a with
  | ofNat m =>
    cases b with
    | ofNat n =>
      show Nat.blt m n = _
      rw [Bool.eq_iff_iff, decide_eq_true_iff, Nat.blt_eq]
      exact (Int.ofNat_lt).symm
    | negSucc n =>
      show false = _
      symm; apply decide_eq_false
      show ¬ ((m : Nat) : Int) < Int.negSucc n
      omega
  | negSucc m =>
    cases b with
    | ofNat n =>
      show true = _
      symm; apply decide_eq_true
      show Int.negSucc m < ((n : Nat) : Int)
      omega
    | negSucc n =>
      show Nat.blt n m = _
      rw [Bool.eq_iff_iff, decide_eq_true_iff, Nat.blt_eq]
      omega
theorem ieq_eq (a b : Int) : ieqF a b = decide (a = b) := by
  cases a with
  | ofNat m =>
    cases b with
    | ofNat n =>
      show Nat.beq m n = _
      rw [Bool.eq_iff_iff, decide_eq_true_iff, Nat.beq_eq]
      exact ⟨fun h => by rw [h], fun h => by injection h⟩
    | negSucc n => show false = _; symm; exact decide_eq_false (by intro h; cases h)
  | negSucc m =>
    cases b with
    | ofNat n => show false = _; symm; exact decide_eq_false (by intro h; cases h)
    | negSucc n =>
      show Nat.beq n m = _
      rw [Bool.eq_iff_iff, decide_eq_true_iff, Nat.beq_eq]
      exact ⟨fun h => by rw [h], fun h => by injection h with h; exact h.symm⟩
section
variable {V : Type}
theorem lookF_cons (p : Nat × V) (t : List (Nat × V)) (k : Nat) : lookF (p :: t) k = if p.1 = k then some p.2 else lookF t k := by
  have e : lookF (p :: t) k = Bool.rec (lookF t k) (some p.2) (Nat.beq p.1 k) := rfl
  rw [e]
  by_cases h : p.1 = k
  · rw [if_pos h, h, Nat.beq_refl]
  · rw [if_neg h]
    cases hb : Nat.beq p.1 k with
    | false => rfl
    | true => exact absurd (Nat.eq_of_beq_eq_true hb) h
theorem putF_cons (p : Nat × V) (t : List (Nat × V)) (k : Nat) (v : V) : putF (p :: t) k v = if p.1 = k then (k, v) :: t else p :: putF t k v := by
  have e : putF (p :: t) k v = Bool.rec (p :: putF t k v) ((k, v) :: t) (Nat.beq p.1 k) := rfl
  rw [e]
  by_cases h : p.1 = k
  · rw [if_pos h, h, Nat.beq_refl]
  · rw [if_neg h]
    cases hb : Nat.beq p.1 k with
    | false => rfl
    | true => exact absurd (Nat.eq_of_beq_eq_true hb) h
theorem setdF_cons (p : Nat × V) (t : List (Nat × V)) (k : Nat) (v : V) : setdF (p :: t) k v = if p.1 = k then p :: t else p :: setdF t k v := by
  have e : setdF (p :: t) k v = Bool.rec (p :: setdF t k v) (p :: t) (Nat.beq p.1 k) := rfl
  rw [e]
  by_cases h : p.1 = k
  · rw [if_pos h, h, Nat.beq_refl]
  · rw [if_neg h]
    cases hb : Nat.beq p.1 k with
    | false => rfl
    | true => exact absurd (Nat.eq_of_beq_eq_true hb) h
theorem lookF_putF (l : List (Nat × V)) (k k' : Nat) (v : V) : lookF (putF l k v) k' = if k' = k then some v else lookF l k' := by
  induction l with
  | nil =>
    show lookF [(k, v)] k' = _
    rw [lookF_cons]
    by_cases h : k = k'
    · rw [if_pos h, if_pos h.symm]
    · rw [if_neg h, if_neg (fun e => h e.symm)]
  | cons p t ih =>
    rw [putF_cons]
    by_cases h : p.1 = k
    · rw [if_pos h, lookF_cons, lookF_cons]
      dsimp only
      by_cases h' : k = k'
      · rw [if_pos h', if_pos h'.symm]
      · rw [if_neg h', if_neg (fun e => h' e.symm), if_neg (by rw [h]; exact h')]
    · rw [if_neg h, lookF_cons, lookF_cons, ih]
      by_cases h' : p.1 = k'
      · rw [if_pos h', if_pos h', if_neg (fun e => h (h'.trans e))]
      · rw [if_neg h', if_neg h']
theorem lookF_setdF (l : List (Nat × V)) (k k' : Nat) (v : V) : lookF (setdF l k v) k' = if k' = k then some ((lookF l k).getD v) else lookF l k' := by
  induction l with
  | nil =>
    show lookF [(k, v)] k' = _
    rw [lookF_cons]
    by_cases h : k = k'
    · rw [if_pos h, if_pos h.symm]; rfl
    · rw [if_neg h, if_neg (fun e => h e.symm)]
  | cons p t ih =>
    rw [setdF_cons]
    by_cases h : p.1 = k
    · rw [if_pos h, lookF_cons, lookF_cons, if_pos h]
      by_cases h' : p.1 = k'
      · rw [if_pos h', if_pos (h'.symm.trans h)]; rfl
      · rw [if_neg h', if_neg (fun e => h' (h.trans e.symm))]
    · rw [if_neg h, lookF_cons, lookF_cons, lookF_cons, ih, if_neg h]
      by_cases h' : p.1 = k'
      · rw [if_pos h', if_pos h', if_neg (fun e => h (h'.trans e))]
      · rw [if_neg h', if_neg h']
theorem putF_keys (l : List (Nat × V)) (k : Nat) (v : V) (x : Nat) : x ∈ (putF l k v).map (·.1) ↔ x = k ∨ x ∈ l.map (·.1) := by
  induction l with
  | nil => show x ∈ [k] ↔ _; simp
  | cons p t ih =>
    rw [putF_cons]
    split
    · rename_i h
      simp only [List.map_cons, List.mem_cons, h]
      constructor
      · rintro (q | q)
        · exact .inl q
        · exact .inr (.inr q)
      · rintro (q | q | q)
        · exact .inl q
        · exact .inl q
        · exact .inr q
    · simp only [List.map_cons, List.mem_cons, ih]
      constructor
      · rintro (q | q | q)
        · exact .inr (.inl q)
        · exact .inl q
        · exact .inr (.inr q)
      · rintro (q | q | q)
        · exact .inr (.inl q)
        · exact .inl q
        · exact .inr (.inr q)
theorem putF_nodup {l : List (Nat × V)} {k : Nat} {v : V} (h : (l.map (·.1)).Nodup) : ((putF l k v).map (·.1)).Nodup := by
  induction l with
  | nil => show [k].Nodup; simp
  | cons p t ih =>
    rw [List.map_cons, List.nodup_cons] at h
    rw [putF_cons]
    split
    · rename_i e
      rw [List.map_cons, List.nodup_cons]
      exact ⟨e ▸ h.1, h.2⟩
    · rename_i e
      rw [List.map_cons, List.nodup_cons]
      refine ⟨fun hm => ?_, ih h.2⟩
      rcases (putF_keys t k v p.1).mp hm with q | q
      · exact e q
      · exact h.1 q
theorem setdF_keys (l : List (Nat × V)) (k : Nat) (v : V) (x : Nat) : x ∈ (setdF l k v).map (·.1) ↔ x = k ∨ x ∈ l.map (·.1) := by
  induction l with
  | nil => show x ∈ [k] ↔ _; simp
  | cons p t ih =>
    rw [setdF_cons]
    split
    · rename_i h
      simp only [List.map_cons, List.mem_cons]
      constructor
      · rintro (q | q)
        · exact .inr (.inl q)
        · exact .inr (.inr q)
      · rintro (q | q | q)
        · exact .inl (q.trans h.symm)
        · exact .inl q
        · exact .inr q
    · simp only [List.map_cons, List.mem_cons, ih]
      constructor
      · rintro (q | q | q)
        · exact .inr (.inl q)
        · exact .inl q
        · exact .inr (.inr q)
      · rintro (q | q | q)
        · exact .inr (.inl q)
        · exact .inl q
        · exact .inr (.inr q)
theorem setdF_nodup {l : List (Nat × V)} {k : Nat} {v : V} (h : (l.map (·.1)).Nodup) : ((setdF l k v).map (·.1)).Nodup := by
  induction l with
  | nil => show [k].Nodup; simp
  | cons p t ih =>
    have h' := h
    rw [List.map_cons, List.nodup_cons] at h
    rw [setdF_cons]
    split
    · exact h'
    · rename_i e
      rw [List.map_cons, List.nodup_cons]
      refine ⟨fun hm => ?_, ih h.2⟩
      rcases (setdF_keys t k v p.1).mp hm with q | q
      · exact e q
      · exact h.1 q
end
/-- what an untold, or a told, distance stands for -/
noncomputable def gam (far : Int) : Option Int → Int
  | none => 0
  | some h => h - far
noncomputable def DD (far : Int) (D : DF) : DL := D.map fun p => ((p.1 : Int), gam far p.2)
theorem DD_look (far : Int) (D : DF) (k : Nat) : (DD far D).lookup (k : Int) = (lookF D k).map (gam far) := by
  induction D with
  | nil => rfl
  | cons p t ih =>
    show List.lookup (k : Int) (((p.1 : Int), gam far p.2) :: DD far t) = _
    rw [List.lookup_cons, lookF_cons]
    by_cases h : p.1 = k
    · rw [if_pos h, h]; simp
    · rw [if_neg h]
      have e : ((k : Int) == (p.1 : Int)) = false := by
        rw [beq_eq_false_iff_ne]
        omega
      rw [e]; exact ih
theorem dF_eq (D : DF) (k : Nat) : dF D k = (lookF D k).getD none := by
  unfold dF
  cases lookF D k <;> rfl
theorem lk_DD (far : Int) (D : DF) (k : Nat) : lk (DD far D) (k : Int) = gam far (dF D k) := by
  unfold lk
  rw [DD_look, dF_eq]
  cases lookF D k <;> rfl
theorem DD_isSome (far : Int) (D : DF) (k : Nat) : ((DD far D).lookup (k : Int)).isSome = (lookF D k).isSome := by rw [DD_look, Option.isSome_map]
theorem look_none_F {V : Type} {l : List (Nat × V)} {k : Nat} : lookF l k = none ↔ k ∉ l.map (·.1) := by
  induction l with
  | nil => simp [lookF]
  | cons p t ih =>
    rw [lookF_cons, List.map_cons, List.mem_cons, not_or]
    by_cases h : p.1 = k
    · rw [if_pos h]
      constructor
      · intro q; cases q
      · intro q; exact absurd h.symm q.1
    · rw [if_neg h, ih]
      exact ⟨fun q => ⟨fun e => h e.symm, q⟩, fun q => q.2⟩
theorem DD_putF (far : Int) {D : DF} (nd : (D.map (·.1)).Nodup) (k : Nat) (v : Option Int) : kput (DD far D) (k : Int) (gam far v) = DD far (putF D k v) := by
  unfold kput
  rw [DD_isSome]
  induction D with
  | nil => rfl
  | cons p t ih =>
    rw [List.map_cons, List.nodup_cons] at nd
    rw [lookF_cons, putF_cons]
    by_cases h : p.1 = k
    · rw [if_pos h, if_pos h, Option.isSome_some, if_pos rfl]
      show List.map _ (((p.1 : Int), gam far p.2) :: DD far t) = ((k : Int), gam far v) :: DD far t
      rw [List.map_cons, h]
      simp only [beq_self_eq_true, if_true]
      congr 1
      have : ∀ q ∈ DD far t, (if (q.1 == (k : Int)) = true then (q.1, gam far v) else q) = q := by
        intro q hq
        obtain ⟨x, hx, rfl⟩ := List.mem_map.mp hq
        have hne : x.1 ≠ k := fun e => nd.1 (by rw [h, ← e]; exact List.mem_map_of_mem hx)
        rw [if_neg]
        simp only [beq_iff_eq]
        omega
      rw [List.map_congr_left this, List.map_id']
    · rw [if_neg h, if_neg h]
      have ih := ih nd.2
      show (if (lookF t k).isSome = true then List.map _ (((p.1 : Int), gam far p.2) :: DD far t) else ((p.1 : Int), gam far p.2) :: DD far t ++ _) = ((p.1 : Int), gam far p.2) :: DD far (putF t k v)
      rw [← ih]
      have e : (((p.1 : Int)) == (k : Int)) = false := by
        rw [beq_eq_false_iff_ne]; omega
      split
      · rw [List.map_cons, e]; rfl
      · rfl
theorem DD_setdF (far : Int) (D : DF) (k : Nat) : ksetd (DD far D) (k : Int) 0 = DD far (setdF D k none) := by
  unfold ksetd
  rw [DD_isSome]
  induction D with
  | nil => rfl
  | cons p t ih =>
    rw [lookF_cons, setdF_cons]
    by_cases h : p.1 = k
    · rw [if_pos h, if_pos h]; rfl
    · rw [if_neg h, if_neg h]
      show (if (lookF t k).isSome = true then ((p.1 : Int), gam far p.2) :: DD far t else ((p.1 : Int), gam far p.2) :: DD far t ++ _) = ((p.1 : Int), gam far p.2) :: DD far (setdF t k none)
      rw [← ih]
      split <;> rfl
end Mine
end
section
open PySem PySem.W PySem.Calls PyProof.Rows
set_option Elab.async false
set_option maxRecDepth 100000
set_option linter.unusedVariables false
namespace Mine
noncomputable def castB (p : Nat × Int) : Int × Int := ((p.1 : Int), p.2)
noncomputable abbrev castN (l : List Nat) : List Int := l.map fun x : Nat => (x : Int)
theorem less_ok {far s : Int} (hf : 64 ≤ far) {o : Option Int} {t : Bool} (h : lessF s o = some t) : (s - far < gam far o) ↔ t = true := by
  cases o with
  | none =>
    have e : lessF s none = Bool.rec none (some true) (iltF s 64) := rfl
    rw [e, ilt_eq] at h
    by_cases hs : s < 64
    · rw [decide_eq_true hs] at h
      cases h
      show s - far < 0 ↔ _
      simp; omega
    · rw [decide_eq_false hs] at h; cases h
  | some hd =>
    have e : lessF s (some hd) = some (iltF s hd) := rfl
    rw [e, ilt_eq] at h
    cases h
    show s - far < hd - far ↔ _
    rw [decide_eq_true_iff]; omega
theorem relaxF_cons (y : Nat) (b : Int) (c : Nat) (p : Nat × Int) (t : List (Nat × Int)) (D : DF) (q : List Nat) : relaxF y b c (p :: t) D q = Option.rec none (fun hc =>
    (fun s => Option.rec none (fun tt => Bool.rec (relaxF y b c t D q) (Bool.rec (relaxF y b c t (putF D p.1 (some s)) (q ++ [p.1])) (some (D, none)) (and (Nat.beq p.1 y) (ieqF p.2 b))) tt) (lessF s (dF D p.1))) (Int.add hc p.2)) (dF D c) := rfl
theorem relax_sim {far : Int} (hf : 64 ≤ far) {y : Nat} {b : Int} {c : Nat} : ∀ (l : List (Int × Int)) (lF : List (Nat × Int)), l.filter (fun p => decide (p.1 ≠ (c : Int))) = lF.map castB → (∀ p ∈ l, p.1 = (c : Int) → 0 ≤ p.2) →
    ∀ (D : DF) (q : List Nat) (r : DF × Option (List Nat)), (D.map (·.1)).Nodup → relaxF y b c lF D q = some r →
      relax (y : Int) b (c : Int) l (DD far D) (castN q) = (DD far r.1, r.2.map castN) ∧ (r.1.map (·.1)).Nodup ∧ ((∀ p ∈ lF, p.1 ≠ 1) → (∀ x ∈ q, x ≠ 1) → ∀ l', r.2 = some l' → ∀ x ∈ l', x ≠ 1)
  | [], lF, hl, hs, D, q, r, nd, h => by
    have : lF = [] := by simpa using hl.symm
    subst this
    cases h
    exact ⟨rfl, nd, fun _ hq l' e => by cases e; exact hq⟩
  | p :: l, lF, hl, hs, D, q, r, nd, h => by
    obtain ⟨d, w⟩ := p
    by_cases hpc : d = (c : Int)
    · rw [List.filter_cons, if_neg (by simp [hpc])] at hl
      have hw := hs (d, w) (.head _) hpc
      have ih := relax_sim hf l lF hl (fun p hp => hs p (.tail _ hp)) D q r nd h
      have e : relax (y : Int) b (c : Int) ((d, w) :: l) (DD far D) (castN q) = relax (y : Int) b (c : Int) l (DD far D) (castN q) := by
        rw [relax, if_neg]
        rw [hpc]; dsimp only at hw; omega
      rw [e]; exact ih
    · rw [List.filter_cons, if_pos (by simp [hpc])] at hl
      cases lF with
      | nil => cases hl
      | cons pf lF =>
        rw [List.map_cons] at hl
        injection hl with h1 h2
        obtain ⟨df, wf⟩ := pf
        unfold castB at h1
        injection h1 with e1 e2
        dsimp only at e1 e2
        subst e1 e2
        rw [relaxF_cons] at h
        cases hc : dF D c with
        | none => rw [hc] at h; cases h
        | some hcv =>
          rw [hc] at h
          dsimp only at h
          cases hls : lessF (Int.add hcv w) (dF D df) with
          | none => rw [hls] at h; cases h
          | some tt =>
            rw [hls] at h
            dsimp only at h
            have hcmp := less_ok hf hls
            have hlk : lk (DD far D) (c : Int) + w = Int.add hcv w - far := by
              rw [lk_DD, hc]
              show hcv - far + w = hcv + w - far
              omega
            have hcond : (lk (DD far D) (c : Int) + w < lk (DD far D) (df : Int)) ↔ tt = true := by rw [hlk, lk_DD]; exact hcmp
            cases tt with
            | false =>
              have ih := relax_sim hf l lF h2 (fun p hp => hs p (.tail _ hp)) D q r nd h
              rw [relax, if_neg (fun q => by cases hcond.mp q)]
              exact ⟨ih.1, ih.2.1, fun a => ih.2.2 fun p hp => a p (.tail _ hp)⟩
            | true =>
              rw [relax, if_pos (hcond.mpr rfl)]
              by_cases hyw : df = y ∧ w = b
              · rw [if_pos ⟨by rw [hyw.1], hyw.2⟩]
                have e3 : and (Nat.beq df y) (ieqF w b) = true := by
                  rw [ieq_eq, hyw.1, hyw.2, Nat.beq_refl]; simp
                rw [e3] at h
                cases h
                exact ⟨rfl, nd, fun _ _ l' e => by cases e⟩
              · rw [if_neg (fun q => hyw ⟨by omega, q.2⟩)]
                have e3 : and (Nat.beq df y) (ieqF w b) = false := by
                  rw [ieq_eq]
                  by_cases hdy : df = y
                  · have : ¬ w = b := fun e => hyw ⟨hdy, e⟩
                    rw [decide_eq_false this]; simp
                  · cases hb : Nat.beq df y with
                    | false => rfl
                    | true => exact absurd (Nat.eq_of_beq_eq_true hb) hdy
                rw [e3] at h
                have ih := relax_sim hf l lF h2 (fun p hp => hs p (.tail _ hp)) (putF D df (some (Int.add hcv w))) (q ++ [df]) r (putF_nodup nd) h
                have e4 : kput (DD far D) (df : Int) (lk (DD far D) (c : Int) + w) = DD far (putF D df (some (Int.add hcv w))) := by
                  rw [hlk]; exact DD_putF far nd df (some (Int.add hcv w))
                have e5 : castN q ++ [(df : Int)] = castN (q ++ [df]) := by simp [castN]
                rw [e4, e5]
                refine ⟨ih.1, ih.2.1, fun a hq => ih.2.2 (fun p hp => a p (.tail _ hp)) fun x hx => ?_⟩
                rcases List.mem_append.mp hx with hx | hx
                · exact hq x hx
                · rw [List.mem_singleton.mp hx]; exact a (df, w) (.head _)
noncomputable def ChR (C : CL) (F : CF) (k : Nat) : Prop := (ch C (k : Int)).filter (fun p => decide (p.1 ≠ (k : Int))) = (chF F k).map castB ∧ ∀ p ∈ ch C (k : Int), p.1 = (k : Int) → 0 ≤ p.2
theorem incF_cons (C : CF) (y : Nat) (b : Int) (f : Nat) (D : DF) (c : Nat) (q : List Nat) : incF C y b (f + 1) D (c :: q) = Option.rec none (fun r => Option.rec (some (r.1, false)) (fun q' => incF C y b f r.1 q') r.2) (relaxF y b c (chF C c) D q) := rfl
theorem inc_sim {far : Int} (hf : 64 ≤ far) {C : CL} {F : CF} {y : Nat} {b : Int} (hC : ∀ k : Nat, k ≠ 1 → ChR C F k) (h1 : ∀ k, ∀ p ∈ chF F k, p.1 ≠ 1) :
    ∀ (f : Nat) (D : DF) (q : List Nat) (r : DF × Bool), (D.map (·.1)).Nodup → (∀ x ∈ q, x ≠ 1) → incF F y b f D q = some r → inc C (y : Int) b f (DD far D) (castN q) = some (DD far r.1, r.2) ∧ (r.1.map (·.1)).Nodup
  | f, D, [], r, nd, hq, h => by
    have e : incF F y b f D [] = some (D, true) := by cases f <;> rfl
    rw [e] at h
    cases h
    have e2 : inc C (y : Int) b f (DD far D) (castN []) = some (DD far D, true) := by cases f <;> rfl
    exact ⟨e2, nd⟩
  | 0, D, c :: q, r, nd, hq, h => by cases h
  | f + 1, D, c :: q, r, nd, hq, h => by
    rw [incF_cons] at h
    have hc1 := hq c (.head _)
    obtain ⟨hl, hs⟩ := hC c hc1
    cases hr : relaxF y b c (chF F c) D q with
    | none => rw [hr] at h; cases h
    | some r1 =>
      rw [hr] at h
      dsimp only at h
      obtain ⟨e1, nd1, hq1⟩ := relax_sim hf (ch C (c : Int)) (chF F c) hl hs D q r1 nd hr
      have e2 : inc C (y : Int) b (f + 1) (DD far D) (castN (c :: q)) = match relax (y : Int) b (c : Int) (ch C (c : Int)) (DD far D) (castN q) with
        | (D', none) => some (D', false)
        | (D', some q') => inc C (y : Int) b f D' q' := rfl
      rw [e2, e1]
      cases hr2 : r1.2 with
      | none =>
        rw [hr2] at h
        cases h
        exact ⟨rfl, nd1⟩
      | some q' =>
        rw [hr2] at h
        exact inc_sim hf hC h1 f r1.1 q' r nd1 (hq1 (h1 c) (fun x hx => hq x (.tail _ hx)) q' hr2) h
end Mine
end
section
open PySem PySem.W PySem.Calls PyProof.Rows
set_option Elab.async false
set_option maxRecDepth 100000
set_option linter.unusedVariables false
namespace Mine
theorem ksetd_lookup {V : Type} (es : List (Int × V)) (k k' : Int) (v : V) : (ksetd es k v).lookup k' = if k' = k then some ((es.lookup k).getD v) else es.lookup k' := by
  unfold ksetd
  cases h : es.lookup k with
  | some a =>
    rw [Option.isSome_some, if_pos rfl]
    by_cases hk : k' = k
    · rw [if_pos hk, hk, h]; rfl
    · rw [if_neg hk]
  | none =>
    have : kput es k v = es ++ [(k, v)] := by unfold kput; rw [h]; rfl
    rw [Option.isSome_none, if_neg (by decide), ← this, kput_lookup]
    rfl
theorem ch_ksetd (C : CL) (y k : Int) : ch (ksetd C y []) k = ch C k := by
  unfold ch
  rw [ksetd_lookup]
  by_cases h : k = y
  · rw [if_pos h, h]; cases C.lookup y <;> rfl
  · rw [if_neg h]
theorem ch_kput (C : CL) (x k : Int) (l : List (Int × Int)) : ch (kput C x l) k = if k = x then l else ch C k := by
  unfold ch
  rw [kput_lookup]
  by_cases h : k = x
  · rw [if_pos h, if_pos h]; rfl
  · rw [if_neg h, if_neg h]
theorem chF_eq (C : CF) (k : Nat) : chF C k = (lookF C k).getD [] := by
  unfold chF
  cases lookF C k <;> rfl
theorem chF_setdF (C : CF) (y k : Nat) : chF (setdF C y []) k = chF C k := by
  rw [chF_eq, chF_eq, lookF_setdF]
  by_cases h : k = y
  · rw [if_pos h, h]; cases lookF C y <;> rfl
  · rw [if_neg h]
theorem chF_putF (C : CF) (x k : Nat) (l : List (Nat × Int)) : chF (putF C x l) k = if k = x then l else chF C k := by
  rw [chF_eq, chF_eq, lookF_putF]
  by_cases h : k = x
  · rw [if_pos h, if_pos h]; rfl
  · rw [if_neg h, if_neg h]
structure RS' (far : Int) (S : PS) (F : SF) : Prop where
  dist : S.dist = DD far F.d
  nd : (F.d.map (·.1)).Nodup
  chains : ∀ k : Nat, k ≠ 1 → ChR S.cs F.c k
  one : ∀ k, ∀ p ∈ chF F.c k, p.1 ≠ 1
  d0 : (lookF F.d 0).isSome = true
  c0 : (S.cs.lookup 0).isSome = true
structure RS (far : Int) (S : PS) (F : SF) : Prop where
  sat : S.sat = F.sat
  rest : F.sat = true → RS' far S F
theorem sub_cons (p : Nat × Int) (l : List (Nat × Int)) (y : Nat) (b : Int) : subF (p :: l) y b = if p.1 = y then decide (p.2 ≤ b) else subF l y b := by
  have e : subF (p :: l) y b = Bool.rec (subF l y b) (Bool.not (iltF b p.2)) (Nat.beq p.1 y) := rfl
  rw [e, ilt_eq]
  by_cases h : p.1 = y
  · rw [if_pos h, h, Nat.beq_refl]
    by_cases h2 : p.2 ≤ b
    · rw [decide_eq_true h2, decide_eq_false (by omega)]; rfl
    · rw [decide_eq_false h2, decide_eq_true (by omega)]; rfl
  · rw [if_neg h]
    cases hb : Nat.beq p.1 y with
    | false => rfl
    | true => exact absurd (Nat.eq_of_beq_eq_true hb) h
theorem sub_eq {x y : Nat} (hxy : x ≠ y) (b : Int) : ∀ (l : List (Int × Int)) (lF : List (Nat × Int)), l.filter (fun p => decide (p.1 ≠ (x : Int))) = lF.map castB →
    (match l.find? (fun p => p.1 == (y : Int)) with | some p => decide (p.2 ≤ b) | none => false) = subF lF y b
  | [], lF, h => by
    have : lF = [] := by simpa using h.symm
    subst this; rfl
  | p :: l, lF, h => by
    by_cases hp : p.1 = (x : Int)
    · rw [List.filter_cons, if_neg (by simp [hp])] at h
      have hne : (p.1 == (y : Int)) = false := by rw [beq_eq_false_iff_ne, hp]; omega
      rw [List.find?_cons, hne]
      exact sub_eq hxy b l lF h
    · rw [List.filter_cons, if_pos (by simp [hp])] at h
      cases lF with
      | nil => cases h
      | cons q lF =>
        rw [List.map_cons] at h
        injection h with h1 h2
        subst h1
        rw [sub_cons, List.find?_cons]
        by_cases hq : q.1 = y
        · have : ((castB q).1 == (y : Int)) = true := by rw [beq_iff_eq]; show ((q.1 : Nat) : Int) = _; omega
          rw [this, if_pos hq]; rfl
        · have : ((castB q).1 == (y : Int)) = false := by rw [beq_eq_false_iff_ne]; show ((q.1 : Nat) : Int) ≠ _; omega
          rw [this, if_neg hq]
          exact sub_eq hxy b l lF h2
theorem addF_true (f : Nat) (S : SF) (x y : Nat) (b : Int) (h : S.sat = true) : addF f S x y b = Bool.rec
    (Option.rec none (fun o => Option.rec (some ⟨setdF (setdF S.d x none) y none, putF (setdF S.c y []) x ((y, b) :: chF S.c x), true⟩) (fun s => Option.rec none (fun r => some ⟨r.1, putF (setdF S.c y []) x ((y, b) :: chF S.c x), r.2⟩) (incF (putF (setdF S.c y []) x ((y, b) :: chF S.c x)) y b f (putF (setdF (setdF S.d x none) y none) y (some s)) [y])) o) (startF (setdF (setdF S.d x none) y none) x y b))
    (some ⟨setdF (setdF S.d x none) y none, setdF S.c y [], true⟩) (subF (chF (setdF S.c y []) x) y b) := by
  unfold addF
  rw [h]
theorem start_ok' {far : Int} (hf : 64 ≤ far) {D : DF} {x y : Nat} {b : Int} {o : Option Int} (h : startF D x y b = some o) :
    match o with | none => ¬ (lk (DD far D) (x : Int) + b < lk (DD far D) (y : Int)) | some s => lk (DD far D) (x : Int) + b < lk (DD far D) (y : Int) ∧ lk (DD far D) (x : Int) + b = gam far (some s) := by
  rw [lk_DD, lk_DD]
  unfold startF at h
  cases hx : dF D x with
  | none =>
    rw [hx] at h
    cases hy : dF D y with
    | none =>
      rw [hy] at h
      dsimp only at h
      rw [ilt_eq] at h
      by_cases hb : b < 0
      · rw [decide_eq_true hb] at h; cases h
      · rw [decide_eq_false hb] at h; cases h
        show ¬ ((0 : Int) + b < 0); omega
    | some hy' =>
      rw [hy] at h
      dsimp only at h
      rw [ilt_eq] at h
      by_cases hb : b < Int.sub hy' 64
      · rw [decide_eq_true hb] at h; cases h
      · rw [decide_eq_false hb] at h; cases h
        have hb' : ¬ b < hy' - 64 := hb
        show ¬ ((0 : Int) + b < hy' - far); omega
  | some hx' =>
    rw [hx] at h
    dsimp only at h
    cases hls : lessF (Int.add hx' b) (dF D y) with
    | none => rw [hls] at h; cases h
    | some t =>
      rw [hls] at h
      have hcmp := less_ok hf hls
      have e : gam far (some hx') + b = Int.add hx' b - far := by show hx' - far + b = hx' + b - far; omega
      cases t with
      | false =>
        cases h
        show ¬ (gam far (some hx') + b < _)
        rw [e]; exact fun q => by cases hcmp.mp q
      | true =>
        cases h
        show gam far (some hx') + b < _ ∧ gam far (some hx') + b = _
        rw [e]; exact ⟨hcmp.mpr rfl, rfl⟩
theorem relax_keys {y : Nat} {b : Int} {c : Nat} : ∀ (lF : List (Nat × Int)) (D : DF) (q : List Nat) (r : DF × Option (List Nat)), relaxF y b c lF D q = some r → ∀ z, z ∈ D.map (·.1) → z ∈ r.1.map (·.1)
  | [], D, q, r, h, z, hz => by cases h; exact hz
  | p :: t, D, q, r, h, z, hz => by
    rw [relaxF_cons] at h
    cases hc : dF D c with
    | none => rw [hc] at h; cases h
    | some hcv =>
      rw [hc] at h
      dsimp only at h
      cases hls : lessF (Int.add hcv p.2) (dF D p.1) with
      | none => rw [hls] at h; cases h
      | some tt =>
        rw [hls] at h
        cases tt with
        | false => exact relax_keys t D q r h z hz
        | true =>
          dsimp only at h
          cases he : and (Nat.beq p.1 y) (ieqF p.2 b) with
          | true => rw [he] at h; cases h; exact hz
          | false => rw [he] at h; exact relax_keys t _ _ r h z ((putF_keys _ _ _ _).mpr (.inr hz))
theorem inc_keys {F : CF} {y : Nat} {b : Int} : ∀ (f : Nat) (D : DF) (q : List Nat) (r : DF × Bool), incF F y b f D q = some r → ∀ z, z ∈ D.map (·.1) → z ∈ r.1.map (·.1)
  | f, D, [], r, h, z, hz => by
    have e : incF F y b f D [] = some (D, true) := by cases f <;> rfl
    rw [e] at h
    cases h; exact hz
  | 0, D, c :: q, r, h, z, hz => by cases h
  | f + 1, D, c :: q, r, h, z, hz => by
    rw [incF_cons] at h
    cases hr : relaxF y b c (chF F c) D q with
    | none => rw [hr] at h; cases h
    | some r1 =>
      rw [hr] at h
      dsimp only at h
      have h1 := relax_keys _ _ _ _ hr z hz
      cases hr2 : r1.2 with
      | none => rw [hr2] at h; cases h; exact h1
      | some q' => rw [hr2] at h; exact inc_keys f r1.1 q' r h z h1
theorem add_sim {far : Int} (hf : 64 ≤ far) {S : PS} {F F' : SF} {x y : Nat} {b : Int} {f : Nat} (R : RS far S F) (hxy : x ≠ y) (hx : x ≠ 1) (hy : y ≠ 1) (h : addF f F x y b = some F') :
    ∃ S', S.add f x y b = some S' ∧ RS far S' F' := by
  obtain ⟨hsat, hrest⟩ := R
  cases hs : F.sat with
  | false =>
    have e : addF f F x y b = some F := by unfold addF; rw [hs]
    rw [e] at h
    cases h
    refine ⟨S, ?_, hsat, hrest⟩
    unfold PS.add
    rw [hsat, hs]; rfl
  | true =>
    obtain ⟨hd, hnd, hch, hone, h0, hc0⟩ := hrest hs
    rw [addF_true f F x y b hs] at h
    have hD : ksetd (ksetd S.dist (x : Int) 0) (y : Int) 0 = DD far (setdF (setdF F.d x none) y none) := by rw [hd, DD_setdF, DD_setdF]
    have hnd' : ((setdF (setdF F.d x none) y none).map (·.1)).Nodup := setdF_nodup (setdF_nodup hnd)
    have h0' : ∀ D : DF, (∀ z, z ∈ (setdF (setdF F.d x none) y none).map (·.1) → z ∈ D.map (·.1)) → (lookF D 0).isSome = true := fun D hz => by
      cases hq : lookF D 0 with
      | some a => rfl
      | none =>
        have := look_none_F.mp hq
        refine absurd (hz 0 ((setdF_keys _ _ _ _).mpr (.inr ((setdF_keys _ _ _ _).mpr (.inr ?_))))) this
        cases hm : lookF F.d 0 with
        | none => rw [hm] at h0; cases h0
        | some a =>
          by_cases q : 0 ∈ F.d.map (·.1)
          · exact q
          · rw [look_none_F.mpr q] at hm; cases hm
    have hsub : subsumed (ksetd S.cs (y : Int) []) (x : Int) (y : Int) b = subF (chF (setdF F.c y []) x) y b := by
      unfold subsumed
      rw [ch_ksetd, chF_setdF]
      exact sub_eq hxy b _ _ (hch x hx).1
    have hadd : S.add f (x : Int) (y : Int) b = if subsumed (ksetd S.cs (y : Int) []) (x : Int) (y : Int) b then some ⟨DD far (setdF (setdF F.d x none) y none), ksetd S.cs (y : Int) [], true⟩ else
        (incAll (kput (ksetd S.cs (y : Int) []) (x : Int) (((y : Int), b) :: ch S.cs (x : Int))) f (DD far (setdF (setdF F.d x none) y none)) (x : Int) (y : Int) b).map fun r => ⟨r.1, kput (ksetd S.cs (y : Int) []) (x : Int) (((y : Int), b) :: ch S.cs (x : Int)), r.2⟩ := by
      unfold PS.add
      rw [hsat, hs, if_pos rfl, hD]
    rw [hadd, hsub]
    have hc0' : ((ksetd S.cs (y : Int) []).lookup 0).isSome = true := by
      rw [ksetd_lookup]
      split
      · rfl
      · exact hc0
    have hch1 : ∀ k : Nat, k ≠ 1 → ChR (ksetd S.cs (y : Int) []) (setdF F.c y []) k := fun k hk => by
      unfold ChR
      rw [ch_ksetd, chF_setdF]
      exact hch k hk
    have hone1 : ∀ k, ∀ p ∈ chF (setdF F.c y []) k, p.1 ≠ 1 := fun k => by rw [chF_setdF]; exact hone k
    cases hsb : subF (chF (setdF F.c y []) x) y b with
    | true =>
      rw [hsb] at h
      cases h
      exact ⟨_, rfl, rfl, fun _ => ⟨rfl, hnd', hch1, hone1, h0' _ fun z hz => hz, hc0'⟩⟩
    | false =>
      rw [hsb] at h
      dsimp only at h
      rw [if_neg (by decide)]
      generalize hC' : kput (ksetd S.cs (y : Int) []) (x : Int) (((y : Int), b) :: ch S.cs (x : Int)) = C'
      generalize hF' : putF (setdF F.c y []) x ((y, b) :: chF F.c x) = CF' at h
      have hc0'' : (C'.lookup 0).isSome = true := by
        rw [← hC', kput_lookup]
        split
        · rfl
        · exact hc0'
      have hch2 : ∀ k : Nat, k ≠ 1 → ChR C' CF' k := fun k hk => by
        unfold ChR
        rw [← hC', ← hF', ch_kput, chF_putF]
        by_cases hkx : k = x
        · subst hkx
          rw [if_pos rfl, if_pos rfl]
          obtain ⟨a1, a2⟩ := hch k hk
          refine ⟨?_, fun p hp e => ?_⟩
          · rw [List.filter_cons, if_pos (by simp; omega), a1]; rfl
          · rcases List.mem_cons.mp hp with rfl | hp
            · exact absurd (show (y : Int) = (k : Int) from e) (by omega)
            · exact a2 p hp e
        · rw [if_neg (by omega), if_neg hkx]
          exact hch1 k hk
      have hone2 : ∀ k, ∀ p ∈ chF CF' k, p.1 ≠ 1 := fun k p hp => by
        rw [← hF', chF_putF] at hp
        split at hp
        · rcases List.mem_cons.mp hp with rfl | hp
          · exact hy
          · exact hone x p hp
        · exact hone1 k p hp
      cases hst : startF (setdF (setdF F.d x none) y none) x y b with
      | none => rw [hst] at h; cases h
      | some o =>
        rw [hst] at h
        have hso := start_ok' hf hst
        dsimp only at h
        unfold incAll
        cases o with
        | none =>
          cases h
          rw [if_neg hso]
          exact ⟨_, rfl, rfl, fun _ => ⟨rfl, hnd', hch2, hone2, h0' _ fun z hz => hz, hc0''⟩⟩
        | some s =>
          dsimp only at h
          rw [if_pos hso.1, hso.2, DD_putF far hnd']
          cases hin : incF CF' y b f (putF (setdF (setdF F.d x none) y none) y (some s)) [y] with
          | none => rw [hin] at h; cases h
          | some r =>
            rw [hin] at h
            cases h
            have := inc_sim hf hch2 hone2 f _ [y] r (putF_nodup hnd') (fun z hz => by rw [List.mem_singleton.mp hz]; exact hy) hin
            have e2 : castN [y] = [(y : Int)] := rfl
            rw [e2] at this
            rw [this.1]
            refine ⟨_, rfl, rfl, fun _ => ⟨rfl, this.2, hch2, hone2, ?_, hc0''⟩⟩
            exact h0' _ fun z hz => inc_keys f _ _ _ hin z ((putF_keys _ _ _ _).mpr (.inr hz))
end Mine
end
section
open PySem PySem.W PySem.Calls PyProof.Rows
set_option Elab.async false
set_option maxRecDepth 100000
set_option linter.unusedVariables false
namespace Mine
theorem add_false {S : PS} (h : S.sat = false) (f : Nat) (x y b : Int) : S.add f x y b = some S := by
  unfold PS.add; rw [h]; rfl
theorem ins_false {S : PS} (h : S.sat = false) (f : Nat) (x y l r : Int) : S.ins f x y (some l) (some r) = some S := by
  show (S.add f x y (-l)).bind (fun S1 => S1.add f y x r) = some S
  rw [add_false h]
  exact add_false h f y x r
theorem netRun_false (f : Nat) {S : PS} (h : S.sat = false) : ∀ l, netRun f S l = some S
  | [] => rfl
  | q :: l => by
    unfold netRun
    rw [ins_false h]
    exact netRun_false f h l
theorem look_some_mem {V : Type} {es : List (Int × V)} {k : Int} (h : (es.lookup k).isSome = true) : ksetd es k = fun _ => es := by
  funext v; unfold ksetd; rw [if_pos h]
theorem self_add {far : Int} {S : PS} {F : SF} (R : RS' far S F) (hs : S.sat = true) (f : Nat) (b : Int) :
    ∃ S', S.add (f + 1) 0 0 b = some S' ∧ if 0 ≤ b then (S'.sat = true ∧ RS' far S' F) else S'.sat = false := by
  obtain ⟨hd, hnd, hch, hone, h0, hc0⟩ := R
  have hd0 : (S.dist.lookup 0).isSome = true := by rw [hd]; exact (DD_isSome far F.d 0).trans h0
  have hadd : S.add (f + 1) 0 0 b = if subsumed S.cs 0 0 b then some ⟨S.dist, S.cs, true⟩ else (incAll (kput S.cs 0 ((0, b) :: ch S.cs 0)) (f + 1) S.dist 0 0 b).map fun r => ⟨r.1, kput S.cs 0 ((0, b) :: ch S.cs 0), r.2⟩ := by
    unfold PS.add
    rw [hs, if_pos rfl, look_some_mem hd0, look_some_mem hd0, look_some_mem hc0]
  rw [hadd]
  obtain ⟨a1, a2⟩ := hch 0 (by decide)
  cases hsb : subsumed S.cs 0 0 b with
  | true =>
    rw [if_pos rfl]
    refine ⟨_, rfl, ?_⟩
    rw [if_pos]
    · exact ⟨rfl, hd, hnd, hch, hone, h0, hc0⟩
    · unfold subsumed at hsb
      cases hf : (ch S.cs 0).find? (fun p => p.1 == (0 : Int)) with
      | none => rw [hf] at hsb; cases hsb
      | some p =>
        rw [hf] at hsb
        have h1 := List.mem_of_find?_eq_some hf
        have h2 := List.find?_some hf
        have := a2 p h1 (beq_iff_eq.mp h2)
        have := of_decide_eq_true hsb
        omega
  | false =>
    rw [if_neg (by decide)]
    unfold incAll
    by_cases hb : 0 ≤ b
    · rw [if_neg (by omega)]
      refine ⟨_, rfl, ?_⟩
      rw [if_pos hb]
      refine ⟨rfl, hd, hnd, fun k hk => ?_, hone, h0, ?_⟩
      · unfold ChR
        dsimp only
        rw [ch_kput]
        by_cases hk0 : (k : Int) = 0
        · have : k = 0 := by omega
          subst this
          rw [if_pos (show ((0 : Nat) : Int) = 0 from rfl)]
          refine ⟨?_, fun p hp e => ?_⟩
          · rw [List.filter_cons, if_neg (by simp)]; exact a1
          · rcases List.mem_cons.mp hp with rfl | hp
            · exact hb
            · exact a2 p hp e
        · rw [if_neg hk0]; exact hch k hk
      · dsimp only
        rw [kput_lookup]
        split
        · rfl
        · exact hc0
    · rw [if_pos (by omega)]
      have hch0 : ch (kput S.cs 0 ((0, b) :: ch S.cs 0)) 0 = (0, b) :: ch S.cs 0 := by rw [ch_kput, if_pos rfl]
      have hl : lk (kput S.dist 0 (lk S.dist 0 + b)) 0 = lk S.dist 0 + b := by
        show ((kput S.dist 0 (lk S.dist 0 + b)).lookup 0).getD 0 = _
        rw [kput_lookup, if_pos rfl]; rfl
      have : inc (kput S.cs 0 ((0, b) :: ch S.cs 0)) 0 b (f + 1) (kput S.dist 0 (lk S.dist 0 + b)) [0] = some (kput S.dist 0 (lk S.dist 0 + b), false) := by
        unfold inc
        rw [hch0]
        unfold relax
        rw [if_pos (by rw [hl]; omega), if_pos ⟨rfl, rfl⟩]
      rw [this]
      refine ⟨_, rfl, ?_⟩
      rw [if_neg hb]
theorem ins_sim {far : Int} (hf : 64 ≤ far) {S : PS} {F F' : SF} {x y : Nat} {l h : Int} {f : Nat} (R : RS far S F) (hxy : x ≠ y) (hx : x ≠ 1) (hy : y ≠ 1) (e : insF f F x y l h = some F') :
    ∃ S', S.ins f x y (some l) (some h) = some S' ∧ RS far S' F' := by
  have e1 : insF f F x y l h = Option.rec none (fun S1 => addF f S1 y x h) (addF f F x y (-l)) := rfl
  rw [e1] at e
  cases ha : addF f F x y (-l) with
  | none => rw [ha] at e; cases e
  | some F1 =>
    rw [ha] at e
    obtain ⟨S1, hs1, R1⟩ := add_sim hf R hxy hx hy ha
    obtain ⟨S2, hs2, R2⟩ := add_sim hf R1 hxy.symm hy hx e
    refine ⟨S2, ?_, R2⟩
    show (S.add f x y (-l)).bind (fun S1 => S1.add f y x h) = some S2
    rw [hs1]; exact hs2
theorem self_ins {far : Int} {S : PS} {F : SF} (R : RS' far S F) (hs : S.sat = true) (f : Nat) (l h : Int) :
    ∃ S', S.ins (f + 1) 0 0 (some l) (some h) = some S' ∧ if l ≤ 0 ∧ 0 ≤ h then (S'.sat = true ∧ RS' far S' F) else S'.sat = false := by
  obtain ⟨S1, h1, q1⟩ := self_add R hs f (-l)
  have e : ∀ S2, S1.add (f + 1) 0 0 h = some S2 → S.ins (f + 1) 0 0 (some l) (some h) = some S2 := fun S2 e => by
    show (S.add (f + 1) 0 0 (-l)).bind (fun S1 => S1.add (f + 1) 0 0 h) = some S2
    rw [h1]; exact e
  by_cases hl : 0 ≤ -l
  · rw [if_pos hl] at q1
    obtain ⟨S2, h2, q2⟩ := self_add q1.2 q1.1 f h
    refine ⟨S2, e S2 h2, ?_⟩
    by_cases hh : 0 ≤ h
    · rw [if_pos hh] at q2
      rw [if_pos ⟨by omega, hh⟩]; exact q2
    · rw [if_neg hh] at q2
      rw [if_neg (fun q => hh q.2)]; exact q2
  · rw [if_neg hl] at q1
    refine ⟨S1, e S1 (add_false q1 _ _ _ _), ?_⟩
    rw [if_neg (fun q => hl (by omega))]; exact q1
theorem subNat_eq (n k : Nat) : Int.subNatNat n k = (n : Int) - (k : Int) := Int.subNatNat_eq_coe
theorem ask_sim {far : Int} (hf : 64 ≤ far) {S : PS} {F F' : SF} {x y n : Nat} {f : Nat} (R : RS far S F) (hs : F.sat = true) (hx : x ≠ 1) (hy : y ≠ 1) (e : askF (f + 1) F x y n = some F') :
    ∃ S', S.ins (f + 1) x y (some ((n : Int) - 259)) (some ((n : Int) - 255)) = some S' ∧ RS far S' F' := by
  have e1 : askF (f + 1) F x y n = Bool.rec (insF (f + 1) F x y (Int.subNatNat n 259) (Int.subNatNat n 255)) (Bool.rec none (some ⟨F.d, F.c, and (Nat.ble n 259) (Nat.ble 255 n)⟩) (Nat.beq x 0)) (Nat.beq x y) := rfl
  rw [e1] at e
  by_cases hxy : x = y
  · subst hxy
    rw [Nat.beq_refl] at e
    cases hb : Nat.beq x 0 with
    | false => rw [hb] at e; cases e
    | true =>
      rw [hb] at e
      have hx0 := Nat.eq_of_beq_eq_true hb
      subst hx0
      cases e
      obtain ⟨S', h1, h2⟩ := self_ins (R.rest hs) (R.sat.trans hs) f ((n : Int) - 259) ((n : Int) - 255)
      refine ⟨S', h1, ?_⟩
      by_cases hc : (n : Int) - 259 ≤ 0 ∧ 0 ≤ (n : Int) - 255
      · rw [if_pos hc] at h2
        have : and (Nat.ble n 259) (Nat.ble 255 n) = true := by
          rw [Bool.and_eq_true, Nat.ble_eq, Nat.ble_eq]; omega
        refine ⟨?_, fun _ => ?_⟩
        · dsimp only; rw [this]; exact h2.1
        · exact ⟨h2.2.dist, h2.2.nd, h2.2.chains, h2.2.one, h2.2.d0, h2.2.c0⟩
      · rw [if_neg hc] at h2
        have : and (Nat.ble n 259) (Nat.ble 255 n) = false := by
          cases hq : and (Nat.ble n 259) (Nat.ble 255 n) with
          | false => rfl
          | true =>
            rw [Bool.and_eq_true, Nat.ble_eq, Nat.ble_eq] at hq
            exact absurd (by omega) hc
        refine ⟨?_, fun q => ?_⟩
        · dsimp only; rw [this]; exact h2
        · dsimp only at q; rw [this] at q; cases q
  · have hb : Nat.beq x y = false := by
      cases hq : Nat.beq x y with
      | false => rfl
      | true => exact absurd (Nat.eq_of_beq_eq_true hq) hxy
    rw [hb] at e
    dsimp only at e
    rw [subNat_eq, subNat_eq] at e
    exact ins_sim hf R hxy hx hy e
theorem run_sim {far : Int} (hf : 64 ≤ far) {f : Nat} : ∀ (aq : List (Nat × Nat × Nat)) (S : PS) (F F' : SF), RS far S F → (∀ q ∈ aq, q.1 ≠ 1 ∧ q.2.1 ≠ 1) → runF (f + 1) aq F = some F' →
    ∃ S', netRun (f + 1) S (aq.map decq) = some S' ∧ RS far S' F'
  | [], S, F, F', R, _, h => by cases h; exact ⟨S, rfl, R⟩
  | q :: t, S, F, F', R, hq, h => by
    have e : runF (f + 1) (q :: t) F = Bool.rec (some F) (Option.rec none (fun S' => runF (f + 1) t S') (askF (f + 1) F q.1 q.2.1 q.2.2)) F.sat := rfl
    rw [e] at h
    cases hs : F.sat with
    | false =>
      rw [hs] at h
      cases h
      exact ⟨S, netRun_false _ (R.sat.trans hs) _, R⟩
    | true =>
      rw [hs] at h
      dsimp only at h
      cases ha : askF (f + 1) F q.1 q.2.1 q.2.2 with
      | none => rw [ha] at h; cases h
      | some F1 =>
        rw [ha] at h
        have hq1 := hq q (.head _)
        obtain ⟨S1, h1, R1⟩ := ask_sim hf R hs hq1.1 hq1.2 ha
        obtain ⟨S2, h2, R2⟩ := run_sim hf t S1 F1 F' R1 (fun p hp => hq p (.tail _ hp)) h
        refine ⟨S2, ?_, R2⟩
        rw [List.map_cons]
        unfold netRun
        show (S.ins (f + 1) (q.1 : Int) (q.2.1 : Int) (some ((q.2.2 : Int) - 259)) (some ((q.2.2 : Int) - 255))).bind _ = _
        rw [h1]; exact h2
theorem netRun_app (f : Nat) : ∀ (l m : List (List Int)) (S : PS), netRun f S (l ++ m) = (netRun f S l).bind fun S' => netRun f S' m
  | [], m, S => rfl
  | q :: l, m, S => by
    rw [List.cons_append]
    show (S.ins f (q.getD 0 0) (q.getD 1 0) (some (q.getD 2 0)) (some (q.getD 3 0))).bind (fun S' => netRun f S' (l ++ m)) = ((S.ins f (q.getD 0 0) (q.getD 1 0) (some (q.getD 2 0)) (some (q.getD 3 0))).bind fun S' => netRun f S' l).bind fun S' => netRun f S' m
    cases S.ins f (q.getD 0 0) (q.getD 1 0) (some (q.getD 2 0)) (some (q.getD 3 0)) with
    | none => rfl
    | some S' => exact netRun_app f l m S'
theorem start_rel {far : Int} : RS far (S0 far) S0F := by
  refine ⟨rfl, fun _ => ⟨?_, by decide, fun k hk => ?_, fun k p hp => ?_, rfl, rfl⟩⟩
  · show [((1 : Int), (0 : Int)), (0, -far)] = [(1, 0), (0, 0 - far)]
    rw [Int.zero_sub]
  · have e1 : ch (S0 far).cs (k : Int) = [] := by
      unfold ch S0
      rw [List.lookup_cons, List.lookup_cons]
      by_cases h0 : (k : Int) = 0
      · rw [h0]; rfl
      · have a1 : ((k : Int) == 0) = false := by simpa using h0
        have a2 : ((k : Int) == 1) = false := by rw [beq_eq_false_iff_ne]; omega
        rw [a1, a2]; rfl
    have e2 : chF S0F.c k = [] := by
      rw [chF_eq]
      show (lookF [(0, ([] : List (Nat × Int))), (1, [])] k).getD [] = []
      rw [lookF_cons, lookF_cons]
      split
      · rfl
      · split
        · rfl
        · rfl
    unfold ChR
    rw [e1, e2]
    exact ⟨rfl, fun p hp => by cases hp⟩
  · have e2 : chF S0F.c k = [] := by
      rw [chF_eq]
      show (lookF [(0, ([] : List (Nat × Int))), (1, [])] k).getD [] = []
      rw [lookF_cons, lookF_cons]
      split
      · rfl
      · split
        · rfl
        · rfl
    rw [e2] at hp; cases hp
theorem net_ok {far : Int} (hf : 64 ≤ far) {aq : List (Nat × Nat × Nat)} (hq : ∀ q ∈ aq, q.1 ≠ 1 ∧ q.2.1 ≠ 1) {F : SF} (h : runF 100 aq S0F = some F) (ht : Int) :
    ∃ Sf, netRun 100 (S0 far) (aq.map decq ++ [[0, 0, ht, ht]]) = some Sf ∧ Sf.sat = (F.sat && decide (ht = 0)) ∧ (F.sat = true → ht = 0 → RS' far Sf F) := by
  obtain ⟨S1, h1, R1⟩ := run_sim hf aq (S0 far) S0F F start_rel hq h
  rw [netRun_app, h1]
  show ∃ Sf, (S1.ins 100 0 0 (some ht) (some ht)).bind (fun S' => some S') = some Sf ∧ _
  cases hs : F.sat with
  | false =>
    rw [ins_false (R1.sat.trans hs)]
    exact ⟨S1, rfl, R1.sat.trans hs, fun q => by cases q⟩
  | true =>
    obtain ⟨S2, h2, q2⟩ := self_ins (R1.rest hs) (R1.sat.trans hs) 99 ht ht
    rw [h2]
    refine ⟨S2, rfl, ?_, fun _ h0 => ?_⟩
    · by_cases h0 : ht = 0
      · rw [if_pos (by omega)] at q2
        rw [decide_eq_true h0]; exact q2.1
      · rw [if_neg (by omega)] at q2
        rw [decide_eq_false h0]; exact q2
    · rw [if_pos (by omega)] at q2
      exact q2.2
end Mine
end
section
open PySem PySem.W PySem.Calls PyProof.Rows
set_option Elab.async false
set_option maxRecDepth 100000
set_option linter.unusedVariables false
namespace Mine
theorem look_keys {V : Type} {es : List (Int × V)} {k : Int} : (es.lookup k).isSome = true ↔ k ∈ es.map (·.1) := by
  induction es with
  | nil => simp
  | cons p t ih =>
    obtain ⟨a, b⟩ := p
    rw [List.lookup_cons, List.map_cons, List.mem_cons]
    by_cases h : k = a
    · subst h; simp
    · have e : (k == a) = false := by simpa using h
      rw [e]
      exact ⟨fun q => .inr (ih.mp q), fun q => q.elim (fun e => absurd e h) ih.mpr⟩
theorem kput_keys_in {D : DL} {k v : Int} (h : (D.lookup k).isSome = true) : (kput D k v).map (·.1) = D.map (·.1) := by rw [kput_keys, if_pos h]
theorem relax_keysI {y b c : Int} : ∀ (l : List (Int × Int)) (D : DL) (q : List Int), (∀ p ∈ l, (D.lookup p.1).isSome = true) → (relax y b c l D q).1.map (·.1) = D.map (·.1)
  | [], D, q, _ => rfl
  | p :: l, D, q, h => by
    obtain ⟨d, w⟩ := p
    have hd := h (d, w) (.head _)
    unfold relax
    split
    · split
      · rfl
      · rw [relax_keysI l _ _ fun p hp => ?_, kput_keys_in hd]
        rw [look_keys, kput_keys_in hd, ← look_keys]
        exact h p (.tail _ hp)
    · exact relax_keysI l D q fun p hp => h p (.tail _ hp)
theorem inc_keysI {C : CL} {y b : Int} : ∀ (f : Nat) (D : DL) (q : List Int) (r : DL × Bool), (∀ k, ∀ p ∈ ch C k, (D.lookup p.1).isSome = true) → inc C y b f D q = some r → r.1.map (·.1) = D.map (·.1)
  | f, D, [], r, hC, h => by
    have e : inc C y b f D [] = some (D, true) := by cases f <;> rfl
    rw [e] at h; cases h; rfl
  | 0, D, c :: q, r, hC, h => by cases h
  | f + 1, D, c :: q, r, hC, h => by
    have hk := relax_keysI (y := y) (b := b) (c := c) (ch C c) D q (hC c)
    unfold inc at h
    cases hr : relax y b c (ch C c) D q with
    | mk D' o =>
      rw [hr] at h hk
      cases o with
      | none => cases h; exact hk
      | some q' =>
        have := inc_keysI f D' q' r (fun k p hp => by rw [look_keys, hk, ← look_keys]; exact hC k p hp) h
        exact this.trans hk
theorem ksetd_keys {V : Type} (es : List (Int × V)) (k : Int) (v : V) : (ksetd es k v).map (·.1) = if (es.lookup k).isSome then es.map (·.1) else es.map (·.1) ++ [k] := by
  unfold ksetd
  split
  · rfl
  · rw [List.map_append]; rfl
theorem ksetd_nodup {V : Type} {es : List (Int × V)} {k : Int} {v : V} (h : (es.map (·.1)).Nodup) : ((ksetd es k v).map (·.1)).Nodup := by
  rw [ksetd_keys]
  cases hq : (es.lookup k).isSome with
  | true => exact h
  | false =>
    rw [if_neg (by decide), List.nodup_append]
    refine ⟨h, by simp, fun a ha b hb e => ?_⟩
    rw [List.mem_singleton.mp hb] at e
    exact look_none_keys hq (e ▸ ha)
theorem ksetd_le {V : Type} (es : List (Int × V)) (k : Int) (v : V) : (ksetd es k v).length ≤ es.length + 1 := by
  unfold ksetd; split <;> simp
theorem ksetd_some {V : Type} {es : List (Int × V)} {k k' : Int} {v : V} (h : (es.lookup k').isSome = true) : ((ksetd es k v).lookup k').isSome = true := by
  rw [ksetd_lookup]; split
  · rfl
  · exact h
theorem ksetd_own {V : Type} (es : List (Int × V)) (k : Int) (v : V) : ((ksetd es k v).lookup k).isSome = true := by rw [ksetd_lookup, if_pos rfl]; rfl
theorem kput_some {V : Type} {es : List (Int × V)} {k k' : Int} {v : V} (h : (es.lookup k').isSome = true) : ((kput es k v).lookup k').isSome = true := by
  rw [kput_lookup]; split
  · rfl
  · exact h
/-- what every network that was built keeps -/
structure NI (n : Nat) (S : PS) : Prop where
  dl : S.dist.length ≤ 2 * n
  cl : S.cs.length ≤ 2 * n
  wf : ∀ k l, S.cs.lookup k = some l → l.length ≤ n ∧ ∀ p ∈ l, (S.dist.lookup p.1).isSome = true ∧ (S.cs.lookup p.1).isSome = true
  nd : (S.dist.map (·.1)).Nodup
  ndC : (S.cs.map (·.1)).Nodup
  sub : ∀ k, (S.cs.lookup k).isSome = true → (S.dist.lookup k).isSome = true
theorem NI.ch {n : Nat} {S : PS} (h : NI n S) (k : Int) : (Mine.ch S.cs k).length ≤ n ∧ ∀ p ∈ Mine.ch S.cs k, (S.dist.lookup p.1).isSome = true ∧ (S.cs.lookup p.1).isSome = true := by
  unfold Mine.ch
  cases hl : S.cs.lookup k with
  | none => exact ⟨Nat.zero_le _, fun p hp => by cases hp⟩
  | some l => exact h.wf k l hl
theorem NI.grow {n : Nat} {S : PS} (h : NI n S) (x y b : Int) :
    let D := ksetd (ksetd S.dist x 0) y 0
    let C' := kput (ksetd S.cs y []) x ((y, b) :: Mine.ch S.cs x)
    (∀ k l, C'.lookup k = some l → l.length ≤ n + 1 ∧ ∀ p ∈ l, (D.lookup p.1).isSome = true ∧ (C'.lookup p.1).isSome = true) ∧ D.length ≤ 2 * (n + 1) ∧ C'.length ≤ 2 * (n + 1) ∧ (D.map (·.1)).Nodup ∧ (C'.map (·.1)).Nodup ∧ ∀ k, (C'.lookup k).isSome = true → (D.lookup k).isSome = true := by
  intro D C'
  have hd1 := ksetd_le S.dist x (0 : Int)
  have hd2 := ksetd_le (ksetd S.dist x 0) y (0 : Int)
  have hc1 := ksetd_le S.cs y ([] : List (Int × Int))
  have hc2 := kput_le1 (ksetd S.cs y []) x ((y, b) :: Mine.ch S.cs x)
  have h1 := h.dl
  have h2 := h.cl
  have hDs : ∀ k, (S.dist.lookup k).isSome = true → (D.lookup k).isSome = true := fun k hk => ksetd_some (ksetd_some hk)
  have hCs : ∀ k, (S.cs.lookup k).isSome = true → (C'.lookup k).isSome = true := fun k hk => kput_some (ksetd_some hk)
  have hDx : (D.lookup x).isSome = true := ksetd_some (ksetd_own _ _ _)
  have hDy : (D.lookup y).isSome = true := ksetd_own _ _ _
  have hCy : (C'.lookup y).isSome = true := kput_some (ksetd_own _ _ _)
  have hchx := h.ch x
  refine ⟨fun k l hk => ?_, Nat.le_trans hd2 (by omega), Nat.le_trans hc2 (by omega), ksetd_nodup (ksetd_nodup h.nd), kput_nodup (ksetd_nodup h.ndC), fun k hk => ?_⟩
  · by_cases hkx : k = x
    · have : C'.lookup k = some ((y, b) :: Mine.ch S.cs x) := by rw [kput_lookup, if_pos hkx]
      rw [this] at hk
      cases hk
      refine ⟨Nat.succ_le_succ hchx.1, fun p hp => ?_⟩
      rcases List.mem_cons.mp hp with rfl | hp
      · exact ⟨hDy, hCy⟩
      · exact ⟨hDs _ (hchx.2 p hp).1, hCs _ (hchx.2 p hp).2⟩
    · have e : C'.lookup k = (ksetd S.cs y []).lookup k := by rw [kput_lookup, if_neg hkx]
      rw [e, ksetd_lookup] at hk
      by_cases hky : k = y
      · rw [if_pos hky] at hk
        cases hl : S.cs.lookup y with
        | none => rw [hl] at hk; cases hk; exact ⟨Nat.zero_le _, fun p hp => by cases hp⟩
        | some l' =>
          rw [hl] at hk; cases hk
          have := h.wf y _ hl
          exact ⟨Nat.le_succ_of_le this.1, fun p hp => ⟨hDs _ (this.2 p hp).1, hCs _ (this.2 p hp).2⟩⟩
      · rw [if_neg hky] at hk
        have := h.wf k l hk
        exact ⟨Nat.le_succ_of_le this.1, fun p hp => ⟨hDs _ (this.2 p hp).1, hCs _ (this.2 p hp).2⟩⟩
  · by_cases hkx : k = x
    · rw [hkx]; exact hDx
    · have e : C'.lookup k = (ksetd S.cs y []).lookup k := by rw [kput_lookup, if_neg hkx]
      rw [e, ksetd_lookup] at hk
      by_cases hky : k = y
      · rw [hky]; exact hDy
      · rw [if_neg hky] at hk
        exact hDs k (h.sub k hk)
theorem NI.okAdd {n : Nat} {S : PS} (h : NI n S) (hn : n + 1 ≤ 64) (x y b : Int) : okAdd S x y b := by
  have g := h.grow x y b
  exact ⟨by have := h.dl; omega, by have := h.cl; omega, fun k l hk => ⟨Nat.le_trans (g.1 k l hk).1 hn, (g.1 k l hk).2⟩⟩
theorem NI.add {n : Nat} {S S' : PS} (h : NI n S) {f : Nat} {x y b : Int} (hs : S.add f x y b = some S') : NI (n + 1) S' := by
  unfold PS.add at hs
  by_cases hsat : S.sat = true
  · rw [if_pos hsat] at hs
    dsimp only at hs
    obtain ⟨g1, g2, g3, g4, g5, g6⟩ := h.grow x y b
    split at hs
    · cases hs
      have hc1 := ksetd_le S.cs y ([] : List (Int × Int))
      have h2 := h.cl
      refine ⟨g2, by dsimp only; omega, fun k l hk => ?_, g4, ksetd_nodup h.ndC, fun k hk => ?_⟩
      · dsimp only at hk ⊢
        rw [ksetd_lookup] at hk
        by_cases hky : k = y
        · rw [if_pos hky] at hk
          cases hl : S.cs.lookup y with
          | none => rw [hl] at hk; cases hk; exact ⟨Nat.zero_le _, fun p hp => by cases hp⟩
          | some l' =>
            rw [hl] at hk; cases hk
            have := h.wf y _ hl
            exact ⟨Nat.le_succ_of_le this.1, fun p hp => ⟨ksetd_some (ksetd_some (this.2 p hp).1), ksetd_some (this.2 p hp).2⟩⟩
        · rw [if_neg hky] at hk
          have := h.wf k l hk
          exact ⟨Nat.le_succ_of_le this.1, fun p hp => ⟨ksetd_some (ksetd_some (this.2 p hp).1), ksetd_some (this.2 p hp).2⟩⟩
      · dsimp only at hk ⊢
        rw [ksetd_lookup] at hk
        by_cases hky : k = y
        · rw [hky]; exact ksetd_own _ _ _
        · rw [if_neg hky] at hk
          exact ksetd_some (ksetd_some (h.sub k hk))
    · generalize hD : ksetd (ksetd S.dist x 0) y 0 = D at *
      generalize hC' : kput (ksetd S.cs y []) x ((y, b) :: Mine.ch S.cs x) = C' at *
      have hDy : (D.lookup y).isSome = true := by rw [← hD]; exact ksetd_own _ _ _
      have hchs : ∀ k, ∀ p ∈ Mine.ch C' k, (D.lookup p.1).isSome = true := fun k p hp => by
        unfold Mine.ch at hp
        cases hl : C'.lookup k with
        | none => rw [hl] at hp; cases hp
        | some l => rw [hl] at hp; exact ((g1 k l hl).2 p hp).1
      cases hin : incAll C' f D x y b with
      | none => rw [hin] at hs; cases hs
      | some r =>
        rw [hin] at hs
        cases hs
        have hkeys : r.1.map (·.1) = D.map (·.1) := by
          unfold incAll at hin
          split at hin
          · have := inc_keysI f _ _ r (fun k p hp => by rw [look_keys, kput_keys_in hDy, ← look_keys]; exact hchs k p hp) hin
            rw [this, kput_keys_in hDy]
          · cases hin; rfl
        have hsome : ∀ k, (r.1.lookup k).isSome = (D.lookup k).isSome := fun k => by
          rw [Bool.eq_iff_iff, look_keys, look_keys, hkeys]
        refine ⟨?_, g3, fun k l hk => ⟨(g1 k l hk).1, fun p hp => ⟨?_, ((g1 k l hk).2 p hp).2⟩⟩, ?_, g5, fun k hk => ?_⟩
        · have := congrArg List.length hkeys
          rw [List.length_map, List.length_map] at this
          dsimp only; omega
        · dsimp only; rw [hsome]; exact ((g1 k l hk).2 p hp).1
        · dsimp only; rw [hkeys]; exact g4
        · dsimp only; rw [hsome]; exact g6 k hk
  · rw [if_neg hsat] at hs
    cases hs
    have h1 := h.dl
    have h2 := h.cl
    exact ⟨by omega, by omega, fun k l hk => ⟨Nat.le_succ_of_le (h.wf k l hk).1, (h.wf k l hk).2⟩, h.nd, h.ndC, h.sub⟩
theorem NI.okIns {n : Nat} {S : PS} (h : NI n S) (hn : n + 2 ≤ 64) (f : Nat) (x y l r : Int) : okIns f S x y (some l) (some r) :=
  ⟨h.okAdd (by omega) x y (-l), fun S1 h1 => (h.add h1).okAdd (by omega) y x r⟩
theorem NI.ins {n : Nat} {S S' : PS} (h : NI n S) {f : Nat} {x y l r : Int} (hs : S.ins f x y (some l) (some r) = some S') : NI (n + 2) S' := by
  change (S.add f x y (-l)).bind (fun S1 => S1.add f y x r) = some S' at hs
  cases h1 : S.add f x y (-l) with
  | none => rw [h1] at hs; cases hs
  | some S1 =>
    rw [h1] at hs
    exact (h.add h1).add hs
theorem NI.run {f : Nat} : ∀ (l : List (List Int)) {n : Nat} {S S' : PS}, NI n S → n + 2 * l.length ≤ 62 → netRun f S l = some S' → okRun f S l ∧ NI (n + 2 * l.length) S'
  | [], n, S, S', h, _, e => by cases e; exact ⟨trivial, h⟩
  | q :: l, n, S, S', h, hn, e => by
    rw [List.length_cons] at hn
    change (S.ins f (q.getD 0 0) (q.getD 1 0) (some (q.getD 2 0)) (some (q.getD 3 0))).bind (fun S' => netRun f S' l) = some S' at e
    cases h1 : S.ins f (q.getD 0 0) (q.getD 1 0) (some (q.getD 2 0)) (some (q.getD 3 0)) with
    | none => rw [h1] at e; cases e
    | some S1 =>
      rw [h1] at e
      have ih := NI.run l (h.ins h1) (by omega) e
      refine ⟨⟨h.okIns (by omega) f _ _ _ _, fun S2 h2 => ?_⟩, ?_⟩
      · rw [h1] at h2; cases h2; exact ih.1
      · have e2 : n + 2 * (q :: l).length = n + 2 + 2 * l.length := by rw [List.length_cons]; omega
        rw [e2]; exact ih.2
theorem NI.start (far : Int) : NI 1 (S0 far) := by
  refine ⟨by simp [S0], by simp [S0], fun k l hk => ?_, by simp [S0], by simp [S0], fun k hk => ?_⟩
  · unfold S0 at hk ⊢
    dsimp only at hk ⊢
    rw [List.lookup_cons] at hk
    by_cases h0 : k = 0
    · subst h0
      simp at hk
      subst hk
      exact ⟨by simp, fun p hp => by cases hp⟩
    · have e0 : (k == 0) = false := by simpa using h0
      rw [e0, List.lookup_cons] at hk
      by_cases h1 : k = 1
      · subst h1
        simp at hk
        subst hk
        refine ⟨by simp, fun p hp => ?_⟩
        rw [List.mem_singleton.mp hp]
        simp [List.lookup]
      · have e1 : (k == 1) = false := by simpa using h1
        rw [e1] at hk
        cases hk
  · rw [look_keys] at hk ⊢
    unfold S0 at hk ⊢
    simp at hk ⊢
    rcases hk with h | h
    · exact .inr h
    · exact .inl h
end Mine
end
section
open PySem PySem.W PySem.Calls PyProof.Rows
set_option Elab.async false
set_option maxRecDepth 100000
set_option linter.unusedVariables false
namespace Mine
/-- the first bound from x to y -/
noncomputable def fst1 (C : CL) (x y : Int) : Option Int := ((ch C x).find? (fun p => p.1 == y)).map (·.2)
structure TI (S : PS) (t : TD) : Prop where
  keys : ∀ p ∈ t, ∃ x y, p.1 = [x, y]
  nd : (t.map (·.1)).Nodup
  look : ∀ x y, t.lookup [x, y] = fst1 S.cs x y
theorem TI.add {S S' : PS} {t : TD} (h : TI S t) {f : Nat} {x y b : Int} (hs : S.add f x y b = some S') (hsat : S'.sat = true) :
    TI S' (kput t [x, y] (min b ((t.lookup [x, y]).getD b))) := by
  refine ⟨fun p hp => ?_, kput_nodup h.nd, fun u v => ?_⟩
  · rcases kput_mem hp with rfl | hp
    · exact ⟨x, y, rfl⟩
    · exact h.keys p hp
  · rw [kput_lookup]
    have hfst := h.look x y
    unfold PS.add at hs
    by_cases hS : S.sat = true
    · rw [if_pos hS] at hs
      dsimp only at hs
      split at hs
      · rename_i hsub
        cases hs
        have e : fst1 (ksetd S.cs y []) u v = fst1 S.cs u v := by unfold fst1; rw [ch_ksetd]
        dsimp only
        rw [e]
        by_cases huv : [u, v] = [x, y]
        · injection huv with e1 e2
          injection e2 with e2 _
          subst e1 e2
          rw [if_pos rfl]
          unfold subsumed at hsub
          rw [ch_ksetd] at hsub
          rw [hfst]
          unfold fst1
          cases hf : (ch S.cs u).find? (fun p => p.1 == v) with
          | none => rw [hf] at hsub; cases hsub
          | some p =>
            rw [hf] at hsub
            have := of_decide_eq_true hsub
            show some (min b p.2) = some p.2
            congr 1; omega
        · rw [if_neg huv]; exact h.look u v
      · rename_i hsub
        cases hin : incAll (kput (ksetd S.cs y []) x ((y, b) :: ch S.cs x)) f (ksetd (ksetd S.dist x 0) y 0) x y b with
        | none => rw [hin] at hs; cases hs
        | some r =>
          rw [hin] at hs
          cases hs
          dsimp only
          unfold fst1
          rw [ch_kput]
          by_cases hux : u = x
          · subst hux
            rw [if_pos rfl, List.find?_cons]
            by_cases hvy : v = y
            · subst hvy
              rw [if_pos rfl, beq_self_eq_true]
              rw [hfst]
              unfold fst1
              unfold subsumed at hsub
              rw [ch_ksetd] at hsub
              cases hf : (ch S.cs u).find? (fun p => p.1 == v) with
              | none => show some (min b b) = some b; congr 1; omega
              | some p =>
                rw [hf] at hsub
                have : ¬ p.2 ≤ b := fun q => hsub (decide_eq_true q)
                show some (min b p.2) = some b
                congr 1; omega
            · have e : (y == v) = false := by simpa using fun q => hvy q.symm
              rw [e, if_neg (by intro q; injection q with _ q; injection q with q _; exact hvy q)]
              exact h.look u v
          · rw [if_neg hux, if_neg (by intro q; injection q with q _; exact hux q), ch_ksetd]
            exact h.look u v
    · rw [if_neg hS] at hs
      cases hs
      exact absurd hsat hS
theorem add_sat {S S' : PS} {f : Nat} {x y b : Int} (hs : S.add f x y b = some S') (h : S'.sat = true) : S.sat = true := by
  cases hS : S.sat with
  | true => rfl
  | false => rw [add_false hS] at hs; cases hs; rw [hS] at h; cases h
theorem TI.run {f : Nat} : ∀ (l : List (List Int)) {S S' : PS} {t : TD}, TI S t → netRun f S l = some S' → S'.sat = true → S.sat = true ∧ TI S' (l.foldl tStep t)
  | [], S, S', t, h, e, hs => by cases e; exact ⟨hs, h⟩
  | q :: l, S, S', t, h, e, hs => by
    change ((S.add f (q.getD 0 0) (q.getD 1 0) (-q.getD 2 0)).bind (fun S1 => S1.add f (q.getD 1 0) (q.getD 0 0) (q.getD 3 0))).bind (fun S' => netRun f S' l) = some S' at e
    cases h1 : S.add f (q.getD 0 0) (q.getD 1 0) (-q.getD 2 0) with
    | none => rw [h1] at e; cases e
    | some S1 =>
      rw [h1] at e
      change (S1.add f (q.getD 1 0) (q.getD 0 0) (q.getD 3 0)).bind (fun S' => netRun f S' l) = some S' at e
      cases h2 : S1.add f (q.getD 1 0) (q.getD 0 0) (q.getD 3 0) with
      | none => rw [h2] at e; cases e
      | some S2 =>
        rw [h2] at e
        change netRun f S2 l = some S' at e
        have sat2 : S2.sat = true := by
          cases hq : S2.sat with
          | true => rfl
          | false => rw [netRun_false f hq] at e; cases e; rw [hq] at hs; cases hs
        have sat1 := add_sat h2 sat2
        have sat0 := add_sat h1 sat1
        have t1 := h.add h1 sat1
        have t2 := t1.add h2 sat2
        have ih := TI.run l t2 e hs
        exact ⟨sat0, ih.2⟩
theorem TI.start (far : Int) : TI (S0 far) [([1, 0], -far)] := by
  refine ⟨fun p hp => by rw [List.mem_singleton.mp hp]; exact ⟨1, 0, rfl⟩, by simp, fun x y => ?_⟩
  unfold fst1 ch S0
  dsimp only
  rw [List.lookup_cons, List.lookup_cons, List.lookup_cons]
  by_cases h0 : x = 0
  · subst h0
    have e : (([0, y] : List Int) == [1, 0]) = false := by rw [beq_eq_false_iff_ne]; intro q; injection q with q; omega
    rw [e]; rfl
  · have e0 : (x == 0) = false := by simpa using h0
    rw [e0]
    by_cases h1 : x = 1
    · subst h1
      by_cases hy : y = 0
      · subst hy; rfl
      · have e : (([1, y] : List Int) == [1, 0]) = false := by rw [beq_eq_false_iff_ne]; intro q; injection q with _ q; injection q with q; exact hy q
        rw [e]
        have e2 : ((0 : Int) == y) = false := by simpa using fun q => hy q.symm
        show none = (List.find? (fun p => p.1 == y) [((0 : Int), -far)]).map (·.2)
        rw [List.find?_cons, e2]; rfl
    · have e1 : (x == 1) = false := by simpa using h1
      have e : (([x, y] : List Int) == [1, 0]) = false := by rw [beq_eq_false_iff_ne]; intro q; injection q with q; exact h1 q
      rw [e, e1]; rfl
/-- the lines -/
theorem firsts_mem : ∀ (l : List (Int × Int)) (seen : List Int) (w d : Int), (w, d) ∈ firsts l seen ↔ d ∉ seen ∧ l.find? (fun p => p.1 == d) = some (d, w)
  | [], seen, w, d => by simp [firsts]
  | (a, v) :: r, seen, w, d => by
    have ih := firsts_mem r
    unfold firsts
    rw [List.find?_cons]
    by_cases hs : seen.contains a = true
    · rw [if_pos hs, ih]
      have ha : a ∈ seen := List.contains_iff_mem.mp hs
      by_cases had : a = d
      · subst had
        exact ⟨fun q => absurd ha q.1, fun q => absurd ha q.1⟩
      · have e : (a == d) = false := by simpa using had
        simp only [e]
    · rw [if_neg hs, List.mem_cons, ih]
      have ha : a ∉ seen := fun q => hs (List.contains_iff_mem.mpr q)
      by_cases had : a = d
      · subst had
        simp only [beq_self_eq_true, List.mem_append, List.mem_singleton, or_true, not_true, false_and, or_false, Prod.mk.injEq, and_true, Option.some.injEq]
        constructor
        · intro q; exact ⟨ha, trivial, q.symm⟩
        · intro q; exact q.2.2.symm
      · have e : (a == d) = false := by simpa using had
        simp only [e, List.mem_append, List.mem_singleton, Prod.mk.injEq]
        constructor
        · rintro (q | q)
          · exact absurd q.2.symm had
          · exact ⟨fun h => q.1 (.inl h), q.2⟩
        · intro q
          refine .inr ⟨?_, q.2⟩
          rintro (h | h)
          · exact q.1 h
          · exact had h.symm
theorem firsts_nd : ∀ (l : List (Int × Int)) (seen : List Int), ((firsts l seen).map (·.2)).Nodup
  | [], seen => .nil
  | (a, v) :: r, seen => by
    unfold firsts
    split
    · exact firsts_nd r seen
    · rw [List.map_cons, List.nodup_cons]
      refine ⟨fun h => ?_, firsts_nd r _⟩
      obtain ⟨⟨w, d⟩, hp, e⟩ := List.mem_map.mp h
      have := (firsts_mem r (seen ++ [a]) w d).mp hp
      exact this.1 (by rw [show d = a from e]; simp)
theorem lines_mem {D : DL} {C : CL} (hsub : ∀ k, (C.lookup k).isSome = true → (D.lookup k).isSome = true) (x y b : Int) : [x, y, b] ∈ linesOf D C ↔ fst1 C x y = some b := by
  unfold linesOf fst1
  rw [List.mem_flatMap]
  constructor
  · rintro ⟨p, hp, h⟩
    obtain ⟨⟨w, d⟩, hq, e⟩ := List.mem_map.mp h
    injection e with e1 e
    injection e with e2 e
    injection e with e3 _
    dsimp only at e1 e2 e3
    subst e1 e2 e3
    rw [((firsts_mem _ _ _ _).mp hq).2]; rfl
  · intro h
    cases hf : (ch C x).find? (fun p => p.1 == y) with
    | none => rw [hf] at h; cases h
    | some p =>
      rw [hf] at h
      obtain ⟨d, w⟩ := p
      cases h
      have hd0 := List.find?_some hf
      have hd : d = y := beq_iff_eq.mp hd0
      subst hd
      have hx : (C.lookup x).isSome = true := by
        unfold ch at hf
        cases hl : C.lookup x with
        | none => rw [hl] at hf; cases hf
        | some l => rfl
      obtain ⟨v, hv⟩ := Option.isSome_iff_exists.mp (hsub x hx)
      have hm : (x, v) ∈ D := by
        have := hv
        clear hf hx hsub
        induction D with
        | nil => cases this
        | cons q t ih =>
          obtain ⟨a, c⟩ := q
          rw [List.lookup_cons] at this
          by_cases h : x = a
          · subst h; simp at this; subst this; exact .head _
          · have e : (x == a) = false := by simpa using h
            rw [e] at this
            exact .tail _ (ih this this)
      refine ⟨(x, v), hm, List.mem_map.mpr ⟨(w, d), ?_, rfl⟩⟩
      exact (firsts_mem _ _ _ _).mpr ⟨by simp, hf⟩
theorem lines_nd {D : DL} {C : CL} (nd : (D.map (·.1)).Nodup) : (linesOf D C).Nodup := by
  unfold linesOf
  induction D with
  | nil => exact .nil
  | cons p t ih =>
    rw [List.map_cons, List.nodup_cons] at nd
    rw [List.flatMap_cons, List.nodup_append]
    refine ⟨?_, ih nd.2, fun a ha b hb e => ?_⟩
    · have h1 := firsts_nd (ch C p.1) []
      generalize firsts (ch C p.1) [] = fs at h1
      induction fs with
      | nil => exact .nil
      | cons q fs ih2 =>
        rw [List.map_cons, List.nodup_cons] at h1
        rw [List.map_cons, List.nodup_cons]
        refine ⟨fun h => ?_, ih2 h1.2⟩
        obtain ⟨r, hr, e⟩ := List.mem_map.mp h
        injection e with _ e
        injection e with e _
        exact h1.1 (List.mem_map.mpr ⟨r, hr, e⟩)
    · subst e
      obtain ⟨q, hq, e1⟩ := List.mem_map.mp ha
      obtain ⟨p2, hp2, hb⟩ := List.mem_flatMap.mp hb
      obtain ⟨q2, hq2, e2⟩ := List.mem_map.mp hb
      rw [← e1] at e2
      injection e2 with e3 _
      exact nd.1 (List.mem_map.mpr ⟨p2, hp2, e3⟩)
theorem mem_of_look {K V : Type} [BEq K] [LawfulBEq K] {es : List (K × V)} {k : K} {v : V} (h : es.lookup k = some v) : (k, v) ∈ es := by
  induction es with
  | nil => cases h
  | cons q t ih =>
    obtain ⟨a, c⟩ := q
    rw [List.lookup_cons] at h
    by_cases hk : k = a
    · subst hk; simp at h; subst h; exact .head _
    · have e : (k == a) = false := by simpa using hk
      rw [e] at h
      exact .tail _ (ih h)
theorem lines_perm {S : PS} {t : TD} (h : TI S t) (nd : (S.dist.map (·.1)).Nodup) (hsub : ∀ k, (S.cs.lookup k).isSome = true → (S.dist.lookup k).isSome = true) : (linesOf S.dist S.cs).Perm (t.map row3) := by
  rw [List.perm_ext_iff_of_nodup (lines_nd nd) (row3_nd h.keys h.nd)]
  intro a
  constructor
  · intro ha
    obtain ⟨p, hp, hb⟩ := List.mem_flatMap.mp ha
    obtain ⟨q, hq, rfl⟩ := List.mem_map.mp hb
    have := (lines_mem hsub p.1 q.2 q.1).mp ha
    rw [← h.look] at this
    exact List.mem_map.mpr ⟨([p.1, q.2], q.1), mem_of_look this, rfl⟩
  · intro ha
    obtain ⟨p, hp, rfl⟩ := List.mem_map.mp ha
    obtain ⟨x, y, e⟩ := h.keys p hp
    have := lookup_nd h.nd hp
    rw [e, h.look] at this
    have := (lines_mem hsub x y p.2).mpr this
    unfold row3
    rw [e]; exact this
end Mine
end
section
open PySem PySem.W PySem.Calls PyProof.Rows
set_option Elab.async false
set_option maxRecDepth 100000
set_option linter.unusedVariables false
namespace Mine
noncomputable def dLow (p : Nat × Nat) : List Int × Int := (dk p.1, (p.2 : Int) - 256)
noncomputable def dMet (p : Nat × Nat) : List Int × Bool := (dk p.1 ++ [(p.2 : Int) - 256], true)
structure LR (s : LM) (g : LF) : Prop where
  lows : s.1 = g.1.map dLow
  met : s.2 = g.2.map dMet
  nd : (g.1.map (·.1)).Nodup
theorem min_nat (a b : Nat) : (minF a b : Int) = min (a : Int) (b : Int) := by
  have e : minF a b = Bool.rec b a (Nat.ble a b) := rfl
  rw [e]
  cases h : Nat.ble a b with
  | true =>
    have := Nat.le_of_ble_eq_true h
    show (a : Int) = _
    omega
  | false =>
    have : ¬ a ≤ b := fun q => by rw [Nat.ble_eq_true_of_le q] at h; cases h
    show (b : Int) = _
    omega
theorem max_nat (a b : Nat) : (maxF a b : Int) = max (a : Int) (b : Int) := by
  have e : maxF a b = Bool.rec a b (Nat.ble a b) := rfl
  rw [e]
  cases h : Nat.ble a b with
  | true =>
    have := Nat.le_of_ble_eq_true h
    show (b : Int) = _
    omega
  | false =>
    have : ¬ a ≤ b := fun q => by rw [Nat.ble_eq_true_of_le q] at h; cases h
    show (a : Int) = _
    omega
theorem putMin_cons (p : Nat × Nat) (t : List (Nat × Nat)) (k h : Nat) : putMin (p :: t) k h = if p.1 = k then (k, minF h p.2) :: t else p :: putMin t k h := by
  have e : putMin (p :: t) k h = Bool.rec (p :: putMin t k h) ((k, minF h p.2) :: t) (Nat.beq p.1 k) := rfl
  rw [e]
  by_cases hk : p.1 = k
  · rw [if_pos hk, hk, Nat.beq_refl]
  · rw [if_neg hk]
    cases hb : Nat.beq p.1 k with
    | false => rfl
    | true => exact absurd (Nat.eq_of_beq_eq_true hb) hk
theorem putMin_keys (l : List (Nat × Nat)) (k h x : Nat) : x ∈ (putMin l k h).map (·.1) ↔ x = k ∨ x ∈ l.map (·.1) := by
  induction l with
  | nil => show x ∈ [k] ↔ _; simp
  | cons p t ih =>
    rw [putMin_cons]
    split
    · rename_i h
      simp only [List.map_cons, List.mem_cons, h]
      constructor
      · rintro (q | q)
        · exact .inl q
        · exact .inr (.inr q)
      · rintro (q | q | q)
        · exact .inl q
        · exact .inl q
        · exact .inr q
    · simp only [List.map_cons, List.mem_cons, ih]
      constructor
      · rintro (q | q | q)
        · exact .inr (.inl q)
        · exact .inl q
        · exact .inr (.inr q)
      · rintro (q | q | q)
        · exact .inr (.inl q)
        · exact .inl q
        · exact .inr (.inr q)
theorem putMin_nodup {l : List (Nat × Nat)} {k h : Nat} (nd : (l.map (·.1)).Nodup) : ((putMin l k h).map (·.1)).Nodup := by
  induction l with
  | nil => show [k].Nodup; simp
  | cons p t ih =>
    rw [List.map_cons, List.nodup_cons] at nd
    rw [putMin_cons]
    split
    · rename_i e
      rw [List.map_cons, List.nodup_cons]
      exact ⟨e ▸ nd.1, nd.2⟩
    · rename_i e
      rw [List.map_cons, List.nodup_cons]
      refine ⟨fun hm => ?_, ih nd.2⟩
      rcases (putMin_keys t k h p.1).mp hm with q | q
      · exact e q
      · exact nd.1 q
theorem low_look (l : List (Nat × Nat)) (u : Nat) : (l.map dLow).lookup (dk u) = (lookF l u).map fun v : Nat => (v : Int) - 256 := by
  induction l with
  | nil => rfl
  | cons p t ih =>
    rw [List.map_cons, lookF_cons]
    show List.lookup (dk u) ((dk p.1, (p.2 : Int) - 256) :: _) = _
    rw [List.lookup_cons]
    by_cases h : p.1 = u
    · rw [if_pos h, h]; simp
    · have e : (dk u == dk p.1) = false := by rw [beq_eq_false_iff_ne]; exact fun q => h (dk_inj q).symm
      rw [if_neg h, e]; exact ih
theorem low_put {l : List (Nat × Nat)} (nd : (l.map (·.1)).Nodup) (u h : Nat) (hI : Int) (hh : hI = (h : Int) - 256) : kput (l.map dLow) (dk u) (min hI (((l.map dLow).lookup (dk u)).getD hI)) = (putMin l u h).map dLow := by
  subst hh
  induction l with
  | nil =>
    show [(dk u, min ((h : Int) - 256) ((h : Int) - 256))] = [dLow (u, h)]
    unfold dLow
    congr 2
    omega
  | cons p t ih =>
    rw [List.map_cons, List.nodup_cons] at nd
    rw [putMin_cons]
    unfold kput
    rw [low_look, lookF_cons]
    by_cases hp : p.1 = u
    · rw [if_pos hp, if_pos hp]
      show (if (some ((p.2 : Int) - 256)).isSome = true then _ else _) = _
      rw [Option.isSome_some, if_pos rfl]
      show List.map _ ((dk p.1, (p.2 : Int) - 256) :: t.map dLow) = dLow (u, minF h p.2) :: t.map dLow
      rw [List.map_cons, hp]
      simp only [beq_self_eq_true, if_true]
      congr 1
      · unfold dLow
        dsimp only
        rw [min_nat]
        show (dk u, min ((h : Int) - 256) ((p.2 : Int) - 256)) = _
        congr 1
        omega
      · have : ∀ q ∈ t.map dLow, (if (q.1 == dk u) = true then (q.1, min ((h : Int) - 256) (((some ((p.2 : Int) - 256)) : Option Int).getD ((h : Int) - 256))) else q) = q := by
          intro q hq
          obtain ⟨x, hx, rfl⟩ := List.mem_map.mp hq
          have hne : x.1 ≠ u := fun e => nd.1 (by rw [hp, ← e]; exact List.mem_map_of_mem hx)
          rw [if_neg]
          show ¬ (dk x.1 == dk u) = true
          rw [beq_iff_eq]
          exact fun e => hne (dk_inj e)
        exact (List.map_congr_left this).trans (List.map_id' _)
    · rw [if_neg hp, if_neg hp]
      have ih := ih nd.2
      unfold kput at ih
      rw [low_look] at ih
      have e : (dk p.1 == dk u) = false := by rw [beq_eq_false_iff_ne]; exact fun q => hp (dk_inj q)
      show _ = dLow p :: (putMin t u h).map dLow
      rw [List.map_cons, ← ih]
      split
      · rw [List.map_cons]
        show (if (dk p.1 == dk u) = true then _ else _) :: _ = _
        rw [e]; rfl
      · rfl
theorem memF_cons (p : Nat × Nat) (t : List (Nat × Nat)) (k h : Nat) : memF (p :: t) k h = (decide (p.1 = k ∧ p.2 = h) || memF t k h) := by
  have e : memF (p :: t) k h = or (and (Nat.beq p.1 k) (Nat.beq p.2 h)) (memF t k h) := rfl
  rw [e]
  congr 1
  rw [Bool.eq_iff_iff, Bool.and_eq_true, decide_eq_true_iff, Nat.beq_eq, Nat.beq_eq]
theorem met_key {u v : Nat} {a b : Int} : dk u ++ [a] = dk v ++ [b] ↔ u = v ∧ a = b := by
  constructor
  · intro h
    unfold dk at h
    simp only [List.cons_append, List.nil_append, List.cons.injEq, and_true, Int.natCast_inj] at h
    exact ⟨by omega, h.2.2⟩
  · rintro ⟨rfl, rfl⟩; rfl
theorem met_look (l : List (Nat × Nat)) (u h : Nat) (hI : Int) (hh : hI = (h : Int) - 256) : ((l.map dMet).lookup (dk u ++ [hI])).isSome = memF l u h := by
  subst hh
  induction l with
  | nil => rfl
  | cons p t ih =>
    rw [List.map_cons, memF_cons]
    show (List.lookup (dk u ++ [(h : Int) - 256]) ((dk p.1 ++ [(p.2 : Int) - 256], true) :: _)).isSome = _
    rw [List.lookup_cons]
    by_cases hp : p.1 = u ∧ p.2 = h
    · have e : (dk u ++ [(h : Int) - 256] == dk p.1 ++ [(p.2 : Int) - 256]) = true := by
        rw [beq_iff_eq, met_key]; exact ⟨hp.1.symm, by rw [hp.2]⟩
      rw [e, decide_eq_true hp]; rfl
    · have e : (dk u ++ [(h : Int) - 256] == dk p.1 ++ [(p.2 : Int) - 256]) = false := by
        rw [beq_eq_false_iff_ne]
        intro q
        rw [met_key] at q
        exact hp ⟨q.1.symm, by omega⟩
      rw [e, decide_eq_false hp]; exact ih
theorem met_put (l : List (Nat × Nat)) (u h : Nat) (hI : Int) (hh : hI = (h : Int) - 256) : kput (l.map dMet) (dk u ++ [hI]) true = (putMet l u h).map dMet := by
  unfold kput
  rw [met_look l u h hI hh]
  have e : putMet l u h = Bool.rec (l ++ [(u, h)]) l (memF l u h) := rfl
  rw [e]
  cases memF l u h with
  | true =>
    rw [if_pos rfl]
    have : ∀ q ∈ l.map dMet, (if (q.1 == dk u ++ [hI]) = true then (q.1, true) else q) = q := by
      intro q hq
      obtain ⟨x, hx, rfl⟩ := List.mem_map.mp hq
      split <;> rfl
    exact (List.map_congr_left this).trans (List.map_id' _)
  | false =>
    rw [if_neg (by decide), List.map_append]
    subst hh; rfl
theorem whF_succ (dark PL downs m u h : Nat) (s : LF) : whF dark PL downs (m + 1) u h s = (fun h' => whF dark PL downs m (Nat.succ u) h' (putMin s.1 (Nat.succ u) h', putMet s.2 (Nat.succ u) h'))
    ((fun bit => Bool.rec (Bool.rec (Nat.pred h) (Nat.add h 3) bit) (Bool.rec (Nat.succ h) (Nat.sub h 3) bit) (evenF (Nat.add (Nat.add (Nat.div (Nat.sub u 64) 64) (Nat.mod u 64)) dark))) (bitF downs (Nat.pred (digF PL (Nat.sub u 64))))) := rfl
theorem wh_sim {pl : TD} {PL dark downs i : Nat} (hpl : ∀ u, pl.lookup (dk u) = decP (digF PL u)) : ∀ (m c h : Nat) (s : LM) (g : LF), LR s g → c + m < 64 → 3 * m < h →
    LR (lmWhile pl (dark : Int) (downs : Int) ((i : Int) + 1) m (c : Int) ((h : Int) - 256) s) (whF dark PL downs m ((i + 1) * 64 + c) h g)
  | 0, c, h, s, g, R, _, _ => R
  | m + 1, c, h, s, g, R, hc, hh => by
    rw [whF_succ]
    have eu : Nat.sub ((i + 1) * 64 + c) 64 = i * 64 + c := by show (i + 1) * 64 + c - 64 = i * 64 + c; omega
    have ed : Nat.div (i * 64 + c) 64 = i := by show (i * 64 + c) / 64 = i; omega
    have em : Nat.mod ((i + 1) * 64 + c) 64 = c := by show ((i + 1) * 64 + c) % 64 = c; omega
    rw [eu, ed, em]
    have hk : [((i : Int) + 1) - 1, (c : Int)] = dk (i * 64 + c) := by rw [dk_code (by omega)]; congr 1; omega
    have hbit : bitAt (downs : Int) ((pl.lookup [((i : Int) + 1) - 1, (c : Int)]).getD 0) = if bitF downs (Nat.pred (digF PL (i * 64 + c))) then 1 else 0 := by
      rw [hk, hpl, ← bitAt_nat]
      cases digF PL (i * 64 + c) <;> rfl
    have hev : ((((i : Int) + 1) - 1 + (c : Int) + (dark : Int)).fmod 2 == 0) = evenF (Nat.add (Nat.add i c) dark) := by
      have := even_nat (i + c) dark (((i : Int) + 1) - 1 + (c : Int)) (by omega)
      rw [Bool.eq_iff_iff, beq_iff_eq]
      exact this
    have hkey : ∀ x : Int, [(i : Int) + 1, (c : Int) + 1] = dk (Nat.succ ((i + 1) * 64 + c)) := fun x => by
      have : Nat.succ ((i + 1) * 64 + c) = (i + 1) * 64 + (c + 1) := rfl
      rw [this, dk_code (by omega)]; rfl
    dsimp only
    generalize hh' : (Bool.rec (Bool.rec (Nat.pred h) (Nat.add h 3) (bitF downs (Nat.pred (digF PL (i * 64 + c))))) (Bool.rec (Nat.succ h) (Nat.sub h 3) (bitF downs (Nat.pred (digF PL (i * 64 + c))))) (evenF (Nat.add (Nat.add i c) dark)) : Nat) = h'
    have hstep : (h : Int) - 256 + (if (((i : Int) + 1) - 1 + (c : Int) + (dark : Int)).fmod 2 == 0 then 1 - 4 * bitAt (downs : Int) ((pl.lookup [((i : Int) + 1) - 1, (c : Int)]).getD 0) else 4 * bitAt (downs : Int) ((pl.lookup [((i : Int) + 1) - 1, (c : Int)]).getD 0) - 1) = (h' : Int) - 256 ∧ 3 * m < h' := by
      rw [hbit, hev, ← hh']
      cases evenF (Nat.add (Nat.add i c) dark) <;> cases bitF downs (Nat.pred (digF PL (i * 64 + c)))
      · show (h : Int) - 256 + (4 * 0 - 1) = ((h - 1 : Nat) : Int) - 256 ∧ 3 * m < h - 1
        omega
      · show (h : Int) - 256 + (4 * 1 - 1) = ((h + 3 : Nat) : Int) - 256 ∧ 3 * m < h + 3
        omega
      · show (h : Int) - 256 + (1 - 4 * 0) = ((h + 1 : Nat) : Int) - 256 ∧ 3 * m < h + 1
        omega
      · show (h : Int) - 256 + (1 - 4 * 1) = ((h - 3 : Nat) : Int) - 256 ∧ 3 * m < h - 3
        omega
    unfold lmWhile
    dsimp only
    rw [hstep.1]
    have e1 : [(i : Int) + 1, (c : Int) + 1, (h' : Int) - 256] = dk (Nat.succ ((i + 1) * 64 + c)) ++ [(h' : Int) - 256] := by rw [← hkey 0]; rfl
    rw [e1, hkey 0]
    have e2 : Nat.succ ((i + 1) * 64 + c) = (i + 1) * 64 + (c + 1) := rfl
    have e3 : (c : Int) + 1 = ((c + 1 : Nat) : Int) := rfl
    rw [e2, e3]
    refine wh_sim hpl m (c + 1) h' _ _ ⟨?_, ?_, putMin_nodup R.nd⟩ (by omega) hstep.2
    · dsimp only
      rw [R.lows]
      exact low_put R.nd _ h' _ rfl
    · dsimp only
      rw [R.met]
      exact met_put _ _ h' _ rfl
theorem rwF_two (dark P PL d : Nat) (p q : Nat × Nat) (t : Rows) (r : Nat) (s : LF) : rwF dark P PL d (p :: q :: t) r s = rwF dark P PL d (q :: t) (Nat.succ r)
    ((fun c => whF dark PL d (Nat.sub (minF p.2 q.2) (Nat.succ c)) (Nat.add (Nat.mul (Nat.succ r) 64) c) (Nat.add (digF P (Nat.add (Nat.mul (Nat.succ r) 64) c)) 192) s) (maxF p.1 q.1)) := rfl
theorem rw_sim {all : Rows} (hg : ∀ p ∈ all, 2 ≤ p.1 ∧ p.1 < p.2 ∧ p.2 ≤ 20) {hs pl : TD} {P PL dark d : Nat} (hhs : ∀ u, hs.lookup (dk u) = decH (digF P u)) (hpl : ∀ u, pl.lookup (dk u) = decP (digF PL u))
    (hst : ∀ i, i + 1 < all.length → digF P ((i + 1) * 64 + maxF (all.getD i (0, 0)).1 (all.getD (i + 1) (0, 0)).1) ≠ 0) :
    ∀ (rest pre : Rows), all = pre ++ rest → ∀ (s : LM) (g : LF), LR s g → LR ((List.range (rest.length - 1)).foldl (fun s i => lmRow (castR all) hs pl (dark : Int) (d : Int) (pre.length + i) s) s) (rwF dark P PL d rest pre.length g)
  | [], pre, e, s, g, R => R
  | [p], pre, e, s, g, R => R
  | p :: q :: t, pre, e, s, g, R => by
    have hlen : all.length = pre.length + (t.length + 2) := by rw [e]; simp
    have hp : all.getD pre.length (0, 0) = p := by rw [e]; simp [List.getD]
    have hq : all.getD (pre.length + 1) (0, 0) = q := by rw [e]; simp [List.getD]
    have hgp := hg p (by rw [e]; simp)
    have hgq := hg q (by rw [e]; simp)
    have hd0 := hst pre.length (by omega)
    rw [hp, hq] at hd0
    have ih := rw_sim hg (dark := dark) (d := d) hhs hpl hst (q :: t) (pre ++ [p]) (by rw [e]; simp)
    rw [List.length_append, List.length_singleton] at ih
    rw [rwF_two]
    have el : (p :: q :: t).length - 1 = ((q :: t).length - 1) + 1 := by simp
    rw [el, List.range_succ_eq_map, List.foldl_cons, List.foldl_map]
    have e2 : (fun (x : LM) (y : Nat) => lmRow (castR all) hs pl (dark : Int) (d : Int) (pre.length + Nat.succ y) x) = fun s i => lmRow (castR all) hs pl (dark : Int) (d : Int) (pre.length + 1 + i) s := by
      funext s i
      have : pre.length + Nat.succ i = pre.length + 1 + i := by omega
      rw [this]
    rw [e2]
    refine ih _ _ ?_
    rw [Nat.add_zero]
    unfold lmRow
    rw [getD_cast, hp, getD_cast, hq]
    dsimp only
    have emx : max (p.1 : Int) (q.1 : Int) = ((maxF p.1 q.1 : Nat) : Int) := (max_nat _ _).symm
    have emn : min (p.2 : Int) (q.2 : Int) = ((minF p.2 q.2 : Nat) : Int) := (min_nat _ _).symm
    rw [emx, emn]
    have hmx : maxF p.1 q.1 < 20 := by have := max_nat p.1 q.1; omega
    have hmn : minF p.2 q.2 ≤ 20 := by have := min_nat p.2 q.2; omega
    generalize maxF p.1 q.1 = mx at hmx hd0 ⊢
    generalize minF p.2 q.2 = mn at hmn ⊢
    have em : ((mn : Int) - ((mx : Int) + 1)).toNat = Nat.sub mn (Nat.succ mx) := by show _ = mn - (mx + 1); omega
    have hk : [(pre.length : Int) + 1, (mx : Int)] = dk ((pre.length + 1) * 64 + mx) := by rw [dk_code (by omega)]; rfl
    rw [em, hk, hhs]
    have hcode : Nat.add (Nat.mul (Nat.succ pre.length) 64) mx = (pre.length + 1) * 64 + mx := rfl
    rw [hcode]
    have hdig : (decH (digF P ((pre.length + 1) * 64 + mx))).getD 0 = ((Nat.add (digF P ((pre.length + 1) * 64 + mx)) 192 : Nat) : Int) - 256 := by
      cases hq : digF P ((pre.length + 1) * 64 + mx) with
      | zero => exact absurd hq hd0
      | succ n => show (n : Int) + 1 - 64 = ((n + 1 + 192 : Nat) : Int) - 256; omega
    rw [hdig]
    refine wh_sim hpl _ _ _ s g R ?_ ?_
    · show mx + (mn - (mx + 1)) < 64; omega
    · show 3 * (mn - (mx + 1)) < digF P ((pre.length + 1) * 64 + mx) + 192; omega
theorem lm_sim {rows : Rows} (h : Good rows) {hs pl : TD} {P PL dark : Nat} (hhs : ∀ u, hs.lookup (dk u) = decH (digF P u)) (hpl : ∀ u, pl.lookup (dk u) = decP (digF PL u))
    (hst : ∀ i, i + 1 < rows.length → digF P ((i + 1) * 64 + maxF (rows.getD i (0, 0)).1 (rows.getD (i + 1) (0, 0)).1) ≠ 0) :
    ∀ (ways : List Nat) (s : LM) (g : LF), LR s g → LR ((ways.map fun x : Nat => (x : Int)).foldl (lmDowns (castR rows) hs pl (dark : Int)) s) (lmF dark P PL rows ways g)
  | [], s, g, R => R
  | d :: ways, s, g, R => by
    have e : lmF dark P PL rows (d :: ways) g = lmF dark P PL rows ways (rwF dark P PL d rows 0 g) := rfl
    rw [e, List.map_cons, List.foldl_cons]
    refine lm_sim h hhs hpl hst ways _ _ ?_
    have := rw_sim h.2 (dark := dark) (d := d) hhs hpl hst rows [] rfl s g R
    unfold lmDowns
    rw [List.length_map]
    have e2 : (fun (s : LM) (i : Nat) => lmRow (castR rows) hs pl (dark : Int) (d : Int) (([] : Rows).length + i) s) = fun s i => lmRow (castR rows) hs pl (dark : Int) (d : Int) i s := by
      funext s i
      rw [List.length_nil, Nat.zero_add]
    rw [e2] at this
    exact this
end Mine
end
section
open PySem PySem.W PySem.Calls PyProof.Rows
set_option Elab.async false
set_option maxRecDepth 100000
set_option linter.unusedVariables false
namespace Mine
theorem allF_mem {A : Type} {f : A → Bool} {l : List A} (h : allF f l = true) : ∀ x ∈ l, f x = true := by
  induction l with
  | nil => intro x hx; cases hx
  | cons a t ih =>
    have e : allF f (a :: t) = (f a && allF f t) := rfl
    rw [e, Bool.and_eq_true] at h
    intro x hx
    rcases List.mem_cons.mp hx with rfl | hx
    · exact h.1
    · exact ih h.2 x hx
theorem good_of {rows : Rows} (h : goodF rows = true) : Good rows := by
  have e : goodF rows = ((Nat.ble 1 rows.length && Nat.ble rows.length 4) && allF (fun p => Nat.ble 2 p.1 && (Nat.blt p.1 p.2 && Nat.ble p.2 20)) rows) := rfl
  rw [e, Bool.and_eq_true, Bool.and_eq_true] at h
  refine ⟨⟨Nat.le_of_ble_eq_true h.1.1, Nat.le_of_ble_eq_true h.1.2⟩, fun p hp => ?_⟩
  have := allF_mem h.2 p hp
  rw [Bool.and_eq_true, Bool.and_eq_true] at this
  exact ⟨Nat.le_of_ble_eq_true this.1, Nat.le_of_ble_eq_true this.2.1, Nat.le_of_ble_eq_true this.2.2⟩
theorem rows_open {rows : Rows} (h : rowsF rows = true) : Good rows ∧ ∃ ways, waysF (sqF rows 0).length (RPo rows) (BPo rows) 200 [(0, 0, 0)] [] = some ways ∧ ways.length ≤ 100 ∧ (borderF rows).length ≤ 60 ∧
    darkF rows (sqF rows 0) (PLo rows) (borderF rows) ways 0 = true ∧ darkF rows (sqF rows 0) (PLo rows) (borderF rows) ways 1 = true := by
  have e : rowsF rows = (goodF rows && Option.rec false (fun ways => (Nat.ble ways.length 100 && Nat.ble (borderF rows).length 60) && (darkF rows (sqF rows 0) (PLo rows) (borderF rows) ways 0 && darkF rows (sqF rows 0) (PLo rows) (borderF rows) ways 1)) (waysF (sqF rows 0).length (RPo rows) (BPo rows) 200 [(0, 0, 0)] [])) := rfl
  rw [e, Bool.and_eq_true] at h
  refine ⟨good_of h.1, ?_⟩
  have h := h.2
  cases hw : waysF (sqF rows 0).length (RPo rows) (BPo rows) 200 [(0, 0, 0)] [] with
  | none => rw [hw] at h; cases h
  | some ways =>
    rw [hw] at h
    change ((Nat.ble ways.length 100 && Nat.ble (borderF rows).length 60) && (darkF rows (sqF rows 0) (PLo rows) (borderF rows) ways 0 && darkF rows (sqF rows 0) (PLo rows) (borderF rows) ways 1)) = true at h
    rw [Bool.and_eq_true, Bool.and_eq_true, Bool.and_eq_true] at h
    exact ⟨ways, rfl, Nat.le_of_ble_eq_true h.1.1, Nat.le_of_ble_eq_true h.1.2, h.2.1, h.2.2⟩
noncomputable abbrev edO (rows : Rows) (dark : Nat) : List (Nat × Nat) := edF dark (PLo rows) (sqF rows 0)
noncomputable abbrev lmO (rows : Rows) (dark : Nat) (ways : List Nat) : LF := lmF dark (hhF rows dark).1 (PLo rows) rows ways ([], [])
structure MoreF (rows : Rows) (dark : Nat) (ways : List Nat) (S : SF) : Prop where
  len : (lmO rows dark ways).1.length < 64
  starts : startsF (hhF rows dark).1 rows 0 = true
  codes : codesF (((List.headD rows (0, 0)).1, 0) :: borderF rows) = true
  told : toldF (hhF rows dark).1 (lmO rows dark ways).1 (edO rows dark) = true
  dist : distF S.d (lmO rows dark ways).1 = true
  held : heldF 100 S (lmO rows dark ways).1 (lmO rows dark ways).2 = true
theorem dark_open {rows : Rows} {ways : List Nat} {dark : Nat} (h : darkF rows (sqF rows 0) (PLo rows) (borderF rows) ways dark = true) :
    (edO rows dark).length ≤ 25 ∧ ∃ S, runF 100 (aqF (hhF rows dark).1 (edO rows dark)) S0F = some S ∧ (ways = [] → ¬ (S.sat = true ∧ (hhF rows dark).2 = 64)) ∧ (ways ≠ [] → S.sat = true ∧ (hhF rows dark).2 = 64 ∧ MoreF rows dark ways S) := by
  have e : darkF rows (sqF rows 0) (PLo rows) (borderF rows) ways dark = (Nat.ble (edO rows dark).length 25 &&
    Option.rec false (fun S => List.rec (!(S.sat && Nat.beq (hhF rows dark).2 64)) (fun _ _ _ => (S.sat && Nat.beq (hhF rows dark).2 64) && moreF dark (hhF rows dark).1 (PLo rows) rows (borderF rows) (edO rows dark) ways S) ways) (runF 100 (aqF (hhF rows dark).1 (edO rows dark)) S0F)) := rfl
  rw [e, Bool.and_eq_true] at h
  refine ⟨Nat.le_of_ble_eq_true h.1, ?_⟩
  have h := h.2
  cases hr : runF 100 (aqF (hhF rows dark).1 (edO rows dark)) S0F with
  | none => rw [hr] at h; cases h
  | some S =>
    rw [hr] at h
    refine ⟨S, rfl, fun hw => ?_, fun hw => ?_⟩
    · subst hw
      change (!(S.sat && Nat.beq (hhF rows dark).2 64)) = true at h
      rintro ⟨h1, h2⟩
      rw [h1, h2] at h
      cases h
    · obtain ⟨w, ws, rfl⟩ := List.exists_cons_of_ne_nil hw
      change ((S.sat && Nat.beq (hhF rows dark).2 64) && moreF dark (hhF rows dark).1 (PLo rows) rows (borderF rows) (edO rows dark) (w :: ws) S) = true at h
      rw [Bool.and_eq_true, Bool.and_eq_true] at h
      refine ⟨h.1.1, Nat.eq_of_beq_eq_true h.1.2, ?_⟩
      have h := h.2
      have e : moreF dark (hhF rows dark).1 (PLo rows) rows (borderF rows) (edO rows dark) (w :: ws) S = (Nat.blt (lmO rows dark (w :: ws)).1.length 64 && (startsF (hhF rows dark).1 rows 0 && (codesF (((List.headD rows (0, 0)).1, 0) :: borderF rows) && (toldF (hhF rows dark).1 (lmO rows dark (w :: ws)).1 (edO rows dark) && (distF S.d (lmO rows dark (w :: ws)).1 && heldF 100 S (lmO rows dark (w :: ws)).1 (lmO rows dark (w :: ws)).2))))) := rfl
      rw [e, Bool.and_eq_true, Bool.and_eq_true, Bool.and_eq_true, Bool.and_eq_true, Bool.and_eq_true] at h
      exact ⟨Nat.le_of_ble_eq_true h.1, h.2.1, h.2.2.1, h.2.2.2.1, h.2.2.2.2.1, h.2.2.2.2.2⟩
/-- where the rows start in the border -/
theorem starts_of {P : Nat} : ∀ {rows : Rows} {k : Nat}, startsF P rows k = true → ∀ i, i + 1 < rows.length → digF P ((k + i + 1) * 64 + maxF (rows.getD i (0, 0)).1 (rows.getD (i + 1) (0, 0)).1) ≠ 0
  | [], k, h, i, hi => by simp at hi
  | [p], k, h, i, hi => by simp at hi
  | p :: q :: t, k, h, i, hi => by
    have e : startsF P (p :: q :: t) k = (Nat.blt 0 (digF P (Nat.add (Nat.mul (Nat.succ k) 64) (maxF p.1 q.1))) && startsF P (q :: t) (Nat.succ k)) := rfl
    rw [e, Bool.and_eq_true] at h
    cases i with
    | zero =>
      have : 0 < digF P (Nat.add (Nat.mul (Nat.succ k) 64) (maxF p.1 q.1)) := Nat.le_of_ble_eq_true h.1
      intro z
      have e2 : digF P (Nat.add (Nat.mul (Nat.succ k) 64) (maxF p.1 q.1)) = 0 := z
      omega
    | succ i =>
      have := starts_of h.2 i (by rw [List.length_cons] at hi; omega)
      have e2 : k + (i + 1) + 1 = Nat.succ k + i + 1 := by show k + (i + 1) + 1 = k + 1 + i + 1; omega
      rw [e2]
      exact this
/-- every square has a place -/
theorem sqF_in : ∀ {rows : Rows} {k i x : Nat}, i < rows.length → (rows.getD i (0, 0)).1 ≤ x → x < (rows.getD i (0, 0)).2 → (k + i) * 64 + x ∈ sqF rows k
  | [], k, i, x, h, _, _ => by simp at h
  | p :: t, k, i, x, h, h1, h2 => by
    have e : sqF (p :: t) k = upF (k * 64 + p.1) (p.2 - p.1) ++ sqF t (k + 1) := rfl
    rw [e, List.mem_append]
    cases i with
    | zero =>
      have h1 : p.1 ≤ x := h1
      have h2 : x < p.2 := h2
      left
      rw [upF_mem, Nat.add_zero]
      omega
    | succ i =>
      right
      have := sqF_in (rows := t) (k := k + 1) (i := i) (x := x) (by rw [List.length_cons] at h; omega) h1 h2
      have e2 : k + (i + 1) = k + 1 + i := by omega
      rw [e2]; exact this
theorem plF_ne : ∀ (sq : List Nat) (k P u : Nat), sq.Nodup → k + sq.length < 255 → (∀ v ∈ sq, digF P v = 0) → (digF P u ≠ 0 ∨ u ∈ sq) → digF (plF sq k P) u ≠ 0
  | [], k, P, u, _, _, _, h => by
    rcases h with h | h
    · exact h
    · cases h
  | s :: t, k, P, u, nd, hl, h0, h => by
    rw [List.nodup_cons] at nd
    rw [List.length_cons] at hl
    rw [plF_cons]
    have hd := digF_setF (P := P) (k := s) (v := k + 1) (by omega) (h0 s (.head _))
    refine plF_ne t (k + 1) _ u nd.2 (by omega) (fun v hv => ?_) ?_
    · rw [hd, if_neg (fun e : v = s => nd.1 (e ▸ hv))]
      exact h0 v (.tail _ hv)
    · rw [hd]
      by_cases hu : u = s
      · rw [if_pos hu]; left; omega
      · rw [if_neg hu]
        rcases h with h | h
        · exact .inl h
        · rcases List.mem_cons.mp h with h | h
          · exact absurd h hu
          · exact .inr h
theorem place_has {rows : Rows} (h : Good rows) {u : Nat} (hu : u ∈ sqF rows 0) : ∃ k : Int, 0 ≤ k ∧ (plR (castR rows)).lookup (dk u) = some k := by
  rw [pl_dig h]
  have hl := sqF_len h.two 0
  have h4 := h.1
  have := plF_ne (sqF rows 0) 0 0 u (sqF_nodup h.two 0) (by omega) (fun v _ => digF_zero v) (.inr hu)
  cases hd : digF (PLo rows) u with
  | zero => exact absurd hd this
  | succ n => exact ⟨(n : Int), by omega, rfl⟩
/-- folds of kput -/
theorem fold_look {K V : Type} [BEq K] [LawfulBEq K] [DecidableEq K] (k : K) : ∀ (l es : List (K × V)), (l.map (·.1)).Nodup → (l.foldl (fun t p => kput t p.1 p.2) es).lookup k = match l.lookup k with | some v => some v | none => es.lookup k
  | [], es, _ => rfl
  | p :: l, es, nd => by
    rw [List.map_cons, List.nodup_cons] at nd
    rw [List.foldl_cons, fold_look k l _ nd.2, kput_lookup]
    obtain ⟨a, b⟩ := p
    rw [List.lookup_cons]
    by_cases h : k = a
    · subst h
      have : l.lookup k = none := by
        cases hq : l.lookup k with
        | none => rfl
        | some v => exact absurd (List.mem_map.mpr ⟨(k, v), mem_of_look hq, rfl⟩) nd.1
      rw [this]; simp
    · have e : (k == a) = false := by simpa using h
      rw [e]
      dsimp only
      rw [if_neg h]
theorem fold_new {V : Type} : ∀ (l es : List (Int × V)), ((es ++ l).map (·.1)).Nodup → l.foldl (fun t p => kput t p.1 p.2) es = es ++ l
  | [], es, _ => by simp
  | p :: l, es, nd => by
    have hn : (es.lookup p.1).isSome = false := by
      cases hq : (es.lookup p.1).isSome with
      | false => rfl
      | true =>
        rw [look_keys] at hq
        rw [List.map_append, List.nodup_append] at nd
        exact absurd rfl (nd.2.2 p.1 hq p.1 (by simp))
    have e : kput es p.1 p.2 = es ++ [p] := by
      unfold kput
      rw [hn, if_neg (by decide)]
    rw [List.foldl_cons, e, fold_new l (es ++ [p]) (by rw [List.append_assoc]; exact nd), List.append_assoc]
    rfl
theorem lookF_mem {V : Type} {l : List (Nat × V)} {k : Nat} {v : V} (h : lookF l k = some v) : (k, v) ∈ l := by
  induction l with
  | nil => cases h
  | cons p t ih =>
    rw [lookF_cons] at h
    by_cases hk : p.1 = k
    · rw [if_pos hk] at h; cases h; rw [← hk]; exact .head _
    · rw [if_neg hk] at h; exact .tail _ (ih h)
theorem optEq_iff {o : Option Int} {v : Int} (h : optEq o v = true) : o = some v := by
  cases o with
  | none => cases h
  | some x =>
    have e : optEq (some x) v = ieqF x v := rfl
    rw [e, ieq_eq] at h
    rw [of_decide_eq_true h]
theorem noneF_iff {o : Option Int} (h : noneF o = true) : o = none := by
  cases o with
  | none => rfl
  | some x => cases h
end Mine
end
section
open PySem PySem.W PySem.Calls PyProof.Rows
set_option Elab.async false
set_option maxRecDepth 100000
set_option linter.unusedVariables false
namespace Mine
noncomputable def tHash (ks : List Int) : Int := reduceHash (Builtin.Tuple.tupleHashOf (ks.map hashInt))
theorem tHash_eq (c : Cx) (ks : List Int) : (TKd c).hash ks = tHash ks := rfl
noncomputable def codesL : List Nat := (List.range 5).flatMap fun r : Nat => (List.range 17).map fun q : Nat => r * 64 + (q + 2)
theorem hashes : (codesL.map fun u => tHash (dk u)).Nodup := by decide +kernel
theorem inj_map {α β : Type} {f : α → β} : ∀ {l : List α}, (l.map f).Nodup → ∀ a ∈ l, ∀ b ∈ l, f a = f b → a = b
  | [], _, a, ha, _, _, _ => by cases ha
  | x :: l, nd, a, ha, b, hb, e => by
    rw [List.map_cons, List.nodup_cons] at nd
    rcases List.mem_cons.mp ha with ea | ha
    · rcases List.mem_cons.mp hb with eb | hb
      · rw [ea, eb]
      · exact absurd (List.mem_map.mpr ⟨b, hb, (ea ▸ e).symm⟩) nd.1
    · rcases List.mem_cons.mp hb with eb | hb
      · exact absurd (List.mem_map.mpr ⟨a, ha, eb ▸ e⟩) nd.1
      · exact inj_map nd.2 a ha b hb e
theorem nodup_on {α β : Type} {f : α → β} {l : List α} (nd : l.Nodup) (h : ∀ a ∈ l, ∀ b ∈ l, f a = f b → a = b) : (l.map f).Nodup := by
  induction l with
  | nil => simp
  | cons x l ih =>
    rw [List.nodup_cons] at nd
    rw [List.map_cons, List.nodup_cons]
    refine ⟨fun hm => ?_, ih nd.2 fun a ha b hb => h a (.tail _ ha) b (.tail _ hb)⟩
    obtain ⟨y, hy, e⟩ := List.mem_map.mp hm
    have := h y (.tail _ hy) x (.head _) e
    exact nd.1 (this ▸ hy)
theorem in_codes {u : Nat} (h1 : u / 64 ≤ 4) (h2 : 2 ≤ u % 64) (h3 : u % 64 ≤ 18) : u ∈ codesL := by
  refine List.mem_flatMap.mpr ⟨u / 64, List.mem_range.mpr (by omega), List.mem_map.mpr ⟨u % 64 - 2, List.mem_range.mpr (by omega), by omega⟩⟩
theorem hash_nd {a0 : Nat} {br : List (Nat × Nat)} {es : TD} {P : Nat} (h : HInv a0 br es P) (hc : codesF ((a0, 0) :: br) = true) : (es.map fun p => tHash p.1).Nodup := by
  have hin : ∀ u, (u = a0 ∨ ∃ q ∈ br, q.1 = u) → u ∈ codesL := by
    intro u hu
    have : ∃ s ∈ (a0, 0) :: br, s.1 = u := by
      rcases hu with rfl | ⟨q, hq, e⟩
      · exact ⟨_, .head _, rfl⟩
      · exact ⟨q, .tail _ hq, e⟩
    obtain ⟨s, hs, rfl⟩ := this
    have := allF_mem hc s hs
    rw [Bool.and_eq_true, Bool.and_eq_true] at this
    exact in_codes (Nat.le_of_ble_eq_true this.1) (Nat.le_of_ble_eq_true this.2.1) (Nat.le_of_ble_eq_true this.2.2)
  have e : (es.map fun p => tHash p.1) = (es.map (·.1)).map tHash := by rw [List.map_map]; rfl
  rw [e]
  refine nodup_on h.nd fun a ha b hb e => ?_
  obtain ⟨p, hp, rfl⟩ := List.mem_map.mp ha
  obtain ⟨q, hq, rfl⟩ := List.mem_map.mp hb
  obtain ⟨u, hu, hu2⟩ := h.keys p hp
  obtain ⟨v, hv, hv2⟩ := h.keys q hq
  rw [hu, hv] at e ⊢
  rw [inj_map hashes u (hin u hu2) v (hin v hv2) e]
theorem told_ok {hs lows : TD} {P : Nat} {L : List (Nat × Nat)} {ed : List (Nat × Nat)} (hhs : ∀ u, hs.lookup (dk u) = decH (digF P u)) (e : lows = L.map dLow) (nd : (lows.map (·.1)).Nodup)
    (h : toldF P L ed = true) : ToldOk (toldOf hs lows) (ed.map dkE) := by
  have look : ∀ u, toF P L u ≠ 0 → (toldOf hs lows).lookup (dk u) = some ((toF P L u : Int) - 256) := by
    intro u hu
    unfold toldOf
    rw [fold_look (dk u) lows hs nd, e, low_look]
    have et : toF P L u = Option.rec (Nat.rec 0 (fun n _ => Nat.add n 193) (digF P u)) (fun v => v) (lookF L u) := rfl
    rw [et] at hu ⊢
    cases hl : lookF L u with
    | some v => rfl
    | none =>
      rw [hl] at hu
      rw [hhs]
      cases hd : digF P u with
      | zero => rw [hd] at hu; exact absurd rfl hu
      | succ n =>
        show some ((n : Int) + 1 - 64) = some (((n + 193 : Nat) : Int) - 256)
        congr 1; omega
  intro x hx
  obtain ⟨q, hq, rfl⟩ := List.mem_map.mp hx
  have := allF_mem h q hq
  change ((Nat.blt 0 (toF P L q.1) && Nat.blt 0 (toF P L q.2)) && (Nat.beq (toF P L q.2) (Nat.succ (toF P L q.1)) || Nat.beq (Nat.add (toF P L q.2) 3) (toF P L q.1))) = true at this
  rw [Bool.and_eq_true, Bool.and_eq_true, Bool.or_eq_true, Nat.beq_eq, Nat.beq_eq] at this
  have h1 : 0 < toF P L q.1 := Nat.le_of_ble_eq_true this.1.1
  have h2 : 0 < toF P L q.2 := Nat.le_of_ble_eq_true this.1.2
  have h3 : toF P L q.2 = toF P L q.1 + 1 ∨ toF P L q.2 + 3 = toF P L q.1 := this.2
  refine ⟨_, _, _, _, _, _, rfl, look q.2 (by omega), look q.1 (by omega), ?_⟩
  omega
theorem dist_open {D : DF} {L : List (Nat × Nat)} (h : distF D L = true) : D.length = 2 + L.length ∧ lookF D 0 = some (some 0) ∧ lookF D 1 = some none ∧
    (∀ p ∈ L, p.1 ≤ 1000 ∧ p.2 ≤ 1000 ∧ lookF D (p.1 + 32) = some (some (256 - (p.2 : Int)))) ∧
    ∀ q ∈ D, (q.1 = 0 ∧ q.2 = some 0) ∨ (q.1 = 1 ∧ q.2 = none) ∨ ∃ v : Nat, 32 ≤ q.1 ∧ lookF L (q.1 - 32) = some v ∧ q.2 = some (256 - (v : Int)) := by
  have e : distF D L = (Nat.beq D.length (Nat.add 2 L.length) && (optEq (dF D 0) 0 && (Option.rec false (fun o => noneF o) (lookF D 1) &&
    (allF (fun p : Nat × Nat => (Nat.ble p.1 1000 && Nat.ble p.2 1000) && optEq (dF D (Nat.add p.1 32)) (Int.subNatNat 256 p.2)) L && allF (fun p => rowD L p) D)))) := rfl
  rw [e, Bool.and_eq_true, Bool.and_eq_true, Bool.and_eq_true, Bool.and_eq_true] at h
  obtain ⟨h1, h2, h3, h4, h5⟩ := h
  have some_of : ∀ {k : Nat} {v : Int}, dF D k = some v → lookF D k = some (some v) := by
    intro k v hv
    rw [dF_eq] at hv
    cases hl : lookF D k with
    | none => rw [hl] at hv; cases hv
    | some o => rw [hl] at hv; exact congrArg some hv
  refine ⟨Nat.eq_of_beq_eq_true h1, some_of (optEq_iff h2), ?_, fun p hp => ?_, fun q hq => ?_⟩
  · cases hl : lookF D 1 with
    | none => rw [hl] at h3; cases h3
    | some o =>
      rw [hl] at h3
      exact congrArg some (noneF_iff h3)
  · have := allF_mem h4 p hp
    rw [Bool.and_eq_true, Bool.and_eq_true] at this
    refine ⟨Nat.le_of_ble_eq_true this.1.1, Nat.le_of_ble_eq_true this.1.2, ?_⟩
    have := some_of (optEq_iff this.2)
    rw [subNat_eq] at this
    exact this
  · have := allF_mem h5 q hq
    have e : rowD L q = Bool.rec (Bool.rec (Option.rec false (fun v => Nat.ble 32 q.1 && optEq q.2 (Int.subNatNat 256 v)) (lookF L (Nat.sub q.1 32))) (noneF q.2) (Nat.beq q.1 1)) (optEq q.2 0) (Nat.beq q.1 0) := rfl
    rw [e] at this
    cases h0 : Nat.beq q.1 0 with
    | true =>
      rw [h0] at this
      exact .inl ⟨Nat.eq_of_beq_eq_true h0, optEq_iff this⟩
    | false =>
      rw [h0] at this
      cases h1 : Nat.beq q.1 1 with
      | true =>
        rw [h1] at this
        exact .inr (.inl ⟨Nat.eq_of_beq_eq_true h1, noneF_iff this⟩)
      | false =>
        rw [h1] at this
        right; right
        cases hl : lookF L (Nat.sub q.1 32) with
        | none => rw [hl] at this; cases this
        | some v =>
          rw [hl] at this
          change (Nat.ble 32 q.1 && optEq q.2 (Int.subNatNat 256 v)) = true at this
          rw [Bool.and_eq_true] at this
          refine ⟨v, Nat.le_of_ble_eq_true this.1, rfl, ?_⟩
          have := optEq_iff this.2
          rw [subNat_eq] at this
          exact this
theorem idAt_dk (u : Nat) : idAt (dk u) = ((u + 32 : Nat) : Int) := by
  show ((u / 64 : Nat) : Int) * 64 + ((u % 64 : Nat) : Int) + 32 = _
  omega
noncomputable def dTime (far : Int) (p : Nat × Nat) : Int × Int := (((p.1 + 32 : Nat) : Int), -far - ((p.2 : Int) - 256))
theorem times_eq {far : Int} {L : List (Nat × Nat)} (nd : (L.map (·.1)).Nodup) : timesOf far (L.map dLow) = [(0, -far), (1, 0)] ++ L.map (dTime far) := by
  have e : timesOf far (L.map dLow) = (L.map (dTime far)).foldl (fun t p => kput t p.1 p.2) [(0, -far), (1, 0)] := by
    unfold timesOf
    rw [List.foldl_map, List.foldl_map]
    congr 1
    funext t p
    show kput t (idAt (dk p.1)) (-far - ((p.2 : Int) - 256)) = _
    rw [idAt_dk]; rfl
  rw [e]
  refine fold_new _ _ ?_
  have e2 : (L.map (dTime far)).map (·.1) = (L.map (·.1)).map fun u : Nat => ((u + 32 : Nat) : Int) := by rw [List.map_map, List.map_map]; rfl
  rw [List.map_append, e2, List.nodup_append]
  refine ⟨by simp, nodup_on nd fun a _ b _ e => by omega, fun a ha b hb e => ?_⟩
  obtain ⟨u, _, rfl⟩ := List.mem_map.mp hb
  subst e
  simp only [List.map_cons, List.map_nil, List.mem_cons, List.not_mem_nil, or_false] at ha
  omega
theorem time_look {far : Int} {L : List (Nat × Nat)} (k : Nat) : (L.map (dTime far)).lookup ((k + 32 : Nat) : Int) = (lookF L k).map fun v : Nat => -far - ((v : Int) - 256) := by
  induction L with
  | nil => rfl
  | cons p t ih =>
    rw [List.map_cons, lookF_cons]
    show List.lookup ((k + 32 : Nat) : Int) ((((p.1 + 32 : Nat) : Int), -far - ((p.2 : Int) - 256)) :: _) = _
    rw [List.lookup_cons]
    by_cases h : p.1 = k
    · rw [if_pos h, h, beq_self_eq_true]; rfl
    · have e : ((((k + 32 : Nat) : Int)) == ((p.1 + 32 : Nat) : Int)) = false := by rw [beq_eq_false_iff_ne]; omega
      rw [if_neg h, e]; exact ih
theorem dist_ok {far : Int} {D : DF} {L : List (Nat × Nat)} (nd : (L.map (·.1)).Nodup) (h : distF D L = true) : ((DD far D).length == (timesOf far (L.map dLow)).length && allIn (DD far D) (timesOf far (L.map dLow))) = true := by
  obtain ⟨h1, _, _, _, h5⟩ := dist_open h
  rw [times_eq nd, Bool.and_eq_true]
  constructor
  · rw [beq_iff_eq]
    unfold DD
    rw [List.length_map, List.length_append, List.length_map]
    exact h1
  · unfold allIn
    rw [List.all_eq_true]
    intro p hp
    obtain ⟨q, hq, rfl⟩ := List.mem_map.mp hp
    rw [beq_iff_eq]
    dsimp only
    rcases h5 q hq with ⟨e1, e2⟩ | ⟨e1, e2⟩ | ⟨v, e0, e1, e2⟩
    · rw [e1, e2]
      show some (-far) = some (0 - far)
      congr 1; omega
    · rw [e1, e2]; rfl
    · obtain ⟨k, hk⟩ : ∃ k, q.1 = k + 32 := ⟨q.1 - 32, by omega⟩
      rw [hk, Nat.add_sub_cancel] at e1
      rw [hk, e2]
      have a0 : ((((k + 32 : Nat) : Int)) == 0) = false := by rw [beq_eq_false_iff_ne]; omega
      have a1 : ((((k + 32 : Nat) : Int)) == 1) = false := by rw [beq_eq_false_iff_ne]; omega
      show List.lookup (((k + 32 : Nat) : Int)) ((0, -far) :: (1, 0) :: L.map (dTime far)) = _
      rw [List.lookup_cons, a0, List.lookup_cons, a1]
      dsimp only
      rw [time_look, e1]
      show some (-far - ((v : Int) - 256)) = some (256 - (v : Int) - far)
      congr 1; omega
theorem kput_some' {K V : Type} [BEq K] [LawfulBEq K] [DecidableEq K] {es : List (K × V)} {k k' : K} {v : V} (h : (es.lookup k').isSome = true) : ((kput es k v).lookup k').isSome = true := by
  rw [kput_lookup]; split
  · rfl
  · exact h
theorem tStep_some {t : TD} {q k : List Int} (h : (t.lookup k).isSome = true) : ((tStep t q).lookup k).isSome = true := kput_some' (kput_some' h)
theorem fold_some {k : List Int} : ∀ (l : List (List Int)) (t : TD), (t.lookup k).isSome = true → ((l.foldl tStep t).lookup k).isSome = true
  | [], t, h => h
  | q :: l, t, h => fold_some l _ (tStep_some h)
theorem tight_two {far : Int} (l : List (List Int)) (h : Int) : 2 ≤ (tightOf far (l ++ [[0, 0, h, h]])).length := by
  unfold tightOf
  rw [List.foldl_append]
  generalize ht : l.foldl tStep [([1, 0], -far)] = t
  have h1 : (t.lookup [1, 0]).isSome = true := by rw [← ht]; exact fold_some l _ rfl
  show 2 ≤ (tStep t [0, 0, h, h]).length
  have k1 := tStep_some (q := [0, 0, h, h]) h1
  have k2 : ((tStep t [0, 0, h, h]).lookup [0, 0]).isSome = true := by
    unfold tStep
    dsimp only
    rw [kput_lookup]
    rfl
  obtain ⟨a, ha⟩ := Option.isSome_iff_exists.mp k1
  obtain ⟨b, hb⟩ := Option.isSome_iff_exists.mp k2
  have ma := mem_of_look ha
  have mb := mem_of_look hb
  generalize tStep t [0, 0, h, h] = u at ma mb
  match u, ma, mb with
  | [], ma, _ => cases ma
  | [x], ma, mb =>
    rw [List.mem_singleton] at ma mb
    rw [← ma] at mb
    injection mb with e _
    injection e with e _
    omega
  | _ :: _ :: _, _, _ => simp
theorem held_ok {far : Int} (hf : 64 ≤ far) {n : Nat} {Sf : PS} {F : SF} (N : NI n Sf) (hn : n + 2 ≤ 64) (R : RS far Sf F) {L M : List (Nat × Nat)} (hL : ∀ p ∈ L, p.1 ≤ 1000) (h : heldF 100 F L M = true) : HeldOk 100 Sf (L.map dLow) (M.map dMet) := by
  intro x hx
  obtain ⟨p, hp, rfl⟩ := List.mem_map.mp hx
  have hp1 := hL p hp
  refine ⟨_, _, rfl, by omega, fun j hj0 hj3 => ⟨N.okIns hn _ _ _ _ _, ?_⟩⟩
  have h4 := allF_mem h p hp
  obtain ⟨J, hJ, e⟩ : ∃ J : Nat, J ∈ ([0, 4, 8] : List Nat) ∧ (J : Int) = 4 * j := by
    have : j = 0 ∨ j = 1 ∨ j = 2 := by omega
    rcases this with rfl | rfl | rfl
    · exact ⟨0, by simp, by omega⟩
    · exact ⟨4, by simp, by omega⟩
    · exact ⟨8, by simp, by omega⟩
  have h5 := allF_mem h4 J hJ
  change (Option.rec false (fun S' => beqF S'.sat (memF M p.1 (p.2 + J))) (insF 100 F 0 (Nat.add p.1 32) (Int.subNatNat (p.2 + J) 256) (Int.subNatNat (p.2 + J) 256)) : Bool) = true at h5
  rw [subNat_eq] at h5
  cases hi : insF 100 F 0 (Nat.add p.1 32) (((p.2 + J : Nat) : Int) - ((256 : Nat) : Int)) (((p.2 + J : Nat) : Int) - ((256 : Nat) : Int)) with
  | none => rw [hi] at h5; cases h5
  | some F' =>
    rw [hi] at h5
    change beqF F'.sat (memF M p.1 (p.2 + J)) = true at h5
    have hne : (0 : Nat) ≠ Nat.add p.1 32 := by show 0 ≠ p.1 + 32; omega
    have hne1 : Nat.add p.1 32 ≠ 1 := by show p.1 + 32 ≠ 1; omega
    obtain ⟨S', hs, RR⟩ := ins_sim hf R hne (by decide) hne1 hi
    have e1 : (dLow p).2 + 4 * j = ((p.2 + J : Nat) : Int) - ((256 : Nat) : Int) := by show (p.2 : Int) - 256 + 4 * j = _; omega
    have e2 : ((p.1 / 64 : Nat) : Int) * 64 + ((p.1 % 64 : Nat) : Int) + 32 = ((Nat.add p.1 32 : Nat) : Int) := by show _ = ((p.1 + 32 : Nat) : Int); omega
    refine ⟨S', ?_, ?_⟩
    · rw [e1, e2]; exact hs
    · rw [RR.sat]
      have e3 : ([((p.1 / 64 : Nat) : Int), ((p.1 % 64 : Nat) : Int), (dLow p).2 + 4 * j] : List Int) = dk p.1 ++ [(dLow p).2 + 4 * j] := rfl
      rw [e3, met_look M p.1 (p.2 + J) _ (by rw [e1]; rfl)]
      cases hF : F'.sat <;> rw [hF] at h5 <;> cases hm : memF M p.1 (p.2 + J) <;> rw [hm] at h5 <;> first | rfl | cases h5
end Mine
end
section
open PySem PySem.W PySem.Calls PyProof.Rows
set_option Elab.async false
set_option maxRecDepth 100000
set_option linter.unusedVariables false
namespace Mine
theorem node_ne (a u : Nat) : nodeF a u ≠ 1 := by
  cases a with
  | zero => show u + 32 ≠ 1; omega
  | succ n => show 0 ≠ 1; omega
theorem aq_ne {P : Nat} {ed : List (Nat × Nat)} : ∀ q ∈ aqF P ed, q.1 ≠ 1 ∧ q.2.1 ≠ 1 := by
  intro q hq
  rw [aqF_eq] at hq
  obtain ⟨e, _, rfl⟩ := List.mem_map.mp hq
  exact ⟨node_ne _ _, node_ne _ _⟩
theorem code_pair {k x : Nat} (hx : x < 64) : [(k : Int), (x : Int)] = dk (k * 64 + x) := (dk_code hx).symm
theorem law_more {rn : Rows} (g : Good rn) (hb : (borderF rn).length ≤ 60) {far : Int} (hf : 64 ≤ far) {dark : Nat} {ways : List Nat} {F : SF} {Sf : PS} (M : MoreF rn dark ways F) (hed : (edO rn dark).length ≤ 25)
    (hrun : netRun 100 (S0 far) (aqR (castR rn) (dark : Int)) = some Sf) (hS : Sf.sat = true) (hF : F.sat = true) (R : RS' far Sf F) :
    LawMore tHash (castR rn) (dark : Int) far 100 Sf (ways.map fun x : Nat => (x : Int)) := by
  have H := (heights_ok g hb dark).1
  have hrd := fun p hp => (g.2 p hp)
  have hst : ∀ i, i + 1 < rn.length → digF (hhF rn dark).1 ((i + 1) * 64 + maxF (rn.getD i (0, 0)).1 (rn.getD (i + 1) (0, 0)).1) ≠ 0 := fun i hi => by
    have := starts_of M.starts i hi
    rw [Nat.zero_add] at this
    exact this
  have LRr := lm_sim g (hs := hsR (castR rn) dark) (pl := plR (castR rn)) (dark := dark) H.look (pl_dig g) hst ways ([], []) ([], []) ⟨rfl, rfl, by simp⟩
  change LR (lmR (castR rn) dark (ways.map fun x : Nat => (x : Int))) (lmO rn dark ways) at LRr
  have hgetD : ∀ i, i < rn.length → 2 ≤ (rn.getD i (0, 0)).1 ∧ (rn.getD i (0, 0)).1 < (rn.getD i (0, 0)).2 ∧ (rn.getD i (0, 0)).2 ≤ 20 := fun i hi => by
    have : rn.getD i (0, 0) ∈ rn := by
      have e : rn[i]? = some (rn.getD i (0, 0)) := by simp [List.getD, hi]
      exact List.mem_of_getElem? e
    exact g.2 _ this
  obtain ⟨d1, d2, d3, d4, d5⟩ := dist_open M.dist
  have hlk : ∀ k o, lookF F.d k = some o → Sf.dist.lookup (k : Int) = some (gam far o) := fun k o e => by
    rw [R.dist, DD_look, e]; rfl
  have hlenA : (aqR (castR rn) (dark : Int)).length ≤ 26 := by
    rw [asked_eq g hb, List.length_append, List.length_map, aqF_eq, List.length_map]
    exact Nat.succ_le_succ hed
  have N := (NI.run _ (NI.start far) (by omega) hrun).2
  have T := (TI.run _ (TI.start far) hrun hS).2
  change TI Sf (tightOf far (aqR (castR rn) (dark : Int))) at T
  have P := lines_perm T N.nd N.sub
  have ndl : ((lmR (castR rn) (dark : Int) (ways.map fun x : Nat => (x : Int))).1.map (·.1)).Nodup := by
    rw [LRr.lows]
    have e : ((lmO rn dark ways).1.map dLow).map (·.1) = ((lmO rn dark ways).1.map (·.1)).map dk := by rw [List.map_map, List.map_map]; rfl
    rw [e]
    exact nodup_on LRr.nd fun a _ b _ e => dk_inj e
  exact {
    hH := fun i hi => by
      rw [List.length_map] at hi
      have g1 := hgetD i (by omega)
      have g2 := hgetD (i + 1) hi
      rw [getD_cast, getD_cast]
      dsimp only
      rw [← max_nat, show (i : Int) + 1 = ((i + 1 : Nat) : Int) from rfl, code_pair (by have := max_nat (rn.getD i (0, 0)).1 (rn.getD (i + 1) (0, 0)).1; omega), H.look]
      have := hst i hi
      cases hd : digF (hhF rn dark).1 ((i + 1) * 64 + maxF (rn.getD i (0, 0)).1 (rn.getD (i + 1) (0, 0)).1) with
      | zero => exact absurd hd this
      | succ n => rfl
    hP := fun i x hi hx1 hx2 => by
      rw [List.length_map] at hi
      rw [getD_cast, getD_cast] at hx1 hx2
      dsimp only at hx1 hx2
      have g1 := hgetD i (by omega)
      obtain ⟨n, rfl⟩ : ∃ n : Nat, x = (n : Int) := ⟨x.toNat, by omega⟩
      rw [code_pair (by omega)]
      have := sqF_in (rows := rn) (k := 0) (i := i) (x := n) (by omega) (by omega) (by omega)
      rw [Nat.zero_add] at this
      exact place_has g this
    h0 := by
      have := hlk 0 _ d2
      rw [show gam far (some 0) = 0 - far from rfl, Int.zero_sub] at this
      exact this
    h1 := hlk 1 _ d3
    lows := fun p hp => by
      rw [LRr.lows] at hp
      obtain ⟨q, hq, rfl⟩ := List.mem_map.mp hp
      obtain ⟨q1, q2, q3⟩ := d4 q hq
      refine ⟨_, _, rfl, by omega, by show ((q.2 : Int) - 256).natAbs < 1000000; omega, ?_⟩
      have := hlk _ _ q3
      have e : ((q.1 / 64 : Nat) : Int) * 64 + ((q.1 % 64 : Nat) : Int) + 32 = ((q.1 + 32 : Nat) : Int) := by omega
      rw [e, this]
      show some (256 - (q.2 : Int) - far) = some (-far - ((q.2 : Int) - 256))
      congr 1; omega
    ndl := ndl
    lz := by rw [LRr.lows, List.length_map]; exact M.len
    hnd := hash_nd H M.codes
    told := by
      rw [show edR (castR rn) (dark : Int) = _ from edges_eq g dark]
      exact told_ok H.look LRr.lows ndl M.told
    told2 := fun p hp => by
      unfold toldOf
      rw [fold_look p.1 _ _ ndl, lookup_nd ndl hp]
    held := by
      rw [LRr.lows, LRr.met]
      exact held_ok hf N (by omega) ⟨hS.trans hF.symm, fun _ => R⟩ (fun p hp => (d4 p hp).1) M.held
    dist := by
      rw [LRr.lows, R.dist]
      exact dist_ok LRr.nd M.dist
    nd := N.nd
    ndC := N.ndC
    sub := N.sub
    c64 := fun k => Nat.le_trans (N.ch k).1 (by omega)
    l2 := by
      rw [P.length_eq, List.length_map, asked_eq g hb]
      exact tight_two _ _
    l63 := by
      rw [P.length_eq, List.length_map]
      have := fold_len (aqR (castR rn) (dark : Int)) [([1, 0], -far)]
      change (tightOf far (aqR (castR rn) (dark : Int))).length ≤ 1 + _ at this
      omega
    lnd := lines_nd N.nd
    tk := T.keys
    tnd := T.nd
    perm := P }
theorem decP_le {d : Nat} (h : d < 256) : (decP d).getD (-1) ≤ 1000 := by
  cases d with
  | zero => show (-1 : Int) ≤ 1000; decide
  | succ n => show (n : Int) ≤ 1000; omega
theorem law_ok {rn : Rows} (h : rowsF rn = true) {far : Int} (hf : 64 ≤ far) {dark : Nat} (hd : dark = 0 ∨ dark = 1) : ∃ Sf ways, LawOk tHash (castR rn) (dark : Int) far 100 200 Sf ways := by
  obtain ⟨g, ways, hw, hw1, hb, k0, k1⟩ := rows_open h
  have hD : darkF rn (sqF rn 0) (PLo rn) (borderF rn) ways dark = true := by
    rcases hd with rfl | rfl
    · exact k0
    · exact k1
  obtain ⟨hed, F, hr, u0, u1⟩ := dark_open hD
  have H := heights_ok g hb dark
  obtain ⟨Sf, hrun, hsat, R⟩ := net_ok hf aq_ne hr (((hhF rn dark).2 : Int) - 64)
  rw [← asked_eq g hb dark] at hrun
  have hlenA : (aqR (castR rn) (dark : Int)).length ≤ 26 := by
    rw [asked_eq g hb, List.length_append, List.length_map, aqF_eq, List.length_map]
    exact Nat.succ_le_succ hed
  obtain ⟨O, N⟩ := NI.run _ (NI.start far) (by omega) hrun
  refine ⟨Sf, ways.map fun x : Nat => (x : Int), ?_⟩
  exact {
    len1 := by rw [List.length_map]; exact g.1.1
    len4 := by rw [List.length_map]; exact g.1.2
    hb := fun p hp => by
      obtain ⟨q, hq, rfl⟩ := List.mem_map.mp hp
      have := g.2 q hq
      dsimp only
      omega
    sqz := by
      rw [sq_eq (fun p hp => (g.2 p hp).2.2), List.length_map]
      have := sqF_len g.two 0
      have := g.1
      omega
    bz := by
      rw [(border_ok g).len]; omega
    hf := by decide
    hfw := by decide
    ok := O
    run := hrun
    dz := by have := N.dl; omega
    cz := by have := N.cl; omega
    wr := ways_ok g hw
    wl := by rw [List.length_map]; exact hw1
    r2 := fun x hx => by
      rw [rt_eq g] at hx
      obtain ⟨u, _, rfl⟩ := List.mem_map.mp hx
      exact decP_le (digF_lt _ _)
    b2 := fun x hx => by
      rw [bl_eq g] at hx
      obtain ⟨u, _, rfl⟩ := List.mem_map.mp hx
      exact decP_le (digF_lt _ _)
    sat := by
      rw [hsat]
      cases hq : ways with
      | nil =>
        have := u0 hq
        show _ = false
        cases hs : F.sat with
        | false => rfl
        | true =>
          rw [Bool.true_and, decide_eq_false_iff_not]
          intro e
          exact this ⟨hs, by omega⟩
      | cons w ws =>
        obtain ⟨v1, v2, _⟩ := u1 (by rw [hq]; simp)
        rw [v1, v2]; rfl
    more := fun hne => by
      have hne : ways ≠ [] := fun e => hne (by rw [e]; rfl)
      obtain ⟨v1, v2, M⟩ := u1 hne
      have e0 : ((hhF rn dark).2 : Int) - 64 = 0 := by rw [v2]; rfl
      exact law_more g hb hf M hed hrun (by rw [hsat, v1, e0]; rfl) v1 (R v1 e0) }
end Mine
end
section
open PySem PySem.W PySem.Calls PyProof.Rows
set_option Elab.async false
set_option maxRecDepth 100000
set_option linter.unusedVariables false
namespace Mine
noncomputable section
/-- all rows that go on from the rows so far (in reverse) -/
noncomputable def allRows (ws : List Nat) (n : Nat) : Rows → Bool := Nat.rec (fun acc => rowsF acc.reverse) (fun _ ih acc =>
  allF (fun w => List.rec (ih [(8, Nat.add 8 w)]) (fun p _ _ => allF (fun a => ih ((a, Nat.add a w) :: acc)) (upF (Nat.sub (Nat.succ p.1) w) (Nat.pred (Nat.add (Nat.sub p.2 p.1) w)))) acc) ws) n
end
theorem t3_1_1_8 : allRows [1, 2, 3, 4] 1 [(8, 9), (8, 9)] = true := by decide +kernel
theorem t3_1_2_7 : allRows [1, 2, 3, 4] 1 [(7, 9), (8, 9)] = true := by decide +kernel
theorem t3_1_2_8 : allRows [1, 2, 3, 4] 1 [(8, 10), (8, 9)] = true := by decide +kernel
theorem t3_1_3_6 : allRows [1, 2, 3, 4] 1 [(6, 9), (8, 9)] = true := by decide +kernel
theorem t3_1_3_7 : allRows [1, 2, 3, 4] 1 [(7, 10), (8, 9)] = true := by decide +kernel
theorem t3_1_3_8 : allRows [1, 2, 3, 4] 1 [(8, 11), (8, 9)] = true := by decide +kernel
theorem t3_1_4_5 : allRows [1, 2, 3, 4] 1 [(5, 9), (8, 9)] = true := by decide +kernel
theorem t3_1_4_6 : allRows [1, 2, 3, 4] 1 [(6, 10), (8, 9)] = true := by decide +kernel
theorem t3_1_4_7 : allRows [1, 2, 3, 4] 1 [(7, 11), (8, 9)] = true := by decide +kernel
theorem t3_1_4_8 : allRows [1, 2, 3, 4] 1 [(8, 12), (8, 9)] = true := by decide +kernel
theorem t3_2_1_8 : allRows [1, 2, 3, 4] 1 [(8, 9), (8, 10)] = true := by decide +kernel
theorem t3_2_1_9 : allRows [1, 2, 3, 4] 1 [(9, 10), (8, 10)] = true := by decide +kernel
theorem t3_2_2_7 : allRows [1, 2, 3, 4] 1 [(7, 9), (8, 10)] = true := by decide +kernel
theorem t3_2_2_8 : allRows [1, 2, 3, 4] 1 [(8, 10), (8, 10)] = true := by decide +kernel
theorem t3_2_2_9 : allRows [1, 2, 3, 4] 1 [(9, 11), (8, 10)] = true := by decide +kernel
theorem t3_2_3_6 : allRows [1, 2, 3, 4] 1 [(6, 9), (8, 10)] = true := by decide +kernel
theorem t3_2_3_7 : allRows [1, 2, 3, 4] 1 [(7, 10), (8, 10)] = true := by decide +kernel
theorem t3_2_3_8 : allRows [1, 2, 3, 4] 1 [(8, 11), (8, 10)] = true := by decide +kernel
theorem t3_2_3_9 : allRows [1, 2, 3, 4] 1 [(9, 12), (8, 10)] = true := by decide +kernel
theorem t3_2_4_5 : allRows [1, 2, 3, 4] 1 [(5, 9), (8, 10)] = true := by decide +kernel
theorem t3_2_4_6 : allRows [1, 2, 3, 4] 1 [(6, 10), (8, 10)] = true := by decide +kernel
theorem t3_2_4_7 : allRows [1, 2, 3, 4] 1 [(7, 11), (8, 10)] = true := by decide +kernel
theorem t3_2_4_8 : allRows [1, 2, 3, 4] 1 [(8, 12), (8, 10)] = true := by decide +kernel
theorem t3_2_4_9 : allRows [1, 2, 3, 4] 1 [(9, 13), (8, 10)] = true := by decide +kernel
theorem t3_3_1_8 : allRows [1, 2, 3, 4] 1 [(8, 9), (8, 11)] = true := by decide +kernel
theorem t3_3_1_9 : allRows [1, 2, 3, 4] 1 [(9, 10), (8, 11)] = true := by decide +kernel
theorem t3_3_1_10 : allRows [1, 2, 3, 4] 1 [(10, 11), (8, 11)] = true := by decide +kernel
theorem t3_3_2_7 : allRows [1, 2, 3, 4] 1 [(7, 9), (8, 11)] = true := by decide +kernel
theorem t3_3_2_8 : allRows [1, 2, 3, 4] 1 [(8, 10), (8, 11)] = true := by decide +kernel
theorem t3_3_2_9 : allRows [1, 2, 3, 4] 1 [(9, 11), (8, 11)] = true := by decide +kernel
theorem t3_3_2_10 : allRows [1, 2, 3, 4] 1 [(10, 12), (8, 11)] = true := by decide +kernel
theorem t3_3_3_6 : allRows [1, 2, 3, 4] 1 [(6, 9), (8, 11)] = true := by decide +kernel
theorem t3_3_3_7 : allRows [1, 2, 3, 4] 1 [(7, 10), (8, 11)] = true := by decide +kernel
theorem t3_3_3_8 : allRows [1, 2, 3, 4] 1 [(8, 11), (8, 11)] = true := by decide +kernel
theorem t3_3_3_9 : allRows [1, 2, 3, 4] 1 [(9, 12), (8, 11)] = true := by decide +kernel
theorem t3_3_3_10 : allRows [1, 2, 3, 4] 1 [(10, 13), (8, 11)] = true := by decide +kernel
theorem t3_3_4_5 : allRows [1, 2, 3, 4] 1 [(5, 9), (8, 11)] = true := by decide +kernel
theorem t3_3_4_6 : allRows [1, 2, 3, 4] 1 [(6, 10), (8, 11)] = true := by decide +kernel
theorem t3_3_4_7 : allRows [1, 2, 3, 4] 1 [(7, 11), (8, 11)] = true := by decide +kernel
theorem t3_3_4_8 : allRows [1, 2, 3, 4] 1 [(8, 12), (8, 11)] = true := by decide +kernel
theorem t3_3_4_9 : allRows [1, 2, 3, 4] 1 [(9, 13), (8, 11)] = true := by decide +kernel
theorem t3_3_4_10 : allRows [1, 2, 3, 4] 1 [(10, 14), (8, 11)] = true := by decide +kernel
theorem t3_4_1_8 : allRows [1, 2, 3, 4] 1 [(8, 9), (8, 12)] = true := by decide +kernel
theorem t3_4_1_9 : allRows [1, 2, 3, 4] 1 [(9, 10), (8, 12)] = true := by decide +kernel
theorem t3_4_1_10 : allRows [1, 2, 3, 4] 1 [(10, 11), (8, 12)] = true := by decide +kernel
theorem t3_4_1_11 : allRows [1, 2, 3, 4] 1 [(11, 12), (8, 12)] = true := by decide +kernel
theorem t3_4_2_7 : allRows [1, 2, 3, 4] 1 [(7, 9), (8, 12)] = true := by decide +kernel
theorem t3_4_2_8 : allRows [1, 2, 3, 4] 1 [(8, 10), (8, 12)] = true := by decide +kernel
theorem t3_4_2_9 : allRows [1, 2, 3, 4] 1 [(9, 11), (8, 12)] = true := by decide +kernel
theorem t3_4_2_10 : allRows [1, 2, 3, 4] 1 [(10, 12), (8, 12)] = true := by decide +kernel
theorem t3_4_2_11 : allRows [1, 2, 3, 4] 1 [(11, 13), (8, 12)] = true := by decide +kernel
theorem t3_4_3_6 : allRows [1, 2, 3, 4] 1 [(6, 9), (8, 12)] = true := by decide +kernel
theorem t3_4_3_7 : allRows [1, 2, 3, 4] 1 [(7, 10), (8, 12)] = true := by decide +kernel
theorem t3_4_3_8 : allRows [1, 2, 3, 4] 1 [(8, 11), (8, 12)] = true := by decide +kernel
theorem t3_4_3_9 : allRows [1, 2, 3, 4] 1 [(9, 12), (8, 12)] = true := by decide +kernel
theorem t3_4_3_10 : allRows [1, 2, 3, 4] 1 [(10, 13), (8, 12)] = true := by decide +kernel
theorem t3_4_3_11 : allRows [1, 2, 3, 4] 1 [(11, 14), (8, 12)] = true := by decide +kernel
theorem t3_4_4_5 : allRows [1, 2, 3, 4] 1 [(5, 9), (8, 12)] = true := by decide +kernel
theorem t3_4_4_6 : allRows [1, 2, 3, 4] 1 [(6, 10), (8, 12)] = true := by decide +kernel
theorem t3_4_4_7 : allRows [1, 2, 3, 4] 1 [(7, 11), (8, 12)] = true := by decide +kernel
theorem t3_4_4_8 : allRows [1, 2, 3, 4] 1 [(8, 12), (8, 12)] = true := by decide +kernel
theorem t3_4_4_9 : allRows [1, 2, 3, 4] 1 [(9, 13), (8, 12)] = true := by decide +kernel
theorem t3_4_4_10 : allRows [1, 2, 3, 4] 1 [(10, 14), (8, 12)] = true := by decide +kernel
theorem t3_4_4_11 : allRows [1, 2, 3, 4] 1 [(11, 15), (8, 12)] = true := by decide +kernel
theorem all3 : ∀ w1 w2 a : Nat, (w1 = 1 ∨ w1 = 2 ∨ w1 = 3 ∨ w1 = 4) → (w2 = 1 ∨ w2 = 2 ∨ w2 = 3 ∨ w2 = 4) → 9 - w2 ≤ a → a < 9 - w2 + (w1 + w2 - 1) → allRows [1, 2, 3, 4] 1 [(a, a + w2), (8, 8 + w1)] = true := by
  rintro w1 w2 a (rfl | rfl | rfl | rfl) (rfl | rfl | rfl | rfl) h1 h2
  · have h : a = 8 := by omega
    subst h
    exact t3_1_1_8
  · have h : a = 7 ∨ a = 8 := by omega
    rcases h with rfl | rfl
    · exact t3_1_2_7
    · exact t3_1_2_8
  · have h : a = 6 ∨ a = 7 ∨ a = 8 := by omega
    rcases h with rfl | rfl | rfl
    · exact t3_1_3_6
    · exact t3_1_3_7
    · exact t3_1_3_8
  · have h : a = 5 ∨ a = 6 ∨ a = 7 ∨ a = 8 := by omega
    rcases h with rfl | rfl | rfl | rfl
    · exact t3_1_4_5
    · exact t3_1_4_6
    · exact t3_1_4_7
    · exact t3_1_4_8
  · have h : a = 8 ∨ a = 9 := by omega
    rcases h with rfl | rfl
    · exact t3_2_1_8
    · exact t3_2_1_9
  · have h : a = 7 ∨ a = 8 ∨ a = 9 := by omega
    rcases h with rfl | rfl | rfl
    · exact t3_2_2_7
    · exact t3_2_2_8
    · exact t3_2_2_9
  · have h : a = 6 ∨ a = 7 ∨ a = 8 ∨ a = 9 := by omega
    rcases h with rfl | rfl | rfl | rfl
    · exact t3_2_3_6
    · exact t3_2_3_7
    · exact t3_2_3_8
    · exact t3_2_3_9
  · have h : a = 5 ∨ a = 6 ∨ a = 7 ∨ a = 8 ∨ a = 9 := by omega
    rcases h with rfl | rfl | rfl | rfl | rfl
    · exact t3_2_4_5
    · exact t3_2_4_6
    · exact t3_2_4_7
    · exact t3_2_4_8
    · exact t3_2_4_9
  · have h : a = 8 ∨ a = 9 ∨ a = 10 := by omega
    rcases h with rfl | rfl | rfl
    · exact t3_3_1_8
    · exact t3_3_1_9
    · exact t3_3_1_10
  · have h : a = 7 ∨ a = 8 ∨ a = 9 ∨ a = 10 := by omega
    rcases h with rfl | rfl | rfl | rfl
    · exact t3_3_2_7
    · exact t3_3_2_8
    · exact t3_3_2_9
    · exact t3_3_2_10
  · have h : a = 6 ∨ a = 7 ∨ a = 8 ∨ a = 9 ∨ a = 10 := by omega
    rcases h with rfl | rfl | rfl | rfl | rfl
    · exact t3_3_3_6
    · exact t3_3_3_7
    · exact t3_3_3_8
    · exact t3_3_3_9
    · exact t3_3_3_10
  · have h : a = 5 ∨ a = 6 ∨ a = 7 ∨ a = 8 ∨ a = 9 ∨ a = 10 := by omega
    rcases h with rfl | rfl | rfl | rfl | rfl | rfl
    · exact t3_3_4_5
    · exact t3_3_4_6
    · exact t3_3_4_7
    · exact t3_3_4_8
    · exact t3_3_4_9
    · exact t3_3_4_10
  · have h : a = 8 ∨ a = 9 ∨ a = 10 ∨ a = 11 := by omega
    rcases h with rfl | rfl | rfl | rfl
    · exact t3_4_1_8
    · exact t3_4_1_9
    · exact t3_4_1_10
    · exact t3_4_1_11
  · have h : a = 7 ∨ a = 8 ∨ a = 9 ∨ a = 10 ∨ a = 11 := by omega
    rcases h with rfl | rfl | rfl | rfl | rfl
    · exact t3_4_2_7
    · exact t3_4_2_8
    · exact t3_4_2_9
    · exact t3_4_2_10
    · exact t3_4_2_11
  · have h : a = 6 ∨ a = 7 ∨ a = 8 ∨ a = 9 ∨ a = 10 ∨ a = 11 := by omega
    rcases h with rfl | rfl | rfl | rfl | rfl | rfl
    · exact t3_4_3_6
    · exact t3_4_3_7
    · exact t3_4_3_8
    · exact t3_4_3_9
    · exact t3_4_3_10
    · exact t3_4_3_11
  · have h : a = 5 ∨ a = 6 ∨ a = 7 ∨ a = 8 ∨ a = 9 ∨ a = 10 ∨ a = 11 := by omega
    rcases h with rfl | rfl | rfl | rfl | rfl | rfl | rfl
    · exact t3_4_4_5
    · exact t3_4_4_6
    · exact t3_4_4_7
    · exact t3_4_4_8
    · exact t3_4_4_9
    · exact t3_4_4_10
    · exact t3_4_4_11
theorem t4_1_1_8 : allRows [1, 2, 3] 2 [(8, 9), (8, 9)] = true := by decide +kernel
theorem t4_1_2_7 : allRows [1, 2, 3] 2 [(7, 9), (8, 9)] = true := by decide +kernel
theorem t4_1_2_8 : allRows [1, 2, 3] 2 [(8, 10), (8, 9)] = true := by decide +kernel
theorem t4_1_3_6 : allRows [1, 2, 3] 2 [(6, 9), (8, 9)] = true := by decide +kernel
theorem t4_1_3_7 : allRows [1, 2, 3] 2 [(7, 10), (8, 9)] = true := by decide +kernel
theorem t4_1_3_8 : allRows [1, 2, 3] 2 [(8, 11), (8, 9)] = true := by decide +kernel
theorem t4_2_1_8 : allRows [1, 2, 3] 2 [(8, 9), (8, 10)] = true := by decide +kernel
theorem t4_2_1_9 : allRows [1, 2, 3] 2 [(9, 10), (8, 10)] = true := by decide +kernel
theorem t4_2_2_7 : allRows [1, 2, 3] 2 [(7, 9), (8, 10)] = true := by decide +kernel
theorem t4_2_2_8 : allRows [1, 2, 3] 2 [(8, 10), (8, 10)] = true := by decide +kernel
theorem t4_2_2_9 : allRows [1, 2, 3] 2 [(9, 11), (8, 10)] = true := by decide +kernel
theorem t4_2_3_6 : allRows [1, 2, 3] 2 [(6, 9), (8, 10)] = true := by decide +kernel
theorem t4_2_3_7 : allRows [1, 2, 3] 2 [(7, 10), (8, 10)] = true := by decide +kernel
theorem t4_2_3_8 : allRows [1, 2, 3] 2 [(8, 11), (8, 10)] = true := by decide +kernel
theorem t4_2_3_9 : allRows [1, 2, 3] 2 [(9, 12), (8, 10)] = true := by decide +kernel
theorem t4_3_1_8 : allRows [1, 2, 3] 2 [(8, 9), (8, 11)] = true := by decide +kernel
theorem t4_3_1_9 : allRows [1, 2, 3] 2 [(9, 10), (8, 11)] = true := by decide +kernel
theorem t4_3_1_10 : allRows [1, 2, 3] 2 [(10, 11), (8, 11)] = true := by decide +kernel
theorem t4_3_2_7 : allRows [1, 2, 3] 2 [(7, 9), (8, 11)] = true := by decide +kernel
theorem t4_3_2_8 : allRows [1, 2, 3] 2 [(8, 10), (8, 11)] = true := by decide +kernel
theorem t4_3_2_9 : allRows [1, 2, 3] 2 [(9, 11), (8, 11)] = true := by decide +kernel
theorem t4_3_2_10 : allRows [1, 2, 3] 2 [(10, 12), (8, 11)] = true := by decide +kernel
theorem t4_3_3_6 : allRows [1, 2, 3] 2 [(6, 9), (8, 11)] = true := by decide +kernel
theorem t4_3_3_7 : allRows [1, 2, 3] 2 [(7, 10), (8, 11)] = true := by decide +kernel
theorem t4_3_3_8 : allRows [1, 2, 3] 2 [(8, 11), (8, 11)] = true := by decide +kernel
theorem t4_3_3_9 : allRows [1, 2, 3] 2 [(9, 12), (8, 11)] = true := by decide +kernel
theorem t4_3_3_10 : allRows [1, 2, 3] 2 [(10, 13), (8, 11)] = true := by decide +kernel
theorem all4 : ∀ w1 w2 a : Nat, (w1 = 1 ∨ w1 = 2 ∨ w1 = 3) → (w2 = 1 ∨ w2 = 2 ∨ w2 = 3) → 9 - w2 ≤ a → a < 9 - w2 + (w1 + w2 - 1) → allRows [1, 2, 3] 2 [(a, a + w2), (8, 8 + w1)] = true := by
  rintro w1 w2 a (rfl | rfl | rfl) (rfl | rfl | rfl) h1 h2
  · have h : a = 8 := by omega
    subst h
    exact t4_1_1_8
  · have h : a = 7 ∨ a = 8 := by omega
    rcases h with rfl | rfl
    · exact t4_1_2_7
    · exact t4_1_2_8
  · have h : a = 6 ∨ a = 7 ∨ a = 8 := by omega
    rcases h with rfl | rfl | rfl
    · exact t4_1_3_6
    · exact t4_1_3_7
    · exact t4_1_3_8
  · have h : a = 8 ∨ a = 9 := by omega
    rcases h with rfl | rfl
    · exact t4_2_1_8
    · exact t4_2_1_9
  · have h : a = 7 ∨ a = 8 ∨ a = 9 := by omega
    rcases h with rfl | rfl | rfl
    · exact t4_2_2_7
    · exact t4_2_2_8
    · exact t4_2_2_9
  · have h : a = 6 ∨ a = 7 ∨ a = 8 ∨ a = 9 := by omega
    rcases h with rfl | rfl | rfl | rfl
    · exact t4_2_3_6
    · exact t4_2_3_7
    · exact t4_2_3_8
    · exact t4_2_3_9
  · have h : a = 8 ∨ a = 9 ∨ a = 10 := by omega
    rcases h with rfl | rfl | rfl
    · exact t4_3_1_8
    · exact t4_3_1_9
    · exact t4_3_1_10
  · have h : a = 7 ∨ a = 8 ∨ a = 9 ∨ a = 10 := by omega
    rcases h with rfl | rfl | rfl | rfl
    · exact t4_3_2_7
    · exact t4_3_2_8
    · exact t4_3_2_9
    · exact t4_3_2_10
  · have h : a = 6 ∨ a = 7 ∨ a = 8 ∨ a = 9 ∨ a = 10 := by omega
    rcases h with rfl | rfl | rfl | rfl | rfl
    · exact t4_3_3_6
    · exact t4_3_3_7
    · exact t4_3_3_8
    · exact t4_3_3_9
    · exact t4_3_3_10
end Mine
end
section
open PySem PySem.W PySem.Calls PyProof.Rows
set_option Elab.async false
set_option maxRecDepth 100000
set_option linter.unusedVariables false
namespace Mine
theorem allRows_succ (ws : List Nat) (n : Nat) (p : Nat × Nat) (t : Rows) : allRows ws (n + 1) (p :: t) = allF (fun w => allF (fun a => allRows ws n ((a, Nat.add a w) :: p :: t)) (upF (Nat.sub (Nat.succ p.1) w) (Nat.pred (Nat.add (Nat.sub p.2 p.1) w)))) ws := rfl
/-- the next row -/
theorem next_row {ns : List Int} {T r w : Nat} {p : Nat × Nat} {t : Rows} (hw : widthOf ns T r = (w : Int)) (h1 : 1 ≤ w) (hp : p.1 < p.2) (hwp : w ≤ p.1 + 1) (e : rowsN ns T r = castR (p :: t).reverse) :
    ∃ a : Nat, p.1 + 1 - w ≤ a ∧ a < p.1 + 1 - w + (p.2 - p.1 + w - 1) ∧ rowsN ns T (r + 1) = castR ((a, a + w) :: p :: t).reverse := by
  have hne : rowsN ns T r ≠ [] := by rw [e]; simp
  have hlast : lastD (rowsN ns T r) = ((p.1 : Int), (p.2 : Int)) := by
    rw [e]
    unfold lastD
    simp [List.getD]
  have hd := draw_pos (ns := ns) (p := 2 * (r : Int) + 3) (m := (p.2 : Int) - (p.1 : Int) + (w : Int) - 1) (by omega)
  have hl : leftOf ns r (w : Int) (rowsN ns T r) = (p.1 : Int) - (w : Int) + 1 + draw ns (2 * (r : Int) + 3) ((p.2 : Int) - (p.1 : Int) + (w : Int) - 1) := by
    unfold leftOf
    rw [if_neg hne, hlast]
  generalize draw ns (2 * (r : Int) + 3) ((p.2 : Int) - (p.1 : Int) + (w : Int) - 1) = d at hd hl
  refine ⟨p.1 + 1 - w + d.toNat, by omega, by omega, ?_⟩
  have e1 : rowsN ns T (r + 1) = rowsN ns T r ++ [(leftOf ns r (widthOf ns T r) (rowsN ns T r), leftOf ns r (widthOf ns T r) (rowsN ns T r) + widthOf ns T r)] := rfl
  have ea : leftOf ns r (w : Int) (rowsN ns T r) = ((p.1 + 1 - w + d.toNat : Nat) : Int) := by rw [hl]; omega
  rw [e1, hw, ea, e, List.reverse_cons (a := (p.1 + 1 - w + d.toNat, p.1 + 1 - w + d.toNat + w))]
  unfold castR
  rw [List.map_append]
  rfl
theorem rows_sound {ns : List Int} {T : Nat} {ws : List Nat} {W : Nat} (hws : ∀ r, ∃ w : Nat, w ∈ ws ∧ widthOf ns T r = (w : Int)) (hW : ∀ w ∈ ws, 1 ≤ w ∧ w ≤ W + 1) :
    ∀ (n r : Nat) (p : Nat × Nat) (t : Rows), p.1 < p.2 → W * n ≤ p.1 → rowsN ns T r = castR (p :: t).reverse → allRows ws n (p :: t) = true → ∃ rn, rowsF rn = true ∧ rowsN ns T (r + n) = castR rn
  | 0, r, p, t, hp, hn, e, h => ⟨(p :: t).reverse, h, e⟩
  | n + 1, r, p, t, hp, hn, e, h => by
    obtain ⟨w, hw, ew⟩ := hws r
    have hw1 := hW w hw
    have hn' : W * n + W ≤ p.1 := by rw [Nat.mul_succ] at hn; exact hn
    obtain ⟨a, h1, h2, e2⟩ := next_row ew hw1.1 hp (by omega) e
    rw [allRows_succ] at h
    have h3 := allF_mem (allF_mem h w hw) a (by rw [upF_mem]; exact ⟨h1, h2⟩)
    have := rows_sound hws hW n (r + 1) (a, a + w) (p :: t) (by dsimp only; omega) (by dsimp only; omega) e2 h3
    have e3 : r + (n + 1) = r + 1 + n := by omega
    rw [e3]; exact this
theorem first_row {ns : List Int} {T w : Nat} (hw : widthOf ns T 0 = (w : Int)) : rowsN ns T 1 = castR [(8, 8 + w)] := by
  show [(leftOf ns 0 (widthOf ns T 0) [], leftOf ns 0 (widthOf ns T 0) [] + widthOf ns T 0)] = _
  rw [hw]; rfl
theorem two_rows {ns : List Int} {T : Nat} {ws : List Nat} {W : Nat} (hws : ∀ r, ∃ w : Nat, w ∈ ws ∧ widthOf ns T r = (w : Int)) (hW : ∀ w ∈ ws, 1 ≤ w ∧ w ≤ W + 1) (hW3 : W ≤ 3) {n : Nat} (hn : W * (n + 1) ≤ 8)
    (H : ∀ w1 w2 a : Nat, w1 ∈ ws → w2 ∈ ws → 9 - w2 ≤ a → a < 9 - w2 + (w1 + w2 - 1) → allRows ws n [(a, a + w2), (8, 8 + w1)] = true) : ∃ rn, rowsF rn = true ∧ rowsN ns T (2 + n) = castR rn := by
  obtain ⟨w1, h1, e1⟩ := hws 0
  obtain ⟨w2, h2, e2⟩ := hws 1
  have b1 := hW w1 h1
  have b2 := hW w2 h2
  rw [Nat.mul_succ] at hn
  obtain ⟨a, h3, h4, e3⟩ := next_row e2 b2.1 (p := (8, 8 + w1)) (t := []) (by dsimp only; omega) (by dsimp only; omega) (first_row e1)
  dsimp only at h3 h4
  exact rows_sound hws hW n 2 (a, a + w2) [(8, 8 + w1)] (by dsimp only; omega) (by dsimp only; omega) e3 (H w1 w2 a h1 h2 (by omega) (by omega))
theorem wide3 (ns : List Int) (r : Nat) : ∃ w : Nat, w ∈ [1, 2, 3, 4] ∧ widthOf ns 3 r = (w : Int) := by
  have h := draw_pos (ns := ns) (p := 2 * (r : Int) + 2) (m := 6) (by decide)
  unfold widthOf
  generalize draw ns (2 * (r : Int) + 2) 6 = d at h ⊢
  have : ∀ k : Nat, k < 6 → ∃ w : Nat, w ∈ [1, 2, 3, 4] ∧ (if (3 : Nat) = 3 then wideL else slimL).getD k 0 = (w : Int) := by
    intro k hk
    have : k = 0 ∨ k = 1 ∨ k = 2 ∨ k = 3 ∨ k = 4 ∨ k = 5 := by omega
    rcases this with rfl | rfl | rfl | rfl | rfl | rfl
    · exact ⟨2, by simp, rfl⟩
    · exact ⟨4, by simp, rfl⟩
    · exact ⟨3, by simp, rfl⟩
    · exact ⟨1, by simp, rfl⟩
    · exact ⟨4, by simp, rfl⟩
    · exact ⟨2, by simp, rfl⟩
  exact this _ (by omega)
theorem wide4 (ns : List Int) (r : Nat) : ∃ w : Nat, w ∈ [1, 2, 3] ∧ widthOf ns 4 r = (w : Int) := by
  have h := draw_pos (ns := ns) (p := 2 * (r : Int) + 2) (m := 6) (by decide)
  unfold widthOf
  generalize draw ns (2 * (r : Int) + 2) 6 = d at h ⊢
  have : ∀ k : Nat, k < 6 → ∃ w : Nat, w ∈ [1, 2, 3] ∧ (if (4 : Nat) = 3 then wideL else slimL).getD k 0 = (w : Int) := by
    intro k hk
    have : k = 0 ∨ k = 1 ∨ k = 2 ∨ k = 3 ∨ k = 4 ∨ k = 5 := by omega
    rcases this with rfl | rfl | rfl | rfl | rfl | rfl
    · exact ⟨2, by simp, rfl⟩
    · exact ⟨3, by simp, rfl⟩
    · exact ⟨2, by simp, rfl⟩
    · exact ⟨1, by simp, rfl⟩
    · exact ⟨3, by simp, rfl⟩
    · exact ⟨2, by simp, rfl⟩
  exact this _ (by omega)
theorem rows_all (ns : List Int) {T : Nat} (hT : T = 3 ∨ T = 4) : ∃ rn, rowsF rn = true ∧ rowsN ns T T = castR rn := by
  rcases hT with rfl | rfl
  · refine two_rows (W := 3) (n := 1) (wide3 ns) (fun w hw => ?_) (by decide) (by decide) fun w1 w2 a h1 h2 => all3 w1 w2 a (by simpa using h1) (by simpa using h2)
    simp only [List.mem_cons, List.not_mem_nil, or_false] at hw
    omega
  · refine two_rows (W := 2) (n := 2) (wide4 ns) (fun w hw => ?_) (by decide) (by decide) fun w1 w2 a h1 h2 => all4 w1 w2 a (by simpa using h1) (by simpa using h2)
    simp only [List.mem_cons, List.not_mem_nil, or_false] at hw
    omega
theorem size_pos (ns : List Int) (p : Int) : 0 ≤ sizeOf ns p := by
  unfold sizeOf
  dsimp only
  rw [Int.fmod_eq_emod_of_nonneg _ (by decide)]
  exact Int.emod_nonneg _ (by decide)
theorem pure_ok (c : Cx) (ns : List Int) : ∃ (T f fw : Nat) (Sf : PS) (ways : List Int), (T = 3 ∨ T = 4) ∧ 3 + draw ns 0 2 = (T : Int) ∧ LawOk (fun k => (TKd c).hash k) (rowsN ns T T) (draw ns 1 2) (64 + sizeOf ns 3) f fw Sf ways := by
  have h0 := draw_pos (ns := ns) (p := 0) (m := 2) (by decide)
  have h1 := draw_pos (ns := ns) (p := 1) (m := 2) (by decide)
  have hf := size_pos ns 3
  generalize draw ns 0 2 = x at h0 ⊢
  generalize draw ns 1 2 = y at h1 ⊢
  generalize sizeOf ns 3 = z at hf ⊢
  have hT : (3 + x).toNat = 3 ∨ (3 + x).toNat = 4 := by omega
  obtain ⟨rn, hrn, e⟩ := rows_all ns hT
  obtain ⟨dark, rfl⟩ : ∃ n : Nat, y = (n : Int) := ⟨y.toNat, by omega⟩
  obtain ⟨Sf, ways, ok⟩ := law_ok hrn (far := 64 + z) (by omega) (dark := dark) (by omega)
  refine ⟨(3 + x).toNat, 100, 200, Sf, ways, hT, by omega, ?_⟩
  rw [e]
  exact ok
end Mine
end
open PySem PySem.W PySem.Calls PyProof.Rows
set_option Elab.async false
set_option maxRecDepth 100000
set_option maxHeartbeats 8000000
namespace Mine
theorem vrs_ints {h : Heap} : ∀ {vs : List Value} {ns : List Int}, IntsAre vs ns → VRs h vs (ns.map .int) := by
  intro vs ns hi
  induction hi with
  | nil => exact .nil
  | cons n t _ ih => exact .cons (.int _ _) ih
theorem fin {p : Program} {w : World} {s₁ : Shared} {mg mb : Str → Option Value} {loose mean fa} (KX : (hd.heap_39 w.params).In s₁.heap) (T : Top hd.view_39 loose mean mg mb s₁.heap) (hmg : mg "law" = some (.ref fa)) (hg : s₁.gens = #[])
  {sa : Addr} {ns : List Int} {vs : List Value} (hl : s₁.heap.get? sa = some (listOf vs.toArray 0)) (hv : IntsAre vs ns) (hz : ns.length ≤ 63) (hsa : (sa == sysModules) = false) : wpAny (model p w) callerA (call (.ref fa) [.ref sa]) (fun v s' => v = .bool true ∧ (∀ b o, s₁.heap.get? b = some o → s'.heap.get? b = some o) ∧ s'.os = s₁.os ∧ s'.gens = #[]) no s₁ := by
  let c : Cx := ⟨p, w, s₁.heap, s₁, hd.heap_39 w.params, KX, ⟨mg, T.g⟩, ⟨mb, T.b, T.builtins⟩, T.nolimit⟩
  have e : fa = 256 := by
    have := mg_of KX T.g (n := "law") (v := .ref 256) (by rfl)
    rw [hmg] at this; cases this; rfl
  subst e
  have S₀ : Sta c [] [] s₁ := ⟨rfl, fun _ _ e => e, fun _ h => (by cases h), fun _ h => (by cases h), List.Pairwise.nil, fun _ h => (by cases h), fun _ h => (by cases h)⟩
  have hR : ∀ H, Rd c H sa (.list (ns.map .int)) := fun H => Rd.base hl (vrs_ints hv) hsa
  obtain ⟨T', f, fw, Sf, ways, hT, hT2, ok⟩ := pure_ok c ns
  have R := (s_law c rfl (A := callerA) (n := 0) ⟨rfl, by decide, by decide⟩ hR hz hT hT2 ok).call s₁ (.ref 256) [.ref sa] [] S₀ (.ref _) (.cons (.ref _) .nil) .nil
  refine wpAny_mono R (fun v s' ⟨y, H', r, S', tk, e⟩ => ?_) fun _ _ e => e
  subst e
  exact ⟨r.bool_inv, S'.base, by rw [S'.same], by rw [S'.same]; exact hg⟩
end Mine
theorem Mine.last : PySem.Challenge.rw_bn5039_01.Holds :=
  hd (by
  k_fill
  intro w s₀ s₁ mg mb G Y fa o pm cd doc dV kV ho hd' hcd hD hmg hg args vals as hpre hlay hrd hwl hlo
  have KX := kIn_of Y
  refine Ground.open G ?_
  intro T B D TE TW
  try (refine guard_noD D (by decide +kernel) ?_; clear D)
  have hlo' := hlo
  have hrd' := hrd
  wrow_args hpre hlay hrd hwl hlo
  rename_i ns _ _ _ _ _ as1 as2 sa vs as3 hL ra w1 r0 hI _ hc _
  have hsa : (sa == sysModules) = false := by
    cases r0 with | list h1 h2 h3 h4 => exact hlo' _ (List.mem_append_left _ (.head _))
  have hg0 : s₁.heap.get? sa = some (listOf vs.toArray 0) := by
    obtain ⟨o, ho, h1, n, h2⟩ := hL
    cases w1 with
    | @list _ vs' xs h3 h4 =>
      rw [ho] at h3
      cases h3
      cases h2
      exact ho
  refine wpAny_mono (Mine.fin KX T hmg hg hg0 hI (by omega) hsa) (fun v s' ⟨e, keep, os, gens⟩ => ?_) fun _ _ e => e.elim
  subst e
  refine GoodW.toG ⟨.inl ⟨_, .bool true, [], rfl, fun _ => rfl, .bool true, ?_, fun _ => ⟨.nil, fun _ h => nomatch h⟩⟩, keep, os, gens⟩
  first | exact rfl | (with_unfolding_all exact rfl))
theorem PySem.Challenge.cw_bn5039_01_holds : PySem.Challenge.rw_bn5039_01.Holds :=
  Mine.last
