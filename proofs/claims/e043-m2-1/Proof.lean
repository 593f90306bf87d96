import JvmDerived
import JvmDerived.Pilot.@@N@@Statement
import JvmDerived.Pilot.@@N@@Code
set_option linter.unusedVariables false
set_option linter.unusedSimpArgs false
namespace Jvm.Pilot.@@N@@
open Jvm Jvm.ClassFile Sem Op Lib Jvm.Free Jvm.Stand Jvm.LawKit Jvm.RoadKit Bundle Jvm.Pilot.@@N@@.Jvm.D
/-! ## Own layer: a run in backward form, a world of known objects, one lemma a step -/
/-- from U the run comes to an end of which P holds -/
def Run (tb : Tables) (e : Env) (below : List Frame) (P : Outcome → State → Prop) (U : State) : Prop :=
  ∃ s₂ o, Steps tb e below U s₂ ∧ s₂.status = .running ∧ Ended s₂ below o ∧ P o s₂
theorem Run.of {tb : Tables} {e : Env} {below : List Frame} {P : Outcome → State → Prop} {U U' : State} (st : ∀ t, Steps tb e below U' t → Steps tb e below U t) (k : Run tb e below P U') : Run tb e below P U := by
  obtain ⟨s₂, o, h, r⟩ := k
  exact ⟨s₂, o, st _ h, r⟩
theorem Run.tr {tb : Tables} {e : Env} {below : List Frame} {P : Outcome → State → Prop} {U U' : State} (st : Steps tb e below U U') (k : Run tb e below P U') : Run tb e below P U := by
  obtain ⟨s₂, o, h, r⟩ := k
  exact ⟨s₂, o, st.trans h, r⟩
/-! ### The world: what is known of the heap -/
abbrev FS := List (String × String × String × Value)
/-- address, whether it may be written, then an object (class, fields) or an array (class, component kind, length, first components, the others) -/
abbrev OB := Addr × Bool × ((String × FS) ⊕ (ClassId × FieldType × Int32 × List Value × Value))
def Kn (h : Heap) (a : Addr) : Prop := ∃ cell : Cell, h[a]? = some cell ∧ cell.vm ≠ .unknown
theorem Kn.ext {h h' : Heap} {a : Addr} (E : Ext h h') (q : Kn h a) : Kn h' a := by obtain ⟨c, h1, h2⟩ := q; exact ⟨c, E.2 _ _ h1, h2⟩
theorem Kn.wr {h h' : Heap} {a b : Addr} {sl : Nat} {v : Value} (K : Wr h h' b sl v) (q : Kn h a) : Kn h' a := by
  obtain ⟨c, h1, h2⟩ := q
  obtain ⟨c', e1, -, e3, -⟩ := wr_at K h1
  exact ⟨c', e1, by rw [e3]; exact h2⟩
def obAt (Z : State) (h : Heap) (o : OB) : Prop :=
  match o.2.2 with
  | .inl q => Exa Z h o.1 q.1 ∧ (∀ f ∈ q.2, Fld Z h o.1 f.1 f.2.1 f.2.2.1 f.2.2.2) ∧ Kn h o.1
  | .inr q => Arv Z h o.1 q.1 q.2.1 q.2.2.1 q.2.2.2.1 q.2.2.2.2 ∧ ∀ C, q.2.1 = .object C → Ovr Z q.1 C
section World
variable {Z : State} {EL : List (String × Nat)} {vm vm1 : Vm} {h h' : Heap} {a : Addr} {sl : Nat} {v : Value} {o : OB} {W : List OB}
theorem obAt.lt (q : obAt Z h o) : o.1 < h.size := by
  obtain ⟨a, b, x⟩ := o
  cases x with
  | inl x => exact q.1.lt
  | inr x => exact q.1.lt
theorem obAt.ext (E : Ext h h') (q : obAt Z h o) : obAt Z h' o := by
  obtain ⟨a, b, x⟩ := o
  cases x with
  | inl x => exact ⟨q.1.ext E, fun f hf => (q.2.1 f hf).ext E, q.2.2.ext E⟩
  | inr x => exact ⟨q.1.ext E, q.2⟩
theorem obAt.other (K : Wr h h' a sl v) (ne : o.1 ≠ a) (q : obAt Z h o) : obAt Z h' o := by
  obtain ⟨b, c, x⟩ := o
  cases x with
  | inl x => exact ⟨q.1.wr K, fun f hf => (q.2.1 f hf).other K (Or.inl ne), q.2.2.wr K⟩
  | inr x => exact ⟨q.1.other K ne, q.2⟩
def Apart (o o' : OB) : Prop := (o.2.1 = true ∨ o'.2.1 = true) → o.1 ≠ o'.1
/-- the known objects W: new ones may be written, the others (literals) not; no two of them are one, where one may be written; the old heap stands; the literals are what they say -/
def WL (Z : State) (EL : List (String × Nat)) (vm : Vm) (h : Heap) (W : List OB) : Prop :=
  Ext Z.heap h ∧ CHv Z EL vm h ∧ (∀ o ∈ W, obAt Z h o ∧ (o.2.1 = true → Z.heap.size ≤ o.1 ∧ Safe Z EL vm h o.1)) ∧ W.Pairwise Apart
theorem ext_trans {h1 h2 h3 : Heap} (E : Ext h1 h2) (E' : Ext h2 h3) : Ext h1 h3 := ⟨Nat.le_trans E.1 E'.1, fun a c q => E'.2 a c (E.2 a c q)⟩
theorem WL.later (R : CHr Z EL vm h vm1 h') (E : Ext h h') (w : WL Z EL vm h W) : WL Z EL vm1 h' W :=
  ⟨ext_trans w.1 E, R.1, fun o ho => ⟨(w.2.2.1 o ho).1.ext E, fun b => ⟨((w.2.2.1 o ho).2 b).1, R.safe (w.2.2.1 o ho).1.lt ((w.2.2.1 o ho).2 b).2⟩⟩, w.2.2.2⟩
theorem WL.ext (E : Ext h h') (w : WL Z EL vm h W) : WL Z EL vm h' W := w.later (CHr.ext E w.2.1) E
theorem WL.atVm (R : CHr Z EL vm h vm1 h) (w : WL Z EL vm h W) : WL Z EL vm1 h W := w.later R ⟨Nat.le_refl _, fun _ _ q => q⟩
theorem WL.cons (w : WL Z EL vm h W) (q : obAt Z h o) (q1 : o.2.1 = true → Z.heap.size ≤ o.1 ∧ Safe Z EL vm h o.1) (q2 : ∀ o' ∈ W, Apart o o') : WL Z EL vm h (o :: W) :=
  ⟨w.1, w.2.1, fun x hx => by
    rcases List.mem_cons.mp hx with rfl | hx
    · exact ⟨q, q1⟩
    · exact w.2.2.1 x hx, List.pairwise_cons.mpr ⟨q2, w.2.2.2⟩⟩
theorem WL.tail (w : WL Z EL vm h (o :: W)) : WL Z EL vm h W := ⟨w.1, w.2.1, fun x hx => w.2.2.1 x (List.mem_cons_of_mem _ hx), (List.pairwise_cons.mp w.2.2.2).2⟩
/-- a fresh cell -/
theorem WL.fresh (w : WL Z EL vm h W) (E : Ext h h') (ho : o.1 = h.size) (q : obAt Z h' o) : WL Z EL vm h' (o :: W) := by
  refine (w.ext E).cons q (fun _ => ⟨by rw [ho]; exact w.1.1, ?_⟩) fun o' ho' _ => ?_
  · rw [ho]; exact (Safe.new (Nat.le_refl _)).ext E w.2.1
  · have := (w.2.2.1 o' ho').1.lt
    rw [ho]; exact fun e => Nat.lt_irrefl _ (Nat.lt_of_le_of_lt (Nat.le_of_eq e) this)
def pick (W : List OB) : List Nat → List OB
  | [] => []
  | i :: l => W.getD i (0, false, .inl ("", [])) :: pick W l
theorem pick_mem : ∀ (l : List Nat), (∀ i ∈ l, i < W.length) → ∀ o ∈ pick W l, ∃ i ∈ l, W[i]? = some o
  | [], _, o, ho => by cases ho
  | i :: l, hl, o, ho => by
    rcases List.mem_cons.mp ho with rfl | ho
    · have hi := hl i (List.mem_cons_self ..)
      exact ⟨i, List.mem_cons_self .., by simp [List.getD_eq_getElem?_getD, hi]⟩
    · obtain ⟨k, hk, e⟩ := pick_mem l (fun k hk => hl k (List.mem_cons_of_mem _ hk)) o ho
      exact ⟨k, List.mem_cons_of_mem _ hk, e⟩
theorem apart_symm {o o' : OB} (q : Apart o o') : Apart o' o := fun b e => q b.symm e.symm
theorem apart_at (w : WL Z EL vm h W) {i j : Nat} {o o' : OB} (hi : W[i]? = some o) (hj : W[j]? = some o') (ne : i ≠ j) : Apart o o' := by
  have P := List.pairwise_iff_getElem.mp w.2.2.2
  obtain ⟨h1, rfl⟩ := List.getElem?_eq_some_iff.mp hi
  obtain ⟨h2, rfl⟩ := List.getElem?_eq_some_iff.mp hj
  rcases Nat.lt_or_gt_of_ne ne with q | q
  · exact P i j h1 h2 q
  · exact apart_symm (P j i h2 h1 q)
theorem WL.picked (w : WL Z EL vm h W) (n : Nat) : ∀ (l : List Nat), l.Nodup → (∀ i ∈ l, i < n) → n ≤ W.length → WL Z EL vm h (pick W l ++ W.drop n)
  | [], _, _, _ => ⟨w.1, w.2.1, fun o ho => w.2.2.1 o (List.mem_of_mem_drop ho), w.2.2.2.sublist (List.drop_sublist n W)⟩
  | i :: l, hd, hl, hn => by
    have hi := hl i (List.mem_cons_self ..)
    have hi' : i < W.length := by omega
    have eW : W[i]? = some (W.getD i (0, false, .inl ("", []))) := by simp [List.getD_eq_getElem?_getD, hi']
    have r := WL.picked w n l (List.nodup_cons.mp hd).2 (fun k hk => hl k (List.mem_cons_of_mem _ hk)) hn
    have m := w.2.2.1 _ (List.mem_of_getElem? eW)
    refine r.cons m.1 m.2 fun o' ho' => ?_
    rcases List.mem_append.mp ho' with ho' | ho'
    · obtain ⟨k, hk, e⟩ := pick_mem l (fun k hk => Nat.lt_of_lt_of_le (hl k (List.mem_cons_of_mem _ hk)) hn) o' ho'
      exact apart_at w eW e fun z => (List.nodup_cons.mp hd).1 (z ▸ hk)
    · obtain ⟨k, e⟩ := List.mem_iff_getElem?.mp ho'
      rw [List.getElem?_drop] at e
      exact apart_at w eW e (by omega)
/-- the fields of an object lie in slots of their own -/
def SD (Z : State) (ks : List (String × String × String)) : Prop := ∀ (i j : Nat) (k k' : String × String × String), i ≠ j → ks[i]? = some k → ks[j]? = some k' → Jvm.RoadKit.slotOf Z k.1 k.2.1 k.2.2 ≠ Jvm.RoadKit.slotOf Z k'.1 k'.2.1 k'.2.2
def key (f : String × String × String × Value) : String × String × String := (f.1, f.2.1, f.2.2.1)
theorem WL.upd (w : WL Z EL vm h W) {i : Nat} {b : Bool} {x y : (String × FS) ⊕ (ClassId × FieldType × Int32 × List Value × Value)} (hi : W[i]? = some (a, true, x)) (K : Wr h h' a sl v) (q : obAt Z h' (a, true, y)) : WL Z EL vm h' (W.set i (a, true, y)) := by
  have m := w.2.2.1 _ (List.mem_of_getElem? hi)
  have ms := m.2 rfl
  have C := CHv.wrStep K ms.2 w.2.1
  have hlt := (List.getElem?_eq_some_iff.mp hi).1
  refine ⟨?_, C.1, fun o ho => ?_, ?_⟩
  · have O := (Old.wr ⟨rfl, w.1⟩ K ms.1 : Old Z Z.heap.size h')
    exact O.2
  · obtain ⟨k, hk⟩ := List.mem_iff_getElem?.mp ho
    rw [List.getElem?_set] at hk
    split at hk
    · rename_i e
      subst e
      first | rw [if_pos hlt] at hk | skip
      cases hk
      exact ⟨q, fun _ => ⟨ms.1, Safe.wr K ms.2 w.2.1 ms.2⟩⟩
    · rename_i e
      have m' := w.2.2.1 _ (List.mem_of_getElem? hk)
      have ne : o.1 ≠ a := apart_at w hk hi (Ne.symm e) (Or.inr rfl)
      exact ⟨m'.1.other K ne, fun b => ⟨(m'.2 b).1, Safe.wr K ms.2 w.2.1 (m'.2 b).2⟩⟩
  · rw [List.pairwise_iff_getElem]
    intro k j hk hj hkj
    have P := List.pairwise_iff_getElem.mp w.2.2.2 k j (by simpa using hk) (by simpa using hj) hkj
    obtain ⟨hl, e⟩ := List.getElem?_eq_some_iff.mp hi
    rw [List.getElem_set, List.getElem_set]
    split <;> split
    · rename_i e1 e2; omega
    · rename_i e1 e2; subst e1; rw [e] at P; exact P
    · rename_i e1 e2; subst e2; rw [e] at P; exact P
    · exact P
theorem WL.put (w : WL Z EL vm h W) {i j : Nat} {C : String} {fs : FS} {O n d : String} {old : Value} (hi : W[i]? = some (a, true, .inl (C, fs))) (hj : fs[j]? = some (O, n, d, old)) (D : SD Z (fs.map key)) (K : Wr h h' a (Jvm.RoadKit.slotOf Z O n d) v) : WL Z EL vm h' (W.set i (a, true, .inl (C, fs.set j (O, n, d, v)))) := by
  have m := (w.2.2.1 _ (List.mem_of_getElem? hi)).1
  have hlt := (List.getElem?_eq_some_iff.mp hj).1
  refine w.upd (b := true) hi K ⟨m.1.wr K, fun f hf => ?_, m.2.2.wr K⟩
  obtain ⟨k, hk⟩ := List.mem_iff_getElem?.mp hf
  rw [List.getElem?_set] at hk
  split at hk
  · rename_i e
    subst e
    first | rw [if_pos hlt] at hk | skip
    cases hk
    exact (m.2.1 _ (List.mem_of_getElem? hj)).same K
  · rename_i e
    exact (m.2.1 _ (List.mem_of_getElem? hk)).other K (Or.inr (D k j (key f) (key (O, n, d, old)) (Ne.symm e) (by rw [List.getElem?_map, hk]; rfl) (by rw [List.getElem?_map, hj]; rfl)))
/-- a field of which nothing is kept is written -/
theorem WL.putX (w : WL Z EL vm h W) {i : Nat} {C : String} {fs : FS} {O n d : String} (hi : W[i]? = some (a, true, .inl (C, fs))) (D : ∀ f ∈ fs, Jvm.RoadKit.slotOf Z f.1 f.2.1 f.2.2.1 ≠ Jvm.RoadKit.slotOf Z O n d) (K : Wr h h' a (Jvm.RoadKit.slotOf Z O n d) v) : WL Z EL vm h' W := by
  have m := (w.2.2.1 _ (List.mem_of_getElem? hi)).1
  have r := w.upd (b := true) (y := .inl (C, fs)) hi K ⟨m.1.wr K, fun f hf => (m.2.1 f hf).other K (Or.inr (D f hf)), m.2.2.wr K⟩
  obtain ⟨hl, e⟩ := List.getElem?_eq_some_iff.mp hi
  have e2 : W.set i (a, true, .inl (C, fs)) = W := by rw [← e]; exact List.set_getElem_self hl
  rw [e2] at r
  exact r
end World
/-! ### The walk's invariant -/
/-- what holds of the case: the table words, the constants' texts -/
def GC (Z : State) (a0 : Array Value) (EL : List (String × Nat)) : Prop :=
  (∀ d ∈ tables_1, d.before a0 Z = true) ∧ EW Z a0 EL ∧ (∀ d ∈ Bundle.stringAtoms, d.before a0 Z = true)
def J (l : Launch) (Z : State) (a0 : Array Value) (EL : List (String × Nat)) (LT : List (String × Nat × Addr)) (own : String) (bytes : ByteArray) (maxL : Nat) (ret : Option FieldType) (nm : String) (R : Room) (p : Program) (e : Env) (s : State) (m : MethodId) (args : Array Value) (below : List Frame) (meth : Method) (c : Code) (T : State) (cells slots : Nat) (W : List OB) : Prop :=
  ∃ (vm0 : Vm) (locs : List Loc) (k0 : Nat), Stand p l e R (s.setVm vm0) m args below meth c T locs cells slots ∧ s.Since vm0 k0 ∧ k0 ≤ T.heap.size ∧ Z.Warmed39 vm0 ∧ vm0.findClass own = some m.cls ∧ Fr Z.heap.size locs ∧ WL Z EL vm0 T.heap W ∧ (∀ t ∈ LT, Lit (s.setVm vm0) t.1 t.2.1 t.2.2) ∧
    (p.tables.exec = Jvm.exec ∧ c.code = bytes ∧ c.maxLocals = maxL ∧ meth.sig.returnType = ret ∧ meth.name = nm ∧ meth.locks = false ∧ GC Z a0 EL)
section Steps
variable {l : Launch} {Z : State} {a0 : Array Value} {EL : List (String × Nat)} {LT : List (String × Nat × Addr)} {own : String} {bytes : ByteArray} {maxL : Nat} {ret : Option FieldType} {nm : String} {R : Room} {p : Program} {e : Env} {s : State} {m : MethodId} {args : Array Value} {below : List Frame} {meth : Method} {c : Code} {T : State} {cells slots : Nat} {W : List OB}
theorem J.here (j : J l Z a0 EL LT own bytes maxL ret nm R p e s m args below meth c T cells slots W) : At T m c below ∧ p.tables.exec = Jvm.exec ∧ c.code = bytes := by
  obtain ⟨vm0, locs, k0, X, -, -, -, -, -, -, -, h1, h2, -⟩ := j
  exact ⟨X.here, h1, h2⟩
theorem J.norm (j : J l Z a0 EL LT own bytes maxL ret nm R p e s m args below meth c T cells slots W) {W' : List OB} (h : W = W') : J l Z a0 EL LT own bytes maxL ret nm R p e s m args below meth c T cells slots W' := h ▸ j
theorem mt {d : Jvm.Cond} {i : Nat} (h : tables_1[i]? = some d) : d ∈ tables_1 := List.mem_of_getElem? h

theorem p_aload_n (j : J l Z a0 EL LT own bytes maxL ret nm R p e s m args below meth c T cells slots W) {pc : Nat} {Ls : Array Slot} {S : List Value} {Pq : Outcome → State → Prop} {k : Fin 4} {v : Value} (hd : decode bytes pc = .ok (.aload_n k, 1)) (hl : Ls[k.val]? = some (.val v)) (hv : v.isRef = true) (pc' : Nat) (hp : pc' = pc + 1) (q : Run p.tables e below Pq (T.setTop (mkF m pc' Ls (v :: S)))) : Run p.tables e below Pq (T.setTop (mkF m pc Ls (S))) := by
  obtain ⟨hA, hx, hby⟩ := j.here
  subst hp
  exact Run.of (fun t k => XS.aloadN (g := mkF m pc Ls (S)) hA hx rfl (hb hby hd) hl hv k) q
theorem p_aload (j : J l Z a0 EL LT own bytes maxL ret nm R p e s m args below meth c T cells slots W) {pc : Nat} {Ls : Array Slot} {S : List Value} {Pq : Outcome → State → Prop} {k : Nat} {v : Value} (hd : decode bytes pc = .ok (.aload k, 2)) (hl : Ls[k]? = some (.val v)) (hv : v.isRef = true) (pc' : Nat) (hp : pc' = pc + 2) (q : Run p.tables e below Pq (T.setTop (mkF m pc' Ls (v :: S)))) : Run p.tables e below Pq (T.setTop (mkF m pc Ls (S))) := by
  obtain ⟨hA, hx, hby⟩ := j.here
  subst hp
  exact Run.of (fun t k => XS.aload (g := mkF m pc Ls (S)) hA hx rfl (hb hby hd) hl hv k) q
theorem p_iload_n (j : J l Z a0 EL LT own bytes maxL ret nm R p e s m args below meth c T cells slots W) {pc : Nat} {Ls : Array Slot} {S : List Value} {Pq : Outcome → State → Prop} {k : Fin 4} {v : Int32} (hd : decode bytes pc = .ok (.iload_n k, 1)) (hl : Ls[k.val]? = some (.val (.int v))) (pc' : Nat) (hp : pc' = pc + 1) (q : Run p.tables e below Pq (T.setTop (mkF m pc' Ls (.int v :: S)))) : Run p.tables e below Pq (T.setTop (mkF m pc Ls (S))) := by
  obtain ⟨hA, hx, hby⟩ := j.here
  subst hp
  exact Run.of (fun t k => XS.iloadN (g := mkF m pc Ls (S)) hA hx rfl (hb hby hd) hl k) q
theorem p_iload (j : J l Z a0 EL LT own bytes maxL ret nm R p e s m args below meth c T cells slots W) {pc : Nat} {Ls : Array Slot} {S : List Value} {Pq : Outcome → State → Prop} {k : Nat} {v : Int32} (hd : decode bytes pc = .ok (.iload k, 2)) (hl : Ls[k]? = some (.val (.int v))) (pc' : Nat) (hp : pc' = pc + 2) (q : Run p.tables e below Pq (T.setTop (mkF m pc' Ls (.int v :: S)))) : Run p.tables e below Pq (T.setTop (mkF m pc Ls (S))) := by
  obtain ⟨hA, hx, hby⟩ := j.here
  subst hp
  exact Run.of (fun t k => XS.iload (g := mkF m pc Ls (S)) hA hx rfl (hb hby hd) hl k) q
theorem p_lload_n (j : J l Z a0 EL LT own bytes maxL ret nm R p e s m args below meth c T cells slots W) {pc : Nat} {Ls : Array Slot} {S : List Value} {Pq : Outcome → State → Prop} {k : Fin 4} {v : Int64} (hd : decode bytes pc = .ok (.lload_n k, 1)) (hl : Ls[k.val]? = some (.val (.long v))) (pc' : Nat) (hp : pc' = pc + 1) (q : Run p.tables e below Pq (T.setTop (mkF m pc' Ls (.long v :: S)))) : Run p.tables e below Pq (T.setTop (mkF m pc Ls (S))) := by
  obtain ⟨hA, hx, hby⟩ := j.here
  subst hp
  exact Run.of (fun t k => XS.lloadN (g := mkF m pc Ls (S)) hA hx rfl (hb hby hd) hl k) q
theorem p_lload (j : J l Z a0 EL LT own bytes maxL ret nm R p e s m args below meth c T cells slots W) {pc : Nat} {Ls : Array Slot} {S : List Value} {Pq : Outcome → State → Prop} {k : Nat} {v : Int64} (hd : decode bytes pc = .ok (.lload k, 2)) (hl : Ls[k]? = some (.val (.long v))) (pc' : Nat) (hp : pc' = pc + 2) (q : Run p.tables e below Pq (T.setTop (mkF m pc' Ls (.long v :: S)))) : Run p.tables e below Pq (T.setTop (mkF m pc Ls (S))) := by
  obtain ⟨hA, hx, hby⟩ := j.here
  subst hp
  exact Run.of (fun t k => XS.lload (g := mkF m pc Ls (S)) hA hx rfl (hb hby hd) hl k) q
theorem p_istore_n (j : J l Z a0 EL LT own bytes maxL ret nm R p e s m args below meth c T cells slots W) {pc : Nat} {Ls : Array Slot} {S : List Value} {Pq : Outcome → State → Prop} {k : Fin 4} {x : Int32} (l' : Array Slot) (hd : decode bytes pc = .ok (.istore_n k, 1)) (hl : storeLocals Ls k.val (.int x) = some l') (pc' : Nat) (hp : pc' = pc + 1) (q : Run p.tables e below Pq (T.setTop (mkF m pc' l' (S)))) : Run p.tables e below Pq (T.setTop (mkF m pc Ls (.int x :: S))) := by
  obtain ⟨hA, hx, hby⟩ := j.here
  subst hp
  exact Run.of (fun t k => XS.istoreN (g := mkF m pc Ls (.int x :: S)) hA hx rfl (hb hby hd) rfl hl k) q
theorem p_istore (j : J l Z a0 EL LT own bytes maxL ret nm R p e s m args below meth c T cells slots W) {pc : Nat} {Ls : Array Slot} {S : List Value} {Pq : Outcome → State → Prop} {k : Nat} {x : Int32} (l' : Array Slot) (hd : decode bytes pc = .ok (.istore k, 2)) (hl : storeLocals Ls k (.int x) = some l') (pc' : Nat) (hp : pc' = pc + 2) (q : Run p.tables e below Pq (T.setTop (mkF m pc' l' (S)))) : Run p.tables e below Pq (T.setTop (mkF m pc Ls (.int x :: S))) := by
  obtain ⟨hA, hx, hby⟩ := j.here
  subst hp
  exact Run.of (fun t k => XS.istore (g := mkF m pc Ls (.int x :: S)) hA hx rfl (hb hby hd) rfl hl k) q
theorem p_lstore_n (j : J l Z a0 EL LT own bytes maxL ret nm R p e s m args below meth c T cells slots W) {pc : Nat} {Ls : Array Slot} {S : List Value} {Pq : Outcome → State → Prop} {k : Fin 4} {x : Int64} (l' : Array Slot) (hd : decode bytes pc = .ok (.lstore_n k, 1)) (hl : storeLocals Ls k.val (.long x) = some l') (pc' : Nat) (hp : pc' = pc + 1) (q : Run p.tables e below Pq (T.setTop (mkF m pc' l' (S)))) : Run p.tables e below Pq (T.setTop (mkF m pc Ls (.long x :: S))) := by
  obtain ⟨hA, hx, hby⟩ := j.here
  subst hp
  exact Run.of (fun t k => XS.lstoreN (g := mkF m pc Ls (.long x :: S)) hA hx rfl (hb hby hd) rfl hl k) q
theorem p_lstore (j : J l Z a0 EL LT own bytes maxL ret nm R p e s m args below meth c T cells slots W) {pc : Nat} {Ls : Array Slot} {S : List Value} {Pq : Outcome → State → Prop} {k : Nat} {x : Int64} (l' : Array Slot) (hd : decode bytes pc = .ok (.lstore k, 2)) (hl : storeLocals Ls k (.long x) = some l') (pc' : Nat) (hp : pc' = pc + 2) (q : Run p.tables e below Pq (T.setTop (mkF m pc' l' (S)))) : Run p.tables e below Pq (T.setTop (mkF m pc Ls (.long x :: S))) := by
  obtain ⟨hA, hx, hby⟩ := j.here
  subst hp
  exact Run.of (fun t k => XS.lstore (g := mkF m pc Ls (.long x :: S)) hA hx rfl (hb hby hd) rfl hl k) q
theorem p_astore_n (j : J l Z a0 EL LT own bytes maxL ret nm R p e s m args below meth c T cells slots W) {pc : Nat} {Ls : Array Slot} {S : List Value} {Pq : Outcome → State → Prop} {k : Fin 4} {x : Value} (l' : Array Slot) (hd : decode bytes pc = .ok (.astore_n k, 1)) (hv : x.isRef = true) (hl : storeLocals Ls k.val x = some l') (pc' : Nat) (hp : pc' = pc + 1) (q : Run p.tables e below Pq (T.setTop (mkF m pc' l' (S)))) : Run p.tables e below Pq (T.setTop (mkF m pc Ls (x :: S))) := by
  obtain ⟨hA, hx, hby⟩ := j.here
  subst hp
  exact Run.of (fun t k => XS.astoreN (g := mkF m pc Ls (x :: S)) hA hx rfl (hb hby hd) rfl hv hl k) q
theorem p_astore (j : J l Z a0 EL LT own bytes maxL ret nm R p e s m args below meth c T cells slots W) {pc : Nat} {Ls : Array Slot} {S : List Value} {Pq : Outcome → State → Prop} {k : Nat} {x : Value} (l' : Array Slot) (hd : decode bytes pc = .ok (.astore k, 2)) (hv : x.isRef = true) (hl : storeLocals Ls k x = some l') (pc' : Nat) (hp : pc' = pc + 2) (q : Run p.tables e below Pq (T.setTop (mkF m pc' l' (S)))) : Run p.tables e below Pq (T.setTop (mkF m pc Ls (x :: S))) := by
  obtain ⟨hA, hx, hby⟩ := j.here
  subst hp
  exact Run.of (fun t k => XS.astore (g := mkF m pc Ls (x :: S)) hA hx rfl (hb hby hd) rfl hv hl k) q
theorem p_iconst (j : J l Z a0 EL LT own bytes maxL ret nm R p e s m args below meth c T cells slots W) {pc : Nat} {Ls : Array Slot} {S : List Value} {Pq : Outcome → State → Prop} {i : Int} {z : Int32} (hd : decode bytes pc = .ok (.iconst i, 1)) (hz : Int32.ofInt i = z) (pc' : Nat) (hp : pc' = pc + 1) (q : Run p.tables e below Pq (T.setTop (mkF m pc' Ls (.int z :: S)))) : Run p.tables e below Pq (T.setTop (mkF m pc Ls (S))) := by
  obtain ⟨hA, hx, hby⟩ := j.here
  subst hp hz
  exact Run.of (fun t k => XS.iconst (g := mkF m pc Ls (S)) hA hx rfl (hb hby hd)  k) q
theorem p_bipush (j : J l Z a0 EL LT own bytes maxL ret nm R p e s m args below meth c T cells slots W) {pc : Nat} {Ls : Array Slot} {S : List Value} {Pq : Outcome → State → Prop} {i : Int} {z : Int32} (hd : decode bytes pc = .ok (.bipush i, 2)) (hz : (Int8.ofInt i).toInt32 = z) (pc' : Nat) (hp : pc' = pc + 2) (q : Run p.tables e below Pq (T.setTop (mkF m pc' Ls (.int z :: S)))) : Run p.tables e below Pq (T.setTop (mkF m pc Ls (S))) := by
  obtain ⟨hA, hx, hby⟩ := j.here
  subst hp hz
  exact Run.of (fun t k => XS.bipush (g := mkF m pc Ls (S)) hA hx rfl (hb hby hd)  k) q
theorem p_sipush (j : J l Z a0 EL LT own bytes maxL ret nm R p e s m args below meth c T cells slots W) {pc : Nat} {Ls : Array Slot} {S : List Value} {Pq : Outcome → State → Prop} {i : Int} {z : Int32} (hd : decode bytes pc = .ok (.sipush i, 3)) (hz : (Int16.ofInt i).toInt32 = z) (pc' : Nat) (hp : pc' = pc + 3) (q : Run p.tables e below Pq (T.setTop (mkF m pc' Ls (.int z :: S)))) : Run p.tables e below Pq (T.setTop (mkF m pc Ls (S))) := by
  obtain ⟨hA, hx, hby⟩ := j.here
  subst hp hz
  exact Run.of (fun t k => XS.sipush (g := mkF m pc Ls (S)) hA hx rfl (hb hby hd)  k) q
theorem p_lconst (j : J l Z a0 EL LT own bytes maxL ret nm R p e s m args below meth c T cells slots W) {pc : Nat} {Ls : Array Slot} {S : List Value} {Pq : Outcome → State → Prop} {i : Fin 2} {z : Int64} (hd : decode bytes pc = .ok (.lconst i, 1)) (hz : Int64.ofNat i = z) (pc' : Nat) (hp : pc' = pc + 1) (q : Run p.tables e below Pq (T.setTop (mkF m pc' Ls (.long z :: S)))) : Run p.tables e below Pq (T.setTop (mkF m pc Ls (S))) := by
  obtain ⟨hA, hx, hby⟩ := j.here
  subst hp hz
  exact Run.of (fun t k => XS.lconst (g := mkF m pc Ls (S)) hA hx rfl (hb hby hd)  k) q
theorem p_aconst_null (j : J l Z a0 EL LT own bytes maxL ret nm R p e s m args below meth c T cells slots W) {pc : Nat} {Ls : Array Slot} {S : List Value} {Pq : Outcome → State → Prop}  (hd : decode bytes pc = .ok (.aconst_null, 1))  (pc' : Nat) (hp : pc' = pc + 1) (q : Run p.tables e below Pq (T.setTop (mkF m pc' Ls (.null :: S)))) : Run p.tables e below Pq (T.setTop (mkF m pc Ls (S))) := by
  obtain ⟨hA, hx, hby⟩ := j.here
  subst hp
  exact Run.of (fun t k => XS.aconstNull (g := mkF m pc Ls (S)) hA hx rfl (hb hby hd)  k) q
theorem p_iadd (j : J l Z a0 EL LT own bytes maxL ret nm R p e s m args below meth c T cells slots W) {pc : Nat} {Ls : Array Slot} {S : List Value} {Pq : Outcome → State → Prop} {x y z : Int32} (hd : decode bytes pc = .ok (.iadd, 1)) (hz : x + y = z) (pc' : Nat) (hp : pc' = pc + 1) (q : Run p.tables e below Pq (T.setTop (mkF m pc' Ls (.int z :: S)))) : Run p.tables e below Pq (T.setTop (mkF m pc Ls (.int y :: .int x :: S))) := by
  obtain ⟨hA, hx, hby⟩ := j.here
  subst hp hz
  exact Run.of (fun t k => XS.iadd (g := mkF m pc Ls (.int y :: .int x :: S)) hA hx rfl (hb hby hd) rfl k) q
theorem p_isub (j : J l Z a0 EL LT own bytes maxL ret nm R p e s m args below meth c T cells slots W) {pc : Nat} {Ls : Array Slot} {S : List Value} {Pq : Outcome → State → Prop} {x y z : Int32} (hd : decode bytes pc = .ok (.isub, 1)) (hz : x - y = z) (pc' : Nat) (hp : pc' = pc + 1) (q : Run p.tables e below Pq (T.setTop (mkF m pc' Ls (.int z :: S)))) : Run p.tables e below Pq (T.setTop (mkF m pc Ls (.int y :: .int x :: S))) := by
  obtain ⟨hA, hx, hby⟩ := j.here
  subst hp hz
  exact Run.of (fun t k => XS.isub (g := mkF m pc Ls (.int y :: .int x :: S)) hA hx rfl (hb hby hd) rfl k) q
theorem p_imul (j : J l Z a0 EL LT own bytes maxL ret nm R p e s m args below meth c T cells slots W) {pc : Nat} {Ls : Array Slot} {S : List Value} {Pq : Outcome → State → Prop} {x y z : Int32} (hd : decode bytes pc = .ok (.imul, 1)) (hz : x * y = z) (pc' : Nat) (hp : pc' = pc + 1) (q : Run p.tables e below Pq (T.setTop (mkF m pc' Ls (.int z :: S)))) : Run p.tables e below Pq (T.setTop (mkF m pc Ls (.int y :: .int x :: S))) := by
  obtain ⟨hA, hx, hby⟩ := j.here
  subst hp hz
  exact Run.of (fun t k => XS.imul (g := mkF m pc Ls (.int y :: .int x :: S)) hA hx rfl (hb hby hd) rfl k) q
theorem p_iand (j : J l Z a0 EL LT own bytes maxL ret nm R p e s m args below meth c T cells slots W) {pc : Nat} {Ls : Array Slot} {S : List Value} {Pq : Outcome → State → Prop} {x y z : Int32} (hd : decode bytes pc = .ok (.iand, 1)) (hz : x &&& y = z) (pc' : Nat) (hp : pc' = pc + 1) (q : Run p.tables e below Pq (T.setTop (mkF m pc' Ls (.int z :: S)))) : Run p.tables e below Pq (T.setTop (mkF m pc Ls (.int y :: .int x :: S))) := by
  obtain ⟨hA, hx, hby⟩ := j.here
  subst hp hz
  exact Run.of (fun t k => XS.iand (g := mkF m pc Ls (.int y :: .int x :: S)) hA hx rfl (hb hby hd) rfl k) q
theorem p_ior (j : J l Z a0 EL LT own bytes maxL ret nm R p e s m args below meth c T cells slots W) {pc : Nat} {Ls : Array Slot} {S : List Value} {Pq : Outcome → State → Prop} {x y z : Int32} (hd : decode bytes pc = .ok (.ior, 1)) (hz : x ||| y = z) (pc' : Nat) (hp : pc' = pc + 1) (q : Run p.tables e below Pq (T.setTop (mkF m pc' Ls (.int z :: S)))) : Run p.tables e below Pq (T.setTop (mkF m pc Ls (.int y :: .int x :: S))) := by
  obtain ⟨hA, hx, hby⟩ := j.here
  subst hp hz
  exact Run.of (fun t k => XS.ior (g := mkF m pc Ls (.int y :: .int x :: S)) hA hx rfl (hb hby hd) rfl k) q
theorem p_ixor (j : J l Z a0 EL LT own bytes maxL ret nm R p e s m args below meth c T cells slots W) {pc : Nat} {Ls : Array Slot} {S : List Value} {Pq : Outcome → State → Prop} {x y z : Int32} (hd : decode bytes pc = .ok (.ixor, 1)) (hz : x ^^^ y = z) (pc' : Nat) (hp : pc' = pc + 1) (q : Run p.tables e below Pq (T.setTop (mkF m pc' Ls (.int z :: S)))) : Run p.tables e below Pq (T.setTop (mkF m pc Ls (.int y :: .int x :: S))) := by
  obtain ⟨hA, hx, hby⟩ := j.here
  subst hp hz
  exact Run.of (fun t k => XS.ixor (g := mkF m pc Ls (.int y :: .int x :: S)) hA hx rfl (hb hby hd) rfl k) q
theorem p_ishl (j : J l Z a0 EL LT own bytes maxL ret nm R p e s m args below meth c T cells slots W) {pc : Nat} {Ls : Array Slot} {S : List Value} {Pq : Outcome → State → Prop} {x y z : Int32} (hd : decode bytes pc = .ok (.ishl, 1)) (hz : x <<< (y &&& 31) = z) (pc' : Nat) (hp : pc' = pc + 1) (q : Run p.tables e below Pq (T.setTop (mkF m pc' Ls (.int z :: S)))) : Run p.tables e below Pq (T.setTop (mkF m pc Ls (.int y :: .int x :: S))) := by
  obtain ⟨hA, hx, hby⟩ := j.here
  subst hp hz
  exact Run.of (fun t k => XS.ishl (g := mkF m pc Ls (.int y :: .int x :: S)) hA hx rfl (hb hby hd) rfl k) q
theorem p_ishr (j : J l Z a0 EL LT own bytes maxL ret nm R p e s m args below meth c T cells slots W) {pc : Nat} {Ls : Array Slot} {S : List Value} {Pq : Outcome → State → Prop} {x y z : Int32} (hd : decode bytes pc = .ok (.ishr, 1)) (hz : x >>> (y &&& 31) = z) (pc' : Nat) (hp : pc' = pc + 1) (q : Run p.tables e below Pq (T.setTop (mkF m pc' Ls (.int z :: S)))) : Run p.tables e below Pq (T.setTop (mkF m pc Ls (.int y :: .int x :: S))) := by
  obtain ⟨hA, hx, hby⟩ := j.here
  subst hp hz
  exact Run.of (fun t k => XS.ishr (g := mkF m pc Ls (.int y :: .int x :: S)) hA hx rfl (hb hby hd) rfl k) q
theorem p_iushr (j : J l Z a0 EL LT own bytes maxL ret nm R p e s m args below meth c T cells slots W) {pc : Nat} {Ls : Array Slot} {S : List Value} {Pq : Outcome → State → Prop} {x y z : Int32} (hd : decode bytes pc = .ok (.iushr, 1)) (hz : (x.toUInt32 >>> (y &&& 31).toUInt32).toInt32 = z) (pc' : Nat) (hp : pc' = pc + 1) (q : Run p.tables e below Pq (T.setTop (mkF m pc' Ls (.int z :: S)))) : Run p.tables e below Pq (T.setTop (mkF m pc Ls (.int y :: .int x :: S))) := by
  obtain ⟨hA, hx, hby⟩ := j.here
  subst hp hz
  exact Run.of (fun t k => XS.iushr (g := mkF m pc Ls (.int y :: .int x :: S)) hA hx rfl (hb hby hd) rfl k) q
theorem p_lcmp (j : J l Z a0 EL LT own bytes maxL ret nm R p e s m args below meth c T cells slots W) {pc : Nat} {Ls : Array Slot} {S : List Value} {Pq : Outcome → State → Prop} {x y : Int64} {z : Int32} (hd : decode bytes pc = .ok (.lcmp, 1)) (hz : lcmpW x y = z) (pc' : Nat) (hp : pc' = pc + 1) (q : Run p.tables e below Pq (T.setTop (mkF m pc' Ls (.int z :: S)))) : Run p.tables e below Pq (T.setTop (mkF m pc Ls (.long y :: .long x :: S))) := by
  obtain ⟨hA, hx, hby⟩ := j.here
  subst hp hz
  exact Run.of (fun t k => XS.lcmp (g := mkF m pc Ls (.long y :: .long x :: S)) hA hx rfl (hb hby hd) rfl k) q
theorem p_i2c (j : J l Z a0 EL LT own bytes maxL ret nm R p e s m args below meth c T cells slots W) {pc : Nat} {Ls : Array Slot} {S : List Value} {Pq : Outcome → State → Prop} {x z : Int32} (hd : decode bytes pc = .ok (.i2c, 1)) (hz : x.toUInt32.toUInt16.toUInt32.toInt32 = z) (pc' : Nat) (hp : pc' = pc + 1) (q : Run p.tables e below Pq (T.setTop (mkF m pc' Ls (.int z :: S)))) : Run p.tables e below Pq (T.setTop (mkF m pc Ls (.int x :: S))) := by
  obtain ⟨hA, hx, hby⟩ := j.here
  subst hp hz
  exact Run.of (fun t k => XS.i2c (g := mkF m pc Ls (.int x :: S)) hA hx rfl (hb hby hd) rfl k) q
theorem p_i2b (j : J l Z a0 EL LT own bytes maxL ret nm R p e s m args below meth c T cells slots W) {pc : Nat} {Ls : Array Slot} {S : List Value} {Pq : Outcome → State → Prop} {x z : Int32} (hd : decode bytes pc = .ok (.i2b, 1)) (hz : x.toInt8.toInt32 = z) (pc' : Nat) (hp : pc' = pc + 1) (q : Run p.tables e below Pq (T.setTop (mkF m pc' Ls (.int z :: S)))) : Run p.tables e below Pq (T.setTop (mkF m pc Ls (.int x :: S))) := by
  obtain ⟨hA, hx, hby⟩ := j.here
  subst hp hz
  exact Run.of (fun t k => XS.i2b (g := mkF m pc Ls (.int x :: S)) hA hx rfl (hb hby hd) rfl k) q
theorem p_dup (j : J l Z a0 EL LT own bytes maxL ret nm R p e s m args below meth c T cells slots W) {pc : Nat} {Ls : Array Slot} {S : List Value} {Pq : Outcome → State → Prop} {x : Value} (hd : decode bytes pc = .ok (.dup, 1)) (hc : x.category = 1) (pc' : Nat) (hp : pc' = pc + 1) (q : Run p.tables e below Pq (T.setTop (mkF m pc' Ls (x :: x :: S)))) : Run p.tables e below Pq (T.setTop (mkF m pc Ls (x :: S))) := by
  obtain ⟨hA, hx, hby⟩ := j.here
  subst hp
  exact Run.of (fun t k => XS.dup (g := mkF m pc Ls (x :: S)) hA hx rfl (hb hby hd) rfl hc k) q
theorem p_pop (j : J l Z a0 EL LT own bytes maxL ret nm R p e s m args below meth c T cells slots W) {pc : Nat} {Ls : Array Slot} {S : List Value} {Pq : Outcome → State → Prop} {x : Value} (hd : decode bytes pc = .ok (.pop, 1)) (hc : x.category = 1) (pc' : Nat) (hp : pc' = pc + 1) (q : Run p.tables e below Pq (T.setTop (mkF m pc' Ls (S)))) : Run p.tables e below Pq (T.setTop (mkF m pc Ls (x :: S))) := by
  obtain ⟨hA, hx, hby⟩ := j.here
  subst hp
  exact Run.of (fun t k => XS.pop (g := mkF m pc Ls (x :: S)) hA hx rfl (hb hby hd) rfl hc k) q
theorem p_dup_x1 (j : J l Z a0 EL LT own bytes maxL ret nm R p e s m args below meth c T cells slots W) {pc : Nat} {Ls : Array Slot} {S : List Value} {Pq : Outcome → State → Prop} {x y : Value} (hd : decode bytes pc = .ok (.dup_x1, 1)) (hc : x.category = 1) (hc' : y.category = 1) (pc' : Nat) (hp : pc' = pc + 1) (q : Run p.tables e below Pq (T.setTop (mkF m pc' Ls (x :: y :: x :: S)))) : Run p.tables e below Pq (T.setTop (mkF m pc Ls (x :: y :: S))) := by
  obtain ⟨hA, hx, hby⟩ := j.here
  subst hp
  exact Run.of (fun t k => XS.dupX1 (g := mkF m pc Ls (x :: y :: S)) hA hx rfl (hb hby hd) rfl hc hc' k) q
theorem p_iinc (j : J l Z a0 EL LT own bytes maxL ret nm R p e s m args below meth c T cells slots W) {pc : Nat} {Ls : Array Slot} {S : List Value} {Pq : Outcome → State → Prop} {k : Nat} {i : Int} {v : Int32} (l' : Array Slot) (hd : decode bytes pc = .ok (.iinc k i, 3)) (hv : Ls[k]? = some (.val (.int v))) (hl : storeLocals Ls k (.int (v + Int32.ofInt i)) = some l') (pc' : Nat) (hp : pc' = pc + 3) (q : Run p.tables e below Pq (T.setTop (mkF m pc' l' (S)))) : Run p.tables e below Pq (T.setTop (mkF m pc Ls (S))) := by
  obtain ⟨hA, hx, hby⟩ := j.here
  subst hp
  exact Run.of (fun t k => XS.iinc (g := mkF m pc Ls (S)) hA hx rfl (hb hby hd) hv hl k) q
theorem p_goto (j : J l Z a0 EL LT own bytes maxL ret nm R p e s m args below meth c T cells slots W) {pc : Nat} {Ls : Array Slot} {S : List Value} {Pq : Outcome → State → Prop}  {o : Int} (hd : decode bytes pc = .ok (.goto o, 3))  (pc' : Nat) (ho : 0 ≤ (pc : Int) + o) (hp : ((pc : Int) + o).toNat = pc') (q : Run p.tables e below Pq (T.setTop (mkF m pc' Ls (S)))) : Run p.tables e below Pq (T.setTop (mkF m pc Ls (S))) := by
  obtain ⟨hA, hx, hby⟩ := j.here
  exact Run.of (fun t k => XS.goto (g := mkF m pc Ls (S)) hA hx rfl (pc0 := pc) (pc' := pc') rfl (hb hby hd)  ho hp k) q
theorem p_if_y (j : J l Z a0 EL LT own bytes maxL ret nm R p e s m args below meth c T cells slots W) {pc : Nat} {Ls : Array Slot} {S : List Value} {Pq : Outcome → State → Prop} {cd : ClassFile.Cond} {x : Int32} {o : Int} (hd : decode bytes pc = .ok (.ifCond cd o, 3)) (hc : ifCond.holds cd x = true) (pc' : Nat) (ho : 0 ≤ (pc : Int) + o) (hp : ((pc : Int) + o).toNat = pc') (q : Run p.tables e below Pq (T.setTop (mkF m pc' Ls (S)))) : Run p.tables e below Pq (T.setTop (mkF m pc Ls (.int x :: S))) := by
  obtain ⟨hA, hx, hby⟩ := j.here
  exact Run.of (fun t k => XS.ifYes (g := mkF m pc Ls (.int x :: S)) hA hx rfl (pc0 := pc) (pc' := pc') rfl (hb hby hd) rfl hc ho hp k) q
theorem p_if_n (j : J l Z a0 EL LT own bytes maxL ret nm R p e s m args below meth c T cells slots W) {pc : Nat} {Ls : Array Slot} {S : List Value} {Pq : Outcome → State → Prop} {cd : ClassFile.Cond} {x : Int32} {o : Int} (hd : decode bytes pc = .ok (.ifCond cd o, 3)) (hc : ifCond.holds cd x = false) (pc' : Nat) (hp : pc' = pc + 3) (q : Run p.tables e below Pq (T.setTop (mkF m pc' Ls (S)))) : Run p.tables e below Pq (T.setTop (mkF m pc Ls (.int x :: S))) := by
  obtain ⟨hA, hx, hby⟩ := j.here
  subst hp
  exact Run.of (fun t k => XS.ifNo (g := mkF m pc Ls (.int x :: S)) hA hx rfl (hb hby hd) rfl hc k) q
theorem p_icmp_y (j : J l Z a0 EL LT own bytes maxL ret nm R p e s m args below meth c T cells slots W) {pc : Nat} {Ls : Array Slot} {S : List Value} {Pq : Outcome → State → Prop} {cd : ClassFile.Cond} {x y : Int32} {o : Int} (hd : decode bytes pc = .ok (.if_icmp cd o, 3)) (hc : if_icmp.holds cd x y = true) (pc' : Nat) (ho : 0 ≤ (pc : Int) + o) (hp : ((pc : Int) + o).toNat = pc') (q : Run p.tables e below Pq (T.setTop (mkF m pc' Ls (S)))) : Run p.tables e below Pq (T.setTop (mkF m pc Ls (.int y :: .int x :: S))) := by
  obtain ⟨hA, hx, hby⟩ := j.here
  exact Run.of (fun t k => XS.icmpYes (g := mkF m pc Ls (.int y :: .int x :: S)) hA hx rfl (pc0 := pc) (pc' := pc') rfl (hb hby hd) rfl hc ho hp k) q
theorem p_icmp_n (j : J l Z a0 EL LT own bytes maxL ret nm R p e s m args below meth c T cells slots W) {pc : Nat} {Ls : Array Slot} {S : List Value} {Pq : Outcome → State → Prop} {cd : ClassFile.Cond} {x y : Int32} {o : Int} (hd : decode bytes pc = .ok (.if_icmp cd o, 3)) (hc : if_icmp.holds cd x y = false) (pc' : Nat) (hp : pc' = pc + 3) (q : Run p.tables e below Pq (T.setTop (mkF m pc' Ls (S)))) : Run p.tables e below Pq (T.setTop (mkF m pc Ls (.int y :: .int x :: S))) := by
  obtain ⟨hA, hx, hby⟩ := j.here
  subst hp
  exact Run.of (fun t k => XS.icmpNo (g := mkF m pc Ls (.int y :: .int x :: S)) hA hx rfl (hb hby hd) rfl hc k) q
theorem p_ifnull_y (j : J l Z a0 EL LT own bytes maxL ret nm R p e s m args below meth c T cells slots W) {pc : Nat} {Ls : Array Slot} {S : List Value} {Pq : Outcome → State → Prop}  {o : Int} (hd : decode bytes pc = .ok (.ifnull o, 3))  (pc' : Nat) (ho : 0 ≤ (pc : Int) + o) (hp : ((pc : Int) + o).toNat = pc') (q : Run p.tables e below Pq (T.setTop (mkF m pc' Ls (S)))) : Run p.tables e below Pq (T.setTop (mkF m pc Ls (.null :: S))) := by
  obtain ⟨hA, hx, hby⟩ := j.here
  exact Run.of (fun t k => XS.ifnullYes (g := mkF m pc Ls (.null :: S)) hA hx rfl (pc0 := pc) (pc' := pc') rfl (hb hby hd) rfl ho hp k) q
theorem p_ifnull_n (j : J l Z a0 EL LT own bytes maxL ret nm R p e s m args below meth c T cells slots W) {pc : Nat} {Ls : Array Slot} {S : List Value} {Pq : Outcome → State → Prop} {b : Addr} {o : Int} (hd : decode bytes pc = .ok (.ifnull o, 3))  (pc' : Nat) (hp : pc' = pc + 3) (q : Run p.tables e below Pq (T.setTop (mkF m pc' Ls (S)))) : Run p.tables e below Pq (T.setTop (mkF m pc Ls (.ref b :: S))) := by
  obtain ⟨hA, hx, hby⟩ := j.here
  subst hp
  exact Run.of (fun t k => XS.ifnullNo (g := mkF m pc Ls (.ref b :: S)) hA hx rfl (hb hby hd) rfl k) q
theorem p_ifnonnull_y (j : J l Z a0 EL LT own bytes maxL ret nm R p e s m args below meth c T cells slots W) {pc : Nat} {Ls : Array Slot} {S : List Value} {Pq : Outcome → State → Prop} {b : Addr} {o : Int} (hd : decode bytes pc = .ok (.ifnonnull o, 3))  (pc' : Nat) (ho : 0 ≤ (pc : Int) + o) (hp : ((pc : Int) + o).toNat = pc') (q : Run p.tables e below Pq (T.setTop (mkF m pc' Ls (S)))) : Run p.tables e below Pq (T.setTop (mkF m pc Ls (.ref b :: S))) := by
  obtain ⟨hA, hx, hby⟩ := j.here
  exact Run.of (fun t k => XS.ifnonnullYes (g := mkF m pc Ls (.ref b :: S)) hA hx rfl (pc0 := pc) (pc' := pc') rfl (hb hby hd) rfl ho hp k) q
theorem p_ifnonnull_n (j : J l Z a0 EL LT own bytes maxL ret nm R p e s m args below meth c T cells slots W) {pc : Nat} {Ls : Array Slot} {S : List Value} {Pq : Outcome → State → Prop}  {o : Int} (hd : decode bytes pc = .ok (.ifnonnull o, 3))  (pc' : Nat) (hp : pc' = pc + 3) (q : Run p.tables e below Pq (T.setTop (mkF m pc' Ls (S)))) : Run p.tables e below Pq (T.setTop (mkF m pc Ls (.null :: S))) := by
  obtain ⟨hA, hx, hby⟩ := j.here
  subst hp
  exact Run.of (fun t k => XS.ifnonnullNo (g := mkF m pc Ls (.null :: S)) hA hx rfl (hb hby hd) rfl k) q
theorem p_acmp (j : J l Z a0 EL LT own bytes maxL ret nm R p e s m args below meth c T cells slots W) {pc : Nat} {Ls : Array Slot} {S : List Value} {Pq : Outcome → State → Prop} {cd : ClassFile.ACond} {o : Int} {x y : Value} (h1 : x.isRef = true) (h2 : y.isRef = true) (hd : decode bytes pc = .ok (.if_acmp cd o, 3)) {same : Bool} (hq : decide (x = y) = same) (pc' : Nat) (ho : 0 ≤ (pc : Int) + o) (hp : pc' = if acV cd same = true then ((pc : Int) + o).toNat else pc + 3) (q : Run p.tables e below Pq (T.setTop (mkF m pc' Ls S))) : Run p.tables e below Pq (T.setTop (mkF m pc Ls (y :: x :: S))) := by
  obtain ⟨vm0, locs, k0, X, -, -, -, -, -, -, -, hx, hby, -⟩ := j
  exact Run.of (fun t k => Jvm.RoadKit.acmp (g := mkF m pc Ls (y :: x :: S)) X hx rfl h1 h2 (pc0 := pc) (pc' := pc') (same := same) rfl (hb hby hd) rfl hq ho hp k) q
/-! ### Steps by a law -/
theorem i_get (j : J l Z a0 EL LT own bytes maxL ret nm R p e s m args below meth c T cells slots W) {pc : Nat} {Ls : Array Slot} {S : List Value} {Pq : Outcome → State → Prop} {idx : Nat} {R0 O n d : String} {a : Addr} {b : Bool} {C : String} {fs : FS} {v : Value} (hd : decode bytes pc = .ok (.getfield idx, 3)) (wl : Jvm.Cond.fieldLink own idx R0 n d ∈ tables_1) (via : Via Z R0 O n d) (i k : Nat) (hi : W[i]? = some (a, b, .inl (C, fs))) (hk : fs[k]? = some (O, n, d, v)) (pc' : Nat) (hp : pc' = pc + 3) (q : ∀ T', J l Z a0 EL LT own bytes maxL ret nm R p e s m args below meth c T' cells slots W → Run p.tables e below Pq (T'.setTop (mkF m pc' Ls (v :: S)))) : Run p.tables e below Pq (T.setTop (mkF m pc Ls (.ref a :: S))) := by
  obtain ⟨vm0, locs, k0, X, hS, hk0, hZ, hown, hN, w, hT, hx, hby, hr⟩ := j
  obtain ⟨T', X', e', st⟩ := getF X hx hZ hown (host := "") (Or.inl (hr.2.2.2.2.1 _ wl)) via rfl ((w.2.2.1 _ (List.mem_of_getElem? hi)).1.2.1 _ (List.mem_of_getElem? hk)) (g := mkF m pc Ls (.ref a :: S)) rfl rfl (hb hby hd)
  subst hp
  exact Run.of st (q T' ⟨vm0, locs, k0, X', hS, by rw [e']; exact hk0, hZ, hown, hN, by rw [e']; exact w, hT, hx, hby, hr⟩)
theorem i_put (j : J l Z a0 EL LT own bytes maxL ret nm R p e s m args below meth c T cells slots W) {pc : Nat} {Ls : Array Slot} {S : List Value} {Pq : Outcome → State → Prop} {idx kk : Nat} {R0 O n d : String} {a : Addr} {C : String} {fs : FS} {v old : Value} {ty : FieldType} (hd : decode bytes pc = .ok (.putfield idx, 3)) (wl : Jvm.Cond.fieldLink own idx R0 n d ∈ tables_1) (via : Via Z R0 O n d) (i k : Nat) (hi : W[i]? = some (a, true, .inl (C, fs))) (hk : fs[k]? = some (O, n, d, old)) (D : GC Z a0 EL → SD Z (fs.map key))
    (wL : Jvm.Cond.lays C O n d ∈ tables_1 ∨ (Jvm.Cond.laysFinal C O n d ∈ tables_1 ∧ own = O ∧ nm = "<init>")) (wi : Jvm.Cond.instantiable C kk ∈ tables_1) (hty : parseFieldDescriptor d = some ty) (hn : narrow ty v = v) (hf : fits ty v = true) (pc' : Nat) (hp : pc' = pc + 3) (W' : List OB) (hW : W.set i (a, true, .inl (C, fs.set k (O, n, d, v))) = W') (q : ∀ T', J l Z a0 EL LT own bytes maxL ret nm R p e s m args below meth c T' cells slots W' → Run p.tables e below Pq (T'.setTop (mkF m pc' Ls S))) : Run p.tables e below Pq (T.setTop (mkF m pc Ls (v :: .ref a :: S))) := by
  obtain ⟨vm0, locs, k0, X, hS, hk0, hZ, hown, hN, w, hT, hx, hby, hr⟩ := j
  have mo := w.2.2.1 _ (List.mem_of_getElem? hi)
  obtain ⟨T', h', X', e', K, st⟩ := putF X hx hZ hown (host := "") (Or.inl (hr.2.2.2.2.1 _ wl)) via rfl (mo.1.2.1 _ (List.mem_of_getElem? hk)) mo.1.1 (wL.imp (hr.2.2.2.2.1 _) fun z => ⟨hr.2.2.2.2.1 _ z.1, z.2.1, by rw [hr.2.2.1]; exact z.2.2⟩) (hr.2.2.2.2.1 _ wi) hty hn hf (g := mkF m pc Ls (v :: .ref a :: S)) rfl rfl (hb hby hd)
  subst hp e' hW
  refine Run.of st (q T' ⟨vm0, _, k0, X', hS, by rw [K.size]; exact hk0, hZ, hown, Fr.snoc X' hN (mo.2 rfl).1, w.put hi hk (D hr.2.2.2.2) K, hT, hx, hby, hr⟩)
/-- an object's fields are laid -/
def KD (Z : State) (a0 : Array Value) (C : String) (ks : List (String × String × String)) : Prop := ∀ k ∈ ks, Laid Z a0 C k.1 k.2.1 k.2.2 ∧ ∃ t, parseFieldDescriptor k.2.2 = some t
theorem i_putX (j : J l Z a0 EL LT own bytes maxL ret nm R p e s m args below meth c T cells slots W) {pc : Nat} {Ls : Array Slot} {S : List Value} {Pq : Outcome → State → Prop} {idx kk : Nat} {R0 O n d : String} {a : Addr} {C : String} {fs : FS} {v : Value} {ty : FieldType} (hd : decode bytes pc = .ok (.putfield idx, 3)) (wl : Jvm.Cond.fieldLink own idx R0 n d ∈ tables_1) (via : Via Z R0 O n d) (i : Nat) (hi : W[i]? = some (a, true, .inl (C, fs))) (D : GC Z a0 EL → KD Z a0 C (fs.map key)) {ks : List (String × String × String)} (hks : fs.map key = ks) (hne : (ks.all fun k => k.2.1 != n) = true)
    (wL : Jvm.Cond.lays C O n d ∈ tables_1 ∨ (Jvm.Cond.laysFinal C O n d ∈ tables_1 ∧ own = O ∧ nm = "<init>")) (wi : Jvm.Cond.instantiable C kk ∈ tables_1) (hty : parseFieldDescriptor d = some ty) (hn : narrow ty v = v) (hf : fits ty v = true) (pc' : Nat) (hp : pc' = pc + 3) (q : ∀ T', J l Z a0 EL LT own bytes maxL ret nm R p e s m args below meth c T' cells slots W → Run p.tables e below Pq (T'.setTop (mkF m pc' Ls S))) : Run p.tables e below Pq (T.setTop (mkF m pc Ls (v :: .ref a :: S))) := by
  obtain ⟨vm0, locs, k0, X, hS, hk0, hZ, hown, hN, w, hT, hx, hby, hr⟩ := j
  have mo := w.2.2.1 _ (List.mem_of_getElem? hi)
  have wL' : (Jvm.Cond.lays C O n d).before a0 Z = true ∨ ((Jvm.Cond.laysFinal C O n d).before a0 Z = true ∧ own = O ∧ meth.name = "<init>") := wL.imp (hr.2.2.2.2.1 _) fun z => ⟨hr.2.2.2.2.1 _ z.1, z.2.1, by rw [hr.2.2.1]; exact z.2.2⟩
  have Lf : Laid Z a0 C O n d := wL'.imp id (·.1)
  obtain ⟨old, Fo⟩ := fld_laid mo.1.1 mo.1.2.2 (hr.2.2.2.2.1 _ wi) Lf
  obtain ⟨T', h', X', e', K, st⟩ := putF X hx hZ hown (host := "") (Or.inl (hr.2.2.2.2.1 _ wl)) via rfl Fo mo.1.1 wL' (hr.2.2.2.2.1 _ wi) hty hn hf (g := mkF m pc Ls (v :: .ref a :: S)) rfl rfl (hb hby hd)
  subst hp e'
  refine Run.of st (q T' ⟨vm0, _, k0, X', hS, by rw [K.size]; exact hk0, hZ, hown, Fr.snoc X' hN (mo.2 rfl).1, w.putX hi (fun f hf' => ?_) K, hT, hx, hby, hr⟩)
  have hk := List.mem_map_of_mem (f := key) hf'
  obtain ⟨L, t, ht⟩ := D hr.2.2.2.2 (key f) hk
  have ne := List.all_eq_true.mp hne (key f) (hks ▸ hk)
  exact Jvm.RoadKit.slot_ne L Lf (by simpa [key] using ne) ht hty
theorem i_getS (j : J l Z a0 EL LT own bytes maxL ret nm R p e s m args below meth c T cells slots W) {pc : Nat} {Ls : Array Slot} {S : List Value} {Pq : Outcome → State → Prop} {idx : Nat} {R0 O n d : String} {v : Value} (hd : decode bytes pc = .ok (.getstatic idx, 3)) (wl : Jvm.Cond.fieldLink own idx R0 n d ∈ tables_1) (via : Via Z R0 O n d) (F : Sta Z Z.heap O n d v) (pc' : Nat) (hp : pc' = pc + 3) (q : ∀ T', J l Z a0 EL LT own bytes maxL ret nm R p e s m args below meth c T' cells slots W → Run p.tables e below Pq (T'.setTop (mkF m pc' Ls (v :: S)))) : Run p.tables e below Pq (T.setTop (mkF m pc Ls S)) := by
  obtain ⟨vm0, locs, k0, X, hS, hk0, hZ, hown, hN, w, hT, hx, hby, hr⟩ := j
  obtain ⟨T', X', e', st⟩ := getS X hx hZ hown (host := "") (hr.2.2.2.2.1 _ wl) via rfl (F.ext w.1) (g := mkF m pc Ls S) rfl (hb hby hd)
  subst hp
  exact Run.of st (q T' ⟨vm0, locs, k0, X', hS, by rw [e']; exact hk0, hZ, hown, hN, by rw [e']; exact w, hT, hx, hby, hr⟩)
/-- an object's fields, each laid, each at its first value -/
def FD (Z : State) (a0 : Array Value) (C : String) (fs : FS) : Prop := ∀ f ∈ fs, Laid Z a0 C f.1 f.2.1 f.2.2.1 ∧ ∃ ty, parseFieldDescriptor f.2.2.1 = some ty ∧ defaultValue ty = f.2.2.2
theorem FD.nil {Z : State} {a0 : Array Value} {C : String} : FD Z a0 C [] := fun _ h => by cases h
theorem FD.cons {Z : State} {a0 : Array Value} {C O n d : String} {v : Value} {fs : FS} {ty : FieldType} (L : Laid Z a0 C O n d) (ht : parseFieldDescriptor d = some ty) (hv : defaultValue ty = v) (r : FD Z a0 C fs) : FD Z a0 C ((O, n, d, v) :: fs) := fun f hf => by
  rcases List.mem_cons.mp hf with rfl | hf
  · exact ⟨L, ty, ht, hv⟩
  · exact r f hf
theorem FD.keys {Z : State} {a0 : Array Value} {C : String} {fs : FS} (F : FD Z a0 C fs) : KD Z a0 C (fs.map key) := fun k hk => by
  obtain ⟨f, hf, rfl⟩ := List.mem_map.mp hk
  obtain ⟨L, t, ht, -⟩ := F f hf
  exact ⟨L, t, ht⟩
theorem SD.of {Z : State} {a0 : Array Value} {C : String} {fs : FS} (F : FD Z a0 C fs) (hn : (fs.map fun f => f.2.1).Nodup) : SD Z (fs.map key) := fun i j k k' ne h1 h2 => by
  rw [List.getElem?_map, Option.map_eq_some_iff] at h1 h2
  obtain ⟨f, e1, rfl⟩ := h1
  obtain ⟨f', e2, rfl⟩ := h2
  obtain ⟨L, t, ht, -⟩ := F f (List.mem_of_getElem? e1)
  obtain ⟨L', t', ht', -⟩ := F f' (List.mem_of_getElem? e2)
  refine Jvm.RoadKit.slot_ne L L' (fun e => ne ?_) ht ht'
  have P := List.pairwise_iff_getElem.mp hn
  obtain ⟨l1, z1⟩ := List.getElem?_eq_some_iff.mp e1
  obtain ⟨l2, z2⟩ := List.getElem?_eq_some_iff.mp e2
  rcases Nat.lt_trichotomy i j with q | q | q
  · have r := P i j (by simpa using l1) (by simpa using l2) q
    rw [List.getElem_map, List.getElem_map, z1, z2] at r
    exact absurd e r
  · exact q
  · have r := P j i (by simpa using l2) (by simpa using l1) q
    rw [List.getElem_map, List.getElem_map, z1, z2] at r
    exact absurd e.symm r
theorem i_new (j : J l Z a0 EL LT own bytes maxL ret nm R p e s m args below meth c T cells slots W) {pc : Nat} {Ls : Array Slot} {S : List Value} {Pq : Outcome → State → Prop} {idx n : Nat} {C : String} (hd : decode bytes pc = .ok (.new idx, 3)) (wl : Jvm.Cond.classLink own idx C ∈ tables_1) (wi : Jvm.Cond.instantiable C n ∈ tables_1) (wz : Jvm.Cond.initialized C ∈ tables_1) (hc : cells + 1 ≤ R.cells) (hs : slots + n ≤ R.slots) {fs : FS} (hfs : GC Z a0 EL → FD Z a0 C fs) (c' s' : Nat) (hc' : c' = cells + 1) (hs' : s' = slots + n) (pc' : Nat) (hp : pc' = pc + 3) (q : ∀ a T', J l Z a0 EL LT own bytes maxL ret nm R p e s m args below meth c T' c' s' ((a, true, .inl (C, fs)) :: W) → Run p.tables e below Pq (T'.setTop (mkF m pc' Ls (.ref a :: S)))) : Run p.tables e below Pq (T.setTop (mkF m pc Ls S)) := by
  obtain ⟨vm0, locs, k0, X, hS, hk0, hZ, hown, hN, w, hT, hx, hby, hr⟩ := j
  obtain ⟨T', h', X', e', E, A, Dd, ⟨nc, nc1, nc2, -⟩, st⟩ := newO X hx hZ hown (hr.2.2.2.2.1 _ wl) (hr.2.2.2.2.1 _ wi) (hr.2.2.2.2.1 _ wz) rfl (g := mkF m pc Ls S) rfl (hb hby hd) hc hs
  subst hp hc' hs' e'
  refine Run.of st (q _ T' ⟨vm0, locs, k0, X', hS, Nat.le_trans hk0 E.1, hZ, hown, hN, w.fresh E rfl ⟨A, fun f hf => ?_, ⟨nc, nc1, by rw [nc2]; simp⟩⟩, hT, hx, hby, hr⟩)
  obtain ⟨L, ty, ht, hv⟩ := hfs hr.2.2.2.2 f hf
  rw [← hv]
  exact Dd L ht
theorem i_newP (j : J l Z a0 EL LT own bytes maxL ret nm R p e s m args below meth c T cells slots W) {pc : Nat} {Ls : Array Slot} {S : List Value} {Pq : Outcome → State → Prop} {aty : ArrayType} {ty : FieldType} (hd : decode bytes pc = .ok (.newarray aty, 2)) (hty : newarray.typeOf aty = ty) (hno : ∀ C, ty ≠ .object C) (w1 : Jvm.Cond.arrayClass ty ∈ tables_1) {z : Int32} (hz : ¬ z < 0) (cap : Nat) (hcap : z.toNatClampNeg ≤ cap) (hb8 : cap * 8 ≤ 536870912) (hc : cells + 1 ≤ R.cells) (hs : slots + cap ≤ R.slots) (vs : List Value) (hvs : ∀ i, vs.getD i (defaultValue ty) = ([] : List Value).getD i (defaultValue ty)) {dv : Value} (hdv : defaultValue ty = dv) (c' s' : Nat) (hc' : c' = cells + 1) (hs' : s' = slots + cap) (pc' : Nat) (hp : pc' = pc + 2) (q : ∀ a k T', J l Z a0 EL LT own bytes maxL ret nm R p e s m args below meth c T' c' s' ((a, true, .inr (k, ty, z, vs, dv)) :: W) → Run p.tables e below Pq (T'.setTop (mkF m pc' Ls (.ref a :: S)))) : Run p.tables e below Pq (T.setTop (mkF m pc Ls (.int z :: S))) := by
  obtain ⟨vm0, locs, k0, X, hS, hk0, hZ, hown, hN, w, hT, hx, hby, hr⟩ := j
  subst hty
  obtain ⟨T', h', cA, X', e', E, A, st⟩ := newP X hx hZ (hr.2.2.2.2.1 _ w1) rfl (g := mkF m pc Ls (.int z :: S)) rfl (hb hby hd) rfl hz hcap hb8 hc hs
  subst hp hc' hs' e' hdv
  exact Run.of st (q _ cA T' ⟨vm0, locs, k0, X', hS, Nat.le_trans hk0 E.1, hZ, hown, hN, w.fresh E rfl ⟨(Arv.new A hz).pad hvs, fun C hC => absurd hC (hno C)⟩, hT, hx, hby, hr⟩)
theorem i_newR (j : J l Z a0 EL LT own bytes maxL ret nm R p e s m args below meth c T cells slots W) {pc : Nat} {Ls : Array Slot} {S : List Value} {Pq : Outcome → State → Prop} {idx : Nat} {C : String} (hd : decode bytes pc = .ok (.anewarray idx, 3)) (wl : Jvm.Cond.classLink own idx C ∈ tables_1) (w1 : Jvm.Cond.arrayOver (.object C) ∈ tables_1) {z : Int32} (hz : ¬ z < 0) (cap : Nat) (hcap : z.toNatClampNeg ≤ cap) (hb8 : cap * 8 ≤ 536870912) (hc : cells + 1 ≤ R.cells) (hs : slots + cap ≤ R.slots) (vs : List Value) (hvs : ∀ i, vs.getD i .null = ([] : List Value).getD i .null) (c' s' : Nat) (hc' : c' = cells + 1) (hs' : s' = slots + cap) (pc' : Nat) (hp : pc' = pc + 3) (q : ∀ a k T', J l Z a0 EL LT own bytes maxL ret nm R p e s m args below meth c T' c' s' ((a, true, .inr (k, .object C, z, vs, .null)) :: W) → Run p.tables e below Pq (T'.setTop (mkF m pc' Ls (.ref a :: S)))) : Run p.tables e below Pq (T.setTop (mkF m pc Ls (.int z :: S))) := by
  obtain ⟨vm0, locs, k0, X, hS, hk0, hZ, hown, hN, w, hT, hx, hby, hr⟩ := j
  obtain ⟨T', h', cA, X', e', E, A, O, st⟩ := newR X hx hZ hown (hr.2.2.2.2.1 _ wl) (hr.2.2.2.2.1 _ w1) rfl (g := mkF m pc Ls (.int z :: S)) rfl (hb hby hd) rfl hz hcap hb8 hc hs
  subst hp hc' hs' e'
  refine Run.of st (q _ cA T' ⟨vm0, locs, k0, X', hS, Nat.le_trans hk0 E.1, hZ, hown, hN, w.fresh E rfl ⟨(Arv.new A hz).pad hvs, fun D hD => ?_⟩, hT, hx, hby, hr⟩)
  cases hD
  exact O
theorem i_len (j : J l Z a0 EL LT own bytes maxL ret nm R p e s m args below meth c T cells slots W) {pc : Nat} {Ls : Array Slot} {S : List Value} {Pq : Outcome → State → Prop} {a : Addr} {b : Bool} {k : ClassId} {ty : FieldType} {z : Int32} {vs : List Value} {dv : Value} (hd : decode bytes pc = .ok (.arraylength, 1)) (i : Nat) (hi : W[i]? = some (a, b, .inr (k, ty, z, vs, dv))) (pc' : Nat) (hp : pc' = pc + 1) (q : Run p.tables e below Pq (T.setTop (mkF m pc' Ls (.int z :: S)))) : Run p.tables e below Pq (T.setTop (mkF m pc Ls (.ref a :: S))) := by
  obtain ⟨vm0, locs, k0, X, hS, hk0, hZ, hown, hN, w, hT, hx, hby, hr⟩ := j
  obtain ⟨cl, A, -, q2, q3, -⟩ := (w.2.2.1 _ (List.mem_of_getElem? hi)).1.1
  subst hp
  refine Run.of (fun t kt => X.arraylength hx A.1 (State.isArrayOf_alike hZ.alike A.2.1) (g := mkF m pc Ls (.ref a :: S)) rfl rfl (hb hby hd) t ?_) q
  rw [len_of q2 q3]
  exact kt
theorem i_aaload (j : J l Z a0 EL LT own bytes maxL ret nm R p e s m args below meth c T cells slots W) {pc : Nat} {Ls : Array Slot} {S : List Value} {Pq : Outcome → State → Prop} {a : Addr} {b : Bool} {k : ClassId} {ty : FieldType} {z x : Int32} {vs : List Value} {dv v : Value} (hd : decode bytes pc = .ok (.aaload, 1)) (i : Nat) (hi : W[i]? = some (a, b, .inr (k, ty, z, vs, dv))) (hty : ty.isReference = true) (hx1 : ¬ x < 0) (hx2 : x < z) (hv : vs.getD x.toNatClampNeg dv = v) (pc' : Nat) (hp : pc' = pc + 1) (q : Run p.tables e below Pq (T.setTop (mkF m pc' Ls (v :: S)))) : Run p.tables e below Pq (T.setTop (mkF m pc Ls (.int x :: .ref a :: S))) := by
  obtain ⟨vm0, locs, k0, X, hS, hk0, hZ, hown, hN, w, hT, hx, hby, hr⟩ := j
  obtain ⟨cl, A, -, q2, q3, H, -⟩ := (w.2.2.1 _ (List.mem_of_getElem? hi)).1.1
  subst hp
  have hin := inb_of q2 ⟨hx1, hx2⟩
  exact Run.of (fun t kt => X.aaload hx A.1 (State.isArrayOf_alike hZ.alike A.2.1) hty A.2.2 hin (H.at hin hv) (g := mkF m pc Ls (.int x :: .ref a :: S)) rfl rfl (hb hby hd) t kt) q
theorem i_caload (j : J l Z a0 EL LT own bytes maxL ret nm R p e s m args below meth c T cells slots W) {pc : Nat} {Ls : Array Slot} {S : List Value} {Pq : Outcome → State → Prop} {a : Addr} {b : Bool} {k : ClassId} {z x v : Int32} {vs : List Value} {dv : Value} (hd : decode bytes pc = .ok (.caload, 1)) (i : Nat) (hi : W[i]? = some (a, b, .inr (k, .char, z, vs, dv))) (hx1 : ¬ x < 0) (hx2 : x < z) (hv : vs.getD x.toNatClampNeg dv = .int v) (pc' : Nat) (hp : pc' = pc + 1) (q : Run p.tables e below Pq (T.setTop (mkF m pc' Ls (.int v :: S)))) : Run p.tables e below Pq (T.setTop (mkF m pc Ls (.int x :: .ref a :: S))) := by
  obtain ⟨vm0, locs, k0, X, hS, hk0, hZ, hown, hN, w, hT, hx, hby, hr⟩ := j
  obtain ⟨cl, A, -, q2, q3, H, -⟩ := (w.2.2.1 _ (List.mem_of_getElem? hi)).1.1
  subst hp
  have hin := inb_of q2 ⟨hx1, hx2⟩
  exact Run.of (fun t kt => X.caload hx A.1 (State.isArrayOf_alike hZ.alike A.2.1) A.2.2 hin (H.at hin hv) (g := mkF m pc Ls (.int x :: .ref a :: S)) rfl rfl (hb hby hd) t kt) q
theorem arr_upd {Z : State} {EL : List (String × Nat)} {vm : Vm} {h h' : Heap} {W : List OB} (w : WL Z EL vm h W) {i u : Nat} {a : Addr} {k : ClassId} {ty : FieldType} {z x : Int32} {vs : List Value} {dv v : Value} (hi : W[i]? = some (a, true, .inr (k, ty, z, vs, dv))) (K : Wr h h' a x.toNatClampNeg v) (hv : fits ty v = true) (hj : x.toNatClampNeg = u) (hu : u < vs.length) : WL Z EL vm h' (W.set i (a, true, .inr (k, ty, z, vs.set u v, dv))) := by
  have mo := (w.2.2.1 _ (List.mem_of_getElem? hi)).1
  obtain ⟨cl, A, q1, q2, q3, H, G⟩ := mo.1
  exact w.upd (b := true) hi K ⟨Arv.set A q1 q2 q3 H G hv K u hj hu, mo.2⟩
theorem i_aastore (j : J l Z a0 EL LT own bytes maxL ret nm R p e s m args below meth c T cells slots W) {pc : Nat} {Ls : Array Slot} {S : List Value} {Pq : Outcome → State → Prop} {a y : Addr} {by' : Bool} {k : ClassId} {C D : String} {fs : FS} {z x : Int32} {vs : List Value} {dv : Value} (hd : decode bytes pc = .ok (.aastore, 1)) (i iy u : Nat) (hi : W[i]? = some (a, true, .inr (k, .object C, z, vs, dv))) (hy : W[iy]? = some (y, by', .inl (D, fs))) (hca : Jvm.Cond.castable D C ∈ tables_1) (hx1 : ¬ x < 0) (hx2 : x < z) (hj : x.toNatClampNeg = u) (hu : u < vs.length) (pc' : Nat) (hp : pc' = pc + 1) (W' : List OB) (hW : W.set i (a, true, .inr (k, .object C, z, vs.set u (.ref y), dv)) = W') (q : ∀ T', J l Z a0 EL LT own bytes maxL ret nm R p e s m args below meth c T' cells slots W' → Run p.tables e below Pq (T'.setTop (mkF m pc' Ls S))) : Run p.tables e below Pq (T.setTop (mkF m pc Ls (.ref y :: .int x :: .ref a :: S))) := by
  obtain ⟨vm0, locs, k0, X, hS, hk0, hZ, hown, hN, w, hT, hx, hby, hr⟩ := j
  have mo := w.2.2.1 _ (List.mem_of_getElem? hi)
  have my := (w.2.2.1 _ (List.mem_of_getElem? hy)).1.1
  obtain ⟨cl, A, q1, q2, q3, H, G⟩ := mo.1.1
  have hin := inb_of q2 ⟨hx1, hx2⟩
  have hI : Ins Z T.heap y C true := by
    obtain ⟨cell, kc, e1, e2, e3, e4, -⟩ := my
    obtain ⟨c1, t1, g1, g2, g3⟩ := Cond.castable_spec (hr.2.2.2.2.1 _ hca)
    cases e2.symm.trans g1
    exact ⟨cell, t1, e1, g2, by simp [e4, g3]⟩
  obtain ⟨T', h', X', e', K, st⟩ := stR X hx hZ rfl A hin rfl (Sto.ofV A q1 (mo.1.2 C rfl) hI) (g := mkF m pc Ls (.ref y :: .int x :: .ref a :: S)) rfl rfl (hb hby hd)
  subst hp e' hW
  exact Run.of st (q T' ⟨vm0, _, k0, X', hS, by rw [K.size]; exact hk0, hZ, hown, Fr.snoc X' hN (mo.2 rfl).1, arr_upd w hi K rfl hj hu, hT, hx, hby, hr⟩)
theorem i_aastoreN (j : J l Z a0 EL LT own bytes maxL ret nm R p e s m args below meth c T cells slots W) {pc : Nat} {Ls : Array Slot} {S : List Value} {Pq : Outcome → State → Prop} {a : Addr} {k : ClassId} {C : String} {z x : Int32} {vs : List Value} {dv : Value} (hd : decode bytes pc = .ok (.aastore, 1)) (i u : Nat) (hi : W[i]? = some (a, true, .inr (k, .object C, z, vs, dv))) (hx1 : ¬ x < 0) (hx2 : x < z) (hj : x.toNatClampNeg = u) (hu : u < vs.length) (pc' : Nat) (hp : pc' = pc + 1) (W' : List OB) (hW : W.set i (a, true, .inr (k, .object C, z, vs.set u .null, dv)) = W') (q : ∀ T', J l Z a0 EL LT own bytes maxL ret nm R p e s m args below meth c T' cells slots W' → Run p.tables e below Pq (T'.setTop (mkF m pc' Ls S))) : Run p.tables e below Pq (T.setTop (mkF m pc Ls (.null :: .int x :: .ref a :: S))) := by
  obtain ⟨vm0, locs, k0, X, hS, hk0, hZ, hown, hN, w, hT, hx, hby, hr⟩ := j
  have mo := w.2.2.1 _ (List.mem_of_getElem? hi)
  obtain ⟨cl, A, q1, q2, q3, H, G⟩ := mo.1.1
  have hin := inb_of q2 ⟨hx1, hx2⟩
  obtain ⟨T', h', X', e', K, st⟩ := stR X hx hZ rfl A hin rfl (Or.inl rfl) (g := mkF m pc Ls (.null :: .int x :: .ref a :: S)) rfl rfl (hb hby hd)
  subst hp e' hW
  exact Run.of st (q T' ⟨vm0, _, k0, X', hS, by rw [K.size]; exact hk0, hZ, hown, Fr.snoc X' hN (mo.2 rfl).1, arr_upd w hi K rfl hj hu, hT, hx, hby, hr⟩)
theorem i_iastore (j : J l Z a0 EL LT own bytes maxL ret nm R p e s m args below meth c T cells slots W) {pc : Nat} {Ls : Array Slot} {S : List Value} {Pq : Outcome → State → Prop} {a : Addr} {k : ClassId} {z x y : Int32} {vs : List Value} {dv : Value} (hd : decode bytes pc = .ok (.iastore, 1)) (i u : Nat) (hi : W[i]? = some (a, true, .inr (k, .int, z, vs, dv))) (hx1 : ¬ x < 0) (hx2 : x < z) (hj : x.toNatClampNeg = u) (hu : u < vs.length) (pc' : Nat) (hp : pc' = pc + 1) (W' : List OB) (hW : W.set i (a, true, .inr (k, .int, z, vs.set u (.int y), dv)) = W') (q : ∀ T', J l Z a0 EL LT own bytes maxL ret nm R p e s m args below meth c T' cells slots W' → Run p.tables e below Pq (T'.setTop (mkF m pc' Ls S))) : Run p.tables e below Pq (T.setTop (mkF m pc Ls (.int y :: .int x :: .ref a :: S))) := by
  obtain ⟨vm0, locs, k0, X, hS, hk0, hZ, hown, hN, w, hT, hx, hby, hr⟩ := j
  have mo := w.2.2.1 _ (List.mem_of_getElem? hi)
  obtain ⟨cl, A, q1, q2, q3, H, G⟩ := mo.1.1
  have hin := inb_of q2 ⟨hx1, hx2⟩
  obtain ⟨T', h', X', e', K, st⟩ := stI X hx hZ rfl A hin (g := mkF m pc Ls (.int y :: .int x :: .ref a :: S)) rfl rfl (hb hby hd)
  subst hp e' hW
  exact Run.of st (q T' ⟨vm0, _, k0, X', hS, by rw [K.size]; exact hk0, hZ, hown, Fr.snoc X' hN (mo.2 rfl).1, arr_upd w hi K rfl hj hu, hT, hx, hby, hr⟩)
theorem i_castore (j : J l Z a0 EL LT own bytes maxL ret nm R p e s m args below meth c T cells slots W) {pc : Nat} {Ls : Array Slot} {S : List Value} {Pq : Outcome → State → Prop} {a : Addr} {k : ClassId} {z x y y' : Int32} {vs : List Value} {dv : Value} (hd : decode bytes pc = .ok (.castore, 1)) (i u : Nat) (hi : W[i]? = some (a, true, .inr (k, .char, z, vs, dv))) (hx1 : ¬ x < 0) (hx2 : x < z) (hj : x.toNatClampNeg = u) (hu : u < vs.length) (hy : nar .char y = y') (pc' : Nat) (hp : pc' = pc + 1) (W' : List OB) (hW : W.set i (a, true, .inr (k, .char, z, vs.set u (.int y'), dv)) = W') (q : ∀ T', J l Z a0 EL LT own bytes maxL ret nm R p e s m args below meth c T' cells slots W' → Run p.tables e below Pq (T'.setTop (mkF m pc' Ls S))) : Run p.tables e below Pq (T.setTop (mkF m pc Ls (.int y :: .int x :: .ref a :: S))) := by
  obtain ⟨vm0, locs, k0, X, hS, hk0, hZ, hown, hN, w, hT, hx, hby, hr⟩ := j
  have mo := w.2.2.1 _ (List.mem_of_getElem? hi)
  obtain ⟨cl, A, q1, q2, q3, H, G⟩ := mo.1.1
  have hin := inb_of q2 ⟨hx1, hx2⟩
  obtain ⟨T', h', X', e', K, st⟩ := stC X hx hZ rfl A hin (g := mkF m pc Ls (.int y :: .int x :: .ref a :: S)) rfl rfl (hb hby hd)
  subst hp e' hW hy
  exact Run.of st (q T' ⟨vm0, _, k0, X', hS, by rw [K.size]; exact hk0, hZ, hown, Fr.snoc X' hN (mo.2 rfl).1, arr_upd w hi K (fits_nar_char y) hj hu, hT, hx, hby, hr⟩)
theorem i_bastore (j : J l Z a0 EL LT own bytes maxL ret nm R p e s m args below meth c T cells slots W) {pc : Nat} {Ls : Array Slot} {S : List Value} {Pq : Outcome → State → Prop} {a : Addr} {k : ClassId} {z x y y' : Int32} {vs : List Value} {dv : Value} (hd : decode bytes pc = .ok (.bastore, 1)) (i u : Nat) (hi : W[i]? = some (a, true, .inr (k, .byte, z, vs, dv))) (hx1 : ¬ x < 0) (hx2 : x < z) (hj : x.toNatClampNeg = u) (hu : u < vs.length) (hy : y.toInt8.toInt32 = y') (pc' : Nat) (hp : pc' = pc + 1) (W' : List OB) (hW : W.set i (a, true, .inr (k, .byte, z, vs.set u (.int y'), dv)) = W') (q : ∀ T', J l Z a0 EL LT own bytes maxL ret nm R p e s m args below meth c T' cells slots W' → Run p.tables e below Pq (T'.setTop (mkF m pc' Ls S))) : Run p.tables e below Pq (T.setTop (mkF m pc Ls (.int y :: .int x :: .ref a :: S))) := by
  obtain ⟨vm0, locs, k0, X, hS, hk0, hZ, hown, hN, w, hT, hx, hby, hr⟩ := j
  have mo := w.2.2.1 _ (List.mem_of_getElem? hi)
  obtain ⟨cl, A, q1, q2, q3, H, G⟩ := mo.1.1
  have hin := inb_of q2 ⟨hx1, hx2⟩
  obtain ⟨T', h', X', e', K, st⟩ := stB X hx hZ rfl A hin (g := mkF m pc Ls (.int y :: .int x :: .ref a :: S)) rfl rfl (hb hby hd)
  subst hp e' hW hy
  exact Run.of st (q T' ⟨vm0, _, k0, X', hS, by rw [K.size]; exact hk0, hZ, hown, Fr.snoc X' hN (mo.2 rfl).1, arr_upd w hi K (fits_nar_byte y) hj hu, hT, hx, hby, hr⟩)
theorem i_initO (j : J l Z a0 EL LT own bytes maxL ret nm R p e s m args below meth c T cells slots W) {pc : Nat} {Ls : Array Slot} {S : List Value} {Pq : Outcome → State → Prop} {idx : Nat} {a : Addr} (hd : decode bytes pc = .ok (.invokespecial idx, 3)) (w1 : Jvm.Cond.methodLink own idx Lib.objectInit ∈ tables_1) (w2 : Jvm.Cond.instanceMethod Lib.objectInit ∈ tables_1) (w3 : Jvm.Cond.code Lib.objectInit ⟨#[0xb1]⟩ 1 none ∈ tables_1) (hL : Ls.size = maxL) (hf : 1 ≤ R.frames) (hl : (S.map fun v => v.category).sum + 12 ≤ R.locals) (pc' : Nat) (hp : pc' = pc + 3) (q : ∀ T', J l Z a0 EL LT own bytes maxL ret nm R p e s m args below meth c T' cells slots W → Run p.tables e below Pq (T'.setTop (mkF m pc' Ls S))) : Run p.tables e below Pq (T.setTop (mkF m pc Ls (.ref a :: S))) := by
  obtain ⟨vm0, locs, k0, X, hS, hk0, hZ, hown, hN, w, hT, hx, hby, hr⟩ := j
  obtain ⟨T', X', e', st⟩ := initO X hx hZ hown (hr.2.2.2.2.1 _ w1) (hr.2.2.2.2.1 _ w2) (hr.2.2.2.2.1 _ w3) rfl (g := mkF m pc Ls (.ref a :: S)) rfl (by rw [hr.1]; exact hL) rfl (hb hby hd) hf (W := (S.map fun v => v.category).sum) (by show 2 * 0 + _ ≤ _; omega) hl
  subst hp
  exact Run.of st (q T' ⟨vm0, locs, k0, X', hS, by rw [e']; exact hk0, hZ, hown, hN, by rw [e']; exact w, hT, hx, hby, hr⟩)
theorem i_cast (j : J l Z a0 EL LT own bytes maxL ret nm R p e s m args below meth c T cells slots W) {pc : Nat} {Ls : Array Slot} {S : List Value} {Pq : Outcome → State → Prop} {idx : Nat} {a : Addr} {b : Bool} {C K : String} {fs : FS} (hd : decode bytes pc = .ok (.checkcast idx, 3)) (wl : Jvm.Cond.classLink own idx K ∈ tables_1) (hca : Jvm.Cond.castable C K ∈ tables_1) (i : Nat) (hi : W[i]? = some (a, b, .inl (C, fs))) (pc' : Nat) (hp : pc' = pc + 3) (q : ∀ T', J l Z a0 EL LT own bytes maxL ret nm R p e s m args below meth c T' cells slots W → Run p.tables e below Pq (T'.setTop (mkF m pc' Ls (.ref a :: S)))) : Run p.tables e below Pq (T.setTop (mkF m pc Ls (.ref a :: S))) := by
  obtain ⟨vm0, locs, k0, X, hS, hk0, hZ, hown, hN, w, hT, hx, hby, hr⟩ := j
  have my := (w.2.2.1 _ (List.mem_of_getElem? hi)).1.1
  have hI : Ins Z T.heap a K true := by
    obtain ⟨cell, kc, e1, e2, e3, e4, -⟩ := my
    obtain ⟨c1, t1, g1, g2, g3⟩ := Cond.castable_spec (hr.2.2.2.2.1 _ hca)
    cases e2.symm.trans g1
    exact ⟨cell, t1, e1, g2, by simp [e4, g3]⟩
  obtain ⟨T', X', e', st⟩ := castY X hx hZ hown (hr.2.2.2.2.1 _ wl) rfl hI (g := mkF m pc Ls (.ref a :: S)) rfl rfl (hb hby hd)
  subst hp
  exact Run.of st (q T' ⟨vm0, locs, k0, X', hS, by rw [e']; exact hk0, hZ, hown, hN, by rw [e']; exact w, hT, hx, hby, hr⟩)
theorem i_ldcI (j : J l Z a0 EL LT own bytes maxL ret nm R p e s m args below meth c T cells slots W) {pc : Nat} {Ls : Array Slot} {S : List Value} {Pq : Outcome → State → Prop} {idx : Nat} {z : Int32} (hd : decode bytes pc = .ok (.ldc idx, 2)) (wl : Jvm.Cond.constant own idx z ∈ tables_1) (pc' : Nat) (hp : pc' = pc + 2) (q : Run p.tables e below Pq (T.setTop (mkF m pc' Ls (.int z :: S)))) : Run p.tables e below Pq (T.setTop (mkF m pc Ls S)) := by
  obtain ⟨vm0, locs, k0, X, hS, hk0, hZ, hown, hN, w, hT, hx, hby, hr⟩ := j
  subst hp
  exact Run.of (X.ldcInt hx hown (mvT (s := s.setVm vm0) hZ (hr.2.2.2.2.1 _ wl)) (g := mkF m pc Ls S) rfl (hb hby hd)) q
theorem i_ldcF (j : J l Z a0 EL LT own bytes maxL ret nm R p e s m args below meth c T cells slots W) {pc : Nat} {Ls : Array Slot} {S : List Value} {Pq : Outcome → State → Prop} {idx : Nat} {z : UInt32} (hd : decode bytes pc = .ok (.ldc idx, 2)) (wl : Jvm.Cond.constantFloat own idx z ∈ tables_1) (pc' : Nat) (hp : pc' = pc + 2) (q : Run p.tables e below Pq (T.setTop (mkF m pc' Ls (.float z :: S)))) : Run p.tables e below Pq (T.setTop (mkF m pc Ls S)) := by
  obtain ⟨vm0, locs, k0, X, hS, hk0, hZ, hown, hN, w, hT, hx, hby, hr⟩ := j
  subst hp
  exact Run.of (X.ldcFloatC hx hown (mvT (s := s.setVm vm0) hZ (hr.2.2.2.2.1 _ wl)) (g := mkF m pc Ls S) rfl (hb hby hd)) q
/-- a String constant whose text is read: its String and its bytes come into the world, not to be written -/
theorem i_ldcS (j : J l Z a0 EL LT own bytes maxL ret nm R p e s m args below meth c T cells slots W) {pc : Nat} {Ls : Array Slot} {S : List Value} {Pq : Outcome → State → Prop} {idx : Nat} {text : String} (hd : decode bytes pc = .ok (.ldc idx, 2)) (wl : Jvm.Cond.stringLink own idx text ∈ tables_1) (hmem : (own, idx) ∈ EL) {vs : List Value} {z : Int32} (ht : (∀ c ∈ text.toList, c.toNat < 256) ∧ text.toList.map (fun c => Value.int (Jvm.Lit.byteI c.toNat.toUInt16)) = vs) (hz : ¬ z < 0) (hl : z.toNatClampNeg = vs.length) (n : Nat) (hn : 4 * text.toList.length ≤ n) (hbig : n ≤ 536870912) (hc : cells + 2 ≤ R.cells) (hs : slots + (n + 4) ≤ R.slots) (c' s' : Nat) (hc' : c' = cells + 2) (hs' : s' = slots + (n + 4)) (pc' : Nat) (hp : pc' = pc + 2)
    (q : ∀ a b k T', J l Z a0 EL [(own, idx, a)] own bytes maxL ret nm R p e s m args below meth c T' c' s' ((a, false, .inl ("java/lang/String", [("java/lang/String", "value", "[B", .ref b), ("java/lang/String", "coder", "B", .int 0)])) :: (b, false, .inr (k, .byte, z, vs, .int 0)) :: W) → Run p.tables e below Pq (T'.setTop (mkF m pc' Ls (.ref a :: S)))) : Run p.tables e below Pq (T.setTop (mkF m pc Ls S)) := by
  obtain ⟨vm0, locs, k0, X, hS, hk0, hZ, hown, hN, w, hT, hx, hby, hr⟩ := j
  obtain ⟨a, T', h', k1, b, k, X', e', E, hS', hk1, hZ', hown', Ea, Fc, Fv, Ab, la, lb, CR, hLit, ns, st⟩ := ldcCH X hx hZ hown (hr.2.2.2.2.1 _ wl) hr.2.2.2.2.2.2 rfl hS hk0 hr.2.2.2.2.2.1 hmem w.2.1 ht hz hl (g := mkF m pc Ls S) rfl (hb hby hd) hn hbig hc hs
  subst hp hc' hs' e'
  have w' := w.later CR E
  refine Run.of st (q a b k T' ⟨T'.vm, locs, k1, X', hS', hk1, hZ', hown', hN, ?_, fun t ht => by cases List.mem_singleton.mp ht; exact hLit, hx, hby, hr⟩)
  have w2 : WL Z EL T'.vm T'.heap ((b, false, .inr (k, .byte, z, vs, .int 0)) :: W) := w'.cons (o := (b, false, .inr (k, .byte, z, vs, .int 0))) ⟨Ab, fun C hC => by cases hC⟩ (fun hq => by cases hq) fun o' ho' hq => by
    rcases hq with hq | hq
    · cases hq
    · exact ((ns o'.1 ((w'.2.2.1 o' ho').2 hq).2).2).symm
  refine w2.cons (o := (a, false, .inl ("java/lang/String", [("java/lang/String", "value", "[B", .ref b), ("java/lang/String", "coder", "B", .int 0)]))) ⟨Ea, fun f hf => ?_, by obtain ⟨cl, _, _, _, _, u1, -, -, u2, -⟩ := Fv; exact ⟨cl, u1, u2⟩⟩ (fun hq => by cases hq) fun o' ho' hq => ?_
  · rcases List.mem_cons.mp hf with rfl | hf
    · exact Fv
    · rcases List.mem_cons.mp hf with rfl | hf
      · exact Fc
      · cases hf
  · rcases hq with hq | hq
    · cases hq
    · exact ((ns o'.1 ((w2.2.2.1 o' ho').2 hq).2).1).symm
/-- a String constant of which only its reference is used -/
theorem i_ldcO (j : J l Z a0 EL LT own bytes maxL ret nm R p e s m args below meth c T cells slots W) {pc : Nat} {Ls : Array Slot} {S : List Value} {Pq : Outcome → State → Prop} {idx : Nat} {text : String} (hd : decode bytes pc = .ok (.ldc idx, 2)) (wl : Jvm.Cond.stringLink own idx text ∈ tables_1) (n : Nat) (hn : 4 * text.toList.length ≤ n) (hbig : n ≤ 536870912) (hc : cells + 2 ≤ R.cells) (hs : slots + (n + 4) ≤ R.slots) (c' s' : Nat) (hc' : c' = cells + 2) (hs' : s' = slots + (n + 4)) (pc' : Nat) (hp : pc' = pc + 2)
    (q : ∀ a T', J l Z a0 EL [(own, idx, a)] own bytes maxL ret nm R p e s m args below meth c T' c' s' W → Run p.tables e below Pq (T'.setTop (mkF m pc' Ls (.ref a :: S)))) : Run p.tables e below Pq (T.setTop (mkF m pc Ls S)) := by
  obtain ⟨vm0, locs, k0, X, hS, hk0, hZ, hown, hN, w, hT, hx, hby, hr⟩ := j
  obtain ⟨a, T', h', k1, X', e', E, hS', hk1, hZ', hown', CR, hLit, st⟩ := ldcOH X hx hZ hown (hr.2.2.2.2.1 _ wl) hr.2.2.2.2.2.2 rfl hS hk0 hr.2.2.2.2.2.1 w.2.1 (g := mkF m pc Ls S) rfl (hb hby hd) hn hbig hc hs
  subst hp hc' hs' e'
  exact Run.of st (q a T' ⟨T'.vm, locs, k1, X', hS', hk1, hZ', hown', hN, w.later CR E, fun t ht => by cases List.mem_singleton.mp ht; exact hLit, hx, hby, hr⟩)
/-- a constant that this walk has loaded before -/
theorem i_ldcA (j : J l Z a0 EL LT own bytes maxL ret nm R p e s m args below meth c T cells slots W) {pc : Nat} {Ls : Array Slot} {S : List Value} {Pq : Outcome → State → Prop} {idx : Nat} {text : String} {a : Addr} (hd : decode bytes pc = .ok (.ldc idx, 2)) (wl : Jvm.Cond.stringLink own idx text ∈ tables_1) (hm : (own, idx, a) ∈ LT) (pc' : Nat) (hp : pc' = pc + 2) (q : Run p.tables e below Pq (T.setTop (mkF m pc' Ls (.ref a :: S)))) : Run p.tables e below Pq (T.setTop (mkF m pc Ls S)) := by
  obtain ⟨vm0, locs, k0, X, hS, hk0, hZ, hown, hN, w, hT, hx, hby, hr⟩ := j
  subst hp
  exact Run.of (ldcAgain X hx hZ hown (hr.2.2.2.2.1 _ wl) (hT _ hm) (g := mkF m pc Ls S) rfl (hb hby hd)) q
/-! ### Contracts -/
def PostW (Z : State) (EL : List (String × Nat)) (rm : Room) (s : State) (F : List OB) (Q : Option Value → List OB → Prop) (o : Outcome) (U' : State) : Prop :=
  ∃ v L W', o = .returned v ∧ Q v W' ∧ Fr Z.heap.size L ∧ WL Z EL U'.vm U'.heap (W' ++ F) ∧ ReturnedEndW s o U' L rm.cells rm.slots
def Con (l : Launch) (Z : State) (EL : List (String × Nat)) (y : MethodName) (bytes : ByteArray) (maxL : Nat) (ret : Option FieldType) (rm : Room) (A : List Value) (W : List OB) (Q : Option Value → List OB → Prop) : Prop :=
  ∀ (ws : List Jvm.Cond) (F : List OB) (h0 : Heap), MetFree l y (head1 (Jvm.Cond.code y bytes maxL ret :: ws) rm) (fun a U => a = A.toArray ∧ Z.Warmed39 U.vm ∧ U.heap = h0 ∧ WL Z EL U.vm h0 (W ++ F)) (fun _ _ _ _ _ => True) (fun _ U o U' => PostW Z EL rm U F Q o U')
theorem Con.mk {y : MethodName} {rm : Room} {A : List Value} {Q : Option Value → List OB → Prop} (g : GC Z a0 EL) (hpl : plainFor y = true) {Ls : Array Slot} (hef : ∀ m, entryFrame m A.toArray maxL = mkF m 0 Ls [])
    (body : ∀ (p : Program) (e : Env) (s : State) (m : MethodId) (below : List Frame) (meth : Method) (c : Code) (T : State) (F : List OB), J l Z a0 EL [] y.cls bytes maxL ret y.name rm p e s m A.toArray below meth c T 0 0 (W ++ F) → Run p.tables e below (PostW Z EL rm s F Q) (T.setTop (mkF m 0 Ls []))) : Con l Z EL y bytes maxL ret rm A W Q := by
  intro ws F h0
  refine MetFree.of_bodySF hpl hisR ?_
  intro p e s m args below meth c s₁ Bd hml hP hK
  obtain ⟨rfl, hZ, hh, w⟩ := hP
  have X0 : Stand p l e rm s m A.toArray below meth c s₁ [] 0 0 := Stand.of_body Bd
  have e0 : s₁.heap = h0 := by rw [← hh, Bd.state]; rfl
  have r := body p e s m below meth c s₁ F ⟨s.vm, [], 0, X0, (State.WarmedH.refl s).since 0, Nat.zero_le _, hZ, findClass_of_methodNamed Bd.named, Fr.nil _, by rw [e0]; exact w, nofun, Bd.exec, Bd.bytes, hml, Bd.returns, (name_of_methodNamed Bd.named Bd.method).1, BodyLoose.notSynchronized Bd, g⟩
  rw [← hef m] at r
  exact r
theorem Con.back {y : MethodName} {rm : Room} {A : List Value} {Q : Option Value → List OB → Prop} {vm0 : Vm} {h : Heap} {F : List OB} {len Wd : Nat} (hC : Con l Z EL y bytes maxL ret rm A W Q) (g : GC Z a0 EL) (hZ : Z.Warmed39 vm0) (wc : Jvm.Cond.code y bytes maxL ret ∈ tables_1) (wz : Jvm.Cond.initialized y.cls ∈ tables_1) (hf : rm.frames + 1 ≤ R.frames) (hl : Wd + (maxL + 11) + rm.locals ≤ R.locals) (w : WL Z EL vm0 h (W ++ F)) :
    BackS l R p e below (s.setVm vm0) args y len Wd (fun A' a => a = A.toArray ∧ A'.U.heap = h ∧ A'.cells + rm.cells ≤ R.cells ∧ A'.slots + rm.slots ≤ R.slots)
      (fun A' _ v B => ∃ L W', Q v W' ∧ Fr Z.heap.size L ∧ WL Z EL B.U.vm B.U.heap (W' ++ F) ∧ B.locs = A'.locs ++ L ∧ B.cells = A'.cells + rm.cells ∧ B.slots = A'.slots + rm.slots) :=
  BackS.of_freeW (bytes := bytes) (maxL := maxL) (ret := ret) (E := fun _ first o t L k n => k = rm.cells ∧ n = rm.slots ∧ ∃ v W', o = .returned v ∧ Q v W' ∧ Fr Z.heap.size L ∧ WL Z EL t.vm t.heap (W' ++ F)) (hC [] F h) hf hl
    (fun m meth c A a Y hp => have hU : Z.Warmed39 A.U.vm := wtrans (s := s.setVm vm0) hZ Y.warmed
      ⟨by show (Jvm.Cond.and _ .tt).before a A.U = true; rw [Cond.before_and, mv hU (g.1 _ wc)]; rfl, mv hU (g.1 _ wc), mv hU (g.1 _ wz), hp.2.2.1, hp.2.2.2⟩)
    (fun m meth c A a g' mk Y hp => ⟨hp.1, wtrans (s := s.setVm vm0) hZ Y.warmed, hp.2.1, show WL Z EL A.U.vm h (W ++ F) from w.atVm (CHv.at Y hZ g.2.1 w.2.1)⟩) (fun _ _ _ _ _ _ _ _ _ => trivial)
    (fun _ _ _ _ ⟨v, L, W', h1, h2, h3, h4, h5⟩ => ⟨L, _, _, h5, rfl, rfl, v, W', h1, h2, h3, h4⟩)
    (fun m meth c A a g' mk v t L k n Y hp _ _ ⟨e1, e2, v', W', e3, e4, e5, e6⟩ => by
      cases e3; subst e1 e2
      exact ⟨L, W', e4, e5, e6, rfl, rfl, rfl⟩)
/-! ### Calls -/
/-- which of the n first objects the callee sees (li), which not (lo) -/
def pickOk (li lo : List Nat) (n : Nat) : Bool := decide (li ++ lo).Nodup && (li ++ lo).all (· < n)
theorem pick_app (W : List OB) : ∀ l l' : List Nat, pick W (l ++ l') = pick W l ++ pick W l'
  | [], _ => rfl
  | i :: l, l' => by show _ :: pick W (l ++ l') = _ :: (pick W l ++ pick W l'); rw [pick_app W l l']
theorem WL.split {vm : Vm} {h : Heap} (w : WL Z EL vm h W) {li lo : List Nat} {n : Nat} (ok : pickOk li lo n = true) (hn : n ≤ W.length) : WL Z EL vm h (pick W li ++ (pick W lo ++ W.drop n)) := by
  simp only [pickOk, Bool.and_eq_true, decide_eq_true_eq, List.all_eq_true] at ok
  have r := w.picked n (li ++ lo) ok.1 (fun i hi => ok.2 i hi) hn
  rw [pick_app, List.append_assoc] at r
  exact r
theorem lenLe {W : List OB} (L : List OB) (n : Nat) (h : W.length = L.length + n) : n ≤ W.length := by rw [h]; exact Nat.le_add_left _ _
theorem catR {x : Value} (h : x.isRef = true) : x.category = 1 := by rcases ref_cases h with rfl | ⟨a, rfl⟩ <;> rfl
theorem J.weak (j : J l Z a0 EL LT own bytes maxL ret nm R p e s m args below meth c T cells slots W) (li : List Nat) (n : Nat) (ok : pickOk li [] n = true) (hn : n ≤ W.length) {W' : List OB} (hW : pick W li ++ W.drop n = W') : J l Z a0 EL LT own bytes maxL ret nm R p e s m args below meth c T cells slots W' := by
  obtain ⟨vm0, locs, k0, X, hS, hk0, hZ, hown, hN, w, hr⟩ := j
  have w' := w.split ok hn
  subst hW
  exact ⟨vm0, locs, k0, X, hS, hk0, hZ, hown, hN, w', hr⟩
theorem i_static (j : J l Z a0 EL LT own bytes maxL ret nm R p e s m args below meth c T cells slots W) {pc : Nat} {Ls : Array Slot} {S : List Value} {Pq : Outcome → State → Prop} {idx : Nat} {y : MethodName} {bytes' : ByteArray} {maxL' : Nat} {ret' : Option FieldType} {rm : Room} {A : List Value} {Wc : List OB} {Q : Option Value → List OB → Prop} (hd : decode bytes pc = .ok (.invokestatic idx, 3)) (wl : Jvm.Cond.methodLink own idx y ∈ tables_1) (ws : Jvm.Cond.static y ∈ tables_1) (wz : Jvm.Cond.initialized y.cls ∈ tables_1) (wc : Jvm.Cond.code y bytes' maxL' ret' ∈ tables_1) (hy : y.cls ≠ "java/lang/invoke/MethodHandle" ∧ y.cls ≠ "java/lang/invoke/VarHandle") (hlen : ∀ sig, parseMethodDescriptor y.desc = some sig → A.length = sig.parameters.length)
    (hC : Con l Z EL y bytes' maxL' ret' rm A Wc Q) (li lo : List Nat) (n : Nat) (ok : pickOk li lo n = true) (hn : n ≤ W.length) (hW : pick W li = Wc) (Wd : Nat) (hf : rm.frames + 1 ≤ R.frames) (hl : Wd + (maxL' + 11) + rm.locals ≤ R.locals) (hc : cells + rm.cells ≤ R.cells) (hs : slots + rm.slots ≤ R.slots) (hLs : Ls.size = maxL) (hWd : (S.map fun v => v.category).sum ≤ Wd) (st : List Value) (hst : st = A.reverse ++ S) (c' s' : Nat) (hc' : c' = cells + rm.cells) (hs' : s' = slots + rm.slots) (pc' : Nat) (hp : pc' = pc + 3)
    (q : ∀ v W' T', Q v W' → J l Z a0 EL LT own bytes maxL ret nm R p e s m args below meth c T' c' s' (W' ++ (pick W lo ++ W.drop n)) → Run p.tables e below Pq (T'.setTop (mkF m pc' Ls (v.toList ++ S)))) : Run p.tables e below Pq (T.setTop (mkF m pc Ls st)) := by
  obtain ⟨vm0, locs, k0, X, hS, hk0, hZ, hown, hN, w, hT, hx, hby, hr⟩ := j
  subst hst hW
  obtain ⟨v, _, ⟨T', L', k', n'⟩, -, X', hS2, hgr, ⟨L, W', hQ, hF, w', e1, e2, e3⟩, st'⟩ := callSS X hx hown (mvT (s := s.setVm vm0) hZ (hr.2.2.2.2.1 _ wl)) (mvT (s := s.setVm vm0) hZ (hr.2.2.2.2.1 _ ws)) (mvT (s := s.setVm vm0) hZ (hr.2.2.2.2.1 _ wz)) (mvT (s := s.setVm vm0) hZ (hr.2.2.2.2.1 _ wc)) hy (Con.back (R := R) hC hr.2.2.2.2 hZ wc wz hf hl (w.split ok hn)) (g := mkF m pc Ls (A.reverse ++ S)) rfl (by rw [hr.1]; exact hLs) (argsL := A) (rest := S) hlen rfl (by show 2 * 0 + _ ≤ _; omega) (hb hby hd) (fun _ _ => ⟨rfl, rfl, hc, hs⟩)
  dsimp only [Pt.U, Pt.locs, Pt.cells, Pt.slots] at X' hS2 hgr w' e1 e2 e3 st'
  subst e1 e2 e3 hp hc' hs'
  obtain ⟨X2, hS3, hZ2, hown2⟩ := rebS hS hk0 X' hS2 hgr hZ hown
  exact Run.tr st' (q v W' T' hQ ⟨T'.vm, _, _, X2, hS3, Nat.le_refl _, hZ2, hown2, hN.app hF, w', fun t ht => (hT t ht).stays hS2.1, hx, hby, hr⟩)
theorem i_special (j : J l Z a0 EL LT own bytes maxL ret nm R p e s m args below meth c T cells slots W) {pc : Nat} {Ls : Array Slot} {S : List Value} {Pq : Outcome → State → Prop} {idx : Nat} {y : MethodName} {bytes' : ByteArray} {maxL' : Nat} {rm : Room} {a : Addr} {A : List Value} {Wc : List OB} {Q : Option Value → List OB → Prop} (hd : decode bytes pc = .ok (.invokespecial idx, 3)) (hnm : y.name = "<init>") (wl : Jvm.Cond.methodLink own idx y ∈ tables_1) (wi : Jvm.Cond.instanceMethod y ∈ tables_1) (wz : Jvm.Cond.initialized y.cls ∈ tables_1) (wc : Jvm.Cond.code y bytes' maxL' none ∈ tables_1) (hy : y.cls ≠ "java/lang/invoke/MethodHandle" ∧ y.cls ≠ "java/lang/invoke/VarHandle") (hlen : ∀ sig, parseMethodDescriptor y.desc = some sig → A.length = sig.parameters.length)
    (hC : Con l Z EL y bytes' maxL' none rm (.ref a :: A) Wc Q) (li lo : List Nat) (n : Nat) (ok : pickOk li lo n = true) (hn : n ≤ W.length) (hW : pick W li = Wc) (Wd : Nat) (hf : rm.frames + 1 ≤ R.frames) (hl : Wd + (maxL' + 11) + rm.locals ≤ R.locals) (hc : cells + rm.cells ≤ R.cells) (hs : slots + rm.slots ≤ R.slots) (hLs : Ls.size = maxL) (hWd : (S.map fun v => v.category).sum ≤ Wd) (st : List Value) (hst : st = A.reverse ++ .ref a :: S) (c' s' : Nat) (hc' : c' = cells + rm.cells) (hs' : s' = slots + rm.slots) (pc' : Nat) (hp : pc' = pc + 3)
    (q : ∀ v W' T', Q v W' → J l Z a0 EL LT own bytes maxL ret nm R p e s m args below meth c T' c' s' (W' ++ (pick W lo ++ W.drop n)) → Run p.tables e below Pq (T'.setTop (mkF m pc' Ls (v.toList ++ S)))) : Run p.tables e below Pq (T.setTop (mkF m pc Ls st)) := by
  obtain ⟨vm0, locs, k0, X, hS, hk0, hZ, hown, hN, w, hT, hx, hby, hr⟩ := j
  subst hst hW
  obtain ⟨v, _, ⟨T', L', k', n'⟩, -, X', hS2, hgr, ⟨L, W', hQ, hF, w', e1, e2, e3⟩, st'⟩ := X.specialBackS hx (y := y) hnm hown (mvT (s := s.setVm vm0) hZ (hr.2.2.2.2.1 _ wl)) (mvT (s := s.setVm vm0) hZ (hr.2.2.2.2.1 _ wi)) (mvT (s := s.setVm vm0) hZ (hr.2.2.2.2.1 _ wc)) hy (Con.back (R := R) hC hr.2.2.2.2 hZ wc wz hf hl (w.split ok hn)) (g := mkF m pc Ls (A.reverse ++ .ref a :: S)) rfl (by rw [hr.1]; exact hLs) (Steps.refl _) (a := a) (argsL := A) (rest := S) hlen rfl (by show 2 * 0 + _ ≤ _; omega) (hb hby hd) (fun _ _ => ⟨rfl, rfl, hc, hs⟩)
  dsimp only [Pt.U, Pt.locs, Pt.cells, Pt.slots] at X' hS2 hgr w' e1 e2 e3 st'
  subst e1 e2 e3 hp hc' hs'
  obtain ⟨X2, hS3, hZ2, hown2⟩ := rebS hS hk0 X' hS2 hgr hZ hown
  exact Run.tr st' (q v W' T' hQ ⟨T'.vm, _, _, X2, hS3, Nat.le_refl _, hZ2, hown2, hN.app hF, w', fun t ht => (hT t ht).stays hS2.1, hx, hby, hr⟩)
theorem nfSel {C : String} {y : MethodName} (w : Jvm.Cond.selects C y y ∈ tables_1) : GC Z a0 EL → ∀ U : State, Z.Warmed39 U.vm → NotFace U y := fun g U hU => notFace_of_selects (args := #[]) (mvT hU (g.1 _ w))
theorem i_virtual (j : J l Z a0 EL LT own bytes maxL ret nm R p e s m args below meth c T cells slots W) {pc : Nat} {Ls : Array Slot} {S : List Value} {Pq : Outcome → State → Prop} {idx : Nat} {C : String} {y z : MethodName} {bytes' : ByteArray} {maxL' : Nat} {ret' : Option FieldType} {rm : Room} {a : Addr} {b : Bool} {fs : FS} {A : List Value} {Wc : List OB} {Q : Option Value → List OB → Prop} (hd : decode bytes pc = .ok (.invokevirtual idx, 3)) (wl : Jvm.Cond.methodLink own idx y ∈ tables_1) (wd : Jvm.Cond.declares y ∈ tables_1) (hnf : GC Z a0 EL → ∀ U : State, Z.Warmed39 U.vm → NotFace U y) (wsel : Jvm.Cond.selects C y z ∈ tables_1) (wi : Jvm.Cond.instanceMethod z ∈ tables_1) (wz : Jvm.Cond.initialized z.cls ∈ tables_1) (wc : Jvm.Cond.code z bytes' maxL' ret' ∈ tables_1) (hy : y.cls ≠ "java/lang/invoke/MethodHandle" ∧ y.cls ≠ "java/lang/invoke/VarHandle") (hlen : ∀ sig, parseMethodDescriptor y.desc = some sig → A.length = sig.parameters.length) (ir : Nat) (hir : W[ir]? = some (a, b, .inl (C, fs)))
    (hC : Con l Z EL z bytes' maxL' ret' rm (.ref a :: A) Wc Q) (li lo : List Nat) (n : Nat) (ok : pickOk li lo n = true) (hn : n ≤ W.length) (hW : pick W li = Wc) (Wd : Nat) (hf : rm.frames + 1 ≤ R.frames) (hl : Wd + (maxL' + 11) + rm.locals ≤ R.locals) (hc : cells + rm.cells ≤ R.cells) (hs : slots + rm.slots ≤ R.slots) (hLs : Ls.size = maxL) (hWd : (S.map fun v => v.category).sum ≤ Wd) (st : List Value) (hst : st = A.reverse ++ .ref a :: S) (c' s' : Nat) (hc' : c' = cells + rm.cells) (hs' : s' = slots + rm.slots) (pc' : Nat) (hp : pc' = pc + 3)
    (q : ∀ v W' T', Q v W' → J l Z a0 EL LT own bytes maxL ret nm R p e s m args below meth c T' c' s' (W' ++ (pick W lo ++ W.drop n)) → Run p.tables e below Pq (T'.setTop (mkF m pc' Ls (v.toList ++ S)))) : Run p.tables e below Pq (T.setTop (mkF m pc Ls st)) := by
  obtain ⟨vm0, locs, k0, X, hS, hk0, hZ, hown, hN, w, hT, hx, hby, hr⟩ := j
  subst hst hW
  obtain ⟨cq, kq, qa, qb, qc⟩ := isOf (s := s.setVm vm0) hZ rfl (w.2.2.1 _ (List.mem_of_getElem? hir)).1.1
  obtain ⟨v, _, ⟨T', L', k', n'⟩, -, X', hS2, hgr, ⟨L, W', hQ, hF, w', e1, e2, e3⟩, st'⟩ := X.virtualBackS hx (y := y) (z := z) hown (mvT (s := s.setVm vm0) hZ (hr.2.2.2.2.1 _ wl)) (mvT (s := s.setVm vm0) hZ (hr.2.2.2.2.1 _ wd)) (hnf hr.2.2.2.2 (s.setVm vm0) hZ) (mvT (s := s.setVm vm0) hZ (hr.2.2.2.2.1 _ wsel)) (mvT (s := s.setVm vm0) hZ (hr.2.2.2.2.1 _ wi)) hy (Con.back (R := R) hC hr.2.2.2.2 hZ wc wz hf hl (w.split ok hn)) qa qc (g := mkF m pc Ls (A.reverse ++ .ref a :: S)) rfl (by rw [hr.1]; exact hLs) (Steps.refl _) (argsL := A) (rest := S) hlen rfl (by show 2 * 0 + _ ≤ _; omega) (hb hby hd) (fun _ _ => ⟨rfl, rfl, hc, hs⟩)
  dsimp only [Pt.U, Pt.locs, Pt.cells, Pt.slots] at X' hS2 hgr w' e1 e2 e3 st'
  subst e1 e2 e3 hp hc' hs'
  obtain ⟨X2, hS3, hZ2, hown2⟩ := rebS hS hk0 X' hS2 hgr hZ hown
  exact Run.tr st' (q v W' T' hQ ⟨T'.vm, _, _, X2, hS3, Nat.le_refl _, hZ2, hown2, hN.app hF, w', fun t ht => (hT t ht).stays hS2.1, hx, hby, hr⟩)
/-! ### Ends -/
theorem r_void (j : J l Z a0 EL LT own bytes maxL ret nm R p e s m args below meth c T cells slots W) {pc : Nat} {Ls : Array Slot} {F Wf : List OB} {Q : Option Value → List OB → Prop} (hd : decode bytes pc = .ok (.return_, 1)) (hret : ret = none) (hc : cells ≤ R.cells) (hs : slots ≤ R.slots) (hW : W = Wf ++ F) (hQ : Q none Wf) : Run p.tables e below (PostW Z EL R s F Q) (T.setTop (mkF m pc Ls [])) := by
  obtain ⟨vm0, locs, k0, X, hS, hk0, hZ, hown, hN, w, hT, hx, hby, hr⟩ := j
  have hlk := hr.2.2.2.1
  have hrt : meth.sig.returnType = none := hr.2.1.trans hret
  obtain ⟨fs, h1, h2, h3, h4⟩ := X.leaveW hS hk0 (v := none) (fun _ => rfl) hlk
  have w' : WL Z EL T.vm T.heap W := w.atVm (CHv.at X hZ hr.2.2.2.2.2.1 w.2.1)
  subst hW
  exact ⟨_, _, X.returnOut hx hrt (hb hby hd) h1, h2, h3, none, locs, Wf, rfl, hQ, hN, w', ⟨h4.1, h4.2.1, h4.2.2.1, h4.2.2.2.mono hc hs⟩⟩
theorem r_val (j : J l Z a0 EL LT own bytes maxL ret nm R p e s m args below meth c T cells slots W) {pc : Nat} {Ls : Array Slot} {S : List Value} {F Wf : List OB} {Q : Option Value → List OB → Prop} {x : Value} {t : FieldType} {i : Instr} (hd : decode bytes pc = .ok (i, 1)) (hret : ret = some t) (hn : narrow t x = x)
    (hi : (i = .ireturn ∧ (t = .int ∨ t = .boolean ∨ t = .byte ∨ t = .char ∨ t = .short) ∧ ∃ z, x = .int z) ∨ (i = .lreturn ∧ t = .long ∧ ∃ z, x = .long z) ∨ (i = .dreturn ∧ t = .double ∧ ∃ z, x = .double z) ∨ (i = .freturn ∧ t = .float ∧ ∃ z, x = .float z) ∨ (i = .areturn ∧ t.isReference = true ∧ x.isRef = true))
    (hc : cells ≤ R.cells) (hs : slots ≤ R.slots) (hW : W = Wf ++ F) (hQ : Q (some x) Wf) : Run p.tables e below (PostW Z EL R s F Q) (T.setTop (mkF m pc Ls (x :: S))) := by
  obtain ⟨vm0, locs, k0, X, hS, hk0, hZ, hown, hN, w, hT, hx, hby, hr⟩ := j
  have hlk := hr.2.2.2.1
  have hrt : meth.sig.returnType = some t := hr.2.1.trans hret
  obtain ⟨fs, h1, h2, h3, h4⟩ := X.leaveW hS hk0 (v := some x) (fun h => by rw [hrt] at h; cases h) hlk
  have w' : WL Z EL T.vm T.heap W := w.atVm (CHv.at X hZ hr.2.2.2.2.2.1 w.2.1)
  subst hW
  exact ⟨_, _, retOut X hx hrt hn hi (hb hby hd) h1, h2, h3, some x, locs, Wf, rfl, hQ, hN, w', ⟨h4.1, h4.2.1, h4.2.2.1, h4.2.2.2.mono hc hs⟩⟩
end Steps

/-! ### Further steps: private and interface calls, Class objects, arraycopy, wide ldc -/
section World4
variable {Z : State} {EL : List (String × Nat)} {vm : Vm} {h h' : Heap} {b : Addr} {o : OB} {W : List OB}
theorem obAt.keep {ws : List Addr} (K : Keep h h' ws) (ne : o.1 ∉ ws) (q : obAt Z h o) : obAt Z h' o := by
  obtain ⟨a, c, x⟩ := o
  cases x with
  | inl x => exact ⟨q.1.keep K, fun f hf => (q.2.1 f hf).keep K ne, by obtain ⟨cl, h1, h2⟩ := q.2.2; exact ⟨cl, K.2.1 _ _ h1 ne, h2⟩⟩
  | inr x => exact ⟨q.1.keep K ne, q.2⟩
theorem WL.keep1 (w : WL Z EL vm h W) {i : Nat} {x : (String × FS) ⊕ (ClassId × FieldType × Int32 × List Value × Value)} (hi : W[i]? = some (b, true, x)) (K : Keep h h' [b]) (q : obAt Z h' (b, true, x)) : WL Z EL vm h' W := by
  have mb := (w.2.2.1 _ (List.mem_of_getElem? hi)).2 rfl
  have hs : ∀ y ∈ [b], Safe Z EL vm h y := fun y hy => by cases List.mem_singleton.mp hy; exact mb.2
  refine ⟨(Old.keep ⟨rfl, w.1⟩ K (allS mb.1 all0) : Old Z Z.heap.size h').2, w.2.1.keep K hs, fun o ho => ?_, w.2.2.2⟩
  obtain ⟨k, hk⟩ := List.mem_iff_getElem?.mp ho
  have m := w.2.2.1 o ho
  refine ⟨?_, fun bb => ⟨(m.2 bb).1, Safe.keep K hs w.2.1 (m.2 bb).2⟩⟩
  by_cases e : k = i
  · subst e
    cases hi.symm.trans hk
    exact q
  · have ne : o.1 ≠ b := apart_at w hk hi e (Or.inr rfl)
    exact m.1.keep K (fun z => ne (List.mem_singleton.mp z))
end World4
section Steps4
variable {l : Launch} {Z : State} {a0 : Array Value} {EL : List (String × Nat)} {LT : List (String × Nat × Addr)} {own : String} {bytes : ByteArray} {maxL : Nat} {ret : Option FieldType} {nm : String} {R : Room} {p : Program} {e : Env} {s : State} {m : MethodId} {args : Array Value} {below : List Frame} {meth : Method} {c : Code} {T : State} {cells slots : Nat} {W : List OB}
theorem J.forget (j : J l Z a0 EL LT own bytes maxL ret nm R p e s m args below meth c T cells slots W) : J l Z a0 [] LT own bytes maxL ret nm R p e s m args below meth c T cells slots W := by
  obtain ⟨vm0, locs, k0, X, hS, hk0, hZ, hown, hN, w, hT, hx, hby, h1, h2, h3, h4, g⟩ := j
  refine ⟨vm0, locs, k0, X, hS, hk0, hZ, hown, hN, ⟨w.1, nofun, fun o ho => ⟨(w.2.2.1 o ho).1, fun b => ⟨((w.2.2.1 o ho).2 b).1, ?_⟩⟩, w.2.2.2⟩, hT, hx, hby, h1, h2, h3, h4, g.1, EW.nil, g.2.2⟩
  rintro ⟨q, hq, -⟩
  cases hq
theorem nfCls {C : String} {y y' z' : MethodName} (w : Jvm.Cond.selects C y' z' ∈ tables_1) (hc : z'.cls = y.cls) : GC Z a0 EL → ∀ U : State, Z.Warmed39 U.vm → NotFace U y := fun g U hU r0 h0 => by
  obtain ⟨c2, r2, m2, q1, q2, q3, q4, kP, hkP, hkPi⟩ := Cond.selects_spec (mvT (args := #[]) hU (g.1 _ w))
  have e1 := findClass_of_methodNamed q3
  have e2 := findClass_of_methodNamed h0
  rw [hc] at e1
  have e3 : m2.cls = r0.cls := Option.some.inj (e1.symm.trans e2)
  exact ⟨kP, by rw [← e3]; exact hkP, hkPi⟩
theorem i_private (j : J l Z a0 EL LT own bytes maxL ret nm R p e s m args below meth c T cells slots W) {pc : Nat} {Ls : Array Slot} {S : List Value} {Pq : Outcome → State → Prop} {idx nI : Nat} {y : MethodName} {C : String} {bytes' : ByteArray} {maxL' : Nat} {ret' : Option FieldType} {rm : Room} {a : Addr} {b : Bool} {fs : FS} {A : List Value} {Wc : List OB} {Q : Option Value → List OB → Prop} (hd : decode bytes pc = .ok (.invokevirtual idx, 3)) (wl : Jvm.Cond.methodLink own idx y ∈ tables_1) (wp : Jvm.Cond.privateMethod y ∈ tables_1) (wI : Jvm.Cond.instantiable y.cls nI ∈ tables_1) (wi : Jvm.Cond.instanceMethod y ∈ tables_1) (wz : Jvm.Cond.initialized y.cls ∈ tables_1) (wc : Jvm.Cond.code y bytes' maxL' ret' ∈ tables_1) (hy : y.cls ≠ "java/lang/invoke/MethodHandle" ∧ y.cls ≠ "java/lang/invoke/VarHandle") (hlen : ∀ sig, parseMethodDescriptor y.desc = some sig → A.length = sig.parameters.length) (ir : Nat) (hir : W[ir]? = some (a, b, .inl (C, fs)))
    (hC : Con l Z EL y bytes' maxL' ret' rm (.ref a :: A) Wc Q) (li lo : List Nat) (n : Nat) (ok : pickOk li lo n = true) (hn : n ≤ W.length) (hW : pick W li = Wc) (Wd : Nat) (hf : rm.frames + 1 ≤ R.frames) (hl : Wd + (maxL' + 11) + rm.locals ≤ R.locals) (hc : cells + rm.cells ≤ R.cells) (hs : slots + rm.slots ≤ R.slots) (hLs : Ls.size = maxL) (hWd : (S.map fun v => v.category).sum ≤ Wd) (st : List Value) (hst : st = A.reverse ++ .ref a :: S) (c' s' : Nat) (hc' : c' = cells + rm.cells) (hs' : s' = slots + rm.slots) (pc' : Nat) (hp : pc' = pc + 3)
    (q : ∀ v W' T', Q v W' → J l Z a0 EL LT own bytes maxL ret nm R p e s m args below meth c T' c' s' (W' ++ (pick W lo ++ W.drop n)) → Run p.tables e below Pq (T'.setTop (mkF m pc' Ls (v.toList ++ S)))) : Run p.tables e below Pq (T.setTop (mkF m pc Ls st)) := by
  obtain ⟨vm0, locs, k0, X, hS, hk0, hZ, hown, hN, w, hT, hx, hby, hr⟩ := j
  subst hst hW
  obtain ⟨cell, hcell, hobj⟩ := (w.2.2.1 _ (List.mem_of_getElem? hir)).1.1.cell
  have hpr := Cond.privateMethod_at (mvP (s := s.setVm vm0) (args := args) hZ (hr.2.2.2.2.1 _ wp))
  have hin : (Jvm.Cond.instanceMethod y).before args (s.setVm vm0) = true := mvT (s := s.setVm vm0) hZ (hr.2.2.2.2.1 _ wi)
  have hsel : (Jvm.Cond.selects y.cls y y).before args (s.setVm vm0) = true := by
    obtain ⟨cI, kI, g1, g2, -, g4, -⟩ := Cond.instantiable_spec (args := args) (s := s.setVm vm0) (mvT (s := s.setVm vm0) hZ (hr.2.2.2.2.1 _ wI))
    exact Jvm.Stand.selects_self_of_private g1 g2 (Bool.or_eq_false_iff.mp g4).1 hpr hin hy
  obtain ⟨v, _, ⟨T', L', k', n'⟩, -, X', hS2, hgr, ⟨L, W', hQ, hF, w', e1, e2, e3⟩, st'⟩ := X.privateBackS hx (y := y) hown (mvT (s := s.setVm vm0) hZ (hr.2.2.2.2.1 _ wl)) hin hsel hpr (mvT (s := s.setVm vm0) hZ (hr.2.2.2.2.1 _ wc)) hy (Con.back (R := R) hC hr.2.2.2.2 hZ wc wz hf hl (w.split ok hn)) (g := mkF m pc Ls (A.reverse ++ .ref a :: S)) rfl (by rw [hr.1]; exact hLs) (Steps.refl _) hcell hobj (argsL := A) (rest := S) hlen rfl (by show 2 * 0 + _ ≤ _; omega) (hb hby hd) (fun _ _ => ⟨rfl, rfl, hc, hs⟩)
  dsimp only [Pt.U, Pt.locs, Pt.cells, Pt.slots] at X' hS2 hgr w' e1 e2 e3 st'
  subst e1 e2 e3 hp hc' hs'
  obtain ⟨X2, hS3, hZ2, hown2⟩ := rebS hS hk0 X' hS2 hgr hZ hown
  exact Run.tr st' (q v W' T' hQ ⟨T'.vm, _, _, X2, hS3, Nat.le_refl _, hZ2, hown2, hN.app hF, w', fun t ht => (hT t ht).stays hS2.1, hx, hby, hr⟩)
theorem i_iface (j : J l Z a0 EL LT own bytes maxL ret nm R p e s m args below meth c T cells slots W) {pc : Nat} {Ls : Array Slot} {S : List Value} {Pq : Outcome → State → Prop} {idx count : Nat} {C : String} {y z : MethodName} {bytes' : ByteArray} {maxL' : Nat} {ret' : Option FieldType} {rm : Room} {a : Addr} {b : Bool} {fs : FS} {A : List Value} {Wc : List OB} {Q : Option Value → List OB → Prop} (hd : decode bytes pc = .ok (.invokeinterface idx count, 5)) (wl : Jvm.Cond.methodLink own idx y ∈ tables_1) (wd : Jvm.Cond.declares y ∈ tables_1) (wf : Jvm.Cond.interfaceMethod y.cls y.cls y.name y.desc ∈ tables_1) (wsel : Jvm.Cond.selects C y z ∈ tables_1) (wi : Jvm.Cond.instanceMethod z ∈ tables_1) (wpu : Jvm.Cond.publicMethod z ∈ tables_1) (wu : Jvm.Cond.unhidden C y.name y.desc ∈ tables_1) (wca : Jvm.Cond.castable C y.cls ∈ tables_1) (wz : Jvm.Cond.initialized z.cls ∈ tables_1) (wc : Jvm.Cond.code z bytes' maxL' ret' ∈ tables_1) (hy : y.cls ≠ "java/lang/invoke/MethodHandle" ∧ y.cls ≠ "java/lang/invoke/VarHandle") (hlen : ∀ sig, parseMethodDescriptor y.desc = some sig → A.length = sig.parameters.length) (ir : Nat) (hir : W[ir]? = some (a, b, .inl (C, fs)))
    (hC : Con l Z EL z bytes' maxL' ret' rm (.ref a :: A) Wc Q) (li lo : List Nat) (n : Nat) (ok : pickOk li lo n = true) (hn : n ≤ W.length) (hW : pick W li = Wc) (Wd : Nat) (hf : rm.frames + 1 ≤ R.frames) (hl : Wd + (maxL' + 11) + rm.locals ≤ R.locals) (hc : cells + rm.cells ≤ R.cells) (hs : slots + rm.slots ≤ R.slots) (hLs : Ls.size = maxL) (hWd : (S.map fun v => v.category).sum ≤ Wd) (st : List Value) (hst : st = A.reverse ++ .ref a :: S) (c' s' : Nat) (hc' : c' = cells + rm.cells) (hs' : s' = slots + rm.slots) (pc' : Nat) (hp : pc' = pc + 5)
    (q : ∀ v W' T', Q v W' → J l Z a0 EL LT own bytes maxL ret nm R p e s m args below meth c T' c' s' (W' ++ (pick W lo ++ W.drop n)) → Run p.tables e below Pq (T'.setTop (mkF m pc' Ls (v.toList ++ S)))) : Run p.tables e below Pq (T.setTop (mkF m pc Ls st)) := by
  obtain ⟨vm0, locs, k0, X, hS, hk0, hZ, hown, hN, w, hT, hx, hby, hr⟩ := j
  subst hst hW
  obtain ⟨cq, kq, qa, qb, qc⟩ := isOf (s := s.setVm vm0) hZ rfl (w.2.2.1 _ (List.mem_of_getElem? hir)).1.1
  obtain ⟨v, _, ⟨T', L', k', n'⟩, -, X', hS2, hgr, ⟨L, W', hQ, hF, w', e1, e2, e3⟩, st'⟩ := X.interfaceBackS hx (xi := y) (y := z) hown (mvT (s := s.setVm vm0) hZ (hr.2.2.2.2.1 _ wl)) (mvT (s := s.setVm vm0) hZ (hr.2.2.2.2.1 _ wd)) (Jvm.Free.ULB.iface_rides (U := s.setVm vm0) hZ.alike (hr.2.2.2.2.1 _ wf)) (mvT (s := s.setVm vm0) hZ (hr.2.2.2.2.1 _ wsel)) (mvT (s := s.setVm vm0) hZ (hr.2.2.2.2.1 _ wi)) (mvT (s := s.setVm vm0) hZ (hr.2.2.2.2.1 _ wpu)) (mvT (s := s.setVm vm0) hZ (hr.2.2.2.2.1 _ wu)) (mvT (s := s.setVm vm0) hZ (hr.2.2.2.2.1 _ wca)) hy (Con.back (R := R) hC hr.2.2.2.2 hZ wc wz hf hl (w.split ok hn)) qa qb qc (g := mkF m pc Ls (A.reverse ++ .ref a :: S)) rfl (by rw [hr.1]; exact hLs) (Steps.refl _) (argsL := A) (rest := S) hlen rfl (by show 2 * 0 + _ ≤ _; omega) (hb hby hd) (fun _ _ => ⟨rfl, rfl, hc, hs⟩)
  dsimp only [Pt.U, Pt.locs, Pt.cells, Pt.slots] at X' hS2 hgr w' e1 e2 e3 st'
  subst e1 e2 e3 hp hc' hs'
  obtain ⟨X2, hS3, hZ2, hown2⟩ := rebS hS hk0 X' hS2 hgr hZ hown
  exact Run.tr st' (q v W' T' hQ ⟨T'.vm, _, _, X2, hS3, Nat.le_refl _, hZ2, hown2, hN.app hF, w', fun t ht => (hT t ht).stays hS2.1, hx, hby, hr⟩)
/-- x.getClass() through an interface -/
theorem i_getClass (j : J l Z a0 EL LT own bytes maxL ret nm R p e s m args below meth c T cells slots W) {pc : Nat} {Ls : Array Slot} {S : List Value} {Pq : Outcome → State → Prop} {idx count : Nat} {C : String} {y : MethodName} {a mr : Addr} {b : Bool} {fs : FS} (hd : decode bytes pc = .ok (.invokeinterface idx count, 5)) (wl : Jvm.Cond.methodLink own idx y ∈ tables_1) (wd : Jvm.Cond.declares Jvm.Stand.gcN ∈ tables_1) (wf : Jvm.Cond.interfaceMethod y.cls "java/lang/Object" y.name y.desc ∈ tables_1) (wsel : Jvm.Cond.selects C y Jvm.Stand.gcN ∈ tables_1) (wi : Jvm.Cond.instanceMethod Jvm.Stand.gcN ∈ tables_1) (wpu : Jvm.Cond.publicMethod Jvm.Stand.gcN ∈ tables_1) (wu : Jvm.Cond.unhidden C y.name y.desc ∈ tables_1) (wca : Jvm.Cond.castable C y.cls ∈ tables_1) (wn : Jvm.Cond.native Jvm.Stand.gcN ∈ tables_1) (hy : y.cls ≠ "java/lang/invoke/MethodHandle" ∧ y.cls ≠ "java/lang/invoke/VarHandle") (hyo : y.cls ≠ "java/lang/Object") (hnam : y.name = "getClass") (hdes : y.desc = "()Ljava/lang/Class;") (M : Mir Z C mr) (ir : Nat) (hir : W[ir]? = some (a, b, .inl (C, fs))) (hLs : Ls.size = maxL) (hf : 1 ≤ R.frames) (hl : (S.map fun v => v.category).sum + 14 ≤ R.locals) (pc' : Nat) (hp : pc' = pc + 5)
    (q : ∀ T', J l Z a0 EL LT own bytes maxL ret nm R p e s m args below meth c T' cells slots W → Run p.tables e below Pq (T'.setTop (mkF m pc' Ls (.ref mr :: S)))) : Run p.tables e below Pq (T.setTop (mkF m pc Ls (.ref a :: S))) := by
  obtain ⟨vm0, locs, k0, X, hS, hk0, hZ, hown, hN, w, hT, hx, hby, hr⟩ := j
  obtain ⟨cq, kq, qa, qb, qc⟩ := isOf (s := s.setVm vm0) hZ rfl (w.2.2.1 _ (List.mem_of_getElem? hir)).1.1
  obtain ⟨cc, kc, m1, m2, m3, -⟩ := M
  have qa' := qa
  rw [show (s.setVm vm0).vm = vm0 from rfl, hZ.alike.findClass] at qa'
  cases qa'.symm.trans m1
  obtain ⟨k', qk, ek⟩ := hZ.alike.2.2 _ _ m2
  cases qb.symm.trans qk
  obtain ⟨vm', X', st⟩ := X.getClassOfI hx (xi := y) hown (mvT (s := s.setVm vm0) hZ (hr.2.2.2.2.1 _ wl)) (mvT (s := s.setVm vm0) hZ (hr.2.2.2.2.1 _ wd)) (Jvm.Free.ULB.iface_rides (U := s.setVm vm0) hZ.alike (hr.2.2.2.2.1 _ wf)) (mvT (s := s.setVm vm0) hZ (hr.2.2.2.2.1 _ wsel)) (mvT (s := s.setVm vm0) hZ (hr.2.2.2.2.1 _ wi)) (mvT (s := s.setVm vm0) hZ (hr.2.2.2.2.1 _ wpu)) (mvT (s := s.setVm vm0) hZ (hr.2.2.2.2.1 _ wu)) (mvT (s := s.setVm vm0) hZ (hr.2.2.2.2.1 _ wca)) (mvT (s := s.setVm vm0) hZ (hr.2.2.2.2.1 _ wn)) hy hyo hnam hdes qa qb qc (by rw [ek]; exact m3) (g := mkF m pc Ls (.ref a :: S)) rfl (by rw [hr.1]; exact hLs) rfl (hb hby hd) hf (by show 2 * 0 + _ + (1 + 2 + 11) ≤ _; omega)
  subst hp
  exact Run.of st (q _ ⟨vm0, locs, k0, X', hS, hk0, hZ, hown, hN, w, hT, hx, hby, hr⟩)
/-- ldc of a Class whose object has been made -/
theorem i_ldcM (j : J l Z a0 EL LT own bytes maxL ret nm R p e s m args below meth c T cells slots W) {pc : Nat} {Ls : Array Slot} {S : List Value} {Pq : Outcome → State → Prop} {idx : Nat} {C : String} {mr : Addr} (hd : decode bytes pc = .ok (.ldc idx, 2)) (wl : Jvm.Cond.classLink own idx C ∈ tables_1) (M : Mir Z C mr) (pc' : Nat) (hp : pc' = pc + 2) (q : ∀ T', J l Z a0 EL LT own bytes maxL ret nm R p e s m args below meth c T' cells slots W → Run p.tables e below Pq (T'.setTop (mkF m pc' Ls (.ref mr :: S)))) : Run p.tables e below Pq (T.setTop (mkF m pc Ls S)) := by
  obtain ⟨vm0, locs, k0, X, hS, hk0, hZ, hown, hN, w, hT, hx, hby, hr⟩ := j
  obtain ⟨cc, kc, m1, m2, m3, -⟩ := M
  obtain ⟨k', qk, ek⟩ := hZ.alike.2.2 _ _ m2
  have ev : (Term.mirror C).eval args (s.setVm vm0) none [] (s.setVm vm0) = some (.ref mr) := by
    have f1 : vm0.findClass C = some cc := by rw [hZ.alike.findClass]; exact m1
    have f3 : k'.mirror = some mr := by rw [ek]; exact m3
    simp [Term.eval, f1, qk, f3]
  obtain ⟨vm', X', st⟩ := X.ldcMirror hx hown (mvT (s := s.setVm vm0) hZ (hr.2.2.2.2.1 _ wl)) ev (g := mkF m pc Ls S) rfl (hb hby hd)
  subst hp
  exact Run.of st (q _ ⟨vm0, locs, k0, X', hS, hk0, hZ, hown, hN, w, hT, hx, hby, hr⟩)
/-- ldc_w of a String constant, only its reference; behind it nothing is known of the constants -/
theorem i_ldcW (j : J l Z a0 [] LT own bytes maxL ret nm R p e s m args below meth c T cells slots W) {pc : Nat} {Ls : Array Slot} {S : List Value} {Pq : Outcome → State → Prop} {idx : Nat} {text : String} (hd : decode bytes pc = .ok (.ldc_w idx, 3)) (wl : Jvm.Cond.stringLink own idx text ∈ tables_1) (n : Nat) (hn : 4 * text.toList.length ≤ n) (hbig : n ≤ 536870912) (hc : cells + 2 ≤ R.cells) (hs : slots + (n + 4) ≤ R.slots) (c' s' : Nat) (hc' : c' = cells + 2) (hs' : s' = slots + (n + 4)) (pc' : Nat) (hp : pc' = pc + 3)
    (q : ∀ a T', J l Z a0 [] [] own bytes maxL ret nm R p e s m args below meth c T' c' s' W → Run p.tables e below Pq (T'.setTop (mkF m pc' Ls (.ref a :: S)))) : Run p.tables e below Pq (T.setTop (mkF m pc Ls S)) := by
  obtain ⟨vm0, locs, k0, X, hS, hk0, hZ, hown, hN, w, hT, hx, hby, hr⟩ := j
  obtain ⟨a, T', h', k1, X', e', E, hS', hk1, hZ', hown', st⟩ := ldcSW X hx hZ hown (hr.2.2.2.2.1 _ wl) hr.2.2.2.2.2.2 rfl hS hk0 (g := mkF m pc Ls S) rfl (hb hby hd) hn hbig hc hs
  subst hp hc' hs' e'
  refine Run.of st (q a T' ⟨T'.vm, locs, k1, X', hS', hk1, hZ', hown', hN, ⟨ext_trans w.1 E, nofun, fun o ho => ⟨(w.2.2.1 o ho).1.ext E, fun b => ⟨((w.2.2.1 o ho).2 b).1, ?_⟩⟩, w.2.2.2⟩, nofun, hx, hby, hr⟩)
  rintro ⟨q, hq, -⟩
  cases hq
/-- System.arraycopy of one reference from the array a to the array b -/
theorem i_copy1 (j : J l Z a0 EL LT own bytes maxL ret nm R p e s m args below meth c T cells slots W) {pc : Nat} {Ls : Array Slot} {S : List Value} {Pq : Outcome → State → Prop} {idx : Nat} {a b : Addr} {ba : Bool} {k k' : ClassId} {C : String} {z z' : Int32} {dv dd : Value} (hd : decode bytes pc = .ok (.invokestatic idx, 3)) (w1 : Jvm.Cond.methodLink own idx Jvm.Stand.acN ∈ tables_1) (w2 : Jvm.Cond.native Jvm.Stand.acN ∈ tables_1) (w3 : Jvm.Cond.static Jvm.Stand.acN ∈ tables_1) (w4 : Jvm.Cond.initialized "java/lang/System" ∈ tables_1) (i ib : Nat) (hi : W[i]? = some (a, ba, .inr (k, .object C, z, [.null], dv))) (hib : W[ib]? = some (b, true, .inr (k', .object C, z', [.null], dd))) (hz : 1 ≤ z.toNatClampNeg) (hz' : 1 ≤ z'.toNatClampNeg) (hLs : Ls.size = maxL) (hf : 1 ≤ R.frames) (hl : (S.map fun v => v.category).sum + 18 ≤ R.locals) (pc' : Nat) (hp : pc' = pc + 3)
    (q : ∀ T', J l Z a0 EL LT own bytes maxL ret nm R p e s m args below meth c T' cells slots W → Run p.tables e below Pq (T'.setTop (mkF m pc' Ls S))) : Run p.tables e below Pq (T.setTop (mkF m pc Ls (.int 1 :: .int 0 :: .ref b :: .int 0 :: .ref a :: S))) := by
  obtain ⟨vm0, locs, k0, X, hS, hk0, hZ, hown, hN, w, hT, hx, hby, hr⟩ := j
  have ma := w.2.2.1 _ (List.mem_of_getElem? hi)
  have mb := w.2.2.1 _ (List.mem_of_getElem? hib)
  obtain ⟨T', h', L, X', e', N, K, A', st⟩ := cpA X hx hZ hown (hr.2.2.2.2.1 _ w1) (hr.2.2.2.2.1 _ w2) (hr.2.2.2.2.1 _ w3) (hr.2.2.2.2.1 _ w4) rfl ma.1.1 mb.1.1 (us := [.null]) (Or.inr ⟨rfl, rfl, Or.inl rfl, trivial⟩) (sp := 0) (dp := 0) (nn := 1) (by decide) (by decide) (by decide) (by show 0 + 1 ≤ _; omega) (by show 0 + 1 ≤ _; omega) rfl (by show (0 : Int32).toNatClampNeg + (1 : Int32).toNatClampNeg ≤ 1; decide) hN (mb.2 rfl).1 (g := mkF m pc Ls (.int 1 :: .int 0 :: .ref b :: .int 0 :: .ref a :: S)) rfl (by rw [hr.1]; exact hLs) rfl (hb hby hd) hf (W := (S.map fun v => v.category).sum) (by show 2 * 0 + _ ≤ _; omega) (by show _ + (5 + 2 + 11) ≤ _; omega)
  subst hp e'
  exact Run.of st (q T' ⟨vm0, L, k0, X', hS, Nat.le_trans hk0 K.1, hZ, hown, N, w.keep1 hib K ⟨A', mb.1.2⟩, hT, hx, hby, hr⟩)
end Steps4
theorem fitR {C : String} {x : Value} (h : x.isRef = true) : fits (.object C) x = true := by rcases ref_cases h with rfl | ⟨a, rfl⟩ <;> rfl
theorem narR {C : String} {x : Value} (h : x.isRef = true) : narrow (.object C) x = x := by rcases ref_cases h with rfl | ⟨a, rfl⟩ <;> rfl
abbrev o_AL (a : Addr) (x0 : Value) (x1 : Value) (x2 : Value) (x3 : Value) (x4 : Value) (x5 : Value) (x6 : Value) : OB := (a, true, .inl ("com/example/lockstep/lockstep/core/ActiveLevels", [("com/example/lockstep/lockstep/core/ActiveLevels", "least", "I", x0), ("com/example/lockstep/lockstep/core/ActiveLevels", "most", "I", x1), ("com/example/lockstep/lockstep/core/ActiveLevels", "supported", "I", x2), ("com/example/lockstep/lockstep/core/ActiveLevels", "fixed", "Z", x3), ("com/example/lockstep/lockstep/core/ActiveLevels", "supportFixed", "Z", x4), ("com/example/lockstep/lockstep/core/ActiveLevels", "bySupport", "Z", x5), ("com/example/lockstep/lockstep/core/ActiveLevels", "search", "Lcom/example/lockstep/lockstep/core/Search;", x6)]))
set_option maxRecDepth 65536 in
theorem df_AL {Z : State} {a0 : Array Value} {EL : List (String × Nat)} (g : GC Z a0 EL) : FD Z a0 "com/example/lockstep/lockstep/core/ActiveLevels" [("com/example/lockstep/lockstep/core/ActiveLevels", "least", "I", (.int (0 : Int32))), ("com/example/lockstep/lockstep/core/ActiveLevels", "most", "I", (.int (0 : Int32))), ("com/example/lockstep/lockstep/core/ActiveLevels", "supported", "I", (.int (0 : Int32))), ("com/example/lockstep/lockstep/core/ActiveLevels", "fixed", "Z", (.int (0 : Int32))), ("com/example/lockstep/lockstep/core/ActiveLevels", "supportFixed", "Z", (.int (0 : Int32))), ("com/example/lockstep/lockstep/core/ActiveLevels", "bySupport", "Z", (.int (0 : Int32))), ("com/example/lockstep/lockstep/core/ActiveLevels", "search", "Lcom/example/lockstep/lockstep/core/Search;", .null)] :=
  FD.cons (Or.inl (g.1 _ (mt (i := 397) rfl))) (ty := .int) (by decide) rfl <| FD.cons (Or.inl (g.1 _ (mt (i := 400) rfl))) (ty := .int) (by decide) rfl <| FD.cons (Or.inl (g.1 _ (mt (i := 402) rfl))) (ty := .int) (by decide) rfl <| FD.cons (Or.inl (g.1 _ (mt (i := 411) rfl))) (ty := .boolean) (by decide) rfl <| FD.cons (Or.inl (g.1 _ (mt (i := 434) rfl))) (ty := .boolean) (by decide) rfl <| FD.cons (Or.inl (g.1 _ (mt (i := 436) rfl))) (ty := .boolean) (by decide) rfl <| FD.cons (Or.inr (g.1 _ (mt (i := 404) rfl))) (ty := (.object "com/example/lockstep/lockstep/core/Search")) (by decide) rfl <| FD.nil
def ks_AL : List (String × String × String) := [("com/example/lockstep/lockstep/core/ActiveLevels", "least", "I"), ("com/example/lockstep/lockstep/core/ActiveLevels", "most", "I"), ("com/example/lockstep/lockstep/core/ActiveLevels", "supported", "I"), ("com/example/lockstep/lockstep/core/ActiveLevels", "fixed", "Z"), ("com/example/lockstep/lockstep/core/ActiveLevels", "supportFixed", "Z"), ("com/example/lockstep/lockstep/core/ActiveLevels", "bySupport", "Z"), ("com/example/lockstep/lockstep/core/ActiveLevels", "search", "Lcom/example/lockstep/lockstep/core/Search;")]
theorem sd_AL {Z : State} {a0 : Array Value} {EL : List (String × Nat)} (g : GC Z a0 EL) : SD Z [("com/example/lockstep/lockstep/core/ActiveLevels", "least", "I"), ("com/example/lockstep/lockstep/core/ActiveLevels", "most", "I"), ("com/example/lockstep/lockstep/core/ActiveLevels", "supported", "I"), ("com/example/lockstep/lockstep/core/ActiveLevels", "fixed", "Z"), ("com/example/lockstep/lockstep/core/ActiveLevels", "supportFixed", "Z"), ("com/example/lockstep/lockstep/core/ActiveLevels", "bySupport", "Z"), ("com/example/lockstep/lockstep/core/ActiveLevels", "search", "Lcom/example/lockstep/lockstep/core/Search;")] := SD.of (df_AL g) (by decide)
theorem kd_AL {Z : State} {a0 : Array Value} {EL : List (String × Nat)} (g : GC Z a0 EL) : KD Z a0 "com/example/lockstep/lockstep/core/ActiveLevels" [("com/example/lockstep/lockstep/core/ActiveLevels", "least", "I"), ("com/example/lockstep/lockstep/core/ActiveLevels", "most", "I"), ("com/example/lockstep/lockstep/core/ActiveLevels", "supported", "I"), ("com/example/lockstep/lockstep/core/ActiveLevels", "fixed", "Z"), ("com/example/lockstep/lockstep/core/ActiveLevels", "supportFixed", "Z"), ("com/example/lockstep/lockstep/core/ActiveLevels", "bySupport", "Z"), ("com/example/lockstep/lockstep/core/ActiveLevels", "search", "Lcom/example/lockstep/lockstep/core/Search;")] := FD.keys (df_AL g)
abbrev o_SE (a : Addr) (x0 : Value) (x1 : Value) (x2 : Value) (x3 : Value) (x4 : Value) (x5 : Value) (x6 : Value) (x7 : Value) (x8 : Value) (x9 : Value) (x10 : Value) (x11 : Value) (x12 : Value) : OB := (a, true, .inl ("com/example/lockstep/lockstep/core/Search", [("com/example/lockstep/lockstep/core/Search", "passedOnAnyThread", "Lcom/example/lockstep/lockstep/core/PassCounts;", x0), ("com/example/lockstep/lockstep/core/Search", "wentBack", "Lcom/example/lockstep/lockstep/core/PassCounts;", x1), ("com/example/lockstep/lockstep/core/Search", "loopTopSummaries", "Ljava/util/Set;", x2), ("com/example/lockstep/lockstep/core/Search", "points", "[Lcom/example/lockstep/lockstep/core/ChoicePoint;", x3), ("com/example/lockstep/lockstep/core/Search", "node", "I", x4), ("com/example/lockstep/lockstep/core/Search", "mainInstruction", "I", x5), ("com/example/lockstep/lockstep/core/Search", "saved", "Ljava/util/List;", x6), ("com/example/lockstep/lockstep/core/Search", "pathTops", "Ljava/util/List;", x7), ("com/example/lockstep/lockstep/core/Search", "depth", "I", x8), ("com/example/lockstep/lockstep/core/Search", "repeated", "I", x9), ("com/example/lockstep/lockstep/core/Search", "settledSince", "J", x10), ("com/example/lockstep/lockstep/core/Search", "restart", "Z", x11), ("com/example/lockstep/lockstep/core/Search", "anyThreadDepth", "I", x12)]))
set_option maxRecDepth 65536 in
theorem df_SE {Z : State} {a0 : Array Value} {EL : List (String × Nat)} (g : GC Z a0 EL) : FD Z a0 "com/example/lockstep/lockstep/core/Search" [("com/example/lockstep/lockstep/core/Search", "passedOnAnyThread", "Lcom/example/lockstep/lockstep/core/PassCounts;", .null), ("com/example/lockstep/lockstep/core/Search", "wentBack", "Lcom/example/lockstep/lockstep/core/PassCounts;", .null), ("com/example/lockstep/lockstep/core/Search", "loopTopSummaries", "Ljava/util/Set;", .null), ("com/example/lockstep/lockstep/core/Search", "points", "[Lcom/example/lockstep/lockstep/core/ChoicePoint;", .null), ("com/example/lockstep/lockstep/core/Search", "node", "I", (.int (0 : Int32))), ("com/example/lockstep/lockstep/core/Search", "mainInstruction", "I", (.int (0 : Int32))), ("com/example/lockstep/lockstep/core/Search", "saved", "Ljava/util/List;", .null), ("com/example/lockstep/lockstep/core/Search", "pathTops", "Ljava/util/List;", .null), ("com/example/lockstep/lockstep/core/Search", "depth", "I", (.int (0 : Int32))), ("com/example/lockstep/lockstep/core/Search", "repeated", "I", (.int (0 : Int32))), ("com/example/lockstep/lockstep/core/Search", "settledSince", "J", (.long (0 : Int64))), ("com/example/lockstep/lockstep/core/Search", "restart", "Z", (.int (0 : Int32))), ("com/example/lockstep/lockstep/core/Search", "anyThreadDepth", "I", (.int (0 : Int32)))] :=
  FD.cons (Or.inr (g.1 _ (mt (i := 61) rfl))) (ty := (.object "com/example/lockstep/lockstep/core/PassCounts")) (by decide) rfl <| FD.cons (Or.inr (g.1 _ (mt (i := 63) rfl))) (ty := (.object "com/example/lockstep/lockstep/core/PassCounts")) (by decide) rfl <| FD.cons (Or.inr (g.1 _ (mt (i := 89) rfl))) (ty := (.object "java/util/Set")) (by decide) rfl <| FD.cons (Or.inl (g.1 _ (mt (i := 331) rfl))) (ty := (.array (.object "com/example/lockstep/lockstep/core/ChoicePoint"))) (by decide) rfl <| FD.cons (Or.inl (g.1 _ (mt (i := 321) rfl))) (ty := .int) (by decide) rfl <| FD.cons (Or.inl (g.1 _ (mt (i := 335) rfl))) (ty := .int) (by decide) rfl <| FD.cons (Or.inr (g.1 _ (mt (i := 337) rfl))) (ty := (.object "java/util/List")) (by decide) rfl <| FD.cons (Or.inr (g.1 _ (mt (i := 323) rfl))) (ty := (.object "java/util/List")) (by decide) rfl <| FD.cons (Or.inl (g.1 _ (mt (i := 458) rfl))) (ty := .int) (by decide) rfl <| FD.cons (Or.inl (g.1 _ (mt (i := 460) rfl))) (ty := .int) (by decide) rfl <| FD.cons (Or.inl (g.1 _ (mt (i := 471) rfl))) (ty := .long) (by decide) rfl <| FD.cons (Or.inl (g.1 _ (mt (i := 559) rfl))) (ty := .boolean) (by decide) rfl <| FD.cons (Or.inl (g.1 _ (mt (i := 575) rfl))) (ty := .int) (by decide) rfl <| FD.nil
def ks_SE : List (String × String × String) := [("com/example/lockstep/lockstep/core/Search", "passedOnAnyThread", "Lcom/example/lockstep/lockstep/core/PassCounts;"), ("com/example/lockstep/lockstep/core/Search", "wentBack", "Lcom/example/lockstep/lockstep/core/PassCounts;"), ("com/example/lockstep/lockstep/core/Search", "loopTopSummaries", "Ljava/util/Set;"), ("com/example/lockstep/lockstep/core/Search", "points", "[Lcom/example/lockstep/lockstep/core/ChoicePoint;"), ("com/example/lockstep/lockstep/core/Search", "node", "I"), ("com/example/lockstep/lockstep/core/Search", "mainInstruction", "I"), ("com/example/lockstep/lockstep/core/Search", "saved", "Ljava/util/List;"), ("com/example/lockstep/lockstep/core/Search", "pathTops", "Ljava/util/List;"), ("com/example/lockstep/lockstep/core/Search", "depth", "I"), ("com/example/lockstep/lockstep/core/Search", "repeated", "I"), ("com/example/lockstep/lockstep/core/Search", "settledSince", "J"), ("com/example/lockstep/lockstep/core/Search", "restart", "Z"), ("com/example/lockstep/lockstep/core/Search", "anyThreadDepth", "I")]
theorem sd_SE {Z : State} {a0 : Array Value} {EL : List (String × Nat)} (g : GC Z a0 EL) : SD Z [("com/example/lockstep/lockstep/core/Search", "passedOnAnyThread", "Lcom/example/lockstep/lockstep/core/PassCounts;"), ("com/example/lockstep/lockstep/core/Search", "wentBack", "Lcom/example/lockstep/lockstep/core/PassCounts;"), ("com/example/lockstep/lockstep/core/Search", "loopTopSummaries", "Ljava/util/Set;"), ("com/example/lockstep/lockstep/core/Search", "points", "[Lcom/example/lockstep/lockstep/core/ChoicePoint;"), ("com/example/lockstep/lockstep/core/Search", "node", "I"), ("com/example/lockstep/lockstep/core/Search", "mainInstruction", "I"), ("com/example/lockstep/lockstep/core/Search", "saved", "Ljava/util/List;"), ("com/example/lockstep/lockstep/core/Search", "pathTops", "Ljava/util/List;"), ("com/example/lockstep/lockstep/core/Search", "depth", "I"), ("com/example/lockstep/lockstep/core/Search", "repeated", "I"), ("com/example/lockstep/lockstep/core/Search", "settledSince", "J"), ("com/example/lockstep/lockstep/core/Search", "restart", "Z"), ("com/example/lockstep/lockstep/core/Search", "anyThreadDepth", "I")] := SD.of (df_SE g) (by decide)
theorem kd_SE {Z : State} {a0 : Array Value} {EL : List (String × Nat)} (g : GC Z a0 EL) : KD Z a0 "com/example/lockstep/lockstep/core/Search" [("com/example/lockstep/lockstep/core/Search", "passedOnAnyThread", "Lcom/example/lockstep/lockstep/core/PassCounts;"), ("com/example/lockstep/lockstep/core/Search", "wentBack", "Lcom/example/lockstep/lockstep/core/PassCounts;"), ("com/example/lockstep/lockstep/core/Search", "loopTopSummaries", "Ljava/util/Set;"), ("com/example/lockstep/lockstep/core/Search", "points", "[Lcom/example/lockstep/lockstep/core/ChoicePoint;"), ("com/example/lockstep/lockstep/core/Search", "node", "I"), ("com/example/lockstep/lockstep/core/Search", "mainInstruction", "I"), ("com/example/lockstep/lockstep/core/Search", "saved", "Ljava/util/List;"), ("com/example/lockstep/lockstep/core/Search", "pathTops", "Ljava/util/List;"), ("com/example/lockstep/lockstep/core/Search", "depth", "I"), ("com/example/lockstep/lockstep/core/Search", "repeated", "I"), ("com/example/lockstep/lockstep/core/Search", "settledSince", "J"), ("com/example/lockstep/lockstep/core/Search", "restart", "Z"), ("com/example/lockstep/lockstep/core/Search", "anyThreadDepth", "I")] := FD.keys (df_SE g)
abbrev o_CP (a : Addr) (x0 : Value) (x1 : Value) (x2 : Value) (x3 : Value) (x4 : Value) (x5 : Value) (x6 : Value) : OB := (a, true, .inl ("com/example/lockstep/lockstep/core/ChoicePoint", [("com/example/lockstep/lockstep/core/ChoicePoint", "ways", "I", x0), ("com/example/lockstep/lockstep/core/ChoicePoint", "node", "I", x1), ("com/example/lockstep/lockstep/core/ChoicePoint", "taken", "I", x2), ("com/example/lockstep/lockstep/core/ChoicePoint", "value", "Z", x3), ("com/example/lockstep/lockstep/core/ChoicePoint", "standIns", "Ljava/util/BitSet;", x4), ("com/example/lockstep/lockstep/core/ChoicePoint", "settledBefore", "J", x5), ("com/example/lockstep/lockstep/core/ChoicePoint", "settled", "Z", x6)]))
set_option maxRecDepth 65536 in
theorem df_CP {Z : State} {a0 : Array Value} {EL : List (String × Nat)} (g : GC Z a0 EL) : FD Z a0 "com/example/lockstep/lockstep/core/ChoicePoint" [("com/example/lockstep/lockstep/core/ChoicePoint", "ways", "I", (.int (0 : Int32))), ("com/example/lockstep/lockstep/core/ChoicePoint", "node", "I", (.int (0 : Int32))), ("com/example/lockstep/lockstep/core/ChoicePoint", "taken", "I", (.int (0 : Int32))), ("com/example/lockstep/lockstep/core/ChoicePoint", "value", "Z", (.int (0 : Int32))), ("com/example/lockstep/lockstep/core/ChoicePoint", "standIns", "Ljava/util/BitSet;", .null), ("com/example/lockstep/lockstep/core/ChoicePoint", "settledBefore", "J", (.long (0 : Int64))), ("com/example/lockstep/lockstep/core/ChoicePoint", "settled", "Z", (.int (0 : Int32)))] :=
  FD.cons (Or.inl (g.1 _ (mt (i := 478) rfl))) (ty := .int) (by decide) rfl <| FD.cons (Or.inl (g.1 _ (mt (i := 480) rfl))) (ty := .int) (by decide) rfl <| FD.cons (Or.inl (g.1 _ (mt (i := 482) rfl))) (ty := .int) (by decide) rfl <| FD.cons (Or.inl (g.1 _ (mt (i := 484) rfl))) (ty := .boolean) (by decide) rfl <| FD.cons (Or.inl (g.1 _ (mt (i := 494) rfl))) (ty := (.object "java/util/BitSet")) (by decide) rfl <| FD.cons (Or.inl (g.1 _ (mt (i := 496) rfl))) (ty := .long) (by decide) rfl <| FD.cons (Or.inl (g.1 _ (mt (i := 498) rfl))) (ty := .boolean) (by decide) rfl <| FD.nil
def ks_CP : List (String × String × String) := [("com/example/lockstep/lockstep/core/ChoicePoint", "ways", "I"), ("com/example/lockstep/lockstep/core/ChoicePoint", "node", "I"), ("com/example/lockstep/lockstep/core/ChoicePoint", "taken", "I"), ("com/example/lockstep/lockstep/core/ChoicePoint", "value", "Z"), ("com/example/lockstep/lockstep/core/ChoicePoint", "standIns", "Ljava/util/BitSet;"), ("com/example/lockstep/lockstep/core/ChoicePoint", "settledBefore", "J"), ("com/example/lockstep/lockstep/core/ChoicePoint", "settled", "Z")]
theorem sd_CP {Z : State} {a0 : Array Value} {EL : List (String × Nat)} (g : GC Z a0 EL) : SD Z [("com/example/lockstep/lockstep/core/ChoicePoint", "ways", "I"), ("com/example/lockstep/lockstep/core/ChoicePoint", "node", "I"), ("com/example/lockstep/lockstep/core/ChoicePoint", "taken", "I"), ("com/example/lockstep/lockstep/core/ChoicePoint", "value", "Z"), ("com/example/lockstep/lockstep/core/ChoicePoint", "standIns", "Ljava/util/BitSet;"), ("com/example/lockstep/lockstep/core/ChoicePoint", "settledBefore", "J"), ("com/example/lockstep/lockstep/core/ChoicePoint", "settled", "Z")] := SD.of (df_CP g) (by decide)
theorem kd_CP {Z : State} {a0 : Array Value} {EL : List (String × Nat)} (g : GC Z a0 EL) : KD Z a0 "com/example/lockstep/lockstep/core/ChoicePoint" [("com/example/lockstep/lockstep/core/ChoicePoint", "ways", "I"), ("com/example/lockstep/lockstep/core/ChoicePoint", "node", "I"), ("com/example/lockstep/lockstep/core/ChoicePoint", "taken", "I"), ("com/example/lockstep/lockstep/core/ChoicePoint", "value", "Z"), ("com/example/lockstep/lockstep/core/ChoicePoint", "standIns", "Ljava/util/BitSet;"), ("com/example/lockstep/lockstep/core/ChoicePoint", "settledBefore", "J"), ("com/example/lockstep/lockstep/core/ChoicePoint", "settled", "Z")] := FD.keys (df_CP g)
abbrev o_PC (a : Addr) (x0 : Value) : OB := (a, true, .inl ("com/example/lockstep/lockstep/core/PassCounts", [("com/example/lockstep/lockstep/core/PassCounts", "counts", "Ljava/util/Map;", x0)]))
set_option maxRecDepth 65536 in
theorem df_PC {Z : State} {a0 : Array Value} {EL : List (String × Nat)} (g : GC Z a0 EL) : FD Z a0 "com/example/lockstep/lockstep/core/PassCounts" [("com/example/lockstep/lockstep/core/PassCounts", "counts", "Ljava/util/Map;", .null)] :=
  FD.cons (Or.inr (g.1 _ (mt (i := 59) rfl))) (ty := (.object "java/util/Map")) (by decide) rfl <| FD.nil
def ks_PC : List (String × String × String) := [("com/example/lockstep/lockstep/core/PassCounts", "counts", "Ljava/util/Map;")]
theorem sd_PC {Z : State} {a0 : Array Value} {EL : List (String × Nat)} (g : GC Z a0 EL) : SD Z [("com/example/lockstep/lockstep/core/PassCounts", "counts", "Ljava/util/Map;")] := SD.of (df_PC g) (by decide)
theorem kd_PC {Z : State} {a0 : Array Value} {EL : List (String × Nat)} (g : GC Z a0 EL) : KD Z a0 "com/example/lockstep/lockstep/core/PassCounts" [("com/example/lockstep/lockstep/core/PassCounts", "counts", "Ljava/util/Map;")] := FD.keys (df_PC g)
abbrev o_HM (a : Addr) (x0 : Value) (x1 : Value) : OB := (a, true, .inl ("java/util/HashMap", [("java/util/HashMap", "modCount", "I", x0), ("java/util/HashMap", "table", "[Ljava/util/HashMap$Node;", x1)]))
set_option maxRecDepth 65536 in
theorem df_HM {Z : State} {a0 : Array Value} {EL : List (String × Nat)} (g : GC Z a0 EL) : FD Z a0 "java/util/HashMap" [("java/util/HashMap", "modCount", "I", (.int (0 : Int32))), ("java/util/HashMap", "table", "[Ljava/util/HashMap$Node;", .null)] :=
  FD.cons (Or.inl (g.1 _ (mt (i := 537) rfl))) (ty := .int) (by decide) rfl <| FD.cons (Or.inl (g.1 _ (mt (i := 539) rfl))) (ty := (.array (.object "java/util/HashMap$Node"))) (by decide) rfl <| FD.nil
def ks_HM : List (String × String × String) := [("java/util/HashMap", "modCount", "I"), ("java/util/HashMap", "table", "[Ljava/util/HashMap$Node;")]
theorem sd_HM {Z : State} {a0 : Array Value} {EL : List (String × Nat)} (g : GC Z a0 EL) : SD Z [("java/util/HashMap", "modCount", "I"), ("java/util/HashMap", "table", "[Ljava/util/HashMap$Node;")] := SD.of (df_HM g) (by decide)
theorem kd_HM {Z : State} {a0 : Array Value} {EL : List (String × Nat)} (g : GC Z a0 EL) : KD Z a0 "java/util/HashMap" [("java/util/HashMap", "modCount", "I"), ("java/util/HashMap", "table", "[Ljava/util/HashMap$Node;")] := FD.keys (df_HM g)
abbrev o_HS (a : Addr) (x0 : Value) : OB := (a, true, .inl ("java/util/HashSet", [("java/util/HashSet", "map", "Ljava/util/HashMap;", x0)]))
set_option maxRecDepth 65536 in
theorem df_HS {Z : State} {a0 : Array Value} {EL : List (String × Nat)} (g : GC Z a0 EL) : FD Z a0 "java/util/HashSet" [("java/util/HashSet", "map", "Ljava/util/HashMap;", .null)] :=
  FD.cons (Or.inl (g.1 _ (mt (i := 87) rfl))) (ty := (.object "java/util/HashMap")) (by decide) rfl <| FD.nil
def ks_HS : List (String × String × String) := [("java/util/HashSet", "map", "Ljava/util/HashMap;")]
theorem sd_HS {Z : State} {a0 : Array Value} {EL : List (String × Nat)} (g : GC Z a0 EL) : SD Z [("java/util/HashSet", "map", "Ljava/util/HashMap;")] := SD.of (df_HS g) (by decide)
theorem kd_HS {Z : State} {a0 : Array Value} {EL : List (String × Nat)} (g : GC Z a0 EL) : KD Z a0 "java/util/HashSet" [("java/util/HashSet", "map", "Ljava/util/HashMap;")] := FD.keys (df_HS g)
abbrev o_AY (a : Addr) (x0 : Value) : OB := (a, true, .inl ("java/util/ArrayList", [("java/util/ArrayList", "size", "I", x0)]))
set_option maxRecDepth 65536 in
theorem df_AY {Z : State} {a0 : Array Value} {EL : List (String × Nat)} (g : GC Z a0 EL) : FD Z a0 "java/util/ArrayList" [("java/util/ArrayList", "size", "I", (.int (0 : Int32)))] :=
  FD.cons (Or.inl (g.1 _ (mt (i := 289) rfl))) (ty := .int) (by decide) rfl <| FD.nil
def ks_AY : List (String × String × String) := [("java/util/ArrayList", "size", "I")]
theorem sd_AY {Z : State} {a0 : Array Value} {EL : List (String × Nat)} (g : GC Z a0 EL) : SD Z [("java/util/ArrayList", "size", "I")] := SD.of (df_AY g) (by decide)
theorem kd_AY {Z : State} {a0 : Array Value} {EL : List (String × Nat)} (g : GC Z a0 EL) : KD Z a0 "java/util/ArrayList" [("java/util/ArrayList", "size", "I")] := FD.keys (df_AY g)
abbrev o_BS (a : Addr)  : OB := (a, true, .inl ("java/util/BitSet", []))
set_option maxRecDepth 65536 in
theorem df_BS {Z : State} {a0 : Array Value} {EL : List (String × Nat)} (g : GC Z a0 EL) : FD Z a0 "java/util/BitSet" [] :=
  FD.nil
def ks_BS : List (String × String × String) := []
theorem sd_BS {Z : State} {a0 : Array Value} {EL : List (String × Nat)} (g : GC Z a0 EL) : SD Z [] := SD.of (df_BS g) (by decide)
theorem kd_BS {Z : State} {a0 : Array Value} {EL : List (String × Nat)} (g : GC Z a0 EL) : KD Z a0 "java/util/BitSet" [] := FD.keys (df_BS g)
abbrev o_RL (a : Addr)  : OB := (a, true, .inl ("com/example/lockstep/lockstep/core/RaceLog", []))
set_option maxRecDepth 65536 in
theorem df_RL {Z : State} {a0 : Array Value} {EL : List (String × Nat)} (g : GC Z a0 EL) : FD Z a0 "com/example/lockstep/lockstep/core/RaceLog" [] :=
  FD.nil
def ks_RL : List (String × String × String) := []
theorem sd_RL {Z : State} {a0 : Array Value} {EL : List (String × Nat)} (g : GC Z a0 EL) : SD Z [] := SD.of (df_RL g) (by decide)
theorem kd_RL {Z : State} {a0 : Array Value} {EL : List (String × Nat)} (g : GC Z a0 EL) : KD Z a0 "com/example/lockstep/lockstep/core/RaceLog" [] := FD.keys (df_RL g)
abbrev o_IH (a : Addr)  : OB := (a, true, .inl ("java/util/IdentityHashMap", []))
set_option maxRecDepth 65536 in
theorem df_IH {Z : State} {a0 : Array Value} {EL : List (String × Nat)} (g : GC Z a0 EL) : FD Z a0 "java/util/IdentityHashMap" [] :=
  FD.nil
def ks_IH : List (String × String × String) := []
theorem sd_IH {Z : State} {a0 : Array Value} {EL : List (String × Nat)} (g : GC Z a0 EL) : SD Z [] := SD.of (df_IH g) (by decide)
theorem kd_IH {Z : State} {a0 : Array Value} {EL : List (String × Nat)} (g : GC Z a0 EL) : KD Z a0 "java/util/IdentityHashMap" [] := FD.keys (df_IH g)
abbrev o_TS (a : Addr)  : OB := (a, true, .inl ("java/util/TreeSet", []))
set_option maxRecDepth 65536 in
theorem df_TS {Z : State} {a0 : Array Value} {EL : List (String × Nat)} (g : GC Z a0 EL) : FD Z a0 "java/util/TreeSet" [] :=
  FD.nil
def ks_TS : List (String × String × String) := []
theorem sd_TS {Z : State} {a0 : Array Value} {EL : List (String × Nat)} (g : GC Z a0 EL) : SD Z [] := SD.of (df_TS g) (by decide)
theorem kd_TS {Z : State} {a0 : Array Value} {EL : List (String × Nat)} (g : GC Z a0 EL) : KD Z a0 "java/util/TreeSet" [] := FD.keys (df_TS g)
abbrev o_TM (a : Addr)  : OB := (a, true, .inl ("java/util/TreeMap", []))
set_option maxRecDepth 65536 in
theorem df_TM {Z : State} {a0 : Array Value} {EL : List (String × Nat)} (g : GC Z a0 EL) : FD Z a0 "java/util/TreeMap" [] :=
  FD.nil
def ks_TM : List (String × String × String) := []
theorem sd_TM {Z : State} {a0 : Array Value} {EL : List (String × Nat)} (g : GC Z a0 EL) : SD Z [] := SD.of (df_TM g) (by decide)
theorem kd_TM {Z : State} {a0 : Array Value} {EL : List (String × Nat)} (g : GC Z a0 EL) : KD Z a0 "java/util/TreeMap" [] := FD.keys (df_TM g)
abbrev o_SG (a : Addr)  : OB := (a, true, .inl ("com/example/lockstep/lockstep/core/StateGraph", []))
set_option maxRecDepth 65536 in
theorem df_SG {Z : State} {a0 : Array Value} {EL : List (String × Nat)} (g : GC Z a0 EL) : FD Z a0 "com/example/lockstep/lockstep/core/StateGraph" [] :=
  FD.nil
def ks_SG : List (String × String × String) := []
theorem sd_SG {Z : State} {a0 : Array Value} {EL : List (String × Nat)} (g : GC Z a0 EL) : SD Z [] := SD.of (df_SG g) (by decide)
theorem kd_SG {Z : State} {a0 : Array Value} {EL : List (String × Nat)} (g : GC Z a0 EL) : KD Z a0 "com/example/lockstep/lockstep/core/StateGraph" [] := FD.keys (df_SG g)
abbrev o_SL (a : Addr) (x0 : Value) : OB := (a, true, .inl ("java/util/Collections$SingletonList", [("java/util/Collections$SingletonList", "element", "Ljava/lang/Object;", x0)]))
set_option maxRecDepth 65536 in
theorem df_SL {Z : State} {a0 : Array Value} {EL : List (String × Nat)} (g : GC Z a0 EL) : FD Z a0 "java/util/Collections$SingletonList" [("java/util/Collections$SingletonList", "element", "Ljava/lang/Object;", .null)] :=
  FD.cons (Or.inr (g.1 _ (mt (i := 232) rfl))) (ty := (.object "java/lang/Object")) (by decide) rfl <| FD.nil
def ks_SL : List (String × String × String) := [("java/util/Collections$SingletonList", "element", "Ljava/lang/Object;")]
theorem sd_SL {Z : State} {a0 : Array Value} {EL : List (String × Nat)} (g : GC Z a0 EL) : SD Z [("java/util/Collections$SingletonList", "element", "Ljava/lang/Object;")] := SD.of (df_SL g) (by decide)
theorem kd_SL {Z : State} {a0 : Array Value} {EL : List (String × Nat)} (g : GC Z a0 EL) : KD Z a0 "java/util/Collections$SingletonList" [("java/util/Collections$SingletonList", "element", "Ljava/lang/Object;")] := FD.keys (df_SL g)
abbrev o_C1 (a : Addr) (x0 : Value) (x1 : Value) : OB := (a, true, .inl ("java/util/Collections$1", [("java/util/Collections$1", "val$e", "Ljava/lang/Object;", x0), ("java/util/Collections$1", "hasNext", "Z", x1)]))
set_option maxRecDepth 65536 in
theorem df_C1 {Z : State} {a0 : Array Value} {EL : List (String × Nat)} (g : GC Z a0 EL) : FD Z a0 "java/util/Collections$1" [("java/util/Collections$1", "val$e", "Ljava/lang/Object;", .null), ("java/util/Collections$1", "hasNext", "Z", (.int (0 : Int32)))] :=
  FD.cons (Or.inr (g.1 _ (mt (i := 267) rfl))) (ty := (.object "java/lang/Object")) (by decide) rfl <| FD.cons (Or.inl (g.1 _ (mt (i := 270) rfl))) (ty := .boolean) (by decide) rfl <| FD.nil
def ks_C1 : List (String × String × String) := [("java/util/Collections$1", "val$e", "Ljava/lang/Object;"), ("java/util/Collections$1", "hasNext", "Z")]
theorem sd_C1 {Z : State} {a0 : Array Value} {EL : List (String × Nat)} (g : GC Z a0 EL) : SD Z [("java/util/Collections$1", "val$e", "Ljava/lang/Object;"), ("java/util/Collections$1", "hasNext", "Z")] := SD.of (df_C1 g) (by decide)
theorem kd_C1 {Z : State} {a0 : Array Value} {EL : List (String × Nat)} (g : GC Z a0 EL) : KD Z a0 "java/util/Collections$1" [("java/util/Collections$1", "val$e", "Ljava/lang/Object;"), ("java/util/Collections$1", "hasNext", "Z")] := FD.keys (df_C1 g)
abbrev o_LO (a : Addr)  : OB := (a, true, .inl ("com/example/lockstep/lockstep/core/value/SourceLocation", []))
set_option maxRecDepth 65536 in
theorem df_LO {Z : State} {a0 : Array Value} {EL : List (String × Nat)} (g : GC Z a0 EL) : FD Z a0 "com/example/lockstep/lockstep/core/value/SourceLocation" [] :=
  FD.nil
def ks_LO : List (String × String × String) := []
theorem sd_LO {Z : State} {a0 : Array Value} {EL : List (String × Nat)} (g : GC Z a0 EL) : SD Z [] := SD.of (df_LO g) (by decide)
theorem kd_LO {Z : State} {a0 : Array Value} {EL : List (String × Nat)} (g : GC Z a0 EL) : KD Z a0 "com/example/lockstep/lockstep/core/value/SourceLocation" [] := FD.keys (df_LO g)
abbrev o_Str (a : Addr) (x0 : Value) (x1 : Value) : OB := (a, true, .inl ("java/lang/String", [("java/lang/String", "value", "[B", x0), ("java/lang/String", "coder", "B", x1)]))
set_option maxRecDepth 65536 in
theorem df_Str {Z : State} {a0 : Array Value} {EL : List (String × Nat)} (g : GC Z a0 EL) : FD Z a0 "java/lang/String" [("java/lang/String", "value", "[B", .null), ("java/lang/String", "coder", "B", (.int (0 : Int32)))] :=
  FD.cons (Or.inr (g.1 _ (mt (i := 356) rfl))) (ty := (.array .byte)) (by decide) rfl <| FD.cons (Or.inr (g.1 _ (mt (i := 357) rfl))) (ty := .byte) (by decide) rfl <| FD.nil
def ks_Str : List (String × String × String) := [("java/lang/String", "value", "[B"), ("java/lang/String", "coder", "B")]
theorem sd_Str {Z : State} {a0 : Array Value} {EL : List (String × Nat)} (g : GC Z a0 EL) : SD Z [("java/lang/String", "value", "[B"), ("java/lang/String", "coder", "B")] := SD.of (df_Str g) (by decide)
theorem kd_Str {Z : State} {a0 : Array Value} {EL : List (String × Nat)} (g : GC Z a0 EL) : KD Z a0 "java/lang/String" [("java/lang/String", "value", "[B"), ("java/lang/String", "coder", "B")] := FD.keys (df_Str g)
theorem d0_0 : decode jdk_71_method_1_code 0 = .ok (.aload_n 0, 1) := by decide +kernel
theorem d0_1 : decode jdk_71_method_1_code 1 = .ok (.invokespecial 1, 3) := by decide +kernel
theorem d0_4 : decode jdk_71_method_1_code 4 = .ok (.return_, 1) := by decide +kernel
theorem pn_absmap : plainFor (⟨"java/util/AbstractMap", "<init>", "()V"⟩ : MethodName) = true := by first | exact plainFor_of_name (by first | (simp [plainName, overriddenIn]; done) | decide +kernel) | exact Jvm.Free.JP.mathPlain rfl (by decide +kernel) | decide +kernel
set_option maxRecDepth 65536 in
set_option maxHeartbeats 40000000 in
theorem c_absmap {l : Launch} {Z : State} {a0 : Array Value} {EL : List (String × Nat)} (g : GC Z a0 EL) (a : Addr)  : Con l Z EL (⟨"java/util/AbstractMap", "<init>", "()V"⟩ : MethodName) jdk_71_method_1_code 1 none { frames := 1, cells := 0, slots := 0, locals := 12 } [(.ref a)] [] (fun v W' => v = none ∧ W' = []) := by
  refine Con.mk g pn_absmap (Ls := #[.val (.ref a)]) (fun m => by first | (simp [entryFrame, mkF, argsToLocals, Value.category]; done) | rfl) ?_
  intro p e s m below meth c T0 F J0
  refine p_aload_n J0 d0_0 rfl rfl 1 rfl ?_
  refine i_initO J0 d0_1 (mt (i := 54) rfl) (mt (i := 14) rfl) (mt (i := 15) rfl) rfl (by decide) (by show (12 : Nat) ≤ _; decide) 4 rfl fun T1 J2 => ?_
  exact r_void J2 d0_4 rfl (by decide) (by decide) (Wf := []) rfl ⟨rfl, rfl⟩
theorem d1_0 : decode jdk_22_method_1_code 0 = .ok (.aload_n 0, 1) := by decide +kernel
theorem d1_1 : decode jdk_22_method_1_code 1 = .ok (.invokespecial 1, 3) := by decide +kernel
theorem d1_4 : decode jdk_22_method_1_code 4 = .ok (.return_, 1) := by decide +kernel
theorem pn_abscol : plainFor (⟨"java/util/AbstractCollection", "<init>", "()V"⟩ : MethodName) = true := by first | exact plainFor_of_name (by first | (simp [plainName, overriddenIn]; done) | decide +kernel) | exact Jvm.Free.JP.mathPlain rfl (by decide +kernel) | decide +kernel
set_option maxRecDepth 65536 in
set_option maxHeartbeats 40000000 in
theorem c_abscol {l : Launch} {Z : State} {a0 : Array Value} {EL : List (String × Nat)} (g : GC Z a0 EL) (a : Addr)  : Con l Z EL (⟨"java/util/AbstractCollection", "<init>", "()V"⟩ : MethodName) jdk_22_method_1_code 1 none { frames := 1, cells := 0, slots := 0, locals := 12 } [(.ref a)] [] (fun v W' => v = none ∧ W' = []) := by
  refine Con.mk g pn_abscol (Ls := #[.val (.ref a)]) (fun m => by first | (simp [entryFrame, mkF, argsToLocals, Value.category]; done) | rfl) ?_
  intro p e s m below meth c T0 F J0
  refine p_aload_n J0 d1_0 rfl rfl 1 rfl ?_
  refine i_initO J0 d1_1 (mt (i := 82) rfl) (mt (i := 14) rfl) (mt (i := 15) rfl) rfl (by decide) (by show (12 : Nat) ≤ _; decide) 4 rfl fun T3 J4 => ?_
  exact r_void J4 d1_4 rfl (by decide) (by decide) (Wf := []) rfl ⟨rfl, rfl⟩
theorem d2_0 : decode jdk_91_method_1_code 0 = .ok (.aload_n 0, 1) := by decide +kernel
theorem d2_1 : decode jdk_91_method_1_code 1 = .ok (.invokespecial 1, 3) := by decide +kernel
theorem pd_0 : parseMethodDescriptor "()V" = some ⟨[], none⟩ := by decide +kernel
theorem d2_4 : decode jdk_91_method_1_code 4 = .ok (.return_, 1) := by decide +kernel
theorem pn_absset : plainFor (⟨"java/util/AbstractSet", "<init>", "()V"⟩ : MethodName) = true := by first | exact plainFor_of_name (by first | (simp [plainName, overriddenIn]; done) | decide +kernel) | exact Jvm.Free.JP.mathPlain rfl (by decide +kernel) | decide +kernel
set_option maxRecDepth 65536 in
set_option maxHeartbeats 40000000 in
theorem c_absset {l : Launch} {Z : State} {a0 : Array Value} {EL : List (String × Nat)} (g : GC Z a0 EL) (a : Addr)  : Con l Z EL (⟨"java/util/AbstractSet", "<init>", "()V"⟩ : MethodName) jdk_91_method_1_code 1 none { frames := 2, cells := 0, slots := 0, locals := 24 } [(.ref a)] [] (fun v W' => v = none ∧ W' = []) := by
  refine Con.mk g pn_absset (Ls := #[.val (.ref a)]) (fun m => by first | (simp [entryFrame, mkF, argsToLocals, Value.category]; done) | rfl) ?_
  intro p e s m below meth c T0 F J0
  refine p_aload_n J0 d2_0 rfl rfl 1 rfl ?_
  refine i_special J0 d2_1 rfl (mt (i := 76) rfl) (mt (i := 77) rfl) (mt (i := 80) rfl) (mt (i := 81) rfl) (by decide) (lenOf pd_0 rfl) (c_abscol g a ) [] [] 0 (by decide) (lenLe F 0 rfl) rfl 0 (by decide) (by decide) (by decide) (by decide) rfl (by show (0 : Nat) ≤ _; decide) _ rfl 0 0 rfl rfl 4 rfl fun v8 W9 T5 hQ7 J6 => ?_
  obtain ⟨rfl, rfl⟩ := hQ7
  have J10 := J6.norm (W' := F) rfl
  show Run _ _ _ _ (State.setTop _ (mkF m 4 #[.val (.ref a)] []))
  exact r_void J10 d2_4 rfl (by decide) (by decide) (Wf := []) rfl ⟨rfl, rfl⟩
theorem d3_0 : decode jdk_39_method_1_code 0 = .ok (.aload_n 0, 1) := by decide +kernel
theorem d3_1 : decode jdk_39_method_1_code 1 = .ok (.invokespecial 1, 3) := by decide +kernel
theorem d3_4 : decode jdk_39_method_1_code 4 = .ok (.aload_n 0, 1) := by decide +kernel
theorem d3_5 : decode jdk_39_method_1_code 5 = .ok (.iconst 0, 1) := by decide +kernel
theorem d3_6 : decode jdk_39_method_1_code 6 = .ok (.putfield 7, 3) := by decide +kernel
theorem d3_9 : decode jdk_39_method_1_code 9 = .ok (.return_, 1) := by decide +kernel
theorem pn_abslistA : plainFor (⟨"java/util/AbstractList", "<init>", "()V"⟩ : MethodName) = true := by first | exact plainFor_of_name (by first | (simp [plainName, overriddenIn]; done) | decide +kernel) | exact Jvm.Free.JP.mathPlain rfl (by decide +kernel) | decide +kernel
set_option maxRecDepth 65536 in
set_option maxHeartbeats 40000000 in
theorem c_abslistA {l : Launch} {Z : State} {a0 : Array Value} {EL : List (String × Nat)} (g : GC Z a0 EL) (a : Addr)  : Con l Z EL (⟨"java/util/AbstractList", "<init>", "()V"⟩ : MethodName) jdk_39_method_1_code 1 none { frames := 2, cells := 0, slots := 0, locals := 24 } [(.ref a)] [o_AY a (.int (0 : Int32))] (fun v W' => v = none ∧ W' = [o_AY a (.int (0 : Int32))]) := by
  refine Con.mk g pn_abslistA (Ls := #[.val (.ref a)]) (fun m => by first | (simp [entryFrame, mkF, argsToLocals, Value.category]; done) | rfl) ?_
  intro p e s m below meth c T0 F J0
  refine p_aload_n J0 d3_0 rfl rfl 1 rfl ?_
  refine i_special J0 d3_1 rfl (mt (i := 172) rfl) (mt (i := 77) rfl) (mt (i := 80) rfl) (mt (i := 81) rfl) (by decide) (lenOf pd_0 rfl) (c_abscol g a ) [] [0] 1 (by decide) (lenLe F 1 rfl) rfl 0 (by decide) (by decide) (by decide) (by decide) rfl (by show (0 : Nat) ≤ _; decide) _ rfl 0 0 rfl rfl 4 rfl fun v14 W15 T11 hQ13 J12 => ?_
  obtain ⟨rfl, rfl⟩ := hQ13
  have J16 := J12.norm (W' := o_AY a (.int (0 : Int32)) :: F) rfl
  show Run _ _ _ _ (State.setTop _ (mkF m 4 #[.val (.ref a)] []))
  refine p_aload_n J16 d3_4 rfl rfl 5 rfl ?_
  refine p_iconst J16 d3_5 (z := (0 : Int32)) rfl 6 rfl ?_
  refine i_putX J16 d3_6 (mt (i := 174) rfl) Via.refl 0 rfl kd_AY (ks := ks_AY) rfl (by decide) (Or.inl (mt (i := 175) rfl)) (mt (i := 161) rfl) (ty := .int) (by decide) rfl rfl 9 rfl fun T17 J18 => ?_
  exact r_void J18 d3_9 rfl (by decide) (by decide) (Wf := [o_AY a (.int (0 : Int32))]) rfl ⟨rfl, rfl⟩
theorem pn_abslistS : plainFor (⟨"java/util/AbstractList", "<init>", "()V"⟩ : MethodName) = true := by first | exact plainFor_of_name (by first | (simp [plainName, overriddenIn]; done) | decide +kernel) | exact Jvm.Free.JP.mathPlain rfl (by decide +kernel) | decide +kernel
set_option maxRecDepth 65536 in
set_option maxHeartbeats 40000000 in
theorem c_abslistS {l : Launch} {Z : State} {a0 : Array Value} {EL : List (String × Nat)} (g : GC Z a0 EL) (a : Addr)  : Con l Z EL (⟨"java/util/AbstractList", "<init>", "()V"⟩ : MethodName) jdk_39_method_1_code 1 none { frames := 2, cells := 0, slots := 0, locals := 24 } [(.ref a)] [o_SL a .null] (fun v W' => v = none ∧ W' = [o_SL a .null]) := by
  refine Con.mk g pn_abslistS (Ls := #[.val (.ref a)]) (fun m => by first | (simp [entryFrame, mkF, argsToLocals, Value.category]; done) | rfl) ?_
  intro p e s m below meth c T0 F J0
  refine p_aload_n J0 d3_0 rfl rfl 1 rfl ?_
  refine i_special J0 d3_1 rfl (mt (i := 172) rfl) (mt (i := 77) rfl) (mt (i := 80) rfl) (mt (i := 81) rfl) (by decide) (lenOf pd_0 rfl) (c_abscol g a ) [] [0] 1 (by decide) (lenLe F 1 rfl) rfl 0 (by decide) (by decide) (by decide) (by decide) rfl (by show (0 : Nat) ≤ _; decide) _ rfl 0 0 rfl rfl 4 rfl fun v22 W23 T19 hQ21 J20 => ?_
  obtain ⟨rfl, rfl⟩ := hQ21
  have J24 := J20.norm (W' := o_SL a .null :: F) rfl
  show Run _ _ _ _ (State.setTop _ (mkF m 4 #[.val (.ref a)] []))
  refine p_aload_n J24 d3_4 rfl rfl 5 rfl ?_
  refine p_iconst J24 d3_5 (z := (0 : Int32)) rfl 6 rfl ?_
  refine i_putX J24 d3_6 (mt (i := 174) rfl) Via.refl 0 rfl kd_SL (ks := ks_SL) rfl (by decide) (Or.inl (mt (i := 230) rfl)) (mt (i := 221) rfl) (ty := .int) (by decide) rfl rfl 9 rfl fun T25 J26 => ?_
  exact r_void J26 d3_9 rfl (by decide) (by decide) (Wf := [o_SL a .null]) rfl ⟨rfl, rfl⟩
theorem d4_0 : decode jdk_69_method_7_code 0 = .ok (.aload_n 0, 1) := by decide +kernel
theorem d4_1 : decode jdk_69_method_7_code 1 = .ok (.invokespecial 43, 3) := by decide +kernel
theorem d4_4 : decode jdk_69_method_7_code 4 = .ok (.aload_n 0, 1) := by decide +kernel
theorem d4_5 : decode jdk_69_method_7_code 5 = .ok (.ldc 92, 2) := by decide +kernel
theorem d4_7 : decode jdk_69_method_7_code 7 = .ok (.putfield 81, 3) := by decide +kernel
theorem d4_10 : decode jdk_69_method_7_code 10 = .ok (.return_, 1) := by decide +kernel
theorem pn_hm : plainFor (⟨"java/util/HashMap", "<init>", "()V"⟩ : MethodName) = true := by first | exact plainFor_of_name (by first | (simp [plainName, overriddenIn]; done) | decide +kernel) | exact Jvm.Free.JP.mathPlain rfl (by decide +kernel) | decide +kernel
set_option maxRecDepth 65536 in
set_option maxHeartbeats 40000000 in
theorem c_hm {l : Launch} {Z : State} {a0 : Array Value} {EL : List (String × Nat)} (g : GC Z a0 EL) (a : Addr)  : Con l Z EL (⟨"java/util/HashMap", "<init>", "()V"⟩ : MethodName) jdk_69_method_7_code 1 none { frames := 2, cells := 0, slots := 0, locals := 24 } [(.ref a)] [o_HM a (.int (0 : Int32)) .null] (fun v W' => v = none ∧ W' = [o_HM a (.int (0 : Int32)) .null]) := by
  refine Con.mk g pn_hm (Ls := #[.val (.ref a)]) (fun m => by first | (simp [entryFrame, mkF, argsToLocals, Value.category]; done) | rfl) ?_
  intro p e s m below meth c T0 F J0
  refine p_aload_n J0 d4_0 rfl rfl 1 rfl ?_
  refine i_special J0 d4_1 rfl (mt (i := 48) rfl) (mt (i := 49) rfl) (mt (i := 52) rfl) (mt (i := 53) rfl) (by decide) (lenOf pd_0 rfl) (c_absmap g a ) [] [0] 1 (by decide) (lenLe F 1 rfl) rfl 0 (by decide) (by decide) (by decide) (by decide) rfl (by show (0 : Nat) ≤ _; decide) _ rfl 0 0 rfl rfl 4 rfl fun v30 W31 T27 hQ29 J28 => ?_
  obtain ⟨rfl, rfl⟩ := hQ29
  have J32 := J28.norm (W' := o_HM a (.int (0 : Int32)) .null :: F) rfl
  show Run _ _ _ _ (State.setTop _ (mkF m 4 #[.val (.ref a)] []))
  refine p_aload_n J32 d4_4 rfl rfl 5 rfl ?_
  refine i_ldcF J32 d4_5 (mt (i := 55) rfl) 7 rfl ?_
  refine i_putX J32 d4_7 (mt (i := 56) rfl) Via.refl 0 rfl kd_HM (ks := ks_HM) rfl (by decide) (Or.inr ⟨mt (i := 57) rfl, rfl, rfl⟩) (mt (i := 43) rfl) (ty := .float) (by decide) rfl rfl 10 rfl fun T33 J34 => ?_
  exact r_void J34 d4_10 rfl (by decide) (by decide) (Wf := [o_HM a (.int (0 : Int32)) .null]) rfl ⟨rfl, rfl⟩
theorem d5_0 : decode jdk_93_method_1_code 0 = .ok (.aload_n 0, 1) := by decide +kernel
theorem d5_1 : decode jdk_93_method_1_code 1 = .ok (.invokespecial 1, 3) := by decide +kernel
theorem d5_4 : decode jdk_93_method_1_code 4 = .ok (.aload_n 0, 1) := by decide +kernel
theorem d5_5 : decode jdk_93_method_1_code 5 = .ok (.new 7, 3) := by decide +kernel
theorem d5_8 : decode jdk_93_method_1_code 8 = .ok (.dup, 1) := by decide +kernel
theorem d5_9 : decode jdk_93_method_1_code 9 = .ok (.invokespecial 9, 3) := by decide +kernel
theorem d5_12 : decode jdk_93_method_1_code 12 = .ok (.putfield 10, 3) := by decide +kernel
theorem d5_15 : decode jdk_93_method_1_code 15 = .ok (.return_, 1) := by decide +kernel
theorem pn_hs : plainFor (⟨"java/util/HashSet", "<init>", "()V"⟩ : MethodName) = true := by first | exact plainFor_of_name (by first | (simp [plainName, overriddenIn]; done) | decide +kernel) | exact Jvm.Free.JP.mathPlain rfl (by decide +kernel) | decide +kernel
set_option maxRecDepth 65536 in
set_option maxHeartbeats 40000000 in
theorem c_hs {l : Launch} {Z : State} {a0 : Array Value} {EL : List (String × Nat)} (g : GC Z a0 EL) (a : Addr)  : Con l Z EL (⟨"java/util/HashSet", "<init>", "()V"⟩ : MethodName) jdk_93_method_1_code 1 none { frames := 3, cells := 1, slots := 8, locals := 38 } [(.ref a)] [o_HS a .null] (fun v W' => ∃ (b : Addr), v = none ∧ W' = [o_HS a (.ref b), o_HM b (.int (0 : Int32)) .null]) := by
  refine Con.mk g pn_hs (Ls := #[.val (.ref a)]) (fun m => by first | (simp [entryFrame, mkF, argsToLocals, Value.category]; done) | rfl) ?_
  intro p e s m below meth c T0 F J0
  refine p_aload_n J0 d5_0 rfl rfl 1 rfl ?_
  refine i_special J0 d5_1 rfl (mt (i := 70) rfl) (mt (i := 71) rfl) (mt (i := 74) rfl) (mt (i := 75) rfl) (by decide) (lenOf pd_0 rfl) (c_absset g a ) [] [0] 1 (by decide) (lenLe F 1 rfl) rfl 0 (by decide) (by decide) (by decide) (by decide) rfl (by show (0 : Nat) ≤ _; decide) _ rfl 0 0 rfl rfl 4 rfl fun v38 W39 T35 hQ37 J36 => ?_
  obtain ⟨rfl, rfl⟩ := hQ37
  have J40 := J36.norm (W' := o_HS a .null :: F) rfl
  show Run _ _ _ _ (State.setTop _ (mkF m 4 #[.val (.ref a)] []))
  refine p_aload_n J40 d5_4 rfl rfl 5 rfl ?_
  refine i_new J40 d5_5 (mt (i := 83) rfl) (mt (i := 43) rfl) (mt (i := 44) rfl) (by decide) (by decide) df_HM 1 8 rfl rfl 8 rfl fun a41 T42 J43 => ?_
  refine p_dup J43 d5_8 rfl 9 rfl ?_
  refine i_special J43 d5_9 rfl (mt (i := 84) rfl) (mt (i := 46) rfl) (mt (i := 44) rfl) (mt (i := 47) rfl) (by decide) (lenOf pd_0 rfl) (c_hm g a41 ) [0] [1] 2 (by decide) (lenLe F 2 rfl) rfl 2 (by decide) (by decide) (by decide) (by decide) rfl (by show (2 : Nat) ≤ _; decide) _ rfl 1 8 rfl rfl 12 rfl fun v47 W48 T44 hQ46 J45 => ?_
  obtain ⟨rfl, rfl⟩ := hQ46
  have J49 := J45.norm (W' := o_HM a41 (.int (0 : Int32)) .null :: o_HS a .null :: F) rfl
  show Run _ _ _ _ (State.setTop _ (mkF m 12 #[.val (.ref a)] [(.ref a41), (.ref a)]))
  refine i_put J49 d5_12 (mt (i := 86) rfl) Via.refl 1 0 rfl rfl sd_HS (Or.inl (mt (i := 87) rfl)) (mt (i := 65) rfl) (ty := (.object "java/util/HashMap")) (by decide) rfl rfl 15 rfl (o_HM a41 (.int (0 : Int32)) .null :: o_HS a (.ref a41) :: F) rfl fun T50 J51 => ?_
  have J52 := J51.weak [1, 0] 2 (by decide) (lenLe F 2 rfl) (W' := o_HS a (.ref a41) :: o_HM a41 (.int (0 : Int32)) .null :: F) rfl
  exact r_void J52 d5_15 rfl (by decide) (by decide) (Wf := [o_HS a (.ref a41), o_HM a41 (.int (0 : Int32)) .null]) rfl ⟨a41, rfl, rfl⟩
theorem d6_0 : decode prog_189_method_1_code 0 = .ok (.aload_n 0, 1) := by decide +kernel
theorem d6_1 : decode prog_189_method_1_code 1 = .ok (.invokespecial 1, 3) := by decide +kernel
theorem d6_4 : decode prog_189_method_1_code 4 = .ok (.aload_n 0, 1) := by decide +kernel
theorem d6_5 : decode prog_189_method_1_code 5 = .ok (.new 7, 3) := by decide +kernel
theorem d6_8 : decode prog_189_method_1_code 8 = .ok (.dup, 1) := by decide +kernel
theorem d6_9 : decode prog_189_method_1_code 9 = .ok (.invokespecial 9, 3) := by decide +kernel
theorem d6_12 : decode prog_189_method_1_code 12 = .ok (.putfield 10, 3) := by decide +kernel
theorem d6_15 : decode prog_189_method_1_code 15 = .ok (.return_, 1) := by decide +kernel
theorem pn_pc : plainFor (⟨"com/example/lockstep/lockstep/core/PassCounts", "<init>", "()V"⟩ : MethodName) = true := by first | exact plainFor_of_name (by first | (simp [plainName, overriddenIn]; done) | decide +kernel) | exact Jvm.Free.JP.mathPlain rfl (by decide +kernel) | decide +kernel
set_option maxRecDepth 65536 in
set_option maxHeartbeats 40000000 in
theorem c_pc {l : Launch} {Z : State} {a0 : Array Value} {EL : List (String × Nat)} (g : GC Z a0 EL) (a : Addr)  : Con l Z EL (⟨"com/example/lockstep/lockstep/core/PassCounts", "<init>", "()V"⟩ : MethodName) prog_189_method_1_code 1 none { frames := 3, cells := 1, slots := 8, locals := 38 } [(.ref a)] [o_PC a .null] (fun v W' => ∃ (b : Addr), v = none ∧ W' = [o_PC a (.ref b), o_HM b (.int (0 : Int32)) .null]) := by
  refine Con.mk g pn_pc (Ls := #[.val (.ref a)]) (fun m => by first | (simp [entryFrame, mkF, argsToLocals, Value.category]; done) | rfl) ?_
  intro p e s m below meth c T0 F J0
  refine p_aload_n J0 d6_0 rfl rfl 1 rfl ?_
  refine i_initO J0 d6_1 (mt (i := 41) rfl) (mt (i := 14) rfl) (mt (i := 15) rfl) rfl (by decide) (by show (12 : Nat) ≤ _; decide) 4 rfl fun T53 J54 => ?_
  refine p_aload_n J54 d6_4 rfl rfl 5 rfl ?_
  refine i_new J54 d6_5 (mt (i := 42) rfl) (mt (i := 43) rfl) (mt (i := 44) rfl) (by decide) (by decide) df_HM 1 8 rfl rfl 8 rfl fun a55 T56 J57 => ?_
  refine p_dup J57 d6_8 rfl 9 rfl ?_
  refine i_special J57 d6_9 rfl (mt (i := 45) rfl) (mt (i := 46) rfl) (mt (i := 44) rfl) (mt (i := 47) rfl) (by decide) (lenOf pd_0 rfl) (c_hm g a55 ) [0] [1] 2 (by decide) (lenLe F 2 rfl) rfl 2 (by decide) (by decide) (by decide) (by decide) rfl (by show (2 : Nat) ≤ _; decide) _ rfl 1 8 rfl rfl 12 rfl fun v61 W62 T58 hQ60 J59 => ?_
  obtain ⟨rfl, rfl⟩ := hQ60
  have J63 := J59.norm (W' := o_HM a55 (.int (0 : Int32)) .null :: o_PC a .null :: F) rfl
  show Run _ _ _ _ (State.setTop _ (mkF m 12 #[.val (.ref a)] [(.ref a55), (.ref a)]))
  refine i_put J63 d6_12 (mt (i := 58) rfl) Via.refl 1 0 rfl rfl sd_PC (Or.inr ⟨(mt (i := 59) rfl), rfl, rfl⟩) (mt (i := 36) rfl) (ty := (.object "java/util/Map")) (by decide) rfl rfl 15 rfl (o_HM a55 (.int (0 : Int32)) .null :: o_PC a (.ref a55) :: F) rfl fun T64 J65 => ?_
  have J66 := J65.weak [1, 0] 2 (by decide) (lenLe F 2 rfl) (W' := o_PC a (.ref a55) :: o_HM a55 (.int (0 : Int32)) .null :: F) rfl
  exact r_void J66 d6_15 rfl (by decide) (by decide) (Wf := [o_PC a (.ref a55), o_HM a55 (.int (0 : Int32)) .null]) rfl ⟨a55, rfl, rfl⟩
theorem d7_0 : decode jdk_92_method_1_code 0 = .ok (.iload_n 0, 1) := by decide +kernel
theorem d7_1 : decode jdk_92_method_1_code 1 = .ok (.bipush 6, 2) := by decide +kernel
theorem d7_3 : decode jdk_92_method_1_code 3 = .ok (.ishr, 1) := by decide +kernel
theorem d7_4 : decode jdk_92_method_1_code 4 = .ok (.ireturn, 1) := by decide +kernel
theorem pn_wix : plainFor (⟨"java/util/BitSet", "wordIndex", "(I)I"⟩ : MethodName) = true := by first | exact plainFor_of_name (by first | (simp [plainName, overriddenIn]; done) | decide +kernel) | exact Jvm.Free.JP.mathPlain rfl (by decide +kernel) | decide +kernel
set_option maxRecDepth 65536 in
set_option maxHeartbeats 40000000 in
theorem c_wix {l : Launch} {Z : State} {a0 : Array Value} {EL : List (String × Nat)} (g : GC Z a0 EL)   : Con l Z EL (⟨"java/util/BitSet", "wordIndex", "(I)I"⟩ : MethodName) jdk_92_method_1_code 1 (some .int) { frames := 0, cells := 0, slots := 0, locals := 0 } [(.int (63 : Int32))] [] (fun v W' => v = some (.int (0 : Int32)) ∧ W' = []) := by
  refine Con.mk g pn_wix (Ls := #[.val (.int (63 : Int32))]) (fun m => by first | (simp [entryFrame, mkF, argsToLocals, Value.category]; done) | rfl) ?_
  intro p e s m below meth c T0 F J0
  refine p_iload_n J0 d7_0 rfl 1 rfl ?_
  refine p_bipush J0 d7_1 (z := (6 : Int32)) rfl 3 rfl ?_
  refine p_ishr J0 d7_3 (z := (0 : Int32)) (by decide) 4 rfl ?_
  exact r_val J0 d7_4 (t := .int) rfl rfl (Or.inl ⟨rfl, by simp, _, rfl⟩) (by decide) (by decide) (Wf := []) rfl ⟨rfl, rfl⟩
theorem d8_0 : decode jdk_92_method_6_code 0 = .ok (.aload_n 0, 1) := by decide +kernel
theorem d8_1 : decode jdk_92_method_6_code 1 = .ok (.iload_n 1, 1) := by decide +kernel
theorem d8_2 : decode jdk_92_method_6_code 2 = .ok (.iconst 1, 1) := by decide +kernel
theorem d8_3 : decode jdk_92_method_6_code 3 = .ok (.isub, 1) := by decide +kernel
theorem d8_4 : decode jdk_92_method_6_code 4 = .ok (.invokestatic 52, 3) := by decide +kernel
theorem pd_1 : parseMethodDescriptor "(I)I" = some ⟨[.int], some .int⟩ := by decide +kernel
theorem d8_7 : decode jdk_92_method_6_code 7 = .ok (.iconst 1, 1) := by decide +kernel
theorem d8_8 : decode jdk_92_method_6_code 8 = .ok (.iadd, 1) := by decide +kernel
theorem d8_9 : decode jdk_92_method_6_code 9 = .ok (.newarray .long, 2) := by decide +kernel
theorem d8_11 : decode jdk_92_method_6_code 11 = .ok (.putfield 11, 3) := by decide +kernel
theorem d8_14 : decode jdk_92_method_6_code 14 = .ok (.return_, 1) := by decide +kernel
theorem pn_initWords : plainFor (⟨"java/util/BitSet", "initWords", "(I)V"⟩ : MethodName) = true := by first | exact plainFor_of_name (by first | (simp [plainName, overriddenIn]; done) | decide +kernel) | exact Jvm.Free.JP.mathPlain rfl (by decide +kernel) | decide +kernel
set_option maxRecDepth 65536 in
set_option maxHeartbeats 40000000 in
theorem c_initWords {l : Launch} {Z : State} {a0 : Array Value} {EL : List (String × Nat)} (g : GC Z a0 EL) (a : Addr)  : Con l Z EL (⟨"java/util/BitSet", "initWords", "(I)V"⟩ : MethodName) jdk_92_method_6_code 2 none { frames := 1, cells := 1, slots := 1, locals := 13 } [(.ref a), (.int (64 : Int32))] [o_BS a ] (fun v W' => v = none ∧ W' = [o_BS a ]) := by
  refine Con.mk g pn_initWords (Ls := #[.val (.ref a), .val (.int (64 : Int32))]) (fun m => by first | (simp [entryFrame, mkF, argsToLocals, Value.category]; done) | rfl) ?_
  intro p e s m below meth c T0 F J0
  refine p_aload_n J0 d8_0 rfl rfl 1 rfl ?_
  refine p_iload_n J0 d8_1 rfl 2 rfl ?_
  refine p_iconst J0 d8_2 (z := (1 : Int32)) rfl 3 rfl ?_
  refine p_isub J0 d8_3 (z := (63 : Int32)) (by decide) 4 rfl ?_
  refine i_static J0 d8_4 (mt (i := 25) rfl) (mt (i := 26) rfl) (mt (i := 9) rfl) (mt (i := 27) rfl) (by decide) (lenOf pd_1 rfl) (c_wix g  ) [] [0] 1 (by decide) (lenLe F 1 rfl) rfl 1 (by decide) (by decide) (by decide) (by decide) rfl (by show (1 : Nat) ≤ _; decide) _ rfl 0 0 rfl rfl 7 rfl fun v70 W71 T67 hQ69 J68 => ?_
  obtain ⟨rfl, rfl⟩ := hQ69
  have J72 := J68.norm (W' := o_BS a  :: F) rfl
  show Run _ _ _ _ (State.setTop _ (mkF m 7 #[.val (.ref a), .val (.int (64 : Int32))] [(.int (0 : Int32)), (.ref a)]))
  refine p_iconst J72 d8_7 (z := (1 : Int32)) rfl 8 rfl ?_
  refine p_iadd J72 d8_8 (z := (1 : Int32)) (by decide) 9 rfl ?_
  refine i_newP J72 d8_9 (ty := .long) rfl nofun (mt (i := 28) rfl) (by decide) 1 (by decide) (by decide) (by decide) (by decide) [] (pad_rep [] (.long (0 : Int64)) 0) (dv := (.long (0 : Int64))) rfl 1 1 rfl rfl 11 rfl fun a73 k74 T75 J76 => ?_
  refine i_putX J76 d8_11 (mt (i := 29) rfl) Via.refl 1 rfl kd_BS (ks := ks_BS) rfl (by decide) (Or.inl (mt (i := 30) rfl)) (mt (i := 8) rfl) (ty := (.array .long)) (by decide) rfl rfl 14 rfl fun T77 J78 => ?_
  have J79 := J78.weak [1] 2 (by decide) (lenLe F 2 rfl) (W' := o_BS a  :: F) rfl
  exact r_void J79 d8_14 rfl (by decide) (by decide) (Wf := [o_BS a ]) rfl ⟨rfl, rfl⟩
theorem d9_0 : decode jdk_92_method_4_code 0 = .ok (.aload_n 0, 1) := by decide +kernel
theorem d9_1 : decode jdk_92_method_4_code 1 = .ok (.invokespecial 21, 3) := by decide +kernel
theorem d9_4 : decode jdk_92_method_4_code 4 = .ok (.aload_n 0, 1) := by decide +kernel
theorem d9_5 : decode jdk_92_method_4_code 5 = .ok (.iconst 0, 1) := by decide +kernel
theorem d9_6 : decode jdk_92_method_4_code 6 = .ok (.putfield 7, 3) := by decide +kernel
theorem d9_9 : decode jdk_92_method_4_code 9 = .ok (.aload_n 0, 1) := by decide +kernel
theorem d9_10 : decode jdk_92_method_4_code 10 = .ok (.iconst 0, 1) := by decide +kernel
theorem d9_11 : decode jdk_92_method_4_code 11 = .ok (.putfield 24, 3) := by decide +kernel
theorem d9_14 : decode jdk_92_method_4_code 14 = .ok (.aload_n 0, 1) := by decide +kernel
theorem d9_15 : decode jdk_92_method_4_code 15 = .ok (.bipush 64, 2) := by decide +kernel
theorem d9_17 : decode jdk_92_method_4_code 17 = .ok (.invokevirtual 27, 3) := by decide +kernel
theorem pd_2 : parseMethodDescriptor "(I)V" = some ⟨[.int], none⟩ := by decide +kernel
theorem d9_20 : decode jdk_92_method_4_code 20 = .ok (.aload_n 0, 1) := by decide +kernel
theorem d9_21 : decode jdk_92_method_4_code 21 = .ok (.iconst 0, 1) := by decide +kernel
theorem d9_22 : decode jdk_92_method_4_code 22 = .ok (.putfield 24, 3) := by decide +kernel
theorem d9_25 : decode jdk_92_method_4_code 25 = .ok (.return_, 1) := by decide +kernel
theorem pn_bs : plainFor (⟨"java/util/BitSet", "<init>", "()V"⟩ : MethodName) = true := by first | exact plainFor_of_name (by first | (simp [plainName, overriddenIn]; done) | decide +kernel) | exact Jvm.Free.JP.mathPlain rfl (by decide +kernel) | decide +kernel
set_option maxRecDepth 65536 in
set_option maxHeartbeats 40000000 in
theorem c_bs {l : Launch} {Z : State} {a0 : Array Value} {EL : List (String × Nat)} (g : GC Z a0 EL) (a : Addr)  : Con l Z EL (⟨"java/util/BitSet", "<init>", "()V"⟩ : MethodName) jdk_92_method_4_code 1 none { frames := 2, cells := 1, slots := 1, locals := 26 } [(.ref a)] [o_BS a ] (fun v W' => v = none ∧ W' = []) := by
  refine Con.mk g pn_bs (Ls := #[.val (.ref a)]) (fun m => by first | (simp [entryFrame, mkF, argsToLocals, Value.category]; done) | rfl) ?_
  intro p e s m below meth c T0 F J0
  refine p_aload_n J0 d9_0 rfl rfl 1 rfl ?_
  refine i_initO J0 d9_1 (mt (i := 13) rfl) (mt (i := 14) rfl) (mt (i := 15) rfl) rfl (by decide) (by show (12 : Nat) ≤ _; decide) 4 rfl fun T80 J81 => ?_
  refine p_aload_n J81 d9_4 rfl rfl 5 rfl ?_
  refine p_iconst J81 d9_5 (z := (0 : Int32)) rfl 6 rfl ?_
  refine i_putX J81 d9_6 (mt (i := 16) rfl) Via.refl 0 rfl kd_BS (ks := ks_BS) rfl (by decide) (Or.inl (mt (i := 17) rfl)) (mt (i := 8) rfl) (ty := .int) (by decide) rfl rfl 9 rfl fun T82 J83 => ?_
  refine p_aload_n J83 d9_9 rfl rfl 10 rfl ?_
  refine p_iconst J83 d9_10 (z := (0 : Int32)) rfl 11 rfl ?_
  refine i_putX J83 d9_11 (mt (i := 18) rfl) Via.refl 0 rfl kd_BS (ks := ks_BS) rfl (by decide) (Or.inl (mt (i := 19) rfl)) (mt (i := 8) rfl) (ty := .boolean) (by decide) rfl rfl 14 rfl fun T84 J85 => ?_
  refine p_aload_n J85 d9_14 rfl rfl 15 rfl ?_
  refine p_bipush J85 d9_15 (z := (64 : Int32)) rfl 17 rfl ?_
  refine i_private J85 d9_17 (mt (i := 20) rfl) (mt (i := 22) rfl) (mt (i := 8) rfl) (mt (i := 21) rfl) (mt (i := 9) rfl) (mt (i := 24) rfl) (by decide) (lenOf pd_2 rfl) 0 rfl (c_initWords g a ) [0] [] 1 (by decide) (lenLe F 1 rfl) rfl 0 (by decide) (by decide) (by decide) (by decide) rfl (by show (0 : Nat) ≤ _; decide) _ rfl 1 1 rfl rfl 20 rfl fun v89 W90 T86 hQ88 J87 => ?_
  obtain ⟨rfl, rfl⟩ := hQ88
  have J91 := J87.norm (W' := o_BS a  :: F) rfl
  show Run _ _ _ _ (State.setTop _ (mkF m 20 #[.val (.ref a)] []))
  refine p_aload_n J91 d9_20 rfl rfl 21 rfl ?_
  refine p_iconst J91 d9_21 (z := (0 : Int32)) rfl 22 rfl ?_
  refine i_putX J91 d9_22 (mt (i := 18) rfl) Via.refl 0 rfl kd_BS (ks := ks_BS) rfl (by decide) (Or.inl (mt (i := 19) rfl)) (mt (i := 8) rfl) (ty := .boolean) (by decide) rfl rfl 25 rfl fun T92 J93 => ?_
  have J94 := J93.weak [] 1 (by decide) (lenLe F 1 rfl) (W' := F) rfl
  exact r_void J94 d9_25 rfl (by decide) (by decide) (Wf := []) rfl ⟨rfl, rfl⟩
theorem d10_0 : decode jdk_2581_method_6_code 0 = .ok (.aload_n 0, 1) := by decide +kernel
theorem d10_1 : decode jdk_2581_method_6_code 1 = .ok (.iconst 2, 1) := by decide +kernel
theorem d10_2 : decode jdk_2581_method_6_code 2 = .ok (.iload_n 1, 1) := by decide +kernel
theorem d10_3 : decode jdk_2581_method_6_code 3 = .ok (.imul, 1) := by decide +kernel
theorem d10_4 : decode jdk_2581_method_6_code 4 = .ok (.anewarray 49, 3) := by decide +kernel
theorem d10_7 : decode jdk_2581_method_6_code 7 = .ok (.putfield 51, 3) := by decide +kernel
theorem d10_10 : decode jdk_2581_method_6_code 10 = .ok (.return_, 1) := by decide +kernel
theorem pn_ihinit : plainFor (⟨"java/util/IdentityHashMap", "init", "(I)V"⟩ : MethodName) = true := by first | exact plainFor_of_name (by first | (simp [plainName, overriddenIn]; done) | decide +kernel) | exact Jvm.Free.JP.mathPlain rfl (by decide +kernel) | decide +kernel
set_option maxRecDepth 65536 in
set_option maxHeartbeats 40000000 in
theorem c_ihinit {l : Launch} {Z : State} {a0 : Array Value} {EL : List (String × Nat)} (g : GC Z a0 EL) (a : Addr)  : Con l Z EL (⟨"java/util/IdentityHashMap", "init", "(I)V"⟩ : MethodName) jdk_2581_method_6_code 2 none { frames := 0, cells := 1, slots := 64, locals := 0 } [(.ref a), (.int (32 : Int32))] [o_IH a ] (fun v W' => v = none ∧ W' = []) := by
  refine Con.mk g pn_ihinit (Ls := #[.val (.ref a), .val (.int (32 : Int32))]) (fun m => by first | (simp [entryFrame, mkF, argsToLocals, Value.category]; done) | rfl) ?_
  intro p e s m below meth c T0 F J0
  refine p_aload_n J0 d10_0 rfl rfl 1 rfl ?_
  refine p_iconst J0 d10_1 (z := (2 : Int32)) rfl 2 rfl ?_
  refine p_iload_n J0 d10_2 rfl 3 rfl ?_
  refine p_imul J0 d10_3 (z := (64 : Int32)) (by decide) 4 rfl ?_
  refine i_newR J0 d10_4 (mt (i := 110) rfl) (mt (i := 111) rfl) (by decide) 64 (by decide) (by decide) (by decide) (by decide) [] (pad_rep [] .null 0) 1 64 rfl rfl 7 rfl fun a95 k96 T97 J98 => ?_
  refine i_putX J98 d10_7 (mt (i := 112) rfl) Via.refl 1 rfl kd_IH (ks := ks_IH) rfl (by decide) (Or.inl (mt (i := 113) rfl)) (mt (i := 98) rfl) (ty := (.array (.object "java/lang/Object"))) (by decide) rfl rfl 10 rfl fun T99 J100 => ?_
  have J101 := J100.weak [] 2 (by decide) (lenLe F 2 rfl) (W' := F) rfl
  exact r_void J101 d10_10 rfl (by decide) (by decide) (Wf := []) rfl ⟨rfl, rfl⟩
theorem d11_0 : decode jdk_2581_method_3_code 0 = .ok (.aload_n 0, 1) := by decide +kernel
theorem d11_1 : decode jdk_2581_method_3_code 1 = .ok (.invokespecial 7, 3) := by decide +kernel
theorem d11_4 : decode jdk_2581_method_3_code 4 = .ok (.aload_n 0, 1) := by decide +kernel
theorem d11_5 : decode jdk_2581_method_3_code 5 = .ok (.bipush 32, 2) := by decide +kernel
theorem d11_7 : decode jdk_2581_method_3_code 7 = .ok (.invokevirtual 13, 3) := by decide +kernel
theorem d11_10 : decode jdk_2581_method_3_code 10 = .ok (.return_, 1) := by decide +kernel
theorem pn_ih : plainFor (⟨"java/util/IdentityHashMap", "<init>", "()V"⟩ : MethodName) = true := by first | exact plainFor_of_name (by first | (simp [plainName, overriddenIn]; done) | decide +kernel) | exact Jvm.Free.JP.mathPlain rfl (by decide +kernel) | decide +kernel
set_option maxRecDepth 65536 in
set_option maxHeartbeats 40000000 in
theorem c_ih {l : Launch} {Z : State} {a0 : Array Value} {EL : List (String × Nat)} (g : GC Z a0 EL) (a : Addr)  : Con l Z EL (⟨"java/util/IdentityHashMap", "<init>", "()V"⟩ : MethodName) jdk_2581_method_3_code 1 none { frames := 2, cells := 1, slots := 64, locals := 24 } [(.ref a)] [o_IH a ] (fun v W' => v = none ∧ W' = []) := by
  refine Con.mk g pn_ih (Ls := #[.val (.ref a)]) (fun m => by first | (simp [entryFrame, mkF, argsToLocals, Value.category]; done) | rfl) ?_
  intro p e s m below meth c T0 F J0
  refine p_aload_n J0 d11_0 rfl rfl 1 rfl ?_
  refine i_special J0 d11_1 rfl (mt (i := 103) rfl) (mt (i := 49) rfl) (mt (i := 52) rfl) (mt (i := 53) rfl) (by decide) (lenOf pd_0 rfl) (c_absmap g a ) [] [0] 1 (by decide) (lenLe F 1 rfl) rfl 0 (by decide) (by decide) (by decide) (by decide) rfl (by show (0 : Nat) ≤ _; decide) _ rfl 0 0 rfl rfl 4 rfl fun v105 W106 T102 hQ104 J103 => ?_
  obtain ⟨rfl, rfl⟩ := hQ104
  have J107 := J103.norm (W' := o_IH a  :: F) rfl
  show Run _ _ _ _ (State.setTop _ (mkF m 4 #[.val (.ref a)] []))
  refine p_aload_n J107 d11_4 rfl rfl 5 rfl ?_
  refine p_bipush J107 d11_5 (z := (32 : Int32)) rfl 7 rfl ?_
  refine i_private J107 d11_7 (mt (i := 105) rfl) (mt (i := 107) rfl) (mt (i := 98) rfl) (mt (i := 106) rfl) (mt (i := 99) rfl) (mt (i := 109) rfl) (by decide) (lenOf pd_2 rfl) 0 rfl (c_ihinit g a ) [0] [] 1 (by decide) (lenLe F 1 rfl) rfl 0 (by decide) (by decide) (by decide) (by decide) rfl (by show (0 : Nat) ≤ _; decide) _ rfl 1 64 rfl rfl 10 rfl fun v111 W112 T108 hQ110 J109 => ?_
  obtain ⟨rfl, rfl⟩ := hQ110
  have J113 := J109.norm (W' := F) rfl
  show Run _ _ _ _ (State.setTop _ (mkF m 10 #[.val (.ref a)] []))
  exact r_void J113 d11_10 rfl (by decide) (by decide) (Wf := []) rfl ⟨rfl, rfl⟩
theorem d12_0 : decode jdk_2729_method_1_code 0 = .ok (.aload_n 0, 1) := by decide +kernel
theorem d12_1 : decode jdk_2729_method_1_code 1 = .ok (.invokespecial 1, 3) := by decide +kernel
theorem d12_4 : decode jdk_2729_method_1_code 4 = .ok (.aload_n 0, 1) := by decide +kernel
theorem d12_5 : decode jdk_2729_method_1_code 5 = .ok (.iconst 0, 1) := by decide +kernel
theorem d12_6 : decode jdk_2729_method_1_code 6 = .ok (.putfield 7, 3) := by decide +kernel
theorem d12_9 : decode jdk_2729_method_1_code 9 = .ok (.aload_n 0, 1) := by decide +kernel
theorem d12_10 : decode jdk_2729_method_1_code 10 = .ok (.iconst 0, 1) := by decide +kernel
theorem d12_11 : decode jdk_2729_method_1_code 11 = .ok (.putfield 13, 3) := by decide +kernel
theorem d12_14 : decode jdk_2729_method_1_code 14 = .ok (.aload_n 0, 1) := by decide +kernel
theorem d12_15 : decode jdk_2729_method_1_code 15 = .ok (.aconst_null, 1) := by decide +kernel
theorem d12_16 : decode jdk_2729_method_1_code 16 = .ok (.putfield 16, 3) := by decide +kernel
theorem d12_19 : decode jdk_2729_method_1_code 19 = .ok (.return_, 1) := by decide +kernel
theorem pn_tm : plainFor (⟨"java/util/TreeMap", "<init>", "()V"⟩ : MethodName) = true := by first | exact plainFor_of_name (by first | (simp [plainName, overriddenIn]; done) | decide +kernel) | exact Jvm.Free.JP.mathPlain rfl (by decide +kernel) | decide +kernel
set_option maxRecDepth 65536 in
set_option maxHeartbeats 40000000 in
theorem c_tm {l : Launch} {Z : State} {a0 : Array Value} {EL : List (String × Nat)} (g : GC Z a0 EL) (a : Addr)  : Con l Z EL (⟨"java/util/TreeMap", "<init>", "()V"⟩ : MethodName) jdk_2729_method_1_code 1 none { frames := 2, cells := 0, slots := 0, locals := 24 } [(.ref a)] [o_TM a ] (fun v W' => v = none ∧ W' = []) := by
  refine Con.mk g pn_tm (Ls := #[.val (.ref a)]) (fun m => by first | (simp [entryFrame, mkF, argsToLocals, Value.category]; done) | rfl) ?_
  intro p e s m below meth c T0 F J0
  refine p_aload_n J0 d12_0 rfl rfl 1 rfl ?_
  refine i_special J0 d12_1 rfl (mt (i := 133) rfl) (mt (i := 49) rfl) (mt (i := 52) rfl) (mt (i := 53) rfl) (by decide) (lenOf pd_0 rfl) (c_absmap g a ) [] [0] 1 (by decide) (lenLe F 1 rfl) rfl 0 (by decide) (by decide) (by decide) (by decide) rfl (by show (0 : Nat) ≤ _; decide) _ rfl 0 0 rfl rfl 4 rfl fun v117 W118 T114 hQ116 J115 => ?_
  obtain ⟨rfl, rfl⟩ := hQ116
  have J119 := J115.norm (W' := o_TM a  :: F) rfl
  show Run _ _ _ _ (State.setTop _ (mkF m 4 #[.val (.ref a)] []))
  refine p_aload_n J119 d12_4 rfl rfl 5 rfl ?_
  refine p_iconst J119 d12_5 (z := (0 : Int32)) rfl 6 rfl ?_
  refine i_putX J119 d12_6 (mt (i := 135) rfl) Via.refl 0 rfl kd_TM (ks := ks_TM) rfl (by decide) (Or.inl (mt (i := 136) rfl)) (mt (i := 127) rfl) (ty := .int) (by decide) rfl rfl 9 rfl fun T120 J121 => ?_
  refine p_aload_n J121 d12_9 rfl rfl 10 rfl ?_
  refine p_iconst J121 d12_10 (z := (0 : Int32)) rfl 11 rfl ?_
  refine i_putX J121 d12_11 (mt (i := 137) rfl) Via.refl 0 rfl kd_TM (ks := ks_TM) rfl (by decide) (Or.inl (mt (i := 138) rfl)) (mt (i := 127) rfl) (ty := .int) (by decide) rfl rfl 14 rfl fun T122 J123 => ?_
  refine p_aload_n J123 d12_14 rfl rfl 15 rfl ?_
  refine p_aconst_null J123 d12_15 16 rfl ?_
  refine i_putX J123 d12_16 (mt (i := 139) rfl) Via.refl 0 rfl kd_TM (ks := ks_TM) rfl (by decide) (Or.inr ⟨mt (i := 140) rfl, rfl, rfl⟩) (mt (i := 127) rfl) (ty := (.object "java/util/Comparator")) (by decide) rfl rfl 19 rfl fun T124 J125 => ?_
  have J126 := J125.weak [] 1 (by decide) (lenLe F 1 rfl) (W' := F) rfl
  exact r_void J126 d12_19 rfl (by decide) (by decide) (Wf := []) rfl ⟨rfl, rfl⟩
theorem d13_0 : decode jdk_2756_method_1_code 0 = .ok (.aload_n 0, 1) := by decide +kernel
theorem d13_1 : decode jdk_2756_method_1_code 1 = .ok (.invokespecial 1, 3) := by decide +kernel
theorem d13_4 : decode jdk_2756_method_1_code 4 = .ok (.aload_n 0, 1) := by decide +kernel
theorem d13_5 : decode jdk_2756_method_1_code 5 = .ok (.aload_n 1, 1) := by decide +kernel
theorem d13_6 : decode jdk_2756_method_1_code 6 = .ok (.putfield 7, 3) := by decide +kernel
theorem d13_9 : decode jdk_2756_method_1_code 9 = .ok (.return_, 1) := by decide +kernel
theorem pn_ts1 : plainFor (⟨"java/util/TreeSet", "<init>", "(Ljava/util/NavigableMap;)V"⟩ : MethodName) = true := by first | exact plainFor_of_name (by first | (simp [plainName, overriddenIn]; done) | decide +kernel) | exact Jvm.Free.JP.mathPlain rfl (by decide +kernel) | decide +kernel
set_option maxRecDepth 65536 in
set_option maxHeartbeats 40000000 in
theorem c_ts1 {l : Launch} {Z : State} {a0 : Array Value} {EL : List (String × Nat)} (g : GC Z a0 EL) (a : Addr) (t : Addr)  : Con l Z EL (⟨"java/util/TreeSet", "<init>", "(Ljava/util/NavigableMap;)V"⟩ : MethodName) jdk_2756_method_1_code 2 none { frames := 3, cells := 0, slots := 0, locals := 36 } [(.ref a), (.ref t)] [o_TS a ] (fun v W' => v = none ∧ W' = []) := by
  refine Con.mk g pn_ts1 (Ls := #[.val (.ref a), .val (.ref t)]) (fun m => by first | (simp [entryFrame, mkF, argsToLocals, Value.category]; done) | rfl) ?_
  intro p e s m below meth c T0 F J0
  refine p_aload_n J0 d13_0 rfl rfl 1 rfl ?_
  refine i_special J0 d13_1 rfl (mt (i := 145) rfl) (mt (i := 71) rfl) (mt (i := 74) rfl) (mt (i := 75) rfl) (by decide) (lenOf pd_0 rfl) (c_absset g a ) [] [0] 1 (by decide) (lenLe F 1 rfl) rfl 0 (by decide) (by decide) (by decide) (by decide) rfl (by show (0 : Nat) ≤ _; decide) _ rfl 0 0 rfl rfl 4 rfl fun v130 W131 T127 hQ129 J128 => ?_
  obtain ⟨rfl, rfl⟩ := hQ129
  have J132 := J128.norm (W' := o_TS a  :: F) rfl
  show Run _ _ _ _ (State.setTop _ (mkF m 4 #[.val (.ref a), .val (.ref t)] []))
  refine p_aload_n J132 d13_4 rfl rfl 5 rfl ?_
  refine p_aload_n J132 d13_5 rfl rfl 6 rfl ?_
  refine i_putX J132 d13_6 (mt (i := 148) rfl) Via.refl 0 rfl kd_TS (ks := ks_TS) rfl (by decide) (Or.inl (mt (i := 149) rfl)) (mt (i := 121) rfl) (ty := (.object "java/util/NavigableMap")) (by decide) rfl rfl 9 rfl fun T133 J134 => ?_
  have J135 := J134.weak [] 1 (by decide) (lenLe F 1 rfl) (W' := F) rfl
  exact r_void J135 d13_9 rfl (by decide) (by decide) (Wf := []) rfl ⟨rfl, rfl⟩
theorem d14_0 : decode jdk_2756_method_2_code 0 = .ok (.aload_n 0, 1) := by decide +kernel
theorem d14_1 : decode jdk_2756_method_2_code 1 = .ok (.new 13, 3) := by decide +kernel
theorem d14_4 : decode jdk_2756_method_2_code 4 = .ok (.dup, 1) := by decide +kernel
theorem d14_5 : decode jdk_2756_method_2_code 5 = .ok (.invokespecial 15, 3) := by decide +kernel
theorem d14_8 : decode jdk_2756_method_2_code 8 = .ok (.invokespecial 16, 3) := by decide +kernel
theorem pd_3 : parseMethodDescriptor "(Ljava/util/NavigableMap;)V" = some ⟨[(.object "java/util/NavigableMap")], none⟩ := by decide +kernel
theorem d14_11 : decode jdk_2756_method_2_code 11 = .ok (.return_, 1) := by decide +kernel
theorem pn_ts : plainFor (⟨"java/util/TreeSet", "<init>", "()V"⟩ : MethodName) = true := by first | exact plainFor_of_name (by first | (simp [plainName, overriddenIn]; done) | decide +kernel) | exact Jvm.Free.JP.mathPlain rfl (by decide +kernel) | decide +kernel
set_option maxRecDepth 65536 in
set_option maxHeartbeats 40000000 in
theorem c_ts {l : Launch} {Z : State} {a0 : Array Value} {EL : List (String × Nat)} (g : GC Z a0 EL) (a : Addr)  : Con l Z EL (⟨"java/util/TreeSet", "<init>", "()V"⟩ : MethodName) jdk_2756_method_2_code 1 none { frames := 4, cells := 1, slots := 9, locals := 49 } [(.ref a)] [o_TS a ] (fun v W' => v = none ∧ W' = []) := by
  refine Con.mk g pn_ts (Ls := #[.val (.ref a)]) (fun m => by first | (simp [entryFrame, mkF, argsToLocals, Value.category]; done) | rfl) ?_
  intro p e s m below meth c T0 F J0
  refine p_aload_n J0 d14_0 rfl rfl 1 rfl ?_
  refine i_new J0 d14_1 (mt (i := 126) rfl) (mt (i := 127) rfl) (mt (i := 128) rfl) (by decide) (by decide) df_TM 1 9 rfl rfl 4 rfl fun a136 T137 J138 => ?_
  refine p_dup J138 d14_4 rfl 5 rfl ?_
  refine i_special J138 d14_5 rfl (mt (i := 129) rfl) (mt (i := 130) rfl) (mt (i := 128) rfl) (mt (i := 132) rfl) (by decide) (lenOf pd_0 rfl) (c_tm g a136 ) [0] [1] 2 (by decide) (lenLe F 2 rfl) rfl 2 (by decide) (by decide) (by decide) (by decide) rfl (by show (2 : Nat) ≤ _; decide) _ rfl 1 9 rfl rfl 8 rfl fun v142 W143 T139 hQ141 J140 => ?_
  obtain ⟨rfl, rfl⟩ := hQ141
  have J144 := J140.norm (W' := o_TS a  :: F) rfl
  show Run _ _ _ _ (State.setTop _ (mkF m 8 #[.val (.ref a)] [(.ref a136), (.ref a)]))
  refine i_special J144 d14_8 rfl (mt (i := 141) rfl) (mt (i := 142) rfl) (mt (i := 122) rfl) (mt (i := 144) rfl) (by decide) (lenOf pd_3 rfl) (c_ts1 g a a136 ) [0] [] 1 (by decide) (lenLe F 1 rfl) rfl 0 (by decide) (by decide) (by decide) (by decide) rfl (by show (0 : Nat) ≤ _; decide) _ rfl 1 9 rfl rfl 11 rfl fun v148 W149 T145 hQ147 J146 => ?_
  obtain ⟨rfl, rfl⟩ := hQ147
  have J150 := J146.norm (W' := F) rfl
  show Run _ _ _ _ (State.setTop _ (mkF m 11 #[.val (.ref a)] []))
  exact r_void J150 d14_11 rfl (by decide) (by decide) (Wf := []) rfl ⟨rfl, rfl⟩
theorem d15_0 : decode jdk_38_method_2_code 0 = .ok (.aload_n 0, 1) := by decide +kernel
theorem d15_1 : decode jdk_38_method_2_code 1 = .ok (.invokespecial 1, 3) := by decide +kernel
theorem d15_4 : decode jdk_38_method_2_code 4 = .ok (.aload_n 0, 1) := by decide +kernel
theorem d15_5 : decode jdk_38_method_2_code 5 = .ok (.getstatic 39, 3) := by decide +kernel
theorem d15_8 : decode jdk_38_method_2_code 8 = .ok (.putfield 9, 3) := by decide +kernel
theorem d15_11 : decode jdk_38_method_2_code 11 = .ok (.return_, 1) := by decide +kernel
theorem pn_ay : plainFor (⟨"java/util/ArrayList", "<init>", "()V"⟩ : MethodName) = true := by first | exact plainFor_of_name (by first | (simp [plainName, overriddenIn]; done) | decide +kernel) | exact Jvm.Free.JP.mathPlain rfl (by decide +kernel) | decide +kernel
set_option maxRecDepth 65536 in
set_option maxHeartbeats 40000000 in
theorem c_ay {l : Launch} {Z : State} {a0 : Array Value} {EL : List (String × Nat)} (g : GC Z a0 EL) (a : Addr) (dc : Addr) (hDC : Sta Z Z.heap "java/util/ArrayList" "DEFAULTCAPACITY_EMPTY_ELEMENTDATA" "[Ljava/lang/Object;" (.ref dc)) : Con l Z EL (⟨"java/util/ArrayList", "<init>", "()V"⟩ : MethodName) jdk_38_method_2_code 1 none { frames := 3, cells := 0, slots := 0, locals := 36 } [(.ref a)] [o_AY a (.int (0 : Int32))] (fun v W' => v = none ∧ W' = [o_AY a (.int (0 : Int32))]) := by
  refine Con.mk g pn_ay (Ls := #[.val (.ref a)]) (fun m => by first | (simp [entryFrame, mkF, argsToLocals, Value.category]; done) | rfl) ?_
  intro p e s m below meth c T0 F J0
  refine p_aload_n J0 d15_0 rfl rfl 1 rfl ?_
  refine i_special J0 d15_1 rfl (mt (i := 166) rfl) (mt (i := 167) rfl) (mt (i := 170) rfl) (mt (i := 171) rfl) (by decide) (lenOf pd_0 rfl) (c_abslistA g a ) [0] [] 1 (by decide) (lenLe F 1 rfl) rfl 0 (by decide) (by decide) (by decide) (by decide) rfl (by show (0 : Nat) ≤ _; decide) _ rfl 0 0 rfl rfl 4 rfl fun v154 W155 T151 hQ153 J152 => ?_
  obtain ⟨rfl, rfl⟩ := hQ153
  have J156 := J152.norm (W' := o_AY a (.int (0 : Int32)) :: F) rfl
  show Run _ _ _ _ (State.setTop _ (mkF m 4 #[.val (.ref a)] []))
  refine p_aload_n J156 d15_4 rfl rfl 5 rfl ?_
  refine i_getS J156 d15_5 (mt (i := 176) rfl) Via.refl hDC 8 rfl fun T157 J158 => ?_
  refine i_putX J158 d15_8 (mt (i := 177) rfl) Via.refl 0 rfl kd_AY (ks := ks_AY) rfl (by decide) (Or.inl (mt (i := 178) rfl)) (mt (i := 161) rfl) (ty := (.array (.object "java/lang/Object"))) (by decide) rfl rfl 11 rfl fun T159 J160 => ?_
  exact r_void J160 d15_11 rfl (by decide) (by decide) (Wf := [o_AY a (.int (0 : Int32))]) rfl ⟨rfl, rfl⟩
theorem d16_0 : decode jdk_2487_method_1_code 0 = .ok (.aload_n 0, 1) := by decide +kernel
theorem d16_1 : decode jdk_2487_method_1_code 1 = .ok (.invokespecial 1, 3) := by decide +kernel
theorem d16_4 : decode jdk_2487_method_1_code 4 = .ok (.aload_n 0, 1) := by decide +kernel
theorem d16_5 : decode jdk_2487_method_1_code 5 = .ok (.aload_n 1, 1) := by decide +kernel
theorem d16_6 : decode jdk_2487_method_1_code 6 = .ok (.putfield 7, 3) := by decide +kernel
theorem d16_9 : decode jdk_2487_method_1_code 9 = .ok (.return_, 1) := by decide +kernel
theorem pn_sl : plainFor (⟨"java/util/Collections$SingletonList", "<init>", "(Ljava/lang/Object;)V"⟩ : MethodName) = true := by first | exact plainFor_of_name (by first | (simp [plainName, overriddenIn]; done) | decide +kernel) | exact Jvm.Free.JP.mathPlain rfl (by decide +kernel) | decide +kernel
set_option maxRecDepth 65536 in
set_option maxHeartbeats 40000000 in
theorem c_sl {l : Launch} {Z : State} {a0 : Array Value} {EL : List (String × Nat)} (g : GC Z a0 EL) (a : Addr)  : Con l Z EL (⟨"java/util/Collections$SingletonList", "<init>", "(Ljava/lang/Object;)V"⟩ : MethodName) jdk_2487_method_1_code 2 none { frames := 3, cells := 0, slots := 0, locals := 36 } [(.ref a), .null] [o_SL a .null] (fun v W' => v = none ∧ W' = [o_SL a .null]) := by
  refine Con.mk g pn_sl (Ls := #[.val (.ref a), .val .null]) (fun m => by first | (simp [entryFrame, mkF, argsToLocals, Value.category]; done) | rfl) ?_
  intro p e s m below meth c T0 F J0
  refine p_aload_n J0 d16_0 rfl rfl 1 rfl ?_
  refine i_special J0 d16_1 rfl (mt (i := 227) rfl) (mt (i := 167) rfl) (mt (i := 170) rfl) (mt (i := 171) rfl) (by decide) (lenOf pd_0 rfl) (c_abslistS g a ) [0] [] 1 (by decide) (lenLe F 1 rfl) rfl 0 (by decide) (by decide) (by decide) (by decide) rfl (by show (0 : Nat) ≤ _; decide) _ rfl 0 0 rfl rfl 4 rfl fun v164 W165 T161 hQ163 J162 => ?_
  obtain ⟨rfl, rfl⟩ := hQ163
  have J166 := J162.norm (W' := o_SL a .null :: F) rfl
  show Run _ _ _ _ (State.setTop _ (mkF m 4 #[.val (.ref a), .val .null] []))
  refine p_aload_n J166 d16_4 rfl rfl 5 rfl ?_
  refine p_aload_n J166 d16_5 rfl rfl 6 rfl ?_
  refine i_put J166 d16_6 (mt (i := 231) rfl) Via.refl 0 0 rfl rfl sd_SL (Or.inr ⟨(mt (i := 232) rfl), rfl, rfl⟩) (mt (i := 221) rfl) (ty := (.object "java/lang/Object")) (by decide) rfl rfl 9 rfl (o_SL a .null :: F) rfl fun T167 J168 => ?_
  exact r_void J168 d16_9 rfl (by decide) (by decide) (Wf := [o_SL a .null]) rfl ⟨rfl, rfl⟩
theorem d17_0 : decode jdk_79_method_74_code 0 = .ok (.new 390, 3) := by decide +kernel
theorem d17_3 : decode jdk_79_method_74_code 3 = .ok (.dup, 1) := by decide +kernel
theorem d17_4 : decode jdk_79_method_74_code 4 = .ok (.aload_n 0, 1) := by decide +kernel
theorem d17_5 : decode jdk_79_method_74_code 5 = .ok (.invokespecial 392, 3) := by decide +kernel
theorem pd_4 : parseMethodDescriptor "(Ljava/lang/Object;)V" = some ⟨[(.object "java/lang/Object")], none⟩ := by decide +kernel
theorem d17_8 : decode jdk_79_method_74_code 8 = .ok (.areturn, 1) := by decide +kernel
theorem pn_sgl : plainFor (⟨"java/util/Collections", "singletonList", "(Ljava/lang/Object;)Ljava/util/List;"⟩ : MethodName) = true := by first | exact plainFor_of_name (by first | (simp [plainName, overriddenIn]; done) | decide +kernel) | exact Jvm.Free.JP.mathPlain rfl (by decide +kernel) | decide +kernel
set_option maxRecDepth 65536 in
set_option maxHeartbeats 40000000 in
theorem c_sgl {l : Launch} {Z : State} {a0 : Array Value} {EL : List (String × Nat)} (g : GC Z a0 EL)   : Con l Z EL (⟨"java/util/Collections", "singletonList", "(Ljava/lang/Object;)Ljava/util/List;"⟩ : MethodName) jdk_79_method_74_code 1 (some (.object "java/util/List")) { frames := 4, cells := 1, slots := 2, locals := 50 } [.null] [] (fun v W' => ∃ (b : Addr), v = some (.ref b) ∧ W' = [o_SL b .null]) := by
  refine Con.mk g pn_sgl (Ls := #[.val .null]) (fun m => by first | (simp [entryFrame, mkF, argsToLocals, Value.category]; done) | rfl) ?_
  intro p e s m below meth c T0 F J0
  refine i_new J0 d17_0 (mt (i := 220) rfl) (mt (i := 221) rfl) (mt (i := 222) rfl) (by decide) (by decide) df_SL 1 2 rfl rfl 3 rfl fun a169 T170 J171 => ?_
  refine p_dup J171 d17_3 rfl 4 rfl ?_
  refine p_aload_n J171 d17_4 rfl rfl 5 rfl ?_
  refine i_special J171 d17_5 rfl (mt (i := 223) rfl) (mt (i := 224) rfl) (mt (i := 222) rfl) (mt (i := 226) rfl) (by decide) (lenOf pd_4 rfl) (c_sl g a169 ) [0] [] 1 (by decide) (lenLe F 1 rfl) rfl 1 (by decide) (by decide) (by decide) (by decide) rfl (by show (1 : Nat) ≤ _; decide) _ rfl 1 2 rfl rfl 8 rfl fun v175 W176 T172 hQ174 J173 => ?_
  obtain ⟨rfl, rfl⟩ := hQ174
  have J177 := J173.norm (W' := o_SL a169 .null :: F) rfl
  show Run _ _ _ _ (State.setTop _ (mkF m 8 #[.val .null] [(.ref a169)]))
  exact r_val J177 d17_8 (t := (.object "java/util/List")) rfl rfl (Or.inr (Or.inr (Or.inr (Or.inr ⟨rfl, rfl, rfl⟩)))) (by decide) (by decide) (Wf := [o_SL a169 .null]) rfl ⟨a169, rfl, rfl⟩
theorem d18_0 : decode jdk_2460_method_1_code 0 = .ok (.aload_n 0, 1) := by decide +kernel
theorem d18_1 : decode jdk_2460_method_1_code 1 = .ok (.aload_n 1, 1) := by decide +kernel
theorem d18_2 : decode jdk_2460_method_1_code 2 = .ok (.putfield 1, 3) := by decide +kernel
theorem d18_5 : decode jdk_2460_method_1_code 5 = .ok (.aload_n 0, 1) := by decide +kernel
theorem d18_6 : decode jdk_2460_method_1_code 6 = .ok (.invokespecial 7, 3) := by decide +kernel
theorem d18_9 : decode jdk_2460_method_1_code 9 = .ok (.aload_n 0, 1) := by decide +kernel
theorem d18_10 : decode jdk_2460_method_1_code 10 = .ok (.iconst 1, 1) := by decide +kernel
theorem d18_11 : decode jdk_2460_method_1_code 11 = .ok (.putfield 13, 3) := by decide +kernel
theorem d18_14 : decode jdk_2460_method_1_code 14 = .ok (.return_, 1) := by decide +kernel
theorem pn_c1 : plainFor (⟨"java/util/Collections$1", "<init>", "(Ljava/lang/Object;)V"⟩ : MethodName) = true := by first | exact plainFor_of_name (by first | (simp [plainName, overriddenIn]; done) | decide +kernel) | exact Jvm.Free.JP.mathPlain rfl (by decide +kernel) | decide +kernel
set_option maxRecDepth 65536 in
set_option maxHeartbeats 40000000 in
theorem c_c1 {l : Launch} {Z : State} {a0 : Array Value} {EL : List (String × Nat)} (g : GC Z a0 EL) (a : Addr)  : Con l Z EL (⟨"java/util/Collections$1", "<init>", "(Ljava/lang/Object;)V"⟩ : MethodName) jdk_2460_method_1_code 2 none { frames := 1, cells := 0, slots := 0, locals := 12 } [(.ref a), .null] [o_C1 a .null (.int (0 : Int32))] (fun v W' => v = none ∧ W' = [o_C1 a .null (.int (1 : Int32))]) := by
  refine Con.mk g pn_c1 (Ls := #[.val (.ref a), .val .null]) (fun m => by first | (simp [entryFrame, mkF, argsToLocals, Value.category]; done) | rfl) ?_
  intro p e s m below meth c T0 F J0
  refine p_aload_n J0 d18_0 rfl rfl 1 rfl ?_
  refine p_aload_n J0 d18_1 rfl rfl 2 rfl ?_
  refine i_put J0 d18_2 (mt (i := 266) rfl) Via.refl 0 0 rfl rfl sd_C1 (Or.inr ⟨(mt (i := 267) rfl), rfl, rfl⟩) (mt (i := 260) rfl) (ty := (.object "java/lang/Object")) (by decide) rfl rfl 5 rfl (o_C1 a .null (.int (0 : Int32)) :: F) rfl fun T178 J179 => ?_
  refine p_aload_n J179 d18_5 rfl rfl 6 rfl ?_
  refine i_initO J179 d18_6 (mt (i := 268) rfl) (mt (i := 14) rfl) (mt (i := 15) rfl) rfl (by decide) (by show (12 : Nat) ≤ _; decide) 9 rfl fun T180 J181 => ?_
  refine p_aload_n J181 d18_9 rfl rfl 10 rfl ?_
  refine p_iconst J181 d18_10 (z := (1 : Int32)) rfl 11 rfl ?_
  refine i_put J181 d18_11 (mt (i := 269) rfl) Via.refl 0 1 rfl rfl sd_C1 (Or.inl (mt (i := 270) rfl)) (mt (i := 260) rfl) (ty := .boolean) (by decide) rfl rfl 14 rfl (o_C1 a .null (.int (1 : Int32)) :: F) rfl fun T182 J183 => ?_
  exact r_void J183 d18_14 rfl (by decide) (by decide) (Wf := [o_C1 a .null (.int (1 : Int32))]) rfl ⟨rfl, rfl⟩
theorem d19_0 : decode jdk_79_method_72_code 0 = .ok (.new 384, 3) := by decide +kernel
theorem d19_3 : decode jdk_79_method_72_code 3 = .ok (.dup, 1) := by decide +kernel
theorem d19_4 : decode jdk_79_method_72_code 4 = .ok (.aload_n 0, 1) := by decide +kernel
theorem d19_5 : decode jdk_79_method_72_code 5 = .ok (.invokespecial 386, 3) := by decide +kernel
theorem d19_8 : decode jdk_79_method_72_code 8 = .ok (.areturn, 1) := by decide +kernel
theorem pn_sgi : plainFor (⟨"java/util/Collections", "singletonIterator", "(Ljava/lang/Object;)Ljava/util/Iterator;"⟩ : MethodName) = true := by first | exact plainFor_of_name (by first | (simp [plainName, overriddenIn]; done) | decide +kernel) | exact Jvm.Free.JP.mathPlain rfl (by decide +kernel) | decide +kernel
set_option maxRecDepth 65536 in
set_option maxHeartbeats 40000000 in
theorem c_sgi {l : Launch} {Z : State} {a0 : Array Value} {EL : List (String × Nat)} (g : GC Z a0 EL)   : Con l Z EL (⟨"java/util/Collections", "singletonIterator", "(Ljava/lang/Object;)Ljava/util/Iterator;"⟩ : MethodName) jdk_79_method_72_code 1 (some (.object "java/util/Iterator")) { frames := 2, cells := 1, slots := 2, locals := 26 } [.null] [] (fun v W' => ∃ (b : Addr), v = some (.ref b) ∧ W' = [o_C1 b .null (.int (1 : Int32))]) := by
  refine Con.mk g pn_sgi (Ls := #[.val .null]) (fun m => by first | (simp [entryFrame, mkF, argsToLocals, Value.category]; done) | rfl) ?_
  intro p e s m below meth c T0 F J0
  refine i_new J0 d19_0 (mt (i := 259) rfl) (mt (i := 260) rfl) (mt (i := 261) rfl) (by decide) (by decide) df_C1 1 2 rfl rfl 3 rfl fun a184 T185 J186 => ?_
  refine p_dup J186 d19_3 rfl 4 rfl ?_
  refine p_aload_n J186 d19_4 rfl rfl 5 rfl ?_
  refine i_special J186 d19_5 rfl (mt (i := 262) rfl) (mt (i := 263) rfl) (mt (i := 261) rfl) (mt (i := 265) rfl) (by decide) (lenOf pd_4 rfl) (c_c1 g a184 ) [0] [] 1 (by decide) (lenLe F 1 rfl) rfl 1 (by decide) (by decide) (by decide) (by decide) rfl (by show (1 : Nat) ≤ _; decide) _ rfl 1 2 rfl rfl 8 rfl fun v190 W191 T187 hQ189 J188 => ?_
  obtain ⟨rfl, rfl⟩ := hQ189
  have J192 := J188.norm (W' := o_C1 a184 .null (.int (1 : Int32)) :: F) rfl
  show Run _ _ _ _ (State.setTop _ (mkF m 8 #[.val .null] [(.ref a184)]))
  exact r_val J192 d19_8 (t := (.object "java/util/Iterator")) rfl rfl (Or.inr (Or.inr (Or.inr (Or.inr ⟨rfl, rfl, rfl⟩)))) (by decide) (by decide) (Wf := [o_C1 a184 .null (.int (1 : Int32))]) rfl ⟨a184, rfl, rfl⟩
theorem d20_0 : decode jdk_2487_method_2_code 0 = .ok (.aload_n 0, 1) := by decide +kernel
theorem d20_1 : decode jdk_2487_method_2_code 1 = .ok (.getfield 7, 3) := by decide +kernel
theorem d20_4 : decode jdk_2487_method_2_code 4 = .ok (.invokestatic 13, 3) := by decide +kernel
theorem pd_5 : parseMethodDescriptor "(Ljava/lang/Object;)Ljava/util/Iterator;" = some ⟨[(.object "java/lang/Object")], some (.object "java/util/Iterator")⟩ := by decide +kernel
theorem d20_7 : decode jdk_2487_method_2_code 7 = .ok (.areturn, 1) := by decide +kernel
theorem pn_sliter : plainFor (⟨"java/util/Collections$SingletonList", "iterator", "()Ljava/util/Iterator;"⟩ : MethodName) = true := by first | exact plainFor_of_name (by first | (simp [plainName, overriddenIn]; done) | decide +kernel) | exact Jvm.Free.JP.mathPlain rfl (by decide +kernel) | decide +kernel
set_option maxRecDepth 65536 in
set_option maxHeartbeats 40000000 in
theorem c_sliter {l : Launch} {Z : State} {a0 : Array Value} {EL : List (String × Nat)} (g : GC Z a0 EL) (a : Addr)  : Con l Z EL (⟨"java/util/Collections$SingletonList", "iterator", "()Ljava/util/Iterator;"⟩ : MethodName) jdk_2487_method_2_code 1 (some (.object "java/util/Iterator")) { frames := 3, cells := 1, slots := 2, locals := 38 } [(.ref a)] [o_SL a .null] (fun v W' => ∃ (b : Addr), v = some (.ref b) ∧ W' = [o_SL a .null, o_C1 b .null (.int (1 : Int32))]) := by
  refine Con.mk g pn_sliter (Ls := #[.val (.ref a)]) (fun m => by first | (simp [entryFrame, mkF, argsToLocals, Value.category]; done) | rfl) ?_
  intro p e s m below meth c T0 F J0
  refine p_aload_n J0 d20_0 rfl rfl 1 rfl ?_
  refine i_get J0 d20_1 (mt (i := 231) rfl) Via.refl 0 0 rfl rfl 4 rfl fun T193 J194 => ?_
  refine i_static J194 d20_4 (mt (i := 256) rfl) (mt (i := 257) rfl) (mt (i := 218) rfl) (mt (i := 258) rfl) (by decide) (lenOf pd_5 rfl) (c_sgi g  ) [] [0] 1 (by decide) (lenLe F 1 rfl) rfl 0 (by decide) (by decide) (by decide) (by decide) rfl (by show (0 : Nat) ≤ _; decide) _ rfl 1 2 rfl rfl 7 rfl fun v199 W200 T196 hQ198 J197 => ?_
  obtain ⟨b195, rfl, rfl⟩ := hQ198
  have J201 := J197.norm (W' := o_C1 b195 .null (.int (1 : Int32)) :: o_SL a .null :: F) rfl
  show Run _ _ _ _ (State.setTop _ (mkF m 7 #[.val (.ref a)] [(.ref b195)]))
  have J202 := J201.weak [1, 0] 2 (by decide) (lenLe F 2 rfl) (W' := o_SL a .null :: o_C1 b195 .null (.int (1 : Int32)) :: F) rfl
  exact r_val J202 d20_7 (t := (.object "java/util/Iterator")) rfl rfl (Or.inr (Or.inr (Or.inr (Or.inr ⟨rfl, rfl, rfl⟩)))) (by decide) (by decide) (Wf := [o_SL a .null, o_C1 b195 .null (.int (1 : Int32))]) rfl ⟨b195, rfl, rfl⟩
theorem d21_0 : decode jdk_2487_method_3_code 0 = .ok (.iconst 1, 1) := by decide +kernel
theorem d21_1 : decode jdk_2487_method_3_code 1 = .ok (.ireturn, 1) := by decide +kernel
theorem pn_slsize : plainFor (⟨"java/util/Collections$SingletonList", "size", "()I"⟩ : MethodName) = true := by first | exact plainFor_of_name (by first | (simp [plainName, overriddenIn]; done) | decide +kernel) | exact Jvm.Free.JP.mathPlain rfl (by decide +kernel) | decide +kernel
set_option maxRecDepth 65536 in
set_option maxHeartbeats 40000000 in
theorem c_slsize {l : Launch} {Z : State} {a0 : Array Value} {EL : List (String × Nat)} (g : GC Z a0 EL) (a : Addr)  : Con l Z EL (⟨"java/util/Collections$SingletonList", "size", "()I"⟩ : MethodName) jdk_2487_method_3_code 1 (some .int) { frames := 0, cells := 0, slots := 0, locals := 0 } [(.ref a)] [] (fun v W' => v = some (.int (1 : Int32)) ∧ W' = []) := by
  refine Con.mk g pn_slsize (Ls := #[.val (.ref a)]) (fun m => by first | (simp [entryFrame, mkF, argsToLocals, Value.category]; done) | rfl) ?_
  intro p e s m below meth c T0 F J0
  refine p_iconst J0 d21_0 (z := (1 : Int32)) rfl 1 rfl ?_
  exact r_val J0 d21_1 (t := .int) rfl rfl (Or.inl ⟨rfl, by simp, _, rfl⟩) (by decide) (by decide) (Wf := []) rfl ⟨rfl, rfl⟩
theorem d22_0 : decode jdk_2460_method_2_code 0 = .ok (.aload_n 0, 1) := by decide +kernel
theorem d22_1 : decode jdk_2460_method_2_code 1 = .ok (.getfield 13, 3) := by decide +kernel
theorem d22_4 : decode jdk_2460_method_2_code 4 = .ok (.ireturn, 1) := by decide +kernel
theorem pn_c1has1 : plainFor (⟨"java/util/Collections$1", "hasNext", "()Z"⟩ : MethodName) = true := by first | exact plainFor_of_name (by first | (simp [plainName, overriddenIn]; done) | decide +kernel) | exact Jvm.Free.JP.mathPlain rfl (by decide +kernel) | decide +kernel
set_option maxRecDepth 65536 in
set_option maxHeartbeats 40000000 in
theorem c_c1has1 {l : Launch} {Z : State} {a0 : Array Value} {EL : List (String × Nat)} (g : GC Z a0 EL) (a : Addr)  : Con l Z EL (⟨"java/util/Collections$1", "hasNext", "()Z"⟩ : MethodName) jdk_2460_method_2_code 1 (some .boolean) { frames := 0, cells := 0, slots := 0, locals := 0 } [(.ref a)] [o_C1 a .null (.int (1 : Int32))] (fun v W' => v = some (.int (1 : Int32)) ∧ W' = [o_C1 a .null (.int (1 : Int32))]) := by
  refine Con.mk g pn_c1has1 (Ls := #[.val (.ref a)]) (fun m => by first | (simp [entryFrame, mkF, argsToLocals, Value.category]; done) | rfl) ?_
  intro p e s m below meth c T0 F J0
  refine p_aload_n J0 d22_0 rfl rfl 1 rfl ?_
  refine i_get J0 d22_1 (mt (i := 269) rfl) Via.refl 0 1 rfl rfl 4 rfl fun T203 J204 => ?_
  exact r_val J204 d22_4 (t := .boolean) rfl rfl (Or.inl ⟨rfl, by simp, _, rfl⟩) (by decide) (by decide) (Wf := [o_C1 a .null (.int (1 : Int32))]) rfl ⟨rfl, rfl⟩
theorem pn_c1has0 : plainFor (⟨"java/util/Collections$1", "hasNext", "()Z"⟩ : MethodName) = true := by first | exact plainFor_of_name (by first | (simp [plainName, overriddenIn]; done) | decide +kernel) | exact Jvm.Free.JP.mathPlain rfl (by decide +kernel) | decide +kernel
set_option maxRecDepth 65536 in
set_option maxHeartbeats 40000000 in
theorem c_c1has0 {l : Launch} {Z : State} {a0 : Array Value} {EL : List (String × Nat)} (g : GC Z a0 EL) (a : Addr)  : Con l Z EL (⟨"java/util/Collections$1", "hasNext", "()Z"⟩ : MethodName) jdk_2460_method_2_code 1 (some .boolean) { frames := 0, cells := 0, slots := 0, locals := 0 } [(.ref a)] [o_C1 a .null (.int (0 : Int32))] (fun v W' => v = some (.int (0 : Int32)) ∧ W' = [o_C1 a .null (.int (0 : Int32))]) := by
  refine Con.mk g pn_c1has0 (Ls := #[.val (.ref a)]) (fun m => by first | (simp [entryFrame, mkF, argsToLocals, Value.category]; done) | rfl) ?_
  intro p e s m below meth c T0 F J0
  refine p_aload_n J0 d22_0 rfl rfl 1 rfl ?_
  refine i_get J0 d22_1 (mt (i := 269) rfl) Via.refl 0 1 rfl rfl 4 rfl fun T205 J206 => ?_
  exact r_val J206 d22_4 (t := .boolean) rfl rfl (Or.inl ⟨rfl, by simp, _, rfl⟩) (by decide) (by decide) (Wf := [o_C1 a .null (.int (0 : Int32))]) rfl ⟨rfl, rfl⟩
theorem d23_0 : decode jdk_2460_method_3_code 0 = .ok (.aload_n 0, 1) := by decide +kernel
theorem d23_1 : decode jdk_2460_method_3_code 1 = .ok (.getfield 13, 3) := by decide +kernel
theorem d23_4 : decode jdk_2460_method_3_code 4 = .ok (.ifCond .eq 13, 3) := by decide +kernel
theorem d23_7 : decode jdk_2460_method_3_code 7 = .ok (.aload_n 0, 1) := by decide +kernel
theorem d23_8 : decode jdk_2460_method_3_code 8 = .ok (.iconst 0, 1) := by decide +kernel
theorem d23_9 : decode jdk_2460_method_3_code 9 = .ok (.putfield 13, 3) := by decide +kernel
theorem d23_12 : decode jdk_2460_method_3_code 12 = .ok (.aload_n 0, 1) := by decide +kernel
theorem d23_13 : decode jdk_2460_method_3_code 13 = .ok (.getfield 1, 3) := by decide +kernel
theorem d23_16 : decode jdk_2460_method_3_code 16 = .ok (.areturn, 1) := by decide +kernel
theorem pn_c1next : plainFor (⟨"java/util/Collections$1", "next", "()Ljava/lang/Object;"⟩ : MethodName) = true := by first | exact plainFor_of_name (by first | (simp [plainName, overriddenIn]; done) | decide +kernel) | exact Jvm.Free.JP.mathPlain rfl (by decide +kernel) | decide +kernel
set_option maxRecDepth 65536 in
set_option maxHeartbeats 40000000 in
theorem c_c1next {l : Launch} {Z : State} {a0 : Array Value} {EL : List (String × Nat)} (g : GC Z a0 EL) (a : Addr)  : Con l Z EL (⟨"java/util/Collections$1", "next", "()Ljava/lang/Object;"⟩ : MethodName) jdk_2460_method_3_code 1 (some (.object "java/lang/Object")) { frames := 0, cells := 0, slots := 0, locals := 0 } [(.ref a)] [o_C1 a .null (.int (1 : Int32))] (fun v W' => v = some .null ∧ W' = [o_C1 a .null (.int (0 : Int32))]) := by
  refine Con.mk g pn_c1next (Ls := #[.val (.ref a)]) (fun m => by first | (simp [entryFrame, mkF, argsToLocals, Value.category]; done) | rfl) ?_
  intro p e s m below meth c T0 F J0
  refine p_aload_n J0 d23_0 rfl rfl 1 rfl ?_
  refine i_get J0 d23_1 (mt (i := 269) rfl) Via.refl 0 1 rfl rfl 4 rfl fun T207 J208 => ?_
  refine p_if_n J208 d23_4 (by decide) 7 rfl ?_
  refine p_aload_n J208 d23_7 rfl rfl 8 rfl ?_
  refine p_iconst J208 d23_8 (z := (0 : Int32)) rfl 9 rfl ?_
  refine i_put J208 d23_9 (mt (i := 269) rfl) Via.refl 0 1 rfl rfl sd_C1 (Or.inl (mt (i := 270) rfl)) (mt (i := 260) rfl) (ty := .boolean) (by decide) rfl rfl 12 rfl (o_C1 a .null (.int (0 : Int32)) :: F) rfl fun T209 J210 => ?_
  refine p_aload_n J210 d23_12 rfl rfl 13 rfl ?_
  refine i_get J210 d23_13 (mt (i := 266) rfl) Via.refl 0 0 rfl rfl 16 rfl fun T211 J212 => ?_
  exact r_val J212 d23_16 (t := (.object "java/lang/Object")) rfl rfl (Or.inr (Or.inr (Or.inr (Or.inr ⟨rfl, rfl, rfl⟩)))) (by decide) (by decide) (Wf := [o_C1 a .null (.int (0 : Int32))]) rfl ⟨rfl, rfl⟩
theorem d24_0 : decode jdk_22_method_6_code 0 = .ok (.aload_n 0, 1) := by decide +kernel
theorem d24_1 : decode jdk_22_method_6_code 1 = .ok (.invokevirtual 7, 3) := by decide +kernel
theorem pd_6 : parseMethodDescriptor "()I" = some ⟨[], some .int⟩ := by decide +kernel
theorem d24_4 : decode jdk_22_method_6_code 4 = .ok (.anewarray 2, 3) := by decide +kernel
theorem d24_7 : decode jdk_22_method_6_code 7 = .ok (.astore_n 1, 1) := by decide +kernel
theorem d24_8 : decode jdk_22_method_6_code 8 = .ok (.aload_n 0, 1) := by decide +kernel
theorem d24_9 : decode jdk_22_method_6_code 9 = .ok (.invokevirtual 13, 3) := by decide +kernel
theorem pd_7 : parseMethodDescriptor "()Ljava/util/Iterator;" = some ⟨[], some (.object "java/util/Iterator")⟩ := by decide +kernel
theorem d24_12 : decode jdk_22_method_6_code 12 = .ok (.astore_n 2, 1) := by decide +kernel
theorem d24_13 : decode jdk_22_method_6_code 13 = .ok (.iconst 0, 1) := by decide +kernel
theorem d24_14 : decode jdk_22_method_6_code 14 = .ok (.istore_n 3, 1) := by decide +kernel
theorem d24_15 : decode jdk_22_method_6_code 15 = .ok (.iload_n 3, 1) := by decide +kernel
theorem d24_16 : decode jdk_22_method_6_code 16 = .ok (.aload_n 1, 1) := by decide +kernel
theorem d24_17 : decode jdk_22_method_6_code 17 = .ok (.arraylength, 1) := by decide +kernel
theorem d24_18 : decode jdk_22_method_6_code 18 = .ok (.if_icmp .ge 33, 3) := by decide +kernel
theorem d24_21 : decode jdk_22_method_6_code 21 = .ok (.aload_n 2, 1) := by decide +kernel
theorem d24_22 : decode jdk_22_method_6_code 22 = .ok (.invokeinterface 17 1, 5) := by decide +kernel
theorem pd_8 : parseMethodDescriptor "()Z" = some ⟨[], some .boolean⟩ := by decide +kernel
theorem d24_27 : decode jdk_22_method_6_code 27 = .ok (.ifCond .ne 9, 3) := by decide +kernel
theorem d24_36 : decode jdk_22_method_6_code 36 = .ok (.aload_n 1, 1) := by decide +kernel
theorem d24_37 : decode jdk_22_method_6_code 37 = .ok (.iload_n 3, 1) := by decide +kernel
theorem d24_38 : decode jdk_22_method_6_code 38 = .ok (.aload_n 2, 1) := by decide +kernel
theorem d24_39 : decode jdk_22_method_6_code 39 = .ok (.invokeinterface 23 1, 5) := by decide +kernel
theorem pd_9 : parseMethodDescriptor "()Ljava/lang/Object;" = some ⟨[], some (.object "java/lang/Object")⟩ := by decide +kernel
theorem d24_44 : decode jdk_22_method_6_code 44 = .ok (.aastore, 1) := by decide +kernel
theorem d24_45 : decode jdk_22_method_6_code 45 = .ok (.iinc 3 1, 3) := by decide +kernel
theorem d24_48 : decode jdk_22_method_6_code 48 = .ok (.goto (-33), 3) := by decide +kernel
theorem d24_51 : decode jdk_22_method_6_code 51 = .ok (.aload_n 2, 1) := by decide +kernel
theorem d24_52 : decode jdk_22_method_6_code 52 = .ok (.invokeinterface 17 1, 5) := by decide +kernel
theorem d24_57 : decode jdk_22_method_6_code 57 = .ok (.ifCond .eq 11, 3) := by decide +kernel
theorem d24_68 : decode jdk_22_method_6_code 68 = .ok (.aload_n 1, 1) := by decide +kernel
theorem d24_69 : decode jdk_22_method_6_code 69 = .ok (.areturn, 1) := by decide +kernel
theorem pn_toArray : plainFor (⟨"java/util/AbstractCollection", "toArray", "()[Ljava/lang/Object;"⟩ : MethodName) = true := by first | exact plainFor_of_name (by first | (simp [plainName, overriddenIn]; done) | decide +kernel) | exact Jvm.Free.JP.mathPlain rfl (by decide +kernel) | decide +kernel
set_option maxRecDepth 65536 in
set_option maxHeartbeats 40000000 in
theorem c_toArray {l : Launch} {Z : State} {a0 : Array Value} {EL : List (String × Nat)} (g : GC Z a0 EL) (a : Addr)  : Con l Z EL (⟨"java/util/AbstractCollection", "toArray", "()[Ljava/lang/Object;"⟩ : MethodName) jdk_22_method_6_code 4 (some (.array (.object "java/lang/Object"))) { frames := 4, cells := 2, slots := 3, locals := 50 } [(.ref a)] [o_SL a .null] (fun v W' => ∃ (b : Addr) (k : ClassId), v = some (.ref b) ∧ W' = [o_SL a .null, (b, true, .inr (k, (.object "java/lang/Object"), (1 : Int32), [.null], .null))]) := by
  refine Con.mk g pn_toArray (Ls := #[.val (.ref a), .unset, .unset, .unset]) (fun m => by first | (simp [entryFrame, mkF, argsToLocals, Value.category]; done) | rfl) ?_
  intro p e s m below meth c T0 F J0
  refine p_aload_n J0 d24_0 rfl rfl 1 rfl ?_
  refine i_virtual J0 d24_1 (mt (i := 245) rfl) (mt (i := 246) rfl) (nfCls (mt (i := 239) rfl) rfl) (mt (i := 247) rfl) (mt (i := 248) rfl) (mt (i := 222) rfl) (mt (i := 249) rfl) (by decide) (lenOf pd_6 rfl) 0 rfl (c_slsize g a ) [] [0] 1 (by decide) (lenLe F 1 rfl) rfl 0 (by decide) (by decide) (by decide) (by decide) rfl (by show (0 : Nat) ≤ _; decide) _ rfl 0 0 rfl rfl 4 rfl fun v216 W217 T213 hQ215 J214 => ?_
  obtain ⟨rfl, rfl⟩ := hQ215
  have J218 := J214.norm (W' := o_SL a .null :: F) rfl
  show Run _ _ _ _ (State.setTop _ (mkF m 4 #[.val (.ref a), .unset, .unset, .unset] [(.int (1 : Int32))]))
  refine i_newR J218 d24_4 (mt (i := 250) rfl) (mt (i := 111) rfl) (by decide) 1 (by decide) (by decide) (by decide) (by decide) [.null] (pad_rep [] .null 1) 1 1 rfl rfl 7 rfl fun a219 k220 T221 J222 => ?_
  refine p_astore_n J222 #[.val (.ref a), .val (.ref a219), .unset, .unset] d24_7 rfl rfl 8 rfl ?_
  refine p_aload_n J222 d24_8 rfl rfl 9 rfl ?_
  refine i_virtual J222 d24_9 (mt (i := 251) rfl) (mt (i := 252) rfl) (nfCls (mt (i := 239) rfl) rfl) (mt (i := 253) rfl) (mt (i := 254) rfl) (mt (i := 222) rfl) (mt (i := 255) rfl) (by decide) (lenOf pd_7 rfl) 1 rfl (c_sliter g a ) [1] [0] 2 (by decide) (lenLe F 2 rfl) rfl 0 (by decide) (by decide) (by decide) (by decide) rfl (by show (0 : Nat) ≤ _; decide) _ rfl 2 3 rfl rfl 12 rfl fun v227 W228 T224 hQ226 J225 => ?_
  obtain ⟨b223, rfl, rfl⟩ := hQ226
  have J229 := J225.norm (W' := o_SL a .null :: o_C1 b223 .null (.int (1 : Int32)) :: (a219, true, .inr (k220, (.object "java/lang/Object"), (1 : Int32), [.null], .null)) :: F) rfl
  show Run _ _ _ _ (State.setTop _ (mkF m 12 #[.val (.ref a), .val (.ref a219), .unset, .unset] [(.ref b223)]))
  refine p_astore_n J229 #[.val (.ref a), .val (.ref a219), .val (.ref b223), .unset] d24_12 rfl rfl 13 rfl ?_
  refine p_iconst J229 d24_13 (z := (0 : Int32)) rfl 14 rfl ?_
  refine p_istore_n J229 #[.val (.ref a), .val (.ref a219), .val (.ref b223), .val (.int (0 : Int32))] d24_14 rfl 15 rfl ?_
  refine p_iload_n J229 d24_15 rfl 16 rfl ?_
  refine p_aload_n J229 d24_16 rfl rfl 17 rfl ?_
  refine i_len J229 d24_17 2 rfl 18 rfl ?_
  refine p_icmp_n J229 d24_18 (by decide) 21 rfl ?_
  refine p_aload_n J229 d24_21 rfl rfl 22 rfl ?_
  refine i_iface J229 d24_22 (mt (i := 271) rfl) (mt (i := 272) rfl) (mt (i := 273) rfl) (mt (i := 274) rfl) (mt (i := 275) rfl) (mt (i := 276) rfl) (mt (i := 277) rfl) (mt (i := 278) rfl) (mt (i := 261) rfl) (mt (i := 279) rfl) (by decide) (lenOf pd_8 rfl) 1 rfl (c_c1has1 g b223 ) [1] [0, 2] 3 (by decide) (lenLe F 3 rfl) rfl 0 (by decide) (by decide) (by decide) (by decide) rfl (by show (0 : Nat) ≤ _; decide) _ rfl 2 3 rfl rfl 27 rfl fun v233 W234 T230 hQ232 J231 => ?_
  obtain ⟨rfl, rfl⟩ := hQ232
  have J235 := J231.norm (W' := o_C1 b223 .null (.int (1 : Int32)) :: o_SL a .null :: (a219, true, .inr (k220, (.object "java/lang/Object"), (1 : Int32), [.null], .null)) :: F) rfl
  show Run _ _ _ _ (State.setTop _ (mkF m 27 #[.val (.ref a), .val (.ref a219), .val (.ref b223), .val (.int (0 : Int32))] [(.int (1 : Int32))]))
  refine p_if_y J235 d24_27 (by decide) 36 (by decide) (by decide) ?_
  refine p_aload_n J235 d24_36 rfl rfl 37 rfl ?_
  refine p_iload_n J235 d24_37 rfl 38 rfl ?_
  refine p_aload_n J235 d24_38 rfl rfl 39 rfl ?_
  refine i_iface J235 d24_39 (mt (i := 280) rfl) (mt (i := 281) rfl) (mt (i := 282) rfl) (mt (i := 283) rfl) (mt (i := 284) rfl) (mt (i := 285) rfl) (mt (i := 286) rfl) (mt (i := 278) rfl) (mt (i := 261) rfl) (mt (i := 287) rfl) (by decide) (lenOf pd_9 rfl) 0 rfl (c_c1next g b223 ) [0] [1, 2] 3 (by decide) (lenLe F 3 rfl) rfl 2 (by decide) (by decide) (by decide) (by decide) rfl (by show (2 : Nat) ≤ _; decide) _ rfl 2 3 rfl rfl 44 rfl fun v239 W240 T236 hQ238 J237 => ?_
  obtain ⟨rfl, rfl⟩ := hQ238
  have J241 := J237.norm (W' := o_C1 b223 .null (.int (0 : Int32)) :: o_SL a .null :: (a219, true, .inr (k220, (.object "java/lang/Object"), (1 : Int32), [.null], .null)) :: F) rfl
  show Run _ _ _ _ (State.setTop _ (mkF m 44 #[.val (.ref a), .val (.ref a219), .val (.ref b223), .val (.int (0 : Int32))] [.null, (.int (0 : Int32)), (.ref a219)]))
  refine i_aastoreN J241 d24_44 2 0 rfl (by decide) (by decide) rfl (by show (0 : Nat) < 1; decide) 45 rfl (o_C1 b223 .null (.int (0 : Int32)) :: o_SL a .null :: (a219, true, .inr (k220, (.object "java/lang/Object"), (1 : Int32), [.null], .null)) :: F) rfl fun T242 J243 => ?_
  refine p_iinc J243 #[.val (.ref a), .val (.ref a219), .val (.ref b223), .val (.int (1 : Int32))] d24_45 rfl rfl 48 rfl ?_
  refine p_goto J243 d24_48 15 (by decide) (by decide) ?_
  refine p_iload_n J243 d24_15 rfl 16 rfl ?_
  refine p_aload_n J243 d24_16 rfl rfl 17 rfl ?_
  refine i_len J243 d24_17 2 rfl 18 rfl ?_
  refine p_icmp_y J243 d24_18 (by decide) 51 (by decide) (by decide) ?_
  refine p_aload_n J243 d24_51 rfl rfl 52 rfl ?_
  refine i_iface J243 d24_52 (mt (i := 271) rfl) (mt (i := 272) rfl) (mt (i := 273) rfl) (mt (i := 274) rfl) (mt (i := 275) rfl) (mt (i := 276) rfl) (mt (i := 277) rfl) (mt (i := 278) rfl) (mt (i := 261) rfl) (mt (i := 279) rfl) (by decide) (lenOf pd_8 rfl) 0 rfl (c_c1has0 g b223 ) [0] [1, 2] 3 (by decide) (lenLe F 3 rfl) rfl 0 (by decide) (by decide) (by decide) (by decide) rfl (by show (0 : Nat) ≤ _; decide) _ rfl 2 3 rfl rfl 57 rfl fun v247 W248 T244 hQ246 J245 => ?_
  obtain ⟨rfl, rfl⟩ := hQ246
  have J249 := J245.norm (W' := o_C1 b223 .null (.int (0 : Int32)) :: o_SL a .null :: (a219, true, .inr (k220, (.object "java/lang/Object"), (1 : Int32), [.null], .null)) :: F) rfl
  show Run _ _ _ _ (State.setTop _ (mkF m 57 #[.val (.ref a), .val (.ref a219), .val (.ref b223), .val (.int (1 : Int32))] [(.int (0 : Int32))]))
  refine p_if_y J249 d24_57 (by decide) 68 (by decide) (by decide) ?_
  refine p_aload_n J249 d24_68 rfl rfl 69 rfl ?_
  have J250 := J249.weak [1, 2] 3 (by decide) (lenLe F 3 rfl) (W' := o_SL a .null :: (a219, true, .inr (k220, (.object "java/lang/Object"), (1 : Int32), [.null], .null)) :: F) rfl
  exact r_val J250 d24_69 (t := (.array (.object "java/lang/Object"))) rfl rfl (Or.inr (Or.inr (Or.inr (Or.inr ⟨rfl, rfl, rfl⟩)))) (by decide) (by decide) (Wf := [o_SL a .null, (a219, true, .inr (k220, (.object "java/lang/Object"), (1 : Int32), [.null], .null))]) rfl ⟨a219, k220, rfl, rfl⟩
theorem d25_0 : decode jdk_29_method_69_code 0 = .ok (.iload_n 0, 1) := by decide +kernel
theorem d25_1 : decode jdk_29_method_69_code 1 = .ok (.iload_n 1, 1) := by decide +kernel
theorem d25_2 : decode jdk_29_method_69_code 2 = .ok (.if_icmp .gt 7, 3) := by decide +kernel
theorem d25_5 : decode jdk_29_method_69_code 5 = .ok (.iload_n 0, 1) := by decide +kernel
theorem d25_6 : decode jdk_29_method_69_code 6 = .ok (.goto 4, 3) := by decide +kernel
theorem d25_10 : decode jdk_29_method_69_code 10 = .ok (.ireturn, 1) := by decide +kernel
theorem pn_min11 : plainFor (⟨"java/lang/Math", "min", "(II)I"⟩ : MethodName) = true := by first | exact plainFor_of_name (by first | (simp [plainName, overriddenIn]; done) | decide +kernel) | exact Jvm.Free.JP.mathPlain rfl (by decide +kernel) | decide +kernel
set_option maxRecDepth 65536 in
set_option maxHeartbeats 40000000 in
theorem c_min11 {l : Launch} {Z : State} {a0 : Array Value} {EL : List (String × Nat)} (g : GC Z a0 EL)   : Con l Z EL (⟨"java/lang/Math", "min", "(II)I"⟩ : MethodName) jdk_29_method_69_code 2 (some .int) { frames := 0, cells := 0, slots := 0, locals := 0 } [(.int (1 : Int32)), (.int (1 : Int32))] [] (fun v W' => v = some (.int (1 : Int32)) ∧ W' = []) := by
  refine Con.mk g pn_min11 (Ls := #[.val (.int (1 : Int32)), .val (.int (1 : Int32))]) (fun m => by first | (simp [entryFrame, mkF, argsToLocals, Value.category]; done) | rfl) ?_
  intro p e s m below meth c T0 F J0
  refine p_iload_n J0 d25_0 rfl 1 rfl ?_
  refine p_iload_n J0 d25_1 rfl 2 rfl ?_
  refine p_icmp_n J0 d25_2 (by decide) 5 rfl ?_
  refine p_iload_n J0 d25_5 rfl 6 rfl ?_
  refine p_goto J0 d25_6 10 (by decide) (by decide) ?_
  exact r_val J0 d25_10 (t := .int) rfl rfl (Or.inl ⟨rfl, by simp, _, rfl⟩) (by decide) (by decide) (Wf := []) rfl ⟨rfl, rfl⟩
theorem d26_0 : decode jdk_65_method_120_code 0 = .ok (.aload_n 2, 1) := by decide +kernel
theorem d26_1 : decode jdk_65_method_120_code 1 = .ok (.ldc 110, 2) := by decide +kernel
theorem d26_3 : decode jdk_65_method_120_code 3 = .ok (.if_acmp .ne 10, 3) := by decide +kernel
theorem d26_6 : decode jdk_65_method_120_code 6 = .ok (.iload_n 1, 1) := by decide +kernel
theorem d26_7 : decode jdk_65_method_120_code 7 = .ok (.anewarray 2, 3) := by decide +kernel
theorem d26_10 : decode jdk_65_method_120_code 10 = .ok (.goto 14, 3) := by decide +kernel
theorem d26_24 : decode jdk_65_method_120_code 24 = .ok (.astore_n 3, 1) := by decide +kernel
theorem d26_25 : decode jdk_65_method_120_code 25 = .ok (.aload_n 0, 1) := by decide +kernel
theorem d26_26 : decode jdk_65_method_120_code 26 = .ok (.iconst 0, 1) := by decide +kernel
theorem d26_27 : decode jdk_65_method_120_code 27 = .ok (.aload_n 3, 1) := by decide +kernel
theorem d26_28 : decode jdk_65_method_120_code 28 = .ok (.iconst 0, 1) := by decide +kernel
theorem d26_29 : decode jdk_65_method_120_code 29 = .ok (.aload_n 0, 1) := by decide +kernel
theorem d26_30 : decode jdk_65_method_120_code 30 = .ok (.arraylength, 1) := by decide +kernel
theorem d26_31 : decode jdk_65_method_120_code 31 = .ok (.iload_n 1, 1) := by decide +kernel
theorem d26_32 : decode jdk_65_method_120_code 32 = .ok (.invokestatic 304, 3) := by decide +kernel
theorem pd_10 : parseMethodDescriptor "(II)I" = some ⟨[.int, .int], some .int⟩ := by decide +kernel
theorem d26_35 : decode jdk_65_method_120_code 35 = .ok (.invokestatic 150, 3) := by decide +kernel
theorem d26_38 : decode jdk_65_method_120_code 38 = .ok (.aload_n 3, 1) := by decide +kernel
theorem d26_39 : decode jdk_65_method_120_code 39 = .ok (.areturn, 1) := by decide +kernel
theorem pn_copyOf : plainFor (⟨"java/util/Arrays", "copyOf", "([Ljava/lang/Object;ILjava/lang/Class;)[Ljava/lang/Object;"⟩ : MethodName) = true := by first | exact plainFor_of_name (by first | (simp [plainName, overriddenIn]; done) | decide +kernel) | exact Jvm.Free.JP.mathPlain rfl (by decide +kernel) | decide +kernel
set_option maxRecDepth 65536 in
set_option maxHeartbeats 40000000 in
theorem c_copyOf {l : Launch} {Z : State} {a0 : Array Value} {EL : List (String × Nat)} (g : GC Z a0 EL) (s_ : Addr) (k : ClassId) (mO : Addr) (hO : Mir Z "[Ljava/lang/Object;" mO) : Con l Z EL (⟨"java/util/Arrays", "copyOf", "([Ljava/lang/Object;ILjava/lang/Class;)[Ljava/lang/Object;"⟩ : MethodName) jdk_65_method_120_code 4 (some (.array (.object "java/lang/Object"))) { frames := 1, cells := 1, slots := 1, locals := 18 } [(.ref s_), (.int (1 : Int32)), (.ref mO)] [(s_, true, .inr (k, (.object "java/lang/Object"), (1 : Int32), [.null], .null))] (fun v W' => ∃ (d : Addr), v = some (.ref d) ∧ W' = []) := by
  refine Con.mk g pn_copyOf (Ls := #[.val (.ref s_), .val (.int (1 : Int32)), .val (.ref mO), .unset]) (fun m => by first | (simp [entryFrame, mkF, argsToLocals, Value.category]; done) | rfl) ?_
  intro p e s m below meth c T0 F J0
  refine p_aload_n J0 d26_0 rfl rfl 1 rfl ?_
  refine i_ldcM J0 d26_1 (mt (i := 306) rfl) hO 3 rfl fun T251 J252 => ?_
  refine p_acmp J252 rfl rfl d26_3 (same := true) (decide_eq_true rfl) 6 (by decide) (by decide) ?_
  refine p_iload_n J252 d26_6 rfl 7 rfl ?_
  refine i_newR J252 d26_7 (mt (i := 307) rfl) (mt (i := 111) rfl) (by decide) 1 (by decide) (by decide) (by decide) (by decide) [.null] (pad_rep [] .null 1) 1 1 rfl rfl 10 rfl fun a253 k254 T255 J256 => ?_
  refine p_goto J256 d26_10 24 (by decide) (by decide) ?_
  refine p_astore_n J256 #[.val (.ref s_), .val (.int (1 : Int32)), .val (.ref mO), .val (.ref a253)] d26_24 rfl rfl 25 rfl ?_
  refine p_aload_n J256 d26_25 rfl rfl 26 rfl ?_
  refine p_iconst J256 d26_26 (z := (0 : Int32)) rfl 27 rfl ?_
  refine p_aload_n J256 d26_27 rfl rfl 28 rfl ?_
  refine p_iconst J256 d26_28 (z := (0 : Int32)) rfl 29 rfl ?_
  refine p_aload_n J256 d26_29 rfl rfl 30 rfl ?_
  refine i_len J256 d26_30 1 rfl 31 rfl ?_
  refine p_iload_n J256 d26_31 rfl 32 rfl ?_
  refine i_static J256 d26_32 (mt (i := 308) rfl) (mt (i := 309) rfl) (mt (i := 310) rfl) (mt (i := 311) rfl) (by decide) (lenOf pd_10 rfl) (c_min11 g  ) [] [0, 1] 2 (by decide) (lenLe F 2 rfl) rfl 4 (by decide) (by decide) (by decide) (by decide) rfl (by show (4 : Nat) ≤ _; decide) _ rfl 1 1 rfl rfl 35 rfl fun v260 W261 T257 hQ259 J258 => ?_
  obtain ⟨rfl, rfl⟩ := hQ259
  have J262 := J258.norm (W' := (a253, true, .inr (k254, (.object "java/lang/Object"), (1 : Int32), [.null], .null)) :: (s_, true, .inr (k, (.object "java/lang/Object"), (1 : Int32), [.null], .null)) :: F) rfl
  show Run _ _ _ _ (State.setTop _ (mkF m 35 #[.val (.ref s_), .val (.int (1 : Int32)), .val (.ref mO), .val (.ref a253)] [(.int (1 : Int32)), (.int (0 : Int32)), (.ref a253), (.int (0 : Int32)), (.ref s_)]))
  refine i_copy1 J262 d26_35 (mt (i := 312) rfl) (mt (i := 315) rfl) (mt (i := 313) rfl) (mt (i := 314) rfl) 1 0 rfl rfl (by decide) (by decide) rfl (by decide) (by show (18 : Nat) ≤ _; decide) 38 rfl fun T263 J264 => ?_
  refine p_aload_n J264 d26_38 rfl rfl 39 rfl ?_
  have J265 := J264.weak [] 2 (by decide) (lenLe F 2 rfl) (W' := F) rfl
  exact r_val J265 d26_39 (t := (.array (.object "java/lang/Object"))) rfl rfl (Or.inr (Or.inr (Or.inr (Or.inr ⟨rfl, rfl, rfl⟩)))) (by decide) (by decide) (Wf := []) rfl ⟨a253, rfl, rfl⟩
theorem d27_0 : decode jdk_38_method_3_code 0 = .ok (.aload_n 0, 1) := by decide +kernel
theorem d27_1 : decode jdk_38_method_3_code 1 = .ok (.invokespecial 1, 3) := by decide +kernel
theorem d27_4 : decode jdk_38_method_3_code 4 = .ok (.aload_n 1, 1) := by decide +kernel
theorem d27_5 : decode jdk_38_method_3_code 5 = .ok (.invokeinterface 42 1, 5) := by decide +kernel
theorem pd_11 : parseMethodDescriptor "()[Ljava/lang/Object;" = some ⟨[], some (.array (.object "java/lang/Object"))⟩ := by decide +kernel
theorem d27_10 : decode jdk_38_method_3_code 10 = .ok (.astore_n 2, 1) := by decide +kernel
theorem d27_11 : decode jdk_38_method_3_code 11 = .ok (.aload_n 0, 1) := by decide +kernel
theorem d27_12 : decode jdk_38_method_3_code 12 = .ok (.aload_n 2, 1) := by decide +kernel
theorem d27_13 : decode jdk_38_method_3_code 13 = .ok (.arraylength, 1) := by decide +kernel
theorem d27_14 : decode jdk_38_method_3_code 14 = .ok (.dup_x1, 1) := by decide +kernel
theorem d27_15 : decode jdk_38_method_3_code 15 = .ok (.putfield 48, 3) := by decide +kernel
theorem d27_18 : decode jdk_38_method_3_code 18 = .ok (.ifCond .eq 39, 3) := by decide +kernel
theorem d27_21 : decode jdk_38_method_3_code 21 = .ok (.aload_n 1, 1) := by decide +kernel
theorem d27_22 : decode jdk_38_method_3_code 22 = .ok (.invokeinterface 52 1, 5) := by decide +kernel
theorem d27_27 : decode jdk_38_method_3_code 27 = .ok (.ldc 10, 2) := by decide +kernel
theorem d27_29 : decode jdk_38_method_3_code 29 = .ok (.if_acmp .ne 11, 3) := by decide +kernel
theorem d27_40 : decode jdk_38_method_3_code 40 = .ok (.aload_n 0, 1) := by decide +kernel
theorem d27_41 : decode jdk_38_method_3_code 41 = .ok (.aload_n 2, 1) := by decide +kernel
theorem d27_42 : decode jdk_38_method_3_code 42 = .ok (.aload_n 0, 1) := by decide +kernel
theorem d27_43 : decode jdk_38_method_3_code 43 = .ok (.getfield 48, 3) := by decide +kernel
theorem d27_46 : decode jdk_38_method_3_code 46 = .ok (.ldc 56, 2) := by decide +kernel
theorem d27_48 : decode jdk_38_method_3_code 48 = .ok (.invokestatic 57, 3) := by decide +kernel
theorem pd_12 : parseMethodDescriptor "([Ljava/lang/Object;ILjava/lang/Class;)[Ljava/lang/Object;" = some ⟨[(.array (.object "java/lang/Object")), .int, (.object "java/lang/Class")], some (.array (.object "java/lang/Object"))⟩ := by decide +kernel
theorem d27_51 : decode jdk_38_method_3_code 51 = .ok (.putfield 9, 3) := by decide +kernel
theorem d27_54 : decode jdk_38_method_3_code 54 = .ok (.goto 10, 3) := by decide +kernel
theorem d27_64 : decode jdk_38_method_3_code 64 = .ok (.return_, 1) := by decide +kernel
theorem pn_ayc : plainFor (⟨"java/util/ArrayList", "<init>", "(Ljava/util/Collection;)V"⟩ : MethodName) = true := by first | exact plainFor_of_name (by first | (simp [plainName, overriddenIn]; done) | decide +kernel) | exact Jvm.Free.JP.mathPlain rfl (by decide +kernel) | decide +kernel
set_option maxRecDepth 65536 in
set_option maxHeartbeats 40000000 in
theorem c_ayc {l : Launch} {Z : State} {a0 : Array Value} {EL : List (String × Nat)} (g : GC Z a0 EL) (a : Addr) (s_ : Addr) (mS mA : Addr) (hMS : Mir Z "java/util/Collections$SingletonList" mS) (hMA : Mir Z "java/util/ArrayList" mA) (mO : Addr) (hO : Mir Z "[Ljava/lang/Object;" mO) : Con l Z EL (⟨"java/util/ArrayList", "<init>", "(Ljava/util/Collection;)V"⟩ : MethodName) jdk_38_method_3_code 3 none { frames := 5, cells := 3, slots := 4, locals := 65 } [(.ref a), (.ref s_)] [o_AY a (.int (0 : Int32)), o_SL s_ .null] (fun v W' => v = none ∧ W' = []) := by
  refine Con.mk g pn_ayc (Ls := #[.val (.ref a), .val (.ref s_), .unset]) (fun m => by first | (simp [entryFrame, mkF, argsToLocals, Value.category]; done) | rfl) ?_
  intro p e s m below meth c T0 F J0
  refine p_aload_n J0 d27_0 rfl rfl 1 rfl ?_
  refine i_special J0 d27_1 rfl (mt (i := 166) rfl) (mt (i := 167) rfl) (mt (i := 170) rfl) (mt (i := 171) rfl) (by decide) (lenOf pd_0 rfl) (c_abslistA g a ) [0] [1] 2 (by decide) (lenLe F 2 rfl) rfl 0 (by decide) (by decide) (by decide) (by decide) rfl (by show (0 : Nat) ≤ _; decide) _ rfl 0 0 rfl rfl 4 rfl fun v269 W270 T266 hQ268 J267 => ?_
  obtain ⟨rfl, rfl⟩ := hQ268
  have J271 := J267.norm (W' := o_AY a (.int (0 : Int32)) :: o_SL s_ .null :: F) rfl
  show Run _ _ _ _ (State.setTop _ (mkF m 4 #[.val (.ref a), .val (.ref s_), .unset] []))
  refine p_aload_n J271 d27_4 rfl rfl 5 rfl ?_
  refine i_iface J271 d27_5 (mt (i := 236) rfl) (mt (i := 237) rfl) (mt (i := 238) rfl) (mt (i := 239) rfl) (mt (i := 240) rfl) (mt (i := 241) rfl) (mt (i := 242) rfl) (mt (i := 243) rfl) (mt (i := 80) rfl) (mt (i := 244) rfl) (by decide) (lenOf pd_11 rfl) 1 rfl (c_toArray g s_ ) [1] [0] 2 (by decide) (lenLe F 2 rfl) rfl 0 (by decide) (by decide) (by decide) (by decide) rfl (by show (0 : Nat) ≤ _; decide) _ rfl 2 3 rfl rfl 10 rfl fun v277 W278 T274 hQ276 J275 => ?_
  obtain ⟨b272, k273, rfl, rfl⟩ := hQ276
  have J279 := J275.norm (W' := o_SL s_ .null :: (b272, true, .inr (k273, (.object "java/lang/Object"), (1 : Int32), [.null], .null)) :: o_AY a (.int (0 : Int32)) :: F) rfl
  show Run _ _ _ _ (State.setTop _ (mkF m 10 #[.val (.ref a), .val (.ref s_), .unset] [(.ref b272)]))
  refine p_astore_n J279 #[.val (.ref a), .val (.ref s_), .val (.ref b272)] d27_10 rfl rfl 11 rfl ?_
  refine p_aload_n J279 d27_11 rfl rfl 12 rfl ?_
  refine p_aload_n J279 d27_12 rfl rfl 13 rfl ?_
  refine i_len J279 d27_13 1 rfl 14 rfl ?_
  refine p_dup_x1 J279 d27_14 rfl rfl 15 rfl ?_
  refine i_put J279 d27_15 (mt (i := 288) rfl) Via.refl 2 0 rfl rfl sd_AY (Or.inl (mt (i := 289) rfl)) (mt (i := 161) rfl) (ty := .int) (by decide) rfl rfl 18 rfl (o_SL s_ .null :: (b272, true, .inr (k273, (.object "java/lang/Object"), (1 : Int32), [.null], .null)) :: o_AY a (.int (1 : Int32)) :: F) rfl fun T280 J281 => ?_
  refine p_if_n J281 d27_18 (by decide) 21 rfl ?_
  refine p_aload_n J281 d27_21 rfl rfl 22 rfl ?_
  refine i_getClass J281 d27_22 (mt (i := 290) rfl) (mt (i := 291) rfl) (mt (i := 292) rfl) (mt (i := 293) rfl) (mt (i := 294) rfl) (mt (i := 295) rfl) (mt (i := 296) rfl) (mt (i := 243) rfl) (mt (i := 297) rfl) (by decide) (by decide) rfl rfl hMS 0 rfl rfl (by decide) (by show (14 : Nat) ≤ _; decide) 27 rfl fun T282 J283 => ?_
  refine i_ldcM J283 d27_27 (mt (i := 298) rfl) hMA 29 rfl fun T284 J285 => ?_
  refine p_acmp J285 rfl rfl d27_29 (same := false) (decide_eq_false fun q => Mir.ne hMS hMA (by decide) (Value.ref.inj q)) 40 (by decide) (by decide) ?_
  refine p_aload_n J285 d27_40 rfl rfl 41 rfl ?_
  refine p_aload_n J285 d27_41 rfl rfl 42 rfl ?_
  refine p_aload_n J285 d27_42 rfl rfl 43 rfl ?_
  refine i_get J285 d27_43 (mt (i := 288) rfl) Via.refl 2 0 rfl rfl 46 rfl fun T286 J287 => ?_
  refine i_ldcM J287 d27_46 (mt (i := 300) rfl) hO 48 rfl fun T288 J289 => ?_
  refine i_static J289 d27_48 (mt (i := 302) rfl) (mt (i := 303) rfl) (mt (i := 304) rfl) (mt (i := 305) rfl) (by decide) (lenOf pd_12 rfl) (c_copyOf g b272 k273 mO hO) [1] [0, 2] 3 (by decide) (lenLe F 3 rfl) rfl 1 (by decide) (by decide) (by decide) (by decide) rfl (by show (1 : Nat) ≤ _; decide) _ rfl 3 4 rfl rfl 51 rfl fun v294 W295 T291 hQ293 J292 => ?_
  obtain ⟨d290, rfl, rfl⟩ := hQ293
  have J296 := J292.norm (W' := o_SL s_ .null :: o_AY a (.int (1 : Int32)) :: F) rfl
  show Run _ _ _ _ (State.setTop _ (mkF m 51 #[.val (.ref a), .val (.ref s_), .val (.ref b272)] [(.ref d290), (.ref a)]))
  refine i_putX J296 d27_51 (mt (i := 177) rfl) Via.refl 1 rfl kd_AY (ks := ks_AY) rfl (by decide) (Or.inl (mt (i := 178) rfl)) (mt (i := 161) rfl) (ty := (.array (.object "java/lang/Object"))) (by decide) rfl rfl 54 rfl fun T297 J298 => ?_
  refine p_goto J298 d27_54 64 (by decide) (by decide) ?_
  have J299 := J298.weak [] 2 (by decide) (lenLe F 2 rfl) (W' := F) rfl
  exact r_void J299 d27_64 rfl (by decide) (by decide) (Wf := []) rfl ⟨rfl, rfl⟩
theorem d28_0 : decode prog_248_method_1_code 0 = .ok (.aload_n 0, 1) := by decide +kernel
theorem d28_1 : decode prog_248_method_1_code 1 = .ok (.invokespecial 1, 3) := by decide +kernel
theorem d28_4 : decode prog_248_method_1_code 4 = .ok (.aload_n 0, 1) := by decide +kernel
theorem d28_5 : decode prog_248_method_1_code 5 = .ok (.iconst 1, 1) := by decide +kernel
theorem d28_6 : decode prog_248_method_1_code 6 = .ok (.newarray .int, 2) := by decide +kernel
theorem d28_8 : decode prog_248_method_1_code 8 = .ok (.dup, 1) := by decide +kernel
theorem d28_9 : decode prog_248_method_1_code 9 = .ok (.iconst 0, 1) := by decide +kernel
theorem d28_10 : decode prog_248_method_1_code 10 = .ok (.iconst (-1), 1) := by decide +kernel
theorem d28_11 : decode prog_248_method_1_code 11 = .ok (.iastore, 1) := by decide +kernel
theorem d28_12 : decode prog_248_method_1_code 12 = .ok (.putfield 7, 3) := by decide +kernel
theorem d28_15 : decode prog_248_method_1_code 15 = .ok (.aload_n 0, 1) := by decide +kernel
theorem d28_16 : decode prog_248_method_1_code 16 = .ok (.iconst 1, 1) := by decide +kernel
theorem d28_17 : decode prog_248_method_1_code 17 = .ok (.putfield 13, 3) := by decide +kernel
theorem d28_20 : decode prog_248_method_1_code 20 = .ok (.aload_n 0, 1) := by decide +kernel
theorem d28_21 : decode prog_248_method_1_code 21 = .ok (.bipush 16, 2) := by decide +kernel
theorem d28_23 : decode prog_248_method_1_code 23 = .ok (.newarray .int, 2) := by decide +kernel
theorem d28_25 : decode prog_248_method_1_code 25 = .ok (.putfield 17, 3) := by decide +kernel
theorem d28_28 : decode prog_248_method_1_code 28 = .ok (.aload_n 0, 1) := by decide +kernel
theorem d28_29 : decode prog_248_method_1_code 29 = .ok (.bipush 16, 2) := by decide +kernel
theorem d28_31 : decode prog_248_method_1_code 31 = .ok (.newarray .int, 2) := by decide +kernel
theorem d28_33 : decode prog_248_method_1_code 33 = .ok (.putfield 20, 3) := by decide +kernel
theorem d28_36 : decode prog_248_method_1_code 36 = .ok (.aload_n 0, 1) := by decide +kernel
theorem d28_37 : decode prog_248_method_1_code 37 = .ok (.new 23, 3) := by decide +kernel
theorem d28_40 : decode prog_248_method_1_code 40 = .ok (.dup, 1) := by decide +kernel
theorem d28_41 : decode prog_248_method_1_code 41 = .ok (.invokespecial 25, 3) := by decide +kernel
theorem d28_44 : decode prog_248_method_1_code 44 = .ok (.putfield 26, 3) := by decide +kernel
theorem d28_47 : decode prog_248_method_1_code 47 = .ok (.aload_n 0, 1) := by decide +kernel
theorem d28_48 : decode prog_248_method_1_code 48 = .ok (.new 30, 3) := by decide +kernel
theorem d28_51 : decode prog_248_method_1_code 51 = .ok (.dup, 1) := by decide +kernel
theorem d28_52 : decode prog_248_method_1_code 52 = .ok (.aconst_null, 1) := by decide +kernel
theorem d28_53 : decode prog_248_method_1_code 53 = .ok (.invokestatic 32, 3) := by decide +kernel
theorem pd_13 : parseMethodDescriptor "(Ljava/lang/Object;)Ljava/util/List;" = some ⟨[(.object "java/lang/Object")], some (.object "java/util/List")⟩ := by decide +kernel
theorem d28_56 : decode prog_248_method_1_code 56 = .ok (.invokespecial 38, 3) := by decide +kernel
theorem pd_14 : parseMethodDescriptor "(Ljava/util/Collection;)V" = some ⟨[(.object "java/util/Collection")], none⟩ := by decide +kernel
theorem d28_59 : decode prog_248_method_1_code 59 = .ok (.putfield 41, 3) := by decide +kernel
theorem d28_62 : decode prog_248_method_1_code 62 = .ok (.return_, 1) := by decide +kernel
theorem pn_sg : plainFor (⟨"com/example/lockstep/lockstep/core/StateGraph", "<init>", "()V"⟩ : MethodName) = true := by first | exact plainFor_of_name (by first | (simp [plainName, overriddenIn]; done) | decide +kernel) | exact Jvm.Free.JP.mathPlain rfl (by decide +kernel) | decide +kernel
set_option maxRecDepth 65536 in
set_option maxHeartbeats 40000000 in
theorem c_sg {l : Launch} {Z : State} {a0 : Array Value} {EL : List (String × Nat)} (g : GC Z a0 EL) (a : Addr) (mS mA : Addr) (hMS : Mir Z "java/util/Collections$SingletonList" mS) (hMA : Mir Z "java/util/ArrayList" mA) (mO : Addr) (hO : Mir Z "[Ljava/lang/Object;" mO) : Con l Z EL (⟨"com/example/lockstep/lockstep/core/StateGraph", "<init>", "()V"⟩ : MethodName) prog_248_method_1_code 1 none { frames := 6, cells := 10, slots := 46, locals := 81 } [(.ref a)] [o_SG a ] (fun v W' => v = none ∧ W' = []) := by
  refine Con.mk g pn_sg (Ls := #[.val (.ref a)]) (fun m => by first | (simp [entryFrame, mkF, argsToLocals, Value.category]; done) | rfl) ?_
  intro p e s m below meth c T0 F J0
  refine p_aload_n J0 d28_0 rfl rfl 1 rfl ?_
  refine i_initO J0 d28_1 (mt (i := 201) rfl) (mt (i := 14) rfl) (mt (i := 15) rfl) rfl (by decide) (by show (12 : Nat) ≤ _; decide) 4 rfl fun T300 J301 => ?_
  refine p_aload_n J301 d28_4 rfl rfl 5 rfl ?_
  refine p_iconst J301 d28_5 (z := (1 : Int32)) rfl 6 rfl ?_
  refine i_newP J301 d28_6 (ty := .int) rfl nofun (mt (i := 202) rfl) (by decide) 1 (by decide) (by decide) (by decide) (by decide) [(.int (0 : Int32))] (pad_rep [] (.int (0 : Int32)) 1) (dv := (.int (0 : Int32))) rfl 1 1 rfl rfl 8 rfl fun a302 k303 T304 J305 => ?_
  refine p_dup J305 d28_8 rfl 9 rfl ?_
  refine p_iconst J305 d28_9 (z := (0 : Int32)) rfl 10 rfl ?_
  refine p_iconst J305 d28_10 (z := (-1 : Int32)) rfl 11 rfl ?_
  refine i_iastore J305 d28_11 0 0 rfl (by decide) (by decide) rfl (by show (0 : Nat) < 1; decide) 12 rfl ((a302, true, .inr (k303, .int, (1 : Int32), [(.int (-1 : Int32))], (.int (0 : Int32)))) :: o_SG a  :: F) rfl fun T306 J307 => ?_
  refine i_putX J307 d28_12 (mt (i := 203) rfl) Via.refl 1 rfl kd_SG (ks := ks_SG) rfl (by decide) (Or.inl (mt (i := 204) rfl)) (mt (i := 196) rfl) (ty := (.array .int)) (by decide) rfl rfl 15 rfl fun T308 J309 => ?_
  refine p_aload_n J309 d28_15 rfl rfl 16 rfl ?_
  refine p_iconst J309 d28_16 (z := (1 : Int32)) rfl 17 rfl ?_
  refine i_putX J309 d28_17 (mt (i := 205) rfl) Via.refl 1 rfl kd_SG (ks := ks_SG) rfl (by decide) (Or.inl (mt (i := 206) rfl)) (mt (i := 196) rfl) (ty := .int) (by decide) rfl rfl 20 rfl fun T310 J311 => ?_
  refine p_aload_n J311 d28_20 rfl rfl 21 rfl ?_
  refine p_bipush J311 d28_21 (z := (16 : Int32)) rfl 23 rfl ?_
  refine i_newP J311 d28_23 (ty := .int) rfl nofun (mt (i := 202) rfl) (by decide) 16 (by decide) (by decide) (by decide) (by decide) [] (pad_rep [] (.int (0 : Int32)) 0) (dv := (.int (0 : Int32))) rfl 2 17 rfl rfl 25 rfl fun a312 k313 T314 J315 => ?_
  refine i_putX J315 d28_25 (mt (i := 207) rfl) Via.refl 2 rfl kd_SG (ks := ks_SG) rfl (by decide) (Or.inl (mt (i := 208) rfl)) (mt (i := 196) rfl) (ty := (.array .int)) (by decide) rfl rfl 28 rfl fun T316 J317 => ?_
  refine p_aload_n J317 d28_28 rfl rfl 29 rfl ?_
  refine p_bipush J317 d28_29 (z := (16 : Int32)) rfl 31 rfl ?_
  refine i_newP J317 d28_31 (ty := .int) rfl nofun (mt (i := 202) rfl) (by decide) 16 (by decide) (by decide) (by decide) (by decide) [] (pad_rep [] (.int (0 : Int32)) 0) (dv := (.int (0 : Int32))) rfl 3 33 rfl rfl 33 rfl fun a318 k319 T320 J321 => ?_
  refine i_putX J321 d28_33 (mt (i := 209) rfl) Via.refl 3 rfl kd_SG (ks := ks_SG) rfl (by decide) (Or.inl (mt (i := 210) rfl)) (mt (i := 196) rfl) (ty := (.array .int)) (by decide) rfl rfl 36 rfl fun T322 J323 => ?_
  refine p_aload_n J323 d28_36 rfl rfl 37 rfl ?_
  refine i_new J323 d28_37 (mt (i := 211) rfl) (mt (i := 8) rfl) (mt (i := 9) rfl) (by decide) (by decide) df_BS 4 36 rfl rfl 40 rfl fun a324 T325 J326 => ?_
  refine p_dup J326 d28_40 rfl 41 rfl ?_
  refine i_special J326 d28_41 rfl (mt (i := 212) rfl) (mt (i := 11) rfl) (mt (i := 9) rfl) (mt (i := 12) rfl) (by decide) (lenOf pd_0 rfl) (c_bs g a324 ) [0] [1, 2, 3, 4] 5 (by decide) (lenLe F 5 rfl) rfl 2 (by decide) (by decide) (by decide) (by decide) rfl (by show (2 : Nat) ≤ _; decide) _ rfl 5 37 rfl rfl 44 rfl fun v330 W331 T327 hQ329 J328 => ?_
  obtain ⟨rfl, rfl⟩ := hQ329
  have J332 := J328.norm (W' := (a318, true, .inr (k319, .int, (16 : Int32), [], (.int (0 : Int32)))) :: (a312, true, .inr (k313, .int, (16 : Int32), [], (.int (0 : Int32)))) :: (a302, true, .inr (k303, .int, (1 : Int32), [(.int (-1 : Int32))], (.int (0 : Int32)))) :: o_SG a  :: F) rfl
  show Run _ _ _ _ (State.setTop _ (mkF m 44 #[.val (.ref a)] [(.ref a324), (.ref a)]))
  refine i_putX J332 d28_44 (mt (i := 213) rfl) Via.refl 3 rfl kd_SG (ks := ks_SG) rfl (by decide) (Or.inr ⟨mt (i := 214) rfl, rfl, rfl⟩) (mt (i := 196) rfl) (ty := (.object "java/util/BitSet")) (by decide) rfl rfl 47 rfl fun T333 J334 => ?_
  refine p_aload_n J334 d28_47 rfl rfl 48 rfl ?_
  refine i_new J334 d28_48 (mt (i := 215) rfl) (mt (i := 161) rfl) (mt (i := 162) rfl) (by decide) (by decide) df_AY 6 40 rfl rfl 51 rfl fun a335 T336 J337 => ?_
  refine p_dup J337 d28_51 rfl 52 rfl ?_
  refine p_aconst_null J337 d28_52 53 rfl ?_
  refine i_static J337 d28_53 (mt (i := 216) rfl) (mt (i := 217) rfl) (mt (i := 218) rfl) (mt (i := 219) rfl) (by decide) (lenOf pd_13 rfl) (c_sgl g  ) [] [0, 1, 2, 3, 4] 5 (by decide) (lenLe F 5 rfl) rfl 3 (by decide) (by decide) (by decide) (by decide) rfl (by show (3 : Nat) ≤ _; decide) _ rfl 7 42 rfl rfl 56 rfl fun v342 W343 T339 hQ341 J340 => ?_
  obtain ⟨b338, rfl, rfl⟩ := hQ341
  have J344 := J340.norm (W' := o_SL b338 .null :: o_AY a335 (.int (0 : Int32)) :: (a318, true, .inr (k319, .int, (16 : Int32), [], (.int (0 : Int32)))) :: (a312, true, .inr (k313, .int, (16 : Int32), [], (.int (0 : Int32)))) :: (a302, true, .inr (k303, .int, (1 : Int32), [(.int (-1 : Int32))], (.int (0 : Int32)))) :: o_SG a  :: F) rfl
  show Run _ _ _ _ (State.setTop _ (mkF m 56 #[.val (.ref a)] [(.ref b338), (.ref a335), (.ref a335), (.ref a)]))
  refine i_special J344 d28_56 rfl (mt (i := 233) rfl) (mt (i := 234) rfl) (mt (i := 162) rfl) (mt (i := 235) rfl) (by decide) (lenOf pd_14 rfl) (c_ayc g a335 b338 mS mA hMS hMA mO hO) [1, 0] [2, 3, 4, 5] 6 (by decide) (lenLe F 6 rfl) rfl 2 (by decide) (by decide) (by decide) (by decide) rfl (by show (2 : Nat) ≤ _; decide) _ rfl 10 46 rfl rfl 59 rfl fun v348 W349 T345 hQ347 J346 => ?_
  obtain ⟨rfl, rfl⟩ := hQ347
  have J350 := J346.norm (W' := (a318, true, .inr (k319, .int, (16 : Int32), [], (.int (0 : Int32)))) :: (a312, true, .inr (k313, .int, (16 : Int32), [], (.int (0 : Int32)))) :: (a302, true, .inr (k303, .int, (1 : Int32), [(.int (-1 : Int32))], (.int (0 : Int32)))) :: o_SG a  :: F) rfl
  show Run _ _ _ _ (State.setTop _ (mkF m 59 #[.val (.ref a)] [(.ref a335), (.ref a)]))
  refine i_putX J350 d28_59 (mt (i := 316) rfl) Via.refl 3 rfl kd_SG (ks := ks_SG) rfl (by decide) (Or.inr ⟨mt (i := 317) rfl, rfl, rfl⟩) (mt (i := 196) rfl) (ty := (.object "java/util/List")) (by decide) rfl rfl 62 rfl fun T351 J352 => ?_
  have J353 := J352.weak [] 4 (by decide) (lenLe F 4 rfl) (W' := F) rfl
  exact r_void J353 d28_62 rfl (by decide) (by decide) (Wf := []) rfl ⟨rfl, rfl⟩
theorem d29_0 : decode prog_198_method_1_code 0 = .ok (.aload_n 0, 1) := by decide +kernel
theorem d29_1 : decode prog_198_method_1_code 1 = .ok (.invokespecial 1, 3) := by decide +kernel
theorem d29_4 : decode prog_198_method_1_code 4 = .ok (.aload_n 0, 1) := by decide +kernel
theorem d29_5 : decode prog_198_method_1_code 5 = .ok (.new 7, 3) := by decide +kernel
theorem d29_8 : decode prog_198_method_1_code 8 = .ok (.dup, 1) := by decide +kernel
theorem d29_9 : decode prog_198_method_1_code 9 = .ok (.invokespecial 9, 3) := by decide +kernel
theorem d29_12 : decode prog_198_method_1_code 12 = .ok (.putfield 10, 3) := by decide +kernel
theorem d29_15 : decode prog_198_method_1_code 15 = .ok (.aload_n 0, 1) := by decide +kernel
theorem d29_16 : decode prog_198_method_1_code 16 = .ok (.new 7, 3) := by decide +kernel
theorem d29_19 : decode prog_198_method_1_code 19 = .ok (.dup, 1) := by decide +kernel
theorem d29_20 : decode prog_198_method_1_code 20 = .ok (.invokespecial 9, 3) := by decide +kernel
theorem d29_23 : decode prog_198_method_1_code 23 = .ok (.putfield 16, 3) := by decide +kernel
theorem d29_26 : decode prog_198_method_1_code 26 = .ok (.return_, 1) := by decide +kernel
theorem pn_rl : plainFor (⟨"com/example/lockstep/lockstep/core/RaceLog", "<init>", "()V"⟩ : MethodName) = true := by first | exact plainFor_of_name (by first | (simp [plainName, overriddenIn]; done) | decide +kernel) | exact Jvm.Free.JP.mathPlain rfl (by decide +kernel) | decide +kernel
set_option maxRecDepth 65536 in
set_option maxHeartbeats 40000000 in
theorem c_rl {l : Launch} {Z : State} {a0 : Array Value} {EL : List (String × Nat)} (g : GC Z a0 EL) (a : Addr)  : Con l Z EL (⟨"com/example/lockstep/lockstep/core/RaceLog", "<init>", "()V"⟩ : MethodName) prog_198_method_1_code 1 none { frames := 3, cells := 4, slots := 140, locals := 38 } [(.ref a)] [o_RL a ] (fun v W' => v = none ∧ W' = []) := by
  refine Con.mk g pn_rl (Ls := #[.val (.ref a)]) (fun m => by first | (simp [entryFrame, mkF, argsToLocals, Value.category]; done) | rfl) ?_
  intro p e s m below meth c T0 F J0
  refine p_aload_n J0 d29_0 rfl rfl 1 rfl ?_
  refine i_initO J0 d29_1 (mt (i := 96) rfl) (mt (i := 14) rfl) (mt (i := 15) rfl) rfl (by decide) (by show (12 : Nat) ≤ _; decide) 4 rfl fun T354 J355 => ?_
  refine p_aload_n J355 d29_4 rfl rfl 5 rfl ?_
  refine i_new J355 d29_5 (mt (i := 97) rfl) (mt (i := 98) rfl) (mt (i := 99) rfl) (by decide) (by decide) df_IH 1 6 rfl rfl 8 rfl fun a356 T357 J358 => ?_
  refine p_dup J358 d29_8 rfl 9 rfl ?_
  refine i_special J358 d29_9 rfl (mt (i := 100) rfl) (mt (i := 101) rfl) (mt (i := 99) rfl) (mt (i := 102) rfl) (by decide) (lenOf pd_0 rfl) (c_ih g a356 ) [0] [1] 2 (by decide) (lenLe F 2 rfl) rfl 2 (by decide) (by decide) (by decide) (by decide) rfl (by show (2 : Nat) ≤ _; decide) _ rfl 2 70 rfl rfl 12 rfl fun v362 W363 T359 hQ361 J360 => ?_
  obtain ⟨rfl, rfl⟩ := hQ361
  have J364 := J360.norm (W' := o_RL a  :: F) rfl
  show Run _ _ _ _ (State.setTop _ (mkF m 12 #[.val (.ref a)] [(.ref a356), (.ref a)]))
  refine i_putX J364 d29_12 (mt (i := 114) rfl) Via.refl 0 rfl kd_RL (ks := ks_RL) rfl (by decide) (Or.inr ⟨mt (i := 115) rfl, rfl, rfl⟩) (mt (i := 91) rfl) (ty := (.object "java/util/Map")) (by decide) rfl rfl 15 rfl fun T365 J366 => ?_
  refine p_aload_n J366 d29_15 rfl rfl 16 rfl ?_
  refine i_new J366 d29_16 (mt (i := 97) rfl) (mt (i := 98) rfl) (mt (i := 99) rfl) (by decide) (by decide) df_IH 3 76 rfl rfl 19 rfl fun a367 T368 J369 => ?_
  refine p_dup J369 d29_19 rfl 20 rfl ?_
  refine i_special J369 d29_20 rfl (mt (i := 100) rfl) (mt (i := 101) rfl) (mt (i := 99) rfl) (mt (i := 102) rfl) (by decide) (lenOf pd_0 rfl) (c_ih g a367 ) [0] [1] 2 (by decide) (lenLe F 2 rfl) rfl 2 (by decide) (by decide) (by decide) (by decide) rfl (by show (2 : Nat) ≤ _; decide) _ rfl 4 140 rfl rfl 23 rfl fun v373 W374 T370 hQ372 J371 => ?_
  obtain ⟨rfl, rfl⟩ := hQ372
  have J375 := J371.norm (W' := o_RL a  :: F) rfl
  show Run _ _ _ _ (State.setTop _ (mkF m 23 #[.val (.ref a)] [(.ref a367), (.ref a)]))
  refine i_putX J375 d29_23 (mt (i := 116) rfl) Via.refl 0 rfl kd_RL (ks := ks_RL) rfl (by decide) (Or.inr ⟨mt (i := 117) rfl, rfl, rfl⟩) (mt (i := 91) rfl) (ty := (.object "java/util/Map")) (by decide) rfl rfl 26 rfl fun T376 J377 => ?_
  have J378 := J377.weak [] 1 (by decide) (lenLe F 1 rfl) (W' := F) rfl
  exact r_void J378 d29_26 rfl (by decide) (by decide) (Wf := []) rfl ⟨rfl, rfl⟩
theorem d30_0 : decode prog_206_method_2_code 0 = .ok (.aload_n 0, 1) := by decide +kernel
theorem d30_1 : decode prog_206_method_2_code 1 = .ok (.invokespecial 12, 3) := by decide +kernel
theorem d30_4 : decode prog_206_method_2_code 4 = .ok (.aload_n 0, 1) := by decide +kernel
theorem d30_5 : decode prog_206_method_2_code 5 = .ok (.new 15, 3) := by decide +kernel
theorem d30_8 : decode prog_206_method_2_code 8 = .ok (.dup, 1) := by decide +kernel
theorem d30_9 : decode prog_206_method_2_code 9 = .ok (.invokespecial 17, 3) := by decide +kernel
theorem d30_12 : decode prog_206_method_2_code 12 = .ok (.putfield 18, 3) := by decide +kernel
theorem d30_15 : decode prog_206_method_2_code 15 = .ok (.aload_n 0, 1) := by decide +kernel
theorem d30_16 : decode prog_206_method_2_code 16 = .ok (.new 15, 3) := by decide +kernel
theorem d30_19 : decode prog_206_method_2_code 19 = .ok (.dup, 1) := by decide +kernel
theorem d30_20 : decode prog_206_method_2_code 20 = .ok (.invokespecial 17, 3) := by decide +kernel
theorem d30_23 : decode prog_206_method_2_code 23 = .ok (.putfield 22, 3) := by decide +kernel
theorem d30_26 : decode prog_206_method_2_code 26 = .ok (.aload_n 0, 1) := by decide +kernel
theorem d30_27 : decode prog_206_method_2_code 27 = .ok (.new 25, 3) := by decide +kernel
theorem d30_30 : decode prog_206_method_2_code 30 = .ok (.dup, 1) := by decide +kernel
theorem d30_31 : decode prog_206_method_2_code 31 = .ok (.invokespecial 27, 3) := by decide +kernel
theorem d30_34 : decode prog_206_method_2_code 34 = .ok (.putfield 28, 3) := by decide +kernel
theorem d30_37 : decode prog_206_method_2_code 37 = .ok (.aload_n 0, 1) := by decide +kernel
theorem d30_38 : decode prog_206_method_2_code 38 = .ok (.new 32, 3) := by decide +kernel
theorem d30_41 : decode prog_206_method_2_code 41 = .ok (.dup, 1) := by decide +kernel
theorem d30_42 : decode prog_206_method_2_code 42 = .ok (.invokespecial 34, 3) := by decide +kernel
theorem d30_45 : decode prog_206_method_2_code 45 = .ok (.putfield 35, 3) := by decide +kernel
theorem d30_48 : decode prog_206_method_2_code 48 = .ok (.aload_n 0, 1) := by decide +kernel
theorem d30_49 : decode prog_206_method_2_code 49 = .ok (.new 39, 3) := by decide +kernel
theorem d30_52 : decode prog_206_method_2_code 52 = .ok (.dup, 1) := by decide +kernel
theorem d30_53 : decode prog_206_method_2_code 53 = .ok (.invokespecial 41, 3) := by decide +kernel
theorem d30_56 : decode prog_206_method_2_code 56 = .ok (.putfield 42, 3) := by decide +kernel
theorem d30_59 : decode prog_206_method_2_code 59 = .ok (.aload_n 0, 1) := by decide +kernel
theorem d30_60 : decode prog_206_method_2_code 60 = .ok (.new 39, 3) := by decide +kernel
theorem d30_63 : decode prog_206_method_2_code 63 = .ok (.dup, 1) := by decide +kernel
theorem d30_64 : decode prog_206_method_2_code 64 = .ok (.invokespecial 41, 3) := by decide +kernel
theorem d30_67 : decode prog_206_method_2_code 67 = .ok (.putfield 46, 3) := by decide +kernel
theorem d30_70 : decode prog_206_method_2_code 70 = .ok (.aload_n 0, 1) := by decide +kernel
theorem d30_71 : decode prog_206_method_2_code 71 = .ok (.new 25, 3) := by decide +kernel
theorem d30_74 : decode prog_206_method_2_code 74 = .ok (.dup, 1) := by decide +kernel
theorem d30_75 : decode prog_206_method_2_code 75 = .ok (.invokespecial 27, 3) := by decide +kernel
theorem d30_78 : decode prog_206_method_2_code 78 = .ok (.putfield 49, 3) := by decide +kernel
theorem d30_81 : decode prog_206_method_2_code 81 = .ok (.aload_n 0, 1) := by decide +kernel
theorem d30_82 : decode prog_206_method_2_code 82 = .ok (.new 25, 3) := by decide +kernel
theorem d30_85 : decode prog_206_method_2_code 85 = .ok (.dup, 1) := by decide +kernel
theorem d30_86 : decode prog_206_method_2_code 86 = .ok (.invokespecial 27, 3) := by decide +kernel
theorem d30_89 : decode prog_206_method_2_code 89 = .ok (.putfield 52, 3) := by decide +kernel
theorem d30_92 : decode prog_206_method_2_code 92 = .ok (.aload_n 0, 1) := by decide +kernel
theorem d30_93 : decode prog_206_method_2_code 93 = .ok (.new 25, 3) := by decide +kernel
theorem d30_96 : decode prog_206_method_2_code 96 = .ok (.dup, 1) := by decide +kernel
theorem d30_97 : decode prog_206_method_2_code 97 = .ok (.invokespecial 27, 3) := by decide +kernel
theorem d30_100 : decode prog_206_method_2_code 100 = .ok (.putfield 55, 3) := by decide +kernel
theorem d30_103 : decode prog_206_method_2_code 103 = .ok (.aload_n 0, 1) := by decide +kernel
theorem d30_104 : decode prog_206_method_2_code 104 = .ok (.new 58, 3) := by decide +kernel
theorem d30_107 : decode prog_206_method_2_code 107 = .ok (.dup, 1) := by decide +kernel
theorem d30_108 : decode prog_206_method_2_code 108 = .ok (.invokespecial 60, 3) := by decide +kernel
theorem d30_111 : decode prog_206_method_2_code 111 = .ok (.putfield 61, 3) := by decide +kernel
theorem d30_114 : decode prog_206_method_2_code 114 = .ok (.aload_n 0, 1) := by decide +kernel
theorem d30_115 : decode prog_206_method_2_code 115 = .ok (.new 65, 3) := by decide +kernel
theorem d30_118 : decode prog_206_method_2_code 118 = .ok (.dup, 1) := by decide +kernel
theorem d30_119 : decode prog_206_method_2_code 119 = .ok (.invokespecial 67, 3) := by decide +kernel
theorem d30_122 : decode prog_206_method_2_code 122 = .ok (.putfield 68, 3) := by decide +kernel
theorem d30_125 : decode prog_206_method_2_code 125 = .ok (.aload_n 0, 1) := by decide +kernel
theorem d30_126 : decode prog_206_method_2_code 126 = .ok (.new 72, 3) := by decide +kernel
theorem d30_129 : decode prog_206_method_2_code 129 = .ok (.dup, 1) := by decide +kernel
theorem d30_130 : decode prog_206_method_2_code 130 = .ok (.invokespecial 74, 3) := by decide +kernel
theorem d30_133 : decode prog_206_method_2_code 133 = .ok (.putfield 75, 3) := by decide +kernel
theorem d30_136 : decode prog_206_method_2_code 136 = .ok (.aload_n 0, 1) := by decide +kernel
theorem d30_137 : decode prog_206_method_2_code 137 = .ok (.new 72, 3) := by decide +kernel
theorem d30_140 : decode prog_206_method_2_code 140 = .ok (.dup, 1) := by decide +kernel
theorem d30_141 : decode prog_206_method_2_code 141 = .ok (.invokespecial 74, 3) := by decide +kernel
theorem d30_144 : decode prog_206_method_2_code 144 = .ok (.putfield 78, 3) := by decide +kernel
theorem d30_147 : decode prog_206_method_2_code 147 = .ok (.aload_n 0, 1) := by decide +kernel
theorem d30_148 : decode prog_206_method_2_code 148 = .ok (.new 72, 3) := by decide +kernel
theorem d30_151 : decode prog_206_method_2_code 151 = .ok (.dup, 1) := by decide +kernel
theorem d30_152 : decode prog_206_method_2_code 152 = .ok (.invokespecial 74, 3) := by decide +kernel
theorem d30_155 : decode prog_206_method_2_code 155 = .ok (.putfield 81, 3) := by decide +kernel
theorem d30_158 : decode prog_206_method_2_code 158 = .ok (.aload_n 0, 1) := by decide +kernel
theorem d30_159 : decode prog_206_method_2_code 159 = .ok (.new 25, 3) := by decide +kernel
theorem d30_162 : decode prog_206_method_2_code 162 = .ok (.dup, 1) := by decide +kernel
theorem d30_163 : decode prog_206_method_2_code 163 = .ok (.invokespecial 27, 3) := by decide +kernel
theorem d30_166 : decode prog_206_method_2_code 166 = .ok (.putfield 84, 3) := by decide +kernel
theorem d30_169 : decode prog_206_method_2_code 169 = .ok (.aload_n 0, 1) := by decide +kernel
theorem d30_170 : decode prog_206_method_2_code 170 = .ok (.new 87, 3) := by decide +kernel
theorem d30_173 : decode prog_206_method_2_code 173 = .ok (.dup, 1) := by decide +kernel
theorem d30_174 : decode prog_206_method_2_code 174 = .ok (.invokespecial 89, 3) := by decide +kernel
theorem d30_177 : decode prog_206_method_2_code 177 = .ok (.putfield 90, 3) := by decide +kernel
theorem d30_180 : decode prog_206_method_2_code 180 = .ok (.aload_n 0, 1) := by decide +kernel
theorem d30_181 : decode prog_206_method_2_code 181 = .ok (.iconst 0, 1) := by decide +kernel
theorem d30_182 : decode prog_206_method_2_code 182 = .ok (.putfield 94, 3) := by decide +kernel
theorem d30_185 : decode prog_206_method_2_code 185 = .ok (.aload_n 0, 1) := by decide +kernel
theorem d30_186 : decode prog_206_method_2_code 186 = .ok (.new 58, 3) := by decide +kernel
theorem d30_189 : decode prog_206_method_2_code 189 = .ok (.dup, 1) := by decide +kernel
theorem d30_190 : decode prog_206_method_2_code 190 = .ok (.invokespecial 60, 3) := by decide +kernel
theorem d30_193 : decode prog_206_method_2_code 193 = .ok (.putfield 98, 3) := by decide +kernel
theorem d30_196 : decode prog_206_method_2_code 196 = .ok (.aload_n 0, 1) := by decide +kernel
theorem d30_197 : decode prog_206_method_2_code 197 = .ok (.iconst 1, 1) := by decide +kernel
theorem d30_198 : decode prog_206_method_2_code 198 = .ok (.putfield 101, 3) := by decide +kernel
theorem d30_201 : decode prog_206_method_2_code 201 = .ok (.aload_n 0, 1) := by decide +kernel
theorem d30_202 : decode prog_206_method_2_code 202 = .ok (.new 65, 3) := by decide +kernel
theorem d30_205 : decode prog_206_method_2_code 205 = .ok (.dup, 1) := by decide +kernel
theorem d30_206 : decode prog_206_method_2_code 206 = .ok (.invokespecial 67, 3) := by decide +kernel
theorem d30_209 : decode prog_206_method_2_code 209 = .ok (.putfield 105, 3) := by decide +kernel
theorem d30_212 : decode prog_206_method_2_code 212 = .ok (.aload_n 0, 1) := by decide +kernel
theorem d30_213 : decode prog_206_method_2_code 213 = .ok (.bipush 16, 2) := by decide +kernel
theorem d30_215 : decode prog_206_method_2_code 215 = .ok (.anewarray 108, 3) := by decide +kernel
theorem d30_218 : decode prog_206_method_2_code 218 = .ok (.putfield 110, 3) := by decide +kernel
theorem d30_221 : decode prog_206_method_2_code 221 = .ok (.aload_n 0, 1) := by decide +kernel
theorem d30_222 : decode prog_206_method_2_code 222 = .ok (.iconst (-1), 1) := by decide +kernel
theorem d30_223 : decode prog_206_method_2_code 223 = .ok (.putfield 114, 3) := by decide +kernel
theorem d30_226 : decode prog_206_method_2_code 226 = .ok (.aload_n 0, 1) := by decide +kernel
theorem d30_227 : decode prog_206_method_2_code 227 = .ok (.iconst (-1), 1) := by decide +kernel
theorem d30_228 : decode prog_206_method_2_code 228 = .ok (.putfield 117, 3) := by decide +kernel
theorem d30_231 : decode prog_206_method_2_code 231 = .ok (.aload_n 0, 1) := by decide +kernel
theorem d30_232 : decode prog_206_method_2_code 232 = .ok (.new 58, 3) := by decide +kernel
theorem d30_235 : decode prog_206_method_2_code 235 = .ok (.dup, 1) := by decide +kernel
theorem d30_236 : decode prog_206_method_2_code 236 = .ok (.invokespecial 60, 3) := by decide +kernel
theorem d30_239 : decode prog_206_method_2_code 239 = .ok (.putfield 120, 3) := by decide +kernel
theorem d30_242 : decode prog_206_method_2_code 242 = .ok (.aload_n 0, 1) := by decide +kernel
theorem d30_243 : decode prog_206_method_2_code 243 = .ok (.lload_n 1, 1) := by decide +kernel
theorem d30_244 : decode prog_206_method_2_code 244 = .ok (.putfield 123, 3) := by decide +kernel
theorem d30_247 : decode prog_206_method_2_code 247 = .ok (.aload_n 0, 1) := by decide +kernel
theorem d30_248 : decode prog_206_method_2_code 248 = .ok (.lload_n 3, 1) := by decide +kernel
theorem d30_249 : decode prog_206_method_2_code 249 = .ok (.putfield 127, 3) := by decide +kernel
theorem d30_252 : decode prog_206_method_2_code 252 = .ok (.aload_n 0, 1) := by decide +kernel
theorem d30_253 : decode prog_206_method_2_code 253 = .ok (.iload 5, 2) := by decide +kernel
theorem d30_255 : decode prog_206_method_2_code 255 = .ok (.putfield 130, 3) := by decide +kernel
theorem d30_258 : decode prog_206_method_2_code 258 = .ok (.aload_n 0, 1) := by decide +kernel
theorem d30_259 : decode prog_206_method_2_code 259 = .ok (.aload 6, 2) := by decide +kernel
theorem d30_261 : decode prog_206_method_2_code 261 = .ok (.putfield 133, 3) := by decide +kernel
theorem d30_264 : decode prog_206_method_2_code 264 = .ok (.aload_n 0, 1) := by decide +kernel
theorem d30_265 : decode prog_206_method_2_code 265 = .ok (.iload 7, 2) := by decide +kernel
theorem d30_267 : decode prog_206_method_2_code 267 = .ok (.putfield 137, 3) := by decide +kernel
theorem d30_270 : decode prog_206_method_2_code 270 = .ok (.aload_n 0, 1) := by decide +kernel
theorem d30_271 : decode prog_206_method_2_code 271 = .ok (.iload 8, 2) := by decide +kernel
theorem d30_273 : decode prog_206_method_2_code 273 = .ok (.putfield 140, 3) := by decide +kernel
theorem d30_276 : decode prog_206_method_2_code 276 = .ok (.aload_n 0, 1) := by decide +kernel
theorem d30_277 : decode prog_206_method_2_code 277 = .ok (.iload 9, 2) := by decide +kernel
theorem d30_279 : decode prog_206_method_2_code 279 = .ok (.putfield 143, 3) := by decide +kernel
theorem d30_282 : decode prog_206_method_2_code 282 = .ok (.return_, 1) := by decide +kernel
theorem pn_search2 : plainFor (⟨"com/example/lockstep/lockstep/core/Search", "<init>", "(JJILjava/util/BitSet;ZZZ)V"⟩ : MethodName) = true := by first | exact plainFor_of_name (by first | (simp [plainName, overriddenIn]; done) | decide +kernel) | exact Jvm.Free.JP.mathPlain rfl (by decide +kernel) | decide +kernel
set_option maxRecDepth 65536 in
set_option maxHeartbeats 40000000 in
theorem c_search2 {l : Launch} {Z : State} {a0 : Array Value} {EL : List (String × Nat)} (g : GC Z a0 EL) (a : Addr) (bs : Addr) (dc : Addr) (hDC : Sta Z Z.heap "java/util/ArrayList" "DEFAULTCAPACITY_EMPTY_ELEMENTDATA" "[Ljava/lang/Object;" (.ref dc)) (mS mA : Addr) (hMS : Mir Z "java/util/Collections$SingletonList" mS) (hMA : Mir Z "java/util/ArrayList" mA) (mO : Addr) (hO : Mir Z "[Ljava/lang/Object;" mO) : Con l Z EL (⟨"com/example/lockstep/lockstep/core/Search", "<init>", "(JJILjava/util/BitSet;ZZZ)V"⟩ : MethodName) prog_206_method_2_code 10 none { frames := 7, cells := 45, slots := 473, locals := 95 } [(.ref a), (.long (1 : Int64)), (.long (0 : Int64)), (.int (7 : Int32)), (.ref bs), (.int (0 : Int32)), (.int (0 : Int32)), (.int (0 : Int32))] [o_SE a .null .null .null .null (.int (0 : Int32)) (.int (0 : Int32)) .null .null (.int (0 : Int32)) (.int (0 : Int32)) (.long (0 : Int64)) (.int (0 : Int32)) (.int (0 : Int32))] (fun v W' => ∃ (po : Addr) (po1 : Addr) (wb : Addr) (wb1 : Addr) (ls : Addr) (ls1 : Addr) (pts : Addr) (kp : ClassId) (sv : Addr) (pt : Addr), v = none ∧ W' = [o_SE a (.ref po) (.ref wb) (.ref ls) (.ref pts) (.int (0 : Int32)) (.int (-1 : Int32)) (.ref sv) (.ref pt) (.int (0 : Int32)) (.int (0 : Int32)) (.long (0 : Int64)) (.int (0 : Int32)) (.int (0 : Int32)), o_PC po (.ref po1), o_HM po1 (.int (0 : Int32)) .null, o_PC wb (.ref wb1), o_HM wb1 (.int (0 : Int32)) .null, o_HS ls (.ref ls1), o_HM ls1 (.int (0 : Int32)) .null, (pts, true, .inr (kp, (.object "com/example/lockstep/lockstep/core/ChoicePoint"), (16 : Int32), [.null, .null], .null)), o_AY sv (.int (0 : Int32)), o_AY pt (.int (0 : Int32))]) := by
  refine Con.mk g pn_search2 (Ls := #[.val (.ref a), .val (.long (1 : Int64)), .second, .val (.long (0 : Int64)), .second, .val (.int (7 : Int32)), .val (.ref bs), .val (.int (0 : Int32)), .val (.int (0 : Int32)), .val (.int (0 : Int32))]) (fun m => by first | (simp [entryFrame, mkF, argsToLocals, Value.category]; done) | rfl) ?_
  intro p e s m below meth c T0 F J0
  refine p_aload_n J0 d30_0 rfl rfl 1 rfl ?_
  refine i_initO J0 d30_1 (mt (i := 34) rfl) (mt (i := 14) rfl) (mt (i := 15) rfl) rfl (by decide) (by show (12 : Nat) ≤ _; decide) 4 rfl fun T379 J380 => ?_
  refine p_aload_n J380 d30_4 rfl rfl 5 rfl ?_
  refine i_new J380 d30_5 (mt (i := 35) rfl) (mt (i := 36) rfl) (mt (i := 37) rfl) (by decide) (by decide) df_PC 1 3 rfl rfl 8 rfl fun a381 T382 J383 => ?_
  refine p_dup J383 d30_8 rfl 9 rfl ?_
  refine i_special J383 d30_9 rfl (mt (i := 38) rfl) (mt (i := 39) rfl) (mt (i := 37) rfl) (mt (i := 40) rfl) (by decide) (lenOf pd_0 rfl) (c_pc g a381 ) [0] [1] 2 (by decide) (lenLe F 2 rfl) rfl 2 (by decide) (by decide) (by decide) (by decide) rfl (by show (2 : Nat) ≤ _; decide) _ rfl 2 11 rfl rfl 12 rfl fun v388 W389 T385 hQ387 J386 => ?_
  obtain ⟨b384, rfl, rfl⟩ := hQ387
  have J390 := J386.norm (W' := o_PC a381 (.ref b384) :: o_HM b384 (.int (0 : Int32)) .null :: o_SE a .null .null .null .null (.int (0 : Int32)) (.int (0 : Int32)) .null .null (.int (0 : Int32)) (.int (0 : Int32)) (.long (0 : Int64)) (.int (0 : Int32)) (.int (0 : Int32)) :: F) rfl
  show Run _ _ _ _ (State.setTop _ (mkF m 12 #[.val (.ref a), .val (.long (1 : Int64)), .second, .val (.long (0 : Int64)), .second, .val (.int (7 : Int32)), .val (.ref bs), .val (.int (0 : Int32)), .val (.int (0 : Int32)), .val (.int (0 : Int32))] [(.ref a381), (.ref a)]))
  refine i_put J390 d30_12 (mt (i := 60) rfl) Via.refl 2 0 rfl rfl sd_SE (Or.inr ⟨(mt (i := 61) rfl), rfl, rfl⟩) (mt (i := 2) rfl) (ty := (.object "com/example/lockstep/lockstep/core/PassCounts")) (by decide) rfl rfl 15 rfl (o_PC a381 (.ref b384) :: o_HM b384 (.int (0 : Int32)) .null :: o_SE a (.ref a381) .null .null .null (.int (0 : Int32)) (.int (0 : Int32)) .null .null (.int (0 : Int32)) (.int (0 : Int32)) (.long (0 : Int64)) (.int (0 : Int32)) (.int (0 : Int32)) :: F) rfl fun T391 J392 => ?_
  have J393 := J392.weak [2, 0, 1] 3 (by decide) (lenLe F 3 rfl) (W' := o_SE a (.ref a381) .null .null .null (.int (0 : Int32)) (.int (0 : Int32)) .null .null (.int (0 : Int32)) (.int (0 : Int32)) (.long (0 : Int64)) (.int (0 : Int32)) (.int (0 : Int32)) :: o_PC a381 (.ref b384) :: o_HM b384 (.int (0 : Int32)) .null :: F) rfl
  refine p_aload_n J393 d30_15 rfl rfl 16 rfl ?_
  refine i_new J393 d30_16 (mt (i := 35) rfl) (mt (i := 36) rfl) (mt (i := 37) rfl) (by decide) (by decide) df_PC 3 14 rfl rfl 19 rfl fun a394 T395 J396 => ?_
  refine p_dup J396 d30_19 rfl 20 rfl ?_
  refine i_special J396 d30_20 rfl (mt (i := 38) rfl) (mt (i := 39) rfl) (mt (i := 37) rfl) (mt (i := 40) rfl) (by decide) (lenOf pd_0 rfl) (c_pc g a394 ) [0] [1, 2, 3] 4 (by decide) (lenLe F 4 rfl) rfl 2 (by decide) (by decide) (by decide) (by decide) rfl (by show (2 : Nat) ≤ _; decide) _ rfl 4 22 rfl rfl 23 rfl fun v401 W402 T398 hQ400 J399 => ?_
  obtain ⟨b397, rfl, rfl⟩ := hQ400
  have J403 := J399.norm (W' := o_PC a394 (.ref b397) :: o_HM b397 (.int (0 : Int32)) .null :: o_SE a (.ref a381) .null .null .null (.int (0 : Int32)) (.int (0 : Int32)) .null .null (.int (0 : Int32)) (.int (0 : Int32)) (.long (0 : Int64)) (.int (0 : Int32)) (.int (0 : Int32)) :: o_PC a381 (.ref b384) :: o_HM b384 (.int (0 : Int32)) .null :: F) rfl
  show Run _ _ _ _ (State.setTop _ (mkF m 23 #[.val (.ref a), .val (.long (1 : Int64)), .second, .val (.long (0 : Int64)), .second, .val (.int (7 : Int32)), .val (.ref bs), .val (.int (0 : Int32)), .val (.int (0 : Int32)), .val (.int (0 : Int32))] [(.ref a394), (.ref a)]))
  refine i_put J403 d30_23 (mt (i := 62) rfl) Via.refl 2 1 rfl rfl sd_SE (Or.inr ⟨(mt (i := 63) rfl), rfl, rfl⟩) (mt (i := 2) rfl) (ty := (.object "com/example/lockstep/lockstep/core/PassCounts")) (by decide) rfl rfl 26 rfl (o_PC a394 (.ref b397) :: o_HM b397 (.int (0 : Int32)) .null :: o_SE a (.ref a381) (.ref a394) .null .null (.int (0 : Int32)) (.int (0 : Int32)) .null .null (.int (0 : Int32)) (.int (0 : Int32)) (.long (0 : Int64)) (.int (0 : Int32)) (.int (0 : Int32)) :: o_PC a381 (.ref b384) :: o_HM b384 (.int (0 : Int32)) .null :: F) rfl fun T404 J405 => ?_
  have J406 := J405.weak [2, 3, 4, 0, 1] 5 (by decide) (lenLe F 5 rfl) (W' := o_SE a (.ref a381) (.ref a394) .null .null (.int (0 : Int32)) (.int (0 : Int32)) .null .null (.int (0 : Int32)) (.int (0 : Int32)) (.long (0 : Int64)) (.int (0 : Int32)) (.int (0 : Int32)) :: o_PC a381 (.ref b384) :: o_HM b384 (.int (0 : Int32)) .null :: o_PC a394 (.ref b397) :: o_HM b397 (.int (0 : Int32)) .null :: F) rfl
  refine p_aload_n J406 d30_26 rfl rfl 27 rfl ?_
  refine i_new J406 d30_27 (mt (i := 64) rfl) (mt (i := 65) rfl) (mt (i := 66) rfl) (by decide) (by decide) df_HS 5 23 rfl rfl 30 rfl fun a407 T408 J409 => ?_
  refine p_dup J409 d30_30 rfl 31 rfl ?_
  refine i_special J409 d30_31 rfl (mt (i := 67) rfl) (mt (i := 68) rfl) (mt (i := 66) rfl) (mt (i := 69) rfl) (by decide) (lenOf pd_0 rfl) (c_hs g a407 ) [0] [1, 2, 3, 4, 5] 6 (by decide) (lenLe F 6 rfl) rfl 2 (by decide) (by decide) (by decide) (by decide) rfl (by show (2 : Nat) ≤ _; decide) _ rfl 6 31 rfl rfl 34 rfl fun v414 W415 T411 hQ413 J412 => ?_
  obtain ⟨b410, rfl, rfl⟩ := hQ413
  have J416 := J412.norm (W' := o_HS a407 (.ref b410) :: o_HM b410 (.int (0 : Int32)) .null :: o_SE a (.ref a381) (.ref a394) .null .null (.int (0 : Int32)) (.int (0 : Int32)) .null .null (.int (0 : Int32)) (.int (0 : Int32)) (.long (0 : Int64)) (.int (0 : Int32)) (.int (0 : Int32)) :: o_PC a381 (.ref b384) :: o_HM b384 (.int (0 : Int32)) .null :: o_PC a394 (.ref b397) :: o_HM b397 (.int (0 : Int32)) .null :: F) rfl
  show Run _ _ _ _ (State.setTop _ (mkF m 34 #[.val (.ref a), .val (.long (1 : Int64)), .second, .val (.long (0 : Int64)), .second, .val (.int (7 : Int32)), .val (.ref bs), .val (.int (0 : Int32)), .val (.int (0 : Int32)), .val (.int (0 : Int32))] [(.ref a407), (.ref a)]))
  refine i_put J416 d30_34 (mt (i := 88) rfl) Via.refl 2 2 rfl rfl sd_SE (Or.inr ⟨(mt (i := 89) rfl), rfl, rfl⟩) (mt (i := 2) rfl) (ty := (.object "java/util/Set")) (by decide) rfl rfl 37 rfl (o_HS a407 (.ref b410) :: o_HM b410 (.int (0 : Int32)) .null :: o_SE a (.ref a381) (.ref a394) (.ref a407) .null (.int (0 : Int32)) (.int (0 : Int32)) .null .null (.int (0 : Int32)) (.int (0 : Int32)) (.long (0 : Int64)) (.int (0 : Int32)) (.int (0 : Int32)) :: o_PC a381 (.ref b384) :: o_HM b384 (.int (0 : Int32)) .null :: o_PC a394 (.ref b397) :: o_HM b397 (.int (0 : Int32)) .null :: F) rfl fun T417 J418 => ?_
  have J419 := J418.weak [2, 3, 4, 5, 6, 0, 1] 7 (by decide) (lenLe F 7 rfl) (W' := o_SE a (.ref a381) (.ref a394) (.ref a407) .null (.int (0 : Int32)) (.int (0 : Int32)) .null .null (.int (0 : Int32)) (.int (0 : Int32)) (.long (0 : Int64)) (.int (0 : Int32)) (.int (0 : Int32)) :: o_PC a381 (.ref b384) :: o_HM b384 (.int (0 : Int32)) .null :: o_PC a394 (.ref b397) :: o_HM b397 (.int (0 : Int32)) .null :: o_HS a407 (.ref b410) :: o_HM b410 (.int (0 : Int32)) .null :: F) rfl
  refine p_aload_n J419 d30_37 rfl rfl 38 rfl ?_
  refine i_new J419 d30_38 (mt (i := 90) rfl) (mt (i := 91) rfl) (mt (i := 92) rfl) (by decide) (by decide) df_RL 7 35 rfl rfl 41 rfl fun a420 T421 J422 => ?_
  refine p_dup J422 d30_41 rfl 42 rfl ?_
  refine i_special J422 d30_42 rfl (mt (i := 93) rfl) (mt (i := 94) rfl) (mt (i := 92) rfl) (mt (i := 95) rfl) (by decide) (lenOf pd_0 rfl) (c_rl g a420 ) [0] [1, 2, 3, 4, 5, 6, 7] 8 (by decide) (lenLe F 8 rfl) rfl 2 (by decide) (by decide) (by decide) (by decide) rfl (by show (2 : Nat) ≤ _; decide) _ rfl 11 175 rfl rfl 45 rfl fun v426 W427 T423 hQ425 J424 => ?_
  obtain ⟨rfl, rfl⟩ := hQ425
  have J428 := J424.norm (W' := o_SE a (.ref a381) (.ref a394) (.ref a407) .null (.int (0 : Int32)) (.int (0 : Int32)) .null .null (.int (0 : Int32)) (.int (0 : Int32)) (.long (0 : Int64)) (.int (0 : Int32)) (.int (0 : Int32)) :: o_PC a381 (.ref b384) :: o_HM b384 (.int (0 : Int32)) .null :: o_PC a394 (.ref b397) :: o_HM b397 (.int (0 : Int32)) .null :: o_HS a407 (.ref b410) :: o_HM b410 (.int (0 : Int32)) .null :: F) rfl
  show Run _ _ _ _ (State.setTop _ (mkF m 45 #[.val (.ref a), .val (.long (1 : Int64)), .second, .val (.long (0 : Int64)), .second, .val (.int (7 : Int32)), .val (.ref bs), .val (.int (0 : Int32)), .val (.int (0 : Int32)), .val (.int (0 : Int32))] [(.ref a420), (.ref a)]))
  refine i_putX J428 d30_45 (mt (i := 118) rfl) Via.refl 0 rfl kd_SE (ks := ks_SE) rfl (by decide) (Or.inr ⟨mt (i := 119) rfl, rfl, rfl⟩) (mt (i := 2) rfl) (ty := (.object "com/example/lockstep/lockstep/core/RaceLog")) (by decide) rfl rfl 48 rfl fun T429 J430 => ?_
  have J431 := J430.weak [0, 1, 2, 3, 4, 5, 6] 7 (by decide) (lenLe F 7 rfl) (W' := o_SE a (.ref a381) (.ref a394) (.ref a407) .null (.int (0 : Int32)) (.int (0 : Int32)) .null .null (.int (0 : Int32)) (.int (0 : Int32)) (.long (0 : Int64)) (.int (0 : Int32)) (.int (0 : Int32)) :: o_PC a381 (.ref b384) :: o_HM b384 (.int (0 : Int32)) .null :: o_PC a394 (.ref b397) :: o_HM b397 (.int (0 : Int32)) .null :: o_HS a407 (.ref b410) :: o_HM b410 (.int (0 : Int32)) .null :: F) rfl
  refine p_aload_n J431 d30_48 rfl rfl 49 rfl ?_
  refine i_new J431 d30_49 (mt (i := 120) rfl) (mt (i := 121) rfl) (mt (i := 122) rfl) (by decide) (by decide) df_TS 12 176 rfl rfl 52 rfl fun a432 T433 J434 => ?_
  refine p_dup J434 d30_52 rfl 53 rfl ?_
  refine i_special J434 d30_53 rfl (mt (i := 123) rfl) (mt (i := 124) rfl) (mt (i := 122) rfl) (mt (i := 125) rfl) (by decide) (lenOf pd_0 rfl) (c_ts g a432 ) [0] [1, 2, 3, 4, 5, 6, 7] 8 (by decide) (lenLe F 8 rfl) rfl 2 (by decide) (by decide) (by decide) (by decide) rfl (by show (2 : Nat) ≤ _; decide) _ rfl 13 185 rfl rfl 56 rfl fun v438 W439 T435 hQ437 J436 => ?_
  obtain ⟨rfl, rfl⟩ := hQ437
  have J440 := J436.norm (W' := o_SE a (.ref a381) (.ref a394) (.ref a407) .null (.int (0 : Int32)) (.int (0 : Int32)) .null .null (.int (0 : Int32)) (.int (0 : Int32)) (.long (0 : Int64)) (.int (0 : Int32)) (.int (0 : Int32)) :: o_PC a381 (.ref b384) :: o_HM b384 (.int (0 : Int32)) .null :: o_PC a394 (.ref b397) :: o_HM b397 (.int (0 : Int32)) .null :: o_HS a407 (.ref b410) :: o_HM b410 (.int (0 : Int32)) .null :: F) rfl
  show Run _ _ _ _ (State.setTop _ (mkF m 56 #[.val (.ref a), .val (.long (1 : Int64)), .second, .val (.long (0 : Int64)), .second, .val (.int (7 : Int32)), .val (.ref bs), .val (.int (0 : Int32)), .val (.int (0 : Int32)), .val (.int (0 : Int32))] [(.ref a432), (.ref a)]))
  refine i_putX J440 d30_56 (mt (i := 150) rfl) Via.refl 0 rfl kd_SE (ks := ks_SE) rfl (by decide) (Or.inr ⟨mt (i := 151) rfl, rfl, rfl⟩) (mt (i := 2) rfl) (ty := (.object "java/util/SortedSet")) (by decide) rfl rfl 59 rfl fun T441 J442 => ?_
  have J443 := J442.weak [0, 1, 2, 3, 4, 5, 6] 7 (by decide) (lenLe F 7 rfl) (W' := o_SE a (.ref a381) (.ref a394) (.ref a407) .null (.int (0 : Int32)) (.int (0 : Int32)) .null .null (.int (0 : Int32)) (.int (0 : Int32)) (.long (0 : Int64)) (.int (0 : Int32)) (.int (0 : Int32)) :: o_PC a381 (.ref b384) :: o_HM b384 (.int (0 : Int32)) .null :: o_PC a394 (.ref b397) :: o_HM b397 (.int (0 : Int32)) .null :: o_HS a407 (.ref b410) :: o_HM b410 (.int (0 : Int32)) .null :: F) rfl
  refine p_aload_n J443 d30_59 rfl rfl 60 rfl ?_
  refine i_new J443 d30_60 (mt (i := 120) rfl) (mt (i := 121) rfl) (mt (i := 122) rfl) (by decide) (by decide) df_TS 14 186 rfl rfl 63 rfl fun a444 T445 J446 => ?_
  refine p_dup J446 d30_63 rfl 64 rfl ?_
  refine i_special J446 d30_64 rfl (mt (i := 123) rfl) (mt (i := 124) rfl) (mt (i := 122) rfl) (mt (i := 125) rfl) (by decide) (lenOf pd_0 rfl) (c_ts g a444 ) [0] [1, 2, 3, 4, 5, 6, 7] 8 (by decide) (lenLe F 8 rfl) rfl 2 (by decide) (by decide) (by decide) (by decide) rfl (by show (2 : Nat) ≤ _; decide) _ rfl 15 195 rfl rfl 67 rfl fun v450 W451 T447 hQ449 J448 => ?_
  obtain ⟨rfl, rfl⟩ := hQ449
  have J452 := J448.norm (W' := o_SE a (.ref a381) (.ref a394) (.ref a407) .null (.int (0 : Int32)) (.int (0 : Int32)) .null .null (.int (0 : Int32)) (.int (0 : Int32)) (.long (0 : Int64)) (.int (0 : Int32)) (.int (0 : Int32)) :: o_PC a381 (.ref b384) :: o_HM b384 (.int (0 : Int32)) .null :: o_PC a394 (.ref b397) :: o_HM b397 (.int (0 : Int32)) .null :: o_HS a407 (.ref b410) :: o_HM b410 (.int (0 : Int32)) .null :: F) rfl
  show Run _ _ _ _ (State.setTop _ (mkF m 67 #[.val (.ref a), .val (.long (1 : Int64)), .second, .val (.long (0 : Int64)), .second, .val (.int (7 : Int32)), .val (.ref bs), .val (.int (0 : Int32)), .val (.int (0 : Int32)), .val (.int (0 : Int32))] [(.ref a444), (.ref a)]))
  refine i_putX J452 d30_67 (mt (i := 152) rfl) Via.refl 0 rfl kd_SE (ks := ks_SE) rfl (by decide) (Or.inr ⟨mt (i := 153) rfl, rfl, rfl⟩) (mt (i := 2) rfl) (ty := (.object "java/util/SortedSet")) (by decide) rfl rfl 70 rfl fun T453 J454 => ?_
  have J455 := J454.weak [0, 1, 2, 3, 4, 5, 6] 7 (by decide) (lenLe F 7 rfl) (W' := o_SE a (.ref a381) (.ref a394) (.ref a407) .null (.int (0 : Int32)) (.int (0 : Int32)) .null .null (.int (0 : Int32)) (.int (0 : Int32)) (.long (0 : Int64)) (.int (0 : Int32)) (.int (0 : Int32)) :: o_PC a381 (.ref b384) :: o_HM b384 (.int (0 : Int32)) .null :: o_PC a394 (.ref b397) :: o_HM b397 (.int (0 : Int32)) .null :: o_HS a407 (.ref b410) :: o_HM b410 (.int (0 : Int32)) .null :: F) rfl
  refine p_aload_n J455 d30_70 rfl rfl 71 rfl ?_
  refine i_new J455 d30_71 (mt (i := 64) rfl) (mt (i := 65) rfl) (mt (i := 66) rfl) (by decide) (by decide) df_HS 16 196 rfl rfl 74 rfl fun a456 T457 J458 => ?_
  refine p_dup J458 d30_74 rfl 75 rfl ?_
  refine i_special J458 d30_75 rfl (mt (i := 67) rfl) (mt (i := 68) rfl) (mt (i := 66) rfl) (mt (i := 69) rfl) (by decide) (lenOf pd_0 rfl) (c_hs g a456 ) [0] [1, 2, 3, 4, 5, 6, 7] 8 (by decide) (lenLe F 8 rfl) rfl 2 (by decide) (by decide) (by decide) (by decide) rfl (by show (2 : Nat) ≤ _; decide) _ rfl 17 204 rfl rfl 78 rfl fun v463 W464 T460 hQ462 J461 => ?_
  obtain ⟨b459, rfl, rfl⟩ := hQ462
  have J465 := J461.norm (W' := o_HS a456 (.ref b459) :: o_HM b459 (.int (0 : Int32)) .null :: o_SE a (.ref a381) (.ref a394) (.ref a407) .null (.int (0 : Int32)) (.int (0 : Int32)) .null .null (.int (0 : Int32)) (.int (0 : Int32)) (.long (0 : Int64)) (.int (0 : Int32)) (.int (0 : Int32)) :: o_PC a381 (.ref b384) :: o_HM b384 (.int (0 : Int32)) .null :: o_PC a394 (.ref b397) :: o_HM b397 (.int (0 : Int32)) .null :: o_HS a407 (.ref b410) :: o_HM b410 (.int (0 : Int32)) .null :: F) rfl
  show Run _ _ _ _ (State.setTop _ (mkF m 78 #[.val (.ref a), .val (.long (1 : Int64)), .second, .val (.long (0 : Int64)), .second, .val (.int (7 : Int32)), .val (.ref bs), .val (.int (0 : Int32)), .val (.int (0 : Int32)), .val (.int (0 : Int32))] [(.ref a456), (.ref a)]))
  refine i_putX J465 d30_78 (mt (i := 154) rfl) Via.refl 2 rfl kd_SE (ks := ks_SE) rfl (by decide) (Or.inr ⟨mt (i := 155) rfl, rfl, rfl⟩) (mt (i := 2) rfl) (ty := (.object "java/util/Set")) (by decide) rfl rfl 81 rfl fun T466 J467 => ?_
  have J468 := J467.weak [2, 3, 4, 5, 6, 7, 8] 9 (by decide) (lenLe F 9 rfl) (W' := o_SE a (.ref a381) (.ref a394) (.ref a407) .null (.int (0 : Int32)) (.int (0 : Int32)) .null .null (.int (0 : Int32)) (.int (0 : Int32)) (.long (0 : Int64)) (.int (0 : Int32)) (.int (0 : Int32)) :: o_PC a381 (.ref b384) :: o_HM b384 (.int (0 : Int32)) .null :: o_PC a394 (.ref b397) :: o_HM b397 (.int (0 : Int32)) .null :: o_HS a407 (.ref b410) :: o_HM b410 (.int (0 : Int32)) .null :: F) rfl
  refine p_aload_n J468 d30_81 rfl rfl 82 rfl ?_
  refine i_new J468 d30_82 (mt (i := 64) rfl) (mt (i := 65) rfl) (mt (i := 66) rfl) (by decide) (by decide) df_HS 18 205 rfl rfl 85 rfl fun a469 T470 J471 => ?_
  refine p_dup J471 d30_85 rfl 86 rfl ?_
  refine i_special J471 d30_86 rfl (mt (i := 67) rfl) (mt (i := 68) rfl) (mt (i := 66) rfl) (mt (i := 69) rfl) (by decide) (lenOf pd_0 rfl) (c_hs g a469 ) [0] [1, 2, 3, 4, 5, 6, 7] 8 (by decide) (lenLe F 8 rfl) rfl 2 (by decide) (by decide) (by decide) (by decide) rfl (by show (2 : Nat) ≤ _; decide) _ rfl 19 213 rfl rfl 89 rfl fun v476 W477 T473 hQ475 J474 => ?_
  obtain ⟨b472, rfl, rfl⟩ := hQ475
  have J478 := J474.norm (W' := o_HS a469 (.ref b472) :: o_HM b472 (.int (0 : Int32)) .null :: o_SE a (.ref a381) (.ref a394) (.ref a407) .null (.int (0 : Int32)) (.int (0 : Int32)) .null .null (.int (0 : Int32)) (.int (0 : Int32)) (.long (0 : Int64)) (.int (0 : Int32)) (.int (0 : Int32)) :: o_PC a381 (.ref b384) :: o_HM b384 (.int (0 : Int32)) .null :: o_PC a394 (.ref b397) :: o_HM b397 (.int (0 : Int32)) .null :: o_HS a407 (.ref b410) :: o_HM b410 (.int (0 : Int32)) .null :: F) rfl
  show Run _ _ _ _ (State.setTop _ (mkF m 89 #[.val (.ref a), .val (.long (1 : Int64)), .second, .val (.long (0 : Int64)), .second, .val (.int (7 : Int32)), .val (.ref bs), .val (.int (0 : Int32)), .val (.int (0 : Int32)), .val (.int (0 : Int32))] [(.ref a469), (.ref a)]))
  refine i_putX J478 d30_89 (mt (i := 156) rfl) Via.refl 2 rfl kd_SE (ks := ks_SE) rfl (by decide) (Or.inr ⟨mt (i := 157) rfl, rfl, rfl⟩) (mt (i := 2) rfl) (ty := (.object "java/util/Set")) (by decide) rfl rfl 92 rfl fun T479 J480 => ?_
  have J481 := J480.weak [2, 3, 4, 5, 6, 7, 8] 9 (by decide) (lenLe F 9 rfl) (W' := o_SE a (.ref a381) (.ref a394) (.ref a407) .null (.int (0 : Int32)) (.int (0 : Int32)) .null .null (.int (0 : Int32)) (.int (0 : Int32)) (.long (0 : Int64)) (.int (0 : Int32)) (.int (0 : Int32)) :: o_PC a381 (.ref b384) :: o_HM b384 (.int (0 : Int32)) .null :: o_PC a394 (.ref b397) :: o_HM b397 (.int (0 : Int32)) .null :: o_HS a407 (.ref b410) :: o_HM b410 (.int (0 : Int32)) .null :: F) rfl
  refine p_aload_n J481 d30_92 rfl rfl 93 rfl ?_
  refine i_new J481 d30_93 (mt (i := 64) rfl) (mt (i := 65) rfl) (mt (i := 66) rfl) (by decide) (by decide) df_HS 20 214 rfl rfl 96 rfl fun a482 T483 J484 => ?_
  refine p_dup J484 d30_96 rfl 97 rfl ?_
  refine i_special J484 d30_97 rfl (mt (i := 67) rfl) (mt (i := 68) rfl) (mt (i := 66) rfl) (mt (i := 69) rfl) (by decide) (lenOf pd_0 rfl) (c_hs g a482 ) [0] [1, 2, 3, 4, 5, 6, 7] 8 (by decide) (lenLe F 8 rfl) rfl 2 (by decide) (by decide) (by decide) (by decide) rfl (by show (2 : Nat) ≤ _; decide) _ rfl 21 222 rfl rfl 100 rfl fun v489 W490 T486 hQ488 J487 => ?_
  obtain ⟨b485, rfl, rfl⟩ := hQ488
  have J491 := J487.norm (W' := o_HS a482 (.ref b485) :: o_HM b485 (.int (0 : Int32)) .null :: o_SE a (.ref a381) (.ref a394) (.ref a407) .null (.int (0 : Int32)) (.int (0 : Int32)) .null .null (.int (0 : Int32)) (.int (0 : Int32)) (.long (0 : Int64)) (.int (0 : Int32)) (.int (0 : Int32)) :: o_PC a381 (.ref b384) :: o_HM b384 (.int (0 : Int32)) .null :: o_PC a394 (.ref b397) :: o_HM b397 (.int (0 : Int32)) .null :: o_HS a407 (.ref b410) :: o_HM b410 (.int (0 : Int32)) .null :: F) rfl
  show Run _ _ _ _ (State.setTop _ (mkF m 100 #[.val (.ref a), .val (.long (1 : Int64)), .second, .val (.long (0 : Int64)), .second, .val (.int (7 : Int32)), .val (.ref bs), .val (.int (0 : Int32)), .val (.int (0 : Int32)), .val (.int (0 : Int32))] [(.ref a482), (.ref a)]))
  refine i_putX J491 d30_100 (mt (i := 158) rfl) Via.refl 2 rfl kd_SE (ks := ks_SE) rfl (by decide) (Or.inr ⟨mt (i := 159) rfl, rfl, rfl⟩) (mt (i := 2) rfl) (ty := (.object "java/util/Set")) (by decide) rfl rfl 103 rfl fun T492 J493 => ?_
  have J494 := J493.weak [2, 3, 4, 5, 6, 7, 8] 9 (by decide) (lenLe F 9 rfl) (W' := o_SE a (.ref a381) (.ref a394) (.ref a407) .null (.int (0 : Int32)) (.int (0 : Int32)) .null .null (.int (0 : Int32)) (.int (0 : Int32)) (.long (0 : Int64)) (.int (0 : Int32)) (.int (0 : Int32)) :: o_PC a381 (.ref b384) :: o_HM b384 (.int (0 : Int32)) .null :: o_PC a394 (.ref b397) :: o_HM b397 (.int (0 : Int32)) .null :: o_HS a407 (.ref b410) :: o_HM b410 (.int (0 : Int32)) .null :: F) rfl
  refine p_aload_n J494 d30_103 rfl rfl 104 rfl ?_
  refine i_new J494 d30_104 (mt (i := 160) rfl) (mt (i := 161) rfl) (mt (i := 162) rfl) (by decide) (by decide) df_AY 22 225 rfl rfl 107 rfl fun a495 T496 J497 => ?_
  refine p_dup J497 d30_107 rfl 108 rfl ?_
  refine i_special J497 d30_108 rfl (mt (i := 163) rfl) (mt (i := 164) rfl) (mt (i := 162) rfl) (mt (i := 165) rfl) (by decide) (lenOf pd_0 rfl) (c_ay g a495 dc hDC) [0] [1, 2, 3, 4, 5, 6, 7] 8 (by decide) (lenLe F 8 rfl) rfl 2 (by decide) (by decide) (by decide) (by decide) rfl (by show (2 : Nat) ≤ _; decide) _ rfl 22 225 rfl rfl 111 rfl fun v501 W502 T498 hQ500 J499 => ?_
  obtain ⟨rfl, rfl⟩ := hQ500
  have J503 := J499.norm (W' := o_AY a495 (.int (0 : Int32)) :: o_SE a (.ref a381) (.ref a394) (.ref a407) .null (.int (0 : Int32)) (.int (0 : Int32)) .null .null (.int (0 : Int32)) (.int (0 : Int32)) (.long (0 : Int64)) (.int (0 : Int32)) (.int (0 : Int32)) :: o_PC a381 (.ref b384) :: o_HM b384 (.int (0 : Int32)) .null :: o_PC a394 (.ref b397) :: o_HM b397 (.int (0 : Int32)) .null :: o_HS a407 (.ref b410) :: o_HM b410 (.int (0 : Int32)) .null :: F) rfl
  show Run _ _ _ _ (State.setTop _ (mkF m 111 #[.val (.ref a), .val (.long (1 : Int64)), .second, .val (.long (0 : Int64)), .second, .val (.int (7 : Int32)), .val (.ref bs), .val (.int (0 : Int32)), .val (.int (0 : Int32)), .val (.int (0 : Int32))] [(.ref a495), (.ref a)]))
  refine i_putX J503 d30_111 (mt (i := 179) rfl) Via.refl 1 rfl kd_SE (ks := ks_SE) rfl (by decide) (Or.inr ⟨mt (i := 180) rfl, rfl, rfl⟩) (mt (i := 2) rfl) (ty := (.object "java/util/List")) (by decide) rfl rfl 114 rfl fun T504 J505 => ?_
  have J506 := J505.weak [1, 2, 3, 4, 5, 6, 7] 8 (by decide) (lenLe F 8 rfl) (W' := o_SE a (.ref a381) (.ref a394) (.ref a407) .null (.int (0 : Int32)) (.int (0 : Int32)) .null .null (.int (0 : Int32)) (.int (0 : Int32)) (.long (0 : Int64)) (.int (0 : Int32)) (.int (0 : Int32)) :: o_PC a381 (.ref b384) :: o_HM b384 (.int (0 : Int32)) .null :: o_PC a394 (.ref b397) :: o_HM b397 (.int (0 : Int32)) .null :: o_HS a407 (.ref b410) :: o_HM b410 (.int (0 : Int32)) .null :: F) rfl
  refine p_aload_n J506 d30_114 rfl rfl 115 rfl ?_
  refine i_new J506 d30_115 (mt (i := 181) rfl) (mt (i := 98) rfl) (mt (i := 99) rfl) (by decide) (by decide) df_IH 23 231 rfl rfl 118 rfl fun a507 T508 J509 => ?_
  refine p_dup J509 d30_118 rfl 119 rfl ?_
  refine i_special J509 d30_119 rfl (mt (i := 182) rfl) (mt (i := 101) rfl) (mt (i := 99) rfl) (mt (i := 102) rfl) (by decide) (lenOf pd_0 rfl) (c_ih g a507 ) [0] [1, 2, 3, 4, 5, 6, 7] 8 (by decide) (lenLe F 8 rfl) rfl 2 (by decide) (by decide) (by decide) (by decide) rfl (by show (2 : Nat) ≤ _; decide) _ rfl 24 295 rfl rfl 122 rfl fun v513 W514 T510 hQ512 J511 => ?_
  obtain ⟨rfl, rfl⟩ := hQ512
  have J515 := J511.norm (W' := o_SE a (.ref a381) (.ref a394) (.ref a407) .null (.int (0 : Int32)) (.int (0 : Int32)) .null .null (.int (0 : Int32)) (.int (0 : Int32)) (.long (0 : Int64)) (.int (0 : Int32)) (.int (0 : Int32)) :: o_PC a381 (.ref b384) :: o_HM b384 (.int (0 : Int32)) .null :: o_PC a394 (.ref b397) :: o_HM b397 (.int (0 : Int32)) .null :: o_HS a407 (.ref b410) :: o_HM b410 (.int (0 : Int32)) .null :: F) rfl
  show Run _ _ _ _ (State.setTop _ (mkF m 122 #[.val (.ref a), .val (.long (1 : Int64)), .second, .val (.long (0 : Int64)), .second, .val (.int (7 : Int32)), .val (.ref bs), .val (.int (0 : Int32)), .val (.int (0 : Int32)), .val (.int (0 : Int32))] [(.ref a507), (.ref a)]))
  refine i_putX J515 d30_122 (mt (i := 183) rfl) Via.refl 0 rfl kd_SE (ks := ks_SE) rfl (by decide) (Or.inr ⟨mt (i := 184) rfl, rfl, rfl⟩) (mt (i := 2) rfl) (ty := (.object "java/util/Map")) (by decide) rfl rfl 125 rfl fun T516 J517 => ?_
  have J518 := J517.weak [0, 1, 2, 3, 4, 5, 6] 7 (by decide) (lenLe F 7 rfl) (W' := o_SE a (.ref a381) (.ref a394) (.ref a407) .null (.int (0 : Int32)) (.int (0 : Int32)) .null .null (.int (0 : Int32)) (.int (0 : Int32)) (.long (0 : Int64)) (.int (0 : Int32)) (.int (0 : Int32)) :: o_PC a381 (.ref b384) :: o_HM b384 (.int (0 : Int32)) .null :: o_PC a394 (.ref b397) :: o_HM b397 (.int (0 : Int32)) .null :: o_HS a407 (.ref b410) :: o_HM b410 (.int (0 : Int32)) .null :: F) rfl
  refine p_aload_n J518 d30_125 rfl rfl 126 rfl ?_
  refine i_new J518 d30_126 (mt (i := 185) rfl) (mt (i := 43) rfl) (mt (i := 44) rfl) (by decide) (by decide) df_HM 25 303 rfl rfl 129 rfl fun a519 T520 J521 => ?_
  refine p_dup J521 d30_129 rfl 130 rfl ?_
  refine i_special J521 d30_130 rfl (mt (i := 186) rfl) (mt (i := 46) rfl) (mt (i := 44) rfl) (mt (i := 47) rfl) (by decide) (lenOf pd_0 rfl) (c_hm g a519 ) [0] [1, 2, 3, 4, 5, 6, 7] 8 (by decide) (lenLe F 8 rfl) rfl 2 (by decide) (by decide) (by decide) (by decide) rfl (by show (2 : Nat) ≤ _; decide) _ rfl 25 303 rfl rfl 133 rfl fun v525 W526 T522 hQ524 J523 => ?_
  obtain ⟨rfl, rfl⟩ := hQ524
  have J527 := J523.norm (W' := o_HM a519 (.int (0 : Int32)) .null :: o_SE a (.ref a381) (.ref a394) (.ref a407) .null (.int (0 : Int32)) (.int (0 : Int32)) .null .null (.int (0 : Int32)) (.int (0 : Int32)) (.long (0 : Int64)) (.int (0 : Int32)) (.int (0 : Int32)) :: o_PC a381 (.ref b384) :: o_HM b384 (.int (0 : Int32)) .null :: o_PC a394 (.ref b397) :: o_HM b397 (.int (0 : Int32)) .null :: o_HS a407 (.ref b410) :: o_HM b410 (.int (0 : Int32)) .null :: F) rfl
  show Run _ _ _ _ (State.setTop _ (mkF m 133 #[.val (.ref a), .val (.long (1 : Int64)), .second, .val (.long (0 : Int64)), .second, .val (.int (7 : Int32)), .val (.ref bs), .val (.int (0 : Int32)), .val (.int (0 : Int32)), .val (.int (0 : Int32))] [(.ref a519), (.ref a)]))
  refine i_putX J527 d30_133 (mt (i := 187) rfl) Via.refl 1 rfl kd_SE (ks := ks_SE) rfl (by decide) (Or.inr ⟨mt (i := 188) rfl, rfl, rfl⟩) (mt (i := 2) rfl) (ty := (.object "java/util/Map")) (by decide) rfl rfl 136 rfl fun T528 J529 => ?_
  have J530 := J529.weak [1, 2, 3, 4, 5, 6, 7] 8 (by decide) (lenLe F 8 rfl) (W' := o_SE a (.ref a381) (.ref a394) (.ref a407) .null (.int (0 : Int32)) (.int (0 : Int32)) .null .null (.int (0 : Int32)) (.int (0 : Int32)) (.long (0 : Int64)) (.int (0 : Int32)) (.int (0 : Int32)) :: o_PC a381 (.ref b384) :: o_HM b384 (.int (0 : Int32)) .null :: o_PC a394 (.ref b397) :: o_HM b397 (.int (0 : Int32)) .null :: o_HS a407 (.ref b410) :: o_HM b410 (.int (0 : Int32)) .null :: F) rfl
  refine p_aload_n J530 d30_136 rfl rfl 137 rfl ?_
  refine i_new J530 d30_137 (mt (i := 185) rfl) (mt (i := 43) rfl) (mt (i := 44) rfl) (by decide) (by decide) df_HM 26 311 rfl rfl 140 rfl fun a531 T532 J533 => ?_
  refine p_dup J533 d30_140 rfl 141 rfl ?_
  refine i_special J533 d30_141 rfl (mt (i := 186) rfl) (mt (i := 46) rfl) (mt (i := 44) rfl) (mt (i := 47) rfl) (by decide) (lenOf pd_0 rfl) (c_hm g a531 ) [0] [1, 2, 3, 4, 5, 6, 7] 8 (by decide) (lenLe F 8 rfl) rfl 2 (by decide) (by decide) (by decide) (by decide) rfl (by show (2 : Nat) ≤ _; decide) _ rfl 26 311 rfl rfl 144 rfl fun v537 W538 T534 hQ536 J535 => ?_
  obtain ⟨rfl, rfl⟩ := hQ536
  have J539 := J535.norm (W' := o_HM a531 (.int (0 : Int32)) .null :: o_SE a (.ref a381) (.ref a394) (.ref a407) .null (.int (0 : Int32)) (.int (0 : Int32)) .null .null (.int (0 : Int32)) (.int (0 : Int32)) (.long (0 : Int64)) (.int (0 : Int32)) (.int (0 : Int32)) :: o_PC a381 (.ref b384) :: o_HM b384 (.int (0 : Int32)) .null :: o_PC a394 (.ref b397) :: o_HM b397 (.int (0 : Int32)) .null :: o_HS a407 (.ref b410) :: o_HM b410 (.int (0 : Int32)) .null :: F) rfl
  show Run _ _ _ _ (State.setTop _ (mkF m 144 #[.val (.ref a), .val (.long (1 : Int64)), .second, .val (.long (0 : Int64)), .second, .val (.int (7 : Int32)), .val (.ref bs), .val (.int (0 : Int32)), .val (.int (0 : Int32)), .val (.int (0 : Int32))] [(.ref a531), (.ref a)]))
  refine i_putX J539 d30_144 (mt (i := 189) rfl) Via.refl 1 rfl kd_SE (ks := ks_SE) rfl (by decide) (Or.inr ⟨mt (i := 190) rfl, rfl, rfl⟩) (mt (i := 2) rfl) (ty := (.object "java/util/Map")) (by decide) rfl rfl 147 rfl fun T540 J541 => ?_
  have J542 := J541.weak [1, 2, 3, 4, 5, 6, 7] 8 (by decide) (lenLe F 8 rfl) (W' := o_SE a (.ref a381) (.ref a394) (.ref a407) .null (.int (0 : Int32)) (.int (0 : Int32)) .null .null (.int (0 : Int32)) (.int (0 : Int32)) (.long (0 : Int64)) (.int (0 : Int32)) (.int (0 : Int32)) :: o_PC a381 (.ref b384) :: o_HM b384 (.int (0 : Int32)) .null :: o_PC a394 (.ref b397) :: o_HM b397 (.int (0 : Int32)) .null :: o_HS a407 (.ref b410) :: o_HM b410 (.int (0 : Int32)) .null :: F) rfl
  refine p_aload_n J542 d30_147 rfl rfl 148 rfl ?_
  refine i_new J542 d30_148 (mt (i := 185) rfl) (mt (i := 43) rfl) (mt (i := 44) rfl) (by decide) (by decide) df_HM 27 319 rfl rfl 151 rfl fun a543 T544 J545 => ?_
  refine p_dup J545 d30_151 rfl 152 rfl ?_
  refine i_special J545 d30_152 rfl (mt (i := 186) rfl) (mt (i := 46) rfl) (mt (i := 44) rfl) (mt (i := 47) rfl) (by decide) (lenOf pd_0 rfl) (c_hm g a543 ) [0] [1, 2, 3, 4, 5, 6, 7] 8 (by decide) (lenLe F 8 rfl) rfl 2 (by decide) (by decide) (by decide) (by decide) rfl (by show (2 : Nat) ≤ _; decide) _ rfl 27 319 rfl rfl 155 rfl fun v549 W550 T546 hQ548 J547 => ?_
  obtain ⟨rfl, rfl⟩ := hQ548
  have J551 := J547.norm (W' := o_HM a543 (.int (0 : Int32)) .null :: o_SE a (.ref a381) (.ref a394) (.ref a407) .null (.int (0 : Int32)) (.int (0 : Int32)) .null .null (.int (0 : Int32)) (.int (0 : Int32)) (.long (0 : Int64)) (.int (0 : Int32)) (.int (0 : Int32)) :: o_PC a381 (.ref b384) :: o_HM b384 (.int (0 : Int32)) .null :: o_PC a394 (.ref b397) :: o_HM b397 (.int (0 : Int32)) .null :: o_HS a407 (.ref b410) :: o_HM b410 (.int (0 : Int32)) .null :: F) rfl
  show Run _ _ _ _ (State.setTop _ (mkF m 155 #[.val (.ref a), .val (.long (1 : Int64)), .second, .val (.long (0 : Int64)), .second, .val (.int (7 : Int32)), .val (.ref bs), .val (.int (0 : Int32)), .val (.int (0 : Int32)), .val (.int (0 : Int32))] [(.ref a543), (.ref a)]))
  refine i_putX J551 d30_155 (mt (i := 191) rfl) Via.refl 1 rfl kd_SE (ks := ks_SE) rfl (by decide) (Or.inr ⟨mt (i := 192) rfl, rfl, rfl⟩) (mt (i := 2) rfl) (ty := (.object "java/util/Map")) (by decide) rfl rfl 158 rfl fun T552 J553 => ?_
  have J554 := J553.weak [1, 2, 3, 4, 5, 6, 7] 8 (by decide) (lenLe F 8 rfl) (W' := o_SE a (.ref a381) (.ref a394) (.ref a407) .null (.int (0 : Int32)) (.int (0 : Int32)) .null .null (.int (0 : Int32)) (.int (0 : Int32)) (.long (0 : Int64)) (.int (0 : Int32)) (.int (0 : Int32)) :: o_PC a381 (.ref b384) :: o_HM b384 (.int (0 : Int32)) .null :: o_PC a394 (.ref b397) :: o_HM b397 (.int (0 : Int32)) .null :: o_HS a407 (.ref b410) :: o_HM b410 (.int (0 : Int32)) .null :: F) rfl
  refine p_aload_n J554 d30_158 rfl rfl 159 rfl ?_
  refine i_new J554 d30_159 (mt (i := 64) rfl) (mt (i := 65) rfl) (mt (i := 66) rfl) (by decide) (by decide) df_HS 28 320 rfl rfl 162 rfl fun a555 T556 J557 => ?_
  refine p_dup J557 d30_162 rfl 163 rfl ?_
  refine i_special J557 d30_163 rfl (mt (i := 67) rfl) (mt (i := 68) rfl) (mt (i := 66) rfl) (mt (i := 69) rfl) (by decide) (lenOf pd_0 rfl) (c_hs g a555 ) [0] [1, 2, 3, 4, 5, 6, 7] 8 (by decide) (lenLe F 8 rfl) rfl 2 (by decide) (by decide) (by decide) (by decide) rfl (by show (2 : Nat) ≤ _; decide) _ rfl 29 328 rfl rfl 166 rfl fun v562 W563 T559 hQ561 J560 => ?_
  obtain ⟨b558, rfl, rfl⟩ := hQ561
  have J564 := J560.norm (W' := o_HS a555 (.ref b558) :: o_HM b558 (.int (0 : Int32)) .null :: o_SE a (.ref a381) (.ref a394) (.ref a407) .null (.int (0 : Int32)) (.int (0 : Int32)) .null .null (.int (0 : Int32)) (.int (0 : Int32)) (.long (0 : Int64)) (.int (0 : Int32)) (.int (0 : Int32)) :: o_PC a381 (.ref b384) :: o_HM b384 (.int (0 : Int32)) .null :: o_PC a394 (.ref b397) :: o_HM b397 (.int (0 : Int32)) .null :: o_HS a407 (.ref b410) :: o_HM b410 (.int (0 : Int32)) .null :: F) rfl
  show Run _ _ _ _ (State.setTop _ (mkF m 166 #[.val (.ref a), .val (.long (1 : Int64)), .second, .val (.long (0 : Int64)), .second, .val (.int (7 : Int32)), .val (.ref bs), .val (.int (0 : Int32)), .val (.int (0 : Int32)), .val (.int (0 : Int32))] [(.ref a555), (.ref a)]))
  refine i_putX J564 d30_166 (mt (i := 193) rfl) Via.refl 2 rfl kd_SE (ks := ks_SE) rfl (by decide) (Or.inr ⟨mt (i := 194) rfl, rfl, rfl⟩) (mt (i := 2) rfl) (ty := (.object "java/util/Set")) (by decide) rfl rfl 169 rfl fun T565 J566 => ?_
  have J567 := J566.weak [2, 3, 4, 5, 6, 7, 8] 9 (by decide) (lenLe F 9 rfl) (W' := o_SE a (.ref a381) (.ref a394) (.ref a407) .null (.int (0 : Int32)) (.int (0 : Int32)) .null .null (.int (0 : Int32)) (.int (0 : Int32)) (.long (0 : Int64)) (.int (0 : Int32)) (.int (0 : Int32)) :: o_PC a381 (.ref b384) :: o_HM b384 (.int (0 : Int32)) .null :: o_PC a394 (.ref b397) :: o_HM b397 (.int (0 : Int32)) .null :: o_HS a407 (.ref b410) :: o_HM b410 (.int (0 : Int32)) .null :: F) rfl
  refine p_aload_n J567 d30_169 rfl rfl 170 rfl ?_
  refine i_new J567 d30_170 (mt (i := 195) rfl) (mt (i := 196) rfl) (mt (i := 197) rfl) (by decide) (by decide) df_SG 30 335 rfl rfl 173 rfl fun a568 T569 J570 => ?_
  refine p_dup J570 d30_173 rfl 174 rfl ?_
  refine i_special J570 d30_174 rfl (mt (i := 198) rfl) (mt (i := 199) rfl) (mt (i := 197) rfl) (mt (i := 200) rfl) (by decide) (lenOf pd_0 rfl) (c_sg g a568 mS mA hMS hMA mO hO) [0] [1, 2, 3, 4, 5, 6, 7] 8 (by decide) (lenLe F 8 rfl) rfl 2 (by decide) (by decide) (by decide) (by decide) rfl (by show (2 : Nat) ≤ _; decide) _ rfl 40 381 rfl rfl 177 rfl fun v574 W575 T571 hQ573 J572 => ?_
  obtain ⟨rfl, rfl⟩ := hQ573
  have J576 := J572.norm (W' := o_SE a (.ref a381) (.ref a394) (.ref a407) .null (.int (0 : Int32)) (.int (0 : Int32)) .null .null (.int (0 : Int32)) (.int (0 : Int32)) (.long (0 : Int64)) (.int (0 : Int32)) (.int (0 : Int32)) :: o_PC a381 (.ref b384) :: o_HM b384 (.int (0 : Int32)) .null :: o_PC a394 (.ref b397) :: o_HM b397 (.int (0 : Int32)) .null :: o_HS a407 (.ref b410) :: o_HM b410 (.int (0 : Int32)) .null :: F) rfl
  show Run _ _ _ _ (State.setTop _ (mkF m 177 #[.val (.ref a), .val (.long (1 : Int64)), .second, .val (.long (0 : Int64)), .second, .val (.int (7 : Int32)), .val (.ref bs), .val (.int (0 : Int32)), .val (.int (0 : Int32)), .val (.int (0 : Int32))] [(.ref a568), (.ref a)]))
  refine i_putX J576 d30_177 (mt (i := 318) rfl) Via.refl 0 rfl kd_SE (ks := ks_SE) rfl (by decide) (Or.inr ⟨mt (i := 319) rfl, rfl, rfl⟩) (mt (i := 2) rfl) (ty := (.object "com/example/lockstep/lockstep/core/StateGraph")) (by decide) rfl rfl 180 rfl fun T577 J578 => ?_
  have J579 := J578.weak [0, 1, 2, 3, 4, 5, 6] 7 (by decide) (lenLe F 7 rfl) (W' := o_SE a (.ref a381) (.ref a394) (.ref a407) .null (.int (0 : Int32)) (.int (0 : Int32)) .null .null (.int (0 : Int32)) (.int (0 : Int32)) (.long (0 : Int64)) (.int (0 : Int32)) (.int (0 : Int32)) :: o_PC a381 (.ref b384) :: o_HM b384 (.int (0 : Int32)) .null :: o_PC a394 (.ref b397) :: o_HM b397 (.int (0 : Int32)) .null :: o_HS a407 (.ref b410) :: o_HM b410 (.int (0 : Int32)) .null :: F) rfl
  refine p_aload_n J579 d30_180 rfl rfl 181 rfl ?_
  refine p_iconst J579 d30_181 (z := (0 : Int32)) rfl 182 rfl ?_
  refine i_put J579 d30_182 (mt (i := 320) rfl) Via.refl 0 4 rfl rfl sd_SE (Or.inl (mt (i := 321) rfl)) (mt (i := 2) rfl) (ty := .int) (by decide) rfl rfl 185 rfl (o_SE a (.ref a381) (.ref a394) (.ref a407) .null (.int (0 : Int32)) (.int (0 : Int32)) .null .null (.int (0 : Int32)) (.int (0 : Int32)) (.long (0 : Int64)) (.int (0 : Int32)) (.int (0 : Int32)) :: o_PC a381 (.ref b384) :: o_HM b384 (.int (0 : Int32)) .null :: o_PC a394 (.ref b397) :: o_HM b397 (.int (0 : Int32)) .null :: o_HS a407 (.ref b410) :: o_HM b410 (.int (0 : Int32)) .null :: F) rfl fun T580 J581 => ?_
  refine p_aload_n J581 d30_185 rfl rfl 186 rfl ?_
  refine i_new J581 d30_186 (mt (i := 160) rfl) (mt (i := 161) rfl) (mt (i := 162) rfl) (by decide) (by decide) df_AY 41 384 rfl rfl 189 rfl fun a582 T583 J584 => ?_
  refine p_dup J584 d30_189 rfl 190 rfl ?_
  refine i_special J584 d30_190 rfl (mt (i := 163) rfl) (mt (i := 164) rfl) (mt (i := 162) rfl) (mt (i := 165) rfl) (by decide) (lenOf pd_0 rfl) (c_ay g a582 dc hDC) [0] [1, 2, 3, 4, 5, 6, 7] 8 (by decide) (lenLe F 8 rfl) rfl 2 (by decide) (by decide) (by decide) (by decide) rfl (by show (2 : Nat) ≤ _; decide) _ rfl 41 384 rfl rfl 193 rfl fun v588 W589 T585 hQ587 J586 => ?_
  obtain ⟨rfl, rfl⟩ := hQ587
  have J590 := J586.norm (W' := o_AY a582 (.int (0 : Int32)) :: o_SE a (.ref a381) (.ref a394) (.ref a407) .null (.int (0 : Int32)) (.int (0 : Int32)) .null .null (.int (0 : Int32)) (.int (0 : Int32)) (.long (0 : Int64)) (.int (0 : Int32)) (.int (0 : Int32)) :: o_PC a381 (.ref b384) :: o_HM b384 (.int (0 : Int32)) .null :: o_PC a394 (.ref b397) :: o_HM b397 (.int (0 : Int32)) .null :: o_HS a407 (.ref b410) :: o_HM b410 (.int (0 : Int32)) .null :: F) rfl
  show Run _ _ _ _ (State.setTop _ (mkF m 193 #[.val (.ref a), .val (.long (1 : Int64)), .second, .val (.long (0 : Int64)), .second, .val (.int (7 : Int32)), .val (.ref bs), .val (.int (0 : Int32)), .val (.int (0 : Int32)), .val (.int (0 : Int32))] [(.ref a582), (.ref a)]))
  refine i_put J590 d30_193 (mt (i := 322) rfl) Via.refl 1 7 rfl rfl sd_SE (Or.inr ⟨(mt (i := 323) rfl), rfl, rfl⟩) (mt (i := 2) rfl) (ty := (.object "java/util/List")) (by decide) rfl rfl 196 rfl (o_AY a582 (.int (0 : Int32)) :: o_SE a (.ref a381) (.ref a394) (.ref a407) .null (.int (0 : Int32)) (.int (0 : Int32)) .null (.ref a582) (.int (0 : Int32)) (.int (0 : Int32)) (.long (0 : Int64)) (.int (0 : Int32)) (.int (0 : Int32)) :: o_PC a381 (.ref b384) :: o_HM b384 (.int (0 : Int32)) .null :: o_PC a394 (.ref b397) :: o_HM b397 (.int (0 : Int32)) .null :: o_HS a407 (.ref b410) :: o_HM b410 (.int (0 : Int32)) .null :: F) rfl fun T591 J592 => ?_
  have J593 := J592.weak [1, 2, 3, 4, 5, 6, 7, 0] 8 (by decide) (lenLe F 8 rfl) (W' := o_SE a (.ref a381) (.ref a394) (.ref a407) .null (.int (0 : Int32)) (.int (0 : Int32)) .null (.ref a582) (.int (0 : Int32)) (.int (0 : Int32)) (.long (0 : Int64)) (.int (0 : Int32)) (.int (0 : Int32)) :: o_PC a381 (.ref b384) :: o_HM b384 (.int (0 : Int32)) .null :: o_PC a394 (.ref b397) :: o_HM b397 (.int (0 : Int32)) .null :: o_HS a407 (.ref b410) :: o_HM b410 (.int (0 : Int32)) .null :: o_AY a582 (.int (0 : Int32)) :: F) rfl
  refine p_aload_n J593 d30_196 rfl rfl 197 rfl ?_
  refine p_iconst J593 d30_197 (z := (1 : Int32)) rfl 198 rfl ?_
  refine i_putX J593 d30_198 (mt (i := 324) rfl) Via.refl 0 rfl kd_SE (ks := ks_SE) rfl (by decide) (Or.inl (mt (i := 325) rfl)) (mt (i := 2) rfl) (ty := .boolean) (by decide) rfl rfl 201 rfl fun T594 J595 => ?_
  refine p_aload_n J595 d30_201 rfl rfl 202 rfl ?_
  refine i_new J595 d30_202 (mt (i := 181) rfl) (mt (i := 98) rfl) (mt (i := 99) rfl) (by decide) (by decide) df_IH 42 390 rfl rfl 205 rfl fun a596 T597 J598 => ?_
  refine p_dup J598 d30_205 rfl 206 rfl ?_
  refine i_special J598 d30_206 rfl (mt (i := 182) rfl) (mt (i := 101) rfl) (mt (i := 99) rfl) (mt (i := 102) rfl) (by decide) (lenOf pd_0 rfl) (c_ih g a596 ) [0] [1, 2, 3, 4, 5, 6, 7, 8] 9 (by decide) (lenLe F 9 rfl) rfl 2 (by decide) (by decide) (by decide) (by decide) rfl (by show (2 : Nat) ≤ _; decide) _ rfl 43 454 rfl rfl 209 rfl fun v602 W603 T599 hQ601 J600 => ?_
  obtain ⟨rfl, rfl⟩ := hQ601
  have J604 := J600.norm (W' := o_SE a (.ref a381) (.ref a394) (.ref a407) .null (.int (0 : Int32)) (.int (0 : Int32)) .null (.ref a582) (.int (0 : Int32)) (.int (0 : Int32)) (.long (0 : Int64)) (.int (0 : Int32)) (.int (0 : Int32)) :: o_PC a381 (.ref b384) :: o_HM b384 (.int (0 : Int32)) .null :: o_PC a394 (.ref b397) :: o_HM b397 (.int (0 : Int32)) .null :: o_HS a407 (.ref b410) :: o_HM b410 (.int (0 : Int32)) .null :: o_AY a582 (.int (0 : Int32)) :: F) rfl
  show Run _ _ _ _ (State.setTop _ (mkF m 209 #[.val (.ref a), .val (.long (1 : Int64)), .second, .val (.long (0 : Int64)), .second, .val (.int (7 : Int32)), .val (.ref bs), .val (.int (0 : Int32)), .val (.int (0 : Int32)), .val (.int (0 : Int32))] [(.ref a596), (.ref a)]))
  refine i_putX J604 d30_209 (mt (i := 326) rfl) Via.refl 0 rfl kd_SE (ks := ks_SE) rfl (by decide) (Or.inr ⟨mt (i := 327) rfl, rfl, rfl⟩) (mt (i := 2) rfl) (ty := (.object "java/util/Map")) (by decide) rfl rfl 212 rfl fun T605 J606 => ?_
  have J607 := J606.weak [0, 1, 2, 3, 4, 5, 6, 7] 8 (by decide) (lenLe F 8 rfl) (W' := o_SE a (.ref a381) (.ref a394) (.ref a407) .null (.int (0 : Int32)) (.int (0 : Int32)) .null (.ref a582) (.int (0 : Int32)) (.int (0 : Int32)) (.long (0 : Int64)) (.int (0 : Int32)) (.int (0 : Int32)) :: o_PC a381 (.ref b384) :: o_HM b384 (.int (0 : Int32)) .null :: o_PC a394 (.ref b397) :: o_HM b397 (.int (0 : Int32)) .null :: o_HS a407 (.ref b410) :: o_HM b410 (.int (0 : Int32)) .null :: o_AY a582 (.int (0 : Int32)) :: F) rfl
  refine p_aload_n J607 d30_212 rfl rfl 213 rfl ?_
  refine p_bipush J607 d30_213 (z := (16 : Int32)) rfl 215 rfl ?_
  refine i_newR J607 d30_215 (mt (i := 328) rfl) (mt (i := 329) rfl) (by decide) 16 (by decide) (by decide) (by decide) (by decide) [.null, .null] (pad_rep [] .null 2) 44 470 rfl rfl 218 rfl fun a608 k609 T610 J611 => ?_
  refine i_put J611 d30_218 (mt (i := 330) rfl) Via.refl 1 3 rfl rfl sd_SE (Or.inl (mt (i := 331) rfl)) (mt (i := 2) rfl) (ty := (.array (.object "com/example/lockstep/lockstep/core/ChoicePoint"))) (by decide) rfl rfl 221 rfl ((a608, true, .inr (k609, (.object "com/example/lockstep/lockstep/core/ChoicePoint"), (16 : Int32), [.null, .null], .null)) :: o_SE a (.ref a381) (.ref a394) (.ref a407) (.ref a608) (.int (0 : Int32)) (.int (0 : Int32)) .null (.ref a582) (.int (0 : Int32)) (.int (0 : Int32)) (.long (0 : Int64)) (.int (0 : Int32)) (.int (0 : Int32)) :: o_PC a381 (.ref b384) :: o_HM b384 (.int (0 : Int32)) .null :: o_PC a394 (.ref b397) :: o_HM b397 (.int (0 : Int32)) .null :: o_HS a407 (.ref b410) :: o_HM b410 (.int (0 : Int32)) .null :: o_AY a582 (.int (0 : Int32)) :: F) rfl fun T612 J613 => ?_
  refine p_aload_n J613 d30_221 rfl rfl 222 rfl ?_
  refine p_iconst J613 d30_222 (z := (-1 : Int32)) rfl 223 rfl ?_
  refine i_putX J613 d30_223 (mt (i := 332) rfl) Via.refl 1 rfl kd_SE (ks := ks_SE) rfl (by decide) (Or.inl (mt (i := 333) rfl)) (mt (i := 2) rfl) (ty := .int) (by decide) rfl rfl 226 rfl fun T614 J615 => ?_
  refine p_aload_n J615 d30_226 rfl rfl 227 rfl ?_
  refine p_iconst J615 d30_227 (z := (-1 : Int32)) rfl 228 rfl ?_
  refine i_put J615 d30_228 (mt (i := 334) rfl) Via.refl 1 5 rfl rfl sd_SE (Or.inl (mt (i := 335) rfl)) (mt (i := 2) rfl) (ty := .int) (by decide) rfl rfl 231 rfl ((a608, true, .inr (k609, (.object "com/example/lockstep/lockstep/core/ChoicePoint"), (16 : Int32), [.null, .null], .null)) :: o_SE a (.ref a381) (.ref a394) (.ref a407) (.ref a608) (.int (0 : Int32)) (.int (-1 : Int32)) .null (.ref a582) (.int (0 : Int32)) (.int (0 : Int32)) (.long (0 : Int64)) (.int (0 : Int32)) (.int (0 : Int32)) :: o_PC a381 (.ref b384) :: o_HM b384 (.int (0 : Int32)) .null :: o_PC a394 (.ref b397) :: o_HM b397 (.int (0 : Int32)) .null :: o_HS a407 (.ref b410) :: o_HM b410 (.int (0 : Int32)) .null :: o_AY a582 (.int (0 : Int32)) :: F) rfl fun T616 J617 => ?_
  refine p_aload_n J617 d30_231 rfl rfl 232 rfl ?_
  refine i_new J617 d30_232 (mt (i := 160) rfl) (mt (i := 161) rfl) (mt (i := 162) rfl) (by decide) (by decide) df_AY 45 473 rfl rfl 235 rfl fun a618 T619 J620 => ?_
  refine p_dup J620 d30_235 rfl 236 rfl ?_
  refine i_special J620 d30_236 rfl (mt (i := 163) rfl) (mt (i := 164) rfl) (mt (i := 162) rfl) (mt (i := 165) rfl) (by decide) (lenOf pd_0 rfl) (c_ay g a618 dc hDC) [0] [1, 2, 3, 4, 5, 6, 7, 8, 9] 10 (by decide) (lenLe F 10 rfl) rfl 2 (by decide) (by decide) (by decide) (by decide) rfl (by show (2 : Nat) ≤ _; decide) _ rfl 45 473 rfl rfl 239 rfl fun v624 W625 T621 hQ623 J622 => ?_
  obtain ⟨rfl, rfl⟩ := hQ623
  have J626 := J622.norm (W' := o_AY a618 (.int (0 : Int32)) :: (a608, true, .inr (k609, (.object "com/example/lockstep/lockstep/core/ChoicePoint"), (16 : Int32), [.null, .null], .null)) :: o_SE a (.ref a381) (.ref a394) (.ref a407) (.ref a608) (.int (0 : Int32)) (.int (-1 : Int32)) .null (.ref a582) (.int (0 : Int32)) (.int (0 : Int32)) (.long (0 : Int64)) (.int (0 : Int32)) (.int (0 : Int32)) :: o_PC a381 (.ref b384) :: o_HM b384 (.int (0 : Int32)) .null :: o_PC a394 (.ref b397) :: o_HM b397 (.int (0 : Int32)) .null :: o_HS a407 (.ref b410) :: o_HM b410 (.int (0 : Int32)) .null :: o_AY a582 (.int (0 : Int32)) :: F) rfl
  show Run _ _ _ _ (State.setTop _ (mkF m 239 #[.val (.ref a), .val (.long (1 : Int64)), .second, .val (.long (0 : Int64)), .second, .val (.int (7 : Int32)), .val (.ref bs), .val (.int (0 : Int32)), .val (.int (0 : Int32)), .val (.int (0 : Int32))] [(.ref a618), (.ref a)]))
  refine i_put J626 d30_239 (mt (i := 336) rfl) Via.refl 2 6 rfl rfl sd_SE (Or.inr ⟨(mt (i := 337) rfl), rfl, rfl⟩) (mt (i := 2) rfl) (ty := (.object "java/util/List")) (by decide) rfl rfl 242 rfl (o_AY a618 (.int (0 : Int32)) :: (a608, true, .inr (k609, (.object "com/example/lockstep/lockstep/core/ChoicePoint"), (16 : Int32), [.null, .null], .null)) :: o_SE a (.ref a381) (.ref a394) (.ref a407) (.ref a608) (.int (0 : Int32)) (.int (-1 : Int32)) (.ref a618) (.ref a582) (.int (0 : Int32)) (.int (0 : Int32)) (.long (0 : Int64)) (.int (0 : Int32)) (.int (0 : Int32)) :: o_PC a381 (.ref b384) :: o_HM b384 (.int (0 : Int32)) .null :: o_PC a394 (.ref b397) :: o_HM b397 (.int (0 : Int32)) .null :: o_HS a407 (.ref b410) :: o_HM b410 (.int (0 : Int32)) .null :: o_AY a582 (.int (0 : Int32)) :: F) rfl fun T627 J628 => ?_
  have J629 := J628.weak [2, 3, 4, 5, 6, 7, 8, 9, 1, 0] 10 (by decide) (lenLe F 10 rfl) (W' := o_SE a (.ref a381) (.ref a394) (.ref a407) (.ref a608) (.int (0 : Int32)) (.int (-1 : Int32)) (.ref a618) (.ref a582) (.int (0 : Int32)) (.int (0 : Int32)) (.long (0 : Int64)) (.int (0 : Int32)) (.int (0 : Int32)) :: o_PC a381 (.ref b384) :: o_HM b384 (.int (0 : Int32)) .null :: o_PC a394 (.ref b397) :: o_HM b397 (.int (0 : Int32)) .null :: o_HS a407 (.ref b410) :: o_HM b410 (.int (0 : Int32)) .null :: o_AY a582 (.int (0 : Int32)) :: (a608, true, .inr (k609, (.object "com/example/lockstep/lockstep/core/ChoicePoint"), (16 : Int32), [.null, .null], .null)) :: o_AY a618 (.int (0 : Int32)) :: F) rfl
  refine p_aload_n J629 d30_242 rfl rfl 243 rfl ?_
  refine p_lload_n J629 d30_243 rfl 244 rfl ?_
  refine i_putX J629 d30_244 (mt (i := 338) rfl) Via.refl 0 rfl kd_SE (ks := ks_SE) rfl (by decide) (Or.inr ⟨mt (i := 339) rfl, rfl, rfl⟩) (mt (i := 2) rfl) (ty := .long) (by decide) rfl rfl 247 rfl fun T630 J631 => ?_
  refine p_aload_n J631 d30_247 rfl rfl 248 rfl ?_
  refine p_lload_n J631 d30_248 rfl 249 rfl ?_
  refine i_putX J631 d30_249 (mt (i := 340) rfl) Via.refl 0 rfl kd_SE (ks := ks_SE) rfl (by decide) (Or.inl (mt (i := 341) rfl)) (mt (i := 2) rfl) (ty := .long) (by decide) rfl rfl 252 rfl fun T632 J633 => ?_
  refine p_aload_n J633 d30_252 rfl rfl 253 rfl ?_
  refine p_iload J633 d30_253 rfl 255 rfl ?_
  refine i_putX J633 d30_255 (mt (i := 342) rfl) Via.refl 0 rfl kd_SE (ks := ks_SE) rfl (by decide) (Or.inr ⟨mt (i := 343) rfl, rfl, rfl⟩) (mt (i := 2) rfl) (ty := .int) (by decide) rfl rfl 258 rfl fun T634 J635 => ?_
  refine p_aload_n J635 d30_258 rfl rfl 259 rfl ?_
  refine p_aload J635 d30_259 rfl rfl 261 rfl ?_
  refine i_putX J635 d30_261 (mt (i := 344) rfl) Via.refl 0 rfl kd_SE (ks := ks_SE) rfl (by decide) (Or.inr ⟨mt (i := 345) rfl, rfl, rfl⟩) (mt (i := 2) rfl) (ty := (.object "java/util/BitSet")) (by decide) rfl rfl 264 rfl fun T636 J637 => ?_
  refine p_aload_n J637 d30_264 rfl rfl 265 rfl ?_
  refine p_iload J637 d30_265 rfl 267 rfl ?_
  refine i_putX J637 d30_267 (mt (i := 346) rfl) Via.refl 0 rfl kd_SE (ks := ks_SE) rfl (by decide) (Or.inr ⟨mt (i := 347) rfl, rfl, rfl⟩) (mt (i := 2) rfl) (ty := .boolean) (by decide) rfl rfl 270 rfl fun T638 J639 => ?_
  refine p_aload_n J639 d30_270 rfl rfl 271 rfl ?_
  refine p_iload J639 d30_271 rfl 273 rfl ?_
  refine i_putX J639 d30_273 (mt (i := 348) rfl) Via.refl 0 rfl kd_SE (ks := ks_SE) rfl (by decide) (Or.inr ⟨mt (i := 349) rfl, rfl, rfl⟩) (mt (i := 2) rfl) (ty := .boolean) (by decide) rfl rfl 276 rfl fun T640 J641 => ?_
  refine p_aload_n J641 d30_276 rfl rfl 277 rfl ?_
  refine p_iload J641 d30_277 rfl 279 rfl ?_
  refine i_putX J641 d30_279 (mt (i := 350) rfl) Via.refl 0 rfl kd_SE (ks := ks_SE) rfl (by decide) (Or.inr ⟨mt (i := 351) rfl, rfl, rfl⟩) (mt (i := 2) rfl) (ty := .boolean) (by decide) rfl rfl 282 rfl fun T642 J643 => ?_
  have J644 := J643.weak [0, 1, 2, 3, 4, 5, 6, 8, 9, 7] 10 (by decide) (lenLe F 10 rfl) (W' := o_SE a (.ref a381) (.ref a394) (.ref a407) (.ref a608) (.int (0 : Int32)) (.int (-1 : Int32)) (.ref a618) (.ref a582) (.int (0 : Int32)) (.int (0 : Int32)) (.long (0 : Int64)) (.int (0 : Int32)) (.int (0 : Int32)) :: o_PC a381 (.ref b384) :: o_HM b384 (.int (0 : Int32)) .null :: o_PC a394 (.ref b397) :: o_HM b397 (.int (0 : Int32)) .null :: o_HS a407 (.ref b410) :: o_HM b410 (.int (0 : Int32)) .null :: (a608, true, .inr (k609, (.object "com/example/lockstep/lockstep/core/ChoicePoint"), (16 : Int32), [.null, .null], .null)) :: o_AY a618 (.int (0 : Int32)) :: o_AY a582 (.int (0 : Int32)) :: F) rfl
  exact r_void J644 d30_282 rfl (by decide) (by decide) (Wf := [o_SE a (.ref a381) (.ref a394) (.ref a407) (.ref a608) (.int (0 : Int32)) (.int (-1 : Int32)) (.ref a618) (.ref a582) (.int (0 : Int32)) (.int (0 : Int32)) (.long (0 : Int64)) (.int (0 : Int32)) (.int (0 : Int32)), o_PC a381 (.ref b384), o_HM b384 (.int (0 : Int32)) .null, o_PC a394 (.ref b397), o_HM b397 (.int (0 : Int32)) .null, o_HS a407 (.ref b410), o_HM b410 (.int (0 : Int32)) .null, (a608, true, .inr (k609, (.object "com/example/lockstep/lockstep/core/ChoicePoint"), (16 : Int32), [.null, .null], .null)), o_AY a618 (.int (0 : Int32)), o_AY a582 (.int (0 : Int32))]) rfl ⟨a381, b384, a394, b397, a407, b410, a608, k609, a618, a582, rfl, rfl⟩
theorem d31_0 : decode prog_206_method_1_code 0 = .ok (.aload_n 0, 1) := by decide +kernel
theorem d31_1 : decode prog_206_method_1_code 1 = .ok (.lload_n 1, 1) := by decide +kernel
theorem d31_2 : decode prog_206_method_1_code 2 = .ok (.lconst 0, 1) := by decide +kernel
theorem d31_3 : decode prog_206_method_1_code 3 = .ok (.bipush 7, 2) := by decide +kernel
theorem d31_5 : decode prog_206_method_1_code 5 = .ok (.new 3, 3) := by decide +kernel
theorem d31_8 : decode prog_206_method_1_code 8 = .ok (.dup, 1) := by decide +kernel
theorem d31_9 : decode prog_206_method_1_code 9 = .ok (.invokespecial 5, 3) := by decide +kernel
theorem d31_12 : decode prog_206_method_1_code 12 = .ok (.iconst 0, 1) := by decide +kernel
theorem d31_13 : decode prog_206_method_1_code 13 = .ok (.iconst 0, 1) := by decide +kernel
theorem d31_14 : decode prog_206_method_1_code 14 = .ok (.iconst 0, 1) := by decide +kernel
theorem d31_15 : decode prog_206_method_1_code 15 = .ok (.invokespecial 9, 3) := by decide +kernel
theorem pd_15 : parseMethodDescriptor "(JJILjava/util/BitSet;ZZZ)V" = some ⟨[.long, .long, .int, (.object "java/util/BitSet"), .boolean, .boolean, .boolean], none⟩ := by decide +kernel
theorem d31_18 : decode prog_206_method_1_code 18 = .ok (.return_, 1) := by decide +kernel
theorem pn_search1 : plainFor (⟨"com/example/lockstep/lockstep/core/Search", "<init>", "(J)V"⟩ : MethodName) = true := by first | exact plainFor_of_name (by first | (simp [plainName, overriddenIn]; done) | decide +kernel) | exact Jvm.Free.JP.mathPlain rfl (by decide +kernel) | decide +kernel
set_option maxRecDepth 65536 in
set_option maxHeartbeats 40000000 in
theorem c_search1 {l : Launch} {Z : State} {a0 : Array Value} {EL : List (String × Nat)} (g : GC Z a0 EL) (a : Addr) (dc : Addr) (hDC : Sta Z Z.heap "java/util/ArrayList" "DEFAULTCAPACITY_EMPTY_ELEMENTDATA" "[Ljava/lang/Object;" (.ref dc)) (mS mA : Addr) (hMS : Mir Z "java/util/Collections$SingletonList" mS) (hMA : Mir Z "java/util/ArrayList" mA) (mO : Addr) (hO : Mir Z "[Ljava/lang/Object;" mO) : Con l Z EL (⟨"com/example/lockstep/lockstep/core/Search", "<init>", "(J)V"⟩ : MethodName) prog_206_method_1_code 3 none { frames := 8, cells := 47, slots := 477, locals := 116 } [(.ref a), (.long (1 : Int64))] [o_SE a .null .null .null .null (.int (0 : Int32)) (.int (0 : Int32)) .null .null (.int (0 : Int32)) (.int (0 : Int32)) (.long (0 : Int64)) (.int (0 : Int32)) (.int (0 : Int32))] (fun v W' => ∃ (po : Addr) (po1 : Addr) (wb : Addr) (wb1 : Addr) (ls : Addr) (ls1 : Addr) (pts : Addr) (kp : ClassId) (sv : Addr) (pt : Addr), v = none ∧ W' = [o_SE a (.ref po) (.ref wb) (.ref ls) (.ref pts) (.int (0 : Int32)) (.int (-1 : Int32)) (.ref sv) (.ref pt) (.int (0 : Int32)) (.int (0 : Int32)) (.long (0 : Int64)) (.int (0 : Int32)) (.int (0 : Int32)), o_PC po (.ref po1), o_HM po1 (.int (0 : Int32)) .null, o_PC wb (.ref wb1), o_HM wb1 (.int (0 : Int32)) .null, o_HS ls (.ref ls1), o_HM ls1 (.int (0 : Int32)) .null, (pts, true, .inr (kp, (.object "com/example/lockstep/lockstep/core/ChoicePoint"), (16 : Int32), [.null, .null], .null)), o_AY sv (.int (0 : Int32)), o_AY pt (.int (0 : Int32))]) := by
  refine Con.mk g pn_search1 (Ls := #[.val (.ref a), .val (.long (1 : Int64)), .second]) (fun m => by first | (simp [entryFrame, mkF, argsToLocals, Value.category]; done) | rfl) ?_
  intro p e s m below meth c T0 F J0
  refine p_aload_n J0 d31_0 rfl rfl 1 rfl ?_
  refine p_lload_n J0 d31_1 rfl 2 rfl ?_
  refine p_lconst J0 d31_2 (z := (0 : Int64)) rfl 3 rfl ?_
  refine p_bipush J0 d31_3 (z := (7 : Int32)) rfl 5 rfl ?_
  refine i_new J0 d31_5 (mt (i := 7) rfl) (mt (i := 8) rfl) (mt (i := 9) rfl) (by decide) (by decide) df_BS 1 3 rfl rfl 8 rfl fun a645 T646 J647 => ?_
  refine p_dup J647 d31_8 rfl 9 rfl ?_
  refine i_special J647 d31_9 rfl (mt (i := 10) rfl) (mt (i := 11) rfl) (mt (i := 9) rfl) (mt (i := 12) rfl) (by decide) (lenOf pd_0 rfl) (c_bs g a645 ) [0] [1] 2 (by decide) (lenLe F 2 rfl) rfl 7 (by decide) (by decide) (by decide) (by decide) rfl (by show (7 : Nat) ≤ _; decide) _ rfl 2 4 rfl rfl 12 rfl fun v651 W652 T648 hQ650 J649 => ?_
  obtain ⟨rfl, rfl⟩ := hQ650
  have J653 := J649.norm (W' := o_SE a .null .null .null .null (.int (0 : Int32)) (.int (0 : Int32)) .null .null (.int (0 : Int32)) (.int (0 : Int32)) (.long (0 : Int64)) (.int (0 : Int32)) (.int (0 : Int32)) :: F) rfl
  show Run _ _ _ _ (State.setTop _ (mkF m 12 #[.val (.ref a), .val (.long (1 : Int64)), .second] [(.ref a645), (.int (7 : Int32)), (.long (0 : Int64)), (.long (1 : Int64)), (.ref a)]))
  refine p_iconst J653 d31_12 (z := (0 : Int32)) rfl 13 rfl ?_
  refine p_iconst J653 d31_13 (z := (0 : Int32)) rfl 14 rfl ?_
  refine p_iconst J653 d31_14 (z := (0 : Int32)) rfl 15 rfl ?_
  refine i_special J653 d31_15 rfl (mt (i := 31) rfl) (mt (i := 32) rfl) (mt (i := 3) rfl) (mt (i := 33) rfl) (by decide) (lenOf pd_15 rfl) (c_search2 g a a645 dc hDC mS mA hMS hMA mO hO) [0] [] 1 (by decide) (lenLe F 1 rfl) rfl 0 (by decide) (by decide) (by decide) (by decide) rfl (by show (0 : Nat) ≤ _; decide) _ rfl 47 477 rfl rfl 18 rfl fun v667 W668 T664 hQ666 J665 => ?_
  obtain ⟨po654, po1655, wb656, wb1657, ls658, ls1659, pts660, kp661, sv662, pt663, rfl, rfl⟩ := hQ666
  have J669 := J665.norm (W' := o_SE a (.ref po654) (.ref wb656) (.ref ls658) (.ref pts660) (.int (0 : Int32)) (.int (-1 : Int32)) (.ref sv662) (.ref pt663) (.int (0 : Int32)) (.int (0 : Int32)) (.long (0 : Int64)) (.int (0 : Int32)) (.int (0 : Int32)) :: o_PC po654 (.ref po1655) :: o_HM po1655 (.int (0 : Int32)) .null :: o_PC wb656 (.ref wb1657) :: o_HM wb1657 (.int (0 : Int32)) .null :: o_HS ls658 (.ref ls1659) :: o_HM ls1659 (.int (0 : Int32)) .null :: (pts660, true, .inr (kp661, (.object "com/example/lockstep/lockstep/core/ChoicePoint"), (16 : Int32), [.null, .null], .null)) :: o_AY sv662 (.int (0 : Int32)) :: o_AY pt663 (.int (0 : Int32)) :: F) rfl
  show Run _ _ _ _ (State.setTop _ (mkF m 18 #[.val (.ref a), .val (.long (1 : Int64)), .second] []))
  exact r_void J669 d31_18 rfl (by decide) (by decide) (Wf := [o_SE a (.ref po654) (.ref wb656) (.ref ls658) (.ref pts660) (.int (0 : Int32)) (.int (-1 : Int32)) (.ref sv662) (.ref pt663) (.int (0 : Int32)) (.int (0 : Int32)) (.long (0 : Int64)) (.int (0 : Int32)) (.int (0 : Int32)), o_PC po654 (.ref po1655), o_HM po1655 (.int (0 : Int32)) .null, o_PC wb656 (.ref wb1657), o_HM wb1657 (.int (0 : Int32)) .null, o_HS ls658 (.ref ls1659), o_HM ls1659 (.int (0 : Int32)) .null, (pts660, true, .inr (kp661, (.object "com/example/lockstep/lockstep/core/ChoicePoint"), (16 : Int32), [.null, .null], .null)), o_AY sv662 (.int (0 : Int32)), o_AY pt663 (.int (0 : Int32))]) rfl ⟨po654, po1655, wb656, wb1657, ls658, ls1659, pts660, kp661, sv662, pt663, rfl, rfl⟩
theorem d32_0 : decode jdk_31_method_11_code 0 = .ok (.aload_n 0, 1) := by decide +kernel
theorem d32_1 : decode jdk_31_method_11_code 1 = .ok (.ifnonnull 12, 3) := by decide +kernel
theorem d32_13 : decode jdk_31_method_11_code 13 = .ok (.aload_n 0, 1) := by decide +kernel
theorem d32_14 : decode jdk_31_method_11_code 14 = .ok (.areturn, 1) := by decide +kernel
theorem pn_rnn : plainFor (⟨"java/util/Objects", "requireNonNull", "(Ljava/lang/Object;Ljava/lang/String;)Ljava/lang/Object;"⟩ : MethodName) = true := by first | exact plainFor_of_name (by first | (simp [plainName, overriddenIn]; done) | decide +kernel) | exact Jvm.Free.JP.mathPlain rfl (by decide +kernel) | decide +kernel
set_option maxRecDepth 65536 in
set_option maxHeartbeats 40000000 in
theorem c_rnn {l : Launch} {Z : State} {a0 : Array Value} {EL : List (String × Nat)} (g : GC Z a0 EL) (q : Addr) (z : Addr)  : Con l Z EL (⟨"java/util/Objects", "requireNonNull", "(Ljava/lang/Object;Ljava/lang/String;)Ljava/lang/Object;"⟩ : MethodName) jdk_31_method_11_code 2 (some (.object "java/lang/Object")) { frames := 0, cells := 0, slots := 0, locals := 0 } [(.ref q), (.ref z)] [] (fun v W' => v = some (.ref q) ∧ W' = []) := by
  refine Con.mk g pn_rnn (Ls := #[.val (.ref q), .val (.ref z)]) (fun m => by first | (simp [entryFrame, mkF, argsToLocals, Value.category]; done) | rfl) ?_
  intro p e s m below meth c T0 F J0
  refine p_aload_n J0 d32_0 rfl rfl 1 rfl ?_
  refine p_ifnonnull_y J0 d32_1 13 (by decide) (by decide) ?_
  refine p_aload_n J0 d32_13 rfl rfl 14 rfl ?_
  exact r_val J0 d32_14 (t := (.object "java/lang/Object")) rfl rfl (Or.inr (Or.inr (Or.inr (Or.inr ⟨rfl, rfl, rfl⟩)))) (by decide) (by decide) (Wf := []) rfl ⟨rfl, rfl⟩
theorem d33_0 : decode jdk_42_method_55_code 0 = .ok (.aload_n 0, 1) := by decide +kernel
theorem d33_1 : decode jdk_42_method_55_code 1 = .ok (.getfield 9, 3) := by decide +kernel
theorem d33_4 : decode jdk_42_method_55_code 4 = .ok (.arraylength, 1) := by decide +kernel
theorem d33_5 : decode jdk_42_method_55_code 5 = .ok (.ifCond .ne 7, 3) := by decide +kernel
theorem d33_12 : decode jdk_42_method_55_code 12 = .ok (.iconst 0, 1) := by decide +kernel
theorem d33_13 : decode jdk_42_method_55_code 13 = .ok (.ireturn, 1) := by decide +kernel
theorem pn_isEmpty : plainFor (⟨"java/lang/String", "isEmpty", "()Z"⟩ : MethodName) = true := by first | exact plainFor_of_name (by first | (simp [plainName, overriddenIn]; done) | decide +kernel) | exact Jvm.Free.JP.mathPlain rfl (by decide +kernel) | decide +kernel
set_option maxRecDepth 65536 in
set_option maxHeartbeats 40000000 in
theorem c_isEmpty {l : Launch} {Z : State} {a0 : Array Value} {EL : List (String × Nat)} (g : GC Z a0 EL) (st : Addr) (sb : Addr) (ks : ClassId)  : Con l Z EL (⟨"java/lang/String", "isEmpty", "()Z"⟩ : MethodName) jdk_42_method_55_code 1 (some .boolean) { frames := 0, cells := 0, slots := 0, locals := 0 } [(.ref st)] [(st, false, (o_Str st (.ref sb) (.int (0 : Int32))).2.2), (sb, false, .inr (ks, .byte, (1 : Int32), [(.int (102 : Int32))], (.int (0 : Int32))))] (fun v W' => v = some (.int (0 : Int32)) ∧ W' = [(st, false, (o_Str st (.ref sb) (.int (0 : Int32))).2.2), (sb, false, .inr (ks, .byte, (1 : Int32), [(.int (102 : Int32))], (.int (0 : Int32))))]) := by
  refine Con.mk g pn_isEmpty (Ls := #[.val (.ref st)]) (fun m => by first | (simp [entryFrame, mkF, argsToLocals, Value.category]; done) | rfl) ?_
  intro p e s m below meth c T0 F J0
  refine p_aload_n J0 d33_0 rfl rfl 1 rfl ?_
  refine i_get J0 d33_1 (mt (i := 382) rfl) Via.refl 0 0 rfl rfl 4 rfl fun T670 J671 => ?_
  refine i_len J671 d33_4 1 rfl 5 rfl ?_
  refine p_if_y J671 d33_5 (by decide) 12 (by decide) (by decide) ?_
  refine p_iconst J671 d33_12 (z := (0 : Int32)) rfl 13 rfl ?_
  exact r_val J671 d33_13 (t := .boolean) rfl rfl (Or.inl ⟨rfl, by simp, _, rfl⟩) (by decide) (by decide) (Wf := [(st, false, (o_Str st (.ref sb) (.int (0 : Int32))).2.2), (sb, false, .inr (ks, .byte, (1 : Int32), [(.int (102 : Int32))], (.int (0 : Int32))))]) rfl ⟨rfl, rfl⟩
theorem d34_0 : decode prog_359_method_1_code 0 = .ok (.aload_n 0, 1) := by decide +kernel
theorem d34_1 : decode prog_359_method_1_code 1 = .ok (.invokespecial 1, 3) := by decide +kernel
theorem d34_4 : decode prog_359_method_1_code 4 = .ok (.aload_n 1, 1) := by decide +kernel
theorem d34_5 : decode prog_359_method_1_code 5 = .ok (.invokevirtual 7, 3) := by decide +kernel
theorem d34_8 : decode prog_359_method_1_code 8 = .ok (.ifCond .eq 13, 3) := by decide +kernel
theorem d34_21 : decode prog_359_method_1_code 21 = .ok (.iload_n 2, 1) := by decide +kernel
theorem d34_22 : decode prog_359_method_1_code 22 = .ok (.iconst 1, 1) := by decide +kernel
theorem d34_23 : decode prog_359_method_1_code 23 = .ok (.if_icmp .ge 17, 3) := by decide +kernel
theorem d34_40 : decode prog_359_method_1_code 40 = .ok (.iload_n 3, 1) := by decide +kernel
theorem d34_41 : decode prog_359_method_1_code 41 = .ok (.iconst 1, 1) := by decide +kernel
theorem d34_42 : decode prog_359_method_1_code 42 = .ok (.if_icmp .ge 17, 3) := by decide +kernel
theorem d34_59 : decode prog_359_method_1_code 59 = .ok (.aload_n 0, 1) := by decide +kernel
theorem d34_60 : decode prog_359_method_1_code 60 = .ok (.aload_n 1, 1) := by decide +kernel
theorem d34_61 : decode prog_359_method_1_code 61 = .ok (.putfield 25, 3) := by decide +kernel
theorem d34_64 : decode prog_359_method_1_code 64 = .ok (.aload_n 0, 1) := by decide +kernel
theorem d34_65 : decode prog_359_method_1_code 65 = .ok (.iload_n 2, 1) := by decide +kernel
theorem d34_66 : decode prog_359_method_1_code 66 = .ok (.putfield 31, 3) := by decide +kernel
theorem d34_69 : decode prog_359_method_1_code 69 = .ok (.aload_n 0, 1) := by decide +kernel
theorem d34_70 : decode prog_359_method_1_code 70 = .ok (.iload_n 3, 1) := by decide +kernel
theorem d34_71 : decode prog_359_method_1_code 71 = .ok (.putfield 35, 3) := by decide +kernel
theorem d34_74 : decode prog_359_method_1_code 74 = .ok (.return_, 1) := by decide +kernel
theorem pn_loc : plainFor (⟨"com/example/lockstep/lockstep/core/value/SourceLocation", "<init>", "(Ljava/lang/String;II)V"⟩ : MethodName) = true := by first | exact plainFor_of_name (by first | (simp [plainName, overriddenIn]; done) | decide +kernel) | exact Jvm.Free.JP.mathPlain rfl (by decide +kernel) | decide +kernel
set_option maxRecDepth 65536 in
set_option maxHeartbeats 40000000 in
theorem c_loc {l : Launch} {Z : State} {a0 : Array Value} {EL : List (String × Nat)} (g : GC Z a0 EL) (a : Addr) (st : Addr) (sb : Addr) (ks : ClassId)  : Con l Z EL (⟨"com/example/lockstep/lockstep/core/value/SourceLocation", "<init>", "(Ljava/lang/String;II)V"⟩ : MethodName) prog_359_method_1_code 4 none { frames := 1, cells := 0, slots := 0, locals := 12 } [(.ref a), (.ref st), (.int (1 : Int32)), (.int (1 : Int32))] [o_LO a , (st, false, (o_Str st (.ref sb) (.int (0 : Int32))).2.2), (sb, false, .inr (ks, .byte, (1 : Int32), [(.int (102 : Int32))], (.int (0 : Int32))))] (fun v W' => v = none ∧ W' = [o_LO a ]) := by
  refine Con.mk g pn_loc (Ls := #[.val (.ref a), .val (.ref st), .val (.int (1 : Int32)), .val (.int (1 : Int32))]) (fun m => by first | (simp [entryFrame, mkF, argsToLocals, Value.category]; done) | rfl) ?_
  intro p e s m below meth c T0 F J0
  refine p_aload_n J0 d34_0 rfl rfl 1 rfl ?_
  refine i_initO J0 d34_1 (mt (i := 376) rfl) (mt (i := 14) rfl) (mt (i := 15) rfl) rfl (by decide) (by show (12 : Nat) ≤ _; decide) 4 rfl fun T672 J673 => ?_
  refine p_aload_n J673 d34_4 rfl rfl 5 rfl ?_
  refine i_virtual J673 d34_5 (mt (i := 377) rfl) (mt (i := 378) rfl) (nfSel (mt (i := 380) rfl)) (mt (i := 380) rfl) (mt (i := 379) rfl) (mt (i := 353) rfl) (mt (i := 381) rfl) (by decide) (lenOf pd_8 rfl) 1 rfl (c_isEmpty g st sb ks ) [1, 2] [0] 3 (by decide) (lenLe F 3 rfl) rfl 0 (by decide) (by decide) (by decide) (by decide) rfl (by show (0 : Nat) ≤ _; decide) _ rfl 0 0 rfl rfl 8 rfl fun v677 W678 T674 hQ676 J675 => ?_
  obtain ⟨rfl, rfl⟩ := hQ676
  have J679 := J675.norm (W' := (st, false, (o_Str st (.ref sb) (.int (0 : Int32))).2.2) :: (sb, false, .inr (ks, .byte, (1 : Int32), [(.int (102 : Int32))], (.int (0 : Int32)))) :: o_LO a  :: F) rfl
  show Run _ _ _ _ (State.setTop _ (mkF m 8 #[.val (.ref a), .val (.ref st), .val (.int (1 : Int32)), .val (.int (1 : Int32))] [(.int (0 : Int32))]))
  refine p_if_y J679 d34_8 (by decide) 21 (by decide) (by decide) ?_
  refine p_iload_n J679 d34_21 rfl 22 rfl ?_
  refine p_iconst J679 d34_22 (z := (1 : Int32)) rfl 23 rfl ?_
  refine p_icmp_y J679 d34_23 (by decide) 40 (by decide) (by decide) ?_
  refine p_iload_n J679 d34_40 rfl 41 rfl ?_
  refine p_iconst J679 d34_41 (z := (1 : Int32)) rfl 42 rfl ?_
  refine p_icmp_y J679 d34_42 (by decide) 59 (by decide) (by decide) ?_
  refine p_aload_n J679 d34_59 rfl rfl 60 rfl ?_
  refine p_aload_n J679 d34_60 rfl rfl 61 rfl ?_
  refine i_putX J679 d34_61 (mt (i := 383) rfl) Via.refl 2 rfl kd_LO (ks := ks_LO) rfl (by decide) (Or.inr ⟨mt (i := 384) rfl, rfl, rfl⟩) (mt (i := 365) rfl) (ty := (.object "java/lang/String")) (by decide) rfl rfl 64 rfl fun T680 J681 => ?_
  refine p_aload_n J681 d34_64 rfl rfl 65 rfl ?_
  refine p_iload_n J681 d34_65 rfl 66 rfl ?_
  refine i_putX J681 d34_66 (mt (i := 385) rfl) Via.refl 2 rfl kd_LO (ks := ks_LO) rfl (by decide) (Or.inr ⟨mt (i := 386) rfl, rfl, rfl⟩) (mt (i := 365) rfl) (ty := .int) (by decide) rfl rfl 69 rfl fun T682 J683 => ?_
  refine p_aload_n J683 d34_69 rfl rfl 70 rfl ?_
  refine p_iload_n J683 d34_70 rfl 71 rfl ?_
  refine i_putX J683 d34_71 (mt (i := 387) rfl) Via.refl 2 rfl kd_LO (ks := ks_LO) rfl (by decide) (Or.inr ⟨mt (i := 388) rfl, rfl, rfl⟩) (mt (i := 365) rfl) (ty := .int) (by decide) rfl rfl 74 rfl fun T684 J685 => ?_
  have J686 := J685.weak [2] 3 (by decide) (lenLe F 3 rfl) (W' := o_LO a  :: F) rfl
  exact r_void J686 d34_74 rfl (by decide) (by decide) (Wf := [o_LO a ]) rfl ⟨rfl, rfl⟩
theorem d35_0 : decode prog_359_method_2_code 0 = .ok (.new 26, 3) := by decide +kernel
theorem d35_3 : decode prog_359_method_2_code 3 = .ok (.dup, 1) := by decide +kernel
theorem d35_4 : decode prog_359_method_2_code 4 = .ok (.aload_n 0, 1) := by decide +kernel
theorem d35_5 : decode prog_359_method_2_code 5 = .ok (.ldc 38, 2) := by decide +kernel
theorem d35_7 : decode prog_359_method_2_code 7 = .ok (.invokestatic 39, 3) := by decide +kernel
theorem pd_16 : parseMethodDescriptor "(Ljava/lang/Object;Ljava/lang/String;)Ljava/lang/Object;" = some ⟨[(.object "java/lang/Object"), (.object "java/lang/String")], some (.object "java/lang/Object")⟩ := by decide +kernel
theorem d35_10 : decode prog_359_method_2_code 10 = .ok (.checkcast 8, 3) := by decide +kernel
theorem d35_13 : decode prog_359_method_2_code 13 = .ok (.iload_n 1, 1) := by decide +kernel
theorem d35_14 : decode prog_359_method_2_code 14 = .ok (.iload_n 2, 1) := by decide +kernel
theorem d35_15 : decode prog_359_method_2_code 15 = .ok (.invokespecial 45, 3) := by decide +kernel
theorem pd_17 : parseMethodDescriptor "(Ljava/lang/String;II)V" = some ⟨[(.object "java/lang/String"), .int, .int], none⟩ := by decide +kernel
theorem d35_18 : decode prog_359_method_2_code 18 = .ok (.areturn, 1) := by decide +kernel
theorem pn_locof : plainFor (⟨"com/example/lockstep/lockstep/core/value/SourceLocation", "of", "(Ljava/lang/String;II)Lcom/example/lockstep/lockstep/core/value/SourceLocation;"⟩ : MethodName) = true := by first | exact plainFor_of_name (by first | (simp [plainName, overriddenIn]; done) | decide +kernel) | exact Jvm.Free.JP.mathPlain rfl (by decide +kernel) | decide +kernel
set_option maxRecDepth 65536 in
set_option maxHeartbeats 40000000 in
theorem c_locof {l : Launch} {Z : State} {a0 : Array Value} {EL : List (String × Nat)} (g : GC Z a0 EL) (st : Addr) (sb : Addr) (ks : ClassId)  : Con l Z EL (⟨"com/example/lockstep/lockstep/core/value/SourceLocation", "of", "(Ljava/lang/String;II)Lcom/example/lockstep/lockstep/core/value/SourceLocation;"⟩ : MethodName) prog_359_method_2_code 3 (some (.object "com/example/lockstep/lockstep/core/value/SourceLocation")) { frames := 2, cells := 3, slots := 23, locals := 28 } [(.ref st), (.int (1 : Int32)), (.int (1 : Int32))] [(st, false, (o_Str st (.ref sb) (.int (0 : Int32))).2.2), (sb, false, .inr (ks, .byte, (1 : Int32), [(.int (102 : Int32))], (.int (0 : Int32))))] (fun v W' => ∃ (lo : Addr), v = some (.ref lo) ∧ W' = [o_LO lo ]) := by
  refine Con.mk g pn_locof (Ls := #[.val (.ref st), .val (.int (1 : Int32)), .val (.int (1 : Int32))]) (fun m => by first | (simp [entryFrame, mkF, argsToLocals, Value.category]; done) | rfl) ?_
  intro p e s m below meth c T0 F J0
  refine i_new J0 d35_0 (mt (i := 364) rfl) (mt (i := 365) rfl) (mt (i := 362) rfl) (by decide) (by decide) df_LO 1 3 rfl rfl 3 rfl fun a687 T688 J689 => ?_
  refine p_dup J689 d35_3 rfl 4 rfl ?_
  refine p_aload_n J689 d35_4 rfl rfl 5 rfl ?_
  refine i_ldcO J689 d35_5 (mt (i := 366) rfl) 16 (by decide) (by decide) (by decide) (by decide) 3 23 rfl rfl 7 rfl fun a690 T691 J692 => ?_
  refine i_static J692 d35_7 (mt (i := 367) rfl) (mt (i := 368) rfl) (mt (i := 369) rfl) (mt (i := 370) rfl) (by decide) (lenOf pd_16 rfl) (c_rnn g st a690 ) [] [0, 1, 2] 3 (by decide) (lenLe F 3 rfl) rfl 2 (by decide) (by decide) (by decide) (by decide) rfl (by show (2 : Nat) ≤ _; decide) _ rfl 3 23 rfl rfl 10 rfl fun v696 W697 T693 hQ695 J694 => ?_
  obtain ⟨rfl, rfl⟩ := hQ695
  have J698 := J694.norm (W' := o_LO a687  :: (st, false, (o_Str st (.ref sb) (.int (0 : Int32))).2.2) :: (sb, false, .inr (ks, .byte, (1 : Int32), [(.int (102 : Int32))], (.int (0 : Int32)))) :: F) rfl
  show Run _ _ _ _ (State.setTop _ (mkF m 10 #[.val (.ref st), .val (.int (1 : Int32)), .val (.int (1 : Int32))] [(.ref st), (.ref a687), (.ref a687)]))
  refine i_cast J698 d35_10 (mt (i := 371) rfl) (mt (i := 372) rfl) 1 rfl 13 rfl fun T699 J700 => ?_
  refine p_iload_n J700 d35_13 rfl 14 rfl ?_
  refine p_iload_n J700 d35_14 rfl 15 rfl ?_
  refine i_special J700 d35_15 rfl (mt (i := 373) rfl) (mt (i := 374) rfl) (mt (i := 362) rfl) (mt (i := 375) rfl) (by decide) (lenOf pd_17 rfl) (c_loc g a687 st sb ks ) [0, 1, 2] [] 3 (by decide) (lenLe F 3 rfl) rfl 1 (by decide) (by decide) (by decide) (by decide) rfl (by show (1 : Nat) ≤ _; decide) _ rfl 3 23 rfl rfl 18 rfl fun v704 W705 T701 hQ703 J702 => ?_
  obtain ⟨rfl, rfl⟩ := hQ703
  have J706 := J702.norm (W' := o_LO a687  :: F) rfl
  show Run _ _ _ _ (State.setTop _ (mkF m 18 #[.val (.ref st), .val (.int (1 : Int32)), .val (.int (1 : Int32))] [(.ref a687)]))
  exact r_val J706 d35_18 (t := (.object "com/example/lockstep/lockstep/core/value/SourceLocation")) rfl rfl (Or.inr (Or.inr (Or.inr (Or.inr ⟨rfl, rfl, rfl⟩)))) (by decide) (by decide) (Wf := [o_LO a687 ]) rfl ⟨a687, rfl, rfl⟩
def B01 (x : Int32) : Prop := x = 0 ∨ x = 1
theorem narB {x : Int32} (h : B01 x) : narrow .boolean (.int x) = .int x := by rcases h with rfl | rfl <;> rfl
theorem fitB {x : Int32} (h : B01 x) : fits .boolean (.int x) = true := by rcases h with rfl | rfl <;> rfl
def minV (x y : Int32) : Int32 := if y < x then y else x
def maxV (x y : Int32) : Int32 := if x < y then y else x
theorem irr (x : Int32) : ¬ x < x := by rw [Int32.lt_iff_toInt_lt]; omega
theorem d25_9 : decode jdk_29_method_69_code 9 = .ok (.iload_n 1, 1) := by decide +kernel
theorem pn_min : plainFor (⟨"java/lang/Math", "min", "(II)I"⟩ : MethodName) = true := by first | exact plainFor_of_name (by first | (simp [plainName, overriddenIn]; done) | decide +kernel) | exact Jvm.Free.JP.mathPlain rfl (by decide +kernel) | decide +kernel
set_option maxRecDepth 65536 in
set_option maxHeartbeats 40000000 in
theorem c_min {l : Launch} {Z : State} {a0 : Array Value} {EL : List (String × Nat)} (g : GC Z a0 EL) (x : Int32) (y : Int32)  : Con l Z EL (⟨"java/lang/Math", "min", "(II)I"⟩ : MethodName) jdk_29_method_69_code 2 (some .int) { frames := 0, cells := 0, slots := 0, locals := 0 } [(.int x), (.int y)] [] (fun v W' => v = some (.int (minV x y)) ∧ W' = []) := by
  refine Con.mk g pn_min (Ls := #[.val (.int x), .val (.int y)]) (fun m => by first | (simp [entryFrame, mkF, argsToLocals, Value.category]; done) | rfl) ?_
  intro p e s m below meth c T0 F J0
  refine p_iload_n J0 d25_0 rfl 1 rfl ?_
  refine p_iload_n J0 d25_1 rfl 2 rfl ?_
  by_cases h : y < x
  · refine p_icmp_y J0 d25_2 (tlt h).2.2.1 9 (by decide) (by decide) ?_
    refine p_iload_n J0 d25_9 rfl 10 rfl ?_
    exact r_val J0 d25_10 (t := .int) rfl rfl (Or.inl ⟨rfl, by simp, _, rfl⟩) (by decide) (by decide) (Wf := []) rfl ⟨by simp [minV, h], rfl⟩
  · refine p_icmp_n J0 d25_2 (flt h).2.2.1 5 rfl ?_
    refine p_iload_n J0 d25_5 rfl 6 rfl ?_
    refine p_goto J0 d25_6 10 (by decide) (by decide) ?_
    exact r_val J0 d25_10 (t := .int) rfl rfl (Or.inl ⟨rfl, by simp, _, rfl⟩) (by decide) (by decide) (Wf := []) rfl ⟨by simp [minV, h], rfl⟩
theorem d36_0 : decode jdk_29_method_65_code 0 = .ok (.iload_n 0, 1) := by decide +kernel
theorem d36_1 : decode jdk_29_method_65_code 1 = .ok (.iload_n 1, 1) := by decide +kernel
theorem d36_2 : decode jdk_29_method_65_code 2 = .ok (.if_icmp .lt 7, 3) := by decide +kernel
theorem d36_9 : decode jdk_29_method_65_code 9 = .ok (.iload_n 1, 1) := by decide +kernel
theorem d36_10 : decode jdk_29_method_65_code 10 = .ok (.ireturn, 1) := by decide +kernel
theorem d36_5 : decode jdk_29_method_65_code 5 = .ok (.iload_n 0, 1) := by decide +kernel
theorem d36_6 : decode jdk_29_method_65_code 6 = .ok (.goto 4, 3) := by decide +kernel
theorem pn_max : plainFor (⟨"java/lang/Math", "max", "(II)I"⟩ : MethodName) = true := by first | exact plainFor_of_name (by first | (simp [plainName, overriddenIn]; done) | decide +kernel) | exact Jvm.Free.JP.mathPlain rfl (by decide +kernel) | decide +kernel
set_option maxRecDepth 65536 in
set_option maxHeartbeats 40000000 in
theorem c_max {l : Launch} {Z : State} {a0 : Array Value} {EL : List (String × Nat)} (g : GC Z a0 EL) (x : Int32) (y : Int32)  : Con l Z EL (⟨"java/lang/Math", "max", "(II)I"⟩ : MethodName) jdk_29_method_65_code 2 (some .int) { frames := 0, cells := 0, slots := 0, locals := 0 } [(.int x), (.int y)] [] (fun v W' => v = some (.int (maxV x y)) ∧ W' = []) := by
  refine Con.mk g pn_max (Ls := #[.val (.int x), .val (.int y)]) (fun m => by first | (simp [entryFrame, mkF, argsToLocals, Value.category]; done) | rfl) ?_
  intro p e s m below meth c T0 F J0
  refine p_iload_n J0 d36_0 rfl 1 rfl ?_
  refine p_iload_n J0 d36_1 rfl 2 rfl ?_
  by_cases h : x < y
  · refine p_icmp_y J0 d36_2 (tlt h).1 9 (by decide) (by decide) ?_
    refine p_iload_n J0 d36_9 rfl 10 rfl ?_
    exact r_val J0 d36_10 (t := .int) rfl rfl (Or.inl ⟨rfl, by simp, _, rfl⟩) (by decide) (by decide) (Wf := []) rfl ⟨by simp [maxV, h], rfl⟩
  · refine p_icmp_n J0 d36_2 (flt h).1 5 rfl ?_
    refine p_iload_n J0 d36_5 rfl 6 rfl ?_
    refine p_goto J0 d36_6 10 (by decide) (by decide) ?_
    exact r_val J0 d36_10 (t := .int) rfl rfl (Or.inl ⟨rfl, by simp, _, rfl⟩) (by decide) (by decide) (Wf := []) rfl ⟨by simp [maxV, h], rfl⟩
theorem pn_max2 : plainFor (⟨"java/lang/Math", "max", "(II)I"⟩ : MethodName) = true := by first | exact plainFor_of_name (by first | (simp [plainName, overriddenIn]; done) | decide +kernel) | exact Jvm.Free.JP.mathPlain rfl (by decide +kernel) | decide +kernel
set_option maxRecDepth 65536 in
set_option maxHeartbeats 40000000 in
theorem c_max2 {l : Launch} {Z : State} {a0 : Array Value} {EL : List (String × Nat)} (g : GC Z a0 EL)   : Con l Z EL (⟨"java/lang/Math", "max", "(II)I"⟩ : MethodName) jdk_29_method_65_code 2 (some .int) { frames := 0, cells := 0, slots := 0, locals := 0 } [(.int (1 : Int32)), (.int (2 : Int32))] [] (fun v W' => v = some (.int (2 : Int32)) ∧ W' = []) := by
  refine Con.mk g pn_max2 (Ls := #[.val (.int (1 : Int32)), .val (.int (2 : Int32))]) (fun m => by first | (simp [entryFrame, mkF, argsToLocals, Value.category]; done) | rfl) ?_
  intro p e s m below meth c T0 F J0
  refine p_iload_n J0 d36_0 rfl 1 rfl ?_
  refine p_iload_n J0 d36_1 rfl 2 rfl ?_
  refine p_icmp_y J0 d36_2 (by decide) 9 (by decide) (by decide) ?_
  refine p_iload_n J0 d36_9 rfl 10 rfl ?_
  exact r_val J0 d36_10 (t := .int) rfl rfl (Or.inl ⟨rfl, by simp, _, rfl⟩) (by decide) (by decide) (Wf := []) rfl ⟨rfl, rfl⟩
theorem pn_max3 : plainFor (⟨"java/lang/Math", "max", "(II)I"⟩ : MethodName) = true := by first | exact plainFor_of_name (by first | (simp [plainName, overriddenIn]; done) | decide +kernel) | exact Jvm.Free.JP.mathPlain rfl (by decide +kernel) | decide +kernel
set_option maxRecDepth 65536 in
set_option maxHeartbeats 40000000 in
theorem c_max3 {l : Launch} {Z : State} {a0 : Array Value} {EL : List (String × Nat)} (g : GC Z a0 EL)   : Con l Z EL (⟨"java/lang/Math", "max", "(II)I"⟩ : MethodName) jdk_29_method_65_code 2 (some .int) { frames := 0, cells := 0, slots := 0, locals := 0 } [(.int (2 : Int32)), (.int (3 : Int32))] [] (fun v W' => v = some (.int (3 : Int32)) ∧ W' = []) := by
  refine Con.mk g pn_max3 (Ls := #[.val (.int (2 : Int32)), .val (.int (3 : Int32))]) (fun m => by first | (simp [entryFrame, mkF, argsToLocals, Value.category]; done) | rfl) ?_
  intro p e s m below meth c T0 F J0
  refine p_iload_n J0 d36_0 rfl 1 rfl ?_
  refine p_iload_n J0 d36_1 rfl 2 rfl ?_
  refine p_icmp_y J0 d36_2 (by decide) 9 (by decide) (by decide) ?_
  refine p_iload_n J0 d36_9 rfl 10 rfl ?_
  exact r_val J0 d36_10 (t := .int) rfl rfl (Or.inl ⟨rfl, by simp, _, rfl⟩) (by decide) (by decide) (Wf := []) rfl ⟨rfl, rfl⟩
theorem d37_0 : decode prog_39_method_1_code 0 = .ok (.aload_n 0, 1) := by decide +kernel
theorem d37_1 : decode prog_39_method_1_code 1 = .ok (.invokespecial 1, 3) := by decide +kernel
theorem d37_4 : decode prog_39_method_1_code 4 = .ok (.aload_n 0, 1) := by decide +kernel
theorem d37_5 : decode prog_39_method_1_code 5 = .ok (.iconst 1, 1) := by decide +kernel
theorem d37_6 : decode prog_39_method_1_code 6 = .ok (.putfield 7, 3) := by decide +kernel
theorem d37_9 : decode prog_39_method_1_code 9 = .ok (.aload_n 0, 1) := by decide +kernel
theorem d37_10 : decode prog_39_method_1_code 10 = .ok (.ldc 15, 2) := by decide +kernel
theorem d37_12 : decode prog_39_method_1_code 12 = .ok (.putfield 16, 3) := by decide +kernel
theorem d37_15 : decode prog_39_method_1_code 15 = .ok (.aload_n 0, 1) := by decide +kernel
theorem d37_16 : decode prog_39_method_1_code 16 = .ok (.iconst 1, 1) := by decide +kernel
theorem d37_17 : decode prog_39_method_1_code 17 = .ok (.putfield 19, 3) := by decide +kernel
theorem d37_20 : decode prog_39_method_1_code 20 = .ok (.aload_n 0, 1) := by decide +kernel
theorem d37_21 : decode prog_39_method_1_code 21 = .ok (.aload_n 1, 1) := by decide +kernel
theorem d37_22 : decode prog_39_method_1_code 22 = .ok (.putfield 22, 3) := by decide +kernel
theorem d37_25 : decode prog_39_method_1_code 25 = .ok (.return_, 1) := by decide +kernel
theorem pn_al : plainFor (⟨"com/example/lockstep/lockstep/core/ActiveLevels", "<init>", "(Lcom/example/lockstep/lockstep/core/Search;)V"⟩ : MethodName) = true := by first | exact plainFor_of_name (by first | (simp [plainName, overriddenIn]; done) | decide +kernel) | exact Jvm.Free.JP.mathPlain rfl (by decide +kernel) | decide +kernel
set_option maxRecDepth 65536 in
set_option maxHeartbeats 40000000 in
theorem c_al {l : Launch} {Z : State} {a0 : Array Value} {EL : List (String × Nat)} (g : GC Z a0 EL) (a : Addr) (s_ : Addr)  : Con l Z EL (⟨"com/example/lockstep/lockstep/core/ActiveLevels", "<init>", "(Lcom/example/lockstep/lockstep/core/Search;)V"⟩ : MethodName) prog_39_method_1_code 2 none { frames := 1, cells := 0, slots := 0, locals := 12 } [(.ref a), (.ref s_)] [o_AL a (.int (0 : Int32)) (.int (0 : Int32)) (.int (0 : Int32)) (.int (0 : Int32)) (.int (0 : Int32)) (.int (0 : Int32)) .null] (fun v W' => v = none ∧ W' = [o_AL a (.int (1 : Int32)) (.int (2147483647 : Int32)) (.int (1 : Int32)) (.int (0 : Int32)) (.int (0 : Int32)) (.int (0 : Int32)) (.ref s_)]) := by
  refine Con.mk g pn_al (Ls := #[.val (.ref a), .val (.ref s_)]) (fun m => by first | (simp [entryFrame, mkF, argsToLocals, Value.category]; done) | rfl) ?_
  intro p e s m below meth c T0 F J0
  refine p_aload_n J0 d37_0 rfl rfl 1 rfl ?_
  refine i_initO J0 d37_1 (mt (i := 395) rfl) (mt (i := 14) rfl) (mt (i := 15) rfl) rfl (by decide) (by show (12 : Nat) ≤ _; decide) 4 rfl fun T707 J708 => ?_
  refine p_aload_n J708 d37_4 rfl rfl 5 rfl ?_
  refine p_iconst J708 d37_5 (z := (1 : Int32)) rfl 6 rfl ?_
  refine i_put J708 d37_6 (mt (i := 396) rfl) Via.refl 0 0 rfl rfl sd_AL (Or.inl (mt (i := 397) rfl)) (mt (i := 390) rfl) (ty := .int) (by decide) rfl rfl 9 rfl (o_AL a (.int (1 : Int32)) (.int (0 : Int32)) (.int (0 : Int32)) (.int (0 : Int32)) (.int (0 : Int32)) (.int (0 : Int32)) .null :: F) rfl fun T709 J710 => ?_
  refine p_aload_n J710 d37_9 rfl rfl 10 rfl ?_
  refine i_ldcI J710 d37_10 (mt (i := 398) rfl) 12 rfl ?_
  refine i_put J710 d37_12 (mt (i := 399) rfl) Via.refl 0 1 rfl rfl sd_AL (Or.inl (mt (i := 400) rfl)) (mt (i := 390) rfl) (ty := .int) (by decide) rfl rfl 15 rfl (o_AL a (.int (1 : Int32)) (.int (2147483647 : Int32)) (.int (0 : Int32)) (.int (0 : Int32)) (.int (0 : Int32)) (.int (0 : Int32)) .null :: F) rfl fun T711 J712 => ?_
  refine p_aload_n J712 d37_15 rfl rfl 16 rfl ?_
  refine p_iconst J712 d37_16 (z := (1 : Int32)) rfl 17 rfl ?_
  refine i_put J712 d37_17 (mt (i := 401) rfl) Via.refl 0 2 rfl rfl sd_AL (Or.inl (mt (i := 402) rfl)) (mt (i := 390) rfl) (ty := .int) (by decide) rfl rfl 20 rfl (o_AL a (.int (1 : Int32)) (.int (2147483647 : Int32)) (.int (1 : Int32)) (.int (0 : Int32)) (.int (0 : Int32)) (.int (0 : Int32)) .null :: F) rfl fun T713 J714 => ?_
  refine p_aload_n J714 d37_20 rfl rfl 21 rfl ?_
  refine p_aload_n J714 d37_21 rfl rfl 22 rfl ?_
  refine i_put J714 d37_22 (mt (i := 403) rfl) Via.refl 0 6 rfl rfl sd_AL (Or.inr ⟨(mt (i := 404) rfl), rfl, rfl⟩) (mt (i := 390) rfl) (ty := (.object "com/example/lockstep/lockstep/core/Search")) (by decide) rfl rfl 25 rfl (o_AL a (.int (1 : Int32)) (.int (2147483647 : Int32)) (.int (1 : Int32)) (.int (0 : Int32)) (.int (0 : Int32)) (.int (0 : Int32)) (.ref s_) :: F) rfl fun T715 J716 => ?_
  exact r_void J716 d37_25 rfl (by decide) (by decide) (Wf := [o_AL a (.int (1 : Int32)) (.int (2147483647 : Int32)) (.int (1 : Int32)) (.int (0 : Int32)) (.int (0 : Int32)) (.int (0 : Int32)) (.ref s_)]) rfl ⟨rfl, rfl⟩
theorem d38_0 : decode prog_39_method_9_code 0 = .ok (.iload_n 1, 1) := by decide +kernel
theorem d38_1 : decode prog_39_method_9_code 1 = .ok (.ifCond .eq 33, 3) := by decide +kernel
theorem d38_4 : decode prog_39_method_9_code 4 = .ok (.aload_n 0, 1) := by decide +kernel
theorem d38_5 : decode prog_39_method_9_code 5 = .ok (.aload_n 0, 1) := by decide +kernel
theorem d38_6 : decode prog_39_method_9_code 6 = .ok (.getfield 19, 3) := by decide +kernel
theorem d38_9 : decode prog_39_method_9_code 9 = .ok (.putfield 7, 3) := by decide +kernel
theorem d38_12 : decode prog_39_method_9_code 12 = .ok (.aload_n 0, 1) := by decide +kernel
theorem d38_13 : decode prog_39_method_9_code 13 = .ok (.aload_n 0, 1) := by decide +kernel
theorem d38_14 : decode prog_39_method_9_code 14 = .ok (.getfield 30, 3) := by decide +kernel
theorem d38_17 : decode prog_39_method_9_code 17 = .ok (.putfield 26, 3) := by decide +kernel
theorem d38_20 : decode prog_39_method_9_code 20 = .ok (.aload_n 0, 1) := by decide +kernel
theorem d38_21 : decode prog_39_method_9_code 21 = .ok (.ldc 15, 2) := by decide +kernel
theorem d38_23 : decode prog_39_method_9_code 23 = .ok (.putfield 16, 3) := by decide +kernel
theorem d38_26 : decode prog_39_method_9_code 26 = .ok (.aload_n 0, 1) := by decide +kernel
theorem d38_27 : decode prog_39_method_9_code 27 = .ok (.iconst 1, 1) := by decide +kernel
theorem d38_28 : decode prog_39_method_9_code 28 = .ok (.putfield 33, 3) := by decide +kernel
theorem d38_31 : decode prog_39_method_9_code 31 = .ok (.goto 28, 3) := by decide +kernel
theorem d38_59 : decode prog_39_method_9_code 59 = .ok (.return_, 1) := by decide +kernel
theorem pn_snT : plainFor (⟨"com/example/lockstep/lockstep/core/ActiveLevels", "setNested", "(Z)V"⟩ : MethodName) = true := by first | exact plainFor_of_name (by first | (simp [plainName, overriddenIn]; done) | decide +kernel) | exact Jvm.Free.JP.mathPlain rfl (by decide +kernel) | decide +kernel
set_option maxRecDepth 65536 in
set_option maxHeartbeats 40000000 in
theorem c_snT {l : Launch} {Z : State} {a0 : Array Value} {EL : List (String × Nat)} (g : GC Z a0 EL) (a : Addr) (s_ : Addr) (le : Int32) (mo : Int32) (su : Int32) (fx : Int32) (sf : Int32) (bs : Int32) (hsf : B01 sf) : Con l Z EL (⟨"com/example/lockstep/lockstep/core/ActiveLevels", "setNested", "(Z)V"⟩ : MethodName) prog_39_method_9_code 2 none { frames := 0, cells := 0, slots := 0, locals := 0 } [(.ref a), (.int (1 : Int32))] [o_AL a (.int le) (.int mo) (.int su) (.int fx) (.int sf) (.int bs) (.ref s_)] (fun v W' => v = none ∧ W' = [o_AL a (.int su) (.int (2147483647 : Int32)) (.int su) (.int sf) (.int sf) (.int (1 : Int32)) (.ref s_)]) := by
  refine Con.mk g pn_snT (Ls := #[.val (.ref a), .val (.int (1 : Int32))]) (fun m => by first | (simp [entryFrame, mkF, argsToLocals, Value.category]; done) | rfl) ?_
  intro p e s m below meth c T0 F J0
  refine p_iload_n J0 d38_0 rfl 1 rfl ?_
  refine p_if_n J0 d38_1 (by decide) 4 rfl ?_
  refine p_aload_n J0 d38_4 rfl rfl 5 rfl ?_
  refine p_aload_n J0 d38_5 rfl rfl 6 rfl ?_
  refine i_get J0 d38_6 (mt (i := 401) rfl) Via.refl 0 2 rfl rfl 9 rfl fun T717 J718 => ?_
  refine i_put J718 d38_9 (mt (i := 396) rfl) Via.refl 0 0 rfl rfl sd_AL (Or.inl (mt (i := 397) rfl)) (mt (i := 390) rfl) (ty := .int) (by decide) rfl rfl 12 rfl (o_AL a (.int su) (.int mo) (.int su) (.int fx) (.int sf) (.int bs) (.ref s_) :: F) rfl fun T719 J720 => ?_
  refine p_aload_n J720 d38_12 rfl rfl 13 rfl ?_
  refine p_aload_n J720 d38_13 rfl rfl 14 rfl ?_
  refine i_get J720 d38_14 (mt (i := 433) rfl) Via.refl 0 4 rfl rfl 17 rfl fun T721 J722 => ?_
  refine i_put J722 d38_17 (mt (i := 410) rfl) Via.refl 0 3 rfl rfl sd_AL (Or.inl (mt (i := 411) rfl)) (mt (i := 390) rfl) (ty := .boolean) (by decide) (narB hsf) (fitB hsf) 20 rfl (o_AL a (.int su) (.int mo) (.int su) (.int sf) (.int sf) (.int bs) (.ref s_) :: F) rfl fun T723 J724 => ?_
  refine p_aload_n J724 d38_20 rfl rfl 21 rfl ?_
  refine i_ldcI J724 d38_21 (mt (i := 398) rfl) 23 rfl ?_
  refine i_put J724 d38_23 (mt (i := 399) rfl) Via.refl 0 1 rfl rfl sd_AL (Or.inl (mt (i := 400) rfl)) (mt (i := 390) rfl) (ty := .int) (by decide) rfl rfl 26 rfl (o_AL a (.int su) (.int (2147483647 : Int32)) (.int su) (.int sf) (.int sf) (.int bs) (.ref s_) :: F) rfl fun T725 J726 => ?_
  refine p_aload_n J726 d38_26 rfl rfl 27 rfl ?_
  refine p_iconst J726 d38_27 (z := (1 : Int32)) rfl 28 rfl ?_
  refine i_put J726 d38_28 (mt (i := 435) rfl) Via.refl 0 5 rfl rfl sd_AL (Or.inl (mt (i := 436) rfl)) (mt (i := 390) rfl) (ty := .boolean) (by decide) rfl rfl 31 rfl (o_AL a (.int su) (.int (2147483647 : Int32)) (.int su) (.int sf) (.int sf) (.int (1 : Int32)) (.ref s_) :: F) rfl fun T727 J728 => ?_
  refine p_goto J728 d38_31 59 (by decide) (by decide) ?_
  exact r_void J728 d38_59 rfl (by decide) (by decide) (Wf := [o_AL a (.int su) (.int (2147483647 : Int32)) (.int su) (.int sf) (.int sf) (.int (1 : Int32)) (.ref s_)]) rfl ⟨rfl, rfl⟩
theorem d38_34 : decode prog_39_method_9_code 34 = .ok (.aload_n 0, 1) := by decide +kernel
theorem d38_35 : decode prog_39_method_9_code 35 = .ok (.getfield 26, 3) := by decide +kernel
theorem d38_38 : decode prog_39_method_9_code 38 = .ok (.ifCond .eq 11, 3) := by decide +kernel
theorem d38_41 : decode prog_39_method_9_code 41 = .ok (.aload_n 0, 1) := by decide +kernel
theorem d38_42 : decode prog_39_method_9_code 42 = .ok (.getfield 7, 3) := by decide +kernel
theorem d38_45 : decode prog_39_method_9_code 45 = .ok (.iconst 1, 1) := by decide +kernel
theorem d38_46 : decode prog_39_method_9_code 46 = .ok (.if_icmp .le 13, 3) := by decide +kernel
theorem pn_snS : plainFor (⟨"com/example/lockstep/lockstep/core/ActiveLevels", "setNested", "(Z)V"⟩ : MethodName) = true := by first | exact plainFor_of_name (by first | (simp [plainName, overriddenIn]; done) | decide +kernel) | exact Jvm.Free.JP.mathPlain rfl (by decide +kernel) | decide +kernel
set_option maxRecDepth 65536 in
set_option maxHeartbeats 40000000 in
theorem c_snS {l : Launch} {Z : State} {a0 : Array Value} {EL : List (String × Nat)} (g : GC Z a0 EL) (a : Addr) (s_ : Addr) (le : Int32) (mo : Int32) (su : Int32) (fx : Int32) (sf : Int32) (bs : Int32) (hfx : ¬ fx = 0) (hle : ¬ (1 : Int32) < le) : Con l Z EL (⟨"com/example/lockstep/lockstep/core/ActiveLevels", "setNested", "(Z)V"⟩ : MethodName) prog_39_method_9_code 2 none { frames := 0, cells := 0, slots := 0, locals := 0 } [(.ref a), (.int (0 : Int32))] [o_AL a (.int le) (.int mo) (.int su) (.int fx) (.int sf) (.int bs) (.ref s_)] (fun v W' => v = none ∧ W' = [o_AL a (.int le) (.int mo) (.int su) (.int fx) (.int sf) (.int bs) (.ref s_)]) := by
  refine Con.mk g pn_snS (Ls := #[.val (.ref a), .val (.int (0 : Int32))]) (fun m => by first | (simp [entryFrame, mkF, argsToLocals, Value.category]; done) | rfl) ?_
  intro p e s m below meth c T0 F J0
  refine p_iload_n J0 d38_0 rfl 1 rfl ?_
  refine p_if_y J0 d38_1 (by decide) 34 (by decide) (by decide) ?_
  refine p_aload_n J0 d38_34 rfl rfl 35 rfl ?_
  refine i_get J0 d38_35 (mt (i := 410) rfl) Via.refl 0 3 rfl rfl 38 rfl fun T729 J730 => ?_
  refine p_if_n J730 d38_38 ((if0 _ _).trans (feq hfx).1) 41 rfl ?_
  refine p_aload_n J730 d38_41 rfl rfl 42 rfl ?_
  refine i_get J730 d38_42 (mt (i := 396) rfl) Via.refl 0 0 rfl rfl 45 rfl fun T731 J732 => ?_
  refine p_iconst J732 d38_45 (z := (1 : Int32)) rfl 46 rfl ?_
  refine p_icmp_y J732 d38_46 (flt hle).2.2.2 59 (by decide) (by decide) ?_
  exact r_void J732 d38_59 rfl (by decide) (by decide) (Wf := [o_AL a (.int le) (.int mo) (.int su) (.int fx) (.int sf) (.int bs) (.ref s_)]) rfl ⟨rfl, rfl⟩
theorem d38_49 : decode prog_39_method_9_code 49 = .ok (.aload_n 0, 1) := by decide +kernel
theorem d38_50 : decode prog_39_method_9_code 50 = .ok (.iconst 1, 1) := by decide +kernel
theorem d38_51 : decode prog_39_method_9_code 51 = .ok (.putfield 7, 3) := by decide +kernel
theorem d38_54 : decode prog_39_method_9_code 54 = .ok (.aload_n 0, 1) := by decide +kernel
theorem d38_55 : decode prog_39_method_9_code 55 = .ok (.iconst 1, 1) := by decide +kernel
theorem d38_56 : decode prog_39_method_9_code 56 = .ok (.putfield 26, 3) := by decide +kernel
theorem pn_snU : plainFor (⟨"com/example/lockstep/lockstep/core/ActiveLevels", "setNested", "(Z)V"⟩ : MethodName) = true := by first | exact plainFor_of_name (by first | (simp [plainName, overriddenIn]; done) | decide +kernel) | exact Jvm.Free.JP.mathPlain rfl (by decide +kernel) | decide +kernel
set_option maxRecDepth 65536 in
set_option maxHeartbeats 40000000 in
theorem c_snU {l : Launch} {Z : State} {a0 : Array Value} {EL : List (String × Nat)} (g : GC Z a0 EL) (a : Addr) (s_ : Addr) (le : Int32) (mo : Int32) (su : Int32) (fx : Int32) (sf : Int32) (bs : Int32) (hor : fx = 0 ∨ (1 : Int32) < le) : Con l Z EL (⟨"com/example/lockstep/lockstep/core/ActiveLevels", "setNested", "(Z)V"⟩ : MethodName) prog_39_method_9_code 2 none { frames := 0, cells := 0, slots := 0, locals := 0 } [(.ref a), (.int (0 : Int32))] [o_AL a (.int le) (.int mo) (.int su) (.int fx) (.int sf) (.int bs) (.ref s_)] (fun v W' => v = none ∧ W' = [o_AL a (.int (1 : Int32)) (.int mo) (.int su) (.int (1 : Int32)) (.int sf) (.int bs) (.ref s_)]) := by
  refine Con.mk g pn_snU (Ls := #[.val (.ref a), .val (.int (0 : Int32))]) (fun m => by first | (simp [entryFrame, mkF, argsToLocals, Value.category]; done) | rfl) ?_
  intro p e s m below meth c T0 F J0
  refine p_iload_n J0 d38_0 rfl 1 rfl ?_
  refine p_if_y J0 d38_1 (by decide) 34 (by decide) (by decide) ?_
  refine p_aload_n J0 d38_34 rfl rfl 35 rfl ?_
  refine i_get J0 d38_35 (mt (i := 410) rfl) Via.refl 0 3 rfl rfl 38 rfl fun T733 J734 => ?_
  by_cases h : fx = 0
  · refine p_if_y J734 d38_38 ((if0 _ _).trans (teq h).1) 49 (by decide) (by decide) ?_
    refine p_aload_n J734 d38_49 rfl rfl 50 rfl ?_
    refine p_iconst J734 d38_50 (z := (1 : Int32)) rfl 51 rfl ?_
    refine i_put J734 d38_51 (mt (i := 396) rfl) Via.refl 0 0 rfl rfl sd_AL (Or.inl (mt (i := 397) rfl)) (mt (i := 390) rfl) (ty := .int) (by decide) rfl rfl 54 rfl (o_AL a (.int (1 : Int32)) (.int mo) (.int su) (.int fx) (.int sf) (.int bs) (.ref s_) :: F) rfl fun T735 J736 => ?_
    refine p_aload_n J736 d38_54 rfl rfl 55 rfl ?_
    refine p_iconst J736 d38_55 (z := (1 : Int32)) rfl 56 rfl ?_
    refine i_put J736 d38_56 (mt (i := 410) rfl) Via.refl 0 3 rfl rfl sd_AL (Or.inl (mt (i := 411) rfl)) (mt (i := 390) rfl) (ty := .boolean) (by decide) rfl rfl 59 rfl (o_AL a (.int (1 : Int32)) (.int mo) (.int su) (.int (1 : Int32)) (.int sf) (.int bs) (.ref s_) :: F) rfl fun T737 J738 => ?_
    exact r_void J738 d38_59 rfl (by decide) (by decide) (Wf := [o_AL a (.int (1 : Int32)) (.int mo) (.int su) (.int (1 : Int32)) (.int sf) (.int bs) (.ref s_)]) rfl ⟨rfl, rfl⟩
  · have h2 : (1 : Int32) < le := hor.resolve_left h
    refine p_if_n J734 d38_38 ((if0 _ _).trans (feq h).1) 41 rfl ?_
    refine p_aload_n J734 d38_41 rfl rfl 42 rfl ?_
    refine i_get J734 d38_42 (mt (i := 396) rfl) Via.refl 0 0 rfl rfl 45 rfl fun T739 J740 => ?_
    refine p_iconst J740 d38_45 (z := (1 : Int32)) rfl 46 rfl ?_
    refine p_icmp_n J740 d38_46 (tlt h2).2.2.2 49 rfl ?_
    refine p_aload_n J740 d38_49 rfl rfl 50 rfl ?_
    refine p_iconst J740 d38_50 (z := (1 : Int32)) rfl 51 rfl ?_
    refine i_put J740 d38_51 (mt (i := 396) rfl) Via.refl 0 0 rfl rfl sd_AL (Or.inl (mt (i := 397) rfl)) (mt (i := 390) rfl) (ty := .int) (by decide) rfl rfl 54 rfl (o_AL a (.int (1 : Int32)) (.int mo) (.int su) (.int fx) (.int sf) (.int bs) (.ref s_) :: F) rfl fun T741 J742 => ?_
    refine p_aload_n J742 d38_54 rfl rfl 55 rfl ?_
    refine p_iconst J742 d38_55 (z := (1 : Int32)) rfl 56 rfl ?_
    refine i_put J742 d38_56 (mt (i := 410) rfl) Via.refl 0 3 rfl rfl sd_AL (Or.inl (mt (i := 411) rfl)) (mt (i := 390) rfl) (ty := .boolean) (by decide) rfl rfl 59 rfl (o_AL a (.int (1 : Int32)) (.int mo) (.int su) (.int (1 : Int32)) (.int sf) (.int bs) (.ref s_) :: F) rfl fun T743 J744 => ?_
    exact r_void J744 d38_59 rfl (by decide) (by decide) (Wf := [o_AL a (.int (1 : Int32)) (.int mo) (.int su) (.int (1 : Int32)) (.int sf) (.int bs) (.ref s_)]) rfl ⟨rfl, rfl⟩
theorem d39_0 : decode prog_39_method_8_code 0 = .ok (.aload_n 0, 1) := by decide +kernel
theorem d39_1 : decode prog_39_method_8_code 1 = .ok (.getfield 30, 3) := by decide +kernel
theorem d39_4 : decode prog_39_method_8_code 4 = .ok (.ifCond .eq 23, 3) := by decide +kernel
theorem d39_7 : decode prog_39_method_8_code 7 = .ok (.aload_n 0, 1) := by decide +kernel
theorem d39_8 : decode prog_39_method_8_code 8 = .ok (.iload_n 1, 1) := by decide +kernel
theorem d39_9 : decode prog_39_method_8_code 9 = .ok (.aload_n 0, 1) := by decide +kernel
theorem d39_10 : decode prog_39_method_8_code 10 = .ok (.getfield 19, 3) := by decide +kernel
theorem d39_13 : decode prog_39_method_8_code 13 = .ok (.invokestatic 65, 3) := by decide +kernel
theorem d39_16 : decode prog_39_method_8_code 16 = .ok (.putfield 7, 3) := by decide +kernel
theorem d39_19 : decode prog_39_method_8_code 19 = .ok (.aload_n 0, 1) := by decide +kernel
theorem d39_20 : decode prog_39_method_8_code 20 = .ok (.iconst 1, 1) := by decide +kernel
theorem d39_21 : decode prog_39_method_8_code 21 = .ok (.putfield 26, 3) := by decide +kernel
theorem d39_24 : decode prog_39_method_8_code 24 = .ok (.goto 37, 3) := by decide +kernel
theorem d39_61 : decode prog_39_method_8_code 61 = .ok (.aload_n 0, 1) := by decide +kernel
theorem d39_62 : decode prog_39_method_8_code 62 = .ok (.iload_n 1, 1) := by decide +kernel
theorem d39_63 : decode prog_39_method_8_code 63 = .ok (.putfield 16, 3) := by decide +kernel
theorem d39_66 : decode prog_39_method_8_code 66 = .ok (.aload_n 0, 1) := by decide +kernel
theorem d39_67 : decode prog_39_method_8_code 67 = .ok (.iconst 1, 1) := by decide +kernel
theorem d39_68 : decode prog_39_method_8_code 68 = .ok (.putfield 33, 3) := by decide +kernel
theorem d39_71 : decode prog_39_method_8_code 71 = .ok (.return_, 1) := by decide +kernel
theorem pn_smA : plainFor (⟨"com/example/lockstep/lockstep/core/ActiveLevels", "setMost", "(I)V"⟩ : MethodName) = true := by first | exact plainFor_of_name (by first | (simp [plainName, overriddenIn]; done) | decide +kernel) | exact Jvm.Free.JP.mathPlain rfl (by decide +kernel) | decide +kernel
set_option maxRecDepth 65536 in
set_option maxHeartbeats 40000000 in
theorem c_smA {l : Launch} {Z : State} {a0 : Array Value} {EL : List (String × Nat)} (g : GC Z a0 EL) (a : Addr) (s_ : Addr) (le : Int32) (mo : Int32) (su : Int32) (fx : Int32) (sf : Int32) (bs : Int32) (m_ : Int32) (hsf : ¬ sf = 0) : Con l Z EL (⟨"com/example/lockstep/lockstep/core/ActiveLevels", "setMost", "(I)V"⟩ : MethodName) prog_39_method_8_code 2 none { frames := 1, cells := 0, slots := 0, locals := 14 } [(.ref a), (.int m_)] [o_AL a (.int le) (.int mo) (.int su) (.int fx) (.int sf) (.int bs) (.ref s_)] (fun v W' => v = none ∧ W' = [o_AL a (.int (minV m_ su)) (.int m_) (.int su) (.int (1 : Int32)) (.int sf) (.int (1 : Int32)) (.ref s_)]) := by
  refine Con.mk g pn_smA (Ls := #[.val (.ref a), .val (.int m_)]) (fun m => by first | (simp [entryFrame, mkF, argsToLocals, Value.category]; done) | rfl) ?_
  intro p e s m below meth c T0 F J0
  refine p_aload_n J0 d39_0 rfl rfl 1 rfl ?_
  refine i_get J0 d39_1 (mt (i := 433) rfl) Via.refl 0 4 rfl rfl 4 rfl fun T745 J746 => ?_
  refine p_if_n J746 d39_4 ((if0 _ _).trans (feq hsf).1) 7 rfl ?_
  refine p_aload_n J746 d39_7 rfl rfl 8 rfl ?_
  refine p_iload_n J746 d39_8 rfl 9 rfl ?_
  refine p_aload_n J746 d39_9 rfl rfl 10 rfl ?_
  refine i_get J746 d39_10 (mt (i := 401) rfl) Via.refl 0 2 rfl rfl 13 rfl fun T747 J748 => ?_
  refine i_static J748 d39_13 (mt (i := 613) rfl) (mt (i := 309) rfl) (mt (i := 310) rfl) (mt (i := 311) rfl) (by decide) (lenOf pd_10 rfl) (c_min g m_ su ) [] [0] 1 (by decide) (lenLe F 1 rfl) rfl 1 (by decide) (by decide) (by decide) (by decide) rfl (by show (1 : Nat) ≤ _; decide) _ rfl 0 0 rfl rfl 16 rfl fun v752 W753 T749 hQ751 J750 => ?_
  obtain ⟨rfl, rfl⟩ := hQ751
  have J754 := J750.norm (W' := o_AL a (.int le) (.int mo) (.int su) (.int fx) (.int sf) (.int bs) (.ref s_) :: F) rfl
  show Run _ _ _ _ (State.setTop _ (mkF m 16 #[.val (.ref a), .val (.int m_)] [(.int (minV m_ su)), (.ref a)]))
  refine i_put J754 d39_16 (mt (i := 396) rfl) Via.refl 0 0 rfl rfl sd_AL (Or.inl (mt (i := 397) rfl)) (mt (i := 390) rfl) (ty := .int) (by decide) rfl rfl 19 rfl (o_AL a (.int (minV m_ su)) (.int mo) (.int su) (.int fx) (.int sf) (.int bs) (.ref s_) :: F) rfl fun T755 J756 => ?_
  refine p_aload_n J756 d39_19 rfl rfl 20 rfl ?_
  refine p_iconst J756 d39_20 (z := (1 : Int32)) rfl 21 rfl ?_
  refine i_put J756 d39_21 (mt (i := 410) rfl) Via.refl 0 3 rfl rfl sd_AL (Or.inl (mt (i := 411) rfl)) (mt (i := 390) rfl) (ty := .boolean) (by decide) rfl rfl 24 rfl (o_AL a (.int (minV m_ su)) (.int mo) (.int su) (.int (1 : Int32)) (.int sf) (.int bs) (.ref s_) :: F) rfl fun T757 J758 => ?_
  refine p_goto J758 d39_24 61 (by decide) (by decide) ?_
  refine p_aload_n J758 d39_61 rfl rfl 62 rfl ?_
  refine p_iload_n J758 d39_62 rfl 63 rfl ?_
  refine i_put J758 d39_63 (mt (i := 399) rfl) Via.refl 0 1 rfl rfl sd_AL (Or.inl (mt (i := 400) rfl)) (mt (i := 390) rfl) (ty := .int) (by decide) rfl rfl 66 rfl (o_AL a (.int (minV m_ su)) (.int m_) (.int su) (.int (1 : Int32)) (.int sf) (.int bs) (.ref s_) :: F) rfl fun T759 J760 => ?_
  refine p_aload_n J760 d39_66 rfl rfl 67 rfl ?_
  refine p_iconst J760 d39_67 (z := (1 : Int32)) rfl 68 rfl ?_
  refine i_put J760 d39_68 (mt (i := 435) rfl) Via.refl 0 5 rfl rfl sd_AL (Or.inl (mt (i := 436) rfl)) (mt (i := 390) rfl) (ty := .boolean) (by decide) rfl rfl 71 rfl (o_AL a (.int (minV m_ su)) (.int m_) (.int su) (.int (1 : Int32)) (.int sf) (.int (1 : Int32)) (.ref s_) :: F) rfl fun T761 J762 => ?_
  exact r_void J762 d39_71 rfl (by decide) (by decide) (Wf := [o_AL a (.int (minV m_ su)) (.int m_) (.int su) (.int (1 : Int32)) (.int sf) (.int (1 : Int32)) (.ref s_)]) rfl ⟨rfl, rfl⟩
theorem d39_27 : decode prog_39_method_8_code 27 = .ok (.iload_n 1, 1) := by decide +kernel
theorem d39_28 : decode prog_39_method_8_code 28 = .ok (.aload_n 0, 1) := by decide +kernel
theorem d39_29 : decode prog_39_method_8_code 29 = .ok (.getfield 19, 3) := by decide +kernel
theorem d39_32 : decode prog_39_method_8_code 32 = .ok (.if_icmp .gt 16, 3) := by decide +kernel
theorem d39_35 : decode prog_39_method_8_code 35 = .ok (.aload_n 0, 1) := by decide +kernel
theorem d39_36 : decode prog_39_method_8_code 36 = .ok (.iload_n 1, 1) := by decide +kernel
theorem d39_37 : decode prog_39_method_8_code 37 = .ok (.putfield 7, 3) := by decide +kernel
theorem d39_40 : decode prog_39_method_8_code 40 = .ok (.aload_n 0, 1) := by decide +kernel
theorem d39_41 : decode prog_39_method_8_code 41 = .ok (.iconst 1, 1) := by decide +kernel
theorem d39_42 : decode prog_39_method_8_code 42 = .ok (.putfield 26, 3) := by decide +kernel
theorem d39_45 : decode prog_39_method_8_code 45 = .ok (.goto 16, 3) := by decide +kernel
theorem pn_smB : plainFor (⟨"com/example/lockstep/lockstep/core/ActiveLevels", "setMost", "(I)V"⟩ : MethodName) = true := by first | exact plainFor_of_name (by first | (simp [plainName, overriddenIn]; done) | decide +kernel) | exact Jvm.Free.JP.mathPlain rfl (by decide +kernel) | decide +kernel
set_option maxRecDepth 65536 in
set_option maxHeartbeats 40000000 in
theorem c_smB {l : Launch} {Z : State} {a0 : Array Value} {EL : List (String × Nat)} (g : GC Z a0 EL) (a : Addr) (s_ : Addr) (le : Int32) (mo : Int32) (su : Int32) (fx : Int32) (sf : Int32) (bs : Int32) (m_ : Int32) (hsf : sf = 0) (hm : ¬ su < m_) : Con l Z EL (⟨"com/example/lockstep/lockstep/core/ActiveLevels", "setMost", "(I)V"⟩ : MethodName) prog_39_method_8_code 2 none { frames := 0, cells := 0, slots := 0, locals := 0 } [(.ref a), (.int m_)] [o_AL a (.int le) (.int mo) (.int su) (.int fx) (.int sf) (.int bs) (.ref s_)] (fun v W' => v = none ∧ W' = [o_AL a (.int m_) (.int m_) (.int su) (.int (1 : Int32)) (.int sf) (.int (1 : Int32)) (.ref s_)]) := by
  refine Con.mk g pn_smB (Ls := #[.val (.ref a), .val (.int m_)]) (fun m => by first | (simp [entryFrame, mkF, argsToLocals, Value.category]; done) | rfl) ?_
  intro p e s m below meth c T0 F J0
  refine p_aload_n J0 d39_0 rfl rfl 1 rfl ?_
  refine i_get J0 d39_1 (mt (i := 433) rfl) Via.refl 0 4 rfl rfl 4 rfl fun T763 J764 => ?_
  refine p_if_y J764 d39_4 ((if0 _ _).trans (teq hsf).1) 27 (by decide) (by decide) ?_
  refine p_iload_n J764 d39_27 rfl 28 rfl ?_
  refine p_aload_n J764 d39_28 rfl rfl 29 rfl ?_
  refine i_get J764 d39_29 (mt (i := 401) rfl) Via.refl 0 2 rfl rfl 32 rfl fun T765 J766 => ?_
  refine p_icmp_n J766 d39_32 (flt hm).2.2.1 35 rfl ?_
  refine p_aload_n J766 d39_35 rfl rfl 36 rfl ?_
  refine p_iload_n J766 d39_36 rfl 37 rfl ?_
  refine i_put J766 d39_37 (mt (i := 396) rfl) Via.refl 0 0 rfl rfl sd_AL (Or.inl (mt (i := 397) rfl)) (mt (i := 390) rfl) (ty := .int) (by decide) rfl rfl 40 rfl (o_AL a (.int m_) (.int mo) (.int su) (.int fx) (.int sf) (.int bs) (.ref s_) :: F) rfl fun T767 J768 => ?_
  refine p_aload_n J768 d39_40 rfl rfl 41 rfl ?_
  refine p_iconst J768 d39_41 (z := (1 : Int32)) rfl 42 rfl ?_
  refine i_put J768 d39_42 (mt (i := 410) rfl) Via.refl 0 3 rfl rfl sd_AL (Or.inl (mt (i := 411) rfl)) (mt (i := 390) rfl) (ty := .boolean) (by decide) rfl rfl 45 rfl (o_AL a (.int m_) (.int mo) (.int su) (.int (1 : Int32)) (.int sf) (.int bs) (.ref s_) :: F) rfl fun T769 J770 => ?_
  refine p_goto J770 d39_45 61 (by decide) (by decide) ?_
  refine p_aload_n J770 d39_61 rfl rfl 62 rfl ?_
  refine p_iload_n J770 d39_62 rfl 63 rfl ?_
  refine i_put J770 d39_63 (mt (i := 399) rfl) Via.refl 0 1 rfl rfl sd_AL (Or.inl (mt (i := 400) rfl)) (mt (i := 390) rfl) (ty := .int) (by decide) rfl rfl 66 rfl (o_AL a (.int m_) (.int m_) (.int su) (.int (1 : Int32)) (.int sf) (.int bs) (.ref s_) :: F) rfl fun T771 J772 => ?_
  refine p_aload_n J772 d39_66 rfl rfl 67 rfl ?_
  refine p_iconst J772 d39_67 (z := (1 : Int32)) rfl 68 rfl ?_
  refine i_put J772 d39_68 (mt (i := 435) rfl) Via.refl 0 5 rfl rfl sd_AL (Or.inl (mt (i := 436) rfl)) (mt (i := 390) rfl) (ty := .boolean) (by decide) rfl rfl 71 rfl (o_AL a (.int m_) (.int m_) (.int su) (.int (1 : Int32)) (.int sf) (.int (1 : Int32)) (.ref s_) :: F) rfl fun T773 J774 => ?_
  exact r_void J774 d39_71 rfl (by decide) (by decide) (Wf := [o_AL a (.int m_) (.int m_) (.int su) (.int (1 : Int32)) (.int sf) (.int (1 : Int32)) (.ref s_)]) rfl ⟨rfl, rfl⟩
theorem d39_48 : decode prog_39_method_8_code 48 = .ok (.aload_n 0, 1) := by decide +kernel
theorem d39_49 : decode prog_39_method_8_code 49 = .ok (.aload_n 0, 1) := by decide +kernel
theorem d39_50 : decode prog_39_method_8_code 50 = .ok (.getfield 19, 3) := by decide +kernel
theorem d39_53 : decode prog_39_method_8_code 53 = .ok (.putfield 7, 3) := by decide +kernel
theorem d39_56 : decode prog_39_method_8_code 56 = .ok (.aload_n 0, 1) := by decide +kernel
theorem d39_57 : decode prog_39_method_8_code 57 = .ok (.iconst 0, 1) := by decide +kernel
theorem d39_58 : decode prog_39_method_8_code 58 = .ok (.putfield 26, 3) := by decide +kernel
theorem pn_smC : plainFor (⟨"com/example/lockstep/lockstep/core/ActiveLevels", "setMost", "(I)V"⟩ : MethodName) = true := by first | exact plainFor_of_name (by first | (simp [plainName, overriddenIn]; done) | decide +kernel) | exact Jvm.Free.JP.mathPlain rfl (by decide +kernel) | decide +kernel
set_option maxRecDepth 65536 in
set_option maxHeartbeats 40000000 in
theorem c_smC {l : Launch} {Z : State} {a0 : Array Value} {EL : List (String × Nat)} (g : GC Z a0 EL) (a : Addr) (s_ : Addr) (le : Int32) (mo : Int32) (su : Int32) (fx : Int32) (sf : Int32) (bs : Int32) (m_ : Int32) (hsf : sf = 0) (hm : su < m_) : Con l Z EL (⟨"com/example/lockstep/lockstep/core/ActiveLevels", "setMost", "(I)V"⟩ : MethodName) prog_39_method_8_code 2 none { frames := 0, cells := 0, slots := 0, locals := 0 } [(.ref a), (.int m_)] [o_AL a (.int le) (.int mo) (.int su) (.int fx) (.int sf) (.int bs) (.ref s_)] (fun v W' => v = none ∧ W' = [o_AL a (.int su) (.int m_) (.int su) (.int (0 : Int32)) (.int sf) (.int (1 : Int32)) (.ref s_)]) := by
  refine Con.mk g pn_smC (Ls := #[.val (.ref a), .val (.int m_)]) (fun m => by first | (simp [entryFrame, mkF, argsToLocals, Value.category]; done) | rfl) ?_
  intro p e s m below meth c T0 F J0
  refine p_aload_n J0 d39_0 rfl rfl 1 rfl ?_
  refine i_get J0 d39_1 (mt (i := 433) rfl) Via.refl 0 4 rfl rfl 4 rfl fun T775 J776 => ?_
  refine p_if_y J776 d39_4 ((if0 _ _).trans (teq hsf).1) 27 (by decide) (by decide) ?_
  refine p_iload_n J776 d39_27 rfl 28 rfl ?_
  refine p_aload_n J776 d39_28 rfl rfl 29 rfl ?_
  refine i_get J776 d39_29 (mt (i := 401) rfl) Via.refl 0 2 rfl rfl 32 rfl fun T777 J778 => ?_
  refine p_icmp_y J778 d39_32 (tlt hm).2.2.1 48 (by decide) (by decide) ?_
  refine p_aload_n J778 d39_48 rfl rfl 49 rfl ?_
  refine p_aload_n J778 d39_49 rfl rfl 50 rfl ?_
  refine i_get J778 d39_50 (mt (i := 401) rfl) Via.refl 0 2 rfl rfl 53 rfl fun T779 J780 => ?_
  refine i_put J780 d39_53 (mt (i := 396) rfl) Via.refl 0 0 rfl rfl sd_AL (Or.inl (mt (i := 397) rfl)) (mt (i := 390) rfl) (ty := .int) (by decide) rfl rfl 56 rfl (o_AL a (.int su) (.int mo) (.int su) (.int fx) (.int sf) (.int bs) (.ref s_) :: F) rfl fun T781 J782 => ?_
  refine p_aload_n J782 d39_56 rfl rfl 57 rfl ?_
  refine p_iconst J782 d39_57 (z := (0 : Int32)) rfl 58 rfl ?_
  refine i_put J782 d39_58 (mt (i := 410) rfl) Via.refl 0 3 rfl rfl sd_AL (Or.inl (mt (i := 411) rfl)) (mt (i := 390) rfl) (ty := .boolean) (by decide) rfl rfl 61 rfl (o_AL a (.int su) (.int mo) (.int su) (.int (0 : Int32)) (.int sf) (.int bs) (.ref s_) :: F) rfl fun T783 J784 => ?_
  refine p_aload_n J784 d39_61 rfl rfl 62 rfl ?_
  refine p_iload_n J784 d39_62 rfl 63 rfl ?_
  refine i_put J784 d39_63 (mt (i := 399) rfl) Via.refl 0 1 rfl rfl sd_AL (Or.inl (mt (i := 400) rfl)) (mt (i := 390) rfl) (ty := .int) (by decide) rfl rfl 66 rfl (o_AL a (.int su) (.int m_) (.int su) (.int (0 : Int32)) (.int sf) (.int bs) (.ref s_) :: F) rfl fun T785 J786 => ?_
  refine p_aload_n J786 d39_66 rfl rfl 67 rfl ?_
  refine p_iconst J786 d39_67 (z := (1 : Int32)) rfl 68 rfl ?_
  refine i_put J786 d39_68 (mt (i := 435) rfl) Via.refl 0 5 rfl rfl sd_AL (Or.inl (mt (i := 436) rfl)) (mt (i := 390) rfl) (ty := .boolean) (by decide) rfl rfl 71 rfl (o_AL a (.int su) (.int m_) (.int su) (.int (0 : Int32)) (.int sf) (.int (1 : Int32)) (.ref s_) :: F) rfl fun T787 J788 => ?_
  exact r_void J788 d39_71 rfl (by decide) (by decide) (Wf := [o_AL a (.int su) (.int m_) (.int su) (.int (0 : Int32)) (.int sf) (.int (1 : Int32)) (.ref s_)]) rfl ⟨rfl, rfl⟩
theorem d40_0 : decode prog_39_method_6_code 0 = .ok (.aload_n 0, 1) := by decide +kernel
theorem d40_1 : decode prog_39_method_6_code 1 = .ok (.getfield 7, 3) := by decide +kernel
theorem d40_4 : decode prog_39_method_6_code 4 = .ok (.ireturn, 1) := by decide +kernel
theorem pn_least : plainFor (⟨"com/example/lockstep/lockstep/core/ActiveLevels", "least", "()I"⟩ : MethodName) = true := by first | exact plainFor_of_name (by first | (simp [plainName, overriddenIn]; done) | decide +kernel) | exact Jvm.Free.JP.mathPlain rfl (by decide +kernel) | decide +kernel
set_option maxRecDepth 65536 in
set_option maxHeartbeats 40000000 in
theorem c_least {l : Launch} {Z : State} {a0 : Array Value} {EL : List (String × Nat)} (g : GC Z a0 EL) (a : Addr) (s_ : Addr) (le : Int32) (mo : Int32) (su : Int32) (fx : Int32) (sf : Int32) (bs : Int32)  : Con l Z EL (⟨"com/example/lockstep/lockstep/core/ActiveLevels", "least", "()I"⟩ : MethodName) prog_39_method_6_code 1 (some .int) { frames := 0, cells := 0, slots := 0, locals := 0 } [(.ref a)] [o_AL a (.int le) (.int mo) (.int su) (.int fx) (.int sf) (.int bs) (.ref s_)] (fun v W' => v = some (.int le) ∧ W' = [o_AL a (.int le) (.int mo) (.int su) (.int fx) (.int sf) (.int bs) (.ref s_)]) := by
  refine Con.mk g pn_least (Ls := #[.val (.ref a)]) (fun m => by first | (simp [entryFrame, mkF, argsToLocals, Value.category]; done) | rfl) ?_
  intro p e s m below meth c T0 F J0
  refine p_aload_n J0 d40_0 rfl rfl 1 rfl ?_
  refine i_get J0 d40_1 (mt (i := 396) rfl) Via.refl 0 0 rfl rfl 4 rfl fun T789 J790 => ?_
  exact r_val J790 d40_4 (t := .int) rfl rfl (Or.inl ⟨rfl, by simp, _, rfl⟩) (by decide) (by decide) (Wf := [o_AL a (.int le) (.int mo) (.int su) (.int fx) (.int sf) (.int bs) (.ref s_)]) rfl ⟨rfl, rfl⟩
theorem d41_0 : decode prog_39_method_7_code 0 = .ok (.aload_n 0, 1) := by decide +kernel
theorem d41_1 : decode prog_39_method_7_code 1 = .ok (.getfield 26, 3) := by decide +kernel
theorem d41_4 : decode prog_39_method_7_code 4 = .ok (.ireturn, 1) := by decide +kernel
theorem pn_isFixed : plainFor (⟨"com/example/lockstep/lockstep/core/ActiveLevels", "isFixed", "()Z"⟩ : MethodName) = true := by first | exact plainFor_of_name (by first | (simp [plainName, overriddenIn]; done) | decide +kernel) | exact Jvm.Free.JP.mathPlain rfl (by decide +kernel) | decide +kernel
set_option maxRecDepth 65536 in
set_option maxHeartbeats 40000000 in
theorem c_isFixed {l : Launch} {Z : State} {a0 : Array Value} {EL : List (String × Nat)} (g : GC Z a0 EL) (a : Addr) (s_ : Addr) (le : Int32) (mo : Int32) (su : Int32) (fx : Int32) (sf : Int32) (bs : Int32) (hfx : B01 fx) : Con l Z EL (⟨"com/example/lockstep/lockstep/core/ActiveLevels", "isFixed", "()Z"⟩ : MethodName) prog_39_method_7_code 1 (some .boolean) { frames := 0, cells := 0, slots := 0, locals := 0 } [(.ref a)] [o_AL a (.int le) (.int mo) (.int su) (.int fx) (.int sf) (.int bs) (.ref s_)] (fun v W' => v = some (.int fx) ∧ W' = [o_AL a (.int le) (.int mo) (.int su) (.int fx) (.int sf) (.int bs) (.ref s_)]) := by
  refine Con.mk g pn_isFixed (Ls := #[.val (.ref a)]) (fun m => by first | (simp [entryFrame, mkF, argsToLocals, Value.category]; done) | rfl) ?_
  intro p e s m below meth c T0 F J0
  refine p_aload_n J0 d41_0 rfl rfl 1 rfl ?_
  refine i_get J0 d41_1 (mt (i := 410) rfl) Via.refl 0 3 rfl rfl 4 rfl fun T791 J792 => ?_
  exact r_val J792 d41_4 (t := .boolean) rfl (narB hfx) (Or.inl ⟨rfl, by simp, _, rfl⟩) (by decide) (by decide) (Wf := [o_AL a (.int le) (.int mo) (.int su) (.int fx) (.int sf) (.int bs) (.ref s_)]) rfl ⟨rfl, rfl⟩
theorem d42_0 : decode prog_75_method_1_code 0 = .ok (.aload_n 0, 1) := by decide +kernel
theorem d42_1 : decode prog_75_method_1_code 1 = .ok (.invokespecial 1, 3) := by decide +kernel
theorem d42_4 : decode prog_75_method_1_code 4 = .ok (.return_, 1) := by decide +kernel
theorem pn_cp : plainFor (⟨"com/example/lockstep/lockstep/core/ChoicePoint", "<init>", "()V"⟩ : MethodName) = true := by first | exact plainFor_of_name (by first | (simp [plainName, overriddenIn]; done) | decide +kernel) | exact Jvm.Free.JP.mathPlain rfl (by decide +kernel) | decide +kernel
set_option maxRecDepth 65536 in
set_option maxHeartbeats 40000000 in
theorem c_cp {l : Launch} {Z : State} {a0 : Array Value} {EL : List (String × Nat)} (g : GC Z a0 EL) (a : Addr)  : Con l Z EL (⟨"com/example/lockstep/lockstep/core/ChoicePoint", "<init>", "()V"⟩ : MethodName) prog_75_method_1_code 1 none { frames := 1, cells := 0, slots := 0, locals := 12 } [(.ref a)] [] (fun v W' => v = none ∧ W' = []) := by
  refine Con.mk g pn_cp (Ls := #[.val (.ref a)]) (fun m => by first | (simp [entryFrame, mkF, argsToLocals, Value.category]; done) | rfl) ?_
  intro p e s m below meth c T0 F J0
  refine p_aload_n J0 d42_0 rfl rfl 1 rfl ?_
  refine i_initO J0 d42_1 (mt (i := 466) rfl) (mt (i := 14) rfl) (mt (i := 15) rfl) rfl (by decide) (by show (12 : Nat) ≤ _; decide) 4 rfl fun T793 J794 => ?_
  exact r_void J794 d42_4 rfl (by decide) (by decide) (Wf := []) rfl ⟨rfl, rfl⟩
theorem d43_0 : decode prog_75_method_2_code 0 = .ok (.aload_n 0, 1) := by decide +kernel
theorem d43_1 : decode prog_75_method_2_code 1 = .ok (.iload_n 1, 1) := by decide +kernel
theorem d43_2 : decode prog_75_method_2_code 2 = .ok (.putfield 7, 3) := by decide +kernel
theorem d43_5 : decode prog_75_method_2_code 5 = .ok (.aload_n 0, 1) := by decide +kernel
theorem d43_6 : decode prog_75_method_2_code 6 = .ok (.iload_n 2, 1) := by decide +kernel
theorem d43_7 : decode prog_75_method_2_code 7 = .ok (.putfield 13, 3) := by decide +kernel
theorem d43_10 : decode prog_75_method_2_code 10 = .ok (.aload_n 0, 1) := by decide +kernel
theorem d43_11 : decode prog_75_method_2_code 11 = .ok (.iconst 0, 1) := by decide +kernel
theorem d43_12 : decode prog_75_method_2_code 12 = .ok (.putfield 16, 3) := by decide +kernel
theorem d43_15 : decode prog_75_method_2_code 15 = .ok (.aload_n 0, 1) := by decide +kernel
theorem d43_16 : decode prog_75_method_2_code 16 = .ok (.iload_n 3, 1) := by decide +kernel
theorem d43_17 : decode prog_75_method_2_code 17 = .ok (.putfield 19, 3) := by decide +kernel
theorem d43_20 : decode prog_75_method_2_code 20 = .ok (.aload_n 0, 1) := by decide +kernel
theorem d43_21 : decode prog_75_method_2_code 21 = .ok (.iconst 0, 1) := by decide +kernel
theorem d43_22 : decode prog_75_method_2_code 22 = .ok (.putfield 23, 3) := by decide +kernel
theorem d43_25 : decode prog_75_method_2_code 25 = .ok (.aload_n 0, 1) := by decide +kernel
theorem d43_26 : decode prog_75_method_2_code 26 = .ok (.iconst 0, 1) := by decide +kernel
theorem d43_27 : decode prog_75_method_2_code 27 = .ok (.putfield 26, 3) := by decide +kernel
theorem d43_30 : decode prog_75_method_2_code 30 = .ok (.aload_n 0, 1) := by decide +kernel
theorem d43_31 : decode prog_75_method_2_code 31 = .ok (.aload 4, 2) := by decide +kernel
theorem d43_33 : decode prog_75_method_2_code 33 = .ok (.putfield 29, 3) := by decide +kernel
theorem d43_36 : decode prog_75_method_2_code 36 = .ok (.aload_n 0, 1) := by decide +kernel
theorem d43_37 : decode prog_75_method_2_code 37 = .ok (.aload 5, 2) := by decide +kernel
theorem d43_39 : decode prog_75_method_2_code 39 = .ok (.putfield 33, 3) := by decide +kernel
theorem d43_42 : decode prog_75_method_2_code 42 = .ok (.aload_n 0, 1) := by decide +kernel
theorem d43_43 : decode prog_75_method_2_code 43 = .ok (.aload 6, 2) := by decide +kernel
theorem d43_45 : decode prog_75_method_2_code 45 = .ok (.putfield 37, 3) := by decide +kernel
theorem d43_48 : decode prog_75_method_2_code 48 = .ok (.aload_n 0, 1) := by decide +kernel
theorem d43_49 : decode prog_75_method_2_code 49 = .ok (.lload 7, 2) := by decide +kernel
theorem d43_51 : decode prog_75_method_2_code 51 = .ok (.putfield 41, 3) := by decide +kernel
theorem d43_54 : decode prog_75_method_2_code 54 = .ok (.aload_n 0, 1) := by decide +kernel
theorem d43_55 : decode prog_75_method_2_code 55 = .ok (.iconst 0, 1) := by decide +kernel
theorem d43_56 : decode prog_75_method_2_code 56 = .ok (.putfield 45, 3) := by decide +kernel
theorem d43_59 : decode prog_75_method_2_code 59 = .ok (.aload_n 0, 1) := by decide +kernel
theorem d43_60 : decode prog_75_method_2_code 60 = .ok (.iload 9, 2) := by decide +kernel
theorem d43_62 : decode prog_75_method_2_code 62 = .ok (.putfield 48, 3) := by decide +kernel
theorem d43_65 : decode prog_75_method_2_code 65 = .ok (.return_, 1) := by decide +kernel
theorem pn_open : plainFor (⟨"com/example/lockstep/lockstep/core/ChoicePoint", "open", "(IIZLjava/lang/String;Lcom/example/lockstep/lockstep/core/value/SourceLocation;Ljava/util/BitSet;JI)V"⟩ : MethodName) = true := by first | exact plainFor_of_name (by first | (simp [plainName, overriddenIn]; done) | decide +kernel) | exact Jvm.Free.JP.mathPlain rfl (by decide +kernel) | decide +kernel
set_option maxRecDepth 65536 in
set_option maxHeartbeats 40000000 in
theorem c_open {l : Launch} {Z : State} {a0 : Array Value} {EL : List (String × Nat)} (g : GC Z a0 EL) (a : Addr) (e_ : Addr) (lo : Addr)  : Con l Z EL (⟨"com/example/lockstep/lockstep/core/ChoicePoint", "open", "(IIZLjava/lang/String;Lcom/example/lockstep/lockstep/core/value/SourceLocation;Ljava/util/BitSet;JI)V"⟩ : MethodName) prog_75_method_2_code 10 none { frames := 0, cells := 0, slots := 0, locals := 0 } [(.ref a), (.int (2 : Int32)), (.int (0 : Int32)), (.int (0 : Int32)), (.ref e_), (.ref lo), .null, (.long (0 : Int64)), (.int (-1 : Int32))] [o_CP a (.int (0 : Int32)) (.int (0 : Int32)) (.int (0 : Int32)) (.int (0 : Int32)) .null (.long (0 : Int64)) (.int (0 : Int32))] (fun v W' => v = none ∧ W' = [o_CP a (.int (2 : Int32)) (.int (0 : Int32)) (.int (0 : Int32)) (.int (0 : Int32)) .null (.long (0 : Int64)) (.int (0 : Int32))]) := by
  refine Con.mk g pn_open (Ls := #[.val (.ref a), .val (.int (2 : Int32)), .val (.int (0 : Int32)), .val (.int (0 : Int32)), .val (.ref e_), .val (.ref lo), .val .null, .val (.long (0 : Int64)), .second, .val (.int (-1 : Int32))]) (fun m => by first | (simp [entryFrame, mkF, argsToLocals, Value.category]; done) | rfl) ?_
  intro p e s m below meth c T0 F J0
  refine p_aload_n J0 d43_0 rfl rfl 1 rfl ?_
  refine p_iload_n J0 d43_1 rfl 2 rfl ?_
  refine i_put J0 d43_2 (mt (i := 477) rfl) Via.refl 0 0 rfl rfl sd_CP (Or.inl (mt (i := 478) rfl)) (mt (i := 461) rfl) (ty := .int) (by decide) rfl rfl 5 rfl (o_CP a (.int (2 : Int32)) (.int (0 : Int32)) (.int (0 : Int32)) (.int (0 : Int32)) .null (.long (0 : Int64)) (.int (0 : Int32)) :: F) rfl fun T795 J796 => ?_
  refine p_aload_n J796 d43_5 rfl rfl 6 rfl ?_
  refine p_iload_n J796 d43_6 rfl 7 rfl ?_
  refine i_put J796 d43_7 (mt (i := 479) rfl) Via.refl 0 1 rfl rfl sd_CP (Or.inl (mt (i := 480) rfl)) (mt (i := 461) rfl) (ty := .int) (by decide) rfl rfl 10 rfl (o_CP a (.int (2 : Int32)) (.int (0 : Int32)) (.int (0 : Int32)) (.int (0 : Int32)) .null (.long (0 : Int64)) (.int (0 : Int32)) :: F) rfl fun T797 J798 => ?_
  refine p_aload_n J798 d43_10 rfl rfl 11 rfl ?_
  refine p_iconst J798 d43_11 (z := (0 : Int32)) rfl 12 rfl ?_
  refine i_put J798 d43_12 (mt (i := 481) rfl) Via.refl 0 2 rfl rfl sd_CP (Or.inl (mt (i := 482) rfl)) (mt (i := 461) rfl) (ty := .int) (by decide) rfl rfl 15 rfl (o_CP a (.int (2 : Int32)) (.int (0 : Int32)) (.int (0 : Int32)) (.int (0 : Int32)) .null (.long (0 : Int64)) (.int (0 : Int32)) :: F) rfl fun T799 J800 => ?_
  refine p_aload_n J800 d43_15 rfl rfl 16 rfl ?_
  refine p_iload_n J800 d43_16 rfl 17 rfl ?_
  refine i_put J800 d43_17 (mt (i := 483) rfl) Via.refl 0 3 rfl rfl sd_CP (Or.inl (mt (i := 484) rfl)) (mt (i := 461) rfl) (ty := .boolean) (by decide) rfl rfl 20 rfl (o_CP a (.int (2 : Int32)) (.int (0 : Int32)) (.int (0 : Int32)) (.int (0 : Int32)) .null (.long (0 : Int64)) (.int (0 : Int32)) :: F) rfl fun T801 J802 => ?_
  refine p_aload_n J802 d43_20 rfl rfl 21 rfl ?_
  refine p_iconst J802 d43_21 (z := (0 : Int32)) rfl 22 rfl ?_
  refine i_putX J802 d43_22 (mt (i := 485) rfl) Via.refl 0 rfl kd_CP (ks := ks_CP) rfl (by decide) (Or.inl (mt (i := 486) rfl)) (mt (i := 461) rfl) (ty := .boolean) (by decide) rfl rfl 25 rfl fun T803 J804 => ?_
  refine p_aload_n J804 d43_25 rfl rfl 26 rfl ?_
  refine p_iconst J804 d43_26 (z := (0 : Int32)) rfl 27 rfl ?_
  refine i_putX J804 d43_27 (mt (i := 487) rfl) Via.refl 0 rfl kd_CP (ks := ks_CP) rfl (by decide) (Or.inl (mt (i := 488) rfl)) (mt (i := 461) rfl) (ty := .boolean) (by decide) rfl rfl 30 rfl fun T805 J806 => ?_
  refine p_aload_n J806 d43_30 rfl rfl 31 rfl ?_
  refine p_aload J806 d43_31 rfl rfl 33 rfl ?_
  refine i_putX J806 d43_33 (mt (i := 489) rfl) Via.refl 0 rfl kd_CP (ks := ks_CP) rfl (by decide) (Or.inl (mt (i := 490) rfl)) (mt (i := 461) rfl) (ty := (.object "java/lang/String")) (by decide) rfl rfl 36 rfl fun T807 J808 => ?_
  refine p_aload_n J808 d43_36 rfl rfl 37 rfl ?_
  refine p_aload J808 d43_37 rfl rfl 39 rfl ?_
  refine i_putX J808 d43_39 (mt (i := 491) rfl) Via.refl 0 rfl kd_CP (ks := ks_CP) rfl (by decide) (Or.inl (mt (i := 492) rfl)) (mt (i := 461) rfl) (ty := (.object "com/example/lockstep/lockstep/core/value/SourceLocation")) (by decide) rfl rfl 42 rfl fun T809 J810 => ?_
  refine p_aload_n J810 d43_42 rfl rfl 43 rfl ?_
  refine p_aload J810 d43_43 rfl rfl 45 rfl ?_
  refine i_put J810 d43_45 (mt (i := 493) rfl) Via.refl 0 4 rfl rfl sd_CP (Or.inl (mt (i := 494) rfl)) (mt (i := 461) rfl) (ty := (.object "java/util/BitSet")) (by decide) rfl rfl 48 rfl (o_CP a (.int (2 : Int32)) (.int (0 : Int32)) (.int (0 : Int32)) (.int (0 : Int32)) .null (.long (0 : Int64)) (.int (0 : Int32)) :: F) rfl fun T811 J812 => ?_
  refine p_aload_n J812 d43_48 rfl rfl 49 rfl ?_
  refine p_lload J812 d43_49 rfl 51 rfl ?_
  refine i_put J812 d43_51 (mt (i := 495) rfl) Via.refl 0 5 rfl rfl sd_CP (Or.inl (mt (i := 496) rfl)) (mt (i := 461) rfl) (ty := .long) (by decide) rfl rfl 54 rfl (o_CP a (.int (2 : Int32)) (.int (0 : Int32)) (.int (0 : Int32)) (.int (0 : Int32)) .null (.long (0 : Int64)) (.int (0 : Int32)) :: F) rfl fun T813 J814 => ?_
  refine p_aload_n J814 d43_54 rfl rfl 55 rfl ?_
  refine p_iconst J814 d43_55 (z := (0 : Int32)) rfl 56 rfl ?_
  refine i_put J814 d43_56 (mt (i := 497) rfl) Via.refl 0 6 rfl rfl sd_CP (Or.inl (mt (i := 498) rfl)) (mt (i := 461) rfl) (ty := .boolean) (by decide) rfl rfl 59 rfl (o_CP a (.int (2 : Int32)) (.int (0 : Int32)) (.int (0 : Int32)) (.int (0 : Int32)) .null (.long (0 : Int64)) (.int (0 : Int32)) :: F) rfl fun T815 J816 => ?_
  refine p_aload_n J816 d43_59 rfl rfl 60 rfl ?_
  refine p_iload J816 d43_60 rfl 62 rfl ?_
  refine i_putX J816 d43_62 (mt (i := 499) rfl) Via.refl 0 rfl kd_CP (ks := ks_CP) rfl (by decide) (Or.inl (mt (i := 500) rfl)) (mt (i := 461) rfl) (ty := .int) (by decide) rfl rfl 65 rfl fun T817 J818 => ?_
  exact r_void J818 d43_65 rfl (by decide) (by decide) (Wf := [o_CP a (.int (2 : Int32)) (.int (0 : Int32)) (.int (0 : Int32)) (.int (0 : Int32)) .null (.long (0 : Int64)) (.int (0 : Int32))]) rfl ⟨rfl, rfl⟩
theorem d44_0 : decode prog_75_method_5_code 0 = .ok (.aload_n 0, 1) := by decide +kernel
theorem d44_1 : decode prog_75_method_5_code 1 = .ok (.getfield 16, 3) := by decide +kernel
theorem d44_4 : decode prog_75_method_5_code 4 = .ok (.ireturn, 1) := by decide +kernel
theorem pn_taken : plainFor (⟨"com/example/lockstep/lockstep/core/ChoicePoint", "taken", "()I"⟩ : MethodName) = true := by first | exact plainFor_of_name (by first | (simp [plainName, overriddenIn]; done) | decide +kernel) | exact Jvm.Free.JP.mathPlain rfl (by decide +kernel) | decide +kernel
set_option maxRecDepth 65536 in
set_option maxHeartbeats 40000000 in
theorem c_taken {l : Launch} {Z : State} {a0 : Array Value} {EL : List (String × Nat)} (g : GC Z a0 EL) (a : Addr) (t : Int32)  : Con l Z EL (⟨"com/example/lockstep/lockstep/core/ChoicePoint", "taken", "()I"⟩ : MethodName) prog_75_method_5_code 1 (some .int) { frames := 0, cells := 0, slots := 0, locals := 0 } [(.ref a)] [o_CP a (.int (2 : Int32)) (.int (0 : Int32)) (.int t) (.int (0 : Int32)) .null (.long (0 : Int64)) (.int (0 : Int32))] (fun v W' => v = some (.int t) ∧ W' = [o_CP a (.int (2 : Int32)) (.int (0 : Int32)) (.int t) (.int (0 : Int32)) .null (.long (0 : Int64)) (.int (0 : Int32))]) := by
  refine Con.mk g pn_taken (Ls := #[.val (.ref a)]) (fun m => by first | (simp [entryFrame, mkF, argsToLocals, Value.category]; done) | rfl) ?_
  intro p e s m below meth c T0 F J0
  refine p_aload_n J0 d44_0 rfl rfl 1 rfl ?_
  refine i_get J0 d44_1 (mt (i := 481) rfl) Via.refl 0 2 rfl rfl 4 rfl fun T819 J820 => ?_
  exact r_val J820 d44_4 (t := .int) rfl rfl (Or.inl ⟨rfl, by simp, _, rfl⟩) (by decide) (by decide) (Wf := [o_CP a (.int (2 : Int32)) (.int (0 : Int32)) (.int t) (.int (0 : Int32)) .null (.long (0 : Int64)) (.int (0 : Int32))]) rfl ⟨rfl, rfl⟩
theorem d45_0 : decode prog_75_method_3_code 0 = .ok (.aload_n 0, 1) := by decide +kernel
theorem d45_1 : decode prog_75_method_3_code 1 = .ok (.getfield 7, 3) := by decide +kernel
theorem d45_4 : decode prog_75_method_3_code 4 = .ok (.ireturn, 1) := by decide +kernel
theorem pn_ways : plainFor (⟨"com/example/lockstep/lockstep/core/ChoicePoint", "ways", "()I"⟩ : MethodName) = true := by first | exact plainFor_of_name (by first | (simp [plainName, overriddenIn]; done) | decide +kernel) | exact Jvm.Free.JP.mathPlain rfl (by decide +kernel) | decide +kernel
set_option maxRecDepth 65536 in
set_option maxHeartbeats 40000000 in
theorem c_ways {l : Launch} {Z : State} {a0 : Array Value} {EL : List (String × Nat)} (g : GC Z a0 EL) (a : Addr) (t : Int32)  : Con l Z EL (⟨"com/example/lockstep/lockstep/core/ChoicePoint", "ways", "()I"⟩ : MethodName) prog_75_method_3_code 1 (some .int) { frames := 0, cells := 0, slots := 0, locals := 0 } [(.ref a)] [o_CP a (.int (2 : Int32)) (.int (0 : Int32)) (.int t) (.int (0 : Int32)) .null (.long (0 : Int64)) (.int (0 : Int32))] (fun v W' => v = some (.int (2 : Int32)) ∧ W' = [o_CP a (.int (2 : Int32)) (.int (0 : Int32)) (.int t) (.int (0 : Int32)) .null (.long (0 : Int64)) (.int (0 : Int32))]) := by
  refine Con.mk g pn_ways (Ls := #[.val (.ref a)]) (fun m => by first | (simp [entryFrame, mkF, argsToLocals, Value.category]; done) | rfl) ?_
  intro p e s m below meth c T0 F J0
  refine p_aload_n J0 d45_0 rfl rfl 1 rfl ?_
  refine i_get J0 d45_1 (mt (i := 477) rfl) Via.refl 0 0 rfl rfl 4 rfl fun T821 J822 => ?_
  exact r_val J822 d45_4 (t := .int) rfl rfl (Or.inl ⟨rfl, by simp, _, rfl⟩) (by decide) (by decide) (Wf := [o_CP a (.int (2 : Int32)) (.int (0 : Int32)) (.int t) (.int (0 : Int32)) .null (.long (0 : Int64)) (.int (0 : Int32))]) rfl ⟨rfl, rfl⟩
theorem d46_0 : decode prog_75_method_15_code 0 = .ok (.aload_n 0, 1) := by decide +kernel
theorem d46_1 : decode prog_75_method_15_code 1 = .ok (.getfield 41, 3) := by decide +kernel
theorem d46_4 : decode prog_75_method_15_code 4 = .ok (.lreturn, 1) := by decide +kernel
theorem pn_settledB : plainFor (⟨"com/example/lockstep/lockstep/core/ChoicePoint", "settledBefore", "()J"⟩ : MethodName) = true := by first | exact plainFor_of_name (by first | (simp [plainName, overriddenIn]; done) | decide +kernel) | exact Jvm.Free.JP.mathPlain rfl (by decide +kernel) | decide +kernel
set_option maxRecDepth 65536 in
set_option maxHeartbeats 40000000 in
theorem c_settledB {l : Launch} {Z : State} {a0 : Array Value} {EL : List (String × Nat)} (g : GC Z a0 EL) (a : Addr) (t : Int32)  : Con l Z EL (⟨"com/example/lockstep/lockstep/core/ChoicePoint", "settledBefore", "()J"⟩ : MethodName) prog_75_method_15_code 1 (some .long) { frames := 0, cells := 0, slots := 0, locals := 0 } [(.ref a)] [o_CP a (.int (2 : Int32)) (.int (0 : Int32)) (.int t) (.int (0 : Int32)) .null (.long (0 : Int64)) (.int (0 : Int32))] (fun v W' => v = some (.long (0 : Int64)) ∧ W' = [o_CP a (.int (2 : Int32)) (.int (0 : Int32)) (.int t) (.int (0 : Int32)) .null (.long (0 : Int64)) (.int (0 : Int32))]) := by
  refine Con.mk g pn_settledB (Ls := #[.val (.ref a)]) (fun m => by first | (simp [entryFrame, mkF, argsToLocals, Value.category]; done) | rfl) ?_
  intro p e s m below meth c T0 F J0
  refine p_aload_n J0 d46_0 rfl rfl 1 rfl ?_
  refine i_get J0 d46_1 (mt (i := 495) rfl) Via.refl 0 5 rfl rfl 4 rfl fun T823 J824 => ?_
  exact r_val J824 d46_4 (t := .long) rfl rfl (Or.inr (Or.inl ⟨rfl, rfl, _, rfl⟩)) (by decide) (by decide) (Wf := [o_CP a (.int (2 : Int32)) (.int (0 : Int32)) (.int t) (.int (0 : Int32)) .null (.long (0 : Int64)) (.int (0 : Int32))]) rfl ⟨rfl, rfl⟩
theorem d47_0 : decode prog_75_method_16_code 0 = .ok (.aload_n 0, 1) := by decide +kernel
theorem d47_1 : decode prog_75_method_16_code 1 = .ok (.getfield 45, 3) := by decide +kernel
theorem d47_4 : decode prog_75_method_16_code 4 = .ok (.ireturn, 1) := by decide +kernel
theorem pn_isSettled : plainFor (⟨"com/example/lockstep/lockstep/core/ChoicePoint", "isSettled", "()Z"⟩ : MethodName) = true := by first | exact plainFor_of_name (by first | (simp [plainName, overriddenIn]; done) | decide +kernel) | exact Jvm.Free.JP.mathPlain rfl (by decide +kernel) | decide +kernel
set_option maxRecDepth 65536 in
set_option maxHeartbeats 40000000 in
theorem c_isSettled {l : Launch} {Z : State} {a0 : Array Value} {EL : List (String × Nat)} (g : GC Z a0 EL) (a : Addr) (t : Int32)  : Con l Z EL (⟨"com/example/lockstep/lockstep/core/ChoicePoint", "isSettled", "()Z"⟩ : MethodName) prog_75_method_16_code 1 (some .boolean) { frames := 0, cells := 0, slots := 0, locals := 0 } [(.ref a)] [o_CP a (.int (2 : Int32)) (.int (0 : Int32)) (.int t) (.int (0 : Int32)) .null (.long (0 : Int64)) (.int (0 : Int32))] (fun v W' => v = some (.int (0 : Int32)) ∧ W' = [o_CP a (.int (2 : Int32)) (.int (0 : Int32)) (.int t) (.int (0 : Int32)) .null (.long (0 : Int64)) (.int (0 : Int32))]) := by
  refine Con.mk g pn_isSettled (Ls := #[.val (.ref a)]) (fun m => by first | (simp [entryFrame, mkF, argsToLocals, Value.category]; done) | rfl) ?_
  intro p e s m below meth c T0 F J0
  refine p_aload_n J0 d47_0 rfl rfl 1 rfl ?_
  refine i_get J0 d47_1 (mt (i := 497) rfl) Via.refl 0 6 rfl rfl 4 rfl fun T825 J826 => ?_
  exact r_val J826 d47_4 (t := .boolean) rfl rfl (Or.inl ⟨rfl, by simp, _, rfl⟩) (by decide) (by decide) (Wf := [o_CP a (.int (2 : Int32)) (.int (0 : Int32)) (.int t) (.int (0 : Int32)) .null (.long (0 : Int64)) (.int (0 : Int32))]) rfl ⟨rfl, rfl⟩
theorem d48_0 : decode prog_75_method_4_code 0 = .ok (.aload_n 0, 1) := by decide +kernel
theorem d48_1 : decode prog_75_method_4_code 1 = .ok (.getfield 13, 3) := by decide +kernel
theorem d48_4 : decode prog_75_method_4_code 4 = .ok (.ireturn, 1) := by decide +kernel
theorem pn_cpnode : plainFor (⟨"com/example/lockstep/lockstep/core/ChoicePoint", "node", "()I"⟩ : MethodName) = true := by first | exact plainFor_of_name (by first | (simp [plainName, overriddenIn]; done) | decide +kernel) | exact Jvm.Free.JP.mathPlain rfl (by decide +kernel) | decide +kernel
set_option maxRecDepth 65536 in
set_option maxHeartbeats 40000000 in
theorem c_cpnode {l : Launch} {Z : State} {a0 : Array Value} {EL : List (String × Nat)} (g : GC Z a0 EL) (a : Addr) (t : Int32)  : Con l Z EL (⟨"com/example/lockstep/lockstep/core/ChoicePoint", "node", "()I"⟩ : MethodName) prog_75_method_4_code 1 (some .int) { frames := 0, cells := 0, slots := 0, locals := 0 } [(.ref a)] [o_CP a (.int (2 : Int32)) (.int (0 : Int32)) (.int t) (.int (0 : Int32)) .null (.long (0 : Int64)) (.int (0 : Int32))] (fun v W' => v = some (.int (0 : Int32)) ∧ W' = [o_CP a (.int (2 : Int32)) (.int (0 : Int32)) (.int t) (.int (0 : Int32)) .null (.long (0 : Int64)) (.int (0 : Int32))]) := by
  refine Con.mk g pn_cpnode (Ls := #[.val (.ref a)]) (fun m => by first | (simp [entryFrame, mkF, argsToLocals, Value.category]; done) | rfl) ?_
  intro p e s m below meth c T0 F J0
  refine p_aload_n J0 d48_0 rfl rfl 1 rfl ?_
  refine i_get J0 d48_1 (mt (i := 479) rfl) Via.refl 0 1 rfl rfl 4 rfl fun T827 J828 => ?_
  exact r_val J828 d48_4 (t := .int) rfl rfl (Or.inl ⟨rfl, by simp, _, rfl⟩) (by decide) (by decide) (Wf := [o_CP a (.int (2 : Int32)) (.int (0 : Int32)) (.int t) (.int (0 : Int32)) .null (.long (0 : Int64)) (.int (0 : Int32))]) rfl ⟨rfl, rfl⟩
theorem d49_0 : decode prog_75_method_8_code 0 = .ok (.aload_n 0, 1) := by decide +kernel
theorem d49_1 : decode prog_75_method_8_code 1 = .ok (.getfield 16, 3) := by decide +kernel
theorem d49_4 : decode prog_75_method_8_code 4 = .ok (.iconst 1, 1) := by decide +kernel
theorem d49_5 : decode prog_75_method_8_code 5 = .ok (.iadd, 1) := by decide +kernel
theorem d49_6 : decode prog_75_method_8_code 6 = .ok (.istore_n 1, 1) := by decide +kernel
theorem d49_7 : decode prog_75_method_8_code 7 = .ok (.aload_n 0, 1) := by decide +kernel
theorem d49_8 : decode prog_75_method_8_code 8 = .ok (.getfield 37, 3) := by decide +kernel
theorem d49_11 : decode prog_75_method_8_code 11 = .ok (.ifnull 19, 3) := by decide +kernel
theorem d49_30 : decode prog_75_method_8_code 30 = .ok (.iload_n 1, 1) := by decide +kernel
theorem d49_31 : decode prog_75_method_8_code 31 = .ok (.ireturn, 1) := by decide +kernel
theorem pn_nextWay : plainFor (⟨"com/example/lockstep/lockstep/core/ChoicePoint", "nextWay", "()I"⟩ : MethodName) = true := by first | exact plainFor_of_name (by first | (simp [plainName, overriddenIn]; done) | decide +kernel) | exact Jvm.Free.JP.mathPlain rfl (by decide +kernel) | decide +kernel
set_option maxRecDepth 65536 in
set_option maxHeartbeats 40000000 in
theorem c_nextWay {l : Launch} {Z : State} {a0 : Array Value} {EL : List (String × Nat)} (g : GC Z a0 EL) (a : Addr)  : Con l Z EL (⟨"com/example/lockstep/lockstep/core/ChoicePoint", "nextWay", "()I"⟩ : MethodName) prog_75_method_8_code 2 (some .int) { frames := 0, cells := 0, slots := 0, locals := 0 } [(.ref a)] [o_CP a (.int (2 : Int32)) (.int (0 : Int32)) (.int (0 : Int32)) (.int (0 : Int32)) .null (.long (0 : Int64)) (.int (0 : Int32))] (fun v W' => v = some (.int (1 : Int32)) ∧ W' = [o_CP a (.int (2 : Int32)) (.int (0 : Int32)) (.int (0 : Int32)) (.int (0 : Int32)) .null (.long (0 : Int64)) (.int (0 : Int32))]) := by
  refine Con.mk g pn_nextWay (Ls := #[.val (.ref a), .unset]) (fun m => by first | (simp [entryFrame, mkF, argsToLocals, Value.category]; done) | rfl) ?_
  intro p e s m below meth c T0 F J0
  refine p_aload_n J0 d49_0 rfl rfl 1 rfl ?_
  refine i_get J0 d49_1 (mt (i := 481) rfl) Via.refl 0 2 rfl rfl 4 rfl fun T829 J830 => ?_
  refine p_iconst J830 d49_4 (z := (1 : Int32)) rfl 5 rfl ?_
  refine p_iadd J830 d49_5 (z := (1 : Int32)) (by decide) 6 rfl ?_
  refine p_istore_n J830 #[.val (.ref a), .val (.int (1 : Int32))] d49_6 rfl 7 rfl ?_
  refine p_aload_n J830 d49_7 rfl rfl 8 rfl ?_
  refine i_get J830 d49_8 (mt (i := 493) rfl) Via.refl 0 4 rfl rfl 11 rfl fun T831 J832 => ?_
  refine p_ifnull_y J832 d49_11 30 (by decide) (by decide) ?_
  refine p_iload_n J832 d49_30 rfl 31 rfl ?_
  exact r_val J832 d49_31 (t := .int) rfl rfl (Or.inl ⟨rfl, by simp, _, rfl⟩) (by decide) (by decide) (Wf := [o_CP a (.int (2 : Int32)) (.int (0 : Int32)) (.int (0 : Int32)) (.int (0 : Int32)) .null (.long (0 : Int64)) (.int (0 : Int32))]) rfl ⟨rfl, rfl⟩
theorem d50_0 : decode prog_75_method_7_code 0 = .ok (.aload_n 0, 1) := by decide +kernel
theorem d50_1 : decode prog_75_method_7_code 1 = .ok (.invokevirtual 51, 3) := by decide +kernel
theorem d50_4 : decode prog_75_method_7_code 4 = .ok (.aload_n 0, 1) := by decide +kernel
theorem d50_5 : decode prog_75_method_7_code 5 = .ok (.getfield 7, 3) := by decide +kernel
theorem d50_8 : decode prog_75_method_7_code 8 = .ok (.if_icmp .ge 35, 3) := by decide +kernel
theorem d50_11 : decode prog_75_method_7_code 11 = .ok (.aload_n 0, 1) := by decide +kernel
theorem d50_12 : decode prog_75_method_7_code 12 = .ok (.getfield 19, 3) := by decide +kernel
theorem d50_15 : decode prog_75_method_7_code 15 = .ok (.ifCond .eq 24, 3) := by decide +kernel
theorem d50_39 : decode prog_75_method_7_code 39 = .ok (.iconst 1, 1) := by decide +kernel
theorem d50_40 : decode prog_75_method_7_code 40 = .ok (.goto 4, 3) := by decide +kernel
theorem d50_44 : decode prog_75_method_7_code 44 = .ok (.ireturn, 1) := by decide +kernel
theorem pn_hasWay : plainFor (⟨"com/example/lockstep/lockstep/core/ChoicePoint", "hasWayToTry", "()Z"⟩ : MethodName) = true := by first | exact plainFor_of_name (by first | (simp [plainName, overriddenIn]; done) | decide +kernel) | exact Jvm.Free.JP.mathPlain rfl (by decide +kernel) | decide +kernel
set_option maxRecDepth 65536 in
set_option maxHeartbeats 40000000 in
theorem c_hasWay {l : Launch} {Z : State} {a0 : Array Value} {EL : List (String × Nat)} (g : GC Z a0 EL) (a : Addr)  : Con l Z EL (⟨"com/example/lockstep/lockstep/core/ChoicePoint", "hasWayToTry", "()Z"⟩ : MethodName) prog_75_method_7_code 1 (some .boolean) { frames := 1, cells := 0, slots := 0, locals := 13 } [(.ref a)] [o_CP a (.int (2 : Int32)) (.int (0 : Int32)) (.int (0 : Int32)) (.int (0 : Int32)) .null (.long (0 : Int64)) (.int (0 : Int32))] (fun v W' => v = some (.int (1 : Int32)) ∧ W' = [o_CP a (.int (2 : Int32)) (.int (0 : Int32)) (.int (0 : Int32)) (.int (0 : Int32)) .null (.long (0 : Int64)) (.int (0 : Int32))]) := by
  refine Con.mk g pn_hasWay (Ls := #[.val (.ref a)]) (fun m => by first | (simp [entryFrame, mkF, argsToLocals, Value.category]; done) | rfl) ?_
  intro p e s m below meth c T0 F J0
  refine p_aload_n J0 d50_0 rfl rfl 1 rfl ?_
  refine i_private J0 d50_1 (mt (i := 565) rfl) (mt (i := 567) rfl) (mt (i := 461) rfl) (mt (i := 566) rfl) (mt (i := 462) rfl) (mt (i := 568) rfl) (by decide) (lenOf pd_6 rfl) 0 rfl (c_nextWay g a ) [0] [] 1 (by decide) (lenLe F 1 rfl) rfl 0 (by decide) (by decide) (by decide) (by decide) rfl (by show (0 : Nat) ≤ _; decide) _ rfl 0 0 rfl rfl 4 rfl fun v836 W837 T833 hQ835 J834 => ?_
  obtain ⟨rfl, rfl⟩ := hQ835
  have J838 := J834.norm (W' := o_CP a (.int (2 : Int32)) (.int (0 : Int32)) (.int (0 : Int32)) (.int (0 : Int32)) .null (.long (0 : Int64)) (.int (0 : Int32)) :: F) rfl
  show Run _ _ _ _ (State.setTop _ (mkF m 4 #[.val (.ref a)] [(.int (1 : Int32))]))
  refine p_aload_n J838 d50_4 rfl rfl 5 rfl ?_
  refine i_get J838 d50_5 (mt (i := 477) rfl) Via.refl 0 0 rfl rfl 8 rfl fun T839 J840 => ?_
  refine p_icmp_n J840 d50_8 (by decide) 11 rfl ?_
  refine p_aload_n J840 d50_11 rfl rfl 12 rfl ?_
  refine i_get J840 d50_12 (mt (i := 483) rfl) Via.refl 0 3 rfl rfl 15 rfl fun T841 J842 => ?_
  refine p_if_y J842 d50_15 (by decide) 39 (by decide) (by decide) ?_
  refine p_iconst J842 d50_39 (z := (1 : Int32)) rfl 40 rfl ?_
  refine p_goto J842 d50_40 44 (by decide) (by decide) ?_
  exact r_val J842 d50_44 (t := .boolean) rfl rfl (Or.inl ⟨rfl, by simp, _, rfl⟩) (by decide) (by decide) (Wf := [o_CP a (.int (2 : Int32)) (.int (0 : Int32)) (.int (0 : Int32)) (.int (0 : Int32)) .null (.long (0 : Int64)) (.int (0 : Int32))]) rfl ⟨rfl, rfl⟩
theorem d51_0 : decode prog_75_method_6_code 0 = .ok (.aload_n 0, 1) := by decide +kernel
theorem d51_1 : decode prog_75_method_6_code 1 = .ok (.aload_n 0, 1) := by decide +kernel
theorem d51_2 : decode prog_75_method_6_code 2 = .ok (.invokevirtual 51, 3) := by decide +kernel
theorem d51_5 : decode prog_75_method_6_code 5 = .ok (.putfield 16, 3) := by decide +kernel
theorem d51_8 : decode prog_75_method_6_code 8 = .ok (.return_, 1) := by decide +kernel
theorem pn_takeNext : plainFor (⟨"com/example/lockstep/lockstep/core/ChoicePoint", "takeNextWay", "()V"⟩ : MethodName) = true := by first | exact plainFor_of_name (by first | (simp [plainName, overriddenIn]; done) | decide +kernel) | exact Jvm.Free.JP.mathPlain rfl (by decide +kernel) | decide +kernel
set_option maxRecDepth 65536 in
set_option maxHeartbeats 40000000 in
theorem c_takeNext {l : Launch} {Z : State} {a0 : Array Value} {EL : List (String × Nat)} (g : GC Z a0 EL) (a : Addr)  : Con l Z EL (⟨"com/example/lockstep/lockstep/core/ChoicePoint", "takeNextWay", "()V"⟩ : MethodName) prog_75_method_6_code 1 none { frames := 1, cells := 0, slots := 0, locals := 14 } [(.ref a)] [o_CP a (.int (2 : Int32)) (.int (0 : Int32)) (.int (0 : Int32)) (.int (0 : Int32)) .null (.long (0 : Int64)) (.int (0 : Int32))] (fun v W' => v = none ∧ W' = [o_CP a (.int (2 : Int32)) (.int (0 : Int32)) (.int (1 : Int32)) (.int (0 : Int32)) .null (.long (0 : Int64)) (.int (0 : Int32))]) := by
  refine Con.mk g pn_takeNext (Ls := #[.val (.ref a)]) (fun m => by first | (simp [entryFrame, mkF, argsToLocals, Value.category]; done) | rfl) ?_
  intro p e s m below meth c T0 F J0
  refine p_aload_n J0 d51_0 rfl rfl 1 rfl ?_
  refine p_aload_n J0 d51_1 rfl rfl 2 rfl ?_
  refine i_private J0 d51_2 (mt (i := 565) rfl) (mt (i := 567) rfl) (mt (i := 461) rfl) (mt (i := 566) rfl) (mt (i := 462) rfl) (mt (i := 568) rfl) (by decide) (lenOf pd_6 rfl) 0 rfl (c_nextWay g a ) [0] [] 1 (by decide) (lenLe F 1 rfl) rfl 1 (by decide) (by decide) (by decide) (by decide) rfl (by show (1 : Nat) ≤ _; decide) _ rfl 0 0 rfl rfl 5 rfl fun v846 W847 T843 hQ845 J844 => ?_
  obtain ⟨rfl, rfl⟩ := hQ845
  have J848 := J844.norm (W' := o_CP a (.int (2 : Int32)) (.int (0 : Int32)) (.int (0 : Int32)) (.int (0 : Int32)) .null (.long (0 : Int64)) (.int (0 : Int32)) :: F) rfl
  show Run _ _ _ _ (State.setTop _ (mkF m 5 #[.val (.ref a)] [(.int (1 : Int32)), (.ref a)]))
  refine i_put J848 d51_5 (mt (i := 481) rfl) Via.refl 0 2 rfl rfl sd_CP (Or.inl (mt (i := 482) rfl)) (mt (i := 461) rfl) (ty := .int) (by decide) rfl rfl 8 rfl (o_CP a (.int (2 : Int32)) (.int (0 : Int32)) (.int (1 : Int32)) (.int (0 : Int32)) .null (.long (0 : Int64)) (.int (0 : Int32)) :: F) rfl fun T849 J850 => ?_
  exact r_void J850 d51_8 rfl (by decide) (by decide) (Wf := [o_CP a (.int (2 : Int32)) (.int (0 : Int32)) (.int (1 : Int32)) (.int (0 : Int32)) .null (.long (0 : Int64)) (.int (0 : Int32))]) rfl ⟨rfl, rfl⟩
theorem d52_0 : decode prog_206_method_80_code 0 = .ok (.aload_n 0, 1) := by decide +kernel
theorem d52_1 : decode prog_206_method_80_code 1 = .ok (.getfield 266, 3) := by decide +kernel
theorem d52_4 : decode prog_206_method_80_code 4 = .ok (.aload_n 0, 1) := by decide +kernel
theorem d52_5 : decode prog_206_method_80_code 5 = .ok (.getfield 387, 3) := by decide +kernel
theorem d52_8 : decode prog_206_method_80_code 8 = .ok (.if_icmp .ge 110, 3) := by decide +kernel
theorem d52_118 : decode prog_206_method_80_code 118 = .ok (.aload_n 2, 1) := by decide +kernel
theorem d52_119 : decode prog_206_method_80_code 119 = .ok (.ifnonnull 7, 3) := by decide +kernel
theorem d52_122 : decode prog_206_method_80_code 122 = .ok (.aconst_null, 1) := by decide +kernel
theorem d52_123 : decode prog_206_method_80_code 123 = .ok (.goto 12, 3) := by decide +kernel
theorem d52_135 : decode prog_206_method_80_code 135 = .ok (.astore 6, 2) := by decide +kernel
theorem d52_137 : decode prog_206_method_80_code 137 = .ok (.aload 6, 2) := by decide +kernel
theorem d52_139 : decode prog_206_method_80_code 139 = .ok (.ifnull 93, 3) := by decide +kernel
theorem d52_232 : decode prog_206_method_80_code 232 = .ok (.aload_n 0, 1) := by decide +kernel
theorem d52_233 : decode prog_206_method_80_code 233 = .ok (.getfield 266, 3) := by decide +kernel
theorem d52_236 : decode prog_206_method_80_code 236 = .ok (.aload_n 0, 1) := by decide +kernel
theorem d52_237 : decode prog_206_method_80_code 237 = .ok (.getfield 110, 3) := by decide +kernel
theorem d52_240 : decode prog_206_method_80_code 240 = .ok (.arraylength, 1) := by decide +kernel
theorem d52_241 : decode prog_206_method_80_code 241 = .ok (.if_icmp .ne 23, 3) := by decide +kernel
theorem d52_264 : decode prog_206_method_80_code 264 = .ok (.aload_n 0, 1) := by decide +kernel
theorem d52_265 : decode prog_206_method_80_code 265 = .ok (.getfield 110, 3) := by decide +kernel
theorem d52_268 : decode prog_206_method_80_code 268 = .ok (.aload_n 0, 1) := by decide +kernel
theorem d52_269 : decode prog_206_method_80_code 269 = .ok (.getfield 266, 3) := by decide +kernel
theorem d52_272 : decode prog_206_method_80_code 272 = .ok (.aaload, 1) := by decide +kernel
theorem d52_273 : decode prog_206_method_80_code 273 = .ok (.ifnonnull 19, 3) := by decide +kernel
theorem d52_276 : decode prog_206_method_80_code 276 = .ok (.aload_n 0, 1) := by decide +kernel
theorem d52_277 : decode prog_206_method_80_code 277 = .ok (.getfield 110, 3) := by decide +kernel
theorem d52_280 : decode prog_206_method_80_code 280 = .ok (.aload_n 0, 1) := by decide +kernel
theorem d52_281 : decode prog_206_method_80_code 281 = .ok (.getfield 266, 3) := by decide +kernel
theorem d52_284 : decode prog_206_method_80_code 284 = .ok (.new 108, 3) := by decide +kernel
theorem d52_287 : decode prog_206_method_80_code 287 = .ok (.dup, 1) := by decide +kernel
theorem d52_288 : decode prog_206_method_80_code 288 = .ok (.invokespecial 543, 3) := by decide +kernel
theorem d52_291 : decode prog_206_method_80_code 291 = .ok (.aastore, 1) := by decide +kernel
theorem d52_292 : decode prog_206_method_80_code 292 = .ok (.aload 4, 2) := by decide +kernel
theorem d52_294 : decode prog_206_method_80_code 294 = .ok (.ifnull 8, 3) := by decide +kernel
theorem d52_297 : decode prog_206_method_80_code 297 = .ok (.aload_n 0, 1) := by decide +kernel
theorem d52_298 : decode prog_206_method_80_code 298 = .ok (.aconst_null, 1) := by decide +kernel
theorem d52_299 : decode prog_206_method_80_code 299 = .ok (.putfield 206, 3) := by decide +kernel
theorem d52_302 : decode prog_206_method_80_code 302 = .ok (.aload 6, 2) := by decide +kernel
theorem d52_304 : decode prog_206_method_80_code 304 = .ok (.ifnull 14, 3) := by decide +kernel
theorem d52_318 : decode prog_206_method_80_code 318 = .ok (.aconst_null, 1) := by decide +kernel
theorem d52_319 : decode prog_206_method_80_code 319 = .ok (.goto 8, 3) := by decide +kernel
theorem d52_327 : decode prog_206_method_80_code 327 = .ok (.astore 7, 2) := by decide +kernel
theorem d52_329 : decode prog_206_method_80_code 329 = .ok (.aload_n 0, 1) := by decide +kernel
theorem d52_330 : decode prog_206_method_80_code 330 = .ok (.getfield 117, 3) := by decide +kernel
theorem d52_333 : decode prog_206_method_80_code 333 = .ok (.ifCond .lt 14, 3) := by decide +kernel
theorem d52_347 : decode prog_206_method_80_code 347 = .ok (.aload_n 0, 1) := by decide +kernel
theorem d52_348 : decode prog_206_method_80_code 348 = .ok (.getfield 110, 3) := by decide +kernel
theorem d52_351 : decode prog_206_method_80_code 351 = .ok (.aload_n 0, 1) := by decide +kernel
theorem d52_352 : decode prog_206_method_80_code 352 = .ok (.getfield 266, 3) := by decide +kernel
theorem d52_355 : decode prog_206_method_80_code 355 = .ok (.aaload, 1) := by decide +kernel
theorem d52_356 : decode prog_206_method_80_code 356 = .ok (.iload_n 1, 1) := by decide +kernel
theorem d52_357 : decode prog_206_method_80_code 357 = .ok (.aload_n 0, 1) := by decide +kernel
theorem d52_358 : decode prog_206_method_80_code 358 = .ok (.getfield 94, 3) := by decide +kernel
theorem d52_361 : decode prog_206_method_80_code 361 = .ok (.iload_n 3, 1) := by decide +kernel
theorem d52_362 : decode prog_206_method_80_code 362 = .ok (.aload 4, 2) := by decide +kernel
theorem d52_364 : decode prog_206_method_80_code 364 = .ok (.aload 5, 2) := by decide +kernel
theorem d52_366 : decode prog_206_method_80_code 366 = .ok (.aload 7, 2) := by decide +kernel
theorem d52_368 : decode prog_206_method_80_code 368 = .ok (.aload_n 0, 1) := by decide +kernel
theorem d52_369 : decode prog_206_method_80_code 369 = .ok (.getfield 423, 3) := by decide +kernel
theorem d52_372 : decode prog_206_method_80_code 372 = .ok (.aload_n 0, 1) := by decide +kernel
theorem d52_373 : decode prog_206_method_80_code 373 = .ok (.getfield 117, 3) := by decide +kernel
theorem d52_376 : decode prog_206_method_80_code 376 = .ok (.invokevirtual 548, 3) := by decide +kernel
theorem pd_18 : parseMethodDescriptor "(IIZLjava/lang/String;Lcom/example/lockstep/lockstep/core/value/SourceLocation;Ljava/util/BitSet;JI)V" = some ⟨[.int, .int, .boolean, (.object "java/lang/String"), (.object "com/example/lockstep/lockstep/core/value/SourceLocation"), (.object "java/util/BitSet"), .long, .int], none⟩ := by decide +kernel
theorem d52_379 : decode prog_206_method_80_code 379 = .ok (.aload_n 0, 1) := by decide +kernel
theorem d52_380 : decode prog_206_method_80_code 380 = .ok (.lconst 0, 1) := by decide +kernel
theorem d52_381 : decode prog_206_method_80_code 381 = .ok (.putfield 423, 3) := by decide +kernel
theorem d52_384 : decode prog_206_method_80_code 384 = .ok (.aload_n 0, 1) := by decide +kernel
theorem d52_385 : decode prog_206_method_80_code 385 = .ok (.aload_n 0, 1) := by decide +kernel
theorem d52_386 : decode prog_206_method_80_code 386 = .ok (.getfield 266, 3) := by decide +kernel
theorem d52_389 : decode prog_206_method_80_code 389 = .ok (.putfield 114, 3) := by decide +kernel
theorem d52_392 : decode prog_206_method_80_code 392 = .ok (.aload_n 0, 1) := by decide +kernel
theorem d52_393 : decode prog_206_method_80_code 393 = .ok (.getfield 110, 3) := by decide +kernel
theorem d52_396 : decode prog_206_method_80_code 396 = .ok (.aload_n 0, 1) := by decide +kernel
theorem d52_397 : decode prog_206_method_80_code 397 = .ok (.dup, 1) := by decide +kernel
theorem d52_398 : decode prog_206_method_80_code 398 = .ok (.getfield 266, 3) := by decide +kernel
theorem d52_401 : decode prog_206_method_80_code 401 = .ok (.dup_x1, 1) := by decide +kernel
theorem d52_402 : decode prog_206_method_80_code 402 = .ok (.iconst 1, 1) := by decide +kernel
theorem d52_403 : decode prog_206_method_80_code 403 = .ok (.iadd, 1) := by decide +kernel
theorem d52_404 : decode prog_206_method_80_code 404 = .ok (.putfield 266, 3) := by decide +kernel
theorem d52_407 : decode prog_206_method_80_code 407 = .ok (.aaload, 1) := by decide +kernel
theorem d52_408 : decode prog_206_method_80_code 408 = .ok (.invokevirtual 390, 3) := by decide +kernel
theorem d52_411 : decode prog_206_method_80_code 411 = .ok (.ireturn, 1) := by decide +kernel
theorem pn_ch0 : plainFor (⟨"com/example/lockstep/lockstep/core/Search", "choose", "(ILjava/util/function/Supplier;ZLjava/lang/String;Lcom/example/lockstep/lockstep/core/value/SourceLocation;)I"⟩ : MethodName) = true := by first | exact plainFor_of_name (by first | (simp [plainName, overriddenIn]; done) | decide +kernel) | exact Jvm.Free.JP.mathPlain rfl (by decide +kernel) | decide +kernel
set_option maxRecDepth 65536 in
set_option maxHeartbeats 40000000 in
theorem c_ch0 {l : Launch} {Z : State} {a0 : Array Value} {EL : List (String × Nat)} (g : GC Z a0 EL) (se : Addr) (po : Addr) (wb : Addr) (ls : Addr) (pts : Addr) (kp : ClassId) (sv : Addr) (pt : Addr) (e_ : Addr) (lo : Addr)  : Con l Z EL (⟨"com/example/lockstep/lockstep/core/Search", "choose", "(ILjava/util/function/Supplier;ZLjava/lang/String;Lcom/example/lockstep/lockstep/core/value/SourceLocation;)I"⟩ : MethodName) prog_206_method_80_code 8 (some .int) { frames := 2, cells := 1, slots := 12, locals := 27 } [(.ref se), (.int (2 : Int32)), .null, (.int (0 : Int32)), (.ref e_), (.ref lo)] [o_SE se (.ref po) (.ref wb) (.ref ls) (.ref pts) (.int (0 : Int32)) (.int (-1 : Int32)) (.ref sv) (.ref pt) (.int (0 : Int32)) (.int (0 : Int32)) (.long (0 : Int64)) (.int (0 : Int32)) (.int (0 : Int32)), (pts, true, .inr (kp, (.object "com/example/lockstep/lockstep/core/ChoicePoint"), (16 : Int32), [.null, .null], .null))] (fun v W' => ∃ (cn : Addr), v = some (.int (0 : Int32)) ∧ W' = [o_SE se (.ref po) (.ref wb) (.ref ls) (.ref pts) (.int (0 : Int32)) (.int (-1 : Int32)) (.ref sv) (.ref pt) (.int (1 : Int32)) (.int (0 : Int32)) (.long (0 : Int64)) (.int (0 : Int32)) (.int (0 : Int32)), (pts, true, .inr (kp, (.object "com/example/lockstep/lockstep/core/ChoicePoint"), (16 : Int32), [(.ref cn), .null], .null)), o_CP cn (.int (2 : Int32)) (.int (0 : Int32)) (.int (0 : Int32)) (.int (0 : Int32)) .null (.long (0 : Int64)) (.int (0 : Int32))]) := by
  refine Con.mk g pn_ch0 (Ls := #[.val (.ref se), .val (.int (2 : Int32)), .val .null, .val (.int (0 : Int32)), .val (.ref e_), .val (.ref lo), .unset, .unset]) (fun m => by first | (simp [entryFrame, mkF, argsToLocals, Value.category]; done) | rfl) ?_
  intro p e s m below meth c T0 F J0
  refine p_aload_n J0 d52_0 rfl rfl 1 rfl ?_
  refine i_get J0 d52_1 (mt (i := 457) rfl) Via.refl 0 8 rfl rfl 4 rfl fun T851 J852 => ?_
  refine p_aload_n J852 d52_4 rfl rfl 5 rfl ?_
  refine i_get J852 d52_5 (mt (i := 459) rfl) Via.refl 0 9 rfl rfl 8 rfl fun T853 J854 => ?_
  refine p_icmp_y J854 d52_8 (by decide) 118 (by decide) (by decide) ?_
  refine p_aload_n J854 d52_118 rfl rfl 119 rfl ?_
  refine p_ifnonnull_n J854 d52_119 122 rfl ?_
  refine p_aconst_null J854 d52_122 123 rfl ?_
  refine p_goto J854 d52_123 135 (by decide) (by decide) ?_
  refine p_astore J854 #[.val (.ref se), .val (.int (2 : Int32)), .val .null, .val (.int (0 : Int32)), .val (.ref e_), .val (.ref lo), .val .null, .unset] d52_135 rfl rfl 137 rfl ?_
  refine p_aload J854 d52_137 rfl rfl 139 rfl ?_
  refine p_ifnull_y J854 d52_139 232 (by decide) (by decide) ?_
  refine p_aload_n J854 d52_232 rfl rfl 233 rfl ?_
  refine i_get J854 d52_233 (mt (i := 457) rfl) Via.refl 0 8 rfl rfl 236 rfl fun T855 J856 => ?_
  refine p_aload_n J856 d52_236 rfl rfl 237 rfl ?_
  refine i_get J856 d52_237 (mt (i := 330) rfl) Via.refl 0 3 rfl rfl 240 rfl fun T857 J858 => ?_
  refine i_len J858 d52_240 1 rfl 241 rfl ?_
  refine p_icmp_y J858 d52_241 (by decide) 264 (by decide) (by decide) ?_
  refine p_aload_n J858 d52_264 rfl rfl 265 rfl ?_
  refine i_get J858 d52_265 (mt (i := 330) rfl) Via.refl 0 3 rfl rfl 268 rfl fun T859 J860 => ?_
  refine p_aload_n J860 d52_268 rfl rfl 269 rfl ?_
  refine i_get J860 d52_269 (mt (i := 457) rfl) Via.refl 0 8 rfl rfl 272 rfl fun T861 J862 => ?_
  refine i_aaload J862 d52_272 1 rfl rfl (by decide) (by decide) rfl 273 rfl ?_
  refine p_ifnonnull_n J862 d52_273 276 rfl ?_
  refine p_aload_n J862 d52_276 rfl rfl 277 rfl ?_
  refine i_get J862 d52_277 (mt (i := 330) rfl) Via.refl 0 3 rfl rfl 280 rfl fun T863 J864 => ?_
  refine p_aload_n J864 d52_280 rfl rfl 281 rfl ?_
  refine i_get J864 d52_281 (mt (i := 457) rfl) Via.refl 0 8 rfl rfl 284 rfl fun T865 J866 => ?_
  refine i_new J866 d52_284 (mt (i := 328) rfl) (mt (i := 461) rfl) (mt (i := 462) rfl) (by decide) (by decide) df_CP 1 12 rfl rfl 287 rfl fun a867 T868 J869 => ?_
  refine p_dup J869 d52_287 rfl 288 rfl ?_
  refine i_special J869 d52_288 rfl (mt (i := 463) rfl) (mt (i := 464) rfl) (mt (i := 462) rfl) (mt (i := 465) rfl) (by decide) (lenOf pd_0 rfl) (c_cp g a867 ) [] [0, 1, 2] 3 (by decide) (lenLe F 3 rfl) rfl 3 (by decide) (by decide) (by decide) (by decide) rfl (by show (3 : Nat) ≤ _; decide) _ rfl 1 12 rfl rfl 291 rfl fun v873 W874 T870 hQ872 J871 => ?_
  obtain ⟨rfl, rfl⟩ := hQ872
  have J875 := J871.norm (W' := o_CP a867 (.int (0 : Int32)) (.int (0 : Int32)) (.int (0 : Int32)) (.int (0 : Int32)) .null (.long (0 : Int64)) (.int (0 : Int32)) :: o_SE se (.ref po) (.ref wb) (.ref ls) (.ref pts) (.int (0 : Int32)) (.int (-1 : Int32)) (.ref sv) (.ref pt) (.int (0 : Int32)) (.int (0 : Int32)) (.long (0 : Int64)) (.int (0 : Int32)) (.int (0 : Int32)) :: (pts, true, .inr (kp, (.object "com/example/lockstep/lockstep/core/ChoicePoint"), (16 : Int32), [.null, .null], .null)) :: F) rfl
  show Run _ _ _ _ (State.setTop _ (mkF m 291 #[.val (.ref se), .val (.int (2 : Int32)), .val .null, .val (.int (0 : Int32)), .val (.ref e_), .val (.ref lo), .val .null, .unset] [(.ref a867), (.int (0 : Int32)), (.ref pts)]))
  refine i_aastore J875 d52_291 2 0 0 rfl rfl (mt (i := 467) rfl) (by decide) (by decide) rfl (by show (0 : Nat) < 2; decide) 292 rfl (o_CP a867 (.int (0 : Int32)) (.int (0 : Int32)) (.int (0 : Int32)) (.int (0 : Int32)) .null (.long (0 : Int64)) (.int (0 : Int32)) :: o_SE se (.ref po) (.ref wb) (.ref ls) (.ref pts) (.int (0 : Int32)) (.int (-1 : Int32)) (.ref sv) (.ref pt) (.int (0 : Int32)) (.int (0 : Int32)) (.long (0 : Int64)) (.int (0 : Int32)) (.int (0 : Int32)) :: (pts, true, .inr (kp, (.object "com/example/lockstep/lockstep/core/ChoicePoint"), (16 : Int32), [(.ref a867), .null], .null)) :: F) rfl fun T876 J877 => ?_
  refine p_aload J877 d52_292 rfl rfl 294 rfl ?_
  refine p_ifnull_n J877 d52_294 297 rfl ?_
  refine p_aload_n J877 d52_297 rfl rfl 298 rfl ?_
  refine p_aconst_null J877 d52_298 299 rfl ?_
  refine i_putX J877 d52_299 (mt (i := 468) rfl) Via.refl 1 rfl kd_SE (ks := ks_SE) rfl (by decide) (Or.inl (mt (i := 469) rfl)) (mt (i := 2) rfl) (ty := (.object "com/example/lockstep/lockstep/core/Search$Untried")) (by decide) rfl rfl 302 rfl fun T878 J879 => ?_
  refine p_aload J879 d52_302 rfl rfl 304 rfl ?_
  refine p_ifnull_y J879 d52_304 318 (by decide) (by decide) ?_
  refine p_aconst_null J879 d52_318 319 rfl ?_
  refine p_goto J879 d52_319 327 (by decide) (by decide) ?_
  refine p_astore J879 #[.val (.ref se), .val (.int (2 : Int32)), .val .null, .val (.int (0 : Int32)), .val (.ref e_), .val (.ref lo), .val .null, .val .null] d52_327 rfl rfl 329 rfl ?_
  refine p_aload_n J879 d52_329 rfl rfl 330 rfl ?_
  refine i_get J879 d52_330 (mt (i := 334) rfl) Via.refl 1 5 rfl rfl 333 rfl fun T880 J881 => ?_
  refine p_if_y J881 d52_333 (by decide) 347 (by decide) (by decide) ?_
  refine p_aload_n J881 d52_347 rfl rfl 348 rfl ?_
  refine i_get J881 d52_348 (mt (i := 330) rfl) Via.refl 1 3 rfl rfl 351 rfl fun T882 J883 => ?_
  refine p_aload_n J883 d52_351 rfl rfl 352 rfl ?_
  refine i_get J883 d52_352 (mt (i := 457) rfl) Via.refl 1 8 rfl rfl 355 rfl fun T884 J885 => ?_
  refine i_aaload J885 d52_355 2 rfl rfl (by decide) (by decide) rfl 356 rfl ?_
  refine p_iload_n J885 d52_356 rfl 357 rfl ?_
  refine p_aload_n J885 d52_357 rfl rfl 358 rfl ?_
  refine i_get J885 d52_358 (mt (i := 320) rfl) Via.refl 1 4 rfl rfl 361 rfl fun T886 J887 => ?_
  refine p_iload_n J887 d52_361 rfl 362 rfl ?_
  refine p_aload J887 d52_362 rfl rfl 364 rfl ?_
  refine p_aload J887 d52_364 rfl rfl 366 rfl ?_
  refine p_aload J887 d52_366 rfl rfl 368 rfl ?_
  refine p_aload_n J887 d52_368 rfl rfl 369 rfl ?_
  refine i_get J887 d52_369 (mt (i := 470) rfl) Via.refl 1 10 rfl rfl 372 rfl fun T888 J889 => ?_
  refine p_aload_n J889 d52_372 rfl rfl 373 rfl ?_
  refine i_get J889 d52_373 (mt (i := 334) rfl) Via.refl 1 5 rfl rfl 376 rfl fun T890 J891 => ?_
  refine i_virtual J891 d52_376 (mt (i := 472) rfl) (mt (i := 473) rfl) (nfSel (mt (i := 475) rfl)) (mt (i := 475) rfl) (mt (i := 474) rfl) (mt (i := 462) rfl) (mt (i := 476) rfl) (by decide) (lenOf pd_18 rfl) 0 rfl (c_open g a867 e_ lo ) [0] [1, 2] 3 (by decide) (lenLe F 3 rfl) rfl 0 (by decide) (by decide) (by decide) (by decide) rfl (by show (0 : Nat) ≤ _; decide) _ rfl 1 12 rfl rfl 379 rfl fun v895 W896 T892 hQ894 J893 => ?_
  obtain ⟨rfl, rfl⟩ := hQ894
  have J897 := J893.norm (W' := o_CP a867 (.int (2 : Int32)) (.int (0 : Int32)) (.int (0 : Int32)) (.int (0 : Int32)) .null (.long (0 : Int64)) (.int (0 : Int32)) :: o_SE se (.ref po) (.ref wb) (.ref ls) (.ref pts) (.int (0 : Int32)) (.int (-1 : Int32)) (.ref sv) (.ref pt) (.int (0 : Int32)) (.int (0 : Int32)) (.long (0 : Int64)) (.int (0 : Int32)) (.int (0 : Int32)) :: (pts, true, .inr (kp, (.object "com/example/lockstep/lockstep/core/ChoicePoint"), (16 : Int32), [(.ref a867), .null], .null)) :: F) rfl
  show Run _ _ _ _ (State.setTop _ (mkF m 379 #[.val (.ref se), .val (.int (2 : Int32)), .val .null, .val (.int (0 : Int32)), .val (.ref e_), .val (.ref lo), .val .null, .val .null] []))
  refine p_aload_n J897 d52_379 rfl rfl 380 rfl ?_
  refine p_lconst J897 d52_380 (z := (0 : Int64)) rfl 381 rfl ?_
  refine i_put J897 d52_381 (mt (i := 470) rfl) Via.refl 1 10 rfl rfl sd_SE (Or.inl (mt (i := 471) rfl)) (mt (i := 2) rfl) (ty := .long) (by decide) rfl rfl 384 rfl (o_CP a867 (.int (2 : Int32)) (.int (0 : Int32)) (.int (0 : Int32)) (.int (0 : Int32)) .null (.long (0 : Int64)) (.int (0 : Int32)) :: o_SE se (.ref po) (.ref wb) (.ref ls) (.ref pts) (.int (0 : Int32)) (.int (-1 : Int32)) (.ref sv) (.ref pt) (.int (0 : Int32)) (.int (0 : Int32)) (.long (0 : Int64)) (.int (0 : Int32)) (.int (0 : Int32)) :: (pts, true, .inr (kp, (.object "com/example/lockstep/lockstep/core/ChoicePoint"), (16 : Int32), [(.ref a867), .null], .null)) :: F) rfl fun T898 J899 => ?_
  refine p_aload_n J899 d52_384 rfl rfl 385 rfl ?_
  refine p_aload_n J899 d52_385 rfl rfl 386 rfl ?_
  refine i_get J899 d52_386 (mt (i := 457) rfl) Via.refl 1 8 rfl rfl 389 rfl fun T900 J901 => ?_
  refine i_putX J901 d52_389 (mt (i := 332) rfl) Via.refl 1 rfl kd_SE (ks := ks_SE) rfl (by decide) (Or.inl (mt (i := 333) rfl)) (mt (i := 2) rfl) (ty := .int) (by decide) rfl rfl 392 rfl fun T902 J903 => ?_
  refine p_aload_n J903 d52_392 rfl rfl 393 rfl ?_
  refine i_get J903 d52_393 (mt (i := 330) rfl) Via.refl 1 3 rfl rfl 396 rfl fun T904 J905 => ?_
  refine p_aload_n J905 d52_396 rfl rfl 397 rfl ?_
  refine p_dup J905 d52_397 rfl 398 rfl ?_
  refine i_get J905 d52_398 (mt (i := 457) rfl) Via.refl 1 8 rfl rfl 401 rfl fun T906 J907 => ?_
  refine p_dup_x1 J907 d52_401 rfl rfl 402 rfl ?_
  refine p_iconst J907 d52_402 (z := (1 : Int32)) rfl 403 rfl ?_
  refine p_iadd J907 d52_403 (z := (1 : Int32)) (by decide) 404 rfl ?_
  refine i_put J907 d52_404 (mt (i := 457) rfl) Via.refl 1 8 rfl rfl sd_SE (Or.inl (mt (i := 458) rfl)) (mt (i := 2) rfl) (ty := .int) (by decide) rfl rfl 407 rfl (o_CP a867 (.int (2 : Int32)) (.int (0 : Int32)) (.int (0 : Int32)) (.int (0 : Int32)) .null (.long (0 : Int64)) (.int (0 : Int32)) :: o_SE se (.ref po) (.ref wb) (.ref ls) (.ref pts) (.int (0 : Int32)) (.int (-1 : Int32)) (.ref sv) (.ref pt) (.int (1 : Int32)) (.int (0 : Int32)) (.long (0 : Int64)) (.int (0 : Int32)) (.int (0 : Int32)) :: (pts, true, .inr (kp, (.object "com/example/lockstep/lockstep/core/ChoicePoint"), (16 : Int32), [(.ref a867), .null], .null)) :: F) rfl fun T908 J909 => ?_
  refine i_aaload J909 d52_407 2 rfl rfl (by decide) (by decide) rfl 408 rfl ?_
  refine i_virtual J909 d52_408 (mt (i := 501) rfl) (mt (i := 502) rfl) (nfSel (mt (i := 504) rfl)) (mt (i := 504) rfl) (mt (i := 503) rfl) (mt (i := 462) rfl) (mt (i := 505) rfl) (by decide) (lenOf pd_6 rfl) 0 rfl (c_taken g a867 (0 : Int32) ) [0] [1, 2] 3 (by decide) (lenLe F 3 rfl) rfl 0 (by decide) (by decide) (by decide) (by decide) rfl (by show (0 : Nat) ≤ _; decide) _ rfl 1 12 rfl rfl 411 rfl fun v913 W914 T910 hQ912 J911 => ?_
  obtain ⟨rfl, rfl⟩ := hQ912
  have J915 := J911.norm (W' := o_CP a867 (.int (2 : Int32)) (.int (0 : Int32)) (.int (0 : Int32)) (.int (0 : Int32)) .null (.long (0 : Int64)) (.int (0 : Int32)) :: o_SE se (.ref po) (.ref wb) (.ref ls) (.ref pts) (.int (0 : Int32)) (.int (-1 : Int32)) (.ref sv) (.ref pt) (.int (1 : Int32)) (.int (0 : Int32)) (.long (0 : Int64)) (.int (0 : Int32)) (.int (0 : Int32)) :: (pts, true, .inr (kp, (.object "com/example/lockstep/lockstep/core/ChoicePoint"), (16 : Int32), [(.ref a867), .null], .null)) :: F) rfl
  show Run _ _ _ _ (State.setTop _ (mkF m 411 #[.val (.ref se), .val (.int (2 : Int32)), .val .null, .val (.int (0 : Int32)), .val (.ref e_), .val (.ref lo), .val .null, .val .null] [(.int (0 : Int32))]))
  have J916 := J915.weak [1, 2, 0] 3 (by decide) (lenLe F 3 rfl) (W' := o_SE se (.ref po) (.ref wb) (.ref ls) (.ref pts) (.int (0 : Int32)) (.int (-1 : Int32)) (.ref sv) (.ref pt) (.int (1 : Int32)) (.int (0 : Int32)) (.long (0 : Int64)) (.int (0 : Int32)) (.int (0 : Int32)) :: (pts, true, .inr (kp, (.object "com/example/lockstep/lockstep/core/ChoicePoint"), (16 : Int32), [(.ref a867), .null], .null)) :: o_CP a867 (.int (2 : Int32)) (.int (0 : Int32)) (.int (0 : Int32)) (.int (0 : Int32)) .null (.long (0 : Int64)) (.int (0 : Int32)) :: F) rfl
  exact r_val J916 d52_411 (t := .int) rfl rfl (Or.inl ⟨rfl, by simp, _, rfl⟩) (by decide) (by decide) (Wf := [o_SE se (.ref po) (.ref wb) (.ref ls) (.ref pts) (.int (0 : Int32)) (.int (-1 : Int32)) (.ref sv) (.ref pt) (.int (1 : Int32)) (.int (0 : Int32)) (.long (0 : Int64)) (.int (0 : Int32)) (.int (0 : Int32)), (pts, true, .inr (kp, (.object "com/example/lockstep/lockstep/core/ChoicePoint"), (16 : Int32), [(.ref a867), .null], .null)), o_CP a867 (.int (2 : Int32)) (.int (0 : Int32)) (.int (0 : Int32)) (.int (0 : Int32)) .null (.long (0 : Int64)) (.int (0 : Int32))]) rfl ⟨a867, rfl, rfl⟩
theorem pn_ch1 : plainFor (⟨"com/example/lockstep/lockstep/core/Search", "choose", "(ILjava/util/function/Supplier;ZLjava/lang/String;Lcom/example/lockstep/lockstep/core/value/SourceLocation;)I"⟩ : MethodName) = true := by first | exact plainFor_of_name (by first | (simp [plainName, overriddenIn]; done) | decide +kernel) | exact Jvm.Free.JP.mathPlain rfl (by decide +kernel) | decide +kernel
set_option maxRecDepth 65536 in
set_option maxHeartbeats 40000000 in
theorem c_ch1 {l : Launch} {Z : State} {a0 : Array Value} {EL : List (String × Nat)} (g : GC Z a0 EL) (se : Addr) (po : Addr) (wb : Addr) (ls : Addr) (pts : Addr) (kp : ClassId) (sv : Addr) (pt : Addr) (e_ : Addr) (lo : Addr) (c0 : Addr)  : Con l Z EL (⟨"com/example/lockstep/lockstep/core/Search", "choose", "(ILjava/util/function/Supplier;ZLjava/lang/String;Lcom/example/lockstep/lockstep/core/value/SourceLocation;)I"⟩ : MethodName) prog_206_method_80_code 8 (some .int) { frames := 2, cells := 1, slots := 12, locals := 27 } [(.ref se), (.int (2 : Int32)), .null, (.int (0 : Int32)), (.ref e_), (.ref lo)] [o_SE se (.ref po) (.ref wb) (.ref ls) (.ref pts) (.int (0 : Int32)) (.int (-1 : Int32)) (.ref sv) (.ref pt) (.int (1 : Int32)) (.int (0 : Int32)) (.long (0 : Int64)) (.int (0 : Int32)) (.int (0 : Int32)), (pts, true, .inr (kp, (.object "com/example/lockstep/lockstep/core/ChoicePoint"), (16 : Int32), [(.ref c0), .null], .null))] (fun v W' => ∃ (cn : Addr), v = some (.int (0 : Int32)) ∧ W' = [o_SE se (.ref po) (.ref wb) (.ref ls) (.ref pts) (.int (0 : Int32)) (.int (-1 : Int32)) (.ref sv) (.ref pt) (.int (2 : Int32)) (.int (0 : Int32)) (.long (0 : Int64)) (.int (0 : Int32)) (.int (0 : Int32)), (pts, true, .inr (kp, (.object "com/example/lockstep/lockstep/core/ChoicePoint"), (16 : Int32), [(.ref c0), (.ref cn)], .null)), o_CP cn (.int (2 : Int32)) (.int (0 : Int32)) (.int (0 : Int32)) (.int (0 : Int32)) .null (.long (0 : Int64)) (.int (0 : Int32))]) := by
  refine Con.mk g pn_ch1 (Ls := #[.val (.ref se), .val (.int (2 : Int32)), .val .null, .val (.int (0 : Int32)), .val (.ref e_), .val (.ref lo), .unset, .unset]) (fun m => by first | (simp [entryFrame, mkF, argsToLocals, Value.category]; done) | rfl) ?_
  intro p e s m below meth c T0 F J0
  refine p_aload_n J0 d52_0 rfl rfl 1 rfl ?_
  refine i_get J0 d52_1 (mt (i := 457) rfl) Via.refl 0 8 rfl rfl 4 rfl fun T917 J918 => ?_
  refine p_aload_n J918 d52_4 rfl rfl 5 rfl ?_
  refine i_get J918 d52_5 (mt (i := 459) rfl) Via.refl 0 9 rfl rfl 8 rfl fun T919 J920 => ?_
  refine p_icmp_y J920 d52_8 (by decide) 118 (by decide) (by decide) ?_
  refine p_aload_n J920 d52_118 rfl rfl 119 rfl ?_
  refine p_ifnonnull_n J920 d52_119 122 rfl ?_
  refine p_aconst_null J920 d52_122 123 rfl ?_
  refine p_goto J920 d52_123 135 (by decide) (by decide) ?_
  refine p_astore J920 #[.val (.ref se), .val (.int (2 : Int32)), .val .null, .val (.int (0 : Int32)), .val (.ref e_), .val (.ref lo), .val .null, .unset] d52_135 rfl rfl 137 rfl ?_
  refine p_aload J920 d52_137 rfl rfl 139 rfl ?_
  refine p_ifnull_y J920 d52_139 232 (by decide) (by decide) ?_
  refine p_aload_n J920 d52_232 rfl rfl 233 rfl ?_
  refine i_get J920 d52_233 (mt (i := 457) rfl) Via.refl 0 8 rfl rfl 236 rfl fun T921 J922 => ?_
  refine p_aload_n J922 d52_236 rfl rfl 237 rfl ?_
  refine i_get J922 d52_237 (mt (i := 330) rfl) Via.refl 0 3 rfl rfl 240 rfl fun T923 J924 => ?_
  refine i_len J924 d52_240 1 rfl 241 rfl ?_
  refine p_icmp_y J924 d52_241 (by decide) 264 (by decide) (by decide) ?_
  refine p_aload_n J924 d52_264 rfl rfl 265 rfl ?_
  refine i_get J924 d52_265 (mt (i := 330) rfl) Via.refl 0 3 rfl rfl 268 rfl fun T925 J926 => ?_
  refine p_aload_n J926 d52_268 rfl rfl 269 rfl ?_
  refine i_get J926 d52_269 (mt (i := 457) rfl) Via.refl 0 8 rfl rfl 272 rfl fun T927 J928 => ?_
  refine i_aaload J928 d52_272 1 rfl rfl (by decide) (by decide) rfl 273 rfl ?_
  refine p_ifnonnull_n J928 d52_273 276 rfl ?_
  refine p_aload_n J928 d52_276 rfl rfl 277 rfl ?_
  refine i_get J928 d52_277 (mt (i := 330) rfl) Via.refl 0 3 rfl rfl 280 rfl fun T929 J930 => ?_
  refine p_aload_n J930 d52_280 rfl rfl 281 rfl ?_
  refine i_get J930 d52_281 (mt (i := 457) rfl) Via.refl 0 8 rfl rfl 284 rfl fun T931 J932 => ?_
  refine i_new J932 d52_284 (mt (i := 328) rfl) (mt (i := 461) rfl) (mt (i := 462) rfl) (by decide) (by decide) df_CP 1 12 rfl rfl 287 rfl fun a933 T934 J935 => ?_
  refine p_dup J935 d52_287 rfl 288 rfl ?_
  refine i_special J935 d52_288 rfl (mt (i := 463) rfl) (mt (i := 464) rfl) (mt (i := 462) rfl) (mt (i := 465) rfl) (by decide) (lenOf pd_0 rfl) (c_cp g a933 ) [] [0, 1, 2] 3 (by decide) (lenLe F 3 rfl) rfl 3 (by decide) (by decide) (by decide) (by decide) rfl (by show (3 : Nat) ≤ _; decide) _ rfl 1 12 rfl rfl 291 rfl fun v939 W940 T936 hQ938 J937 => ?_
  obtain ⟨rfl, rfl⟩ := hQ938
  have J941 := J937.norm (W' := o_CP a933 (.int (0 : Int32)) (.int (0 : Int32)) (.int (0 : Int32)) (.int (0 : Int32)) .null (.long (0 : Int64)) (.int (0 : Int32)) :: o_SE se (.ref po) (.ref wb) (.ref ls) (.ref pts) (.int (0 : Int32)) (.int (-1 : Int32)) (.ref sv) (.ref pt) (.int (1 : Int32)) (.int (0 : Int32)) (.long (0 : Int64)) (.int (0 : Int32)) (.int (0 : Int32)) :: (pts, true, .inr (kp, (.object "com/example/lockstep/lockstep/core/ChoicePoint"), (16 : Int32), [(.ref c0), .null], .null)) :: F) rfl
  show Run _ _ _ _ (State.setTop _ (mkF m 291 #[.val (.ref se), .val (.int (2 : Int32)), .val .null, .val (.int (0 : Int32)), .val (.ref e_), .val (.ref lo), .val .null, .unset] [(.ref a933), (.int (1 : Int32)), (.ref pts)]))
  refine i_aastore J941 d52_291 2 0 1 rfl rfl (mt (i := 467) rfl) (by decide) (by decide) rfl (by show (1 : Nat) < 2; decide) 292 rfl (o_CP a933 (.int (0 : Int32)) (.int (0 : Int32)) (.int (0 : Int32)) (.int (0 : Int32)) .null (.long (0 : Int64)) (.int (0 : Int32)) :: o_SE se (.ref po) (.ref wb) (.ref ls) (.ref pts) (.int (0 : Int32)) (.int (-1 : Int32)) (.ref sv) (.ref pt) (.int (1 : Int32)) (.int (0 : Int32)) (.long (0 : Int64)) (.int (0 : Int32)) (.int (0 : Int32)) :: (pts, true, .inr (kp, (.object "com/example/lockstep/lockstep/core/ChoicePoint"), (16 : Int32), [(.ref c0), (.ref a933)], .null)) :: F) rfl fun T942 J943 => ?_
  refine p_aload J943 d52_292 rfl rfl 294 rfl ?_
  refine p_ifnull_n J943 d52_294 297 rfl ?_
  refine p_aload_n J943 d52_297 rfl rfl 298 rfl ?_
  refine p_aconst_null J943 d52_298 299 rfl ?_
  refine i_putX J943 d52_299 (mt (i := 468) rfl) Via.refl 1 rfl kd_SE (ks := ks_SE) rfl (by decide) (Or.inl (mt (i := 469) rfl)) (mt (i := 2) rfl) (ty := (.object "com/example/lockstep/lockstep/core/Search$Untried")) (by decide) rfl rfl 302 rfl fun T944 J945 => ?_
  refine p_aload J945 d52_302 rfl rfl 304 rfl ?_
  refine p_ifnull_y J945 d52_304 318 (by decide) (by decide) ?_
  refine p_aconst_null J945 d52_318 319 rfl ?_
  refine p_goto J945 d52_319 327 (by decide) (by decide) ?_
  refine p_astore J945 #[.val (.ref se), .val (.int (2 : Int32)), .val .null, .val (.int (0 : Int32)), .val (.ref e_), .val (.ref lo), .val .null, .val .null] d52_327 rfl rfl 329 rfl ?_
  refine p_aload_n J945 d52_329 rfl rfl 330 rfl ?_
  refine i_get J945 d52_330 (mt (i := 334) rfl) Via.refl 1 5 rfl rfl 333 rfl fun T946 J947 => ?_
  refine p_if_y J947 d52_333 (by decide) 347 (by decide) (by decide) ?_
  refine p_aload_n J947 d52_347 rfl rfl 348 rfl ?_
  refine i_get J947 d52_348 (mt (i := 330) rfl) Via.refl 1 3 rfl rfl 351 rfl fun T948 J949 => ?_
  refine p_aload_n J949 d52_351 rfl rfl 352 rfl ?_
  refine i_get J949 d52_352 (mt (i := 457) rfl) Via.refl 1 8 rfl rfl 355 rfl fun T950 J951 => ?_
  refine i_aaload J951 d52_355 2 rfl rfl (by decide) (by decide) rfl 356 rfl ?_
  refine p_iload_n J951 d52_356 rfl 357 rfl ?_
  refine p_aload_n J951 d52_357 rfl rfl 358 rfl ?_
  refine i_get J951 d52_358 (mt (i := 320) rfl) Via.refl 1 4 rfl rfl 361 rfl fun T952 J953 => ?_
  refine p_iload_n J953 d52_361 rfl 362 rfl ?_
  refine p_aload J953 d52_362 rfl rfl 364 rfl ?_
  refine p_aload J953 d52_364 rfl rfl 366 rfl ?_
  refine p_aload J953 d52_366 rfl rfl 368 rfl ?_
  refine p_aload_n J953 d52_368 rfl rfl 369 rfl ?_
  refine i_get J953 d52_369 (mt (i := 470) rfl) Via.refl 1 10 rfl rfl 372 rfl fun T954 J955 => ?_
  refine p_aload_n J955 d52_372 rfl rfl 373 rfl ?_
  refine i_get J955 d52_373 (mt (i := 334) rfl) Via.refl 1 5 rfl rfl 376 rfl fun T956 J957 => ?_
  refine i_virtual J957 d52_376 (mt (i := 472) rfl) (mt (i := 473) rfl) (nfSel (mt (i := 475) rfl)) (mt (i := 475) rfl) (mt (i := 474) rfl) (mt (i := 462) rfl) (mt (i := 476) rfl) (by decide) (lenOf pd_18 rfl) 0 rfl (c_open g a933 e_ lo ) [0] [1, 2] 3 (by decide) (lenLe F 3 rfl) rfl 0 (by decide) (by decide) (by decide) (by decide) rfl (by show (0 : Nat) ≤ _; decide) _ rfl 1 12 rfl rfl 379 rfl fun v961 W962 T958 hQ960 J959 => ?_
  obtain ⟨rfl, rfl⟩ := hQ960
  have J963 := J959.norm (W' := o_CP a933 (.int (2 : Int32)) (.int (0 : Int32)) (.int (0 : Int32)) (.int (0 : Int32)) .null (.long (0 : Int64)) (.int (0 : Int32)) :: o_SE se (.ref po) (.ref wb) (.ref ls) (.ref pts) (.int (0 : Int32)) (.int (-1 : Int32)) (.ref sv) (.ref pt) (.int (1 : Int32)) (.int (0 : Int32)) (.long (0 : Int64)) (.int (0 : Int32)) (.int (0 : Int32)) :: (pts, true, .inr (kp, (.object "com/example/lockstep/lockstep/core/ChoicePoint"), (16 : Int32), [(.ref c0), (.ref a933)], .null)) :: F) rfl
  show Run _ _ _ _ (State.setTop _ (mkF m 379 #[.val (.ref se), .val (.int (2 : Int32)), .val .null, .val (.int (0 : Int32)), .val (.ref e_), .val (.ref lo), .val .null, .val .null] []))
  refine p_aload_n J963 d52_379 rfl rfl 380 rfl ?_
  refine p_lconst J963 d52_380 (z := (0 : Int64)) rfl 381 rfl ?_
  refine i_put J963 d52_381 (mt (i := 470) rfl) Via.refl 1 10 rfl rfl sd_SE (Or.inl (mt (i := 471) rfl)) (mt (i := 2) rfl) (ty := .long) (by decide) rfl rfl 384 rfl (o_CP a933 (.int (2 : Int32)) (.int (0 : Int32)) (.int (0 : Int32)) (.int (0 : Int32)) .null (.long (0 : Int64)) (.int (0 : Int32)) :: o_SE se (.ref po) (.ref wb) (.ref ls) (.ref pts) (.int (0 : Int32)) (.int (-1 : Int32)) (.ref sv) (.ref pt) (.int (1 : Int32)) (.int (0 : Int32)) (.long (0 : Int64)) (.int (0 : Int32)) (.int (0 : Int32)) :: (pts, true, .inr (kp, (.object "com/example/lockstep/lockstep/core/ChoicePoint"), (16 : Int32), [(.ref c0), (.ref a933)], .null)) :: F) rfl fun T964 J965 => ?_
  refine p_aload_n J965 d52_384 rfl rfl 385 rfl ?_
  refine p_aload_n J965 d52_385 rfl rfl 386 rfl ?_
  refine i_get J965 d52_386 (mt (i := 457) rfl) Via.refl 1 8 rfl rfl 389 rfl fun T966 J967 => ?_
  refine i_putX J967 d52_389 (mt (i := 332) rfl) Via.refl 1 rfl kd_SE (ks := ks_SE) rfl (by decide) (Or.inl (mt (i := 333) rfl)) (mt (i := 2) rfl) (ty := .int) (by decide) rfl rfl 392 rfl fun T968 J969 => ?_
  refine p_aload_n J969 d52_392 rfl rfl 393 rfl ?_
  refine i_get J969 d52_393 (mt (i := 330) rfl) Via.refl 1 3 rfl rfl 396 rfl fun T970 J971 => ?_
  refine p_aload_n J971 d52_396 rfl rfl 397 rfl ?_
  refine p_dup J971 d52_397 rfl 398 rfl ?_
  refine i_get J971 d52_398 (mt (i := 457) rfl) Via.refl 1 8 rfl rfl 401 rfl fun T972 J973 => ?_
  refine p_dup_x1 J973 d52_401 rfl rfl 402 rfl ?_
  refine p_iconst J973 d52_402 (z := (1 : Int32)) rfl 403 rfl ?_
  refine p_iadd J973 d52_403 (z := (2 : Int32)) (by decide) 404 rfl ?_
  refine i_put J973 d52_404 (mt (i := 457) rfl) Via.refl 1 8 rfl rfl sd_SE (Or.inl (mt (i := 458) rfl)) (mt (i := 2) rfl) (ty := .int) (by decide) rfl rfl 407 rfl (o_CP a933 (.int (2 : Int32)) (.int (0 : Int32)) (.int (0 : Int32)) (.int (0 : Int32)) .null (.long (0 : Int64)) (.int (0 : Int32)) :: o_SE se (.ref po) (.ref wb) (.ref ls) (.ref pts) (.int (0 : Int32)) (.int (-1 : Int32)) (.ref sv) (.ref pt) (.int (2 : Int32)) (.int (0 : Int32)) (.long (0 : Int64)) (.int (0 : Int32)) (.int (0 : Int32)) :: (pts, true, .inr (kp, (.object "com/example/lockstep/lockstep/core/ChoicePoint"), (16 : Int32), [(.ref c0), (.ref a933)], .null)) :: F) rfl fun T974 J975 => ?_
  refine i_aaload J975 d52_407 2 rfl rfl (by decide) (by decide) rfl 408 rfl ?_
  refine i_virtual J975 d52_408 (mt (i := 501) rfl) (mt (i := 502) rfl) (nfSel (mt (i := 504) rfl)) (mt (i := 504) rfl) (mt (i := 503) rfl) (mt (i := 462) rfl) (mt (i := 505) rfl) (by decide) (lenOf pd_6 rfl) 0 rfl (c_taken g a933 (0 : Int32) ) [0] [1, 2] 3 (by decide) (lenLe F 3 rfl) rfl 0 (by decide) (by decide) (by decide) (by decide) rfl (by show (0 : Nat) ≤ _; decide) _ rfl 1 12 rfl rfl 411 rfl fun v979 W980 T976 hQ978 J977 => ?_
  obtain ⟨rfl, rfl⟩ := hQ978
  have J981 := J977.norm (W' := o_CP a933 (.int (2 : Int32)) (.int (0 : Int32)) (.int (0 : Int32)) (.int (0 : Int32)) .null (.long (0 : Int64)) (.int (0 : Int32)) :: o_SE se (.ref po) (.ref wb) (.ref ls) (.ref pts) (.int (0 : Int32)) (.int (-1 : Int32)) (.ref sv) (.ref pt) (.int (2 : Int32)) (.int (0 : Int32)) (.long (0 : Int64)) (.int (0 : Int32)) (.int (0 : Int32)) :: (pts, true, .inr (kp, (.object "com/example/lockstep/lockstep/core/ChoicePoint"), (16 : Int32), [(.ref c0), (.ref a933)], .null)) :: F) rfl
  show Run _ _ _ _ (State.setTop _ (mkF m 411 #[.val (.ref se), .val (.int (2 : Int32)), .val .null, .val (.int (0 : Int32)), .val (.ref e_), .val (.ref lo), .val .null, .val .null] [(.int (0 : Int32))]))
  have J982 := J981.weak [1, 2, 0] 3 (by decide) (lenLe F 3 rfl) (W' := o_SE se (.ref po) (.ref wb) (.ref ls) (.ref pts) (.int (0 : Int32)) (.int (-1 : Int32)) (.ref sv) (.ref pt) (.int (2 : Int32)) (.int (0 : Int32)) (.long (0 : Int64)) (.int (0 : Int32)) (.int (0 : Int32)) :: (pts, true, .inr (kp, (.object "com/example/lockstep/lockstep/core/ChoicePoint"), (16 : Int32), [(.ref c0), (.ref a933)], .null)) :: o_CP a933 (.int (2 : Int32)) (.int (0 : Int32)) (.int (0 : Int32)) (.int (0 : Int32)) .null (.long (0 : Int64)) (.int (0 : Int32)) :: F) rfl
  exact r_val J982 d52_411 (t := .int) rfl rfl (Or.inl ⟨rfl, by simp, _, rfl⟩) (by decide) (by decide) (Wf := [o_SE se (.ref po) (.ref wb) (.ref ls) (.ref pts) (.int (0 : Int32)) (.int (-1 : Int32)) (.ref sv) (.ref pt) (.int (2 : Int32)) (.int (0 : Int32)) (.long (0 : Int64)) (.int (0 : Int32)) (.int (0 : Int32)), (pts, true, .inr (kp, (.object "com/example/lockstep/lockstep/core/ChoicePoint"), (16 : Int32), [(.ref c0), (.ref a933)], .null)), o_CP a933 (.int (2 : Int32)) (.int (0 : Int32)) (.int (0 : Int32)) (.int (0 : Int32)) .null (.long (0 : Int64)) (.int (0 : Int32))]) rfl ⟨a933, rfl, rfl⟩
theorem pn_ch1r : plainFor (⟨"com/example/lockstep/lockstep/core/Search", "choose", "(ILjava/util/function/Supplier;ZLjava/lang/String;Lcom/example/lockstep/lockstep/core/value/SourceLocation;)I"⟩ : MethodName) = true := by first | exact plainFor_of_name (by first | (simp [plainName, overriddenIn]; done) | decide +kernel) | exact Jvm.Free.JP.mathPlain rfl (by decide +kernel) | decide +kernel
set_option maxRecDepth 65536 in
set_option maxHeartbeats 40000000 in
theorem c_ch1r {l : Launch} {Z : State} {a0 : Array Value} {EL : List (String × Nat)} (g : GC Z a0 EL) (se : Addr) (po : Addr) (wb : Addr) (ls : Addr) (pts : Addr) (kp : ClassId) (sv : Addr) (pt : Addr) (e_ : Addr) (lo : Addr) (c0 : Addr)  : Con l Z EL (⟨"com/example/lockstep/lockstep/core/Search", "choose", "(ILjava/util/function/Supplier;ZLjava/lang/String;Lcom/example/lockstep/lockstep/core/value/SourceLocation;)I"⟩ : MethodName) prog_206_method_80_code 8 (some .int) { frames := 2, cells := 1, slots := 12, locals := 27 } [(.ref se), (.int (2 : Int32)), .null, (.int (0 : Int32)), (.ref e_), (.ref lo)] [o_SE se (.ref po) (.ref wb) (.ref ls) (.ref pts) (.int (0 : Int32)) (.int (-1 : Int32)) (.ref sv) (.ref pt) (.int (1 : Int32)) (.int (1 : Int32)) (.long (0 : Int64)) (.int (0 : Int32)) (.int (0 : Int32)), (pts, true, .inr (kp, (.object "com/example/lockstep/lockstep/core/ChoicePoint"), (16 : Int32), [(.ref c0), .null], .null))] (fun v W' => ∃ (cn : Addr), v = some (.int (0 : Int32)) ∧ W' = [o_SE se (.ref po) (.ref wb) (.ref ls) (.ref pts) (.int (0 : Int32)) (.int (-1 : Int32)) (.ref sv) (.ref pt) (.int (2 : Int32)) (.int (1 : Int32)) (.long (0 : Int64)) (.int (0 : Int32)) (.int (0 : Int32)), (pts, true, .inr (kp, (.object "com/example/lockstep/lockstep/core/ChoicePoint"), (16 : Int32), [(.ref c0), (.ref cn)], .null)), o_CP cn (.int (2 : Int32)) (.int (0 : Int32)) (.int (0 : Int32)) (.int (0 : Int32)) .null (.long (0 : Int64)) (.int (0 : Int32))]) := by
  refine Con.mk g pn_ch1r (Ls := #[.val (.ref se), .val (.int (2 : Int32)), .val .null, .val (.int (0 : Int32)), .val (.ref e_), .val (.ref lo), .unset, .unset]) (fun m => by first | (simp [entryFrame, mkF, argsToLocals, Value.category]; done) | rfl) ?_
  intro p e s m below meth c T0 F J0
  refine p_aload_n J0 d52_0 rfl rfl 1 rfl ?_
  refine i_get J0 d52_1 (mt (i := 457) rfl) Via.refl 0 8 rfl rfl 4 rfl fun T983 J984 => ?_
  refine p_aload_n J984 d52_4 rfl rfl 5 rfl ?_
  refine i_get J984 d52_5 (mt (i := 459) rfl) Via.refl 0 9 rfl rfl 8 rfl fun T985 J986 => ?_
  refine p_icmp_y J986 d52_8 (by decide) 118 (by decide) (by decide) ?_
  refine p_aload_n J986 d52_118 rfl rfl 119 rfl ?_
  refine p_ifnonnull_n J986 d52_119 122 rfl ?_
  refine p_aconst_null J986 d52_122 123 rfl ?_
  refine p_goto J986 d52_123 135 (by decide) (by decide) ?_
  refine p_astore J986 #[.val (.ref se), .val (.int (2 : Int32)), .val .null, .val (.int (0 : Int32)), .val (.ref e_), .val (.ref lo), .val .null, .unset] d52_135 rfl rfl 137 rfl ?_
  refine p_aload J986 d52_137 rfl rfl 139 rfl ?_
  refine p_ifnull_y J986 d52_139 232 (by decide) (by decide) ?_
  refine p_aload_n J986 d52_232 rfl rfl 233 rfl ?_
  refine i_get J986 d52_233 (mt (i := 457) rfl) Via.refl 0 8 rfl rfl 236 rfl fun T987 J988 => ?_
  refine p_aload_n J988 d52_236 rfl rfl 237 rfl ?_
  refine i_get J988 d52_237 (mt (i := 330) rfl) Via.refl 0 3 rfl rfl 240 rfl fun T989 J990 => ?_
  refine i_len J990 d52_240 1 rfl 241 rfl ?_
  refine p_icmp_y J990 d52_241 (by decide) 264 (by decide) (by decide) ?_
  refine p_aload_n J990 d52_264 rfl rfl 265 rfl ?_
  refine i_get J990 d52_265 (mt (i := 330) rfl) Via.refl 0 3 rfl rfl 268 rfl fun T991 J992 => ?_
  refine p_aload_n J992 d52_268 rfl rfl 269 rfl ?_
  refine i_get J992 d52_269 (mt (i := 457) rfl) Via.refl 0 8 rfl rfl 272 rfl fun T993 J994 => ?_
  refine i_aaload J994 d52_272 1 rfl rfl (by decide) (by decide) rfl 273 rfl ?_
  refine p_ifnonnull_n J994 d52_273 276 rfl ?_
  refine p_aload_n J994 d52_276 rfl rfl 277 rfl ?_
  refine i_get J994 d52_277 (mt (i := 330) rfl) Via.refl 0 3 rfl rfl 280 rfl fun T995 J996 => ?_
  refine p_aload_n J996 d52_280 rfl rfl 281 rfl ?_
  refine i_get J996 d52_281 (mt (i := 457) rfl) Via.refl 0 8 rfl rfl 284 rfl fun T997 J998 => ?_
  refine i_new J998 d52_284 (mt (i := 328) rfl) (mt (i := 461) rfl) (mt (i := 462) rfl) (by decide) (by decide) df_CP 1 12 rfl rfl 287 rfl fun a999 T1000 J1001 => ?_
  refine p_dup J1001 d52_287 rfl 288 rfl ?_
  refine i_special J1001 d52_288 rfl (mt (i := 463) rfl) (mt (i := 464) rfl) (mt (i := 462) rfl) (mt (i := 465) rfl) (by decide) (lenOf pd_0 rfl) (c_cp g a999 ) [] [0, 1, 2] 3 (by decide) (lenLe F 3 rfl) rfl 3 (by decide) (by decide) (by decide) (by decide) rfl (by show (3 : Nat) ≤ _; decide) _ rfl 1 12 rfl rfl 291 rfl fun v1005 W1006 T1002 hQ1004 J1003 => ?_
  obtain ⟨rfl, rfl⟩ := hQ1004
  have J1007 := J1003.norm (W' := o_CP a999 (.int (0 : Int32)) (.int (0 : Int32)) (.int (0 : Int32)) (.int (0 : Int32)) .null (.long (0 : Int64)) (.int (0 : Int32)) :: o_SE se (.ref po) (.ref wb) (.ref ls) (.ref pts) (.int (0 : Int32)) (.int (-1 : Int32)) (.ref sv) (.ref pt) (.int (1 : Int32)) (.int (1 : Int32)) (.long (0 : Int64)) (.int (0 : Int32)) (.int (0 : Int32)) :: (pts, true, .inr (kp, (.object "com/example/lockstep/lockstep/core/ChoicePoint"), (16 : Int32), [(.ref c0), .null], .null)) :: F) rfl
  show Run _ _ _ _ (State.setTop _ (mkF m 291 #[.val (.ref se), .val (.int (2 : Int32)), .val .null, .val (.int (0 : Int32)), .val (.ref e_), .val (.ref lo), .val .null, .unset] [(.ref a999), (.int (1 : Int32)), (.ref pts)]))
  refine i_aastore J1007 d52_291 2 0 1 rfl rfl (mt (i := 467) rfl) (by decide) (by decide) rfl (by show (1 : Nat) < 2; decide) 292 rfl (o_CP a999 (.int (0 : Int32)) (.int (0 : Int32)) (.int (0 : Int32)) (.int (0 : Int32)) .null (.long (0 : Int64)) (.int (0 : Int32)) :: o_SE se (.ref po) (.ref wb) (.ref ls) (.ref pts) (.int (0 : Int32)) (.int (-1 : Int32)) (.ref sv) (.ref pt) (.int (1 : Int32)) (.int (1 : Int32)) (.long (0 : Int64)) (.int (0 : Int32)) (.int (0 : Int32)) :: (pts, true, .inr (kp, (.object "com/example/lockstep/lockstep/core/ChoicePoint"), (16 : Int32), [(.ref c0), (.ref a999)], .null)) :: F) rfl fun T1008 J1009 => ?_
  refine p_aload J1009 d52_292 rfl rfl 294 rfl ?_
  refine p_ifnull_n J1009 d52_294 297 rfl ?_
  refine p_aload_n J1009 d52_297 rfl rfl 298 rfl ?_
  refine p_aconst_null J1009 d52_298 299 rfl ?_
  refine i_putX J1009 d52_299 (mt (i := 468) rfl) Via.refl 1 rfl kd_SE (ks := ks_SE) rfl (by decide) (Or.inl (mt (i := 469) rfl)) (mt (i := 2) rfl) (ty := (.object "com/example/lockstep/lockstep/core/Search$Untried")) (by decide) rfl rfl 302 rfl fun T1010 J1011 => ?_
  refine p_aload J1011 d52_302 rfl rfl 304 rfl ?_
  refine p_ifnull_y J1011 d52_304 318 (by decide) (by decide) ?_
  refine p_aconst_null J1011 d52_318 319 rfl ?_
  refine p_goto J1011 d52_319 327 (by decide) (by decide) ?_
  refine p_astore J1011 #[.val (.ref se), .val (.int (2 : Int32)), .val .null, .val (.int (0 : Int32)), .val (.ref e_), .val (.ref lo), .val .null, .val .null] d52_327 rfl rfl 329 rfl ?_
  refine p_aload_n J1011 d52_329 rfl rfl 330 rfl ?_
  refine i_get J1011 d52_330 (mt (i := 334) rfl) Via.refl 1 5 rfl rfl 333 rfl fun T1012 J1013 => ?_
  refine p_if_y J1013 d52_333 (by decide) 347 (by decide) (by decide) ?_
  refine p_aload_n J1013 d52_347 rfl rfl 348 rfl ?_
  refine i_get J1013 d52_348 (mt (i := 330) rfl) Via.refl 1 3 rfl rfl 351 rfl fun T1014 J1015 => ?_
  refine p_aload_n J1015 d52_351 rfl rfl 352 rfl ?_
  refine i_get J1015 d52_352 (mt (i := 457) rfl) Via.refl 1 8 rfl rfl 355 rfl fun T1016 J1017 => ?_
  refine i_aaload J1017 d52_355 2 rfl rfl (by decide) (by decide) rfl 356 rfl ?_
  refine p_iload_n J1017 d52_356 rfl 357 rfl ?_
  refine p_aload_n J1017 d52_357 rfl rfl 358 rfl ?_
  refine i_get J1017 d52_358 (mt (i := 320) rfl) Via.refl 1 4 rfl rfl 361 rfl fun T1018 J1019 => ?_
  refine p_iload_n J1019 d52_361 rfl 362 rfl ?_
  refine p_aload J1019 d52_362 rfl rfl 364 rfl ?_
  refine p_aload J1019 d52_364 rfl rfl 366 rfl ?_
  refine p_aload J1019 d52_366 rfl rfl 368 rfl ?_
  refine p_aload_n J1019 d52_368 rfl rfl 369 rfl ?_
  refine i_get J1019 d52_369 (mt (i := 470) rfl) Via.refl 1 10 rfl rfl 372 rfl fun T1020 J1021 => ?_
  refine p_aload_n J1021 d52_372 rfl rfl 373 rfl ?_
  refine i_get J1021 d52_373 (mt (i := 334) rfl) Via.refl 1 5 rfl rfl 376 rfl fun T1022 J1023 => ?_
  refine i_virtual J1023 d52_376 (mt (i := 472) rfl) (mt (i := 473) rfl) (nfSel (mt (i := 475) rfl)) (mt (i := 475) rfl) (mt (i := 474) rfl) (mt (i := 462) rfl) (mt (i := 476) rfl) (by decide) (lenOf pd_18 rfl) 0 rfl (c_open g a999 e_ lo ) [0] [1, 2] 3 (by decide) (lenLe F 3 rfl) rfl 0 (by decide) (by decide) (by decide) (by decide) rfl (by show (0 : Nat) ≤ _; decide) _ rfl 1 12 rfl rfl 379 rfl fun v1027 W1028 T1024 hQ1026 J1025 => ?_
  obtain ⟨rfl, rfl⟩ := hQ1026
  have J1029 := J1025.norm (W' := o_CP a999 (.int (2 : Int32)) (.int (0 : Int32)) (.int (0 : Int32)) (.int (0 : Int32)) .null (.long (0 : Int64)) (.int (0 : Int32)) :: o_SE se (.ref po) (.ref wb) (.ref ls) (.ref pts) (.int (0 : Int32)) (.int (-1 : Int32)) (.ref sv) (.ref pt) (.int (1 : Int32)) (.int (1 : Int32)) (.long (0 : Int64)) (.int (0 : Int32)) (.int (0 : Int32)) :: (pts, true, .inr (kp, (.object "com/example/lockstep/lockstep/core/ChoicePoint"), (16 : Int32), [(.ref c0), (.ref a999)], .null)) :: F) rfl
  show Run _ _ _ _ (State.setTop _ (mkF m 379 #[.val (.ref se), .val (.int (2 : Int32)), .val .null, .val (.int (0 : Int32)), .val (.ref e_), .val (.ref lo), .val .null, .val .null] []))
  refine p_aload_n J1029 d52_379 rfl rfl 380 rfl ?_
  refine p_lconst J1029 d52_380 (z := (0 : Int64)) rfl 381 rfl ?_
  refine i_put J1029 d52_381 (mt (i := 470) rfl) Via.refl 1 10 rfl rfl sd_SE (Or.inl (mt (i := 471) rfl)) (mt (i := 2) rfl) (ty := .long) (by decide) rfl rfl 384 rfl (o_CP a999 (.int (2 : Int32)) (.int (0 : Int32)) (.int (0 : Int32)) (.int (0 : Int32)) .null (.long (0 : Int64)) (.int (0 : Int32)) :: o_SE se (.ref po) (.ref wb) (.ref ls) (.ref pts) (.int (0 : Int32)) (.int (-1 : Int32)) (.ref sv) (.ref pt) (.int (1 : Int32)) (.int (1 : Int32)) (.long (0 : Int64)) (.int (0 : Int32)) (.int (0 : Int32)) :: (pts, true, .inr (kp, (.object "com/example/lockstep/lockstep/core/ChoicePoint"), (16 : Int32), [(.ref c0), (.ref a999)], .null)) :: F) rfl fun T1030 J1031 => ?_
  refine p_aload_n J1031 d52_384 rfl rfl 385 rfl ?_
  refine p_aload_n J1031 d52_385 rfl rfl 386 rfl ?_
  refine i_get J1031 d52_386 (mt (i := 457) rfl) Via.refl 1 8 rfl rfl 389 rfl fun T1032 J1033 => ?_
  refine i_putX J1033 d52_389 (mt (i := 332) rfl) Via.refl 1 rfl kd_SE (ks := ks_SE) rfl (by decide) (Or.inl (mt (i := 333) rfl)) (mt (i := 2) rfl) (ty := .int) (by decide) rfl rfl 392 rfl fun T1034 J1035 => ?_
  refine p_aload_n J1035 d52_392 rfl rfl 393 rfl ?_
  refine i_get J1035 d52_393 (mt (i := 330) rfl) Via.refl 1 3 rfl rfl 396 rfl fun T1036 J1037 => ?_
  refine p_aload_n J1037 d52_396 rfl rfl 397 rfl ?_
  refine p_dup J1037 d52_397 rfl 398 rfl ?_
  refine i_get J1037 d52_398 (mt (i := 457) rfl) Via.refl 1 8 rfl rfl 401 rfl fun T1038 J1039 => ?_
  refine p_dup_x1 J1039 d52_401 rfl rfl 402 rfl ?_
  refine p_iconst J1039 d52_402 (z := (1 : Int32)) rfl 403 rfl ?_
  refine p_iadd J1039 d52_403 (z := (2 : Int32)) (by decide) 404 rfl ?_
  refine i_put J1039 d52_404 (mt (i := 457) rfl) Via.refl 1 8 rfl rfl sd_SE (Or.inl (mt (i := 458) rfl)) (mt (i := 2) rfl) (ty := .int) (by decide) rfl rfl 407 rfl (o_CP a999 (.int (2 : Int32)) (.int (0 : Int32)) (.int (0 : Int32)) (.int (0 : Int32)) .null (.long (0 : Int64)) (.int (0 : Int32)) :: o_SE se (.ref po) (.ref wb) (.ref ls) (.ref pts) (.int (0 : Int32)) (.int (-1 : Int32)) (.ref sv) (.ref pt) (.int (2 : Int32)) (.int (1 : Int32)) (.long (0 : Int64)) (.int (0 : Int32)) (.int (0 : Int32)) :: (pts, true, .inr (kp, (.object "com/example/lockstep/lockstep/core/ChoicePoint"), (16 : Int32), [(.ref c0), (.ref a999)], .null)) :: F) rfl fun T1040 J1041 => ?_
  refine i_aaload J1041 d52_407 2 rfl rfl (by decide) (by decide) rfl 408 rfl ?_
  refine i_virtual J1041 d52_408 (mt (i := 501) rfl) (mt (i := 502) rfl) (nfSel (mt (i := 504) rfl)) (mt (i := 504) rfl) (mt (i := 503) rfl) (mt (i := 462) rfl) (mt (i := 505) rfl) (by decide) (lenOf pd_6 rfl) 0 rfl (c_taken g a999 (0 : Int32) ) [0] [1, 2] 3 (by decide) (lenLe F 3 rfl) rfl 0 (by decide) (by decide) (by decide) (by decide) rfl (by show (0 : Nat) ≤ _; decide) _ rfl 1 12 rfl rfl 411 rfl fun v1045 W1046 T1042 hQ1044 J1043 => ?_
  obtain ⟨rfl, rfl⟩ := hQ1044
  have J1047 := J1043.norm (W' := o_CP a999 (.int (2 : Int32)) (.int (0 : Int32)) (.int (0 : Int32)) (.int (0 : Int32)) .null (.long (0 : Int64)) (.int (0 : Int32)) :: o_SE se (.ref po) (.ref wb) (.ref ls) (.ref pts) (.int (0 : Int32)) (.int (-1 : Int32)) (.ref sv) (.ref pt) (.int (2 : Int32)) (.int (1 : Int32)) (.long (0 : Int64)) (.int (0 : Int32)) (.int (0 : Int32)) :: (pts, true, .inr (kp, (.object "com/example/lockstep/lockstep/core/ChoicePoint"), (16 : Int32), [(.ref c0), (.ref a999)], .null)) :: F) rfl
  show Run _ _ _ _ (State.setTop _ (mkF m 411 #[.val (.ref se), .val (.int (2 : Int32)), .val .null, .val (.int (0 : Int32)), .val (.ref e_), .val (.ref lo), .val .null, .val .null] [(.int (0 : Int32))]))
  have J1048 := J1047.weak [1, 2, 0] 3 (by decide) (lenLe F 3 rfl) (W' := o_SE se (.ref po) (.ref wb) (.ref ls) (.ref pts) (.int (0 : Int32)) (.int (-1 : Int32)) (.ref sv) (.ref pt) (.int (2 : Int32)) (.int (1 : Int32)) (.long (0 : Int64)) (.int (0 : Int32)) (.int (0 : Int32)) :: (pts, true, .inr (kp, (.object "com/example/lockstep/lockstep/core/ChoicePoint"), (16 : Int32), [(.ref c0), (.ref a999)], .null)) :: o_CP a999 (.int (2 : Int32)) (.int (0 : Int32)) (.int (0 : Int32)) (.int (0 : Int32)) .null (.long (0 : Int64)) (.int (0 : Int32)) :: F) rfl
  exact r_val J1048 d52_411 (t := .int) rfl rfl (Or.inl ⟨rfl, by simp, _, rfl⟩) (by decide) (by decide) (Wf := [o_SE se (.ref po) (.ref wb) (.ref ls) (.ref pts) (.int (0 : Int32)) (.int (-1 : Int32)) (.ref sv) (.ref pt) (.int (2 : Int32)) (.int (1 : Int32)) (.long (0 : Int64)) (.int (0 : Int32)) (.int (0 : Int32)), (pts, true, .inr (kp, (.object "com/example/lockstep/lockstep/core/ChoicePoint"), (16 : Int32), [(.ref c0), (.ref a999)], .null)), o_CP a999 (.int (2 : Int32)) (.int (0 : Int32)) (.int (0 : Int32)) (.int (0 : Int32)) .null (.long (0 : Int64)) (.int (0 : Int32))]) rfl ⟨a999, rfl, rfl⟩
theorem d52_11 : decode prog_206_method_80_code 11 = .ok (.aload_n 0, 1) := by decide +kernel
theorem d52_12 : decode prog_206_method_80_code 12 = .ok (.getfield 110, 3) := by decide +kernel
theorem d52_15 : decode prog_206_method_80_code 15 = .ok (.aload_n 0, 1) := by decide +kernel
theorem d52_16 : decode prog_206_method_80_code 16 = .ok (.dup, 1) := by decide +kernel
theorem d52_17 : decode prog_206_method_80_code 17 = .ok (.getfield 266, 3) := by decide +kernel
theorem d52_20 : decode prog_206_method_80_code 20 = .ok (.dup_x1, 1) := by decide +kernel
theorem d52_21 : decode prog_206_method_80_code 21 = .ok (.iconst 1, 1) := by decide +kernel
theorem d52_22 : decode prog_206_method_80_code 22 = .ok (.iadd, 1) := by decide +kernel
theorem d52_23 : decode prog_206_method_80_code 23 = .ok (.putfield 266, 3) := by decide +kernel
theorem d52_26 : decode prog_206_method_80_code 26 = .ok (.aaload, 1) := by decide +kernel
theorem d52_27 : decode prog_206_method_80_code 27 = .ok (.astore 6, 2) := by decide +kernel
theorem d52_29 : decode prog_206_method_80_code 29 = .ok (.aload 6, 2) := by decide +kernel
theorem d52_31 : decode prog_206_method_80_code 31 = .ok (.invokevirtual 520, 3) := by decide +kernel
theorem d52_34 : decode prog_206_method_80_code 34 = .ok (.iload_n 1, 1) := by decide +kernel
theorem d52_35 : decode prog_206_method_80_code 35 = .ok (.if_icmp .ne 16, 3) := by decide +kernel
theorem d52_38 : decode prog_206_method_80_code 38 = .ok (.aload 6, 2) := by decide +kernel
theorem d52_40 : decode prog_206_method_80_code 40 = .ok (.invokevirtual 426, 3) := by decide +kernel
theorem pd_19 : parseMethodDescriptor "()J" = some ⟨[], some .long⟩ := by decide +kernel
theorem d52_43 : decode prog_206_method_80_code 43 = .ok (.aload_n 0, 1) := by decide +kernel
theorem d52_44 : decode prog_206_method_80_code 44 = .ok (.getfield 423, 3) := by decide +kernel
theorem d52_47 : decode prog_206_method_80_code 47 = .ok (.lcmp, 1) := by decide +kernel
theorem d52_48 : decode prog_206_method_80_code 48 = .ok (.ifCond .eq 14, 3) := by decide +kernel
theorem d52_62 : decode prog_206_method_80_code 62 = .ok (.aload_n 0, 1) := by decide +kernel
theorem d52_63 : decode prog_206_method_80_code 63 = .ok (.lconst 0, 1) := by decide +kernel
theorem d52_64 : decode prog_206_method_80_code 64 = .ok (.putfield 423, 3) := by decide +kernel
theorem d52_67 : decode prog_206_method_80_code 67 = .ok (.aload_n 0, 1) := by decide +kernel
theorem d52_68 : decode prog_206_method_80_code 68 = .ok (.aload_n 0, 1) := by decide +kernel
theorem d52_69 : decode prog_206_method_80_code 69 = .ok (.getfield 266, 3) := by decide +kernel
theorem d52_72 : decode prog_206_method_80_code 72 = .ok (.iconst 1, 1) := by decide +kernel
theorem d52_73 : decode prog_206_method_80_code 73 = .ok (.isub, 1) := by decide +kernel
theorem d52_74 : decode prog_206_method_80_code 74 = .ok (.putfield 114, 3) := by decide +kernel
theorem d52_77 : decode prog_206_method_80_code 77 = .ok (.aload 6, 2) := by decide +kernel
theorem d52_79 : decode prog_206_method_80_code 79 = .ok (.invokevirtual 434, 3) := by decide +kernel
theorem d52_82 : decode prog_206_method_80_code 82 = .ok (.ifCond .ne 21, 3) := by decide +kernel
theorem d52_85 : decode prog_206_method_80_code 85 = .ok (.aload_n 0, 1) := by decide +kernel
theorem d52_86 : decode prog_206_method_80_code 86 = .ok (.getfield 117, 3) := by decide +kernel
theorem d52_89 : decode prog_206_method_80_code 89 = .ok (.ifCond .lt 14, 3) := by decide +kernel
theorem d52_103 : decode prog_206_method_80_code 103 = .ok (.aload_n 0, 1) := by decide +kernel
theorem d52_104 : decode prog_206_method_80_code 104 = .ok (.aload 6, 2) := by decide +kernel
theorem d52_106 : decode prog_206_method_80_code 106 = .ok (.invokevirtual 456, 3) := by decide +kernel
theorem d52_109 : decode prog_206_method_80_code 109 = .ok (.putfield 94, 3) := by decide +kernel
theorem d52_112 : decode prog_206_method_80_code 112 = .ok (.aload 6, 2) := by decide +kernel
theorem d52_114 : decode prog_206_method_80_code 114 = .ok (.invokevirtual 390, 3) := by decide +kernel
theorem d52_117 : decode prog_206_method_80_code 117 = .ok (.ireturn, 1) := by decide +kernel
theorem pn_chR : plainFor (⟨"com/example/lockstep/lockstep/core/Search", "choose", "(ILjava/util/function/Supplier;ZLjava/lang/String;Lcom/example/lockstep/lockstep/core/value/SourceLocation;)I"⟩ : MethodName) = true := by first | exact plainFor_of_name (by first | (simp [plainName, overriddenIn]; done) | decide +kernel) | exact Jvm.Free.JP.mathPlain rfl (by decide +kernel) | decide +kernel
set_option maxRecDepth 65536 in
set_option maxHeartbeats 40000000 in
theorem c_chR {l : Launch} {Z : State} {a0 : Array Value} {EL : List (String × Nat)} (g : GC Z a0 EL) (se : Addr) (po : Addr) (wb : Addr) (ls : Addr) (pts : Addr) (kp : ClassId) (sv : Addr) (pt : Addr) (e_ : Addr) (lo : Addr) (c0 : Addr)  : Con l Z EL (⟨"com/example/lockstep/lockstep/core/Search", "choose", "(ILjava/util/function/Supplier;ZLjava/lang/String;Lcom/example/lockstep/lockstep/core/value/SourceLocation;)I"⟩ : MethodName) prog_206_method_80_code 8 (some .int) { frames := 1, cells := 0, slots := 0, locals := 13 } [(.ref se), (.int (2 : Int32)), .null, (.int (0 : Int32)), (.ref e_), (.ref lo)] [o_SE se (.ref po) (.ref wb) (.ref ls) (.ref pts) (.int (0 : Int32)) (.int (-1 : Int32)) (.ref sv) (.ref pt) (.int (0 : Int32)) (.int (1 : Int32)) (.long (0 : Int64)) (.int (0 : Int32)) (.int (0 : Int32)), (pts, true, .inr (kp, (.object "com/example/lockstep/lockstep/core/ChoicePoint"), (16 : Int32), [(.ref c0), .null], .null)), o_CP c0 (.int (2 : Int32)) (.int (0 : Int32)) (.int (1 : Int32)) (.int (0 : Int32)) .null (.long (0 : Int64)) (.int (0 : Int32))] (fun v W' => v = some (.int (1 : Int32)) ∧ W' = [o_SE se (.ref po) (.ref wb) (.ref ls) (.ref pts) (.int (0 : Int32)) (.int (-1 : Int32)) (.ref sv) (.ref pt) (.int (1 : Int32)) (.int (1 : Int32)) (.long (0 : Int64)) (.int (0 : Int32)) (.int (0 : Int32)), (pts, true, .inr (kp, (.object "com/example/lockstep/lockstep/core/ChoicePoint"), (16 : Int32), [(.ref c0), .null], .null)), o_CP c0 (.int (2 : Int32)) (.int (0 : Int32)) (.int (1 : Int32)) (.int (0 : Int32)) .null (.long (0 : Int64)) (.int (0 : Int32))]) := by
  refine Con.mk g pn_chR (Ls := #[.val (.ref se), .val (.int (2 : Int32)), .val .null, .val (.int (0 : Int32)), .val (.ref e_), .val (.ref lo), .unset, .unset]) (fun m => by first | (simp [entryFrame, mkF, argsToLocals, Value.category]; done) | rfl) ?_
  intro p e s m below meth c T0 F J0
  refine p_aload_n J0 d52_0 rfl rfl 1 rfl ?_
  refine i_get J0 d52_1 (mt (i := 457) rfl) Via.refl 0 8 rfl rfl 4 rfl fun T1049 J1050 => ?_
  refine p_aload_n J1050 d52_4 rfl rfl 5 rfl ?_
  refine i_get J1050 d52_5 (mt (i := 459) rfl) Via.refl 0 9 rfl rfl 8 rfl fun T1051 J1052 => ?_
  refine p_icmp_n J1052 d52_8 (by decide) 11 rfl ?_
  refine p_aload_n J1052 d52_11 rfl rfl 12 rfl ?_
  refine i_get J1052 d52_12 (mt (i := 330) rfl) Via.refl 0 3 rfl rfl 15 rfl fun T1053 J1054 => ?_
  refine p_aload_n J1054 d52_15 rfl rfl 16 rfl ?_
  refine p_dup J1054 d52_16 rfl 17 rfl ?_
  refine i_get J1054 d52_17 (mt (i := 457) rfl) Via.refl 0 8 rfl rfl 20 rfl fun T1055 J1056 => ?_
  refine p_dup_x1 J1056 d52_20 rfl rfl 21 rfl ?_
  refine p_iconst J1056 d52_21 (z := (1 : Int32)) rfl 22 rfl ?_
  refine p_iadd J1056 d52_22 (z := (1 : Int32)) (by decide) 23 rfl ?_
  refine i_put J1056 d52_23 (mt (i := 457) rfl) Via.refl 0 8 rfl rfl sd_SE (Or.inl (mt (i := 458) rfl)) (mt (i := 2) rfl) (ty := .int) (by decide) rfl rfl 26 rfl (o_SE se (.ref po) (.ref wb) (.ref ls) (.ref pts) (.int (0 : Int32)) (.int (-1 : Int32)) (.ref sv) (.ref pt) (.int (1 : Int32)) (.int (1 : Int32)) (.long (0 : Int64)) (.int (0 : Int32)) (.int (0 : Int32)) :: (pts, true, .inr (kp, (.object "com/example/lockstep/lockstep/core/ChoicePoint"), (16 : Int32), [(.ref c0), .null], .null)) :: o_CP c0 (.int (2 : Int32)) (.int (0 : Int32)) (.int (1 : Int32)) (.int (0 : Int32)) .null (.long (0 : Int64)) (.int (0 : Int32)) :: F) rfl fun T1057 J1058 => ?_
  refine i_aaload J1058 d52_26 1 rfl rfl (by decide) (by decide) rfl 27 rfl ?_
  refine p_astore J1058 #[.val (.ref se), .val (.int (2 : Int32)), .val .null, .val (.int (0 : Int32)), .val (.ref e_), .val (.ref lo), .val (.ref c0), .unset] d52_27 rfl rfl 29 rfl ?_
  refine p_aload J1058 d52_29 rfl rfl 31 rfl ?_
  refine i_virtual J1058 d52_31 (mt (i := 593) rfl) (mt (i := 594) rfl) (nfSel (mt (i := 596) rfl)) (mt (i := 596) rfl) (mt (i := 595) rfl) (mt (i := 462) rfl) (mt (i := 597) rfl) (by decide) (lenOf pd_6 rfl) 2 rfl (c_ways g c0 (1 : Int32) ) [2] [0, 1] 3 (by decide) (lenLe F 3 rfl) rfl 0 (by decide) (by decide) (by decide) (by decide) rfl (by show (0 : Nat) ≤ _; decide) _ rfl 0 0 rfl rfl 34 rfl fun v1062 W1063 T1059 hQ1061 J1060 => ?_
  obtain ⟨rfl, rfl⟩ := hQ1061
  have J1064 := J1060.norm (W' := o_CP c0 (.int (2 : Int32)) (.int (0 : Int32)) (.int (1 : Int32)) (.int (0 : Int32)) .null (.long (0 : Int64)) (.int (0 : Int32)) :: o_SE se (.ref po) (.ref wb) (.ref ls) (.ref pts) (.int (0 : Int32)) (.int (-1 : Int32)) (.ref sv) (.ref pt) (.int (1 : Int32)) (.int (1 : Int32)) (.long (0 : Int64)) (.int (0 : Int32)) (.int (0 : Int32)) :: (pts, true, .inr (kp, (.object "com/example/lockstep/lockstep/core/ChoicePoint"), (16 : Int32), [(.ref c0), .null], .null)) :: F) rfl
  show Run _ _ _ _ (State.setTop _ (mkF m 34 #[.val (.ref se), .val (.int (2 : Int32)), .val .null, .val (.int (0 : Int32)), .val (.ref e_), .val (.ref lo), .val (.ref c0), .unset] [(.int (2 : Int32))]))
  refine p_iload_n J1064 d52_34 rfl 35 rfl ?_
  refine p_icmp_n J1064 d52_35 (by decide) 38 rfl ?_
  refine p_aload J1064 d52_38 rfl rfl 40 rfl ?_
  refine i_virtual J1064 d52_40 (mt (i := 598) rfl) (mt (i := 599) rfl) (nfSel (mt (i := 601) rfl)) (mt (i := 601) rfl) (mt (i := 600) rfl) (mt (i := 462) rfl) (mt (i := 602) rfl) (by decide) (lenOf pd_19 rfl) 0 rfl (c_settledB g c0 (1 : Int32) ) [0] [1, 2] 3 (by decide) (lenLe F 3 rfl) rfl 0 (by decide) (by decide) (by decide) (by decide) rfl (by show (0 : Nat) ≤ _; decide) _ rfl 0 0 rfl rfl 43 rfl fun v1068 W1069 T1065 hQ1067 J1066 => ?_
  obtain ⟨rfl, rfl⟩ := hQ1067
  have J1070 := J1066.norm (W' := o_CP c0 (.int (2 : Int32)) (.int (0 : Int32)) (.int (1 : Int32)) (.int (0 : Int32)) .null (.long (0 : Int64)) (.int (0 : Int32)) :: o_SE se (.ref po) (.ref wb) (.ref ls) (.ref pts) (.int (0 : Int32)) (.int (-1 : Int32)) (.ref sv) (.ref pt) (.int (1 : Int32)) (.int (1 : Int32)) (.long (0 : Int64)) (.int (0 : Int32)) (.int (0 : Int32)) :: (pts, true, .inr (kp, (.object "com/example/lockstep/lockstep/core/ChoicePoint"), (16 : Int32), [(.ref c0), .null], .null)) :: F) rfl
  show Run _ _ _ _ (State.setTop _ (mkF m 43 #[.val (.ref se), .val (.int (2 : Int32)), .val .null, .val (.int (0 : Int32)), .val (.ref e_), .val (.ref lo), .val (.ref c0), .unset] [(.long (0 : Int64))]))
  refine p_aload_n J1070 d52_43 rfl rfl 44 rfl ?_
  refine i_get J1070 d52_44 (mt (i := 470) rfl) Via.refl 1 10 rfl rfl 47 rfl fun T1071 J1072 => ?_
  refine p_lcmp J1072 d52_47 (z := (0 : Int32)) (by decide) 48 rfl ?_
  refine p_if_y J1072 d52_48 (by decide) 62 (by decide) (by decide) ?_
  refine p_aload_n J1072 d52_62 rfl rfl 63 rfl ?_
  refine p_lconst J1072 d52_63 (z := (0 : Int64)) rfl 64 rfl ?_
  refine i_put J1072 d52_64 (mt (i := 470) rfl) Via.refl 1 10 rfl rfl sd_SE (Or.inl (mt (i := 471) rfl)) (mt (i := 2) rfl) (ty := .long) (by decide) rfl rfl 67 rfl (o_CP c0 (.int (2 : Int32)) (.int (0 : Int32)) (.int (1 : Int32)) (.int (0 : Int32)) .null (.long (0 : Int64)) (.int (0 : Int32)) :: o_SE se (.ref po) (.ref wb) (.ref ls) (.ref pts) (.int (0 : Int32)) (.int (-1 : Int32)) (.ref sv) (.ref pt) (.int (1 : Int32)) (.int (1 : Int32)) (.long (0 : Int64)) (.int (0 : Int32)) (.int (0 : Int32)) :: (pts, true, .inr (kp, (.object "com/example/lockstep/lockstep/core/ChoicePoint"), (16 : Int32), [(.ref c0), .null], .null)) :: F) rfl fun T1073 J1074 => ?_
  refine p_aload_n J1074 d52_67 rfl rfl 68 rfl ?_
  refine p_aload_n J1074 d52_68 rfl rfl 69 rfl ?_
  refine i_get J1074 d52_69 (mt (i := 457) rfl) Via.refl 1 8 rfl rfl 72 rfl fun T1075 J1076 => ?_
  refine p_iconst J1076 d52_72 (z := (1 : Int32)) rfl 73 rfl ?_
  refine p_isub J1076 d52_73 (z := (0 : Int32)) (by decide) 74 rfl ?_
  refine i_putX J1076 d52_74 (mt (i := 332) rfl) Via.refl 1 rfl kd_SE (ks := ks_SE) rfl (by decide) (Or.inl (mt (i := 333) rfl)) (mt (i := 2) rfl) (ty := .int) (by decide) rfl rfl 77 rfl fun T1077 J1078 => ?_
  refine p_aload J1078 d52_77 rfl rfl 79 rfl ?_
  refine i_virtual J1078 d52_79 (mt (i := 603) rfl) (mt (i := 604) rfl) (nfSel (mt (i := 606) rfl)) (mt (i := 606) rfl) (mt (i := 605) rfl) (mt (i := 462) rfl) (mt (i := 607) rfl) (by decide) (lenOf pd_8 rfl) 0 rfl (c_isSettled g c0 (1 : Int32) ) [0] [1, 2] 3 (by decide) (lenLe F 3 rfl) rfl 0 (by decide) (by decide) (by decide) (by decide) rfl (by show (0 : Nat) ≤ _; decide) _ rfl 0 0 rfl rfl 82 rfl fun v1082 W1083 T1079 hQ1081 J1080 => ?_
  obtain ⟨rfl, rfl⟩ := hQ1081
  have J1084 := J1080.norm (W' := o_CP c0 (.int (2 : Int32)) (.int (0 : Int32)) (.int (1 : Int32)) (.int (0 : Int32)) .null (.long (0 : Int64)) (.int (0 : Int32)) :: o_SE se (.ref po) (.ref wb) (.ref ls) (.ref pts) (.int (0 : Int32)) (.int (-1 : Int32)) (.ref sv) (.ref pt) (.int (1 : Int32)) (.int (1 : Int32)) (.long (0 : Int64)) (.int (0 : Int32)) (.int (0 : Int32)) :: (pts, true, .inr (kp, (.object "com/example/lockstep/lockstep/core/ChoicePoint"), (16 : Int32), [(.ref c0), .null], .null)) :: F) rfl
  show Run _ _ _ _ (State.setTop _ (mkF m 82 #[.val (.ref se), .val (.int (2 : Int32)), .val .null, .val (.int (0 : Int32)), .val (.ref e_), .val (.ref lo), .val (.ref c0), .unset] [(.int (0 : Int32))]))
  refine p_if_n J1084 d52_82 (by decide) 85 rfl ?_
  refine p_aload_n J1084 d52_85 rfl rfl 86 rfl ?_
  refine i_get J1084 d52_86 (mt (i := 334) rfl) Via.refl 1 5 rfl rfl 89 rfl fun T1085 J1086 => ?_
  refine p_if_y J1086 d52_89 (by decide) 103 (by decide) (by decide) ?_
  refine p_aload_n J1086 d52_103 rfl rfl 104 rfl ?_
  refine p_aload J1086 d52_104 rfl rfl 106 rfl ?_
  refine i_virtual J1086 d52_106 (mt (i := 608) rfl) (mt (i := 609) rfl) (nfSel (mt (i := 611) rfl)) (mt (i := 611) rfl) (mt (i := 610) rfl) (mt (i := 462) rfl) (mt (i := 612) rfl) (by decide) (lenOf pd_6 rfl) 0 rfl (c_cpnode g c0 (1 : Int32) ) [0] [1, 2] 3 (by decide) (lenLe F 3 rfl) rfl 1 (by decide) (by decide) (by decide) (by decide) rfl (by show (1 : Nat) ≤ _; decide) _ rfl 0 0 rfl rfl 109 rfl fun v1090 W1091 T1087 hQ1089 J1088 => ?_
  obtain ⟨rfl, rfl⟩ := hQ1089
  have J1092 := J1088.norm (W' := o_CP c0 (.int (2 : Int32)) (.int (0 : Int32)) (.int (1 : Int32)) (.int (0 : Int32)) .null (.long (0 : Int64)) (.int (0 : Int32)) :: o_SE se (.ref po) (.ref wb) (.ref ls) (.ref pts) (.int (0 : Int32)) (.int (-1 : Int32)) (.ref sv) (.ref pt) (.int (1 : Int32)) (.int (1 : Int32)) (.long (0 : Int64)) (.int (0 : Int32)) (.int (0 : Int32)) :: (pts, true, .inr (kp, (.object "com/example/lockstep/lockstep/core/ChoicePoint"), (16 : Int32), [(.ref c0), .null], .null)) :: F) rfl
  show Run _ _ _ _ (State.setTop _ (mkF m 109 #[.val (.ref se), .val (.int (2 : Int32)), .val .null, .val (.int (0 : Int32)), .val (.ref e_), .val (.ref lo), .val (.ref c0), .unset] [(.int (0 : Int32)), (.ref se)]))
  refine i_put J1092 d52_109 (mt (i := 320) rfl) Via.refl 1 4 rfl rfl sd_SE (Or.inl (mt (i := 321) rfl)) (mt (i := 2) rfl) (ty := .int) (by decide) rfl rfl 112 rfl (o_CP c0 (.int (2 : Int32)) (.int (0 : Int32)) (.int (1 : Int32)) (.int (0 : Int32)) .null (.long (0 : Int64)) (.int (0 : Int32)) :: o_SE se (.ref po) (.ref wb) (.ref ls) (.ref pts) (.int (0 : Int32)) (.int (-1 : Int32)) (.ref sv) (.ref pt) (.int (1 : Int32)) (.int (1 : Int32)) (.long (0 : Int64)) (.int (0 : Int32)) (.int (0 : Int32)) :: (pts, true, .inr (kp, (.object "com/example/lockstep/lockstep/core/ChoicePoint"), (16 : Int32), [(.ref c0), .null], .null)) :: F) rfl fun T1093 J1094 => ?_
  refine p_aload J1094 d52_112 rfl rfl 114 rfl ?_
  refine i_virtual J1094 d52_114 (mt (i := 501) rfl) (mt (i := 502) rfl) (nfSel (mt (i := 504) rfl)) (mt (i := 504) rfl) (mt (i := 503) rfl) (mt (i := 462) rfl) (mt (i := 505) rfl) (by decide) (lenOf pd_6 rfl) 0 rfl (c_taken g c0 (1 : Int32) ) [0] [1, 2] 3 (by decide) (lenLe F 3 rfl) rfl 0 (by decide) (by decide) (by decide) (by decide) rfl (by show (0 : Nat) ≤ _; decide) _ rfl 0 0 rfl rfl 117 rfl fun v1098 W1099 T1095 hQ1097 J1096 => ?_
  obtain ⟨rfl, rfl⟩ := hQ1097
  have J1100 := J1096.norm (W' := o_CP c0 (.int (2 : Int32)) (.int (0 : Int32)) (.int (1 : Int32)) (.int (0 : Int32)) .null (.long (0 : Int64)) (.int (0 : Int32)) :: o_SE se (.ref po) (.ref wb) (.ref ls) (.ref pts) (.int (0 : Int32)) (.int (-1 : Int32)) (.ref sv) (.ref pt) (.int (1 : Int32)) (.int (1 : Int32)) (.long (0 : Int64)) (.int (0 : Int32)) (.int (0 : Int32)) :: (pts, true, .inr (kp, (.object "com/example/lockstep/lockstep/core/ChoicePoint"), (16 : Int32), [(.ref c0), .null], .null)) :: F) rfl
  show Run _ _ _ _ (State.setTop _ (mkF m 117 #[.val (.ref se), .val (.int (2 : Int32)), .val .null, .val (.int (0 : Int32)), .val (.ref e_), .val (.ref lo), .val (.ref c0), .unset] [(.int (1 : Int32))]))
  have J1101 := J1100.weak [1, 2, 0] 3 (by decide) (lenLe F 3 rfl) (W' := o_SE se (.ref po) (.ref wb) (.ref ls) (.ref pts) (.int (0 : Int32)) (.int (-1 : Int32)) (.ref sv) (.ref pt) (.int (1 : Int32)) (.int (1 : Int32)) (.long (0 : Int64)) (.int (0 : Int32)) (.int (0 : Int32)) :: (pts, true, .inr (kp, (.object "com/example/lockstep/lockstep/core/ChoicePoint"), (16 : Int32), [(.ref c0), .null], .null)) :: o_CP c0 (.int (2 : Int32)) (.int (0 : Int32)) (.int (1 : Int32)) (.int (0 : Int32)) .null (.long (0 : Int64)) (.int (0 : Int32)) :: F) rfl
  exact r_val J1101 d52_117 (t := .int) rfl rfl (Or.inl ⟨rfl, by simp, _, rfl⟩) (by decide) (by decide) (Wf := [o_SE se (.ref po) (.ref wb) (.ref ls) (.ref pts) (.int (0 : Int32)) (.int (-1 : Int32)) (.ref sv) (.ref pt) (.int (1 : Int32)) (.int (1 : Int32)) (.long (0 : Int64)) (.int (0 : Int32)) (.int (0 : Int32)), (pts, true, .inr (kp, (.object "com/example/lockstep/lockstep/core/ChoicePoint"), (16 : Int32), [(.ref c0), .null], .null)), o_CP c0 (.int (2 : Int32)) (.int (0 : Int32)) (.int (1 : Int32)) (.int (0 : Int32)) .null (.long (0 : Int64)) (.int (0 : Int32))]) rfl ⟨rfl, rfl⟩
theorem d53_0 : decode prog_206_method_72_code 0 = .ok (.aload_n 0, 1) := by decide +kernel
theorem d53_1 : decode prog_206_method_72_code 1 = .ok (.iload_n 1, 1) := by decide +kernel
theorem d53_2 : decode prog_206_method_72_code 2 = .ok (.aload_n 2, 1) := by decide +kernel
theorem d53_3 : decode prog_206_method_72_code 3 = .ok (.iconst 0, 1) := by decide +kernel
theorem d53_4 : decode prog_206_method_72_code 4 = .ok (.aload_n 3, 1) := by decide +kernel
theorem d53_5 : decode prog_206_method_72_code 5 = .ok (.ldc_w 488, 3) := by decide +kernel
theorem d53_8 : decode prog_206_method_72_code 8 = .ok (.invokestatic 394, 3) := by decide +kernel
theorem d53_11 : decode prog_206_method_72_code 11 = .ok (.checkcast 489, 3) := by decide +kernel
theorem d53_14 : decode prog_206_method_72_code 14 = .ok (.aload 4, 2) := by decide +kernel
theorem d53_16 : decode prog_206_method_72_code 16 = .ok (.ldc_w 491, 3) := by decide +kernel
theorem d53_19 : decode prog_206_method_72_code 19 = .ok (.invokestatic 394, 3) := by decide +kernel
theorem d53_22 : decode prog_206_method_72_code 22 = .ok (.checkcast 492, 3) := by decide +kernel
theorem d53_25 : decode prog_206_method_72_code 25 = .ok (.invokevirtual 407, 3) := by decide +kernel
theorem pd_20 : parseMethodDescriptor "(ILjava/util/function/Supplier;ZLjava/lang/String;Lcom/example/lockstep/lockstep/core/value/SourceLocation;)I" = some ⟨[.int, (.object "java/util/function/Supplier"), .boolean, (.object "java/lang/String"), (.object "com/example/lockstep/lockstep/core/value/SourceLocation")], some .int⟩ := by decide +kernel
theorem d53_28 : decode prog_206_method_72_code 28 = .ok (.ireturn, 1) := by decide +kernel
theorem pn_u4ch0 : plainFor (⟨"com/example/lockstep/lockstep/core/Search", "chooseUnspecified", "(ILjava/util/function/Supplier;Ljava/lang/String;Lcom/example/lockstep/lockstep/core/value/SourceLocation;)I"⟩ : MethodName) = true := by first | exact plainFor_of_name (by first | (simp [plainName, overriddenIn]; done) | decide +kernel) | exact Jvm.Free.JP.mathPlain rfl (by decide +kernel) | decide +kernel
set_option maxRecDepth 65536 in
set_option maxHeartbeats 40000000 in
theorem c_u4ch0 {l : Launch} {Z : State} {a0 : Array Value} (g : GC Z a0 []) (se : Addr) (po : Addr) (wb : Addr) (ls : Addr) (pts : Addr) (kp : ClassId) (sv : Addr) (pt : Addr) (e_ : Addr) (lo : Addr) (eb : Addr)  : Con l Z [] (⟨"com/example/lockstep/lockstep/core/Search", "chooseUnspecified", "(ILjava/util/function/Supplier;Ljava/lang/String;Lcom/example/lockstep/lockstep/core/value/SourceLocation;)I"⟩ : MethodName) prog_206_method_72_code 5 (some .int) { frames := 3, cells := 5, slots := 48, locals := 46 } [(.ref se), (.int (2 : Int32)), .null, (.ref e_), (.ref lo)] [o_SE se (.ref po) (.ref wb) (.ref ls) (.ref pts) (.int (0 : Int32)) (.int (-1 : Int32)) (.ref sv) (.ref pt) (.int (0 : Int32)) (.int (0 : Int32)) (.long (0 : Int64)) (.int (0 : Int32)) (.int (0 : Int32)), (pts, true, .inr (kp, (.object "com/example/lockstep/lockstep/core/ChoicePoint"), (16 : Int32), [.null, .null], .null)), (e_, false, (o_Str e_ (.ref eb) (.int (0 : Int32))).2.2), o_LO lo ] (fun v W' => ∃ (cn : Addr), v = some (.int (0 : Int32)) ∧ W' = [o_SE se (.ref po) (.ref wb) (.ref ls) (.ref pts) (.int (0 : Int32)) (.int (-1 : Int32)) (.ref sv) (.ref pt) (.int (1 : Int32)) (.int (0 : Int32)) (.long (0 : Int64)) (.int (0 : Int32)) (.int (0 : Int32)), (pts, true, .inr (kp, (.object "com/example/lockstep/lockstep/core/ChoicePoint"), (16 : Int32), [(.ref cn), .null], .null)), o_CP cn (.int (2 : Int32)) (.int (0 : Int32)) (.int (0 : Int32)) (.int (0 : Int32)) .null (.long (0 : Int64)) (.int (0 : Int32)), (e_, false, (o_Str e_ (.ref eb) (.int (0 : Int32))).2.2), o_LO lo ]) := by
  refine Con.mk g pn_u4ch0 (Ls := #[.val (.ref se), .val (.int (2 : Int32)), .val .null, .val (.ref e_), .val (.ref lo)]) (fun m => by first | (simp [entryFrame, mkF, argsToLocals, Value.category]; done) | rfl) ?_
  intro p e s m below meth c T0 F J0
  refine p_aload_n J0 d53_0 rfl rfl 1 rfl ?_
  refine p_iload_n J0 d53_1 rfl 2 rfl ?_
  refine p_aload_n J0 d53_2 rfl rfl 3 rfl ?_
  refine p_iconst J0 d53_3 (z := (0 : Int32)) rfl 4 rfl ?_
  refine p_aload_n J0 d53_4 rfl rfl 5 rfl ?_
  refine i_ldcW J0 d53_5 (mt (i := 447) rfl) 20 (by decide) (by decide) (by decide) (by decide) 2 24 rfl rfl 8 rfl fun a1102 T1103 J1104 => ?_
  refine i_static J1104 d53_8 (mt (i := 448) rfl) (mt (i := 368) rfl) (mt (i := 369) rfl) (mt (i := 370) rfl) (by decide) (lenOf pd_16 rfl) (c_rnn g e_ a1102 ) [] [0, 1, 2, 3] 4 (by decide) (lenLe F 4 rfl) rfl 4 (by decide) (by decide) (by decide) (by decide) rfl (by show (4 : Nat) ≤ _; decide) _ rfl 2 24 rfl rfl 11 rfl fun v1108 W1109 T1105 hQ1107 J1106 => ?_
  obtain ⟨rfl, rfl⟩ := hQ1107
  have J1110 := J1106.norm (W' := o_SE se (.ref po) (.ref wb) (.ref ls) (.ref pts) (.int (0 : Int32)) (.int (-1 : Int32)) (.ref sv) (.ref pt) (.int (0 : Int32)) (.int (0 : Int32)) (.long (0 : Int64)) (.int (0 : Int32)) (.int (0 : Int32)) :: (pts, true, .inr (kp, (.object "com/example/lockstep/lockstep/core/ChoicePoint"), (16 : Int32), [.null, .null], .null)) :: (e_, false, (o_Str e_ (.ref eb) (.int (0 : Int32))).2.2) :: o_LO lo  :: F) rfl
  show Run _ _ _ _ (State.setTop _ (mkF m 11 #[.val (.ref se), .val (.int (2 : Int32)), .val .null, .val (.ref e_), .val (.ref lo)] [(.ref e_), (.int (0 : Int32)), .null, (.int (2 : Int32)), (.ref se)]))
  refine i_cast J1110 d53_11 (mt (i := 449) rfl) (mt (i := 372) rfl) 2 rfl 14 rfl fun T1111 J1112 => ?_
  refine p_aload J1112 d53_14 rfl rfl 16 rfl ?_
  refine i_ldcW J1112 d53_16 (mt (i := 450) rfl) 8 (by decide) (by decide) (by decide) (by decide) 4 36 rfl rfl 19 rfl fun a1113 T1114 J1115 => ?_
  refine i_static J1115 d53_19 (mt (i := 448) rfl) (mt (i := 368) rfl) (mt (i := 369) rfl) (mt (i := 370) rfl) (by decide) (lenOf pd_16 rfl) (c_rnn g lo a1113 ) [] [0, 1, 2, 3] 4 (by decide) (lenLe F 4 rfl) rfl 5 (by decide) (by decide) (by decide) (by decide) rfl (by show (5 : Nat) ≤ _; decide) _ rfl 4 36 rfl rfl 22 rfl fun v1119 W1120 T1116 hQ1118 J1117 => ?_
  obtain ⟨rfl, rfl⟩ := hQ1118
  have J1121 := J1117.norm (W' := o_SE se (.ref po) (.ref wb) (.ref ls) (.ref pts) (.int (0 : Int32)) (.int (-1 : Int32)) (.ref sv) (.ref pt) (.int (0 : Int32)) (.int (0 : Int32)) (.long (0 : Int64)) (.int (0 : Int32)) (.int (0 : Int32)) :: (pts, true, .inr (kp, (.object "com/example/lockstep/lockstep/core/ChoicePoint"), (16 : Int32), [.null, .null], .null)) :: (e_, false, (o_Str e_ (.ref eb) (.int (0 : Int32))).2.2) :: o_LO lo  :: F) rfl
  show Run _ _ _ _ (State.setTop _ (mkF m 22 #[.val (.ref se), .val (.int (2 : Int32)), .val .null, .val (.ref e_), .val (.ref lo)] [(.ref lo), (.ref e_), (.int (0 : Int32)), .null, (.int (2 : Int32)), (.ref se)]))
  refine i_cast J1121 d53_22 (mt (i := 451) rfl) (mt (i := 452) rfl) 3 rfl 25 rfl fun T1122 J1123 => ?_
  refine i_private J1123 d53_25 (mt (i := 453) rfl) (mt (i := 455) rfl) (mt (i := 2) rfl) (mt (i := 454) rfl) (mt (i := 3) rfl) (mt (i := 456) rfl) (by decide) (lenOf pd_20 rfl) 0 rfl (c_ch0 g se po wb ls pts kp sv pt e_ lo ) [0, 1] [2, 3] 4 (by decide) (lenLe F 4 rfl) rfl 0 (by decide) (by decide) (by decide) (by decide) rfl (by show (0 : Nat) ≤ _; decide) _ rfl 5 48 rfl rfl 28 rfl fun v1128 W1129 T1125 hQ1127 J1126 => ?_
  obtain ⟨cn1124, rfl, rfl⟩ := hQ1127
  have J1130 := J1126.norm (W' := o_SE se (.ref po) (.ref wb) (.ref ls) (.ref pts) (.int (0 : Int32)) (.int (-1 : Int32)) (.ref sv) (.ref pt) (.int (1 : Int32)) (.int (0 : Int32)) (.long (0 : Int64)) (.int (0 : Int32)) (.int (0 : Int32)) :: (pts, true, .inr (kp, (.object "com/example/lockstep/lockstep/core/ChoicePoint"), (16 : Int32), [(.ref cn1124), .null], .null)) :: o_CP cn1124 (.int (2 : Int32)) (.int (0 : Int32)) (.int (0 : Int32)) (.int (0 : Int32)) .null (.long (0 : Int64)) (.int (0 : Int32)) :: (e_, false, (o_Str e_ (.ref eb) (.int (0 : Int32))).2.2) :: o_LO lo  :: F) rfl
  show Run _ _ _ _ (State.setTop _ (mkF m 28 #[.val (.ref se), .val (.int (2 : Int32)), .val .null, .val (.ref e_), .val (.ref lo)] [(.int (0 : Int32))]))
  exact r_val J1130 d53_28 (t := .int) rfl rfl (Or.inl ⟨rfl, by simp, _, rfl⟩) (by decide) (by decide) (Wf := [o_SE se (.ref po) (.ref wb) (.ref ls) (.ref pts) (.int (0 : Int32)) (.int (-1 : Int32)) (.ref sv) (.ref pt) (.int (1 : Int32)) (.int (0 : Int32)) (.long (0 : Int64)) (.int (0 : Int32)) (.int (0 : Int32)), (pts, true, .inr (kp, (.object "com/example/lockstep/lockstep/core/ChoicePoint"), (16 : Int32), [(.ref cn1124), .null], .null)), o_CP cn1124 (.int (2 : Int32)) (.int (0 : Int32)) (.int (0 : Int32)) (.int (0 : Int32)) .null (.long (0 : Int64)) (.int (0 : Int32)), (e_, false, (o_Str e_ (.ref eb) (.int (0 : Int32))).2.2), o_LO lo ]) rfl ⟨cn1124, rfl, rfl⟩
theorem d54_0 : decode prog_206_method_71_code 0 = .ok (.aload_n 0, 1) := by decide +kernel
theorem d54_1 : decode prog_206_method_71_code 1 = .ok (.iload_n 1, 1) := by decide +kernel
theorem d54_2 : decode prog_206_method_71_code 2 = .ok (.aconst_null, 1) := by decide +kernel
theorem d54_3 : decode prog_206_method_71_code 3 = .ok (.aload_n 2, 1) := by decide +kernel
theorem d54_4 : decode prog_206_method_71_code 4 = .ok (.aload_n 3, 1) := by decide +kernel
theorem d54_5 : decode prog_206_method_71_code 5 = .ok (.invokevirtual 484, 3) := by decide +kernel
theorem pd_21 : parseMethodDescriptor "(ILjava/util/function/Supplier;Ljava/lang/String;Lcom/example/lockstep/lockstep/core/value/SourceLocation;)I" = some ⟨[.int, (.object "java/util/function/Supplier"), (.object "java/lang/String"), (.object "com/example/lockstep/lockstep/core/value/SourceLocation")], some .int⟩ := by decide +kernel
theorem d54_8 : decode prog_206_method_71_code 8 = .ok (.ireturn, 1) := by decide +kernel
theorem pn_u3ch0 : plainFor (⟨"com/example/lockstep/lockstep/core/Search", "chooseUnspecified", "(ILjava/lang/String;Lcom/example/lockstep/lockstep/core/value/SourceLocation;)I"⟩ : MethodName) = true := by first | exact plainFor_of_name (by first | (simp [plainName, overriddenIn]; done) | decide +kernel) | exact Jvm.Free.JP.mathPlain rfl (by decide +kernel) | decide +kernel
set_option maxRecDepth 65536 in
set_option maxHeartbeats 40000000 in
theorem c_u3ch0 {l : Launch} {Z : State} {a0 : Array Value} (g : GC Z a0 []) (se : Addr) (po : Addr) (wb : Addr) (ls : Addr) (pts : Addr) (kp : ClassId) (sv : Addr) (pt : Addr) (e_ : Addr) (lo : Addr) (eb : Addr)  : Con l Z [] (⟨"com/example/lockstep/lockstep/core/Search", "chooseUnspecified", "(ILjava/lang/String;Lcom/example/lockstep/lockstep/core/value/SourceLocation;)I"⟩ : MethodName) prog_206_method_71_code 4 (some .int) { frames := 4, cells := 5, slots := 48, locals := 62 } [(.ref se), (.int (2 : Int32)), (.ref e_), (.ref lo)] [o_SE se (.ref po) (.ref wb) (.ref ls) (.ref pts) (.int (0 : Int32)) (.int (-1 : Int32)) (.ref sv) (.ref pt) (.int (0 : Int32)) (.int (0 : Int32)) (.long (0 : Int64)) (.int (0 : Int32)) (.int (0 : Int32)), (pts, true, .inr (kp, (.object "com/example/lockstep/lockstep/core/ChoicePoint"), (16 : Int32), [.null, .null], .null)), (e_, false, (o_Str e_ (.ref eb) (.int (0 : Int32))).2.2), o_LO lo ] (fun v W' => ∃ (cn : Addr), v = some (.int (0 : Int32)) ∧ W' = [o_SE se (.ref po) (.ref wb) (.ref ls) (.ref pts) (.int (0 : Int32)) (.int (-1 : Int32)) (.ref sv) (.ref pt) (.int (1 : Int32)) (.int (0 : Int32)) (.long (0 : Int64)) (.int (0 : Int32)) (.int (0 : Int32)), (pts, true, .inr (kp, (.object "com/example/lockstep/lockstep/core/ChoicePoint"), (16 : Int32), [(.ref cn), .null], .null)), o_CP cn (.int (2 : Int32)) (.int (0 : Int32)) (.int (0 : Int32)) (.int (0 : Int32)) .null (.long (0 : Int64)) (.int (0 : Int32)), (e_, false, (o_Str e_ (.ref eb) (.int (0 : Int32))).2.2), o_LO lo ]) := by
  refine Con.mk g pn_u3ch0 (Ls := #[.val (.ref se), .val (.int (2 : Int32)), .val (.ref e_), .val (.ref lo)]) (fun m => by first | (simp [entryFrame, mkF, argsToLocals, Value.category]; done) | rfl) ?_
  intro p e s m below meth c T0 F J0
  refine p_aload_n J0 d54_0 rfl rfl 1 rfl ?_
  refine p_iload_n J0 d54_1 rfl 2 rfl ?_
  refine p_aconst_null J0 d54_2 3 rfl ?_
  refine p_aload_n J0 d54_3 rfl rfl 4 rfl ?_
  refine p_aload_n J0 d54_4 rfl rfl 5 rfl ?_
  refine i_virtual J0 d54_5 (mt (i := 442) rfl) (mt (i := 443) rfl) (nfSel (mt (i := 445) rfl)) (mt (i := 445) rfl) (mt (i := 444) rfl) (mt (i := 3) rfl) (mt (i := 446) rfl) (by decide) (lenOf pd_21 rfl) 0 rfl (c_u4ch0 g se po wb ls pts kp sv pt e_ lo eb ) [0, 1, 2, 3] [] 4 (by decide) (lenLe F 4 rfl) rfl 0 (by decide) (by decide) (by decide) (by decide) rfl (by show (0 : Nat) ≤ _; decide) _ rfl 5 48 rfl rfl 8 rfl fun v1135 W1136 T1132 hQ1134 J1133 => ?_
  obtain ⟨cn1131, rfl, rfl⟩ := hQ1134
  have J1137 := J1133.norm (W' := o_SE se (.ref po) (.ref wb) (.ref ls) (.ref pts) (.int (0 : Int32)) (.int (-1 : Int32)) (.ref sv) (.ref pt) (.int (1 : Int32)) (.int (0 : Int32)) (.long (0 : Int64)) (.int (0 : Int32)) (.int (0 : Int32)) :: (pts, true, .inr (kp, (.object "com/example/lockstep/lockstep/core/ChoicePoint"), (16 : Int32), [(.ref cn1131), .null], .null)) :: o_CP cn1131 (.int (2 : Int32)) (.int (0 : Int32)) (.int (0 : Int32)) (.int (0 : Int32)) .null (.long (0 : Int64)) (.int (0 : Int32)) :: (e_, false, (o_Str e_ (.ref eb) (.int (0 : Int32))).2.2) :: o_LO lo  :: F) rfl
  show Run _ _ _ _ (State.setTop _ (mkF m 8 #[.val (.ref se), .val (.int (2 : Int32)), .val (.ref e_), .val (.ref lo)] [(.int (0 : Int32))]))
  exact r_val J1137 d54_8 (t := .int) rfl rfl (Or.inl ⟨rfl, by simp, _, rfl⟩) (by decide) (by decide) (Wf := [o_SE se (.ref po) (.ref wb) (.ref ls) (.ref pts) (.int (0 : Int32)) (.int (-1 : Int32)) (.ref sv) (.ref pt) (.int (1 : Int32)) (.int (0 : Int32)) (.long (0 : Int64)) (.int (0 : Int32)) (.int (0 : Int32)), (pts, true, .inr (kp, (.object "com/example/lockstep/lockstep/core/ChoicePoint"), (16 : Int32), [(.ref cn1131), .null], .null)), o_CP cn1131 (.int (2 : Int32)) (.int (0 : Int32)) (.int (0 : Int32)) (.int (0 : Int32)) .null (.long (0 : Int64)) (.int (0 : Int32)), (e_, false, (o_Str e_ (.ref eb) (.int (0 : Int32))).2.2), o_LO lo ]) rfl ⟨cn1131, rfl, rfl⟩
theorem d55_0 : decode prog_39_method_5_code 0 = .ok (.iload_n 1, 1) := by decide +kernel
theorem d55_1 : decode prog_39_method_5_code 1 = .ok (.aload_n 0, 1) := by decide +kernel
theorem d55_2 : decode prog_39_method_5_code 2 = .ok (.getfield 7, 3) := by decide +kernel
theorem d55_5 : decode prog_39_method_5_code 5 = .ok (.if_icmp .ne 29, 3) := by decide +kernel
theorem d55_8 : decode prog_39_method_5_code 8 = .ok (.aload_n 0, 1) := by decide +kernel
theorem d55_9 : decode prog_39_method_5_code 9 = .ok (.getfield 26, 3) := by decide +kernel
theorem d55_12 : decode prog_39_method_5_code 12 = .ok (.ifCond .ne 22, 3) := by decide +kernel
theorem d55_15 : decode prog_39_method_5_code 15 = .ok (.aload_n 0, 1) := by decide +kernel
theorem d55_16 : decode prog_39_method_5_code 16 = .ok (.getfield 7, 3) := by decide +kernel
theorem d55_19 : decode prog_39_method_5_code 19 = .ok (.aload_n 0, 1) := by decide +kernel
theorem d55_20 : decode prog_39_method_5_code 20 = .ok (.getfield 16, 3) := by decide +kernel
theorem d55_23 : decode prog_39_method_5_code 23 = .ok (.if_icmp .lt 11, 3) := by decide +kernel
theorem d55_34 : decode prog_39_method_5_code 34 = .ok (.iload_n 1, 1) := by decide +kernel
theorem d55_35 : decode prog_39_method_5_code 35 = .ok (.aload_n 0, 1) := by decide +kernel
theorem d55_36 : decode prog_39_method_5_code 36 = .ok (.getfield 7, 3) := by decide +kernel
theorem d55_39 : decode prog_39_method_5_code 39 = .ok (.if_icmp .ne 69, 3) := by decide +kernel
theorem d55_42 : decode prog_39_method_5_code 42 = .ok (.aload_n 0, 1) := by decide +kernel
theorem d55_43 : decode prog_39_method_5_code 43 = .ok (.getfield 26, 3) := by decide +kernel
theorem d55_46 : decode prog_39_method_5_code 46 = .ok (.ifCond .ne 62, 3) := by decide +kernel
theorem d55_49 : decode prog_39_method_5_code 49 = .ok (.aload_n 0, 1) := by decide +kernel
theorem d55_50 : decode prog_39_method_5_code 50 = .ok (.getfield 22, 3) := by decide +kernel
theorem d55_53 : decode prog_39_method_5_code 53 = .ok (.iconst 2, 1) := by decide +kernel
theorem d55_54 : decode prog_39_method_5_code 54 = .ok (.aload_n 2, 1) := by decide +kernel
theorem d55_55 : decode prog_39_method_5_code 55 = .ok (.aload_n 3, 1) := by decide +kernel
theorem d55_56 : decode prog_39_method_5_code 56 = .ok (.invokevirtual 53, 3) := by decide +kernel
theorem pd_22 : parseMethodDescriptor "(ILjava/lang/String;Lcom/example/lockstep/lockstep/core/value/SourceLocation;)I" = some ⟨[.int, (.object "java/lang/String"), (.object "com/example/lockstep/lockstep/core/value/SourceLocation")], some .int⟩ := by decide +kernel
theorem d55_59 : decode prog_39_method_5_code 59 = .ok (.ifCond .ne 31, 3) := by decide +kernel
theorem d55_62 : decode prog_39_method_5_code 62 = .ok (.aload_n 0, 1) := by decide +kernel
theorem d55_63 : decode prog_39_method_5_code 63 = .ok (.dup, 1) := by decide +kernel
theorem d55_64 : decode prog_39_method_5_code 64 = .ok (.getfield 7, 3) := by decide +kernel
theorem d55_67 : decode prog_39_method_5_code 67 = .ok (.iconst 1, 1) := by decide +kernel
theorem d55_68 : decode prog_39_method_5_code 68 = .ok (.iadd, 1) := by decide +kernel
theorem d55_69 : decode prog_39_method_5_code 69 = .ok (.putfield 7, 3) := by decide +kernel
theorem d55_72 : decode prog_39_method_5_code 72 = .ok (.aload_n 0, 1) := by decide +kernel
theorem d55_73 : decode prog_39_method_5_code 73 = .ok (.aload_n 0, 1) := by decide +kernel
theorem d55_74 : decode prog_39_method_5_code 74 = .ok (.getfield 19, 3) := by decide +kernel
theorem d55_77 : decode prog_39_method_5_code 77 = .ok (.aload_n 0, 1) := by decide +kernel
theorem d55_78 : decode prog_39_method_5_code 78 = .ok (.getfield 7, 3) := by decide +kernel
theorem d55_81 : decode prog_39_method_5_code 81 = .ok (.invokestatic 59, 3) := by decide +kernel
theorem d55_84 : decode prog_39_method_5_code 84 = .ok (.putfield 19, 3) := by decide +kernel
theorem d55_87 : decode prog_39_method_5_code 87 = .ok (.goto 21, 3) := by decide +kernel
theorem d55_108 : decode prog_39_method_5_code 108 = .ok (.iload_n 1, 1) := by decide +kernel
theorem d55_109 : decode prog_39_method_5_code 109 = .ok (.aload_n 0, 1) := by decide +kernel
theorem d55_110 : decode prog_39_method_5_code 110 = .ok (.getfield 7, 3) := by decide +kernel
theorem d55_113 : decode prog_39_method_5_code 113 = .ok (.if_icmp .ge 7, 3) := by decide +kernel
theorem d55_116 : decode prog_39_method_5_code 116 = .ok (.iconst 1, 1) := by decide +kernel
theorem d55_117 : decode prog_39_method_5_code 117 = .ok (.goto 4, 3) := by decide +kernel
theorem d55_121 : decode prog_39_method_5_code 121 = .ok (.ireturn, 1) := by decide +kernel
theorem pn_exch0 : plainFor (⟨"com/example/lockstep/lockstep/core/ActiveLevels", "exceeds", "(ILjava/lang/String;Lcom/example/lockstep/lockstep/core/value/SourceLocation;)Z"⟩ : MethodName) = true := by first | exact plainFor_of_name (by first | (simp [plainName, overriddenIn]; done) | decide +kernel) | exact Jvm.Free.JP.mathPlain rfl (by decide +kernel) | decide +kernel
set_option maxRecDepth 65536 in
set_option maxHeartbeats 40000000 in
theorem c_exch0 {l : Launch} {Z : State} {a0 : Array Value} (g : GC Z a0 []) (al : Addr) (bs : Int32) (se : Addr) (po : Addr) (wb : Addr) (ls : Addr) (pts : Addr) (kp : ClassId) (sv : Addr) (pt : Addr) (e_ : Addr) (lo : Addr) (eb : Addr)  : Con l Z [] (⟨"com/example/lockstep/lockstep/core/ActiveLevels", "exceeds", "(ILjava/lang/String;Lcom/example/lockstep/lockstep/core/value/SourceLocation;)Z"⟩ : MethodName) prog_39_method_5_code 4 (some .boolean) { frames := 5, cells := 5, slots := 48, locals := 77 } [(.ref al), (.int (1 : Int32)), (.ref e_), (.ref lo)] [o_AL al (.int (1 : Int32)) (.int (2147483647 : Int32)) (.int (1 : Int32)) (.int (0 : Int32)) (.int (0 : Int32)) (.int bs) (.ref se), o_SE se (.ref po) (.ref wb) (.ref ls) (.ref pts) (.int (0 : Int32)) (.int (-1 : Int32)) (.ref sv) (.ref pt) (.int (0 : Int32)) (.int (0 : Int32)) (.long (0 : Int64)) (.int (0 : Int32)) (.int (0 : Int32)), (pts, true, .inr (kp, (.object "com/example/lockstep/lockstep/core/ChoicePoint"), (16 : Int32), [.null, .null], .null)), (e_, false, (o_Str e_ (.ref eb) (.int (0 : Int32))).2.2), o_LO lo ] (fun v W' => ∃ (cn : Addr), v = some (.int (1 : Int32)) ∧ W' = [o_AL al (.int (2 : Int32)) (.int (2147483647 : Int32)) (.int (2 : Int32)) (.int (0 : Int32)) (.int (0 : Int32)) (.int bs) (.ref se), o_SE se (.ref po) (.ref wb) (.ref ls) (.ref pts) (.int (0 : Int32)) (.int (-1 : Int32)) (.ref sv) (.ref pt) (.int (1 : Int32)) (.int (0 : Int32)) (.long (0 : Int64)) (.int (0 : Int32)) (.int (0 : Int32)), (pts, true, .inr (kp, (.object "com/example/lockstep/lockstep/core/ChoicePoint"), (16 : Int32), [(.ref cn), .null], .null)), o_CP cn (.int (2 : Int32)) (.int (0 : Int32)) (.int (0 : Int32)) (.int (0 : Int32)) .null (.long (0 : Int64)) (.int (0 : Int32)), (e_, false, (o_Str e_ (.ref eb) (.int (0 : Int32))).2.2), o_LO lo ]) := by
  refine Con.mk g pn_exch0 (Ls := #[.val (.ref al), .val (.int (1 : Int32)), .val (.ref e_), .val (.ref lo)]) (fun m => by first | (simp [entryFrame, mkF, argsToLocals, Value.category]; done) | rfl) ?_
  intro p e s m below meth c T0 F J0
  refine p_iload_n J0 d55_0 rfl 1 rfl ?_
  refine p_aload_n J0 d55_1 rfl rfl 2 rfl ?_
  refine i_get J0 d55_2 (mt (i := 396) rfl) Via.refl 0 0 rfl rfl 5 rfl fun T1138 J1139 => ?_
  refine p_icmp_n J1139 d55_5 (by decide) 8 rfl ?_
  refine p_aload_n J1139 d55_8 rfl rfl 9 rfl ?_
  refine i_get J1139 d55_9 (mt (i := 410) rfl) Via.refl 0 3 rfl rfl 12 rfl fun T1140 J1141 => ?_
  refine p_if_n J1141 d55_12 (by decide) 15 rfl ?_
  refine p_aload_n J1141 d55_15 rfl rfl 16 rfl ?_
  refine i_get J1141 d55_16 (mt (i := 396) rfl) Via.refl 0 0 rfl rfl 19 rfl fun T1142 J1143 => ?_
  refine p_aload_n J1143 d55_19 rfl rfl 20 rfl ?_
  refine i_get J1143 d55_20 (mt (i := 399) rfl) Via.refl 0 1 rfl rfl 23 rfl fun T1144 J1145 => ?_
  refine p_icmp_y J1145 d55_23 (by decide) 34 (by decide) (by decide) ?_
  refine p_iload_n J1145 d55_34 rfl 35 rfl ?_
  refine p_aload_n J1145 d55_35 rfl rfl 36 rfl ?_
  refine i_get J1145 d55_36 (mt (i := 396) rfl) Via.refl 0 0 rfl rfl 39 rfl fun T1146 J1147 => ?_
  refine p_icmp_n J1147 d55_39 (by decide) 42 rfl ?_
  refine p_aload_n J1147 d55_42 rfl rfl 43 rfl ?_
  refine i_get J1147 d55_43 (mt (i := 410) rfl) Via.refl 0 3 rfl rfl 46 rfl fun T1148 J1149 => ?_
  refine p_if_n J1149 d55_46 (by decide) 49 rfl ?_
  refine p_aload_n J1149 d55_49 rfl rfl 50 rfl ?_
  refine i_get J1149 d55_50 (mt (i := 403) rfl) Via.refl 0 6 rfl rfl 53 rfl fun T1150 J1151 => ?_
  refine p_iconst J1151 d55_53 (z := (2 : Int32)) rfl 54 rfl ?_
  refine p_aload_n J1151 d55_54 rfl rfl 55 rfl ?_
  refine p_aload_n J1151 d55_55 rfl rfl 56 rfl ?_
  refine i_virtual J1151 d55_56 (mt (i := 437) rfl) (mt (i := 438) rfl) (nfSel (mt (i := 440) rfl)) (mt (i := 440) rfl) (mt (i := 439) rfl) (mt (i := 3) rfl) (mt (i := 441) rfl) (by decide) (lenOf pd_22 rfl) 1 rfl (c_u3ch0 g se po wb ls pts kp sv pt e_ lo eb ) [1, 2, 3, 4] [0] 5 (by decide) (lenLe F 5 rfl) rfl 0 (by decide) (by decide) (by decide) (by decide) rfl (by show (0 : Nat) ≤ _; decide) _ rfl 5 48 rfl rfl 59 rfl fun v1156 W1157 T1153 hQ1155 J1154 => ?_
  obtain ⟨cn1152, rfl, rfl⟩ := hQ1155
  have J1158 := J1154.norm (W' := o_SE se (.ref po) (.ref wb) (.ref ls) (.ref pts) (.int (0 : Int32)) (.int (-1 : Int32)) (.ref sv) (.ref pt) (.int (1 : Int32)) (.int (0 : Int32)) (.long (0 : Int64)) (.int (0 : Int32)) (.int (0 : Int32)) :: (pts, true, .inr (kp, (.object "com/example/lockstep/lockstep/core/ChoicePoint"), (16 : Int32), [(.ref cn1152), .null], .null)) :: o_CP cn1152 (.int (2 : Int32)) (.int (0 : Int32)) (.int (0 : Int32)) (.int (0 : Int32)) .null (.long (0 : Int64)) (.int (0 : Int32)) :: (e_, false, (o_Str e_ (.ref eb) (.int (0 : Int32))).2.2) :: o_LO lo  :: o_AL al (.int (1 : Int32)) (.int (2147483647 : Int32)) (.int (1 : Int32)) (.int (0 : Int32)) (.int (0 : Int32)) (.int bs) (.ref se) :: F) rfl
  show Run _ _ _ _ (State.setTop _ (mkF m 59 #[.val (.ref al), .val (.int (1 : Int32)), .val (.ref e_), .val (.ref lo)] [(.int (0 : Int32))]))
  refine p_if_n J1158 d55_59 (by decide) 62 rfl ?_
  refine p_aload_n J1158 d55_62 rfl rfl 63 rfl ?_
  refine p_dup J1158 d55_63 rfl 64 rfl ?_
  refine i_get J1158 d55_64 (mt (i := 396) rfl) Via.refl 5 0 rfl rfl 67 rfl fun T1159 J1160 => ?_
  refine p_iconst J1160 d55_67 (z := (1 : Int32)) rfl 68 rfl ?_
  refine p_iadd J1160 d55_68 (z := (2 : Int32)) (by decide) 69 rfl ?_
  refine i_put J1160 d55_69 (mt (i := 396) rfl) Via.refl 5 0 rfl rfl sd_AL (Or.inl (mt (i := 397) rfl)) (mt (i := 390) rfl) (ty := .int) (by decide) rfl rfl 72 rfl (o_SE se (.ref po) (.ref wb) (.ref ls) (.ref pts) (.int (0 : Int32)) (.int (-1 : Int32)) (.ref sv) (.ref pt) (.int (1 : Int32)) (.int (0 : Int32)) (.long (0 : Int64)) (.int (0 : Int32)) (.int (0 : Int32)) :: (pts, true, .inr (kp, (.object "com/example/lockstep/lockstep/core/ChoicePoint"), (16 : Int32), [(.ref cn1152), .null], .null)) :: o_CP cn1152 (.int (2 : Int32)) (.int (0 : Int32)) (.int (0 : Int32)) (.int (0 : Int32)) .null (.long (0 : Int64)) (.int (0 : Int32)) :: (e_, false, (o_Str e_ (.ref eb) (.int (0 : Int32))).2.2) :: o_LO lo  :: o_AL al (.int (2 : Int32)) (.int (2147483647 : Int32)) (.int (1 : Int32)) (.int (0 : Int32)) (.int (0 : Int32)) (.int bs) (.ref se) :: F) rfl fun T1161 J1162 => ?_
  refine p_aload_n J1162 d55_72 rfl rfl 73 rfl ?_
  refine p_aload_n J1162 d55_73 rfl rfl 74 rfl ?_
  refine i_get J1162 d55_74 (mt (i := 401) rfl) Via.refl 5 2 rfl rfl 77 rfl fun T1163 J1164 => ?_
  refine p_aload_n J1164 d55_77 rfl rfl 78 rfl ?_
  refine i_get J1164 d55_78 (mt (i := 396) rfl) Via.refl 5 0 rfl rfl 81 rfl fun T1165 J1166 => ?_
  refine i_static J1166 d55_81 (mt (i := 506) rfl) (mt (i := 507) rfl) (mt (i := 310) rfl) (mt (i := 508) rfl) (by decide) (lenOf pd_10 rfl) (c_max2 g  ) [] [0, 1, 2, 3, 4, 5] 6 (by decide) (lenLe F 6 rfl) rfl 1 (by decide) (by decide) (by decide) (by decide) rfl (by show (1 : Nat) ≤ _; decide) _ rfl 5 48 rfl rfl 84 rfl fun v1170 W1171 T1167 hQ1169 J1168 => ?_
  obtain ⟨rfl, rfl⟩ := hQ1169
  have J1172 := J1168.norm (W' := o_SE se (.ref po) (.ref wb) (.ref ls) (.ref pts) (.int (0 : Int32)) (.int (-1 : Int32)) (.ref sv) (.ref pt) (.int (1 : Int32)) (.int (0 : Int32)) (.long (0 : Int64)) (.int (0 : Int32)) (.int (0 : Int32)) :: (pts, true, .inr (kp, (.object "com/example/lockstep/lockstep/core/ChoicePoint"), (16 : Int32), [(.ref cn1152), .null], .null)) :: o_CP cn1152 (.int (2 : Int32)) (.int (0 : Int32)) (.int (0 : Int32)) (.int (0 : Int32)) .null (.long (0 : Int64)) (.int (0 : Int32)) :: (e_, false, (o_Str e_ (.ref eb) (.int (0 : Int32))).2.2) :: o_LO lo  :: o_AL al (.int (2 : Int32)) (.int (2147483647 : Int32)) (.int (1 : Int32)) (.int (0 : Int32)) (.int (0 : Int32)) (.int bs) (.ref se) :: F) rfl
  show Run _ _ _ _ (State.setTop _ (mkF m 84 #[.val (.ref al), .val (.int (1 : Int32)), .val (.ref e_), .val (.ref lo)] [(.int (2 : Int32)), (.ref al)]))
  refine i_put J1172 d55_84 (mt (i := 401) rfl) Via.refl 5 2 rfl rfl sd_AL (Or.inl (mt (i := 402) rfl)) (mt (i := 390) rfl) (ty := .int) (by decide) rfl rfl 87 rfl (o_SE se (.ref po) (.ref wb) (.ref ls) (.ref pts) (.int (0 : Int32)) (.int (-1 : Int32)) (.ref sv) (.ref pt) (.int (1 : Int32)) (.int (0 : Int32)) (.long (0 : Int64)) (.int (0 : Int32)) (.int (0 : Int32)) :: (pts, true, .inr (kp, (.object "com/example/lockstep/lockstep/core/ChoicePoint"), (16 : Int32), [(.ref cn1152), .null], .null)) :: o_CP cn1152 (.int (2 : Int32)) (.int (0 : Int32)) (.int (0 : Int32)) (.int (0 : Int32)) .null (.long (0 : Int64)) (.int (0 : Int32)) :: (e_, false, (o_Str e_ (.ref eb) (.int (0 : Int32))).2.2) :: o_LO lo  :: o_AL al (.int (2 : Int32)) (.int (2147483647 : Int32)) (.int (2 : Int32)) (.int (0 : Int32)) (.int (0 : Int32)) (.int bs) (.ref se) :: F) rfl fun T1173 J1174 => ?_
  refine p_goto J1174 d55_87 108 (by decide) (by decide) ?_
  refine p_iload_n J1174 d55_108 rfl 109 rfl ?_
  refine p_aload_n J1174 d55_109 rfl rfl 110 rfl ?_
  refine i_get J1174 d55_110 (mt (i := 396) rfl) Via.refl 5 0 rfl rfl 113 rfl fun T1175 J1176 => ?_
  refine p_icmp_n J1176 d55_113 (by decide) 116 rfl ?_
  refine p_iconst J1176 d55_116 (z := (1 : Int32)) rfl 117 rfl ?_
  refine p_goto J1176 d55_117 121 (by decide) (by decide) ?_
  have J1177 := J1176.weak [5, 0, 1, 2, 3, 4] 6 (by decide) (lenLe F 6 rfl) (W' := o_AL al (.int (2 : Int32)) (.int (2147483647 : Int32)) (.int (2 : Int32)) (.int (0 : Int32)) (.int (0 : Int32)) (.int bs) (.ref se) :: o_SE se (.ref po) (.ref wb) (.ref ls) (.ref pts) (.int (0 : Int32)) (.int (-1 : Int32)) (.ref sv) (.ref pt) (.int (1 : Int32)) (.int (0 : Int32)) (.long (0 : Int64)) (.int (0 : Int32)) (.int (0 : Int32)) :: (pts, true, .inr (kp, (.object "com/example/lockstep/lockstep/core/ChoicePoint"), (16 : Int32), [(.ref cn1152), .null], .null)) :: o_CP cn1152 (.int (2 : Int32)) (.int (0 : Int32)) (.int (0 : Int32)) (.int (0 : Int32)) .null (.long (0 : Int64)) (.int (0 : Int32)) :: (e_, false, (o_Str e_ (.ref eb) (.int (0 : Int32))).2.2) :: o_LO lo  :: F) rfl
  exact r_val J1177 d55_121 (t := .boolean) rfl rfl (Or.inl ⟨rfl, by simp, _, rfl⟩) (by decide) (by decide) (Wf := [o_AL al (.int (2 : Int32)) (.int (2147483647 : Int32)) (.int (2 : Int32)) (.int (0 : Int32)) (.int (0 : Int32)) (.int bs) (.ref se), o_SE se (.ref po) (.ref wb) (.ref ls) (.ref pts) (.int (0 : Int32)) (.int (-1 : Int32)) (.ref sv) (.ref pt) (.int (1 : Int32)) (.int (0 : Int32)) (.long (0 : Int64)) (.int (0 : Int32)) (.int (0 : Int32)), (pts, true, .inr (kp, (.object "com/example/lockstep/lockstep/core/ChoicePoint"), (16 : Int32), [(.ref cn1152), .null], .null)), o_CP cn1152 (.int (2 : Int32)) (.int (0 : Int32)) (.int (0 : Int32)) (.int (0 : Int32)) .null (.long (0 : Int64)) (.int (0 : Int32)), (e_, false, (o_Str e_ (.ref eb) (.int (0 : Int32))).2.2), o_LO lo ]) rfl ⟨cn1152, rfl, rfl⟩
theorem pn_u4ch1 : plainFor (⟨"com/example/lockstep/lockstep/core/Search", "chooseUnspecified", "(ILjava/util/function/Supplier;Ljava/lang/String;Lcom/example/lockstep/lockstep/core/value/SourceLocation;)I"⟩ : MethodName) = true := by first | exact plainFor_of_name (by first | (simp [plainName, overriddenIn]; done) | decide +kernel) | exact Jvm.Free.JP.mathPlain rfl (by decide +kernel) | decide +kernel
set_option maxRecDepth 65536 in
set_option maxHeartbeats 40000000 in
theorem c_u4ch1 {l : Launch} {Z : State} {a0 : Array Value} (g : GC Z a0 []) (se : Addr) (po : Addr) (wb : Addr) (ls : Addr) (pts : Addr) (kp : ClassId) (sv : Addr) (pt : Addr) (e_ : Addr) (lo : Addr) (eb : Addr) (c0 : Addr)  : Con l Z [] (⟨"com/example/lockstep/lockstep/core/Search", "chooseUnspecified", "(ILjava/util/function/Supplier;Ljava/lang/String;Lcom/example/lockstep/lockstep/core/value/SourceLocation;)I"⟩ : MethodName) prog_206_method_72_code 5 (some .int) { frames := 3, cells := 5, slots := 48, locals := 46 } [(.ref se), (.int (2 : Int32)), .null, (.ref e_), (.ref lo)] [o_SE se (.ref po) (.ref wb) (.ref ls) (.ref pts) (.int (0 : Int32)) (.int (-1 : Int32)) (.ref sv) (.ref pt) (.int (1 : Int32)) (.int (0 : Int32)) (.long (0 : Int64)) (.int (0 : Int32)) (.int (0 : Int32)), (pts, true, .inr (kp, (.object "com/example/lockstep/lockstep/core/ChoicePoint"), (16 : Int32), [(.ref c0), .null], .null)), (e_, false, (o_Str e_ (.ref eb) (.int (0 : Int32))).2.2), o_LO lo ] (fun v W' => ∃ (cn : Addr), v = some (.int (0 : Int32)) ∧ W' = [o_SE se (.ref po) (.ref wb) (.ref ls) (.ref pts) (.int (0 : Int32)) (.int (-1 : Int32)) (.ref sv) (.ref pt) (.int (2 : Int32)) (.int (0 : Int32)) (.long (0 : Int64)) (.int (0 : Int32)) (.int (0 : Int32)), (pts, true, .inr (kp, (.object "com/example/lockstep/lockstep/core/ChoicePoint"), (16 : Int32), [(.ref c0), (.ref cn)], .null)), o_CP cn (.int (2 : Int32)) (.int (0 : Int32)) (.int (0 : Int32)) (.int (0 : Int32)) .null (.long (0 : Int64)) (.int (0 : Int32)), (e_, false, (o_Str e_ (.ref eb) (.int (0 : Int32))).2.2), o_LO lo ]) := by
  refine Con.mk g pn_u4ch1 (Ls := #[.val (.ref se), .val (.int (2 : Int32)), .val .null, .val (.ref e_), .val (.ref lo)]) (fun m => by first | (simp [entryFrame, mkF, argsToLocals, Value.category]; done) | rfl) ?_
  intro p e s m below meth c T0 F J0
  refine p_aload_n J0 d53_0 rfl rfl 1 rfl ?_
  refine p_iload_n J0 d53_1 rfl 2 rfl ?_
  refine p_aload_n J0 d53_2 rfl rfl 3 rfl ?_
  refine p_iconst J0 d53_3 (z := (0 : Int32)) rfl 4 rfl ?_
  refine p_aload_n J0 d53_4 rfl rfl 5 rfl ?_
  refine i_ldcW J0 d53_5 (mt (i := 447) rfl) 20 (by decide) (by decide) (by decide) (by decide) 2 24 rfl rfl 8 rfl fun a1178 T1179 J1180 => ?_
  refine i_static J1180 d53_8 (mt (i := 448) rfl) (mt (i := 368) rfl) (mt (i := 369) rfl) (mt (i := 370) rfl) (by decide) (lenOf pd_16 rfl) (c_rnn g e_ a1178 ) [] [0, 1, 2, 3] 4 (by decide) (lenLe F 4 rfl) rfl 4 (by decide) (by decide) (by decide) (by decide) rfl (by show (4 : Nat) ≤ _; decide) _ rfl 2 24 rfl rfl 11 rfl fun v1184 W1185 T1181 hQ1183 J1182 => ?_
  obtain ⟨rfl, rfl⟩ := hQ1183
  have J1186 := J1182.norm (W' := o_SE se (.ref po) (.ref wb) (.ref ls) (.ref pts) (.int (0 : Int32)) (.int (-1 : Int32)) (.ref sv) (.ref pt) (.int (1 : Int32)) (.int (0 : Int32)) (.long (0 : Int64)) (.int (0 : Int32)) (.int (0 : Int32)) :: (pts, true, .inr (kp, (.object "com/example/lockstep/lockstep/core/ChoicePoint"), (16 : Int32), [(.ref c0), .null], .null)) :: (e_, false, (o_Str e_ (.ref eb) (.int (0 : Int32))).2.2) :: o_LO lo  :: F) rfl
  show Run _ _ _ _ (State.setTop _ (mkF m 11 #[.val (.ref se), .val (.int (2 : Int32)), .val .null, .val (.ref e_), .val (.ref lo)] [(.ref e_), (.int (0 : Int32)), .null, (.int (2 : Int32)), (.ref se)]))
  refine i_cast J1186 d53_11 (mt (i := 449) rfl) (mt (i := 372) rfl) 2 rfl 14 rfl fun T1187 J1188 => ?_
  refine p_aload J1188 d53_14 rfl rfl 16 rfl ?_
  refine i_ldcW J1188 d53_16 (mt (i := 450) rfl) 8 (by decide) (by decide) (by decide) (by decide) 4 36 rfl rfl 19 rfl fun a1189 T1190 J1191 => ?_
  refine i_static J1191 d53_19 (mt (i := 448) rfl) (mt (i := 368) rfl) (mt (i := 369) rfl) (mt (i := 370) rfl) (by decide) (lenOf pd_16 rfl) (c_rnn g lo a1189 ) [] [0, 1, 2, 3] 4 (by decide) (lenLe F 4 rfl) rfl 5 (by decide) (by decide) (by decide) (by decide) rfl (by show (5 : Nat) ≤ _; decide) _ rfl 4 36 rfl rfl 22 rfl fun v1195 W1196 T1192 hQ1194 J1193 => ?_
  obtain ⟨rfl, rfl⟩ := hQ1194
  have J1197 := J1193.norm (W' := o_SE se (.ref po) (.ref wb) (.ref ls) (.ref pts) (.int (0 : Int32)) (.int (-1 : Int32)) (.ref sv) (.ref pt) (.int (1 : Int32)) (.int (0 : Int32)) (.long (0 : Int64)) (.int (0 : Int32)) (.int (0 : Int32)) :: (pts, true, .inr (kp, (.object "com/example/lockstep/lockstep/core/ChoicePoint"), (16 : Int32), [(.ref c0), .null], .null)) :: (e_, false, (o_Str e_ (.ref eb) (.int (0 : Int32))).2.2) :: o_LO lo  :: F) rfl
  show Run _ _ _ _ (State.setTop _ (mkF m 22 #[.val (.ref se), .val (.int (2 : Int32)), .val .null, .val (.ref e_), .val (.ref lo)] [(.ref lo), (.ref e_), (.int (0 : Int32)), .null, (.int (2 : Int32)), (.ref se)]))
  refine i_cast J1197 d53_22 (mt (i := 451) rfl) (mt (i := 452) rfl) 3 rfl 25 rfl fun T1198 J1199 => ?_
  refine i_private J1199 d53_25 (mt (i := 453) rfl) (mt (i := 455) rfl) (mt (i := 2) rfl) (mt (i := 454) rfl) (mt (i := 3) rfl) (mt (i := 456) rfl) (by decide) (lenOf pd_20 rfl) 0 rfl (c_ch1 g se po wb ls pts kp sv pt e_ lo c0 ) [0, 1] [2, 3] 4 (by decide) (lenLe F 4 rfl) rfl 0 (by decide) (by decide) (by decide) (by decide) rfl (by show (0 : Nat) ≤ _; decide) _ rfl 5 48 rfl rfl 28 rfl fun v1204 W1205 T1201 hQ1203 J1202 => ?_
  obtain ⟨cn1200, rfl, rfl⟩ := hQ1203
  have J1206 := J1202.norm (W' := o_SE se (.ref po) (.ref wb) (.ref ls) (.ref pts) (.int (0 : Int32)) (.int (-1 : Int32)) (.ref sv) (.ref pt) (.int (2 : Int32)) (.int (0 : Int32)) (.long (0 : Int64)) (.int (0 : Int32)) (.int (0 : Int32)) :: (pts, true, .inr (kp, (.object "com/example/lockstep/lockstep/core/ChoicePoint"), (16 : Int32), [(.ref c0), (.ref cn1200)], .null)) :: o_CP cn1200 (.int (2 : Int32)) (.int (0 : Int32)) (.int (0 : Int32)) (.int (0 : Int32)) .null (.long (0 : Int64)) (.int (0 : Int32)) :: (e_, false, (o_Str e_ (.ref eb) (.int (0 : Int32))).2.2) :: o_LO lo  :: F) rfl
  show Run _ _ _ _ (State.setTop _ (mkF m 28 #[.val (.ref se), .val (.int (2 : Int32)), .val .null, .val (.ref e_), .val (.ref lo)] [(.int (0 : Int32))]))
  exact r_val J1206 d53_28 (t := .int) rfl rfl (Or.inl ⟨rfl, by simp, _, rfl⟩) (by decide) (by decide) (Wf := [o_SE se (.ref po) (.ref wb) (.ref ls) (.ref pts) (.int (0 : Int32)) (.int (-1 : Int32)) (.ref sv) (.ref pt) (.int (2 : Int32)) (.int (0 : Int32)) (.long (0 : Int64)) (.int (0 : Int32)) (.int (0 : Int32)), (pts, true, .inr (kp, (.object "com/example/lockstep/lockstep/core/ChoicePoint"), (16 : Int32), [(.ref c0), (.ref cn1200)], .null)), o_CP cn1200 (.int (2 : Int32)) (.int (0 : Int32)) (.int (0 : Int32)) (.int (0 : Int32)) .null (.long (0 : Int64)) (.int (0 : Int32)), (e_, false, (o_Str e_ (.ref eb) (.int (0 : Int32))).2.2), o_LO lo ]) rfl ⟨cn1200, rfl, rfl⟩
theorem pn_u3ch1 : plainFor (⟨"com/example/lockstep/lockstep/core/Search", "chooseUnspecified", "(ILjava/lang/String;Lcom/example/lockstep/lockstep/core/value/SourceLocation;)I"⟩ : MethodName) = true := by first | exact plainFor_of_name (by first | (simp [plainName, overriddenIn]; done) | decide +kernel) | exact Jvm.Free.JP.mathPlain rfl (by decide +kernel) | decide +kernel
set_option maxRecDepth 65536 in
set_option maxHeartbeats 40000000 in
theorem c_u3ch1 {l : Launch} {Z : State} {a0 : Array Value} (g : GC Z a0 []) (se : Addr) (po : Addr) (wb : Addr) (ls : Addr) (pts : Addr) (kp : ClassId) (sv : Addr) (pt : Addr) (e_ : Addr) (lo : Addr) (eb : Addr) (c0 : Addr)  : Con l Z [] (⟨"com/example/lockstep/lockstep/core/Search", "chooseUnspecified", "(ILjava/lang/String;Lcom/example/lockstep/lockstep/core/value/SourceLocation;)I"⟩ : MethodName) prog_206_method_71_code 4 (some .int) { frames := 4, cells := 5, slots := 48, locals := 62 } [(.ref se), (.int (2 : Int32)), (.ref e_), (.ref lo)] [o_SE se (.ref po) (.ref wb) (.ref ls) (.ref pts) (.int (0 : Int32)) (.int (-1 : Int32)) (.ref sv) (.ref pt) (.int (1 : Int32)) (.int (0 : Int32)) (.long (0 : Int64)) (.int (0 : Int32)) (.int (0 : Int32)), (pts, true, .inr (kp, (.object "com/example/lockstep/lockstep/core/ChoicePoint"), (16 : Int32), [(.ref c0), .null], .null)), (e_, false, (o_Str e_ (.ref eb) (.int (0 : Int32))).2.2), o_LO lo ] (fun v W' => ∃ (cn : Addr), v = some (.int (0 : Int32)) ∧ W' = [o_SE se (.ref po) (.ref wb) (.ref ls) (.ref pts) (.int (0 : Int32)) (.int (-1 : Int32)) (.ref sv) (.ref pt) (.int (2 : Int32)) (.int (0 : Int32)) (.long (0 : Int64)) (.int (0 : Int32)) (.int (0 : Int32)), (pts, true, .inr (kp, (.object "com/example/lockstep/lockstep/core/ChoicePoint"), (16 : Int32), [(.ref c0), (.ref cn)], .null)), o_CP cn (.int (2 : Int32)) (.int (0 : Int32)) (.int (0 : Int32)) (.int (0 : Int32)) .null (.long (0 : Int64)) (.int (0 : Int32)), (e_, false, (o_Str e_ (.ref eb) (.int (0 : Int32))).2.2), o_LO lo ]) := by
  refine Con.mk g pn_u3ch1 (Ls := #[.val (.ref se), .val (.int (2 : Int32)), .val (.ref e_), .val (.ref lo)]) (fun m => by first | (simp [entryFrame, mkF, argsToLocals, Value.category]; done) | rfl) ?_
  intro p e s m below meth c T0 F J0
  refine p_aload_n J0 d54_0 rfl rfl 1 rfl ?_
  refine p_iload_n J0 d54_1 rfl 2 rfl ?_
  refine p_aconst_null J0 d54_2 3 rfl ?_
  refine p_aload_n J0 d54_3 rfl rfl 4 rfl ?_
  refine p_aload_n J0 d54_4 rfl rfl 5 rfl ?_
  refine i_virtual J0 d54_5 (mt (i := 442) rfl) (mt (i := 443) rfl) (nfSel (mt (i := 445) rfl)) (mt (i := 445) rfl) (mt (i := 444) rfl) (mt (i := 3) rfl) (mt (i := 446) rfl) (by decide) (lenOf pd_21 rfl) 0 rfl (c_u4ch1 g se po wb ls pts kp sv pt e_ lo eb c0 ) [0, 1, 2, 3] [] 4 (by decide) (lenLe F 4 rfl) rfl 0 (by decide) (by decide) (by decide) (by decide) rfl (by show (0 : Nat) ≤ _; decide) _ rfl 5 48 rfl rfl 8 rfl fun v1211 W1212 T1208 hQ1210 J1209 => ?_
  obtain ⟨cn1207, rfl, rfl⟩ := hQ1210
  have J1213 := J1209.norm (W' := o_SE se (.ref po) (.ref wb) (.ref ls) (.ref pts) (.int (0 : Int32)) (.int (-1 : Int32)) (.ref sv) (.ref pt) (.int (2 : Int32)) (.int (0 : Int32)) (.long (0 : Int64)) (.int (0 : Int32)) (.int (0 : Int32)) :: (pts, true, .inr (kp, (.object "com/example/lockstep/lockstep/core/ChoicePoint"), (16 : Int32), [(.ref c0), (.ref cn1207)], .null)) :: o_CP cn1207 (.int (2 : Int32)) (.int (0 : Int32)) (.int (0 : Int32)) (.int (0 : Int32)) .null (.long (0 : Int64)) (.int (0 : Int32)) :: (e_, false, (o_Str e_ (.ref eb) (.int (0 : Int32))).2.2) :: o_LO lo  :: F) rfl
  show Run _ _ _ _ (State.setTop _ (mkF m 8 #[.val (.ref se), .val (.int (2 : Int32)), .val (.ref e_), .val (.ref lo)] [(.int (0 : Int32))]))
  exact r_val J1213 d54_8 (t := .int) rfl rfl (Or.inl ⟨rfl, by simp, _, rfl⟩) (by decide) (by decide) (Wf := [o_SE se (.ref po) (.ref wb) (.ref ls) (.ref pts) (.int (0 : Int32)) (.int (-1 : Int32)) (.ref sv) (.ref pt) (.int (2 : Int32)) (.int (0 : Int32)) (.long (0 : Int64)) (.int (0 : Int32)) (.int (0 : Int32)), (pts, true, .inr (kp, (.object "com/example/lockstep/lockstep/core/ChoicePoint"), (16 : Int32), [(.ref c0), (.ref cn1207)], .null)), o_CP cn1207 (.int (2 : Int32)) (.int (0 : Int32)) (.int (0 : Int32)) (.int (0 : Int32)) .null (.long (0 : Int64)) (.int (0 : Int32)), (e_, false, (o_Str e_ (.ref eb) (.int (0 : Int32))).2.2), o_LO lo ]) rfl ⟨cn1207, rfl, rfl⟩
theorem pn_exch1 : plainFor (⟨"com/example/lockstep/lockstep/core/ActiveLevels", "exceeds", "(ILjava/lang/String;Lcom/example/lockstep/lockstep/core/value/SourceLocation;)Z"⟩ : MethodName) = true := by first | exact plainFor_of_name (by first | (simp [plainName, overriddenIn]; done) | decide +kernel) | exact Jvm.Free.JP.mathPlain rfl (by decide +kernel) | decide +kernel
set_option maxRecDepth 65536 in
set_option maxHeartbeats 40000000 in
theorem c_exch1 {l : Launch} {Z : State} {a0 : Array Value} (g : GC Z a0 []) (al : Addr) (bs : Int32) (se : Addr) (po : Addr) (wb : Addr) (ls : Addr) (pts : Addr) (kp : ClassId) (sv : Addr) (pt : Addr) (e_ : Addr) (lo : Addr) (eb : Addr) (c0 : Addr)  : Con l Z [] (⟨"com/example/lockstep/lockstep/core/ActiveLevels", "exceeds", "(ILjava/lang/String;Lcom/example/lockstep/lockstep/core/value/SourceLocation;)Z"⟩ : MethodName) prog_39_method_5_code 4 (some .boolean) { frames := 5, cells := 5, slots := 48, locals := 77 } [(.ref al), (.int (2 : Int32)), (.ref e_), (.ref lo)] [o_AL al (.int (2 : Int32)) (.int (2147483647 : Int32)) (.int (2 : Int32)) (.int (0 : Int32)) (.int (0 : Int32)) (.int bs) (.ref se), o_SE se (.ref po) (.ref wb) (.ref ls) (.ref pts) (.int (0 : Int32)) (.int (-1 : Int32)) (.ref sv) (.ref pt) (.int (1 : Int32)) (.int (0 : Int32)) (.long (0 : Int64)) (.int (0 : Int32)) (.int (0 : Int32)), (pts, true, .inr (kp, (.object "com/example/lockstep/lockstep/core/ChoicePoint"), (16 : Int32), [(.ref c0), .null], .null)), (e_, false, (o_Str e_ (.ref eb) (.int (0 : Int32))).2.2), o_LO lo ] (fun v W' => ∃ (cn : Addr), v = some (.int (1 : Int32)) ∧ W' = [o_AL al (.int (3 : Int32)) (.int (2147483647 : Int32)) (.int (3 : Int32)) (.int (0 : Int32)) (.int (0 : Int32)) (.int bs) (.ref se), o_SE se (.ref po) (.ref wb) (.ref ls) (.ref pts) (.int (0 : Int32)) (.int (-1 : Int32)) (.ref sv) (.ref pt) (.int (2 : Int32)) (.int (0 : Int32)) (.long (0 : Int64)) (.int (0 : Int32)) (.int (0 : Int32)), (pts, true, .inr (kp, (.object "com/example/lockstep/lockstep/core/ChoicePoint"), (16 : Int32), [(.ref c0), (.ref cn)], .null)), o_CP cn (.int (2 : Int32)) (.int (0 : Int32)) (.int (0 : Int32)) (.int (0 : Int32)) .null (.long (0 : Int64)) (.int (0 : Int32)), (e_, false, (o_Str e_ (.ref eb) (.int (0 : Int32))).2.2), o_LO lo ]) := by
  refine Con.mk g pn_exch1 (Ls := #[.val (.ref al), .val (.int (2 : Int32)), .val (.ref e_), .val (.ref lo)]) (fun m => by first | (simp [entryFrame, mkF, argsToLocals, Value.category]; done) | rfl) ?_
  intro p e s m below meth c T0 F J0
  refine p_iload_n J0 d55_0 rfl 1 rfl ?_
  refine p_aload_n J0 d55_1 rfl rfl 2 rfl ?_
  refine i_get J0 d55_2 (mt (i := 396) rfl) Via.refl 0 0 rfl rfl 5 rfl fun T1214 J1215 => ?_
  refine p_icmp_n J1215 d55_5 (by decide) 8 rfl ?_
  refine p_aload_n J1215 d55_8 rfl rfl 9 rfl ?_
  refine i_get J1215 d55_9 (mt (i := 410) rfl) Via.refl 0 3 rfl rfl 12 rfl fun T1216 J1217 => ?_
  refine p_if_n J1217 d55_12 (by decide) 15 rfl ?_
  refine p_aload_n J1217 d55_15 rfl rfl 16 rfl ?_
  refine i_get J1217 d55_16 (mt (i := 396) rfl) Via.refl 0 0 rfl rfl 19 rfl fun T1218 J1219 => ?_
  refine p_aload_n J1219 d55_19 rfl rfl 20 rfl ?_
  refine i_get J1219 d55_20 (mt (i := 399) rfl) Via.refl 0 1 rfl rfl 23 rfl fun T1220 J1221 => ?_
  refine p_icmp_y J1221 d55_23 (by decide) 34 (by decide) (by decide) ?_
  refine p_iload_n J1221 d55_34 rfl 35 rfl ?_
  refine p_aload_n J1221 d55_35 rfl rfl 36 rfl ?_
  refine i_get J1221 d55_36 (mt (i := 396) rfl) Via.refl 0 0 rfl rfl 39 rfl fun T1222 J1223 => ?_
  refine p_icmp_n J1223 d55_39 (by decide) 42 rfl ?_
  refine p_aload_n J1223 d55_42 rfl rfl 43 rfl ?_
  refine i_get J1223 d55_43 (mt (i := 410) rfl) Via.refl 0 3 rfl rfl 46 rfl fun T1224 J1225 => ?_
  refine p_if_n J1225 d55_46 (by decide) 49 rfl ?_
  refine p_aload_n J1225 d55_49 rfl rfl 50 rfl ?_
  refine i_get J1225 d55_50 (mt (i := 403) rfl) Via.refl 0 6 rfl rfl 53 rfl fun T1226 J1227 => ?_
  refine p_iconst J1227 d55_53 (z := (2 : Int32)) rfl 54 rfl ?_
  refine p_aload_n J1227 d55_54 rfl rfl 55 rfl ?_
  refine p_aload_n J1227 d55_55 rfl rfl 56 rfl ?_
  refine i_virtual J1227 d55_56 (mt (i := 437) rfl) (mt (i := 438) rfl) (nfSel (mt (i := 440) rfl)) (mt (i := 440) rfl) (mt (i := 439) rfl) (mt (i := 3) rfl) (mt (i := 441) rfl) (by decide) (lenOf pd_22 rfl) 1 rfl (c_u3ch1 g se po wb ls pts kp sv pt e_ lo eb c0 ) [1, 2, 3, 4] [0] 5 (by decide) (lenLe F 5 rfl) rfl 0 (by decide) (by decide) (by decide) (by decide) rfl (by show (0 : Nat) ≤ _; decide) _ rfl 5 48 rfl rfl 59 rfl fun v1232 W1233 T1229 hQ1231 J1230 => ?_
  obtain ⟨cn1228, rfl, rfl⟩ := hQ1231
  have J1234 := J1230.norm (W' := o_SE se (.ref po) (.ref wb) (.ref ls) (.ref pts) (.int (0 : Int32)) (.int (-1 : Int32)) (.ref sv) (.ref pt) (.int (2 : Int32)) (.int (0 : Int32)) (.long (0 : Int64)) (.int (0 : Int32)) (.int (0 : Int32)) :: (pts, true, .inr (kp, (.object "com/example/lockstep/lockstep/core/ChoicePoint"), (16 : Int32), [(.ref c0), (.ref cn1228)], .null)) :: o_CP cn1228 (.int (2 : Int32)) (.int (0 : Int32)) (.int (0 : Int32)) (.int (0 : Int32)) .null (.long (0 : Int64)) (.int (0 : Int32)) :: (e_, false, (o_Str e_ (.ref eb) (.int (0 : Int32))).2.2) :: o_LO lo  :: o_AL al (.int (2 : Int32)) (.int (2147483647 : Int32)) (.int (2 : Int32)) (.int (0 : Int32)) (.int (0 : Int32)) (.int bs) (.ref se) :: F) rfl
  show Run _ _ _ _ (State.setTop _ (mkF m 59 #[.val (.ref al), .val (.int (2 : Int32)), .val (.ref e_), .val (.ref lo)] [(.int (0 : Int32))]))
  refine p_if_n J1234 d55_59 (by decide) 62 rfl ?_
  refine p_aload_n J1234 d55_62 rfl rfl 63 rfl ?_
  refine p_dup J1234 d55_63 rfl 64 rfl ?_
  refine i_get J1234 d55_64 (mt (i := 396) rfl) Via.refl 5 0 rfl rfl 67 rfl fun T1235 J1236 => ?_
  refine p_iconst J1236 d55_67 (z := (1 : Int32)) rfl 68 rfl ?_
  refine p_iadd J1236 d55_68 (z := (3 : Int32)) (by decide) 69 rfl ?_
  refine i_put J1236 d55_69 (mt (i := 396) rfl) Via.refl 5 0 rfl rfl sd_AL (Or.inl (mt (i := 397) rfl)) (mt (i := 390) rfl) (ty := .int) (by decide) rfl rfl 72 rfl (o_SE se (.ref po) (.ref wb) (.ref ls) (.ref pts) (.int (0 : Int32)) (.int (-1 : Int32)) (.ref sv) (.ref pt) (.int (2 : Int32)) (.int (0 : Int32)) (.long (0 : Int64)) (.int (0 : Int32)) (.int (0 : Int32)) :: (pts, true, .inr (kp, (.object "com/example/lockstep/lockstep/core/ChoicePoint"), (16 : Int32), [(.ref c0), (.ref cn1228)], .null)) :: o_CP cn1228 (.int (2 : Int32)) (.int (0 : Int32)) (.int (0 : Int32)) (.int (0 : Int32)) .null (.long (0 : Int64)) (.int (0 : Int32)) :: (e_, false, (o_Str e_ (.ref eb) (.int (0 : Int32))).2.2) :: o_LO lo  :: o_AL al (.int (3 : Int32)) (.int (2147483647 : Int32)) (.int (2 : Int32)) (.int (0 : Int32)) (.int (0 : Int32)) (.int bs) (.ref se) :: F) rfl fun T1237 J1238 => ?_
  refine p_aload_n J1238 d55_72 rfl rfl 73 rfl ?_
  refine p_aload_n J1238 d55_73 rfl rfl 74 rfl ?_
  refine i_get J1238 d55_74 (mt (i := 401) rfl) Via.refl 5 2 rfl rfl 77 rfl fun T1239 J1240 => ?_
  refine p_aload_n J1240 d55_77 rfl rfl 78 rfl ?_
  refine i_get J1240 d55_78 (mt (i := 396) rfl) Via.refl 5 0 rfl rfl 81 rfl fun T1241 J1242 => ?_
  refine i_static J1242 d55_81 (mt (i := 506) rfl) (mt (i := 507) rfl) (mt (i := 310) rfl) (mt (i := 508) rfl) (by decide) (lenOf pd_10 rfl) (c_max3 g  ) [] [0, 1, 2, 3, 4, 5] 6 (by decide) (lenLe F 6 rfl) rfl 1 (by decide) (by decide) (by decide) (by decide) rfl (by show (1 : Nat) ≤ _; decide) _ rfl 5 48 rfl rfl 84 rfl fun v1246 W1247 T1243 hQ1245 J1244 => ?_
  obtain ⟨rfl, rfl⟩ := hQ1245
  have J1248 := J1244.norm (W' := o_SE se (.ref po) (.ref wb) (.ref ls) (.ref pts) (.int (0 : Int32)) (.int (-1 : Int32)) (.ref sv) (.ref pt) (.int (2 : Int32)) (.int (0 : Int32)) (.long (0 : Int64)) (.int (0 : Int32)) (.int (0 : Int32)) :: (pts, true, .inr (kp, (.object "com/example/lockstep/lockstep/core/ChoicePoint"), (16 : Int32), [(.ref c0), (.ref cn1228)], .null)) :: o_CP cn1228 (.int (2 : Int32)) (.int (0 : Int32)) (.int (0 : Int32)) (.int (0 : Int32)) .null (.long (0 : Int64)) (.int (0 : Int32)) :: (e_, false, (o_Str e_ (.ref eb) (.int (0 : Int32))).2.2) :: o_LO lo  :: o_AL al (.int (3 : Int32)) (.int (2147483647 : Int32)) (.int (2 : Int32)) (.int (0 : Int32)) (.int (0 : Int32)) (.int bs) (.ref se) :: F) rfl
  show Run _ _ _ _ (State.setTop _ (mkF m 84 #[.val (.ref al), .val (.int (2 : Int32)), .val (.ref e_), .val (.ref lo)] [(.int (3 : Int32)), (.ref al)]))
  refine i_put J1248 d55_84 (mt (i := 401) rfl) Via.refl 5 2 rfl rfl sd_AL (Or.inl (mt (i := 402) rfl)) (mt (i := 390) rfl) (ty := .int) (by decide) rfl rfl 87 rfl (o_SE se (.ref po) (.ref wb) (.ref ls) (.ref pts) (.int (0 : Int32)) (.int (-1 : Int32)) (.ref sv) (.ref pt) (.int (2 : Int32)) (.int (0 : Int32)) (.long (0 : Int64)) (.int (0 : Int32)) (.int (0 : Int32)) :: (pts, true, .inr (kp, (.object "com/example/lockstep/lockstep/core/ChoicePoint"), (16 : Int32), [(.ref c0), (.ref cn1228)], .null)) :: o_CP cn1228 (.int (2 : Int32)) (.int (0 : Int32)) (.int (0 : Int32)) (.int (0 : Int32)) .null (.long (0 : Int64)) (.int (0 : Int32)) :: (e_, false, (o_Str e_ (.ref eb) (.int (0 : Int32))).2.2) :: o_LO lo  :: o_AL al (.int (3 : Int32)) (.int (2147483647 : Int32)) (.int (3 : Int32)) (.int (0 : Int32)) (.int (0 : Int32)) (.int bs) (.ref se) :: F) rfl fun T1249 J1250 => ?_
  refine p_goto J1250 d55_87 108 (by decide) (by decide) ?_
  refine p_iload_n J1250 d55_108 rfl 109 rfl ?_
  refine p_aload_n J1250 d55_109 rfl rfl 110 rfl ?_
  refine i_get J1250 d55_110 (mt (i := 396) rfl) Via.refl 5 0 rfl rfl 113 rfl fun T1251 J1252 => ?_
  refine p_icmp_n J1252 d55_113 (by decide) 116 rfl ?_
  refine p_iconst J1252 d55_116 (z := (1 : Int32)) rfl 117 rfl ?_
  refine p_goto J1252 d55_117 121 (by decide) (by decide) ?_
  have J1253 := J1252.weak [5, 0, 1, 2, 3, 4] 6 (by decide) (lenLe F 6 rfl) (W' := o_AL al (.int (3 : Int32)) (.int (2147483647 : Int32)) (.int (3 : Int32)) (.int (0 : Int32)) (.int (0 : Int32)) (.int bs) (.ref se) :: o_SE se (.ref po) (.ref wb) (.ref ls) (.ref pts) (.int (0 : Int32)) (.int (-1 : Int32)) (.ref sv) (.ref pt) (.int (2 : Int32)) (.int (0 : Int32)) (.long (0 : Int64)) (.int (0 : Int32)) (.int (0 : Int32)) :: (pts, true, .inr (kp, (.object "com/example/lockstep/lockstep/core/ChoicePoint"), (16 : Int32), [(.ref c0), (.ref cn1228)], .null)) :: o_CP cn1228 (.int (2 : Int32)) (.int (0 : Int32)) (.int (0 : Int32)) (.int (0 : Int32)) .null (.long (0 : Int64)) (.int (0 : Int32)) :: (e_, false, (o_Str e_ (.ref eb) (.int (0 : Int32))).2.2) :: o_LO lo  :: F) rfl
  exact r_val J1253 d55_121 (t := .boolean) rfl rfl (Or.inl ⟨rfl, by simp, _, rfl⟩) (by decide) (by decide) (Wf := [o_AL al (.int (3 : Int32)) (.int (2147483647 : Int32)) (.int (3 : Int32)) (.int (0 : Int32)) (.int (0 : Int32)) (.int bs) (.ref se), o_SE se (.ref po) (.ref wb) (.ref ls) (.ref pts) (.int (0 : Int32)) (.int (-1 : Int32)) (.ref sv) (.ref pt) (.int (2 : Int32)) (.int (0 : Int32)) (.long (0 : Int64)) (.int (0 : Int32)) (.int (0 : Int32)), (pts, true, .inr (kp, (.object "com/example/lockstep/lockstep/core/ChoicePoint"), (16 : Int32), [(.ref c0), (.ref cn1228)], .null)), o_CP cn1228 (.int (2 : Int32)) (.int (0 : Int32)) (.int (0 : Int32)) (.int (0 : Int32)) .null (.long (0 : Int64)) (.int (0 : Int32)), (e_, false, (o_Str e_ (.ref eb) (.int (0 : Int32))).2.2), o_LO lo ]) rfl ⟨cn1228, rfl, rfl⟩
theorem pn_u4ch1r : plainFor (⟨"com/example/lockstep/lockstep/core/Search", "chooseUnspecified", "(ILjava/util/function/Supplier;Ljava/lang/String;Lcom/example/lockstep/lockstep/core/value/SourceLocation;)I"⟩ : MethodName) = true := by first | exact plainFor_of_name (by first | (simp [plainName, overriddenIn]; done) | decide +kernel) | exact Jvm.Free.JP.mathPlain rfl (by decide +kernel) | decide +kernel
set_option maxRecDepth 65536 in
set_option maxHeartbeats 40000000 in
theorem c_u4ch1r {l : Launch} {Z : State} {a0 : Array Value} (g : GC Z a0 []) (se : Addr) (po : Addr) (wb : Addr) (ls : Addr) (pts : Addr) (kp : ClassId) (sv : Addr) (pt : Addr) (e_ : Addr) (lo : Addr) (eb : Addr) (c0 : Addr)  : Con l Z [] (⟨"com/example/lockstep/lockstep/core/Search", "chooseUnspecified", "(ILjava/util/function/Supplier;Ljava/lang/String;Lcom/example/lockstep/lockstep/core/value/SourceLocation;)I"⟩ : MethodName) prog_206_method_72_code 5 (some .int) { frames := 3, cells := 5, slots := 48, locals := 46 } [(.ref se), (.int (2 : Int32)), .null, (.ref e_), (.ref lo)] [o_SE se (.ref po) (.ref wb) (.ref ls) (.ref pts) (.int (0 : Int32)) (.int (-1 : Int32)) (.ref sv) (.ref pt) (.int (1 : Int32)) (.int (1 : Int32)) (.long (0 : Int64)) (.int (0 : Int32)) (.int (0 : Int32)), (pts, true, .inr (kp, (.object "com/example/lockstep/lockstep/core/ChoicePoint"), (16 : Int32), [(.ref c0), .null], .null)), (e_, false, (o_Str e_ (.ref eb) (.int (0 : Int32))).2.2), o_LO lo ] (fun v W' => ∃ (cn : Addr), v = some (.int (0 : Int32)) ∧ W' = [o_SE se (.ref po) (.ref wb) (.ref ls) (.ref pts) (.int (0 : Int32)) (.int (-1 : Int32)) (.ref sv) (.ref pt) (.int (2 : Int32)) (.int (1 : Int32)) (.long (0 : Int64)) (.int (0 : Int32)) (.int (0 : Int32)), (pts, true, .inr (kp, (.object "com/example/lockstep/lockstep/core/ChoicePoint"), (16 : Int32), [(.ref c0), (.ref cn)], .null)), o_CP cn (.int (2 : Int32)) (.int (0 : Int32)) (.int (0 : Int32)) (.int (0 : Int32)) .null (.long (0 : Int64)) (.int (0 : Int32)), (e_, false, (o_Str e_ (.ref eb) (.int (0 : Int32))).2.2), o_LO lo ]) := by
  refine Con.mk g pn_u4ch1r (Ls := #[.val (.ref se), .val (.int (2 : Int32)), .val .null, .val (.ref e_), .val (.ref lo)]) (fun m => by first | (simp [entryFrame, mkF, argsToLocals, Value.category]; done) | rfl) ?_
  intro p e s m below meth c T0 F J0
  refine p_aload_n J0 d53_0 rfl rfl 1 rfl ?_
  refine p_iload_n J0 d53_1 rfl 2 rfl ?_
  refine p_aload_n J0 d53_2 rfl rfl 3 rfl ?_
  refine p_iconst J0 d53_3 (z := (0 : Int32)) rfl 4 rfl ?_
  refine p_aload_n J0 d53_4 rfl rfl 5 rfl ?_
  refine i_ldcW J0 d53_5 (mt (i := 447) rfl) 20 (by decide) (by decide) (by decide) (by decide) 2 24 rfl rfl 8 rfl fun a1254 T1255 J1256 => ?_
  refine i_static J1256 d53_8 (mt (i := 448) rfl) (mt (i := 368) rfl) (mt (i := 369) rfl) (mt (i := 370) rfl) (by decide) (lenOf pd_16 rfl) (c_rnn g e_ a1254 ) [] [0, 1, 2, 3] 4 (by decide) (lenLe F 4 rfl) rfl 4 (by decide) (by decide) (by decide) (by decide) rfl (by show (4 : Nat) ≤ _; decide) _ rfl 2 24 rfl rfl 11 rfl fun v1260 W1261 T1257 hQ1259 J1258 => ?_
  obtain ⟨rfl, rfl⟩ := hQ1259
  have J1262 := J1258.norm (W' := o_SE se (.ref po) (.ref wb) (.ref ls) (.ref pts) (.int (0 : Int32)) (.int (-1 : Int32)) (.ref sv) (.ref pt) (.int (1 : Int32)) (.int (1 : Int32)) (.long (0 : Int64)) (.int (0 : Int32)) (.int (0 : Int32)) :: (pts, true, .inr (kp, (.object "com/example/lockstep/lockstep/core/ChoicePoint"), (16 : Int32), [(.ref c0), .null], .null)) :: (e_, false, (o_Str e_ (.ref eb) (.int (0 : Int32))).2.2) :: o_LO lo  :: F) rfl
  show Run _ _ _ _ (State.setTop _ (mkF m 11 #[.val (.ref se), .val (.int (2 : Int32)), .val .null, .val (.ref e_), .val (.ref lo)] [(.ref e_), (.int (0 : Int32)), .null, (.int (2 : Int32)), (.ref se)]))
  refine i_cast J1262 d53_11 (mt (i := 449) rfl) (mt (i := 372) rfl) 2 rfl 14 rfl fun T1263 J1264 => ?_
  refine p_aload J1264 d53_14 rfl rfl 16 rfl ?_
  refine i_ldcW J1264 d53_16 (mt (i := 450) rfl) 8 (by decide) (by decide) (by decide) (by decide) 4 36 rfl rfl 19 rfl fun a1265 T1266 J1267 => ?_
  refine i_static J1267 d53_19 (mt (i := 448) rfl) (mt (i := 368) rfl) (mt (i := 369) rfl) (mt (i := 370) rfl) (by decide) (lenOf pd_16 rfl) (c_rnn g lo a1265 ) [] [0, 1, 2, 3] 4 (by decide) (lenLe F 4 rfl) rfl 5 (by decide) (by decide) (by decide) (by decide) rfl (by show (5 : Nat) ≤ _; decide) _ rfl 4 36 rfl rfl 22 rfl fun v1271 W1272 T1268 hQ1270 J1269 => ?_
  obtain ⟨rfl, rfl⟩ := hQ1270
  have J1273 := J1269.norm (W' := o_SE se (.ref po) (.ref wb) (.ref ls) (.ref pts) (.int (0 : Int32)) (.int (-1 : Int32)) (.ref sv) (.ref pt) (.int (1 : Int32)) (.int (1 : Int32)) (.long (0 : Int64)) (.int (0 : Int32)) (.int (0 : Int32)) :: (pts, true, .inr (kp, (.object "com/example/lockstep/lockstep/core/ChoicePoint"), (16 : Int32), [(.ref c0), .null], .null)) :: (e_, false, (o_Str e_ (.ref eb) (.int (0 : Int32))).2.2) :: o_LO lo  :: F) rfl
  show Run _ _ _ _ (State.setTop _ (mkF m 22 #[.val (.ref se), .val (.int (2 : Int32)), .val .null, .val (.ref e_), .val (.ref lo)] [(.ref lo), (.ref e_), (.int (0 : Int32)), .null, (.int (2 : Int32)), (.ref se)]))
  refine i_cast J1273 d53_22 (mt (i := 451) rfl) (mt (i := 452) rfl) 3 rfl 25 rfl fun T1274 J1275 => ?_
  refine i_private J1275 d53_25 (mt (i := 453) rfl) (mt (i := 455) rfl) (mt (i := 2) rfl) (mt (i := 454) rfl) (mt (i := 3) rfl) (mt (i := 456) rfl) (by decide) (lenOf pd_20 rfl) 0 rfl (c_ch1r g se po wb ls pts kp sv pt e_ lo c0 ) [0, 1] [2, 3] 4 (by decide) (lenLe F 4 rfl) rfl 0 (by decide) (by decide) (by decide) (by decide) rfl (by show (0 : Nat) ≤ _; decide) _ rfl 5 48 rfl rfl 28 rfl fun v1280 W1281 T1277 hQ1279 J1278 => ?_
  obtain ⟨cn1276, rfl, rfl⟩ := hQ1279
  have J1282 := J1278.norm (W' := o_SE se (.ref po) (.ref wb) (.ref ls) (.ref pts) (.int (0 : Int32)) (.int (-1 : Int32)) (.ref sv) (.ref pt) (.int (2 : Int32)) (.int (1 : Int32)) (.long (0 : Int64)) (.int (0 : Int32)) (.int (0 : Int32)) :: (pts, true, .inr (kp, (.object "com/example/lockstep/lockstep/core/ChoicePoint"), (16 : Int32), [(.ref c0), (.ref cn1276)], .null)) :: o_CP cn1276 (.int (2 : Int32)) (.int (0 : Int32)) (.int (0 : Int32)) (.int (0 : Int32)) .null (.long (0 : Int64)) (.int (0 : Int32)) :: (e_, false, (o_Str e_ (.ref eb) (.int (0 : Int32))).2.2) :: o_LO lo  :: F) rfl
  show Run _ _ _ _ (State.setTop _ (mkF m 28 #[.val (.ref se), .val (.int (2 : Int32)), .val .null, .val (.ref e_), .val (.ref lo)] [(.int (0 : Int32))]))
  exact r_val J1282 d53_28 (t := .int) rfl rfl (Or.inl ⟨rfl, by simp, _, rfl⟩) (by decide) (by decide) (Wf := [o_SE se (.ref po) (.ref wb) (.ref ls) (.ref pts) (.int (0 : Int32)) (.int (-1 : Int32)) (.ref sv) (.ref pt) (.int (2 : Int32)) (.int (1 : Int32)) (.long (0 : Int64)) (.int (0 : Int32)) (.int (0 : Int32)), (pts, true, .inr (kp, (.object "com/example/lockstep/lockstep/core/ChoicePoint"), (16 : Int32), [(.ref c0), (.ref cn1276)], .null)), o_CP cn1276 (.int (2 : Int32)) (.int (0 : Int32)) (.int (0 : Int32)) (.int (0 : Int32)) .null (.long (0 : Int64)) (.int (0 : Int32)), (e_, false, (o_Str e_ (.ref eb) (.int (0 : Int32))).2.2), o_LO lo ]) rfl ⟨cn1276, rfl, rfl⟩
theorem pn_u3ch1r : plainFor (⟨"com/example/lockstep/lockstep/core/Search", "chooseUnspecified", "(ILjava/lang/String;Lcom/example/lockstep/lockstep/core/value/SourceLocation;)I"⟩ : MethodName) = true := by first | exact plainFor_of_name (by first | (simp [plainName, overriddenIn]; done) | decide +kernel) | exact Jvm.Free.JP.mathPlain rfl (by decide +kernel) | decide +kernel
set_option maxRecDepth 65536 in
set_option maxHeartbeats 40000000 in
theorem c_u3ch1r {l : Launch} {Z : State} {a0 : Array Value} (g : GC Z a0 []) (se : Addr) (po : Addr) (wb : Addr) (ls : Addr) (pts : Addr) (kp : ClassId) (sv : Addr) (pt : Addr) (e_ : Addr) (lo : Addr) (eb : Addr) (c0 : Addr)  : Con l Z [] (⟨"com/example/lockstep/lockstep/core/Search", "chooseUnspecified", "(ILjava/lang/String;Lcom/example/lockstep/lockstep/core/value/SourceLocation;)I"⟩ : MethodName) prog_206_method_71_code 4 (some .int) { frames := 4, cells := 5, slots := 48, locals := 62 } [(.ref se), (.int (2 : Int32)), (.ref e_), (.ref lo)] [o_SE se (.ref po) (.ref wb) (.ref ls) (.ref pts) (.int (0 : Int32)) (.int (-1 : Int32)) (.ref sv) (.ref pt) (.int (1 : Int32)) (.int (1 : Int32)) (.long (0 : Int64)) (.int (0 : Int32)) (.int (0 : Int32)), (pts, true, .inr (kp, (.object "com/example/lockstep/lockstep/core/ChoicePoint"), (16 : Int32), [(.ref c0), .null], .null)), (e_, false, (o_Str e_ (.ref eb) (.int (0 : Int32))).2.2), o_LO lo ] (fun v W' => ∃ (cn : Addr), v = some (.int (0 : Int32)) ∧ W' = [o_SE se (.ref po) (.ref wb) (.ref ls) (.ref pts) (.int (0 : Int32)) (.int (-1 : Int32)) (.ref sv) (.ref pt) (.int (2 : Int32)) (.int (1 : Int32)) (.long (0 : Int64)) (.int (0 : Int32)) (.int (0 : Int32)), (pts, true, .inr (kp, (.object "com/example/lockstep/lockstep/core/ChoicePoint"), (16 : Int32), [(.ref c0), (.ref cn)], .null)), o_CP cn (.int (2 : Int32)) (.int (0 : Int32)) (.int (0 : Int32)) (.int (0 : Int32)) .null (.long (0 : Int64)) (.int (0 : Int32)), (e_, false, (o_Str e_ (.ref eb) (.int (0 : Int32))).2.2), o_LO lo ]) := by
  refine Con.mk g pn_u3ch1r (Ls := #[.val (.ref se), .val (.int (2 : Int32)), .val (.ref e_), .val (.ref lo)]) (fun m => by first | (simp [entryFrame, mkF, argsToLocals, Value.category]; done) | rfl) ?_
  intro p e s m below meth c T0 F J0
  refine p_aload_n J0 d54_0 rfl rfl 1 rfl ?_
  refine p_iload_n J0 d54_1 rfl 2 rfl ?_
  refine p_aconst_null J0 d54_2 3 rfl ?_
  refine p_aload_n J0 d54_3 rfl rfl 4 rfl ?_
  refine p_aload_n J0 d54_4 rfl rfl 5 rfl ?_
  refine i_virtual J0 d54_5 (mt (i := 442) rfl) (mt (i := 443) rfl) (nfSel (mt (i := 445) rfl)) (mt (i := 445) rfl) (mt (i := 444) rfl) (mt (i := 3) rfl) (mt (i := 446) rfl) (by decide) (lenOf pd_21 rfl) 0 rfl (c_u4ch1r g se po wb ls pts kp sv pt e_ lo eb c0 ) [0, 1, 2, 3] [] 4 (by decide) (lenLe F 4 rfl) rfl 0 (by decide) (by decide) (by decide) (by decide) rfl (by show (0 : Nat) ≤ _; decide) _ rfl 5 48 rfl rfl 8 rfl fun v1287 W1288 T1284 hQ1286 J1285 => ?_
  obtain ⟨cn1283, rfl, rfl⟩ := hQ1286
  have J1289 := J1285.norm (W' := o_SE se (.ref po) (.ref wb) (.ref ls) (.ref pts) (.int (0 : Int32)) (.int (-1 : Int32)) (.ref sv) (.ref pt) (.int (2 : Int32)) (.int (1 : Int32)) (.long (0 : Int64)) (.int (0 : Int32)) (.int (0 : Int32)) :: (pts, true, .inr (kp, (.object "com/example/lockstep/lockstep/core/ChoicePoint"), (16 : Int32), [(.ref c0), (.ref cn1283)], .null)) :: o_CP cn1283 (.int (2 : Int32)) (.int (0 : Int32)) (.int (0 : Int32)) (.int (0 : Int32)) .null (.long (0 : Int64)) (.int (0 : Int32)) :: (e_, false, (o_Str e_ (.ref eb) (.int (0 : Int32))).2.2) :: o_LO lo  :: F) rfl
  show Run _ _ _ _ (State.setTop _ (mkF m 8 #[.val (.ref se), .val (.int (2 : Int32)), .val (.ref e_), .val (.ref lo)] [(.int (0 : Int32))]))
  exact r_val J1289 d54_8 (t := .int) rfl rfl (Or.inl ⟨rfl, by simp, _, rfl⟩) (by decide) (by decide) (Wf := [o_SE se (.ref po) (.ref wb) (.ref ls) (.ref pts) (.int (0 : Int32)) (.int (-1 : Int32)) (.ref sv) (.ref pt) (.int (2 : Int32)) (.int (1 : Int32)) (.long (0 : Int64)) (.int (0 : Int32)) (.int (0 : Int32)), (pts, true, .inr (kp, (.object "com/example/lockstep/lockstep/core/ChoicePoint"), (16 : Int32), [(.ref c0), (.ref cn1283)], .null)), o_CP cn1283 (.int (2 : Int32)) (.int (0 : Int32)) (.int (0 : Int32)) (.int (0 : Int32)) .null (.long (0 : Int64)) (.int (0 : Int32)), (e_, false, (o_Str e_ (.ref eb) (.int (0 : Int32))).2.2), o_LO lo ]) rfl ⟨cn1283, rfl, rfl⟩
theorem pn_exch1r : plainFor (⟨"com/example/lockstep/lockstep/core/ActiveLevels", "exceeds", "(ILjava/lang/String;Lcom/example/lockstep/lockstep/core/value/SourceLocation;)Z"⟩ : MethodName) = true := by first | exact plainFor_of_name (by first | (simp [plainName, overriddenIn]; done) | decide +kernel) | exact Jvm.Free.JP.mathPlain rfl (by decide +kernel) | decide +kernel
set_option maxRecDepth 65536 in
set_option maxHeartbeats 40000000 in
theorem c_exch1r {l : Launch} {Z : State} {a0 : Array Value} (g : GC Z a0 []) (al : Addr) (bs : Int32) (se : Addr) (po : Addr) (wb : Addr) (ls : Addr) (pts : Addr) (kp : ClassId) (sv : Addr) (pt : Addr) (e_ : Addr) (lo : Addr) (eb : Addr) (c0 : Addr)  : Con l Z [] (⟨"com/example/lockstep/lockstep/core/ActiveLevels", "exceeds", "(ILjava/lang/String;Lcom/example/lockstep/lockstep/core/value/SourceLocation;)Z"⟩ : MethodName) prog_39_method_5_code 4 (some .boolean) { frames := 5, cells := 5, slots := 48, locals := 77 } [(.ref al), (.int (1 : Int32)), (.ref e_), (.ref lo)] [o_AL al (.int (1 : Int32)) (.int (2147483647 : Int32)) (.int (1 : Int32)) (.int (0 : Int32)) (.int (0 : Int32)) (.int bs) (.ref se), o_SE se (.ref po) (.ref wb) (.ref ls) (.ref pts) (.int (0 : Int32)) (.int (-1 : Int32)) (.ref sv) (.ref pt) (.int (1 : Int32)) (.int (1 : Int32)) (.long (0 : Int64)) (.int (0 : Int32)) (.int (0 : Int32)), (pts, true, .inr (kp, (.object "com/example/lockstep/lockstep/core/ChoicePoint"), (16 : Int32), [(.ref c0), .null], .null)), (e_, false, (o_Str e_ (.ref eb) (.int (0 : Int32))).2.2), o_LO lo ] (fun v W' => ∃ (cn : Addr), v = some (.int (1 : Int32)) ∧ W' = [o_AL al (.int (2 : Int32)) (.int (2147483647 : Int32)) (.int (2 : Int32)) (.int (0 : Int32)) (.int (0 : Int32)) (.int bs) (.ref se), o_SE se (.ref po) (.ref wb) (.ref ls) (.ref pts) (.int (0 : Int32)) (.int (-1 : Int32)) (.ref sv) (.ref pt) (.int (2 : Int32)) (.int (1 : Int32)) (.long (0 : Int64)) (.int (0 : Int32)) (.int (0 : Int32)), (pts, true, .inr (kp, (.object "com/example/lockstep/lockstep/core/ChoicePoint"), (16 : Int32), [(.ref c0), (.ref cn)], .null)), o_CP cn (.int (2 : Int32)) (.int (0 : Int32)) (.int (0 : Int32)) (.int (0 : Int32)) .null (.long (0 : Int64)) (.int (0 : Int32)), (e_, false, (o_Str e_ (.ref eb) (.int (0 : Int32))).2.2), o_LO lo ]) := by
  refine Con.mk g pn_exch1r (Ls := #[.val (.ref al), .val (.int (1 : Int32)), .val (.ref e_), .val (.ref lo)]) (fun m => by first | (simp [entryFrame, mkF, argsToLocals, Value.category]; done) | rfl) ?_
  intro p e s m below meth c T0 F J0
  refine p_iload_n J0 d55_0 rfl 1 rfl ?_
  refine p_aload_n J0 d55_1 rfl rfl 2 rfl ?_
  refine i_get J0 d55_2 (mt (i := 396) rfl) Via.refl 0 0 rfl rfl 5 rfl fun T1290 J1291 => ?_
  refine p_icmp_n J1291 d55_5 (by decide) 8 rfl ?_
  refine p_aload_n J1291 d55_8 rfl rfl 9 rfl ?_
  refine i_get J1291 d55_9 (mt (i := 410) rfl) Via.refl 0 3 rfl rfl 12 rfl fun T1292 J1293 => ?_
  refine p_if_n J1293 d55_12 (by decide) 15 rfl ?_
  refine p_aload_n J1293 d55_15 rfl rfl 16 rfl ?_
  refine i_get J1293 d55_16 (mt (i := 396) rfl) Via.refl 0 0 rfl rfl 19 rfl fun T1294 J1295 => ?_
  refine p_aload_n J1295 d55_19 rfl rfl 20 rfl ?_
  refine i_get J1295 d55_20 (mt (i := 399) rfl) Via.refl 0 1 rfl rfl 23 rfl fun T1296 J1297 => ?_
  refine p_icmp_y J1297 d55_23 (by decide) 34 (by decide) (by decide) ?_
  refine p_iload_n J1297 d55_34 rfl 35 rfl ?_
  refine p_aload_n J1297 d55_35 rfl rfl 36 rfl ?_
  refine i_get J1297 d55_36 (mt (i := 396) rfl) Via.refl 0 0 rfl rfl 39 rfl fun T1298 J1299 => ?_
  refine p_icmp_n J1299 d55_39 (by decide) 42 rfl ?_
  refine p_aload_n J1299 d55_42 rfl rfl 43 rfl ?_
  refine i_get J1299 d55_43 (mt (i := 410) rfl) Via.refl 0 3 rfl rfl 46 rfl fun T1300 J1301 => ?_
  refine p_if_n J1301 d55_46 (by decide) 49 rfl ?_
  refine p_aload_n J1301 d55_49 rfl rfl 50 rfl ?_
  refine i_get J1301 d55_50 (mt (i := 403) rfl) Via.refl 0 6 rfl rfl 53 rfl fun T1302 J1303 => ?_
  refine p_iconst J1303 d55_53 (z := (2 : Int32)) rfl 54 rfl ?_
  refine p_aload_n J1303 d55_54 rfl rfl 55 rfl ?_
  refine p_aload_n J1303 d55_55 rfl rfl 56 rfl ?_
  refine i_virtual J1303 d55_56 (mt (i := 437) rfl) (mt (i := 438) rfl) (nfSel (mt (i := 440) rfl)) (mt (i := 440) rfl) (mt (i := 439) rfl) (mt (i := 3) rfl) (mt (i := 441) rfl) (by decide) (lenOf pd_22 rfl) 1 rfl (c_u3ch1r g se po wb ls pts kp sv pt e_ lo eb c0 ) [1, 2, 3, 4] [0] 5 (by decide) (lenLe F 5 rfl) rfl 0 (by decide) (by decide) (by decide) (by decide) rfl (by show (0 : Nat) ≤ _; decide) _ rfl 5 48 rfl rfl 59 rfl fun v1308 W1309 T1305 hQ1307 J1306 => ?_
  obtain ⟨cn1304, rfl, rfl⟩ := hQ1307
  have J1310 := J1306.norm (W' := o_SE se (.ref po) (.ref wb) (.ref ls) (.ref pts) (.int (0 : Int32)) (.int (-1 : Int32)) (.ref sv) (.ref pt) (.int (2 : Int32)) (.int (1 : Int32)) (.long (0 : Int64)) (.int (0 : Int32)) (.int (0 : Int32)) :: (pts, true, .inr (kp, (.object "com/example/lockstep/lockstep/core/ChoicePoint"), (16 : Int32), [(.ref c0), (.ref cn1304)], .null)) :: o_CP cn1304 (.int (2 : Int32)) (.int (0 : Int32)) (.int (0 : Int32)) (.int (0 : Int32)) .null (.long (0 : Int64)) (.int (0 : Int32)) :: (e_, false, (o_Str e_ (.ref eb) (.int (0 : Int32))).2.2) :: o_LO lo  :: o_AL al (.int (1 : Int32)) (.int (2147483647 : Int32)) (.int (1 : Int32)) (.int (0 : Int32)) (.int (0 : Int32)) (.int bs) (.ref se) :: F) rfl
  show Run _ _ _ _ (State.setTop _ (mkF m 59 #[.val (.ref al), .val (.int (1 : Int32)), .val (.ref e_), .val (.ref lo)] [(.int (0 : Int32))]))
  refine p_if_n J1310 d55_59 (by decide) 62 rfl ?_
  refine p_aload_n J1310 d55_62 rfl rfl 63 rfl ?_
  refine p_dup J1310 d55_63 rfl 64 rfl ?_
  refine i_get J1310 d55_64 (mt (i := 396) rfl) Via.refl 5 0 rfl rfl 67 rfl fun T1311 J1312 => ?_
  refine p_iconst J1312 d55_67 (z := (1 : Int32)) rfl 68 rfl ?_
  refine p_iadd J1312 d55_68 (z := (2 : Int32)) (by decide) 69 rfl ?_
  refine i_put J1312 d55_69 (mt (i := 396) rfl) Via.refl 5 0 rfl rfl sd_AL (Or.inl (mt (i := 397) rfl)) (mt (i := 390) rfl) (ty := .int) (by decide) rfl rfl 72 rfl (o_SE se (.ref po) (.ref wb) (.ref ls) (.ref pts) (.int (0 : Int32)) (.int (-1 : Int32)) (.ref sv) (.ref pt) (.int (2 : Int32)) (.int (1 : Int32)) (.long (0 : Int64)) (.int (0 : Int32)) (.int (0 : Int32)) :: (pts, true, .inr (kp, (.object "com/example/lockstep/lockstep/core/ChoicePoint"), (16 : Int32), [(.ref c0), (.ref cn1304)], .null)) :: o_CP cn1304 (.int (2 : Int32)) (.int (0 : Int32)) (.int (0 : Int32)) (.int (0 : Int32)) .null (.long (0 : Int64)) (.int (0 : Int32)) :: (e_, false, (o_Str e_ (.ref eb) (.int (0 : Int32))).2.2) :: o_LO lo  :: o_AL al (.int (2 : Int32)) (.int (2147483647 : Int32)) (.int (1 : Int32)) (.int (0 : Int32)) (.int (0 : Int32)) (.int bs) (.ref se) :: F) rfl fun T1313 J1314 => ?_
  refine p_aload_n J1314 d55_72 rfl rfl 73 rfl ?_
  refine p_aload_n J1314 d55_73 rfl rfl 74 rfl ?_
  refine i_get J1314 d55_74 (mt (i := 401) rfl) Via.refl 5 2 rfl rfl 77 rfl fun T1315 J1316 => ?_
  refine p_aload_n J1316 d55_77 rfl rfl 78 rfl ?_
  refine i_get J1316 d55_78 (mt (i := 396) rfl) Via.refl 5 0 rfl rfl 81 rfl fun T1317 J1318 => ?_
  refine i_static J1318 d55_81 (mt (i := 506) rfl) (mt (i := 507) rfl) (mt (i := 310) rfl) (mt (i := 508) rfl) (by decide) (lenOf pd_10 rfl) (c_max2 g  ) [] [0, 1, 2, 3, 4, 5] 6 (by decide) (lenLe F 6 rfl) rfl 1 (by decide) (by decide) (by decide) (by decide) rfl (by show (1 : Nat) ≤ _; decide) _ rfl 5 48 rfl rfl 84 rfl fun v1322 W1323 T1319 hQ1321 J1320 => ?_
  obtain ⟨rfl, rfl⟩ := hQ1321
  have J1324 := J1320.norm (W' := o_SE se (.ref po) (.ref wb) (.ref ls) (.ref pts) (.int (0 : Int32)) (.int (-1 : Int32)) (.ref sv) (.ref pt) (.int (2 : Int32)) (.int (1 : Int32)) (.long (0 : Int64)) (.int (0 : Int32)) (.int (0 : Int32)) :: (pts, true, .inr (kp, (.object "com/example/lockstep/lockstep/core/ChoicePoint"), (16 : Int32), [(.ref c0), (.ref cn1304)], .null)) :: o_CP cn1304 (.int (2 : Int32)) (.int (0 : Int32)) (.int (0 : Int32)) (.int (0 : Int32)) .null (.long (0 : Int64)) (.int (0 : Int32)) :: (e_, false, (o_Str e_ (.ref eb) (.int (0 : Int32))).2.2) :: o_LO lo  :: o_AL al (.int (2 : Int32)) (.int (2147483647 : Int32)) (.int (1 : Int32)) (.int (0 : Int32)) (.int (0 : Int32)) (.int bs) (.ref se) :: F) rfl
  show Run _ _ _ _ (State.setTop _ (mkF m 84 #[.val (.ref al), .val (.int (1 : Int32)), .val (.ref e_), .val (.ref lo)] [(.int (2 : Int32)), (.ref al)]))
  refine i_put J1324 d55_84 (mt (i := 401) rfl) Via.refl 5 2 rfl rfl sd_AL (Or.inl (mt (i := 402) rfl)) (mt (i := 390) rfl) (ty := .int) (by decide) rfl rfl 87 rfl (o_SE se (.ref po) (.ref wb) (.ref ls) (.ref pts) (.int (0 : Int32)) (.int (-1 : Int32)) (.ref sv) (.ref pt) (.int (2 : Int32)) (.int (1 : Int32)) (.long (0 : Int64)) (.int (0 : Int32)) (.int (0 : Int32)) :: (pts, true, .inr (kp, (.object "com/example/lockstep/lockstep/core/ChoicePoint"), (16 : Int32), [(.ref c0), (.ref cn1304)], .null)) :: o_CP cn1304 (.int (2 : Int32)) (.int (0 : Int32)) (.int (0 : Int32)) (.int (0 : Int32)) .null (.long (0 : Int64)) (.int (0 : Int32)) :: (e_, false, (o_Str e_ (.ref eb) (.int (0 : Int32))).2.2) :: o_LO lo  :: o_AL al (.int (2 : Int32)) (.int (2147483647 : Int32)) (.int (2 : Int32)) (.int (0 : Int32)) (.int (0 : Int32)) (.int bs) (.ref se) :: F) rfl fun T1325 J1326 => ?_
  refine p_goto J1326 d55_87 108 (by decide) (by decide) ?_
  refine p_iload_n J1326 d55_108 rfl 109 rfl ?_
  refine p_aload_n J1326 d55_109 rfl rfl 110 rfl ?_
  refine i_get J1326 d55_110 (mt (i := 396) rfl) Via.refl 5 0 rfl rfl 113 rfl fun T1327 J1328 => ?_
  refine p_icmp_n J1328 d55_113 (by decide) 116 rfl ?_
  refine p_iconst J1328 d55_116 (z := (1 : Int32)) rfl 117 rfl ?_
  refine p_goto J1328 d55_117 121 (by decide) (by decide) ?_
  have J1329 := J1328.weak [5, 0, 1, 2, 3, 4] 6 (by decide) (lenLe F 6 rfl) (W' := o_AL al (.int (2 : Int32)) (.int (2147483647 : Int32)) (.int (2 : Int32)) (.int (0 : Int32)) (.int (0 : Int32)) (.int bs) (.ref se) :: o_SE se (.ref po) (.ref wb) (.ref ls) (.ref pts) (.int (0 : Int32)) (.int (-1 : Int32)) (.ref sv) (.ref pt) (.int (2 : Int32)) (.int (1 : Int32)) (.long (0 : Int64)) (.int (0 : Int32)) (.int (0 : Int32)) :: (pts, true, .inr (kp, (.object "com/example/lockstep/lockstep/core/ChoicePoint"), (16 : Int32), [(.ref c0), (.ref cn1304)], .null)) :: o_CP cn1304 (.int (2 : Int32)) (.int (0 : Int32)) (.int (0 : Int32)) (.int (0 : Int32)) .null (.long (0 : Int64)) (.int (0 : Int32)) :: (e_, false, (o_Str e_ (.ref eb) (.int (0 : Int32))).2.2) :: o_LO lo  :: F) rfl
  exact r_val J1329 d55_121 (t := .boolean) rfl rfl (Or.inl ⟨rfl, by simp, _, rfl⟩) (by decide) (by decide) (Wf := [o_AL al (.int (2 : Int32)) (.int (2147483647 : Int32)) (.int (2 : Int32)) (.int (0 : Int32)) (.int (0 : Int32)) (.int bs) (.ref se), o_SE se (.ref po) (.ref wb) (.ref ls) (.ref pts) (.int (0 : Int32)) (.int (-1 : Int32)) (.ref sv) (.ref pt) (.int (2 : Int32)) (.int (1 : Int32)) (.long (0 : Int64)) (.int (0 : Int32)) (.int (0 : Int32)), (pts, true, .inr (kp, (.object "com/example/lockstep/lockstep/core/ChoicePoint"), (16 : Int32), [(.ref c0), (.ref cn1304)], .null)), o_CP cn1304 (.int (2 : Int32)) (.int (0 : Int32)) (.int (0 : Int32)) (.int (0 : Int32)) .null (.long (0 : Int64)) (.int (0 : Int32)), (e_, false, (o_Str e_ (.ref eb) (.int (0 : Int32))).2.2), o_LO lo ]) rfl ⟨cn1304, rfl, rfl⟩
theorem pn_u4chR : plainFor (⟨"com/example/lockstep/lockstep/core/Search", "chooseUnspecified", "(ILjava/util/function/Supplier;Ljava/lang/String;Lcom/example/lockstep/lockstep/core/value/SourceLocation;)I"⟩ : MethodName) = true := by first | exact plainFor_of_name (by first | (simp [plainName, overriddenIn]; done) | decide +kernel) | exact Jvm.Free.JP.mathPlain rfl (by decide +kernel) | decide +kernel
set_option maxRecDepth 65536 in
set_option maxHeartbeats 40000000 in
theorem c_u4chR {l : Launch} {Z : State} {a0 : Array Value} (g : GC Z a0 []) (se : Addr) (po : Addr) (wb : Addr) (ls : Addr) (pts : Addr) (kp : ClassId) (sv : Addr) (pt : Addr) (e_ : Addr) (lo : Addr) (eb : Addr) (c0 : Addr)  : Con l Z [] (⟨"com/example/lockstep/lockstep/core/Search", "chooseUnspecified", "(ILjava/util/function/Supplier;Ljava/lang/String;Lcom/example/lockstep/lockstep/core/value/SourceLocation;)I"⟩ : MethodName) prog_206_method_72_code 5 (some .int) { frames := 2, cells := 4, slots := 36, locals := 32 } [(.ref se), (.int (2 : Int32)), .null, (.ref e_), (.ref lo)] [o_SE se (.ref po) (.ref wb) (.ref ls) (.ref pts) (.int (0 : Int32)) (.int (-1 : Int32)) (.ref sv) (.ref pt) (.int (0 : Int32)) (.int (1 : Int32)) (.long (0 : Int64)) (.int (0 : Int32)) (.int (0 : Int32)), (pts, true, .inr (kp, (.object "com/example/lockstep/lockstep/core/ChoicePoint"), (16 : Int32), [(.ref c0), .null], .null)), o_CP c0 (.int (2 : Int32)) (.int (0 : Int32)) (.int (1 : Int32)) (.int (0 : Int32)) .null (.long (0 : Int64)) (.int (0 : Int32)), (e_, false, (o_Str e_ (.ref eb) (.int (0 : Int32))).2.2), o_LO lo ] (fun v W' => v = some (.int (1 : Int32)) ∧ W' = [o_SE se (.ref po) (.ref wb) (.ref ls) (.ref pts) (.int (0 : Int32)) (.int (-1 : Int32)) (.ref sv) (.ref pt) (.int (1 : Int32)) (.int (1 : Int32)) (.long (0 : Int64)) (.int (0 : Int32)) (.int (0 : Int32)), (pts, true, .inr (kp, (.object "com/example/lockstep/lockstep/core/ChoicePoint"), (16 : Int32), [(.ref c0), .null], .null)), o_CP c0 (.int (2 : Int32)) (.int (0 : Int32)) (.int (1 : Int32)) (.int (0 : Int32)) .null (.long (0 : Int64)) (.int (0 : Int32)), (e_, false, (o_Str e_ (.ref eb) (.int (0 : Int32))).2.2), o_LO lo ]) := by
  refine Con.mk g pn_u4chR (Ls := #[.val (.ref se), .val (.int (2 : Int32)), .val .null, .val (.ref e_), .val (.ref lo)]) (fun m => by first | (simp [entryFrame, mkF, argsToLocals, Value.category]; done) | rfl) ?_
  intro p e s m below meth c T0 F J0
  refine p_aload_n J0 d53_0 rfl rfl 1 rfl ?_
  refine p_iload_n J0 d53_1 rfl 2 rfl ?_
  refine p_aload_n J0 d53_2 rfl rfl 3 rfl ?_
  refine p_iconst J0 d53_3 (z := (0 : Int32)) rfl 4 rfl ?_
  refine p_aload_n J0 d53_4 rfl rfl 5 rfl ?_
  refine i_ldcW J0 d53_5 (mt (i := 447) rfl) 20 (by decide) (by decide) (by decide) (by decide) 2 24 rfl rfl 8 rfl fun a1330 T1331 J1332 => ?_
  refine i_static J1332 d53_8 (mt (i := 448) rfl) (mt (i := 368) rfl) (mt (i := 369) rfl) (mt (i := 370) rfl) (by decide) (lenOf pd_16 rfl) (c_rnn g e_ a1330 ) [] [0, 1, 2, 3, 4] 5 (by decide) (lenLe F 5 rfl) rfl 4 (by decide) (by decide) (by decide) (by decide) rfl (by show (4 : Nat) ≤ _; decide) _ rfl 2 24 rfl rfl 11 rfl fun v1336 W1337 T1333 hQ1335 J1334 => ?_
  obtain ⟨rfl, rfl⟩ := hQ1335
  have J1338 := J1334.norm (W' := o_SE se (.ref po) (.ref wb) (.ref ls) (.ref pts) (.int (0 : Int32)) (.int (-1 : Int32)) (.ref sv) (.ref pt) (.int (0 : Int32)) (.int (1 : Int32)) (.long (0 : Int64)) (.int (0 : Int32)) (.int (0 : Int32)) :: (pts, true, .inr (kp, (.object "com/example/lockstep/lockstep/core/ChoicePoint"), (16 : Int32), [(.ref c0), .null], .null)) :: o_CP c0 (.int (2 : Int32)) (.int (0 : Int32)) (.int (1 : Int32)) (.int (0 : Int32)) .null (.long (0 : Int64)) (.int (0 : Int32)) :: (e_, false, (o_Str e_ (.ref eb) (.int (0 : Int32))).2.2) :: o_LO lo  :: F) rfl
  show Run _ _ _ _ (State.setTop _ (mkF m 11 #[.val (.ref se), .val (.int (2 : Int32)), .val .null, .val (.ref e_), .val (.ref lo)] [(.ref e_), (.int (0 : Int32)), .null, (.int (2 : Int32)), (.ref se)]))
  refine i_cast J1338 d53_11 (mt (i := 449) rfl) (mt (i := 372) rfl) 3 rfl 14 rfl fun T1339 J1340 => ?_
  refine p_aload J1340 d53_14 rfl rfl 16 rfl ?_
  refine i_ldcW J1340 d53_16 (mt (i := 450) rfl) 8 (by decide) (by decide) (by decide) (by decide) 4 36 rfl rfl 19 rfl fun a1341 T1342 J1343 => ?_
  refine i_static J1343 d53_19 (mt (i := 448) rfl) (mt (i := 368) rfl) (mt (i := 369) rfl) (mt (i := 370) rfl) (by decide) (lenOf pd_16 rfl) (c_rnn g lo a1341 ) [] [0, 1, 2, 3, 4] 5 (by decide) (lenLe F 5 rfl) rfl 5 (by decide) (by decide) (by decide) (by decide) rfl (by show (5 : Nat) ≤ _; decide) _ rfl 4 36 rfl rfl 22 rfl fun v1347 W1348 T1344 hQ1346 J1345 => ?_
  obtain ⟨rfl, rfl⟩ := hQ1346
  have J1349 := J1345.norm (W' := o_SE se (.ref po) (.ref wb) (.ref ls) (.ref pts) (.int (0 : Int32)) (.int (-1 : Int32)) (.ref sv) (.ref pt) (.int (0 : Int32)) (.int (1 : Int32)) (.long (0 : Int64)) (.int (0 : Int32)) (.int (0 : Int32)) :: (pts, true, .inr (kp, (.object "com/example/lockstep/lockstep/core/ChoicePoint"), (16 : Int32), [(.ref c0), .null], .null)) :: o_CP c0 (.int (2 : Int32)) (.int (0 : Int32)) (.int (1 : Int32)) (.int (0 : Int32)) .null (.long (0 : Int64)) (.int (0 : Int32)) :: (e_, false, (o_Str e_ (.ref eb) (.int (0 : Int32))).2.2) :: o_LO lo  :: F) rfl
  show Run _ _ _ _ (State.setTop _ (mkF m 22 #[.val (.ref se), .val (.int (2 : Int32)), .val .null, .val (.ref e_), .val (.ref lo)] [(.ref lo), (.ref e_), (.int (0 : Int32)), .null, (.int (2 : Int32)), (.ref se)]))
  refine i_cast J1349 d53_22 (mt (i := 451) rfl) (mt (i := 452) rfl) 4 rfl 25 rfl fun T1350 J1351 => ?_
  refine i_private J1351 d53_25 (mt (i := 453) rfl) (mt (i := 455) rfl) (mt (i := 2) rfl) (mt (i := 454) rfl) (mt (i := 3) rfl) (mt (i := 456) rfl) (by decide) (lenOf pd_20 rfl) 0 rfl (c_chR g se po wb ls pts kp sv pt e_ lo c0 ) [0, 1, 2] [3, 4] 5 (by decide) (lenLe F 5 rfl) rfl 0 (by decide) (by decide) (by decide) (by decide) rfl (by show (0 : Nat) ≤ _; decide) _ rfl 4 36 rfl rfl 28 rfl fun v1355 W1356 T1352 hQ1354 J1353 => ?_
  obtain ⟨rfl, rfl⟩ := hQ1354
  have J1357 := J1353.norm (W' := o_SE se (.ref po) (.ref wb) (.ref ls) (.ref pts) (.int (0 : Int32)) (.int (-1 : Int32)) (.ref sv) (.ref pt) (.int (1 : Int32)) (.int (1 : Int32)) (.long (0 : Int64)) (.int (0 : Int32)) (.int (0 : Int32)) :: (pts, true, .inr (kp, (.object "com/example/lockstep/lockstep/core/ChoicePoint"), (16 : Int32), [(.ref c0), .null], .null)) :: o_CP c0 (.int (2 : Int32)) (.int (0 : Int32)) (.int (1 : Int32)) (.int (0 : Int32)) .null (.long (0 : Int64)) (.int (0 : Int32)) :: (e_, false, (o_Str e_ (.ref eb) (.int (0 : Int32))).2.2) :: o_LO lo  :: F) rfl
  show Run _ _ _ _ (State.setTop _ (mkF m 28 #[.val (.ref se), .val (.int (2 : Int32)), .val .null, .val (.ref e_), .val (.ref lo)] [(.int (1 : Int32))]))
  exact r_val J1357 d53_28 (t := .int) rfl rfl (Or.inl ⟨rfl, by simp, _, rfl⟩) (by decide) (by decide) (Wf := [o_SE se (.ref po) (.ref wb) (.ref ls) (.ref pts) (.int (0 : Int32)) (.int (-1 : Int32)) (.ref sv) (.ref pt) (.int (1 : Int32)) (.int (1 : Int32)) (.long (0 : Int64)) (.int (0 : Int32)) (.int (0 : Int32)), (pts, true, .inr (kp, (.object "com/example/lockstep/lockstep/core/ChoicePoint"), (16 : Int32), [(.ref c0), .null], .null)), o_CP c0 (.int (2 : Int32)) (.int (0 : Int32)) (.int (1 : Int32)) (.int (0 : Int32)) .null (.long (0 : Int64)) (.int (0 : Int32)), (e_, false, (o_Str e_ (.ref eb) (.int (0 : Int32))).2.2), o_LO lo ]) rfl ⟨rfl, rfl⟩
theorem pn_u3chR : plainFor (⟨"com/example/lockstep/lockstep/core/Search", "chooseUnspecified", "(ILjava/lang/String;Lcom/example/lockstep/lockstep/core/value/SourceLocation;)I"⟩ : MethodName) = true := by first | exact plainFor_of_name (by first | (simp [plainName, overriddenIn]; done) | decide +kernel) | exact Jvm.Free.JP.mathPlain rfl (by decide +kernel) | decide +kernel
set_option maxRecDepth 65536 in
set_option maxHeartbeats 40000000 in
theorem c_u3chR {l : Launch} {Z : State} {a0 : Array Value} (g : GC Z a0 []) (se : Addr) (po : Addr) (wb : Addr) (ls : Addr) (pts : Addr) (kp : ClassId) (sv : Addr) (pt : Addr) (e_ : Addr) (lo : Addr) (eb : Addr) (c0 : Addr)  : Con l Z [] (⟨"com/example/lockstep/lockstep/core/Search", "chooseUnspecified", "(ILjava/lang/String;Lcom/example/lockstep/lockstep/core/value/SourceLocation;)I"⟩ : MethodName) prog_206_method_71_code 4 (some .int) { frames := 3, cells := 4, slots := 36, locals := 48 } [(.ref se), (.int (2 : Int32)), (.ref e_), (.ref lo)] [o_SE se (.ref po) (.ref wb) (.ref ls) (.ref pts) (.int (0 : Int32)) (.int (-1 : Int32)) (.ref sv) (.ref pt) (.int (0 : Int32)) (.int (1 : Int32)) (.long (0 : Int64)) (.int (0 : Int32)) (.int (0 : Int32)), (pts, true, .inr (kp, (.object "com/example/lockstep/lockstep/core/ChoicePoint"), (16 : Int32), [(.ref c0), .null], .null)), o_CP c0 (.int (2 : Int32)) (.int (0 : Int32)) (.int (1 : Int32)) (.int (0 : Int32)) .null (.long (0 : Int64)) (.int (0 : Int32)), (e_, false, (o_Str e_ (.ref eb) (.int (0 : Int32))).2.2), o_LO lo ] (fun v W' => v = some (.int (1 : Int32)) ∧ W' = [o_SE se (.ref po) (.ref wb) (.ref ls) (.ref pts) (.int (0 : Int32)) (.int (-1 : Int32)) (.ref sv) (.ref pt) (.int (1 : Int32)) (.int (1 : Int32)) (.long (0 : Int64)) (.int (0 : Int32)) (.int (0 : Int32)), (pts, true, .inr (kp, (.object "com/example/lockstep/lockstep/core/ChoicePoint"), (16 : Int32), [(.ref c0), .null], .null)), o_CP c0 (.int (2 : Int32)) (.int (0 : Int32)) (.int (1 : Int32)) (.int (0 : Int32)) .null (.long (0 : Int64)) (.int (0 : Int32)), (e_, false, (o_Str e_ (.ref eb) (.int (0 : Int32))).2.2), o_LO lo ]) := by
  refine Con.mk g pn_u3chR (Ls := #[.val (.ref se), .val (.int (2 : Int32)), .val (.ref e_), .val (.ref lo)]) (fun m => by first | (simp [entryFrame, mkF, argsToLocals, Value.category]; done) | rfl) ?_
  intro p e s m below meth c T0 F J0
  refine p_aload_n J0 d54_0 rfl rfl 1 rfl ?_
  refine p_iload_n J0 d54_1 rfl 2 rfl ?_
  refine p_aconst_null J0 d54_2 3 rfl ?_
  refine p_aload_n J0 d54_3 rfl rfl 4 rfl ?_
  refine p_aload_n J0 d54_4 rfl rfl 5 rfl ?_
  refine i_virtual J0 d54_5 (mt (i := 442) rfl) (mt (i := 443) rfl) (nfSel (mt (i := 445) rfl)) (mt (i := 445) rfl) (mt (i := 444) rfl) (mt (i := 3) rfl) (mt (i := 446) rfl) (by decide) (lenOf pd_21 rfl) 0 rfl (c_u4chR g se po wb ls pts kp sv pt e_ lo eb c0 ) [0, 1, 2, 3, 4] [] 5 (by decide) (lenLe F 5 rfl) rfl 0 (by decide) (by decide) (by decide) (by decide) rfl (by show (0 : Nat) ≤ _; decide) _ rfl 4 36 rfl rfl 8 rfl fun v1361 W1362 T1358 hQ1360 J1359 => ?_
  obtain ⟨rfl, rfl⟩ := hQ1360
  have J1363 := J1359.norm (W' := o_SE se (.ref po) (.ref wb) (.ref ls) (.ref pts) (.int (0 : Int32)) (.int (-1 : Int32)) (.ref sv) (.ref pt) (.int (1 : Int32)) (.int (1 : Int32)) (.long (0 : Int64)) (.int (0 : Int32)) (.int (0 : Int32)) :: (pts, true, .inr (kp, (.object "com/example/lockstep/lockstep/core/ChoicePoint"), (16 : Int32), [(.ref c0), .null], .null)) :: o_CP c0 (.int (2 : Int32)) (.int (0 : Int32)) (.int (1 : Int32)) (.int (0 : Int32)) .null (.long (0 : Int64)) (.int (0 : Int32)) :: (e_, false, (o_Str e_ (.ref eb) (.int (0 : Int32))).2.2) :: o_LO lo  :: F) rfl
  show Run _ _ _ _ (State.setTop _ (mkF m 8 #[.val (.ref se), .val (.int (2 : Int32)), .val (.ref e_), .val (.ref lo)] [(.int (1 : Int32))]))
  exact r_val J1363 d54_8 (t := .int) rfl rfl (Or.inl ⟨rfl, by simp, _, rfl⟩) (by decide) (by decide) (Wf := [o_SE se (.ref po) (.ref wb) (.ref ls) (.ref pts) (.int (0 : Int32)) (.int (-1 : Int32)) (.ref sv) (.ref pt) (.int (1 : Int32)) (.int (1 : Int32)) (.long (0 : Int64)) (.int (0 : Int32)) (.int (0 : Int32)), (pts, true, .inr (kp, (.object "com/example/lockstep/lockstep/core/ChoicePoint"), (16 : Int32), [(.ref c0), .null], .null)), o_CP c0 (.int (2 : Int32)) (.int (0 : Int32)) (.int (1 : Int32)) (.int (0 : Int32)) .null (.long (0 : Int64)) (.int (0 : Int32)), (e_, false, (o_Str e_ (.ref eb) (.int (0 : Int32))).2.2), o_LO lo ]) rfl ⟨rfl, rfl⟩
theorem d55_90 : decode prog_39_method_5_code 90 = .ok (.aload_n 0, 1) := by decide +kernel
theorem d55_91 : decode prog_39_method_5_code 91 = .ok (.iconst 1, 1) := by decide +kernel
theorem d55_92 : decode prog_39_method_5_code 92 = .ok (.putfield 26, 3) := by decide +kernel
theorem d55_95 : decode prog_39_method_5_code 95 = .ok (.aload_n 0, 1) := by decide +kernel
theorem d55_96 : decode prog_39_method_5_code 96 = .ok (.dup, 1) := by decide +kernel
theorem d55_97 : decode prog_39_method_5_code 97 = .ok (.getfield 30, 3) := by decide +kernel
theorem d55_100 : decode prog_39_method_5_code 100 = .ok (.aload_n 0, 1) := by decide +kernel
theorem d55_101 : decode prog_39_method_5_code 101 = .ok (.getfield 33, 3) := by decide +kernel
theorem d55_104 : decode prog_39_method_5_code 104 = .ok (.ior, 1) := by decide +kernel
theorem d55_105 : decode prog_39_method_5_code 105 = .ok (.putfield 30, 3) := by decide +kernel
theorem d55_120 : decode prog_39_method_5_code 120 = .ok (.iconst 0, 1) := by decide +kernel
theorem pn_exchR : plainFor (⟨"com/example/lockstep/lockstep/core/ActiveLevels", "exceeds", "(ILjava/lang/String;Lcom/example/lockstep/lockstep/core/value/SourceLocation;)Z"⟩ : MethodName) = true := by first | exact plainFor_of_name (by first | (simp [plainName, overriddenIn]; done) | decide +kernel) | exact Jvm.Free.JP.mathPlain rfl (by decide +kernel) | decide +kernel
set_option maxRecDepth 65536 in
set_option maxHeartbeats 40000000 in
theorem c_exchR {l : Launch} {Z : State} {a0 : Array Value} (g : GC Z a0 []) (al : Addr) (bs : Int32) (se : Addr) (po : Addr) (wb : Addr) (ls : Addr) (pts : Addr) (kp : ClassId) (sv : Addr) (pt : Addr) (e_ : Addr) (lo : Addr) (eb : Addr) (c0 : Addr) (hbs : B01 bs) : Con l Z [] (⟨"com/example/lockstep/lockstep/core/ActiveLevels", "exceeds", "(ILjava/lang/String;Lcom/example/lockstep/lockstep/core/value/SourceLocation;)Z"⟩ : MethodName) prog_39_method_5_code 4 (some .boolean) { frames := 4, cells := 4, slots := 36, locals := 63 } [(.ref al), (.int (1 : Int32)), (.ref e_), (.ref lo)] [o_AL al (.int (1 : Int32)) (.int (2147483647 : Int32)) (.int (1 : Int32)) (.int (0 : Int32)) (.int (0 : Int32)) (.int bs) (.ref se), o_SE se (.ref po) (.ref wb) (.ref ls) (.ref pts) (.int (0 : Int32)) (.int (-1 : Int32)) (.ref sv) (.ref pt) (.int (0 : Int32)) (.int (1 : Int32)) (.long (0 : Int64)) (.int (0 : Int32)) (.int (0 : Int32)), (pts, true, .inr (kp, (.object "com/example/lockstep/lockstep/core/ChoicePoint"), (16 : Int32), [(.ref c0), .null], .null)), o_CP c0 (.int (2 : Int32)) (.int (0 : Int32)) (.int (1 : Int32)) (.int (0 : Int32)) .null (.long (0 : Int64)) (.int (0 : Int32)), (e_, false, (o_Str e_ (.ref eb) (.int (0 : Int32))).2.2), o_LO lo ] (fun v W' => v = some (.int (0 : Int32)) ∧ W' = [o_AL al (.int (1 : Int32)) (.int (2147483647 : Int32)) (.int (1 : Int32)) (.int (1 : Int32)) (.int bs) (.int bs) (.ref se), o_SE se (.ref po) (.ref wb) (.ref ls) (.ref pts) (.int (0 : Int32)) (.int (-1 : Int32)) (.ref sv) (.ref pt) (.int (1 : Int32)) (.int (1 : Int32)) (.long (0 : Int64)) (.int (0 : Int32)) (.int (0 : Int32)), (pts, true, .inr (kp, (.object "com/example/lockstep/lockstep/core/ChoicePoint"), (16 : Int32), [(.ref c0), .null], .null)), o_CP c0 (.int (2 : Int32)) (.int (0 : Int32)) (.int (1 : Int32)) (.int (0 : Int32)) .null (.long (0 : Int64)) (.int (0 : Int32)), (e_, false, (o_Str e_ (.ref eb) (.int (0 : Int32))).2.2), o_LO lo ]) := by
  refine Con.mk g pn_exchR (Ls := #[.val (.ref al), .val (.int (1 : Int32)), .val (.ref e_), .val (.ref lo)]) (fun m => by first | (simp [entryFrame, mkF, argsToLocals, Value.category]; done) | rfl) ?_
  intro p e s m below meth c T0 F J0
  refine p_iload_n J0 d55_0 rfl 1 rfl ?_
  refine p_aload_n J0 d55_1 rfl rfl 2 rfl ?_
  refine i_get J0 d55_2 (mt (i := 396) rfl) Via.refl 0 0 rfl rfl 5 rfl fun T1364 J1365 => ?_
  refine p_icmp_n J1365 d55_5 (by decide) 8 rfl ?_
  refine p_aload_n J1365 d55_8 rfl rfl 9 rfl ?_
  refine i_get J1365 d55_9 (mt (i := 410) rfl) Via.refl 0 3 rfl rfl 12 rfl fun T1366 J1367 => ?_
  refine p_if_n J1367 d55_12 (by decide) 15 rfl ?_
  refine p_aload_n J1367 d55_15 rfl rfl 16 rfl ?_
  refine i_get J1367 d55_16 (mt (i := 396) rfl) Via.refl 0 0 rfl rfl 19 rfl fun T1368 J1369 => ?_
  refine p_aload_n J1369 d55_19 rfl rfl 20 rfl ?_
  refine i_get J1369 d55_20 (mt (i := 399) rfl) Via.refl 0 1 rfl rfl 23 rfl fun T1370 J1371 => ?_
  refine p_icmp_y J1371 d55_23 (by decide) 34 (by decide) (by decide) ?_
  refine p_iload_n J1371 d55_34 rfl 35 rfl ?_
  refine p_aload_n J1371 d55_35 rfl rfl 36 rfl ?_
  refine i_get J1371 d55_36 (mt (i := 396) rfl) Via.refl 0 0 rfl rfl 39 rfl fun T1372 J1373 => ?_
  refine p_icmp_n J1373 d55_39 (by decide) 42 rfl ?_
  refine p_aload_n J1373 d55_42 rfl rfl 43 rfl ?_
  refine i_get J1373 d55_43 (mt (i := 410) rfl) Via.refl 0 3 rfl rfl 46 rfl fun T1374 J1375 => ?_
  refine p_if_n J1375 d55_46 (by decide) 49 rfl ?_
  refine p_aload_n J1375 d55_49 rfl rfl 50 rfl ?_
  refine i_get J1375 d55_50 (mt (i := 403) rfl) Via.refl 0 6 rfl rfl 53 rfl fun T1376 J1377 => ?_
  refine p_iconst J1377 d55_53 (z := (2 : Int32)) rfl 54 rfl ?_
  refine p_aload_n J1377 d55_54 rfl rfl 55 rfl ?_
  refine p_aload_n J1377 d55_55 rfl rfl 56 rfl ?_
  refine i_virtual J1377 d55_56 (mt (i := 437) rfl) (mt (i := 438) rfl) (nfSel (mt (i := 440) rfl)) (mt (i := 440) rfl) (mt (i := 439) rfl) (mt (i := 3) rfl) (mt (i := 441) rfl) (by decide) (lenOf pd_22 rfl) 1 rfl (c_u3chR g se po wb ls pts kp sv pt e_ lo eb c0 ) [1, 2, 3, 4, 5] [0] 6 (by decide) (lenLe F 6 rfl) rfl 0 (by decide) (by decide) (by decide) (by decide) rfl (by show (0 : Nat) ≤ _; decide) _ rfl 4 36 rfl rfl 59 rfl fun v1381 W1382 T1378 hQ1380 J1379 => ?_
  obtain ⟨rfl, rfl⟩ := hQ1380
  have J1383 := J1379.norm (W' := o_SE se (.ref po) (.ref wb) (.ref ls) (.ref pts) (.int (0 : Int32)) (.int (-1 : Int32)) (.ref sv) (.ref pt) (.int (1 : Int32)) (.int (1 : Int32)) (.long (0 : Int64)) (.int (0 : Int32)) (.int (0 : Int32)) :: (pts, true, .inr (kp, (.object "com/example/lockstep/lockstep/core/ChoicePoint"), (16 : Int32), [(.ref c0), .null], .null)) :: o_CP c0 (.int (2 : Int32)) (.int (0 : Int32)) (.int (1 : Int32)) (.int (0 : Int32)) .null (.long (0 : Int64)) (.int (0 : Int32)) :: (e_, false, (o_Str e_ (.ref eb) (.int (0 : Int32))).2.2) :: o_LO lo  :: o_AL al (.int (1 : Int32)) (.int (2147483647 : Int32)) (.int (1 : Int32)) (.int (0 : Int32)) (.int (0 : Int32)) (.int bs) (.ref se) :: F) rfl
  show Run _ _ _ _ (State.setTop _ (mkF m 59 #[.val (.ref al), .val (.int (1 : Int32)), .val (.ref e_), .val (.ref lo)] [(.int (1 : Int32))]))
  refine p_if_y J1383 d55_59 (by decide) 90 (by decide) (by decide) ?_
  refine p_aload_n J1383 d55_90 rfl rfl 91 rfl ?_
  refine p_iconst J1383 d55_91 (z := (1 : Int32)) rfl 92 rfl ?_
  refine i_put J1383 d55_92 (mt (i := 410) rfl) Via.refl 5 3 rfl rfl sd_AL (Or.inl (mt (i := 411) rfl)) (mt (i := 390) rfl) (ty := .boolean) (by decide) rfl rfl 95 rfl (o_SE se (.ref po) (.ref wb) (.ref ls) (.ref pts) (.int (0 : Int32)) (.int (-1 : Int32)) (.ref sv) (.ref pt) (.int (1 : Int32)) (.int (1 : Int32)) (.long (0 : Int64)) (.int (0 : Int32)) (.int (0 : Int32)) :: (pts, true, .inr (kp, (.object "com/example/lockstep/lockstep/core/ChoicePoint"), (16 : Int32), [(.ref c0), .null], .null)) :: o_CP c0 (.int (2 : Int32)) (.int (0 : Int32)) (.int (1 : Int32)) (.int (0 : Int32)) .null (.long (0 : Int64)) (.int (0 : Int32)) :: (e_, false, (o_Str e_ (.ref eb) (.int (0 : Int32))).2.2) :: o_LO lo  :: o_AL al (.int (1 : Int32)) (.int (2147483647 : Int32)) (.int (1 : Int32)) (.int (1 : Int32)) (.int (0 : Int32)) (.int bs) (.ref se) :: F) rfl fun T1384 J1385 => ?_
  refine p_aload_n J1385 d55_95 rfl rfl 96 rfl ?_
  refine p_dup J1385 d55_96 rfl 97 rfl ?_
  refine i_get J1385 d55_97 (mt (i := 433) rfl) Via.refl 5 4 rfl rfl 100 rfl fun T1386 J1387 => ?_
  refine p_aload_n J1387 d55_100 rfl rfl 101 rfl ?_
  refine i_get J1387 d55_101 (mt (i := 435) rfl) Via.refl 5 5 rfl rfl 104 rfl fun T1388 J1389 => ?_
  refine p_ior J1389 d55_104 (z := bs) (by simp) 105 rfl ?_
  refine i_put J1389 d55_105 (mt (i := 433) rfl) Via.refl 5 4 rfl rfl sd_AL (Or.inl (mt (i := 434) rfl)) (mt (i := 390) rfl) (ty := .boolean) (by decide) (narB hbs) (fitB hbs) 108 rfl (o_SE se (.ref po) (.ref wb) (.ref ls) (.ref pts) (.int (0 : Int32)) (.int (-1 : Int32)) (.ref sv) (.ref pt) (.int (1 : Int32)) (.int (1 : Int32)) (.long (0 : Int64)) (.int (0 : Int32)) (.int (0 : Int32)) :: (pts, true, .inr (kp, (.object "com/example/lockstep/lockstep/core/ChoicePoint"), (16 : Int32), [(.ref c0), .null], .null)) :: o_CP c0 (.int (2 : Int32)) (.int (0 : Int32)) (.int (1 : Int32)) (.int (0 : Int32)) .null (.long (0 : Int64)) (.int (0 : Int32)) :: (e_, false, (o_Str e_ (.ref eb) (.int (0 : Int32))).2.2) :: o_LO lo  :: o_AL al (.int (1 : Int32)) (.int (2147483647 : Int32)) (.int (1 : Int32)) (.int (1 : Int32)) (.int bs) (.int bs) (.ref se) :: F) rfl fun T1390 J1391 => ?_
  refine p_iload_n J1391 d55_108 rfl 109 rfl ?_
  refine p_aload_n J1391 d55_109 rfl rfl 110 rfl ?_
  refine i_get J1391 d55_110 (mt (i := 396) rfl) Via.refl 5 0 rfl rfl 113 rfl fun T1392 J1393 => ?_
  refine p_icmp_y J1393 d55_113 (by decide) 120 (by decide) (by decide) ?_
  refine p_iconst J1393 d55_120 (z := (0 : Int32)) rfl 121 rfl ?_
  have J1394 := J1393.weak [5, 0, 1, 2, 3, 4] 6 (by decide) (lenLe F 6 rfl) (W' := o_AL al (.int (1 : Int32)) (.int (2147483647 : Int32)) (.int (1 : Int32)) (.int (1 : Int32)) (.int bs) (.int bs) (.ref se) :: o_SE se (.ref po) (.ref wb) (.ref ls) (.ref pts) (.int (0 : Int32)) (.int (-1 : Int32)) (.ref sv) (.ref pt) (.int (1 : Int32)) (.int (1 : Int32)) (.long (0 : Int64)) (.int (0 : Int32)) (.int (0 : Int32)) :: (pts, true, .inr (kp, (.object "com/example/lockstep/lockstep/core/ChoicePoint"), (16 : Int32), [(.ref c0), .null], .null)) :: o_CP c0 (.int (2 : Int32)) (.int (0 : Int32)) (.int (1 : Int32)) (.int (0 : Int32)) .null (.long (0 : Int64)) (.int (0 : Int32)) :: (e_, false, (o_Str e_ (.ref eb) (.int (0 : Int32))).2.2) :: o_LO lo  :: F) rfl
  exact r_val J1394 d55_121 (t := .boolean) rfl rfl (Or.inl ⟨rfl, by simp, _, rfl⟩) (by decide) (by decide) (Wf := [o_AL al (.int (1 : Int32)) (.int (2147483647 : Int32)) (.int (1 : Int32)) (.int (1 : Int32)) (.int bs) (.int bs) (.ref se), o_SE se (.ref po) (.ref wb) (.ref ls) (.ref pts) (.int (0 : Int32)) (.int (-1 : Int32)) (.ref sv) (.ref pt) (.int (1 : Int32)) (.int (1 : Int32)) (.long (0 : Int64)) (.int (0 : Int32)) (.int (0 : Int32)), (pts, true, .inr (kp, (.object "com/example/lockstep/lockstep/core/ChoicePoint"), (16 : Int32), [(.ref c0), .null], .null)), o_CP c0 (.int (2 : Int32)) (.int (0 : Int32)) (.int (1 : Int32)) (.int (0 : Int32)) .null (.long (0 : Int64)) (.int (0 : Int32)), (e_, false, (o_Str e_ (.ref eb) (.int (0 : Int32))).2.2), o_LO lo ]) rfl ⟨rfl, rfl⟩
theorem pn_exF : plainFor (⟨"com/example/lockstep/lockstep/core/ActiveLevels", "exceeds", "(ILjava/lang/String;Lcom/example/lockstep/lockstep/core/value/SourceLocation;)Z"⟩ : MethodName) = true := by first | exact plainFor_of_name (by first | (simp [plainName, overriddenIn]; done) | decide +kernel) | exact Jvm.Free.JP.mathPlain rfl (by decide +kernel) | decide +kernel
set_option maxRecDepth 65536 in
set_option maxHeartbeats 40000000 in
theorem c_exF {l : Launch} {Z : State} {a0 : Array Value} {EL : List (String × Nat)} (g : GC Z a0 EL) (a : Addr) (s_ : Addr) (le : Int32) (mo : Int32) (su : Int32) (fx : Int32) (sf : Int32) (bs : Int32) (e_ : Addr) (lo : Addr) (hfx : ¬ fx = 0) : Con l Z EL (⟨"com/example/lockstep/lockstep/core/ActiveLevels", "exceeds", "(ILjava/lang/String;Lcom/example/lockstep/lockstep/core/value/SourceLocation;)Z"⟩ : MethodName) prog_39_method_5_code 4 (some .boolean) { frames := 0, cells := 0, slots := 0, locals := 0 } [(.ref a), (.int le), (.ref e_), (.ref lo)] [o_AL a (.int le) (.int mo) (.int su) (.int fx) (.int sf) (.int bs) (.ref s_)] (fun v W' => v = some (.int (0 : Int32)) ∧ W' = [o_AL a (.int le) (.int mo) (.int su) (.int fx) (.int sf) (.int bs) (.ref s_)]) := by
  refine Con.mk g pn_exF (Ls := #[.val (.ref a), .val (.int le), .val (.ref e_), .val (.ref lo)]) (fun m => by first | (simp [entryFrame, mkF, argsToLocals, Value.category]; done) | rfl) ?_
  intro p e s m below meth c T0 F J0
  refine p_iload_n J0 d55_0 rfl 1 rfl ?_
  refine p_aload_n J0 d55_1 rfl rfl 2 rfl ?_
  refine i_get J0 d55_2 (mt (i := 396) rfl) Via.refl 0 0 rfl rfl 5 rfl fun T1395 J1396 => ?_
  refine p_icmp_n J1396 d55_5 (teq rfl).2 8 rfl ?_
  refine p_aload_n J1396 d55_8 rfl rfl 9 rfl ?_
  refine i_get J1396 d55_9 (mt (i := 410) rfl) Via.refl 0 3 rfl rfl 12 rfl fun T1397 J1398 => ?_
  refine p_if_y J1398 d55_12 ((if0 _ _).trans (feq hfx).2) 34 (by decide) (by decide) ?_
  refine p_iload_n J1398 d55_34 rfl 35 rfl ?_
  refine p_aload_n J1398 d55_35 rfl rfl 36 rfl ?_
  refine i_get J1398 d55_36 (mt (i := 396) rfl) Via.refl 0 0 rfl rfl 39 rfl fun T1399 J1400 => ?_
  refine p_icmp_n J1400 d55_39 (teq rfl).2 42 rfl ?_
  refine p_aload_n J1400 d55_42 rfl rfl 43 rfl ?_
  refine i_get J1400 d55_43 (mt (i := 410) rfl) Via.refl 0 3 rfl rfl 46 rfl fun T1401 J1402 => ?_
  refine p_if_y J1402 d55_46 ((if0 _ _).trans (feq hfx).2) 108 (by decide) (by decide) ?_
  refine p_iload_n J1402 d55_108 rfl 109 rfl ?_
  refine p_aload_n J1402 d55_109 rfl rfl 110 rfl ?_
  refine i_get J1402 d55_110 (mt (i := 396) rfl) Via.refl 0 0 rfl rfl 113 rfl fun T1403 J1404 => ?_
  refine p_icmp_y J1404 d55_113 (flt (irr le)).2.1 120 (by decide) (by decide) ?_
  refine p_iconst J1404 d55_120 (z := (0 : Int32)) rfl 121 rfl ?_
  exact r_val J1404 d55_121 (t := .boolean) rfl rfl (Or.inl ⟨rfl, by simp, _, rfl⟩) (by decide) (by decide) (Wf := [o_AL a (.int le) (.int mo) (.int su) (.int fx) (.int sf) (.int bs) (.ref s_)]) rfl ⟨rfl, rfl⟩
theorem d56_0 : decode jdk_69_method_22_code 0 = .ok (.aload_n 0, 1) := by decide +kernel
theorem d56_1 : decode jdk_69_method_22_code 1 = .ok (.dup, 1) := by decide +kernel
theorem d56_2 : decode jdk_69_method_22_code 2 = .ok (.getfield 202, 3) := by decide +kernel
theorem d56_5 : decode jdk_69_method_22_code 5 = .ok (.iconst 1, 1) := by decide +kernel
theorem d56_6 : decode jdk_69_method_22_code 6 = .ok (.iadd, 1) := by decide +kernel
theorem d56_7 : decode jdk_69_method_22_code 7 = .ok (.putfield 202, 3) := by decide +kernel
theorem d56_10 : decode jdk_69_method_22_code 10 = .ok (.aload_n 0, 1) := by decide +kernel
theorem d56_11 : decode jdk_69_method_22_code 11 = .ok (.getfield 105, 3) := by decide +kernel
theorem d56_14 : decode jdk_69_method_22_code 14 = .ok (.dup, 1) := by decide +kernel
theorem d56_15 : decode jdk_69_method_22_code 15 = .ok (.astore_n 1, 1) := by decide +kernel
theorem d56_16 : decode jdk_69_method_22_code 16 = .ok (.ifnull 33, 3) := by decide +kernel
theorem d56_49 : decode jdk_69_method_22_code 49 = .ok (.return_, 1) := by decide +kernel
theorem pn_hmclear : plainFor (⟨"java/util/HashMap", "clear", "()V"⟩ : MethodName) = true := by first | exact plainFor_of_name (by first | (simp [plainName, overriddenIn]; done) | decide +kernel) | exact Jvm.Free.JP.mathPlain rfl (by decide +kernel) | decide +kernel
set_option maxRecDepth 65536 in
set_option maxHeartbeats 40000000 in
theorem c_hmclear {l : Launch} {Z : State} {a0 : Array Value} {EL : List (String × Nat)} (g : GC Z a0 EL) (a : Addr)  : Con l Z EL (⟨"java/util/HashMap", "clear", "()V"⟩ : MethodName) jdk_69_method_22_code 3 none { frames := 0, cells := 0, slots := 0, locals := 0 } [(.ref a)] [o_HM a (.int (0 : Int32)) .null] (fun v W' => v = none ∧ W' = []) := by
  refine Con.mk g pn_hmclear (Ls := #[.val (.ref a), .unset, .unset]) (fun m => by first | (simp [entryFrame, mkF, argsToLocals, Value.category]; done) | rfl) ?_
  intro p e s m below meth c T0 F J0
  refine p_aload_n J0 d56_0 rfl rfl 1 rfl ?_
  refine p_dup J0 d56_1 rfl 2 rfl ?_
  refine i_get J0 d56_2 (mt (i := 536) rfl) Via.refl 0 0 rfl rfl 5 rfl fun T1405 J1406 => ?_
  refine p_iconst J1406 d56_5 (z := (1 : Int32)) rfl 6 rfl ?_
  refine p_iadd J1406 d56_6 (z := (1 : Int32)) (by decide) 7 rfl ?_
  refine i_put J1406 d56_7 (mt (i := 536) rfl) Via.refl 0 0 rfl rfl sd_HM (Or.inl (mt (i := 537) rfl)) (mt (i := 43) rfl) (ty := .int) (by decide) rfl rfl 10 rfl (o_HM a (.int (1 : Int32)) .null :: F) rfl fun T1407 J1408 => ?_
  refine p_aload_n J1408 d56_10 rfl rfl 11 rfl ?_
  refine i_get J1408 d56_11 (mt (i := 538) rfl) Via.refl 0 1 rfl rfl 14 rfl fun T1409 J1410 => ?_
  refine p_dup J1410 d56_14 rfl 15 rfl ?_
  refine p_astore_n J1410 #[.val (.ref a), .val .null, .unset] d56_15 rfl rfl 16 rfl ?_
  refine p_ifnull_y J1410 d56_16 49 (by decide) (by decide) ?_
  have J1411 := J1410.weak [] 1 (by decide) (lenLe F 1 rfl) (W' := F) rfl
  exact r_void J1411 d56_49 rfl (by decide) (by decide) (Wf := []) rfl ⟨rfl, rfl⟩
theorem d57_0 : decode prog_189_method_5_code 0 = .ok (.aload_n 0, 1) := by decide +kernel
theorem d57_1 : decode prog_189_method_5_code 1 = .ok (.getfield 10, 3) := by decide +kernel
theorem d57_4 : decode prog_189_method_5_code 4 = .ok (.invokeinterface 59 1, 5) := by decide +kernel
theorem d57_9 : decode prog_189_method_5_code 9 = .ok (.aload_n 0, 1) := by decide +kernel
theorem d57_10 : decode prog_189_method_5_code 10 = .ok (.aconst_null, 1) := by decide +kernel
theorem d57_11 : decode prog_189_method_5_code 11 = .ok (.putfield 16, 3) := by decide +kernel
theorem d57_14 : decode prog_189_method_5_code 14 = .ok (.aload_n 0, 1) := by decide +kernel
theorem d57_15 : decode prog_189_method_5_code 15 = .ok (.aconst_null, 1) := by decide +kernel
theorem d57_16 : decode prog_189_method_5_code 16 = .ok (.putfield 24, 3) := by decide +kernel
theorem d57_19 : decode prog_189_method_5_code 19 = .ok (.return_, 1) := by decide +kernel
theorem pn_pcclear : plainFor (⟨"com/example/lockstep/lockstep/core/PassCounts", "clear", "()V"⟩ : MethodName) = true := by first | exact plainFor_of_name (by first | (simp [plainName, overriddenIn]; done) | decide +kernel) | exact Jvm.Free.JP.mathPlain rfl (by decide +kernel) | decide +kernel
set_option maxRecDepth 65536 in
set_option maxHeartbeats 40000000 in
theorem c_pcclear {l : Launch} {Z : State} {a0 : Array Value} {EL : List (String × Nat)} (g : GC Z a0 EL) (a : Addr) (h : Addr)  : Con l Z EL (⟨"com/example/lockstep/lockstep/core/PassCounts", "clear", "()V"⟩ : MethodName) prog_189_method_5_code 1 none { frames := 1, cells := 0, slots := 0, locals := 14 } [(.ref a)] [o_PC a (.ref h), o_HM h (.int (0 : Int32)) .null] (fun v W' => v = none ∧ W' = []) := by
  refine Con.mk g pn_pcclear (Ls := #[.val (.ref a)]) (fun m => by first | (simp [entryFrame, mkF, argsToLocals, Value.category]; done) | rfl) ?_
  intro p e s m below meth c T0 F J0
  refine p_aload_n J0 d57_0 rfl rfl 1 rfl ?_
  refine i_get J0 d57_1 (mt (i := 58) rfl) Via.refl 0 0 rfl rfl 4 rfl fun T1412 J1413 => ?_
  refine i_iface J1413 d57_4 (mt (i := 527) rfl) (mt (i := 528) rfl) (mt (i := 529) rfl) (mt (i := 530) rfl) (mt (i := 531) rfl) (mt (i := 532) rfl) (mt (i := 533) rfl) (mt (i := 534) rfl) (mt (i := 44) rfl) (mt (i := 535) rfl) (by decide) (lenOf pd_0 rfl) 1 rfl (c_hmclear g h ) [1] [0] 2 (by decide) (lenLe F 2 rfl) rfl 0 (by decide) (by decide) (by decide) (by decide) rfl (by show (0 : Nat) ≤ _; decide) _ rfl 0 0 rfl rfl 9 rfl fun v1417 W1418 T1414 hQ1416 J1415 => ?_
  obtain ⟨rfl, rfl⟩ := hQ1416
  have J1419 := J1415.norm (W' := o_PC a (.ref h) :: F) rfl
  show Run _ _ _ _ (State.setTop _ (mkF m 9 #[.val (.ref a)] []))
  refine p_aload_n J1419 d57_9 rfl rfl 10 rfl ?_
  refine p_aconst_null J1419 d57_10 11 rfl ?_
  refine i_putX J1419 d57_11 (mt (i := 540) rfl) Via.refl 0 rfl kd_PC (ks := ks_PC) rfl (by decide) (Or.inl (mt (i := 541) rfl)) (mt (i := 36) rfl) (ty := (.object "com/example/lockstep/lockstep/core/value/SourceLocation")) (by decide) rfl rfl 14 rfl fun T1420 J1421 => ?_
  refine p_aload_n J1421 d57_14 rfl rfl 15 rfl ?_
  refine p_aconst_null J1421 d57_15 16 rfl ?_
  refine i_putX J1421 d57_16 (mt (i := 542) rfl) Via.refl 0 rfl kd_PC (ks := ks_PC) rfl (by decide) (Or.inl (mt (i := 543) rfl)) (mt (i := 36) rfl) (ty := (.array .long)) (by decide) rfl rfl 19 rfl fun T1422 J1423 => ?_
  have J1424 := J1423.weak [] 1 (by decide) (lenLe F 1 rfl) (W' := F) rfl
  exact r_void J1424 d57_19 rfl (by decide) (by decide) (Wf := []) rfl ⟨rfl, rfl⟩
theorem d58_0 : decode jdk_93_method_12_code 0 = .ok (.aload_n 0, 1) := by decide +kernel
theorem d58_1 : decode jdk_93_method_12_code 1 = .ok (.getfield 10, 3) := by decide +kernel
theorem d58_4 : decode jdk_93_method_12_code 4 = .ok (.invokevirtual 76, 3) := by decide +kernel
theorem d58_7 : decode jdk_93_method_12_code 7 = .ok (.return_, 1) := by decide +kernel
theorem pn_hsclear : plainFor (⟨"java/util/HashSet", "clear", "()V"⟩ : MethodName) = true := by first | exact plainFor_of_name (by first | (simp [plainName, overriddenIn]; done) | decide +kernel) | exact Jvm.Free.JP.mathPlain rfl (by decide +kernel) | decide +kernel
set_option maxRecDepth 65536 in
set_option maxHeartbeats 40000000 in
theorem c_hsclear {l : Launch} {Z : State} {a0 : Array Value} {EL : List (String × Nat)} (g : GC Z a0 EL) (a : Addr) (h : Addr)  : Con l Z EL (⟨"java/util/HashSet", "clear", "()V"⟩ : MethodName) jdk_93_method_12_code 1 none { frames := 1, cells := 0, slots := 0, locals := 14 } [(.ref a)] [o_HS a (.ref h), o_HM h (.int (0 : Int32)) .null] (fun v W' => v = none ∧ W' = []) := by
  refine Con.mk g pn_hsclear (Ls := #[.val (.ref a)]) (fun m => by first | (simp [entryFrame, mkF, argsToLocals, Value.category]; done) | rfl) ?_
  intro p e s m below meth c T0 F J0
  refine p_aload_n J0 d58_0 rfl rfl 1 rfl ?_
  refine i_get J0 d58_1 (mt (i := 86) rfl) Via.refl 0 0 rfl rfl 4 rfl fun T1425 J1426 => ?_
  refine i_virtual J1426 d58_4 (mt (i := 553) rfl) (mt (i := 554) rfl) (nfSel (mt (i := 555) rfl)) (mt (i := 555) rfl) (mt (i := 531) rfl) (mt (i := 44) rfl) (mt (i := 535) rfl) (by decide) (lenOf pd_0 rfl) 1 rfl (c_hmclear g h ) [1] [0] 2 (by decide) (lenLe F 2 rfl) rfl 0 (by decide) (by decide) (by decide) (by decide) rfl (by show (0 : Nat) ≤ _; decide) _ rfl 0 0 rfl rfl 7 rfl fun v1430 W1431 T1427 hQ1429 J1428 => ?_
  obtain ⟨rfl, rfl⟩ := hQ1429
  have J1432 := J1428.norm (W' := o_HS a (.ref h) :: F) rfl
  show Run _ _ _ _ (State.setTop _ (mkF m 7 #[.val (.ref a)] []))
  have J1433 := J1432.weak [] 1 (by decide) (lenLe F 1 rfl) (W' := F) rfl
  exact r_void J1433 d58_7 rfl (by decide) (by decide) (Wf := []) rfl ⟨rfl, rfl⟩
theorem d59_0 : decode jdk_38_method_9_code 0 = .ok (.aload_n 0, 1) := by decide +kernel
theorem d59_1 : decode jdk_38_method_9_code 1 = .ok (.getfield 48, 3) := by decide +kernel
theorem d59_4 : decode jdk_38_method_9_code 4 = .ok (.ifCond .ne 7, 3) := by decide +kernel
theorem d59_7 : decode jdk_38_method_9_code 7 = .ok (.iconst 1, 1) := by decide +kernel
theorem d59_8 : decode jdk_38_method_9_code 8 = .ok (.goto 4, 3) := by decide +kernel
theorem d59_12 : decode jdk_38_method_9_code 12 = .ok (.ireturn, 1) := by decide +kernel
theorem pn_ayempty : plainFor (⟨"java/util/ArrayList", "isEmpty", "()Z"⟩ : MethodName) = true := by first | exact plainFor_of_name (by first | (simp [plainName, overriddenIn]; done) | decide +kernel) | exact Jvm.Free.JP.mathPlain rfl (by decide +kernel) | decide +kernel
set_option maxRecDepth 65536 in
set_option maxHeartbeats 40000000 in
theorem c_ayempty {l : Launch} {Z : State} {a0 : Array Value} {EL : List (String × Nat)} (g : GC Z a0 EL) (a : Addr)  : Con l Z EL (⟨"java/util/ArrayList", "isEmpty", "()Z"⟩ : MethodName) jdk_38_method_9_code 1 (some .boolean) { frames := 0, cells := 0, slots := 0, locals := 0 } [(.ref a)] [o_AY a (.int (0 : Int32))] (fun v W' => v = some (.int (1 : Int32)) ∧ W' = [o_AY a (.int (0 : Int32))]) := by
  refine Con.mk g pn_ayempty (Ls := #[.val (.ref a)]) (fun m => by first | (simp [entryFrame, mkF, argsToLocals, Value.category]; done) | rfl) ?_
  intro p e s m below meth c T0 F J0
  refine p_aload_n J0 d59_0 rfl rfl 1 rfl ?_
  refine i_get J0 d59_1 (mt (i := 288) rfl) Via.refl 0 0 rfl rfl 4 rfl fun T1434 J1435 => ?_
  refine p_if_n J1435 d59_4 (by decide) 7 rfl ?_
  refine p_iconst J1435 d59_7 (z := (1 : Int32)) rfl 8 rfl ?_
  refine p_goto J1435 d59_8 12 (by decide) (by decide) ?_
  exact r_val J1435 d59_12 (t := .boolean) rfl rfl (Or.inl ⟨rfl, by simp, _, rfl⟩) (by decide) (by decide) (Wf := [o_AY a (.int (0 : Int32))]) rfl ⟨rfl, rfl⟩
theorem d60_0 : decode jdk_38_method_8_code 0 = .ok (.aload_n 0, 1) := by decide +kernel
theorem d60_1 : decode jdk_38_method_8_code 1 = .ok (.getfield 48, 3) := by decide +kernel
theorem d60_4 : decode jdk_38_method_8_code 4 = .ok (.ireturn, 1) := by decide +kernel
theorem pn_aysize : plainFor (⟨"java/util/ArrayList", "size", "()I"⟩ : MethodName) = true := by first | exact plainFor_of_name (by first | (simp [plainName, overriddenIn]; done) | decide +kernel) | exact Jvm.Free.JP.mathPlain rfl (by decide +kernel) | decide +kernel
set_option maxRecDepth 65536 in
set_option maxHeartbeats 40000000 in
theorem c_aysize {l : Launch} {Z : State} {a0 : Array Value} {EL : List (String × Nat)} (g : GC Z a0 EL) (a : Addr)  : Con l Z EL (⟨"java/util/ArrayList", "size", "()I"⟩ : MethodName) jdk_38_method_8_code 1 (some .int) { frames := 0, cells := 0, slots := 0, locals := 0 } [(.ref a)] [o_AY a (.int (0 : Int32))] (fun v W' => v = some (.int (0 : Int32)) ∧ W' = [o_AY a (.int (0 : Int32))]) := by
  refine Con.mk g pn_aysize (Ls := #[.val (.ref a)]) (fun m => by first | (simp [entryFrame, mkF, argsToLocals, Value.category]; done) | rfl) ?_
  intro p e s m below meth c T0 F J0
  refine p_aload_n J0 d60_0 rfl rfl 1 rfl ?_
  refine i_get J0 d60_1 (mt (i := 288) rfl) Via.refl 0 0 rfl rfl 4 rfl fun T1436 J1437 => ?_
  exact r_val J1437 d60_4 (t := .int) rfl rfl (Or.inl ⟨rfl, by simp, _, rfl⟩) (by decide) (by decide) (Wf := [o_AY a (.int (0 : Int32))]) rfl ⟨rfl, rfl⟩
theorem d61_0 : decode prog_206_method_91_code 0 = .ok (.aload_n 0, 1) := by decide +kernel
theorem d61_1 : decode prog_206_method_91_code 1 = .ok (.iconst 0, 1) := by decide +kernel
theorem d61_2 : decode prog_206_method_91_code 2 = .ok (.putfield 417, 3) := by decide +kernel
theorem d61_5 : decode prog_206_method_91_code 5 = .ok (.aload_n 0, 1) := by decide +kernel
theorem d61_6 : decode prog_206_method_91_code 6 = .ok (.iconst 0, 1) := by decide +kernel
theorem d61_7 : decode prog_206_method_91_code 7 = .ok (.putfield 442, 3) := by decide +kernel
theorem d61_10 : decode prog_206_method_91_code 10 = .ok (.aload_n 0, 1) := by decide +kernel
theorem d61_11 : decode prog_206_method_91_code 11 = .ok (.iconst 0, 1) := by decide +kernel
theorem d61_12 : decode prog_206_method_91_code 12 = .ok (.putfield 420, 3) := by decide +kernel
theorem d61_15 : decode prog_206_method_91_code 15 = .ok (.aload_n 0, 1) := by decide +kernel
theorem d61_16 : decode prog_206_method_91_code 16 = .ok (.iconst 0, 1) := by decide +kernel
theorem d61_17 : decode prog_206_method_91_code 17 = .ok (.putfield 445, 3) := by decide +kernel
theorem d61_20 : decode prog_206_method_91_code 20 = .ok (.aload_n 0, 1) := by decide +kernel
theorem d61_21 : decode prog_206_method_91_code 21 = .ok (.lconst 0, 1) := by decide +kernel
theorem d61_22 : decode prog_206_method_91_code 22 = .ok (.putfield 423, 3) := by decide +kernel
theorem d61_25 : decode prog_206_method_91_code 25 = .ok (.aload_n 0, 1) := by decide +kernel
theorem d61_26 : decode prog_206_method_91_code 26 = .ok (.iconst (-1), 1) := by decide +kernel
theorem d61_27 : decode prog_206_method_91_code 27 = .ok (.putfield 114, 3) := by decide +kernel
theorem d61_30 : decode prog_206_method_91_code 30 = .ok (.aload_n 0, 1) := by decide +kernel
theorem d61_31 : decode prog_206_method_91_code 31 = .ok (.iconst (-1), 1) := by decide +kernel
theorem d61_32 : decode prog_206_method_91_code 32 = .ok (.putfield 117, 3) := by decide +kernel
theorem d61_35 : decode prog_206_method_91_code 35 = .ok (.aload_n 0, 1) := by decide +kernel
theorem d61_36 : decode prog_206_method_91_code 36 = .ok (.getfield 18, 3) := by decide +kernel
theorem d61_39 : decode prog_206_method_91_code 39 = .ok (.invokevirtual 632, 3) := by decide +kernel
theorem d61_42 : decode prog_206_method_91_code 42 = .ok (.aload_n 0, 1) := by decide +kernel
theorem d61_43 : decode prog_206_method_91_code 43 = .ok (.getfield 22, 3) := by decide +kernel
theorem d61_46 : decode prog_206_method_91_code 46 = .ok (.invokevirtual 632, 3) := by decide +kernel
theorem d61_49 : decode prog_206_method_91_code 49 = .ok (.aload_n 0, 1) := by decide +kernel
theorem d61_50 : decode prog_206_method_91_code 50 = .ok (.getfield 28, 3) := by decide +kernel
theorem d61_53 : decode prog_206_method_91_code 53 = .ok (.invokeinterface 633 1, 5) := by decide +kernel
theorem d61_58 : decode prog_206_method_91_code 58 = .ok (.aload_n 0, 1) := by decide +kernel
theorem d61_59 : decode prog_206_method_91_code 59 = .ok (.lconst 0, 1) := by decide +kernel
theorem d61_60 : decode prog_206_method_91_code 60 = .ok (.putfield 183, 3) := by decide +kernel
theorem d61_63 : decode prog_206_method_91_code 63 = .ok (.aload_n 0, 1) := by decide +kernel
theorem d61_64 : decode prog_206_method_91_code 64 = .ok (.iconst 0, 1) := by decide +kernel
theorem d61_65 : decode prog_206_method_91_code 65 = .ok (.putfield 94, 3) := by decide +kernel
theorem d61_68 : decode prog_206_method_91_code 68 = .ok (.aload_n 0, 1) := by decide +kernel
theorem d61_69 : decode prog_206_method_91_code 69 = .ok (.getfield 296, 3) := by decide +kernel
theorem d61_72 : decode prog_206_method_91_code 72 = .ok (.ifCond .eq 85, 3) := by decide +kernel
theorem d61_157 : decode prog_206_method_91_code 157 = .ok (.aload_n 0, 1) := by decide +kernel
theorem d61_158 : decode prog_206_method_91_code 158 = .ok (.getfield 266, 3) := by decide +kernel
theorem d61_161 : decode prog_206_method_91_code 161 = .ok (.ifCond .le 33, 3) := by decide +kernel
theorem d61_164 : decode prog_206_method_91_code 164 = .ok (.aload_n 0, 1) := by decide +kernel
theorem d61_165 : decode prog_206_method_91_code 165 = .ok (.getfield 110, 3) := by decide +kernel
theorem d61_168 : decode prog_206_method_91_code 168 = .ok (.aload_n 0, 1) := by decide +kernel
theorem d61_169 : decode prog_206_method_91_code 169 = .ok (.getfield 266, 3) := by decide +kernel
theorem d61_172 : decode prog_206_method_91_code 172 = .ok (.iconst 1, 1) := by decide +kernel
theorem d61_173 : decode prog_206_method_91_code 173 = .ok (.isub, 1) := by decide +kernel
theorem d61_174 : decode prog_206_method_91_code 174 = .ok (.aaload, 1) := by decide +kernel
theorem d61_175 : decode prog_206_method_91_code 175 = .ok (.invokevirtual 638, 3) := by decide +kernel
theorem d61_178 : decode prog_206_method_91_code 178 = .ok (.ifCond .ne 16, 3) := by decide +kernel
theorem d61_194 : decode prog_206_method_91_code 194 = .ok (.aload_n 0, 1) := by decide +kernel
theorem d61_195 : decode prog_206_method_91_code 195 = .ok (.getfield 266, 3) := by decide +kernel
theorem d61_198 : decode prog_206_method_91_code 198 = .ok (.ifCond .ne 5, 3) := by decide +kernel
theorem d61_203 : decode prog_206_method_91_code 203 = .ok (.aload_n 0, 1) := by decide +kernel
theorem d61_204 : decode prog_206_method_91_code 204 = .ok (.getfield 110, 3) := by decide +kernel
theorem d61_207 : decode prog_206_method_91_code 207 = .ok (.aload_n 0, 1) := by decide +kernel
theorem d61_208 : decode prog_206_method_91_code 208 = .ok (.getfield 266, 3) := by decide +kernel
theorem d61_211 : decode prog_206_method_91_code 211 = .ok (.iconst 1, 1) := by decide +kernel
theorem d61_212 : decode prog_206_method_91_code 212 = .ok (.isub, 1) := by decide +kernel
theorem d61_213 : decode prog_206_method_91_code 213 = .ok (.aaload, 1) := by decide +kernel
theorem d61_214 : decode prog_206_method_91_code 214 = .ok (.invokevirtual 641, 3) := by decide +kernel
theorem d61_217 : decode prog_206_method_91_code 217 = .ok (.aload_n 0, 1) := by decide +kernel
theorem d61_218 : decode prog_206_method_91_code 218 = .ok (.aload_n 0, 1) := by decide +kernel
theorem d61_219 : decode prog_206_method_91_code 219 = .ok (.getfield 266, 3) := by decide +kernel
theorem d61_222 : decode prog_206_method_91_code 222 = .ok (.putfield 387, 3) := by decide +kernel
theorem d61_225 : decode prog_206_method_91_code 225 = .ok (.aload_n 0, 1) := by decide +kernel
theorem d61_226 : decode prog_206_method_91_code 226 = .ok (.iconst 0, 1) := by decide +kernel
theorem d61_227 : decode prog_206_method_91_code 227 = .ok (.putfield 266, 3) := by decide +kernel
theorem d61_230 : decode prog_206_method_91_code 230 = .ok (.aload_n 0, 1) := by decide +kernel
theorem d61_231 : decode prog_206_method_91_code 231 = .ok (.getfield 194, 3) := by decide +kernel
theorem d61_234 : decode prog_206_method_91_code 234 = .ok (.aload_n 0, 1) := by decide +kernel
theorem d61_235 : decode prog_206_method_91_code 235 = .ok (.getfield 387, 3) := by decide +kernel
theorem d61_238 : decode prog_206_method_91_code 238 = .ok (.if_icmp .lt 7, 3) := by decide +kernel
theorem d61_245 : decode prog_206_method_91_code 245 = .ok (.aload_n 0, 1) := by decide +kernel
theorem d61_246 : decode prog_206_method_91_code 246 = .ok (.getfield 120, 3) := by decide +kernel
theorem d61_249 : decode prog_206_method_91_code 249 = .ok (.invokeinterface 314 1, 5) := by decide +kernel
theorem d61_254 : decode prog_206_method_91_code 254 = .ok (.ifCond .ne 60, 3) := by decide +kernel
theorem d61_314 : decode prog_206_method_91_code 314 = .ok (.aload_n 0, 1) := by decide +kernel
theorem d61_315 : decode prog_206_method_91_code 315 = .ok (.getfield 98, 3) := by decide +kernel
theorem d61_318 : decode prog_206_method_91_code 318 = .ok (.invokeinterface 448 1, 5) := by decide +kernel
theorem d61_323 : decode prog_206_method_91_code 323 = .ok (.iconst 1, 1) := by decide +kernel
theorem d61_324 : decode prog_206_method_91_code 324 = .ok (.isub, 1) := by decide +kernel
theorem d61_325 : decode prog_206_method_91_code 325 = .ok (.istore_n 1, 1) := by decide +kernel
theorem d61_326 : decode prog_206_method_91_code 326 = .ok (.iload_n 1, 1) := by decide +kernel
theorem d61_327 : decode prog_206_method_91_code 327 = .ok (.ifCond .lt 90, 3) := by decide +kernel
theorem d61_417 : decode prog_206_method_91_code 417 = .ok (.iconst 1, 1) := by decide +kernel
theorem d61_418 : decode prog_206_method_91_code 418 = .ok (.ireturn, 1) := by decide +kernel
theorem pn_next : plainFor (⟨"com/example/lockstep/lockstep/core/Search", "next", "()Z"⟩ : MethodName) = true := by first | exact plainFor_of_name (by first | (simp [plainName, overriddenIn]; done) | decide +kernel) | exact Jvm.Free.JP.mathPlain rfl (by decide +kernel) | decide +kernel
set_option maxRecDepth 65536 in
set_option maxHeartbeats 40000000 in
theorem c_next {l : Launch} {Z : State} {a0 : Array Value} {EL : List (String × Nat)} (g : GC Z a0 EL) (se : Addr) (po : Addr) (wb : Addr) (ls : Addr) (pts : Addr) (kp : ClassId) (sv : Addr) (pt : Addr) (po1 : Addr) (wb1 : Addr) (ls1 : Addr) (c0 : Addr)  : Con l Z EL (⟨"com/example/lockstep/lockstep/core/Search", "next", "()Z"⟩ : MethodName) prog_206_method_91_code 3 (some .boolean) { frames := 2, cells := 0, slots := 0, locals := 26 } [(.ref se)] [o_SE se (.ref po) (.ref wb) (.ref ls) (.ref pts) (.int (0 : Int32)) (.int (-1 : Int32)) (.ref sv) (.ref pt) (.int (1 : Int32)) (.int (0 : Int32)) (.long (0 : Int64)) (.int (0 : Int32)) (.int (0 : Int32)), o_PC po (.ref po1), o_HM po1 (.int (0 : Int32)) .null, o_PC wb (.ref wb1), o_HM wb1 (.int (0 : Int32)) .null, o_HS ls (.ref ls1), o_HM ls1 (.int (0 : Int32)) .null, (pts, true, .inr (kp, (.object "com/example/lockstep/lockstep/core/ChoicePoint"), (16 : Int32), [(.ref c0), .null], .null)), o_CP c0 (.int (2 : Int32)) (.int (0 : Int32)) (.int (0 : Int32)) (.int (0 : Int32)) .null (.long (0 : Int64)) (.int (0 : Int32)), o_AY sv (.int (0 : Int32)), o_AY pt (.int (0 : Int32))] (fun v W' => v = some (.int (1 : Int32)) ∧ W' = [o_SE se (.ref po) (.ref wb) (.ref ls) (.ref pts) (.int (0 : Int32)) (.int (-1 : Int32)) (.ref sv) (.ref pt) (.int (0 : Int32)) (.int (1 : Int32)) (.long (0 : Int64)) (.int (0 : Int32)) (.int (0 : Int32)), (pts, true, .inr (kp, (.object "com/example/lockstep/lockstep/core/ChoicePoint"), (16 : Int32), [(.ref c0), .null], .null)), o_CP c0 (.int (2 : Int32)) (.int (0 : Int32)) (.int (1 : Int32)) (.int (0 : Int32)) .null (.long (0 : Int64)) (.int (0 : Int32))]) := by
  refine Con.mk g pn_next (Ls := #[.val (.ref se), .unset, .unset]) (fun m => by first | (simp [entryFrame, mkF, argsToLocals, Value.category]; done) | rfl) ?_
  intro p e s m below meth c T0 F J0
  refine p_aload_n J0 d61_0 rfl rfl 1 rfl ?_
  refine p_iconst J0 d61_1 (z := (0 : Int32)) rfl 2 rfl ?_
  refine i_putX J0 d61_2 (mt (i := 514) rfl) Via.refl 0 rfl kd_SE (ks := ks_SE) rfl (by decide) (Or.inl (mt (i := 515) rfl)) (mt (i := 2) rfl) (ty := .int) (by decide) rfl rfl 5 rfl fun T1438 J1439 => ?_
  refine p_aload_n J1439 d61_5 rfl rfl 6 rfl ?_
  refine p_iconst J1439 d61_6 (z := (0 : Int32)) rfl 7 rfl ?_
  refine i_putX J1439 d61_7 (mt (i := 516) rfl) Via.refl 0 rfl kd_SE (ks := ks_SE) rfl (by decide) (Or.inl (mt (i := 517) rfl)) (mt (i := 2) rfl) (ty := .int) (by decide) rfl rfl 10 rfl fun T1440 J1441 => ?_
  refine p_aload_n J1441 d61_10 rfl rfl 11 rfl ?_
  refine p_iconst J1441 d61_11 (z := (0 : Int32)) rfl 12 rfl ?_
  refine i_putX J1441 d61_12 (mt (i := 518) rfl) Via.refl 0 rfl kd_SE (ks := ks_SE) rfl (by decide) (Or.inl (mt (i := 519) rfl)) (mt (i := 2) rfl) (ty := .int) (by decide) rfl rfl 15 rfl fun T1442 J1443 => ?_
  refine p_aload_n J1443 d61_15 rfl rfl 16 rfl ?_
  refine p_iconst J1443 d61_16 (z := (0 : Int32)) rfl 17 rfl ?_
  refine i_putX J1443 d61_17 (mt (i := 520) rfl) Via.refl 0 rfl kd_SE (ks := ks_SE) rfl (by decide) (Or.inl (mt (i := 521) rfl)) (mt (i := 2) rfl) (ty := .int) (by decide) rfl rfl 20 rfl fun T1444 J1445 => ?_
  refine p_aload_n J1445 d61_20 rfl rfl 21 rfl ?_
  refine p_lconst J1445 d61_21 (z := (0 : Int64)) rfl 22 rfl ?_
  refine i_put J1445 d61_22 (mt (i := 470) rfl) Via.refl 0 10 rfl rfl sd_SE (Or.inl (mt (i := 471) rfl)) (mt (i := 2) rfl) (ty := .long) (by decide) rfl rfl 25 rfl (o_SE se (.ref po) (.ref wb) (.ref ls) (.ref pts) (.int (0 : Int32)) (.int (-1 : Int32)) (.ref sv) (.ref pt) (.int (1 : Int32)) (.int (0 : Int32)) (.long (0 : Int64)) (.int (0 : Int32)) (.int (0 : Int32)) :: o_PC po (.ref po1) :: o_HM po1 (.int (0 : Int32)) .null :: o_PC wb (.ref wb1) :: o_HM wb1 (.int (0 : Int32)) .null :: o_HS ls (.ref ls1) :: o_HM ls1 (.int (0 : Int32)) .null :: (pts, true, .inr (kp, (.object "com/example/lockstep/lockstep/core/ChoicePoint"), (16 : Int32), [(.ref c0), .null], .null)) :: o_CP c0 (.int (2 : Int32)) (.int (0 : Int32)) (.int (0 : Int32)) (.int (0 : Int32)) .null (.long (0 : Int64)) (.int (0 : Int32)) :: o_AY sv (.int (0 : Int32)) :: o_AY pt (.int (0 : Int32)) :: F) rfl fun T1446 J1447 => ?_
  refine p_aload_n J1447 d61_25 rfl rfl 26 rfl ?_
  refine p_iconst J1447 d61_26 (z := (-1 : Int32)) rfl 27 rfl ?_
  refine i_putX J1447 d61_27 (mt (i := 332) rfl) Via.refl 0 rfl kd_SE (ks := ks_SE) rfl (by decide) (Or.inl (mt (i := 333) rfl)) (mt (i := 2) rfl) (ty := .int) (by decide) rfl rfl 30 rfl fun T1448 J1449 => ?_
  refine p_aload_n J1449 d61_30 rfl rfl 31 rfl ?_
  refine p_iconst J1449 d61_31 (z := (-1 : Int32)) rfl 32 rfl ?_
  refine i_put J1449 d61_32 (mt (i := 334) rfl) Via.refl 0 5 rfl rfl sd_SE (Or.inl (mt (i := 335) rfl)) (mt (i := 2) rfl) (ty := .int) (by decide) rfl rfl 35 rfl (o_SE se (.ref po) (.ref wb) (.ref ls) (.ref pts) (.int (0 : Int32)) (.int (-1 : Int32)) (.ref sv) (.ref pt) (.int (1 : Int32)) (.int (0 : Int32)) (.long (0 : Int64)) (.int (0 : Int32)) (.int (0 : Int32)) :: o_PC po (.ref po1) :: o_HM po1 (.int (0 : Int32)) .null :: o_PC wb (.ref wb1) :: o_HM wb1 (.int (0 : Int32)) .null :: o_HS ls (.ref ls1) :: o_HM ls1 (.int (0 : Int32)) .null :: (pts, true, .inr (kp, (.object "com/example/lockstep/lockstep/core/ChoicePoint"), (16 : Int32), [(.ref c0), .null], .null)) :: o_CP c0 (.int (2 : Int32)) (.int (0 : Int32)) (.int (0 : Int32)) (.int (0 : Int32)) .null (.long (0 : Int64)) (.int (0 : Int32)) :: o_AY sv (.int (0 : Int32)) :: o_AY pt (.int (0 : Int32)) :: F) rfl fun T1450 J1451 => ?_
  refine p_aload_n J1451 d61_35 rfl rfl 36 rfl ?_
  refine i_get J1451 d61_36 (mt (i := 60) rfl) Via.refl 0 0 rfl rfl 39 rfl fun T1452 J1453 => ?_
  refine i_virtual J1453 d61_39 (mt (i := 522) rfl) (mt (i := 523) rfl) (nfSel (mt (i := 525) rfl)) (mt (i := 525) rfl) (mt (i := 524) rfl) (mt (i := 37) rfl) (mt (i := 526) rfl) (by decide) (lenOf pd_0 rfl) 1 rfl (c_pcclear g po po1 ) [1, 2] [0, 3, 4, 5, 6, 7, 8, 9, 10] 11 (by decide) (lenLe F 11 rfl) rfl 0 (by decide) (by decide) (by decide) (by decide) rfl (by show (0 : Nat) ≤ _; decide) _ rfl 0 0 rfl rfl 42 rfl fun v1457 W1458 T1454 hQ1456 J1455 => ?_
  obtain ⟨rfl, rfl⟩ := hQ1456
  have J1459 := J1455.norm (W' := o_SE se (.ref po) (.ref wb) (.ref ls) (.ref pts) (.int (0 : Int32)) (.int (-1 : Int32)) (.ref sv) (.ref pt) (.int (1 : Int32)) (.int (0 : Int32)) (.long (0 : Int64)) (.int (0 : Int32)) (.int (0 : Int32)) :: o_PC wb (.ref wb1) :: o_HM wb1 (.int (0 : Int32)) .null :: o_HS ls (.ref ls1) :: o_HM ls1 (.int (0 : Int32)) .null :: (pts, true, .inr (kp, (.object "com/example/lockstep/lockstep/core/ChoicePoint"), (16 : Int32), [(.ref c0), .null], .null)) :: o_CP c0 (.int (2 : Int32)) (.int (0 : Int32)) (.int (0 : Int32)) (.int (0 : Int32)) .null (.long (0 : Int64)) (.int (0 : Int32)) :: o_AY sv (.int (0 : Int32)) :: o_AY pt (.int (0 : Int32)) :: F) rfl
  show Run _ _ _ _ (State.setTop _ (mkF m 42 #[.val (.ref se), .unset, .unset] []))
  refine p_aload_n J1459 d61_42 rfl rfl 43 rfl ?_
  refine i_get J1459 d61_43 (mt (i := 62) rfl) Via.refl 0 1 rfl rfl 46 rfl fun T1460 J1461 => ?_
  refine i_virtual J1461 d61_46 (mt (i := 522) rfl) (mt (i := 523) rfl) (nfSel (mt (i := 525) rfl)) (mt (i := 525) rfl) (mt (i := 524) rfl) (mt (i := 37) rfl) (mt (i := 526) rfl) (by decide) (lenOf pd_0 rfl) 1 rfl (c_pcclear g wb wb1 ) [1, 2] [0, 3, 4, 5, 6, 7, 8] 9 (by decide) (lenLe F 9 rfl) rfl 0 (by decide) (by decide) (by decide) (by decide) rfl (by show (0 : Nat) ≤ _; decide) _ rfl 0 0 rfl rfl 49 rfl fun v1465 W1466 T1462 hQ1464 J1463 => ?_
  obtain ⟨rfl, rfl⟩ := hQ1464
  have J1467 := J1463.norm (W' := o_SE se (.ref po) (.ref wb) (.ref ls) (.ref pts) (.int (0 : Int32)) (.int (-1 : Int32)) (.ref sv) (.ref pt) (.int (1 : Int32)) (.int (0 : Int32)) (.long (0 : Int64)) (.int (0 : Int32)) (.int (0 : Int32)) :: o_HS ls (.ref ls1) :: o_HM ls1 (.int (0 : Int32)) .null :: (pts, true, .inr (kp, (.object "com/example/lockstep/lockstep/core/ChoicePoint"), (16 : Int32), [(.ref c0), .null], .null)) :: o_CP c0 (.int (2 : Int32)) (.int (0 : Int32)) (.int (0 : Int32)) (.int (0 : Int32)) .null (.long (0 : Int64)) (.int (0 : Int32)) :: o_AY sv (.int (0 : Int32)) :: o_AY pt (.int (0 : Int32)) :: F) rfl
  show Run _ _ _ _ (State.setTop _ (mkF m 49 #[.val (.ref se), .unset, .unset] []))
  refine p_aload_n J1467 d61_49 rfl rfl 50 rfl ?_
  refine i_get J1467 d61_50 (mt (i := 88) rfl) Via.refl 0 2 rfl rfl 53 rfl fun T1468 J1469 => ?_
  refine i_iface J1469 d61_53 (mt (i := 544) rfl) (mt (i := 545) rfl) (mt (i := 546) rfl) (mt (i := 547) rfl) (mt (i := 548) rfl) (mt (i := 549) rfl) (mt (i := 550) rfl) (mt (i := 551) rfl) (mt (i := 66) rfl) (mt (i := 552) rfl) (by decide) (lenOf pd_0 rfl) 1 rfl (c_hsclear g ls ls1 ) [1, 2] [0, 3, 4, 5, 6] 7 (by decide) (lenLe F 7 rfl) rfl 0 (by decide) (by decide) (by decide) (by decide) rfl (by show (0 : Nat) ≤ _; decide) _ rfl 0 0 rfl rfl 58 rfl fun v1473 W1474 T1470 hQ1472 J1471 => ?_
  obtain ⟨rfl, rfl⟩ := hQ1472
  have J1475 := J1471.norm (W' := o_SE se (.ref po) (.ref wb) (.ref ls) (.ref pts) (.int (0 : Int32)) (.int (-1 : Int32)) (.ref sv) (.ref pt) (.int (1 : Int32)) (.int (0 : Int32)) (.long (0 : Int64)) (.int (0 : Int32)) (.int (0 : Int32)) :: (pts, true, .inr (kp, (.object "com/example/lockstep/lockstep/core/ChoicePoint"), (16 : Int32), [(.ref c0), .null], .null)) :: o_CP c0 (.int (2 : Int32)) (.int (0 : Int32)) (.int (0 : Int32)) (.int (0 : Int32)) .null (.long (0 : Int64)) (.int (0 : Int32)) :: o_AY sv (.int (0 : Int32)) :: o_AY pt (.int (0 : Int32)) :: F) rfl
  show Run _ _ _ _ (State.setTop _ (mkF m 58 #[.val (.ref se), .unset, .unset] []))
  refine p_aload_n J1475 d61_58 rfl rfl 59 rfl ?_
  refine p_lconst J1475 d61_59 (z := (0 : Int64)) rfl 60 rfl ?_
  refine i_putX J1475 d61_60 (mt (i := 556) rfl) Via.refl 0 rfl kd_SE (ks := ks_SE) rfl (by decide) (Or.inl (mt (i := 557) rfl)) (mt (i := 2) rfl) (ty := .long) (by decide) rfl rfl 63 rfl fun T1476 J1477 => ?_
  refine p_aload_n J1477 d61_63 rfl rfl 64 rfl ?_
  refine p_iconst J1477 d61_64 (z := (0 : Int32)) rfl 65 rfl ?_
  refine i_put J1477 d61_65 (mt (i := 320) rfl) Via.refl 0 4 rfl rfl sd_SE (Or.inl (mt (i := 321) rfl)) (mt (i := 2) rfl) (ty := .int) (by decide) rfl rfl 68 rfl (o_SE se (.ref po) (.ref wb) (.ref ls) (.ref pts) (.int (0 : Int32)) (.int (-1 : Int32)) (.ref sv) (.ref pt) (.int (1 : Int32)) (.int (0 : Int32)) (.long (0 : Int64)) (.int (0 : Int32)) (.int (0 : Int32)) :: (pts, true, .inr (kp, (.object "com/example/lockstep/lockstep/core/ChoicePoint"), (16 : Int32), [(.ref c0), .null], .null)) :: o_CP c0 (.int (2 : Int32)) (.int (0 : Int32)) (.int (0 : Int32)) (.int (0 : Int32)) .null (.long (0 : Int64)) (.int (0 : Int32)) :: o_AY sv (.int (0 : Int32)) :: o_AY pt (.int (0 : Int32)) :: F) rfl fun T1478 J1479 => ?_
  refine p_aload_n J1479 d61_68 rfl rfl 69 rfl ?_
  refine i_get J1479 d61_69 (mt (i := 558) rfl) Via.refl 0 11 rfl rfl 72 rfl fun T1480 J1481 => ?_
  refine p_if_y J1481 d61_72 (by decide) 157 (by decide) (by decide) ?_
  refine p_aload_n J1481 d61_157 rfl rfl 158 rfl ?_
  refine i_get J1481 d61_158 (mt (i := 457) rfl) Via.refl 0 8 rfl rfl 161 rfl fun T1482 J1483 => ?_
  refine p_if_n J1483 d61_161 (by decide) 164 rfl ?_
  refine p_aload_n J1483 d61_164 rfl rfl 165 rfl ?_
  refine i_get J1483 d61_165 (mt (i := 330) rfl) Via.refl 0 3 rfl rfl 168 rfl fun T1484 J1485 => ?_
  refine p_aload_n J1485 d61_168 rfl rfl 169 rfl ?_
  refine i_get J1485 d61_169 (mt (i := 457) rfl) Via.refl 0 8 rfl rfl 172 rfl fun T1486 J1487 => ?_
  refine p_iconst J1487 d61_172 (z := (1 : Int32)) rfl 173 rfl ?_
  refine p_isub J1487 d61_173 (z := (0 : Int32)) (by decide) 174 rfl ?_
  refine i_aaload J1487 d61_174 1 rfl rfl (by decide) (by decide) rfl 175 rfl ?_
  refine i_virtual J1487 d61_175 (mt (i := 560) rfl) (mt (i := 561) rfl) (nfSel (mt (i := 563) rfl)) (mt (i := 563) rfl) (mt (i := 562) rfl) (mt (i := 462) rfl) (mt (i := 564) rfl) (by decide) (lenOf pd_8 rfl) 2 rfl (c_hasWay g c0 ) [2] [0, 1, 3, 4] 5 (by decide) (lenLe F 5 rfl) rfl 0 (by decide) (by decide) (by decide) (by decide) rfl (by show (0 : Nat) ≤ _; decide) _ rfl 0 0 rfl rfl 178 rfl fun v1491 W1492 T1488 hQ1490 J1489 => ?_
  obtain ⟨rfl, rfl⟩ := hQ1490
  have J1493 := J1489.norm (W' := o_CP c0 (.int (2 : Int32)) (.int (0 : Int32)) (.int (0 : Int32)) (.int (0 : Int32)) .null (.long (0 : Int64)) (.int (0 : Int32)) :: o_SE se (.ref po) (.ref wb) (.ref ls) (.ref pts) (.int (0 : Int32)) (.int (-1 : Int32)) (.ref sv) (.ref pt) (.int (1 : Int32)) (.int (0 : Int32)) (.long (0 : Int64)) (.int (0 : Int32)) (.int (0 : Int32)) :: (pts, true, .inr (kp, (.object "com/example/lockstep/lockstep/core/ChoicePoint"), (16 : Int32), [(.ref c0), .null], .null)) :: o_AY sv (.int (0 : Int32)) :: o_AY pt (.int (0 : Int32)) :: F) rfl
  show Run _ _ _ _ (State.setTop _ (mkF m 178 #[.val (.ref se), .unset, .unset] [(.int (1 : Int32))]))
  refine p_if_y J1493 d61_178 (by decide) 194 (by decide) (by decide) ?_
  refine p_aload_n J1493 d61_194 rfl rfl 195 rfl ?_
  refine i_get J1493 d61_195 (mt (i := 457) rfl) Via.refl 1 8 rfl rfl 198 rfl fun T1494 J1495 => ?_
  refine p_if_y J1495 d61_198 (by decide) 203 (by decide) (by decide) ?_
  refine p_aload_n J1495 d61_203 rfl rfl 204 rfl ?_
  refine i_get J1495 d61_204 (mt (i := 330) rfl) Via.refl 1 3 rfl rfl 207 rfl fun T1496 J1497 => ?_
  refine p_aload_n J1497 d61_207 rfl rfl 208 rfl ?_
  refine i_get J1497 d61_208 (mt (i := 457) rfl) Via.refl 1 8 rfl rfl 211 rfl fun T1498 J1499 => ?_
  refine p_iconst J1499 d61_211 (z := (1 : Int32)) rfl 212 rfl ?_
  refine p_isub J1499 d61_212 (z := (0 : Int32)) (by decide) 213 rfl ?_
  refine i_aaload J1499 d61_213 2 rfl rfl (by decide) (by decide) rfl 214 rfl ?_
  refine i_virtual J1499 d61_214 (mt (i := 569) rfl) (mt (i := 570) rfl) (nfSel (mt (i := 572) rfl)) (mt (i := 572) rfl) (mt (i := 571) rfl) (mt (i := 462) rfl) (mt (i := 573) rfl) (by decide) (lenOf pd_0 rfl) 0 rfl (c_takeNext g c0 ) [0] [1, 2, 3, 4] 5 (by decide) (lenLe F 5 rfl) rfl 0 (by decide) (by decide) (by decide) (by decide) rfl (by show (0 : Nat) ≤ _; decide) _ rfl 0 0 rfl rfl 217 rfl fun v1503 W1504 T1500 hQ1502 J1501 => ?_
  obtain ⟨rfl, rfl⟩ := hQ1502
  have J1505 := J1501.norm (W' := o_CP c0 (.int (2 : Int32)) (.int (0 : Int32)) (.int (1 : Int32)) (.int (0 : Int32)) .null (.long (0 : Int64)) (.int (0 : Int32)) :: o_SE se (.ref po) (.ref wb) (.ref ls) (.ref pts) (.int (0 : Int32)) (.int (-1 : Int32)) (.ref sv) (.ref pt) (.int (1 : Int32)) (.int (0 : Int32)) (.long (0 : Int64)) (.int (0 : Int32)) (.int (0 : Int32)) :: (pts, true, .inr (kp, (.object "com/example/lockstep/lockstep/core/ChoicePoint"), (16 : Int32), [(.ref c0), .null], .null)) :: o_AY sv (.int (0 : Int32)) :: o_AY pt (.int (0 : Int32)) :: F) rfl
  show Run _ _ _ _ (State.setTop _ (mkF m 217 #[.val (.ref se), .unset, .unset] []))
  refine p_aload_n J1505 d61_217 rfl rfl 218 rfl ?_
  refine p_aload_n J1505 d61_218 rfl rfl 219 rfl ?_
  refine i_get J1505 d61_219 (mt (i := 457) rfl) Via.refl 1 8 rfl rfl 222 rfl fun T1506 J1507 => ?_
  refine i_put J1507 d61_222 (mt (i := 459) rfl) Via.refl 1 9 rfl rfl sd_SE (Or.inl (mt (i := 460) rfl)) (mt (i := 2) rfl) (ty := .int) (by decide) rfl rfl 225 rfl (o_CP c0 (.int (2 : Int32)) (.int (0 : Int32)) (.int (1 : Int32)) (.int (0 : Int32)) .null (.long (0 : Int64)) (.int (0 : Int32)) :: o_SE se (.ref po) (.ref wb) (.ref ls) (.ref pts) (.int (0 : Int32)) (.int (-1 : Int32)) (.ref sv) (.ref pt) (.int (1 : Int32)) (.int (1 : Int32)) (.long (0 : Int64)) (.int (0 : Int32)) (.int (0 : Int32)) :: (pts, true, .inr (kp, (.object "com/example/lockstep/lockstep/core/ChoicePoint"), (16 : Int32), [(.ref c0), .null], .null)) :: o_AY sv (.int (0 : Int32)) :: o_AY pt (.int (0 : Int32)) :: F) rfl fun T1508 J1509 => ?_
  refine p_aload_n J1509 d61_225 rfl rfl 226 rfl ?_
  refine p_iconst J1509 d61_226 (z := (0 : Int32)) rfl 227 rfl ?_
  refine i_put J1509 d61_227 (mt (i := 457) rfl) Via.refl 1 8 rfl rfl sd_SE (Or.inl (mt (i := 458) rfl)) (mt (i := 2) rfl) (ty := .int) (by decide) rfl rfl 230 rfl (o_CP c0 (.int (2 : Int32)) (.int (0 : Int32)) (.int (1 : Int32)) (.int (0 : Int32)) .null (.long (0 : Int64)) (.int (0 : Int32)) :: o_SE se (.ref po) (.ref wb) (.ref ls) (.ref pts) (.int (0 : Int32)) (.int (-1 : Int32)) (.ref sv) (.ref pt) (.int (0 : Int32)) (.int (1 : Int32)) (.long (0 : Int64)) (.int (0 : Int32)) (.int (0 : Int32)) :: (pts, true, .inr (kp, (.object "com/example/lockstep/lockstep/core/ChoicePoint"), (16 : Int32), [(.ref c0), .null], .null)) :: o_AY sv (.int (0 : Int32)) :: o_AY pt (.int (0 : Int32)) :: F) rfl fun T1510 J1511 => ?_
  refine p_aload_n J1511 d61_230 rfl rfl 231 rfl ?_
  refine i_get J1511 d61_231 (mt (i := 574) rfl) Via.refl 1 12 rfl rfl 234 rfl fun T1512 J1513 => ?_
  refine p_aload_n J1513 d61_234 rfl rfl 235 rfl ?_
  refine i_get J1513 d61_235 (mt (i := 459) rfl) Via.refl 1 9 rfl rfl 238 rfl fun T1514 J1515 => ?_
  refine p_icmp_y J1515 d61_238 (by decide) 245 (by decide) (by decide) ?_
  refine p_aload_n J1515 d61_245 rfl rfl 246 rfl ?_
  refine i_get J1515 d61_246 (mt (i := 336) rfl) Via.refl 1 6 rfl rfl 249 rfl fun T1516 J1517 => ?_
  refine i_iface J1517 d61_249 (mt (i := 576) rfl) (mt (i := 577) rfl) (mt (i := 578) rfl) (mt (i := 579) rfl) (mt (i := 580) rfl) (mt (i := 581) rfl) (mt (i := 582) rfl) (mt (i := 583) rfl) (mt (i := 162) rfl) (mt (i := 584) rfl) (by decide) (lenOf pd_8 rfl) 3 rfl (c_ayempty g sv ) [3] [0, 1, 2, 4] 5 (by decide) (lenLe F 5 rfl) rfl 0 (by decide) (by decide) (by decide) (by decide) rfl (by show (0 : Nat) ≤ _; decide) _ rfl 0 0 rfl rfl 254 rfl fun v1521 W1522 T1518 hQ1520 J1519 => ?_
  obtain ⟨rfl, rfl⟩ := hQ1520
  have J1523 := J1519.norm (W' := o_AY sv (.int (0 : Int32)) :: o_CP c0 (.int (2 : Int32)) (.int (0 : Int32)) (.int (1 : Int32)) (.int (0 : Int32)) .null (.long (0 : Int64)) (.int (0 : Int32)) :: o_SE se (.ref po) (.ref wb) (.ref ls) (.ref pts) (.int (0 : Int32)) (.int (-1 : Int32)) (.ref sv) (.ref pt) (.int (0 : Int32)) (.int (1 : Int32)) (.long (0 : Int64)) (.int (0 : Int32)) (.int (0 : Int32)) :: (pts, true, .inr (kp, (.object "com/example/lockstep/lockstep/core/ChoicePoint"), (16 : Int32), [(.ref c0), .null], .null)) :: o_AY pt (.int (0 : Int32)) :: F) rfl
  show Run _ _ _ _ (State.setTop _ (mkF m 254 #[.val (.ref se), .unset, .unset] [(.int (1 : Int32))]))
  refine p_if_y J1523 d61_254 (by decide) 314 (by decide) (by decide) ?_
  refine p_aload_n J1523 d61_314 rfl rfl 315 rfl ?_
  refine i_get J1523 d61_315 (mt (i := 322) rfl) Via.refl 2 7 rfl rfl 318 rfl fun T1524 J1525 => ?_
  refine i_iface J1525 d61_318 (mt (i := 585) rfl) (mt (i := 586) rfl) (mt (i := 587) rfl) (mt (i := 588) rfl) (mt (i := 589) rfl) (mt (i := 590) rfl) (mt (i := 591) rfl) (mt (i := 583) rfl) (mt (i := 162) rfl) (mt (i := 592) rfl) (by decide) (lenOf pd_6 rfl) 4 rfl (c_aysize g pt ) [4] [0, 1, 2, 3] 5 (by decide) (lenLe F 5 rfl) rfl 0 (by decide) (by decide) (by decide) (by decide) rfl (by show (0 : Nat) ≤ _; decide) _ rfl 0 0 rfl rfl 323 rfl fun v1529 W1530 T1526 hQ1528 J1527 => ?_
  obtain ⟨rfl, rfl⟩ := hQ1528
  have J1531 := J1527.norm (W' := o_AY pt (.int (0 : Int32)) :: o_AY sv (.int (0 : Int32)) :: o_CP c0 (.int (2 : Int32)) (.int (0 : Int32)) (.int (1 : Int32)) (.int (0 : Int32)) .null (.long (0 : Int64)) (.int (0 : Int32)) :: o_SE se (.ref po) (.ref wb) (.ref ls) (.ref pts) (.int (0 : Int32)) (.int (-1 : Int32)) (.ref sv) (.ref pt) (.int (0 : Int32)) (.int (1 : Int32)) (.long (0 : Int64)) (.int (0 : Int32)) (.int (0 : Int32)) :: (pts, true, .inr (kp, (.object "com/example/lockstep/lockstep/core/ChoicePoint"), (16 : Int32), [(.ref c0), .null], .null)) :: F) rfl
  show Run _ _ _ _ (State.setTop _ (mkF m 323 #[.val (.ref se), .unset, .unset] [(.int (0 : Int32))]))
  refine p_iconst J1531 d61_323 (z := (1 : Int32)) rfl 324 rfl ?_
  refine p_isub J1531 d61_324 (z := (-1 : Int32)) (by decide) 325 rfl ?_
  refine p_istore_n J1531 #[.val (.ref se), .val (.int (-1 : Int32)), .unset] d61_325 rfl 326 rfl ?_
  refine p_iload_n J1531 d61_326 rfl 327 rfl ?_
  refine p_if_y J1531 d61_327 (by decide) 417 (by decide) (by decide) ?_
  refine p_iconst J1531 d61_417 (z := (1 : Int32)) rfl 418 rfl ?_
  have J1532 := J1531.weak [3, 4, 2] 5 (by decide) (lenLe F 5 rfl) (W' := o_SE se (.ref po) (.ref wb) (.ref ls) (.ref pts) (.int (0 : Int32)) (.int (-1 : Int32)) (.ref sv) (.ref pt) (.int (0 : Int32)) (.int (1 : Int32)) (.long (0 : Int64)) (.int (0 : Int32)) (.int (0 : Int32)) :: (pts, true, .inr (kp, (.object "com/example/lockstep/lockstep/core/ChoicePoint"), (16 : Int32), [(.ref c0), .null], .null)) :: o_CP c0 (.int (2 : Int32)) (.int (0 : Int32)) (.int (1 : Int32)) (.int (0 : Int32)) .null (.long (0 : Int64)) (.int (0 : Int32)) :: F) rfl
  exact r_val J1532 d61_418 (t := .boolean) rfl rfl (Or.inl ⟨rfl, by simp, _, rfl⟩) (by decide) (by decide) (Wf := [o_SE se (.ref po) (.ref wb) (.ref ls) (.ref pts) (.int (0 : Int32)) (.int (-1 : Int32)) (.ref sv) (.ref pt) (.int (0 : Int32)) (.int (1 : Int32)) (.long (0 : Int64)) (.int (0 : Int32)) (.int (0 : Int32)), (pts, true, .inr (kp, (.object "com/example/lockstep/lockstep/core/ChoicePoint"), (16 : Int32), [(.ref c0), .null], .null)), o_CP c0 (.int (2 : Int32)) (.int (0 : Int32)) (.int (1 : Int32)) (.int (0 : Int32)) .null (.long (0 : Int64)) (.int (0 : Int32))]) rfl ⟨rfl, rfl⟩
theorem Con.mk2 {l : Launch} {Z : State} {a0 : Array Value} {EL : List (String × Nat)} {bytes : ByteArray} {maxL : Nat} {ret : Option FieldType} {W : List OB} {y : MethodName} {rm : Room} {A : List Value} {Q : Option Value → List OB → Prop} (g : GC Z a0 EL) (hpl : plainFor y = true) {Ls : Array Slot} (hef : ∀ m, entryFrame m A.toArray maxL = mkF m 0 Ls [])
    (body : ∀ (p : Program) (e : Env) (s : State) (m : MethodId) (below : List Frame) (meth : Method) (c : Code) (T : State) (F : List OB), J l Z a0 EL [] y.cls bytes maxL ret y.name rm p e s m A.toArray below meth c T 0 0 (W ++ F) → Run p.tables e below (PostW Z [] rm s F Q) (T.setTop (mkF m 0 Ls []))) :
    ∀ (ws : List Jvm.Cond) (F : List OB) (h0 : Heap), MetFree l y (head1 (Jvm.Cond.code y bytes maxL ret :: ws) rm) (fun a U => a = A.toArray ∧ Z.Warmed39 U.vm ∧ U.heap = h0 ∧ WL Z EL U.vm h0 (W ++ F)) (fun _ _ _ _ _ => True) (fun _ U o U' => PostW Z [] rm U F Q o U') := by
  intro ws F h0
  refine MetFree.of_bodySF hpl hisR ?_
  intro p e s m args below meth c s₁ Bd hml hP hK
  obtain ⟨rfl, hZ, hh, w⟩ := hP
  have X0 : Stand p l e rm s m A.toArray below meth c s₁ [] 0 0 := Stand.of_body Bd
  have e0 : s₁.heap = h0 := by rw [← hh, Bd.state]; rfl
  have r := body p e s m below meth c s₁ F ⟨s.vm, [], 0, X0, (State.WarmedH.refl s).since 0, Nat.zero_le _, hZ, findClass_of_methodNamed Bd.named, Fr.nil _, by rw [e0]; exact w, nofun, Bd.exec, Bd.bytes, hml, Bd.returns, (name_of_methodNamed Bd.named Bd.method).1, BodyLoose.notSynchronized Bd, g⟩
  rw [← hef m] at r
  exact r
theorem bool_3 {l : Launch} {Z : State} {a0 : Array Value} {EL : List (String × Nat)} {LT : List (String × Nat × Addr)} {p : Program} {e : Env} {s : State} {m : MethodId} {args : Array Value} {below : List Frame} {meth : Method} {c : Code} {T : State} {cells slots : Nat} {Pq : Outcome → State → Prop} {W : List OB} {Ls : Array Slot} {y : Int32} (j : J l Z a0 EL LT x.cls code maxLocals ret x.name room_1 p e s m args below meth c T cells slots (W)) (k : ∀ b : Int32, B01 b → Run p.tables e below Pq (T.setTop (mkF m 11 Ls [.int b]))) : Run p.tables e below Pq (T.setTop (mkF m 3 Ls [.int y])) := by
  by_cases h : y = 0
  · refine p_if_y j at_3 ((if0 _ _).trans (teq h).1) 10 (by decide) (by decide) ?_
    refine p_iconst j at_10 (z := (0 : Int32)) rfl 11 rfl ?_
    exact k 0 (Or.inl rfl)
  · refine p_if_n j at_3 ((if0 _ _).trans (feq h).1) 6 rfl ?_
    refine p_iconst j at_6 (z := (1 : Int32)) rfl 7 rfl ?_
    refine p_goto j at_7 11 (by decide) (by decide) ?_
    exact k 1 (Or.inr rfl)
theorem bool_15 {l : Launch} {Z : State} {a0 : Array Value} {EL : List (String × Nat)} {LT : List (String × Nat × Addr)} {p : Program} {e : Env} {s : State} {m : MethodId} {args : Array Value} {below : List Frame} {meth : Method} {c : Code} {T : State} {cells slots : Nat} {Pq : Outcome → State → Prop} {W : List OB} {Ls : Array Slot} {y : Int32} (j : J l Z a0 EL LT x.cls code maxLocals ret x.name room_1 p e s m args below meth c T cells slots (W)) (k : ∀ b : Int32, B01 b → Run p.tables e below Pq (T.setTop (mkF m 23 Ls [.int b]))) : Run p.tables e below Pq (T.setTop (mkF m 15 Ls [.int y])) := by
  by_cases h : y = 0
  · refine p_if_y j at_15 ((if0 _ _).trans (teq h).1) 22 (by decide) (by decide) ?_
    refine p_iconst j at_22 (z := (0 : Int32)) rfl 23 rfl ?_
    exact k 0 (Or.inl rfl)
  · refine p_if_n j at_15 ((if0 _ _).trans (feq h).1) 18 rfl ?_
    refine p_iconst j at_18 (z := (1 : Int32)) rfl 19 rfl ?_
    refine p_goto j at_19 23 (by decide) (by decide) ?_
    exact k 1 (Or.inr rfl)
theorem bool_27 {l : Launch} {Z : State} {a0 : Array Value} {EL : List (String × Nat)} {LT : List (String × Nat × Addr)} {p : Program} {e : Env} {s : State} {m : MethodId} {args : Array Value} {below : List Frame} {meth : Method} {c : Code} {T : State} {cells slots : Nat} {Pq : Outcome → State → Prop} {W : List OB} {Ls : Array Slot} {y : Int32} (j : J l Z a0 EL LT x.cls code maxLocals ret x.name room_1 p e s m args below meth c T cells slots (W)) (k : ∀ b : Int32, B01 b → Run p.tables e below Pq (T.setTop (mkF m 35 Ls [.int b]))) : Run p.tables e below Pq (T.setTop (mkF m 27 Ls [.int y])) := by
  by_cases h : y = 0
  · refine p_if_y j at_27 ((if0 _ _).trans (teq h).1) 34 (by decide) (by decide) ?_
    refine p_iconst j at_34 (z := (0 : Int32)) rfl 35 rfl ?_
    exact k 0 (Or.inl rfl)
  · refine p_if_n j at_27 ((if0 _ _).trans (feq h).1) 30 rfl ?_
    refine p_iconst j at_30 (z := (1 : Int32)) rfl 31 rfl ?_
    refine p_goto j at_31 35 (by decide) (by decide) ?_
    exact k 1 (Or.inr rfl)
theorem bool_41 {l : Launch} {Z : State} {a0 : Array Value} {EL : List (String × Nat)} {LT : List (String × Nat × Addr)} {p : Program} {e : Env} {s : State} {m : MethodId} {args : Array Value} {below : List Frame} {meth : Method} {c : Code} {T : State} {cells slots : Nat} {Pq : Outcome → State → Prop} {W : List OB} {Ls : Array Slot} {y : Int32} (j : J l Z a0 EL LT x.cls code maxLocals ret x.name room_1 p e s m args below meth c T cells slots (W)) (k : ∀ b : Int32, B01 b → Run p.tables e below Pq (T.setTop (mkF m 49 Ls [.int b]))) : Run p.tables e below Pq (T.setTop (mkF m 41 Ls [.int y])) := by
  by_cases h : y = 0
  · refine p_if_y j at_41 ((if0 _ _).trans (teq h).1) 48 (by decide) (by decide) ?_
    refine p_iconst j at_48 (z := (0 : Int32)) rfl 49 rfl ?_
    exact k 0 (Or.inl rfl)
  · refine p_if_n j at_41 ((if0 _ _).trans (feq h).1) 44 rfl ?_
    refine p_iconst j at_44 (z := (1 : Int32)) rfl 45 rfl ?_
    refine p_goto j at_45 49 (by decide) (by decide) ?_
    exact k 1 (Or.inr rfl)
theorem bool_55 {l : Launch} {Z : State} {a0 : Array Value} {EL : List (String × Nat)} {LT : List (String × Nat × Addr)} {p : Program} {e : Env} {s : State} {m : MethodId} {args : Array Value} {below : List Frame} {meth : Method} {c : Code} {T : State} {cells slots : Nat} {Pq : Outcome → State → Prop} {W : List OB} {Ls : Array Slot} {y : Int32} (j : J l Z a0 EL LT x.cls code maxLocals ret x.name room_1 p e s m args below meth c T cells slots (W)) (k : ∀ b : Int32, B01 b → Run p.tables e below Pq (T.setTop (mkF m 63 Ls [.int b]))) : Run p.tables e below Pq (T.setTop (mkF m 55 Ls [.int y])) := by
  by_cases h : y = 0
  · refine p_if_y j at_55 ((if0 _ _).trans (teq h).1) 62 (by decide) (by decide) ?_
    refine p_iconst j at_62 (z := (0 : Int32)) rfl 63 rfl ?_
    exact k 0 (Or.inl rfl)
  · refine p_if_n j at_55 ((if0 _ _).trans (feq h).1) 58 rfl ?_
    refine p_iconst j at_58 (z := (1 : Int32)) rfl 59 rfl ?_
    refine p_goto j at_59 63 (by decide) (by decide) ?_
    exact k 1 (Or.inr rfl)
theorem pd_23 : parseMethodDescriptor "(Z)V" = some ⟨[.boolean], none⟩ := by decide +kernel
set_option maxRecDepth 65536 in
set_option maxHeartbeats 40000000 in
theorem sec_pre {l : Launch} {Z : State} {a0 : Array Value} {EL : List (String × Nat)} {LT : List (String × Nat × Addr)} {p : Program} {e : Env} {s : State} {m : MethodId} {args : Array Value} {below : List Frame} {meth : Method} {c : Code} {T : State} {cells slots : Nat} {F : List OB} {Pq : Outcome → State → Prop} (g : GC Z a0 EL) {f0 lv v2 v3 v4 v5 v6 mm : Int32} {se lo ai : Addr}  (j : J l Z a0 EL LT x.cls code maxLocals ret x.name room_1 p e s m args below meth c T cells slots (o_AL ai (.int (1 : Int32)) (.int (2147483647 : Int32)) (.int (1 : Int32)) (.int (0 : Int32)) (.int (0 : Int32)) (.int (0 : Int32)) (.ref se) :: F)) (hv3 : B01 v3) (hcl : cells ≤ room_1.cells) (hsl : slots ≤ room_1.slots)
    (k : ∀ bs T', B01 bs → J l Z a0 EL LT x.cls code maxLocals ret x.name room_1 p e s m args below meth c T' cells slots (o_AL ai (.int (1 : Int32)) (.int (2147483647 : Int32)) (.int (1 : Int32)) (.int (0 : Int32)) (.int (0 : Int32)) (.int bs) (.ref se) :: F) → Run p.tables e below Pq (T'.setTop (mkF m 164 #[.val (.int f0), .val (.int lv), .val (.int v2), .val (.int v3), .val (.int v4), .val (.int v5), .val (.int v6), .val (.int mm), .val (.ref se), .val (.ref lo), .val (.ref ai), .val (.int (1 : Int32)), .val (.int (0 : Int32)), .val (.int (1 : Int32)), .val (.int (0 : Int32)), .val (.int bs), .val (.int (0 : Int32)), .unset, .unset, .unset] [])))
    : Run p.tables e below Pq (T.setTop (mkF m 151 #[.val (.int f0), .val (.int lv), .val (.int v2), .val (.int v3), .val (.int v4), .val (.int v5), .val (.int v6), .val (.int mm), .val (.ref se), .val (.ref lo), .val (.ref ai), .val (.int (1 : Int32)), .val (.int (0 : Int32)), .val (.int (1 : Int32)), .val (.int (0 : Int32)), .val (.int (0 : Int32)), .val (.int (0 : Int32)), .unset, .unset, .unset] [])) := by
  refine p_iload_n j at_151 rfl 152 rfl ?_
  rcases hv3 with rfl | rfl
  · refine p_if_y j at_152 (by decide) 164 (by decide) (by decide) ?_
    exact k 0 _ (Or.inl rfl) j
  · refine p_if_n j at_152 (by decide) 155 rfl ?_
    refine p_aload j at_155 rfl rfl 157 rfl ?_
    refine p_iconst j at_157 (z := (1 : Int32)) rfl 158 rfl ?_
    refine i_virtual j at_158 (mt (i := 405) rfl) (mt (i := 406) rfl) (nfSel (mt (i := 408) rfl)) (mt (i := 408) rfl) (mt (i := 407) rfl) (mt (i := 391) rfl) (mt (i := 409) rfl) (by decide) (lenOf pd_23 rfl) 0 rfl (c_snT g ai se (1 : Int32) (2147483647 : Int32) (1 : Int32) (0 : Int32) (0 : Int32) (0 : Int32) (Or.inl rfl)) [0] [] 1 (by decide) (lenLe F 1 rfl) rfl 0 (by decide) (by decide) hcl hsl rfl (by show (0 : Nat) ≤ _; decide) _ rfl cells slots rfl rfl 161 rfl fun v1536 W1537 T1533 hQ1535 J1534 => ?_
    obtain ⟨rfl, rfl⟩ := hQ1535
    have J1538 := J1534.norm (W' := o_AL ai (.int (1 : Int32)) (.int (2147483647 : Int32)) (.int (1 : Int32)) (.int (0 : Int32)) (.int (0 : Int32)) (.int (1 : Int32)) (.ref se) :: F) rfl
    show Run _ _ _ _ (State.setTop _ (mkF m 161 #[.val (.int f0), .val (.int lv), .val (.int v2), .val (.int (1 : Int32)), .val (.int v4), .val (.int v5), .val (.int v6), .val (.int mm), .val (.ref se), .val (.ref lo), .val (.ref ai), .val (.int (1 : Int32)), .val (.int (0 : Int32)), .val (.int (1 : Int32)), .val (.int (0 : Int32)), .val (.int (0 : Int32)), .val (.int (0 : Int32)), .unset, .unset, .unset] []))
    refine p_iconst J1538 at_161 (z := (1 : Int32)) rfl 162 rfl ?_
    refine p_istore J1538 #[.val (.int f0), .val (.int lv), .val (.int v2), .val (.int (1 : Int32)), .val (.int v4), .val (.int v5), .val (.int v6), .val (.int mm), .val (.ref se), .val (.ref lo), .val (.ref ai), .val (.int (1 : Int32)), .val (.int (0 : Int32)), .val (.int (1 : Int32)), .val (.int (0 : Int32)), .val (.int (1 : Int32)), .val (.int (0 : Int32)), .unset, .unset, .unset] at_162 rfl 164 rfl ?_
    exact k 1 _ (Or.inr rfl) J1538
set_option maxRecDepth 65536 in
set_option maxHeartbeats 40000000 in
theorem sec_cap {l : Launch} {Z : State} {a0 : Array Value} {EL : List (String × Nat)} {LT : List (String × Nat × Addr)} {p : Program} {e : Env} {s : State} {m : MethodId} {args : Array Value} {below : List Frame} {meth : Method} {c : Code} {T : State} {cells slots : Nat} {F : List OB} {Pq : Outcome → State → Prop} (g : GC Z a0 EL) {f0 lv v2 v3 v4 v5 v6 mm : Int32} {se lo ai : Addr} {le mo su fx sf bs w16 : Int32} (j : J l Z a0 EL LT x.cls code maxLocals ret x.name room_1 p e s m args below meth c T cells slots (o_AL ai (.int le) (.int mo) (.int su) (.int fx) (.int sf) (.int bs) (.ref se) :: F)) (hv5 : B01 v5) (hfx : B01 fx) (hcl : cells ≤ room_1.cells) (hsl : slots ≤ room_1.slots)
    (k : ∀ le' mo' fx' bs' T', B01 fx' → J l Z a0 EL LT x.cls code maxLocals ret x.name room_1 p e s m args below meth c T' cells slots (o_AL ai (.int le') (.int mo') (.int su) (.int fx') (.int sf) (.int bs') (.ref se) :: F) → Run p.tables e below Pq (T'.setTop (mkF m 262 #[.val (.int f0), .val (.int lv), .val (.int v2), .val (.int v3), .val (.int v4), .val (.int v5), .val (.int v6), .val (.int mm), .val (.ref se), .val (.ref lo), .val (.ref ai), .val (.int le'), .val (.int fx'), .val (.int su), .val (.int sf), .val (.int bs'), .val (.int w16), .unset, .unset, .unset] [])))
    : Run p.tables e below Pq (T.setTop (mkF m 203 #[.val (.int f0), .val (.int lv), .val (.int v2), .val (.int v3), .val (.int v4), .val (.int v5), .val (.int v6), .val (.int mm), .val (.ref se), .val (.ref lo), .val (.ref ai), .val (.int le), .val (.int fx), .val (.int su), .val (.int sf), .val (.int bs), .val (.int w16), .unset, .unset, .unset] [])) := by
  refine p_iload j at_203 rfl 205 rfl ?_
  rcases hv5 with rfl | rfl
  · refine p_if_y j at_205 (by decide) 262 (by decide) (by decide) ?_
    exact k le mo fx bs _ hfx j
  · refine p_if_n j at_205 (by decide) 208 rfl ?_
    refine p_aload j at_208 rfl rfl 210 rfl ?_
    refine p_iload j at_210 rfl 212 rfl ?_
    by_cases hs : sf = 0
    · by_cases hm : su < mm
      · refine i_virtual j at_212 (mt (i := 428) rfl) (mt (i := 429) rfl) (nfSel (mt (i := 431) rfl)) (mt (i := 431) rfl) (mt (i := 430) rfl) (mt (i := 391) rfl) (mt (i := 432) rfl) (by decide) (lenOf pd_2 rfl) 0 rfl (c_smC g ai se le mo su fx sf bs mm hs hm) [0] [] 1 (by decide) (lenLe F 1 rfl) rfl 0 (by decide) (by decide) hcl hsl rfl (by show (0 : Nat) ≤ _; decide) _ rfl cells slots rfl rfl 215 rfl fun v1542 W1543 T1539 hQ1541 J1540 => ?_
        obtain ⟨rfl, rfl⟩ := hQ1541
        have J1544 := J1540.norm (W' := o_AL ai (.int su) (.int mm) (.int su) (.int (0 : Int32)) (.int sf) (.int (1 : Int32)) (.ref se) :: F) rfl
        show Run _ _ _ _ (State.setTop _ (mkF m 215 #[.val (.int f0), .val (.int lv), .val (.int v2), .val (.int v3), .val (.int v4), .val (.int (1 : Int32)), .val (.int v6), .val (.int mm), .val (.ref se), .val (.ref lo), .val (.ref ai), .val (.int le), .val (.int fx), .val (.int su), .val (.int sf), .val (.int bs), .val (.int w16), .unset, .unset, .unset] []))
        refine p_iload J1544 at_215 rfl 217 rfl ?_
        refine p_if_y J1544 at_217 ((if0 _ _).trans (teq hs).1) 235 (by decide) (by decide) ?_
        refine p_iload J1544 at_235 rfl 237 rfl ?_
        refine p_iload J1544 at_237 rfl 239 rfl ?_
        refine p_icmp_y J1544 at_239 (tlt hm).2.2.1 252 (by decide) (by decide) ?_
        refine p_iload J1544 at_252 rfl 254 rfl ?_
        refine p_istore J1544 #[.val (.int f0), .val (.int lv), .val (.int v2), .val (.int v3), .val (.int v4), .val (.int (1 : Int32)), .val (.int v6), .val (.int mm), .val (.ref se), .val (.ref lo), .val (.ref ai), .val (.int su), .val (.int fx), .val (.int su), .val (.int sf), .val (.int bs), .val (.int w16), .unset, .unset, .unset] at_254 rfl 256 rfl ?_
        refine p_iconst J1544 at_256 (z := (0 : Int32)) rfl 257 rfl ?_
        refine p_istore J1544 #[.val (.int f0), .val (.int lv), .val (.int v2), .val (.int v3), .val (.int v4), .val (.int (1 : Int32)), .val (.int v6), .val (.int mm), .val (.ref se), .val (.ref lo), .val (.ref ai), .val (.int su), .val (.int (0 : Int32)), .val (.int su), .val (.int sf), .val (.int bs), .val (.int w16), .unset, .unset, .unset] at_257 rfl 259 rfl ?_
        refine p_iconst J1544 at_259 (z := (1 : Int32)) rfl 260 rfl ?_
        refine p_istore J1544 #[.val (.int f0), .val (.int lv), .val (.int v2), .val (.int v3), .val (.int v4), .val (.int (1 : Int32)), .val (.int v6), .val (.int mm), .val (.ref se), .val (.ref lo), .val (.ref ai), .val (.int su), .val (.int (0 : Int32)), .val (.int su), .val (.int sf), .val (.int (1 : Int32)), .val (.int w16), .unset, .unset, .unset] at_260 rfl 262 rfl ?_
        exact k su mm (0 : Int32) 1 _ (Or.inl rfl) J1544
      · refine i_virtual j at_212 (mt (i := 428) rfl) (mt (i := 429) rfl) (nfSel (mt (i := 431) rfl)) (mt (i := 431) rfl) (mt (i := 430) rfl) (mt (i := 391) rfl) (mt (i := 432) rfl) (by decide) (lenOf pd_2 rfl) 0 rfl (c_smB g ai se le mo su fx sf bs mm hs hm) [0] [] 1 (by decide) (lenLe F 1 rfl) rfl 0 (by decide) (by decide) hcl hsl rfl (by show (0 : Nat) ≤ _; decide) _ rfl cells slots rfl rfl 215 rfl fun v1548 W1549 T1545 hQ1547 J1546 => ?_
        obtain ⟨rfl, rfl⟩ := hQ1547
        have J1550 := J1546.norm (W' := o_AL ai (.int mm) (.int mm) (.int su) (.int (1 : Int32)) (.int sf) (.int (1 : Int32)) (.ref se) :: F) rfl
        show Run _ _ _ _ (State.setTop _ (mkF m 215 #[.val (.int f0), .val (.int lv), .val (.int v2), .val (.int v3), .val (.int v4), .val (.int (1 : Int32)), .val (.int v6), .val (.int mm), .val (.ref se), .val (.ref lo), .val (.ref ai), .val (.int le), .val (.int fx), .val (.int su), .val (.int sf), .val (.int bs), .val (.int w16), .unset, .unset, .unset] []))
        refine p_iload J1550 at_215 rfl 217 rfl ?_
        refine p_if_y J1550 at_217 ((if0 _ _).trans (teq hs).1) 235 (by decide) (by decide) ?_
        refine p_iload J1550 at_235 rfl 237 rfl ?_
        refine p_iload J1550 at_237 rfl 239 rfl ?_
        refine p_icmp_n J1550 at_239 (flt hm).2.2.1 242 rfl ?_
        refine p_iload J1550 at_242 rfl 244 rfl ?_
        refine p_istore J1550 #[.val (.int f0), .val (.int lv), .val (.int v2), .val (.int v3), .val (.int v4), .val (.int (1 : Int32)), .val (.int v6), .val (.int mm), .val (.ref se), .val (.ref lo), .val (.ref ai), .val (.int mm), .val (.int fx), .val (.int su), .val (.int sf), .val (.int bs), .val (.int w16), .unset, .unset, .unset] at_244 rfl 246 rfl ?_
        refine p_iconst J1550 at_246 (z := (1 : Int32)) rfl 247 rfl ?_
        refine p_istore J1550 #[.val (.int f0), .val (.int lv), .val (.int v2), .val (.int v3), .val (.int v4), .val (.int (1 : Int32)), .val (.int v6), .val (.int mm), .val (.ref se), .val (.ref lo), .val (.ref ai), .val (.int mm), .val (.int (1 : Int32)), .val (.int su), .val (.int sf), .val (.int bs), .val (.int w16), .unset, .unset, .unset] at_247 rfl 249 rfl ?_
        refine p_goto J1550 at_249 259 (by decide) (by decide) ?_
        refine p_iconst J1550 at_259 (z := (1 : Int32)) rfl 260 rfl ?_
        refine p_istore J1550 #[.val (.int f0), .val (.int lv), .val (.int v2), .val (.int v3), .val (.int v4), .val (.int (1 : Int32)), .val (.int v6), .val (.int mm), .val (.ref se), .val (.ref lo), .val (.ref ai), .val (.int mm), .val (.int (1 : Int32)), .val (.int su), .val (.int sf), .val (.int (1 : Int32)), .val (.int w16), .unset, .unset, .unset] at_260 rfl 262 rfl ?_
        exact k mm mm (1 : Int32) 1 _ (Or.inr rfl) J1550
    · refine i_virtual j at_212 (mt (i := 428) rfl) (mt (i := 429) rfl) (nfSel (mt (i := 431) rfl)) (mt (i := 431) rfl) (mt (i := 430) rfl) (mt (i := 391) rfl) (mt (i := 432) rfl) (by decide) (lenOf pd_2 rfl) 0 rfl (c_smA g ai se le mo su fx sf bs mm hs) [0] [] 1 (by decide) (lenLe F 1 rfl) rfl 0 (by decide) (by decide) hcl hsl rfl (by show (0 : Nat) ≤ _; decide) _ rfl cells slots rfl rfl 215 rfl fun v1554 W1555 T1551 hQ1553 J1552 => ?_
      obtain ⟨rfl, rfl⟩ := hQ1553
      have J1556 := J1552.norm (W' := o_AL ai (.int (minV mm su)) (.int mm) (.int su) (.int (1 : Int32)) (.int sf) (.int (1 : Int32)) (.ref se) :: F) rfl
      show Run _ _ _ _ (State.setTop _ (mkF m 215 #[.val (.int f0), .val (.int lv), .val (.int v2), .val (.int v3), .val (.int v4), .val (.int (1 : Int32)), .val (.int v6), .val (.int mm), .val (.ref se), .val (.ref lo), .val (.ref ai), .val (.int le), .val (.int fx), .val (.int su), .val (.int sf), .val (.int bs), .val (.int w16), .unset, .unset, .unset] []))
      refine p_iload J1556 at_215 rfl 217 rfl ?_
      refine p_if_n J1556 at_217 ((if0 _ _).trans (feq hs).1) 220 rfl ?_
      refine p_iload J1556 at_220 rfl 222 rfl ?_
      refine p_iload J1556 at_222 rfl 224 rfl ?_
      refine i_static J1556 at_224 (mt (i := 614) rfl) (mt (i := 309) rfl) (mt (i := 310) rfl) (mt (i := 311) rfl) (by decide) (lenOf pd_10 rfl) (c_min g mm su ) [] [0] 1 (by decide) (lenLe F 1 rfl) rfl 0 (by decide) (by decide) hcl hsl rfl (by show (0 : Nat) ≤ _; decide) _ rfl cells slots rfl rfl 227 rfl fun v1560 W1561 T1557 hQ1559 J1558 => ?_
      obtain ⟨rfl, rfl⟩ := hQ1559
      have J1562 := J1558.norm (W' := o_AL ai (.int (minV mm su)) (.int mm) (.int su) (.int (1 : Int32)) (.int sf) (.int (1 : Int32)) (.ref se) :: F) rfl
      show Run _ _ _ _ (State.setTop _ (mkF m 227 #[.val (.int f0), .val (.int lv), .val (.int v2), .val (.int v3), .val (.int v4), .val (.int (1 : Int32)), .val (.int v6), .val (.int mm), .val (.ref se), .val (.ref lo), .val (.ref ai), .val (.int le), .val (.int fx), .val (.int su), .val (.int sf), .val (.int bs), .val (.int w16), .unset, .unset, .unset] [(.int (minV mm su))]))
      refine p_istore J1562 #[.val (.int f0), .val (.int lv), .val (.int v2), .val (.int v3), .val (.int v4), .val (.int (1 : Int32)), .val (.int v6), .val (.int mm), .val (.ref se), .val (.ref lo), .val (.ref ai), .val (.int (minV mm su)), .val (.int fx), .val (.int su), .val (.int sf), .val (.int bs), .val (.int w16), .unset, .unset, .unset] at_227 rfl 229 rfl ?_
      refine p_iconst J1562 at_229 (z := (1 : Int32)) rfl 230 rfl ?_
      refine p_istore J1562 #[.val (.int f0), .val (.int lv), .val (.int v2), .val (.int v3), .val (.int v4), .val (.int (1 : Int32)), .val (.int v6), .val (.int mm), .val (.ref se), .val (.ref lo), .val (.ref ai), .val (.int (minV mm su)), .val (.int (1 : Int32)), .val (.int su), .val (.int sf), .val (.int bs), .val (.int w16), .unset, .unset, .unset] at_230 rfl 232 rfl ?_
      refine p_goto J1562 at_232 259 (by decide) (by decide) ?_
      refine p_iconst J1562 at_259 (z := (1 : Int32)) rfl 260 rfl ?_
      refine p_istore J1562 #[.val (.int f0), .val (.int lv), .val (.int v2), .val (.int v3), .val (.int v4), .val (.int (1 : Int32)), .val (.int v6), .val (.int mm), .val (.ref se), .val (.ref lo), .val (.ref ai), .val (.int (minV mm su)), .val (.int (1 : Int32)), .val (.int su), .val (.int sf), .val (.int (1 : Int32)), .val (.int w16), .unset, .unset, .unset] at_260 rfl 262 rfl ?_
      exact k (minV mm su) mm 1 1 _ (Or.inr rfl) J1562
set_option maxRecDepth 65536 in
set_option maxHeartbeats 40000000 in
theorem sec_nest {l : Launch} {Z : State} {a0 : Array Value} {EL : List (String × Nat)} {LT : List (String × Nat × Addr)} {p : Program} {e : Env} {s : State} {m : MethodId} {args : Array Value} {below : List Frame} {meth : Method} {c : Code} {T : State} {cells slots : Nat} {F : List OB} {Pq : Outcome → State → Prop} (g : GC Z a0 EL) {f0 lv v2 v3 v4 v5 v6 mm : Int32} {se lo ai : Addr} {le mo su fx sf bs w16 : Int32} (j : J l Z a0 EL LT x.cls code maxLocals ret x.name room_1 p e s m args below meth c T cells slots (o_AL ai (.int le) (.int mo) (.int su) (.int fx) (.int sf) (.int bs) (.ref se) :: F)) (hv6 : B01 v6) (hfx : B01 fx) (hsf : B01 sf) (hcl : cells ≤ room_1.cells) (hsl : slots ≤ room_1.slots)
    (kA : ∀ le' mo' bs' T', J l Z a0 EL LT x.cls code maxLocals ret x.name room_1 p e s m args below meth c T' cells slots (o_AL ai (.int le') (.int mo') (.int su) (.int (1 : Int32)) (.int sf) (.int bs') (.ref se) :: F) → Run p.tables e below Pq (T'.setTop (mkF m 315 #[.val (.int f0), .val (.int lv), .val (.int v2), .val (.int v3), .val (.int v4), .val (.int v5), .val (.int v6), .val (.int mm), .val (.ref se), .val (.ref lo), .val (.ref ai), .val (.int le), .val (.int fx), .val (.int su), .val (.int sf), .val (.int bs'), .val (.int w16), .val (.int le'), .val (.int (1 : Int32)), .unset] [])))
    (kB : ∀ T', sf = 0 → J l Z a0 EL LT x.cls code maxLocals ret x.name room_1 p e s m args below meth c T' cells slots (o_AL ai (.int su) (.int (2147483647 : Int32)) (.int su) (.int sf) (.int sf) (.int (1 : Int32)) (.ref se) :: F) → Run p.tables e below Pq (T'.setTop (mkF m 315 #[.val (.int f0), .val (.int lv), .val (.int v2), .val (.int v3), .val (.int v4), .val (.int v5), .val (.int v6), .val (.int mm), .val (.ref se), .val (.ref lo), .val (.ref ai), .val (.int le), .val (.int fx), .val (.int su), .val (.int sf), .val (.int (1 : Int32)), .val (.int w16), .val (.int su), .val (.int sf), .unset] [])))
    : Run p.tables e below Pq (T.setTop (mkF m 262 #[.val (.int f0), .val (.int lv), .val (.int v2), .val (.int v3), .val (.int v4), .val (.int v5), .val (.int v6), .val (.int mm), .val (.ref se), .val (.ref lo), .val (.ref ai), .val (.int le), .val (.int fx), .val (.int su), .val (.int sf), .val (.int bs), .val (.int w16), .unset, .unset, .unset] [])) := by
  refine p_aload j at_262 rfl rfl 264 rfl ?_
  refine p_iload j at_264 rfl 266 rfl ?_
  rcases hv6 with rfl | rfl
  · rcases hfx with rfl | rfl
    · refine i_virtual j at_266 (mt (i := 405) rfl) (mt (i := 406) rfl) (nfSel (mt (i := 408) rfl)) (mt (i := 408) rfl) (mt (i := 407) rfl) (mt (i := 391) rfl) (mt (i := 409) rfl) (by decide) (lenOf pd_23 rfl) 0 rfl (c_snU g ai se le mo su (0 : Int32) sf bs (Or.inl rfl)) [0] [] 1 (by decide) (lenLe F 1 rfl) rfl 0 (by decide) (by decide) hcl hsl rfl (by show (0 : Nat) ≤ _; decide) _ rfl cells slots rfl rfl 269 rfl fun v1566 W1567 T1563 hQ1565 J1564 => ?_
      obtain ⟨rfl, rfl⟩ := hQ1565
      have J1568 := J1564.norm (W' := o_AL ai (.int (1 : Int32)) (.int mo) (.int su) (.int (1 : Int32)) (.int sf) (.int bs) (.ref se) :: F) rfl
      show Run _ _ _ _ (State.setTop _ (mkF m 269 #[.val (.int f0), .val (.int lv), .val (.int v2), .val (.int v3), .val (.int v4), .val (.int v5), .val (.int (0 : Int32)), .val (.int mm), .val (.ref se), .val (.ref lo), .val (.ref ai), .val (.int le), .val (.int (0 : Int32)), .val (.int su), .val (.int sf), .val (.int bs), .val (.int w16), .unset, .unset, .unset] []))
      refine p_iload J1568 at_269 rfl 271 rfl ?_
      refine p_if_y J1568 at_271 (by decide) 288 (by decide) (by decide) ?_
      refine p_iload J1568 at_288 rfl 290 rfl ?_
      refine p_if_y J1568 at_290 (by decide) 309 (by decide) (by decide) ?_
      refine p_iconst J1568 at_309 (z := (1 : Int32)) rfl 310 rfl ?_
      refine p_istore J1568 #[.val (.int f0), .val (.int lv), .val (.int v2), .val (.int v3), .val (.int v4), .val (.int v5), .val (.int (0 : Int32)), .val (.int mm), .val (.ref se), .val (.ref lo), .val (.ref ai), .val (.int le), .val (.int (0 : Int32)), .val (.int su), .val (.int sf), .val (.int bs), .val (.int w16), .val (.int (1 : Int32)), .unset, .unset] at_310 rfl 312 rfl ?_
      refine p_iconst J1568 at_312 (z := (1 : Int32)) rfl 313 rfl ?_
      refine p_istore J1568 #[.val (.int f0), .val (.int lv), .val (.int v2), .val (.int v3), .val (.int v4), .val (.int v5), .val (.int (0 : Int32)), .val (.int mm), .val (.ref se), .val (.ref lo), .val (.ref ai), .val (.int le), .val (.int (0 : Int32)), .val (.int su), .val (.int sf), .val (.int bs), .val (.int w16), .val (.int (1 : Int32)), .val (.int (1 : Int32)), .unset] at_313 rfl 315 rfl ?_
      exact kA 1 mo bs _ J1568
    · by_cases h1 : (1 : Int32) < le
      · refine i_virtual j at_266 (mt (i := 405) rfl) (mt (i := 406) rfl) (nfSel (mt (i := 408) rfl)) (mt (i := 408) rfl) (mt (i := 407) rfl) (mt (i := 391) rfl) (mt (i := 409) rfl) (by decide) (lenOf pd_23 rfl) 0 rfl (c_snU g ai se le mo su (1 : Int32) sf bs (Or.inr h1)) [0] [] 1 (by decide) (lenLe F 1 rfl) rfl 0 (by decide) (by decide) hcl hsl rfl (by show (0 : Nat) ≤ _; decide) _ rfl cells slots rfl rfl 269 rfl fun v1572 W1573 T1569 hQ1571 J1570 => ?_
        obtain ⟨rfl, rfl⟩ := hQ1571
        have J1574 := J1570.norm (W' := o_AL ai (.int (1 : Int32)) (.int mo) (.int su) (.int (1 : Int32)) (.int sf) (.int bs) (.ref se) :: F) rfl
        show Run _ _ _ _ (State.setTop _ (mkF m 269 #[.val (.int f0), .val (.int lv), .val (.int v2), .val (.int v3), .val (.int v4), .val (.int v5), .val (.int (0 : Int32)), .val (.int mm), .val (.ref se), .val (.ref lo), .val (.ref ai), .val (.int le), .val (.int (1 : Int32)), .val (.int su), .val (.int sf), .val (.int bs), .val (.int w16), .unset, .unset, .unset] []))
        refine p_iload J1574 at_269 rfl 271 rfl ?_
        refine p_if_y J1574 at_271 (by decide) 288 (by decide) (by decide) ?_
        refine p_iload J1574 at_288 rfl 290 rfl ?_
        refine p_if_n J1574 at_290 (by decide) 293 rfl ?_
        refine p_iload J1574 at_293 rfl 295 rfl ?_
        refine p_iconst J1574 at_295 (z := (1 : Int32)) rfl 296 rfl ?_
        refine p_icmp_y J1574 at_296 (tlt h1).2.2.1 309 (by decide) (by decide) ?_
        refine p_iconst J1574 at_309 (z := (1 : Int32)) rfl 310 rfl ?_
        refine p_istore J1574 #[.val (.int f0), .val (.int lv), .val (.int v2), .val (.int v3), .val (.int v4), .val (.int v5), .val (.int (0 : Int32)), .val (.int mm), .val (.ref se), .val (.ref lo), .val (.ref ai), .val (.int le), .val (.int (1 : Int32)), .val (.int su), .val (.int sf), .val (.int bs), .val (.int w16), .val (.int (1 : Int32)), .unset, .unset] at_310 rfl 312 rfl ?_
        refine p_iconst J1574 at_312 (z := (1 : Int32)) rfl 313 rfl ?_
        refine p_istore J1574 #[.val (.int f0), .val (.int lv), .val (.int v2), .val (.int v3), .val (.int v4), .val (.int v5), .val (.int (0 : Int32)), .val (.int mm), .val (.ref se), .val (.ref lo), .val (.ref ai), .val (.int le), .val (.int (1 : Int32)), .val (.int su), .val (.int sf), .val (.int bs), .val (.int w16), .val (.int (1 : Int32)), .val (.int (1 : Int32)), .unset] at_313 rfl 315 rfl ?_
        exact kA 1 mo bs _ J1574
      · refine i_virtual j at_266 (mt (i := 405) rfl) (mt (i := 406) rfl) (nfSel (mt (i := 408) rfl)) (mt (i := 408) rfl) (mt (i := 407) rfl) (mt (i := 391) rfl) (mt (i := 409) rfl) (by decide) (lenOf pd_23 rfl) 0 rfl (c_snS g ai se le mo su (1 : Int32) sf bs (by decide) h1) [0] [] 1 (by decide) (lenLe F 1 rfl) rfl 0 (by decide) (by decide) hcl hsl rfl (by show (0 : Nat) ≤ _; decide) _ rfl cells slots rfl rfl 269 rfl fun v1578 W1579 T1575 hQ1577 J1576 => ?_
        obtain ⟨rfl, rfl⟩ := hQ1577
        have J1580 := J1576.norm (W' := o_AL ai (.int le) (.int mo) (.int su) (.int (1 : Int32)) (.int sf) (.int bs) (.ref se) :: F) rfl
        show Run _ _ _ _ (State.setTop _ (mkF m 269 #[.val (.int f0), .val (.int lv), .val (.int v2), .val (.int v3), .val (.int v4), .val (.int v5), .val (.int (0 : Int32)), .val (.int mm), .val (.ref se), .val (.ref lo), .val (.ref ai), .val (.int le), .val (.int (1 : Int32)), .val (.int su), .val (.int sf), .val (.int bs), .val (.int w16), .unset, .unset, .unset] []))
        refine p_iload J1580 at_269 rfl 271 rfl ?_
        refine p_if_y J1580 at_271 (by decide) 288 (by decide) (by decide) ?_
        refine p_iload J1580 at_288 rfl 290 rfl ?_
        refine p_if_n J1580 at_290 (by decide) 293 rfl ?_
        refine p_iload J1580 at_293 rfl 295 rfl ?_
        refine p_iconst J1580 at_295 (z := (1 : Int32)) rfl 296 rfl ?_
        refine p_icmp_n J1580 at_296 (flt h1).2.2.1 299 rfl ?_
        refine p_iload J1580 at_299 rfl 301 rfl ?_
        refine p_istore J1580 #[.val (.int f0), .val (.int lv), .val (.int v2), .val (.int v3), .val (.int v4), .val (.int v5), .val (.int (0 : Int32)), .val (.int mm), .val (.ref se), .val (.ref lo), .val (.ref ai), .val (.int le), .val (.int (1 : Int32)), .val (.int su), .val (.int sf), .val (.int bs), .val (.int w16), .val (.int le), .unset, .unset] at_301 rfl 303 rfl ?_
        refine p_iconst J1580 at_303 (z := (1 : Int32)) rfl 304 rfl ?_
        refine p_istore J1580 #[.val (.int f0), .val (.int lv), .val (.int v2), .val (.int v3), .val (.int v4), .val (.int v5), .val (.int (0 : Int32)), .val (.int mm), .val (.ref se), .val (.ref lo), .val (.ref ai), .val (.int le), .val (.int (1 : Int32)), .val (.int su), .val (.int sf), .val (.int bs), .val (.int w16), .val (.int le), .val (.int (1 : Int32)), .unset] at_304 rfl 306 rfl ?_
        refine p_goto J1580 at_306 315 (by decide) (by decide) ?_
        exact kA le mo bs _ J1580
  · refine i_virtual j at_266 (mt (i := 405) rfl) (mt (i := 406) rfl) (nfSel (mt (i := 408) rfl)) (mt (i := 408) rfl) (mt (i := 407) rfl) (mt (i := 391) rfl) (mt (i := 409) rfl) (by decide) (lenOf pd_23 rfl) 0 rfl (c_snT g ai se le mo su fx sf bs hsf) [0] [] 1 (by decide) (lenLe F 1 rfl) rfl 0 (by decide) (by decide) hcl hsl rfl (by show (0 : Nat) ≤ _; decide) _ rfl cells slots rfl rfl 269 rfl fun v1584 W1585 T1581 hQ1583 J1582 => ?_
    obtain ⟨rfl, rfl⟩ := hQ1583
    have J1586 := J1582.norm (W' := o_AL ai (.int su) (.int (2147483647 : Int32)) (.int su) (.int sf) (.int sf) (.int (1 : Int32)) (.ref se) :: F) rfl
    show Run _ _ _ _ (State.setTop _ (mkF m 269 #[.val (.int f0), .val (.int lv), .val (.int v2), .val (.int v3), .val (.int v4), .val (.int v5), .val (.int (1 : Int32)), .val (.int mm), .val (.ref se), .val (.ref lo), .val (.ref ai), .val (.int le), .val (.int fx), .val (.int su), .val (.int sf), .val (.int bs), .val (.int w16), .unset, .unset, .unset] []))
    refine p_iload J1586 at_269 rfl 271 rfl ?_
    refine p_if_n J1586 at_271 (by decide) 274 rfl ?_
    refine p_iload J1586 at_274 rfl 276 rfl ?_
    refine p_istore J1586 #[.val (.int f0), .val (.int lv), .val (.int v2), .val (.int v3), .val (.int v4), .val (.int v5), .val (.int (1 : Int32)), .val (.int mm), .val (.ref se), .val (.ref lo), .val (.ref ai), .val (.int le), .val (.int fx), .val (.int su), .val (.int sf), .val (.int bs), .val (.int w16), .val (.int su), .unset, .unset] at_276 rfl 278 rfl ?_
    refine p_iload J1586 at_278 rfl 280 rfl ?_
    refine p_istore J1586 #[.val (.int f0), .val (.int lv), .val (.int v2), .val (.int v3), .val (.int v4), .val (.int v5), .val (.int (1 : Int32)), .val (.int mm), .val (.ref se), .val (.ref lo), .val (.ref ai), .val (.int le), .val (.int fx), .val (.int su), .val (.int sf), .val (.int bs), .val (.int w16), .val (.int su), .val (.int sf), .unset] at_280 rfl 282 rfl ?_
    refine p_iconst J1586 at_282 (z := (1 : Int32)) rfl 283 rfl ?_
    refine p_istore J1586 #[.val (.int f0), .val (.int lv), .val (.int v2), .val (.int v3), .val (.int v4), .val (.int v5), .val (.int (1 : Int32)), .val (.int mm), .val (.ref se), .val (.ref lo), .val (.ref ai), .val (.int le), .val (.int fx), .val (.int su), .val (.int sf), .val (.int (1 : Int32)), .val (.int w16), .val (.int su), .val (.int sf), .unset] at_283 rfl 285 rfl ?_
    refine p_goto J1586 at_285 315 (by decide) (by decide) ?_
    rcases hsf with rfl | rfl
    · exact kB _ rfl J1586
    · exact kA su 2147483647 1 _ J1586
set_option maxRecDepth 65536 in
set_option maxHeartbeats 40000000 in
theorem sec_cmp {l : Launch} {Z : State} {a0 : Array Value} {EL : List (String × Nat)} {LT : List (String × Nat × Addr)} {p : Program} {e : Env} {s : State} {m : MethodId} {args : Array Value} {below : List Frame} {meth : Method} {c : Code} {T : State} {cells slots : Nat} {F : List OB} {Pq : Outcome → State → Prop} (g : GC Z a0 EL) {f0 lv v2 v3 v4 v5 v6 mm : Int32} {se lo ai : Addr} {le mo su fx sf bs w11 w12 w16 : Int32} (j : J l Z a0 EL LT x.cls code maxLocals ret x.name room_1 p e s m args below meth c T cells slots (o_AL ai (.int le) (.int mo) (.int su) (.int fx) (.int sf) (.int bs) (.ref se) :: F)) (hfx : B01 fx) (hcl : cells ≤ room_1.cells) (hsl : slots ≤ room_1.slots)
    (k : ∀ T', J l Z a0 EL LT x.cls code maxLocals ret x.name room_1 p e s m args below meth c T' cells slots (o_AL ai (.int le) (.int mo) (.int su) (.int fx) (.int sf) (.int bs) (.ref se) :: F) → Run p.tables e below Pq (T'.setTop (mkF m 350 #[.val (.int f0), .val (.int lv), .val (.int v2), .val (.int v3), .val (.int v4), .val (.int v5), .val (.int v6), .val (.int mm), .val (.ref se), .val (.ref lo), .val (.ref ai), .val (.int le), .val (.int fx), .val (.int su), .val (.int sf), .val (.int bs), .val (.int w16), .val (.int le), .val (.int fx), .val (.int (1 : Int32))] [])))
    : Run p.tables e below Pq (T.setTop (mkF m 315 #[.val (.int f0), .val (.int lv), .val (.int v2), .val (.int v3), .val (.int v4), .val (.int v5), .val (.int v6), .val (.int mm), .val (.ref se), .val (.ref lo), .val (.ref ai), .val (.int w11), .val (.int w12), .val (.int su), .val (.int sf), .val (.int bs), .val (.int w16), .val (.int le), .val (.int fx), .unset] [])) := by
  refine p_aload j at_315 rfl rfl 317 rfl ?_
  refine i_virtual j at_317 (mt (i := 412) rfl) (mt (i := 413) rfl) (nfSel (mt (i := 415) rfl)) (mt (i := 415) rfl) (mt (i := 414) rfl) (mt (i := 391) rfl) (mt (i := 416) rfl) (by decide) (lenOf pd_6 rfl) 0 rfl (c_least g ai se le mo su fx sf bs ) [0] [] 1 (by decide) (lenLe F 1 rfl) rfl 0 (by decide) (by decide) hcl hsl rfl (by show (0 : Nat) ≤ _; decide) _ rfl cells slots rfl rfl 320 rfl fun v1590 W1591 T1587 hQ1589 J1588 => ?_
  obtain ⟨rfl, rfl⟩ := hQ1589
  have J1592 := J1588.norm (W' := o_AL ai (.int le) (.int mo) (.int su) (.int fx) (.int sf) (.int bs) (.ref se) :: F) rfl
  show Run _ _ _ _ (State.setTop _ (mkF m 320 #[.val (.int f0), .val (.int lv), .val (.int v2), .val (.int v3), .val (.int v4), .val (.int v5), .val (.int v6), .val (.int mm), .val (.ref se), .val (.ref lo), .val (.ref ai), .val (.int w11), .val (.int w12), .val (.int su), .val (.int sf), .val (.int bs), .val (.int w16), .val (.int le), .val (.int fx), .unset] [(.int le)]))
  refine p_iload J1592 at_320 rfl 322 rfl ?_
  refine p_icmp_n J1592 at_322 (teq rfl).2 325 rfl ?_
  refine p_aload J1592 at_325 rfl rfl 327 rfl ?_
  refine i_virtual J1592 at_327 (mt (i := 417) rfl) (mt (i := 418) rfl) (nfSel (mt (i := 420) rfl)) (mt (i := 420) rfl) (mt (i := 419) rfl) (mt (i := 391) rfl) (mt (i := 421) rfl) (by decide) (lenOf pd_8 rfl) 0 rfl (c_isFixed g ai se le mo su fx sf bs hfx) [0] [] 1 (by decide) (lenLe F 1 rfl) rfl 0 (by decide) (by decide) hcl hsl rfl (by show (0 : Nat) ≤ _; decide) _ rfl cells slots rfl rfl 330 rfl fun v1596 W1597 T1593 hQ1595 J1594 => ?_
  obtain ⟨rfl, rfl⟩ := hQ1595
  have J1598 := J1594.norm (W' := o_AL ai (.int le) (.int mo) (.int su) (.int fx) (.int sf) (.int bs) (.ref se) :: F) rfl
  show Run _ _ _ _ (State.setTop _ (mkF m 330 #[.val (.int f0), .val (.int lv), .val (.int v2), .val (.int v3), .val (.int v4), .val (.int v5), .val (.int v6), .val (.int mm), .val (.ref se), .val (.ref lo), .val (.ref ai), .val (.int w11), .val (.int w12), .val (.int su), .val (.int sf), .val (.int bs), .val (.int w16), .val (.int le), .val (.int fx), .unset] [(.int fx)]))
  refine p_iload J1598 at_330 rfl 332 rfl ?_
  refine p_icmp_n J1598 at_332 (teq rfl).2 335 rfl ?_
  refine p_iconst J1598 at_335 (z := (1 : Int32)) rfl 336 rfl ?_
  refine p_goto J1598 at_336 340 (by decide) (by decide) ?_
  refine p_istore J1598 #[.val (.int f0), .val (.int lv), .val (.int v2), .val (.int v3), .val (.int v4), .val (.int v5), .val (.int v6), .val (.int mm), .val (.ref se), .val (.ref lo), .val (.ref ai), .val (.int w11), .val (.int w12), .val (.int su), .val (.int sf), .val (.int bs), .val (.int w16), .val (.int le), .val (.int fx), .val (.int (1 : Int32))] at_340 rfl 342 rfl ?_
  refine p_iload J1598 at_342 rfl 344 rfl ?_
  refine p_istore J1598 #[.val (.int f0), .val (.int lv), .val (.int v2), .val (.int v3), .val (.int v4), .val (.int v5), .val (.int v6), .val (.int mm), .val (.ref se), .val (.ref lo), .val (.ref ai), .val (.int le), .val (.int w12), .val (.int su), .val (.int sf), .val (.int bs), .val (.int w16), .val (.int le), .val (.int fx), .val (.int (1 : Int32))] at_344 rfl 346 rfl ?_
  refine p_iload J1598 at_346 rfl 348 rfl ?_
  refine p_istore J1598 #[.val (.int f0), .val (.int lv), .val (.int v2), .val (.int v3), .val (.int v4), .val (.int v5), .val (.int v6), .val (.int mm), .val (.ref se), .val (.ref lo), .val (.ref ai), .val (.int le), .val (.int fx), .val (.int su), .val (.int sf), .val (.int bs), .val (.int w16), .val (.int le), .val (.int fx), .val (.int (1 : Int32))] at_348 rfl 350 rfl ?_
  exact k _ J1598
set_option maxRecDepth 65536 in
set_option maxHeartbeats 40000000 in
theorem sec_end {l : Launch} {Z : State} {a0 : Array Value} {EL : List (String × Nat)} {LT : List (String × Nat × Addr)} {p : Program} {e : Env} {s : State} {m : MethodId} {args : Array Value} {below : List Frame} {meth : Method} {c : Code} {T : State} {cells slots : Nat} {F : List OB} {Pq : Outcome → State → Prop} (g : GC Z a0 EL) {f0 lv v2 v3 v4 v5 v6 mm : Int32} {se lo ai : Addr} {le mo su fx sf bs w11 w12 w15 w16 w17 w18 : Int32} (j : J l Z a0 EL LT x.cls code maxLocals ret x.name room_1 p e s m args below meth c T cells slots (o_AL ai (.int le) (.int mo) (.int su) (.int fx) (.int sf) (.int bs) (.ref se) :: F)) (hsf : B01 sf) (hsu : su < (2147483647 : Int32)) (hcl : cells ≤ room_1.cells) (hsl : slots ≤ room_1.slots)
    (k : ∀ (o : OB) T', J l Z a0 EL LT x.cls code maxLocals ret x.name room_1 p e s m args below meth c T' cells slots (o :: F) → Run p.tables e below Pq (T'.setTop (mkF m 451 #[.val (.int f0), .val (.int lv), .val (.int v2), .val (.int v3), .val (.int v4), .val (.int v5), .val (.int v6), .val (.int mm), .val (.ref se), .val (.ref lo), .val (.ref ai), .val (.int w11), .val (.int w12), .val (.int su), .val (.int sf), .val (.int w15), .val (.int w16), .val (.int w17), .val (.int w18), .val (.int (1 : Int32))] [(.int (1 : Int32))])))
    : Run p.tables e below Pq (T.setTop (mkF m 414 #[.val (.int f0), .val (.int lv), .val (.int v2), .val (.int v3), .val (.int v4), .val (.int v5), .val (.int v6), .val (.int mm), .val (.ref se), .val (.ref lo), .val (.ref ai), .val (.int w11), .val (.int w12), .val (.int su), .val (.int sf), .val (.int w15), .val (.int w16), .val (.int w17), .val (.int w18), .val (.int (1 : Int32))] [])) := by
  rcases hsf with rfl | rfl
  · refine p_aload j at_414 rfl rfl 416 rfl ?_
    refine i_ldcI j at_416 (mt (i := 0) rfl) 418 rfl ?_
    refine i_virtual j at_418 (mt (i := 428) rfl) (mt (i := 429) rfl) (nfSel (mt (i := 431) rfl)) (mt (i := 431) rfl) (mt (i := 430) rfl) (mt (i := 391) rfl) (mt (i := 432) rfl) (by decide) (lenOf pd_2 rfl) 0 rfl (c_smC g ai se le mo su fx (0 : Int32) bs (2147483647 : Int32) rfl hsu) [0] [] 1 (by decide) (lenLe F 1 rfl) rfl 0 (by decide) (by decide) hcl hsl rfl (by show (0 : Nat) ≤ _; decide) _ rfl cells slots rfl rfl 421 rfl fun v1602 W1603 T1599 hQ1601 J1600 => ?_
    obtain ⟨rfl, rfl⟩ := hQ1601
    have J1604 := J1600.norm (W' := o_AL ai (.int su) (.int (2147483647 : Int32)) (.int su) (.int (0 : Int32)) (.int (0 : Int32)) (.int (1 : Int32)) (.ref se) :: F) rfl
    show Run _ _ _ _ (State.setTop _ (mkF m 421 #[.val (.int f0), .val (.int lv), .val (.int v2), .val (.int v3), .val (.int v4), .val (.int v5), .val (.int v6), .val (.int mm), .val (.ref se), .val (.ref lo), .val (.ref ai), .val (.int w11), .val (.int w12), .val (.int su), .val (.int (0 : Int32)), .val (.int w15), .val (.int w16), .val (.int w17), .val (.int w18), .val (.int (1 : Int32))] []))
    refine p_iload J1604 at_421 rfl 423 rfl ?_
    refine p_if_n J1604 at_423 (by decide) 426 rfl ?_
    refine p_aload J1604 at_426 rfl rfl 428 rfl ?_
    refine i_virtual J1604 at_428 (mt (i := 412) rfl) (mt (i := 413) rfl) (nfSel (mt (i := 415) rfl)) (mt (i := 415) rfl) (mt (i := 414) rfl) (mt (i := 391) rfl) (mt (i := 416) rfl) (by decide) (lenOf pd_6 rfl) 0 rfl (c_least g ai se su (2147483647 : Int32) su (0 : Int32) (0 : Int32) (1 : Int32) ) [0] [] 1 (by decide) (lenLe F 1 rfl) rfl 0 (by decide) (by decide) hcl hsl rfl (by show (0 : Nat) ≤ _; decide) _ rfl cells slots rfl rfl 431 rfl fun v1608 W1609 T1605 hQ1607 J1606 => ?_
    obtain ⟨rfl, rfl⟩ := hQ1607
    have J1610 := J1606.norm (W' := o_AL ai (.int su) (.int (2147483647 : Int32)) (.int su) (.int (0 : Int32)) (.int (0 : Int32)) (.int (1 : Int32)) (.ref se) :: F) rfl
    show Run _ _ _ _ (State.setTop _ (mkF m 431 #[.val (.int f0), .val (.int lv), .val (.int v2), .val (.int v3), .val (.int v4), .val (.int v5), .val (.int v6), .val (.int mm), .val (.ref se), .val (.ref lo), .val (.ref ai), .val (.int w11), .val (.int w12), .val (.int su), .val (.int (0 : Int32)), .val (.int w15), .val (.int w16), .val (.int w17), .val (.int w18), .val (.int (1 : Int32))] [(.int su)]))
    refine p_iload J1610 at_431 rfl 433 rfl ?_
    refine p_icmp_n J1610 at_433 (teq rfl).2 436 rfl ?_
    refine p_aload J1610 at_436 rfl rfl 438 rfl ?_
    refine i_virtual J1610 at_438 (mt (i := 417) rfl) (mt (i := 418) rfl) (nfSel (mt (i := 420) rfl)) (mt (i := 420) rfl) (mt (i := 419) rfl) (mt (i := 391) rfl) (mt (i := 421) rfl) (by decide) (lenOf pd_8 rfl) 0 rfl (c_isFixed g ai se su (2147483647 : Int32) su (0 : Int32) (0 : Int32) (1 : Int32) (Or.inl rfl)) [0] [] 1 (by decide) (lenLe F 1 rfl) rfl 0 (by decide) (by decide) hcl hsl rfl (by show (0 : Nat) ≤ _; decide) _ rfl cells slots rfl rfl 441 rfl fun v1614 W1615 T1611 hQ1613 J1612 => ?_
    obtain ⟨rfl, rfl⟩ := hQ1613
    have J1616 := J1612.norm (W' := o_AL ai (.int su) (.int (2147483647 : Int32)) (.int su) (.int (0 : Int32)) (.int (0 : Int32)) (.int (1 : Int32)) (.ref se) :: F) rfl
    show Run _ _ _ _ (State.setTop _ (mkF m 441 #[.val (.int f0), .val (.int lv), .val (.int v2), .val (.int v3), .val (.int v4), .val (.int v5), .val (.int v6), .val (.int mm), .val (.ref se), .val (.ref lo), .val (.ref ai), .val (.int w11), .val (.int w12), .val (.int su), .val (.int (0 : Int32)), .val (.int w15), .val (.int w16), .val (.int w17), .val (.int w18), .val (.int (1 : Int32))] [(.int (0 : Int32))]))
    refine p_iload J1616 at_441 rfl 443 rfl ?_
    refine p_icmp_n J1616 at_443 (by decide) 446 rfl ?_
    refine p_iconst J1616 at_446 (z := (1 : Int32)) rfl 447 rfl ?_
    refine p_goto J1616 at_447 451 (by decide) (by decide) ?_
    exact k _ _ J1616
  · refine p_aload j at_414 rfl rfl 416 rfl ?_
    refine i_ldcI j at_416 (mt (i := 0) rfl) 418 rfl ?_
    refine i_virtual j at_418 (mt (i := 428) rfl) (mt (i := 429) rfl) (nfSel (mt (i := 431) rfl)) (mt (i := 431) rfl) (mt (i := 430) rfl) (mt (i := 391) rfl) (mt (i := 432) rfl) (by decide) (lenOf pd_2 rfl) 0 rfl (c_smA g ai se le mo su fx (1 : Int32) bs (2147483647 : Int32) (by decide)) [0] [] 1 (by decide) (lenLe F 1 rfl) rfl 0 (by decide) (by decide) hcl hsl rfl (by show (0 : Nat) ≤ _; decide) _ rfl cells slots rfl rfl 421 rfl fun v1620 W1621 T1617 hQ1619 J1618 => ?_
    obtain ⟨rfl, rfl⟩ := hQ1619
    have J1622 := J1618.norm (W' := o_AL ai (.int (minV (2147483647 : Int32) su)) (.int (2147483647 : Int32)) (.int su) (.int (1 : Int32)) (.int (1 : Int32)) (.int (1 : Int32)) (.ref se) :: F) rfl
    show Run _ _ _ _ (State.setTop _ (mkF m 421 #[.val (.int f0), .val (.int lv), .val (.int v2), .val (.int v3), .val (.int v4), .val (.int v5), .val (.int v6), .val (.int mm), .val (.ref se), .val (.ref lo), .val (.ref ai), .val (.int w11), .val (.int w12), .val (.int su), .val (.int (1 : Int32)), .val (.int w15), .val (.int w16), .val (.int w17), .val (.int w18), .val (.int (1 : Int32))] []))
    refine p_iload J1622 at_421 rfl 423 rfl ?_
    refine p_if_n J1622 at_423 (by decide) 426 rfl ?_
    refine p_aload J1622 at_426 rfl rfl 428 rfl ?_
    refine i_virtual J1622 at_428 (mt (i := 412) rfl) (mt (i := 413) rfl) (nfSel (mt (i := 415) rfl)) (mt (i := 415) rfl) (mt (i := 414) rfl) (mt (i := 391) rfl) (mt (i := 416) rfl) (by decide) (lenOf pd_6 rfl) 0 rfl (c_least g ai se (minV (2147483647 : Int32) su) (2147483647 : Int32) su (1 : Int32) (1 : Int32) (1 : Int32) ) [0] [] 1 (by decide) (lenLe F 1 rfl) rfl 0 (by decide) (by decide) hcl hsl rfl (by show (0 : Nat) ≤ _; decide) _ rfl cells slots rfl rfl 431 rfl fun v1626 W1627 T1623 hQ1625 J1624 => ?_
    obtain ⟨rfl, rfl⟩ := hQ1625
    have J1628 := J1624.norm (W' := o_AL ai (.int (minV (2147483647 : Int32) su)) (.int (2147483647 : Int32)) (.int su) (.int (1 : Int32)) (.int (1 : Int32)) (.int (1 : Int32)) (.ref se) :: F) rfl
    show Run _ _ _ _ (State.setTop _ (mkF m 431 #[.val (.int f0), .val (.int lv), .val (.int v2), .val (.int v3), .val (.int v4), .val (.int v5), .val (.int v6), .val (.int mm), .val (.ref se), .val (.ref lo), .val (.ref ai), .val (.int w11), .val (.int w12), .val (.int su), .val (.int (1 : Int32)), .val (.int w15), .val (.int w16), .val (.int w17), .val (.int w18), .val (.int (1 : Int32))] [(.int (minV (2147483647 : Int32) su))]))
    refine p_iload J1628 at_431 rfl 433 rfl ?_
    have hmv : minV (2147483647 : Int32) su = su := if_pos hsu
    refine p_icmp_n J1628 at_433 (teq hmv).2 436 rfl ?_
    refine p_aload J1628 at_436 rfl rfl 438 rfl ?_
    refine i_virtual J1628 at_438 (mt (i := 417) rfl) (mt (i := 418) rfl) (nfSel (mt (i := 420) rfl)) (mt (i := 420) rfl) (mt (i := 419) rfl) (mt (i := 391) rfl) (mt (i := 421) rfl) (by decide) (lenOf pd_8 rfl) 0 rfl (c_isFixed g ai se (minV (2147483647 : Int32) su) (2147483647 : Int32) su (1 : Int32) (1 : Int32) (1 : Int32) (Or.inr rfl)) [0] [] 1 (by decide) (lenLe F 1 rfl) rfl 0 (by decide) (by decide) hcl hsl rfl (by show (0 : Nat) ≤ _; decide) _ rfl cells slots rfl rfl 441 rfl fun v1632 W1633 T1629 hQ1631 J1630 => ?_
    obtain ⟨rfl, rfl⟩ := hQ1631
    have J1634 := J1630.norm (W' := o_AL ai (.int (minV (2147483647 : Int32) su)) (.int (2147483647 : Int32)) (.int su) (.int (1 : Int32)) (.int (1 : Int32)) (.int (1 : Int32)) (.ref se) :: F) rfl
    show Run _ _ _ _ (State.setTop _ (mkF m 441 #[.val (.int f0), .val (.int lv), .val (.int v2), .val (.int v3), .val (.int v4), .val (.int v5), .val (.int v6), .val (.int mm), .val (.ref se), .val (.ref lo), .val (.ref ai), .val (.int w11), .val (.int w12), .val (.int su), .val (.int (1 : Int32)), .val (.int w15), .val (.int w16), .val (.int w17), .val (.int w18), .val (.int (1 : Int32))] [(.int (1 : Int32))]))
    refine p_iload J1634 at_441 rfl 443 rfl ?_
    refine p_icmp_n J1634 at_443 (by decide) 446 rfl ?_
    refine p_iconst J1634 at_446 (z := (1 : Int32)) rfl 447 rfl ?_
    refine p_goto J1634 at_447 451 (by decide) (by decide) ?_
    exact k _ _ J1634
theorem pd_24 : parseMethodDescriptor "(J)V" = some ⟨[.long], none⟩ := by decide +kernel
theorem pd_25 : parseMethodDescriptor "(Ljava/lang/String;II)Lcom/example/lockstep/lockstep/core/value/SourceLocation;" = some ⟨[(.object "java/lang/String"), .int, .int], some (.object "com/example/lockstep/lockstep/core/value/SourceLocation")⟩ := by decide +kernel
theorem pd_26 : parseMethodDescriptor "(Lcom/example/lockstep/lockstep/core/Search;)V" = some ⟨[(.object "com/example/lockstep/lockstep/core/Search")], none⟩ := by decide +kernel
theorem pd_27 : parseMethodDescriptor "(ILjava/lang/String;Lcom/example/lockstep/lockstep/core/value/SourceLocation;)Z" = some ⟨[.int, (.object "java/lang/String"), (.object "com/example/lockstep/lockstep/core/value/SourceLocation")], some .boolean⟩ := by decide +kernel
theorem pn_law : plainFor x = true := by first | exact plainFor_of_name (by first | (simp [plainName, overriddenIn]; done) | decide +kernel) | decide +kernel
set_option maxRecDepth 65536 in
set_option maxHeartbeats 80000000 in
theorem met_law {l : Launch} {Z : State} {a0 : Array Value} {EL : List (String × Nat)} (g : GC Z a0 EL) (hEL : EL = [("com/example/lockstep/lockstep/core/ActiveLevelsSetNestedPinLaw", 13), ("com/example/lockstep/lockstep/core/ActiveLevelsSetNestedPinLaw", 26), ("com/example/lockstep/lockstep/core/Search", 488), ("com/example/lockstep/lockstep/core/Search", 491), ("com/example/lockstep/lockstep/core/value/SourceLocation", 38)]) (f0 lv : Int32) (dc : Addr) (hDC : Sta Z Z.heap "java/util/ArrayList" "DEFAULTCAPACITY_EMPTY_ELEMENTDATA" "[Ljava/lang/Object;" (.ref dc)) (mS mA : Addr) (hMS : Mir Z "java/util/Collections$SingletonList" mS) (hMA : Mir Z "java/util/ArrayList" mA) (mO : Addr) (hO : Mir Z "[Ljava/lang/Object;" mO) : ∀ (ws : List Jvm.Cond) (F : List OB) (h0 : Heap), MetFree l x (head1 (Jvm.Cond.code x code maxLocals ret :: ws) room_1) (fun a U => a = [.int f0, .int lv].toArray ∧ Z.Warmed39 U.vm ∧ U.heap = h0 ∧ WL Z EL U.vm h0 ([] ++ F)) (fun _ _ _ _ _ => True) (fun _ U o U' => PostW Z [] room_1 U F (fun v W' => v = some (.int 1) ∧ W' = []) o U') := by
  have g0 : GC Z a0 [] := ⟨g.1, EW.nil, g.2.2⟩
  refine Con.mk2 g pn_law (Ls := #[.val (.int f0), .val (.int lv), .unset, .unset, .unset, .unset, .unset, .unset, .unset, .unset, .unset, .unset, .unset, .unset, .unset, .unset, .unset, .unset, .unset, .unset]) (fun m => by first | (simp [entryFrame, mkF, argsToLocals, Value.category, maxLocals]; done) | rfl) ?_
  intro p e s m below meth c T0 F J0
  refine p_iload_n J0 at_0 rfl 1 rfl ?_
  refine p_iconst J0 at_1 (z := (1 : Int32)) rfl 2 rfl ?_
  refine p_iand J0 at_2 (z := (f0 &&& (1 : Int32))) rfl 3 rfl ?_
  refine bool_3 J0 fun v2 hv2 => ?_
  refine p_istore_n J0 #[.val (.int f0), .val (.int lv), .val (.int v2), .unset, .unset, .unset, .unset, .unset, .unset, .unset, .unset, .unset, .unset, .unset, .unset, .unset, .unset, .unset, .unset, .unset] at_11 rfl 12 rfl ?_
  refine p_iload_n J0 at_12 rfl 13 rfl ?_
  refine p_iconst J0 at_13 (z := (2 : Int32)) rfl 14 rfl ?_
  refine p_iand J0 at_14 (z := (f0 &&& (2 : Int32))) rfl 15 rfl ?_
  refine bool_15 J0 fun v3 hv3 => ?_
  refine p_istore_n J0 #[.val (.int f0), .val (.int lv), .val (.int v2), .val (.int v3), .unset, .unset, .unset, .unset, .unset, .unset, .unset, .unset, .unset, .unset, .unset, .unset, .unset, .unset, .unset, .unset] at_23 rfl 24 rfl ?_
  refine p_iload_n J0 at_24 rfl 25 rfl ?_
  refine p_iconst J0 at_25 (z := (4 : Int32)) rfl 26 rfl ?_
  refine p_iand J0 at_26 (z := (f0 &&& (4 : Int32))) rfl 27 rfl ?_
  refine bool_27 J0 fun v4 hv4 => ?_
  refine p_istore J0 #[.val (.int f0), .val (.int lv), .val (.int v2), .val (.int v3), .val (.int v4), .unset, .unset, .unset, .unset, .unset, .unset, .unset, .unset, .unset, .unset, .unset, .unset, .unset, .unset, .unset] at_35 rfl 37 rfl ?_
  refine p_iload_n J0 at_37 rfl 38 rfl ?_
  refine p_bipush J0 at_38 (z := (8 : Int32)) rfl 40 rfl ?_
  refine p_iand J0 at_40 (z := (f0 &&& (8 : Int32))) rfl 41 rfl ?_
  refine bool_41 J0 fun v5 hv5 => ?_
  refine p_istore J0 #[.val (.int f0), .val (.int lv), .val (.int v2), .val (.int v3), .val (.int v4), .val (.int v5), .unset, .unset, .unset, .unset, .unset, .unset, .unset, .unset, .unset, .unset, .unset, .unset, .unset, .unset] at_49 rfl 51 rfl ?_
  refine p_iload_n J0 at_51 rfl 52 rfl ?_
  refine p_bipush J0 at_52 (z := (16 : Int32)) rfl 54 rfl ?_
  refine p_iand J0 at_54 (z := (f0 &&& (16 : Int32))) rfl 55 rfl ?_
  refine bool_55 J0 fun v6 hv6 => ?_
  refine p_istore J0 #[.val (.int f0), .val (.int lv), .val (.int v2), .val (.int v3), .val (.int v4), .val (.int v5), .val (.int v6), .unset, .unset, .unset, .unset, .unset, .unset, .unset, .unset, .unset, .unset, .unset, .unset, .unset] at_63 rfl 65 rfl ?_
  refine p_iload_n J0 at_65 rfl 66 rfl ?_
  refine i_ldcI J0 at_66 (mt (i := 0) rfl) 68 rfl ?_
  refine p_iand J0 at_68 (z := (lv &&& (2147483647 : Int32))) rfl 69 rfl ?_
  generalize (lv &&& (2147483647 : Int32)) = mm
  refine p_istore J0 #[.val (.int f0), .val (.int lv), .val (.int v2), .val (.int v3), .val (.int v4), .val (.int v5), .val (.int v6), .val (.int mm), .unset, .unset, .unset, .unset, .unset, .unset, .unset, .unset, .unset, .unset, .unset, .unset] at_69 rfl 71 rfl ?_
  refine i_new J0 at_71 (mt (i := 1) rfl) (mt (i := 2) rfl) (mt (i := 3) rfl) (by decide) (by decide) df_SE 1 55 rfl rfl 74 rfl fun a1635 T1636 J1637 => ?_
  refine p_dup J1637 at_74 rfl 75 rfl ?_
  refine p_lconst J1637 at_75 (z := (1 : Int64)) rfl 76 rfl ?_
  refine i_special J1637 at_76 rfl (mt (i := 4) rfl) (mt (i := 5) rfl) (mt (i := 3) rfl) (mt (i := 6) rfl) (by decide) (lenOf pd_24 rfl) (c_search1 g a1635 dc hDC mS mA hMS hMA mO hO) [0] [] 1 (by decide) (lenLe F 1 rfl) rfl 1 (by decide) (by decide) (by decide) (by decide) rfl (by show (1 : Nat) ≤ _; decide) _ rfl 48 532 rfl rfl 79 rfl fun v1651 W1652 T1648 hQ1650 J1649 => ?_
  obtain ⟨po1638, po11639, wb1640, wb11641, ls1642, ls11643, pts1644, kp1645, sv1646, pt1647, rfl, rfl⟩ := hQ1650
  have J1653 := J1649.norm (W' := o_SE a1635 (.ref po1638) (.ref wb1640) (.ref ls1642) (.ref pts1644) (.int (0 : Int32)) (.int (-1 : Int32)) (.ref sv1646) (.ref pt1647) (.int (0 : Int32)) (.int (0 : Int32)) (.long (0 : Int64)) (.int (0 : Int32)) (.int (0 : Int32)) :: o_PC po1638 (.ref po11639) :: o_HM po11639 (.int (0 : Int32)) .null :: o_PC wb1640 (.ref wb11641) :: o_HM wb11641 (.int (0 : Int32)) .null :: o_HS ls1642 (.ref ls11643) :: o_HM ls11643 (.int (0 : Int32)) .null :: (pts1644, true, .inr (kp1645, (.object "com/example/lockstep/lockstep/core/ChoicePoint"), (16 : Int32), [.null, .null], .null)) :: o_AY sv1646 (.int (0 : Int32)) :: o_AY pt1647 (.int (0 : Int32)) :: F) rfl
  show Run _ _ _ _ (State.setTop _ (mkF m 79 #[.val (.int f0), .val (.int lv), .val (.int v2), .val (.int v3), .val (.int v4), .val (.int v5), .val (.int v6), .val (.int mm), .unset, .unset, .unset, .unset, .unset, .unset, .unset, .unset, .unset, .unset, .unset, .unset] [(.ref a1635)]))
  refine p_astore J1653 #[.val (.int f0), .val (.int lv), .val (.int v2), .val (.int v3), .val (.int v4), .val (.int v5), .val (.int v6), .val (.int mm), .val (.ref a1635), .unset, .unset, .unset, .unset, .unset, .unset, .unset, .unset, .unset, .unset, .unset] at_79 rfl rfl 81 rfl ?_
  refine i_ldcS J1653 at_81 (mt (i := 352) rfl) (by rw [hEL]; exact List.mem_of_getElem? (i := 0) rfl) (vs := [(.int (102 : Int32))]) (z := (1 : Int32)) (by decide) (by decide) (by decide) 4 (by decide) (by decide) (by decide) (by decide) 50 540 rfl rfl 83 rfl fun a1654 a1657 k1658 T1655 J1656 => ?_
  refine p_iconst J1656 at_83 (z := (1 : Int32)) rfl 84 rfl ?_
  refine p_iconst J1656 at_84 (z := (1 : Int32)) rfl 85 rfl ?_
  refine i_static J1656 at_85 (mt (i := 360) rfl) (mt (i := 361) rfl) (mt (i := 362) rfl) (mt (i := 363) rfl) (by decide) (lenOf pd_25 rfl) (c_locof g a1654 a1657 k1658 ) [0, 1] [2, 3, 4, 5, 6, 7, 8, 9, 10, 11] 12 (by decide) (lenLe F 12 rfl) rfl 0 (by decide) (by decide) (by decide) (by decide) rfl (by show (0 : Nat) ≤ _; decide) _ rfl 53 563 rfl rfl 88 rfl fun v1663 W1664 T1660 hQ1662 J1661 => ?_
  obtain ⟨lo1659, rfl, rfl⟩ := hQ1662
  have J1665 := J1661.norm (W' := o_LO lo1659  :: o_SE a1635 (.ref po1638) (.ref wb1640) (.ref ls1642) (.ref pts1644) (.int (0 : Int32)) (.int (-1 : Int32)) (.ref sv1646) (.ref pt1647) (.int (0 : Int32)) (.int (0 : Int32)) (.long (0 : Int64)) (.int (0 : Int32)) (.int (0 : Int32)) :: o_PC po1638 (.ref po11639) :: o_HM po11639 (.int (0 : Int32)) .null :: o_PC wb1640 (.ref wb11641) :: o_HM wb11641 (.int (0 : Int32)) .null :: o_HS ls1642 (.ref ls11643) :: o_HM ls11643 (.int (0 : Int32)) .null :: (pts1644, true, .inr (kp1645, (.object "com/example/lockstep/lockstep/core/ChoicePoint"), (16 : Int32), [.null, .null], .null)) :: o_AY sv1646 (.int (0 : Int32)) :: o_AY pt1647 (.int (0 : Int32)) :: F) rfl
  show Run _ _ _ _ (State.setTop _ (mkF m 88 #[.val (.int f0), .val (.int lv), .val (.int v2), .val (.int v3), .val (.int v4), .val (.int v5), .val (.int v6), .val (.int mm), .val (.ref a1635), .unset, .unset, .unset, .unset, .unset, .unset, .unset, .unset, .unset, .unset, .unset] [(.ref lo1659)]))
  refine p_astore J1665 #[.val (.int f0), .val (.int lv), .val (.int v2), .val (.int v3), .val (.int v4), .val (.int v5), .val (.int v6), .val (.int mm), .val (.ref a1635), .val (.ref lo1659), .unset, .unset, .unset, .unset, .unset, .unset, .unset, .unset, .unset, .unset] at_88 rfl rfl 90 rfl ?_
  refine i_new J1665 at_90 (mt (i := 389) rfl) (mt (i := 390) rfl) (mt (i := 391) rfl) (by decide) (by decide) df_AL 54 570 rfl rfl 93 rfl fun a1666 T1667 J1668 => ?_
  refine p_dup J1668 at_93 rfl 94 rfl ?_
  refine p_aload J1668 at_94 rfl rfl 96 rfl ?_
  refine i_special J1668 at_96 rfl (mt (i := 392) rfl) (mt (i := 393) rfl) (mt (i := 391) rfl) (mt (i := 394) rfl) (by decide) (lenOf pd_26 rfl) (c_al g a1666 a1635 ) [0] [1, 2, 3, 4, 5, 6, 7, 8, 9, 10, 11] 12 (by decide) (lenLe F 12 rfl) rfl 1 (by decide) (by decide) (by decide) (by decide) rfl (by show (1 : Nat) ≤ _; decide) _ rfl 54 570 rfl rfl 99 rfl fun v1672 W1673 T1669 hQ1671 J1670 => ?_
  obtain ⟨rfl, rfl⟩ := hQ1671
  have J1674 := J1670.norm (W' := o_AL a1666 (.int (1 : Int32)) (.int (2147483647 : Int32)) (.int (1 : Int32)) (.int (0 : Int32)) (.int (0 : Int32)) (.int (0 : Int32)) (.ref a1635) :: o_LO lo1659  :: o_SE a1635 (.ref po1638) (.ref wb1640) (.ref ls1642) (.ref pts1644) (.int (0 : Int32)) (.int (-1 : Int32)) (.ref sv1646) (.ref pt1647) (.int (0 : Int32)) (.int (0 : Int32)) (.long (0 : Int64)) (.int (0 : Int32)) (.int (0 : Int32)) :: o_PC po1638 (.ref po11639) :: o_HM po11639 (.int (0 : Int32)) .null :: o_PC wb1640 (.ref wb11641) :: o_HM wb11641 (.int (0 : Int32)) .null :: o_HS ls1642 (.ref ls11643) :: o_HM ls11643 (.int (0 : Int32)) .null :: (pts1644, true, .inr (kp1645, (.object "com/example/lockstep/lockstep/core/ChoicePoint"), (16 : Int32), [.null, .null], .null)) :: o_AY sv1646 (.int (0 : Int32)) :: o_AY pt1647 (.int (0 : Int32)) :: F) rfl
  show Run _ _ _ _ (State.setTop _ (mkF m 99 #[.val (.int f0), .val (.int lv), .val (.int v2), .val (.int v3), .val (.int v4), .val (.int v5), .val (.int v6), .val (.int mm), .val (.ref a1635), .val (.ref lo1659), .unset, .unset, .unset, .unset, .unset, .unset, .unset, .unset, .unset, .unset] [(.ref a1666)]))
  refine p_astore J1674 #[.val (.int f0), .val (.int lv), .val (.int v2), .val (.int v3), .val (.int v4), .val (.int v5), .val (.int v6), .val (.int mm), .val (.ref a1635), .val (.ref lo1659), .val (.ref a1666), .unset, .unset, .unset, .unset, .unset, .unset, .unset, .unset, .unset] at_99 rfl rfl 101 rfl ?_
  refine p_iload_n J1674 at_101 rfl 102 rfl ?_
  rcases hv2 with rfl | rfl
  · refine p_if_y J1674 at_102 (by decide) 133 (by decide) (by decide) ?_
    have J1675 := J1674.weak [0, 2, 9, 1] 12 (by decide) (lenLe F 12 rfl) (W' := o_AL a1666 (.int (1 : Int32)) (.int (2147483647 : Int32)) (.int (1 : Int32)) (.int (0 : Int32)) (.int (0 : Int32)) (.int (0 : Int32)) (.ref a1635) :: o_SE a1635 (.ref po1638) (.ref wb1640) (.ref ls1642) (.ref pts1644) (.int (0 : Int32)) (.int (-1 : Int32)) (.ref sv1646) (.ref pt1647) (.int (0 : Int32)) (.int (0 : Int32)) (.long (0 : Int64)) (.int (0 : Int32)) (.int (0 : Int32)) :: (pts1644, true, .inr (kp1645, (.object "com/example/lockstep/lockstep/core/ChoicePoint"), (16 : Int32), [.null, .null], .null)) :: o_LO lo1659  :: F) rfl
    refine p_iconst J1675 at_133 (z := (1 : Int32)) rfl 134 rfl ?_
    refine p_istore J1675 #[.val (.int f0), .val (.int lv), .val (.int (0 : Int32)), .val (.int v3), .val (.int v4), .val (.int v5), .val (.int v6), .val (.int mm), .val (.ref a1635), .val (.ref lo1659), .val (.ref a1666), .val (.int (1 : Int32)), .unset, .unset, .unset, .unset, .unset, .unset, .unset, .unset] at_134 rfl 136 rfl ?_
    refine p_iconst J1675 at_136 (z := (0 : Int32)) rfl 137 rfl ?_
    refine p_istore J1675 #[.val (.int f0), .val (.int lv), .val (.int (0 : Int32)), .val (.int v3), .val (.int v4), .val (.int v5), .val (.int v6), .val (.int mm), .val (.ref a1635), .val (.ref lo1659), .val (.ref a1666), .val (.int (1 : Int32)), .val (.int (0 : Int32)), .unset, .unset, .unset, .unset, .unset, .unset, .unset] at_137 rfl 139 rfl ?_
    refine p_iconst J1675 at_139 (z := (1 : Int32)) rfl 140 rfl ?_
    refine p_istore J1675 #[.val (.int f0), .val (.int lv), .val (.int (0 : Int32)), .val (.int v3), .val (.int v4), .val (.int v5), .val (.int v6), .val (.int mm), .val (.ref a1635), .val (.ref lo1659), .val (.ref a1666), .val (.int (1 : Int32)), .val (.int (0 : Int32)), .val (.int (1 : Int32)), .unset, .unset, .unset, .unset, .unset, .unset] at_140 rfl 142 rfl ?_
    refine p_iconst J1675 at_142 (z := (0 : Int32)) rfl 143 rfl ?_
    refine p_istore J1675 #[.val (.int f0), .val (.int lv), .val (.int (0 : Int32)), .val (.int v3), .val (.int v4), .val (.int v5), .val (.int v6), .val (.int mm), .val (.ref a1635), .val (.ref lo1659), .val (.ref a1666), .val (.int (1 : Int32)), .val (.int (0 : Int32)), .val (.int (1 : Int32)), .val (.int (0 : Int32)), .unset, .unset, .unset, .unset, .unset] at_143 rfl 145 rfl ?_
    refine p_iconst J1675 at_145 (z := (0 : Int32)) rfl 146 rfl ?_
    refine p_istore J1675 #[.val (.int f0), .val (.int lv), .val (.int (0 : Int32)), .val (.int v3), .val (.int v4), .val (.int v5), .val (.int v6), .val (.int mm), .val (.ref a1635), .val (.ref lo1659), .val (.ref a1666), .val (.int (1 : Int32)), .val (.int (0 : Int32)), .val (.int (1 : Int32)), .val (.int (0 : Int32)), .val (.int (0 : Int32)), .unset, .unset, .unset, .unset] at_146 rfl 148 rfl ?_
    refine p_iconst J1675 at_148 (z := (0 : Int32)) rfl 149 rfl ?_
    refine p_istore J1675 #[.val (.int f0), .val (.int lv), .val (.int (0 : Int32)), .val (.int v3), .val (.int v4), .val (.int v5), .val (.int v6), .val (.int mm), .val (.ref a1635), .val (.ref lo1659), .val (.ref a1666), .val (.int (1 : Int32)), .val (.int (0 : Int32)), .val (.int (1 : Int32)), .val (.int (0 : Int32)), .val (.int (0 : Int32)), .val (.int (0 : Int32)), .unset, .unset, .unset] at_149 rfl 151 rfl ?_
    refine sec_pre g J1675 hv3 (by decide) (by decide) fun bs T1676 hbs J1676 => ?_
    refine p_iload J1676 at_164 rfl 166 rfl ?_
    rcases hv4 with rfl | rfl
    · refine p_if_y J1676 at_166 (by decide) 203 (by decide) (by decide) ?_
      refine sec_cap g J1676 hv5 (Or.inl rfl) (by decide) (by decide) fun le1677 mo1677 fx1677 bz1677 T1677 hfx1677 J1677 => ?_
      refine sec_nest g J1677 hv6 hfx1677 (Or.inl rfl) (by decide) (by decide) (fun lf1677 mp1677 by1677 U1677 K1677 => ?_) (fun V1677 h01677 H1677 => ?_)
      · refine sec_cmp g K1677 (Or.inr rfl) (by decide) (by decide) fun X1677 G1677 => ?_
        refine p_aload G1677 at_350 rfl rfl 352 rfl ?_
        refine p_iload G1677 at_352 rfl 354 rfl ?_
        refine i_ldcO G1677 at_354 (mt (i := 422) rfl) 4 (by decide) (by decide) (by decide) (by decide) 56 578 rfl rfl 356 rfl fun a1678 T1679 J1680 => ?_
        refine p_aload J1680 at_356 rfl rfl 358 rfl ?_
        refine i_virtual J1680 at_358 (mt (i := 423) rfl) (mt (i := 424) rfl) (nfSel (mt (i := 426) rfl)) (mt (i := 426) rfl) (mt (i := 425) rfl) (mt (i := 391) rfl) (mt (i := 427) rfl) (by decide) (lenOf pd_27 rfl) 0 rfl (c_exF g a1666 a1635 lf1677 mp1677 (1 : Int32) (1 : Int32) (0 : Int32) by1677 a1678 lo1659 (by decide)) [0] [1, 2, 3] 4 (by decide) (lenLe F 4 rfl) rfl 0 (by decide) (by decide) (by decide) (by decide) rfl (by show (0 : Nat) ≤ _; decide) _ rfl 56 578 rfl rfl 361 rfl fun v1684 W1685 T1681 hQ1683 J1682 => ?_
        obtain ⟨rfl, rfl⟩ := hQ1683
        have J1686 := J1682.norm (W' := o_AL a1666 (.int lf1677) (.int mp1677) (.int (1 : Int32)) (.int (1 : Int32)) (.int (0 : Int32)) (.int by1677) (.ref a1635) :: o_SE a1635 (.ref po1638) (.ref wb1640) (.ref ls1642) (.ref pts1644) (.int (0 : Int32)) (.int (-1 : Int32)) (.ref sv1646) (.ref pt1647) (.int (0 : Int32)) (.int (0 : Int32)) (.long (0 : Int64)) (.int (0 : Int32)) (.int (0 : Int32)) :: (pts1644, true, .inr (kp1645, (.object "com/example/lockstep/lockstep/core/ChoicePoint"), (16 : Int32), [.null, .null], .null)) :: o_LO lo1659  :: F) rfl
        show Run _ _ _ _ (State.setTop _ (mkF m 361 #[.val (.int f0), .val (.int lv), .val (.int (0 : Int32)), .val (.int v3), .val (.int (0 : Int32)), .val (.int v5), .val (.int v6), .val (.int mm), .val (.ref a1635), .val (.ref lo1659), .val (.ref a1666), .val (.int lf1677), .val (.int (1 : Int32)), .val (.int (1 : Int32)), .val (.int (0 : Int32)), .val (.int by1677), .val (.int (0 : Int32)), .val (.int lf1677), .val (.int (1 : Int32)), .val (.int (1 : Int32))] [(.int (0 : Int32))]))
        refine p_pop J1686 at_361 rfl 362 rfl ?_
        refine p_iload J1686 at_362 rfl 364 rfl ?_
        refine p_if_y J1686 at_364 (by decide) 414 (by decide) (by decide) ?_
        have J1689 := J.forget J1686
        refine sec_end g0 J1689 (Or.inl rfl) (by decide) (by decide) (by decide) fun oT1687 T1687 J1688 => ?_
        have J1690 := J1688.weak [] 4 (by decide) (lenLe F 4 rfl) (W' := F) rfl
        exact r_val J1690 at_451 (t := .boolean) rfl rfl (Or.inl ⟨rfl, by simp, _, rfl⟩) (by decide) (by decide) (Wf := []) rfl ⟨rfl, rfl⟩
      · clear h01677
        refine sec_cmp g H1677 (Or.inl rfl) (by decide) (by decide) fun Y1677 I1677 => ?_
        refine p_aload I1677 at_350 rfl rfl 352 rfl ?_
        refine p_iload I1677 at_352 rfl 354 rfl ?_
        refine i_ldcS I1677 at_354 (mt (i := 422) rfl) (by rw [hEL]; exact List.mem_of_getElem? (i := 1) rfl) (vs := [(.int (101 : Int32))]) (z := (1 : Int32)) (by decide) (by decide) (by decide) 4 (by decide) (by decide) (by decide) (by decide) 56 578 rfl rfl 356 rfl fun a1691 a1694 k1695 T1692 J1693 => ?_
        have J1696 := J.forget J1693
        refine p_aload J1696 at_356 rfl rfl 358 rfl ?_
        refine i_virtual J1696 at_358 (mt (i := 423) rfl) (mt (i := 424) rfl) (nfSel (mt (i := 426) rfl)) (mt (i := 426) rfl) (mt (i := 425) rfl) (mt (i := 391) rfl) (mt (i := 427) rfl) (by decide) (lenOf pd_27 rfl) 2 rfl (c_exch0 g0 a1666 (1 : Int32) a1635 po1638 wb1640 ls1642 pts1644 kp1645 sv1646 pt1647 a1691 lo1659 a1694 ) [2, 3, 4, 0, 5] [1] 6 (by decide) (lenLe F 6 rfl) rfl 0 (by decide) (by decide) (by decide) (by decide) rfl (by show (0 : Nat) ≤ _; decide) _ rfl 61 626 rfl rfl 361 rfl fun v1701 W1702 T1698 hQ1700 J1699 => ?_
        obtain ⟨cn1697, rfl, rfl⟩ := hQ1700
        have J1703 := J1699.norm (W' := o_AL a1666 (.int (2 : Int32)) (.int (2147483647 : Int32)) (.int (2 : Int32)) (.int (0 : Int32)) (.int (0 : Int32)) (.int (1 : Int32)) (.ref a1635) :: o_SE a1635 (.ref po1638) (.ref wb1640) (.ref ls1642) (.ref pts1644) (.int (0 : Int32)) (.int (-1 : Int32)) (.ref sv1646) (.ref pt1647) (.int (1 : Int32)) (.int (0 : Int32)) (.long (0 : Int64)) (.int (0 : Int32)) (.int (0 : Int32)) :: (pts1644, true, .inr (kp1645, (.object "com/example/lockstep/lockstep/core/ChoicePoint"), (16 : Int32), [(.ref cn1697), .null], .null)) :: o_CP cn1697 (.int (2 : Int32)) (.int (0 : Int32)) (.int (0 : Int32)) (.int (0 : Int32)) .null (.long (0 : Int64)) (.int (0 : Int32)) :: (a1691, false, (o_Str a1691 (.ref a1694) (.int (0 : Int32))).2.2) :: o_LO lo1659  :: (a1694, false, .inr (k1695, .byte, (1 : Int32), [(.int (101 : Int32))], (.int (0 : Int32)))) :: F) rfl
        show Run _ _ _ _ (State.setTop _ (mkF m 361 #[.val (.int f0), .val (.int lv), .val (.int (0 : Int32)), .val (.int v3), .val (.int (0 : Int32)), .val (.int v5), .val (.int v6), .val (.int mm), .val (.ref a1635), .val (.ref lo1659), .val (.ref a1666), .val (.int (1 : Int32)), .val (.int (0 : Int32)), .val (.int (1 : Int32)), .val (.int (0 : Int32)), .val (.int (1 : Int32)), .val (.int (0 : Int32)), .val (.int (1 : Int32)), .val (.int (0 : Int32)), .val (.int (1 : Int32))] [(.int (1 : Int32))]))
        refine p_pop J1703 at_361 rfl 362 rfl ?_
        refine p_iload J1703 at_362 rfl 364 rfl ?_
        refine p_if_n J1703 at_364 (by decide) 367 rfl ?_
        refine p_iload_n J1703 at_367 rfl 368 rfl ?_
        refine p_if_y J1703 at_368 (by decide) 399 (by decide) (by decide) ?_
        refine p_iload J1703 at_399 rfl 401 rfl ?_
        refine p_iconst J1703 at_401 (z := (1 : Int32)) rfl 402 rfl ?_
        refine p_iadd J1703 at_402 (z := (2 : Int32)) (by decide) 403 rfl ?_
        refine p_istore J1703 #[.val (.int f0), .val (.int lv), .val (.int (0 : Int32)), .val (.int v3), .val (.int (0 : Int32)), .val (.int v5), .val (.int v6), .val (.int mm), .val (.ref a1635), .val (.ref lo1659), .val (.ref a1666), .val (.int (2 : Int32)), .val (.int (0 : Int32)), .val (.int (1 : Int32)), .val (.int (0 : Int32)), .val (.int (1 : Int32)), .val (.int (0 : Int32)), .val (.int (1 : Int32)), .val (.int (0 : Int32)), .val (.int (1 : Int32))] at_403 rfl 405 rfl ?_
        refine p_iload J1703 at_405 rfl 407 rfl ?_
        refine p_iload J1703 at_407 rfl 409 rfl ?_
        refine i_static J1703 at_409 (mt (i := 615) rfl) (mt (i := 507) rfl) (mt (i := 310) rfl) (mt (i := 508) rfl) (by decide) (lenOf pd_10 rfl) (c_max2 g0  ) [] [0, 1, 2, 3, 4, 5, 6] 7 (by decide) (lenLe F 7 rfl) rfl 0 (by decide) (by decide) (by decide) (by decide) rfl (by show (0 : Nat) ≤ _; decide) _ rfl 61 626 rfl rfl 412 rfl fun v1707 W1708 T1704 hQ1706 J1705 => ?_
        obtain ⟨rfl, rfl⟩ := hQ1706
        have J1709 := J1705.norm (W' := o_AL a1666 (.int (2 : Int32)) (.int (2147483647 : Int32)) (.int (2 : Int32)) (.int (0 : Int32)) (.int (0 : Int32)) (.int (1 : Int32)) (.ref a1635) :: o_SE a1635 (.ref po1638) (.ref wb1640) (.ref ls1642) (.ref pts1644) (.int (0 : Int32)) (.int (-1 : Int32)) (.ref sv1646) (.ref pt1647) (.int (1 : Int32)) (.int (0 : Int32)) (.long (0 : Int64)) (.int (0 : Int32)) (.int (0 : Int32)) :: (pts1644, true, .inr (kp1645, (.object "com/example/lockstep/lockstep/core/ChoicePoint"), (16 : Int32), [(.ref cn1697), .null], .null)) :: o_CP cn1697 (.int (2 : Int32)) (.int (0 : Int32)) (.int (0 : Int32)) (.int (0 : Int32)) .null (.long (0 : Int64)) (.int (0 : Int32)) :: (a1691, false, (o_Str a1691 (.ref a1694) (.int (0 : Int32))).2.2) :: o_LO lo1659  :: (a1694, false, .inr (k1695, .byte, (1 : Int32), [(.int (101 : Int32))], (.int (0 : Int32)))) :: F) rfl
        show Run _ _ _ _ (State.setTop _ (mkF m 412 #[.val (.int f0), .val (.int lv), .val (.int (0 : Int32)), .val (.int v3), .val (.int (0 : Int32)), .val (.int v5), .val (.int v6), .val (.int mm), .val (.ref a1635), .val (.ref lo1659), .val (.ref a1666), .val (.int (2 : Int32)), .val (.int (0 : Int32)), .val (.int (1 : Int32)), .val (.int (0 : Int32)), .val (.int (1 : Int32)), .val (.int (0 : Int32)), .val (.int (1 : Int32)), .val (.int (0 : Int32)), .val (.int (1 : Int32))] [(.int (2 : Int32))]))
        refine p_istore J1709 #[.val (.int f0), .val (.int lv), .val (.int (0 : Int32)), .val (.int v3), .val (.int (0 : Int32)), .val (.int v5), .val (.int v6), .val (.int mm), .val (.ref a1635), .val (.ref lo1659), .val (.ref a1666), .val (.int (2 : Int32)), .val (.int (0 : Int32)), .val (.int (2 : Int32)), .val (.int (0 : Int32)), .val (.int (1 : Int32)), .val (.int (0 : Int32)), .val (.int (1 : Int32)), .val (.int (0 : Int32)), .val (.int (1 : Int32))] at_412 rfl 414 rfl ?_
        refine sec_end g0 J1709 (Or.inl rfl) (by decide) (by decide) (by decide) fun oT1710 T1710 J1711 => ?_
        have J1712 := J1711.weak [] 7 (by decide) (lenLe F 7 rfl) (W' := F) rfl
        exact r_val J1712 at_451 (t := .boolean) rfl rfl (Or.inl ⟨rfl, by simp, _, rfl⟩) (by decide) (by decide) (Wf := []) rfl ⟨rfl, rfl⟩
    · refine p_if_n J1676 at_166 (by decide) 169 rfl ?_
      refine p_aload J1676 at_169 rfl rfl 171 rfl ?_
      refine p_iconst J1676 at_171 (z := (1 : Int32)) rfl 172 rfl ?_
      refine i_ldcS J1676 at_172 (mt (i := 422) rfl) (by rw [hEL]; exact List.mem_of_getElem? (i := 1) rfl) (vs := [(.int (101 : Int32))]) (z := (1 : Int32)) (by decide) (by decide) (by decide) 4 (by decide) (by decide) (by decide) (by decide) 56 578 rfl rfl 174 rfl fun a1713 a1716 k1717 T1714 J1715 => ?_
      have J1718 := J.forget J1715
      refine p_aload J1718 at_174 rfl rfl 176 rfl ?_
      refine i_virtual J1718 at_176 (mt (i := 423) rfl) (mt (i := 424) rfl) (nfSel (mt (i := 426) rfl)) (mt (i := 426) rfl) (mt (i := 425) rfl) (mt (i := 391) rfl) (mt (i := 427) rfl) (by decide) (lenOf pd_27 rfl) 2 rfl (c_exch0 g0 a1666 bs a1635 po1638 wb1640 ls1642 pts1644 kp1645 sv1646 pt1647 a1713 lo1659 a1716 ) [2, 3, 4, 0, 5] [1] 6 (by decide) (lenLe F 6 rfl) rfl 0 (by decide) (by decide) (by decide) (by decide) rfl (by show (0 : Nat) ≤ _; decide) _ rfl 61 626 rfl rfl 179 rfl fun v1723 W1724 T1720 hQ1722 J1721 => ?_
      obtain ⟨cn1719, rfl, rfl⟩ := hQ1722
      have J1725 := J1721.norm (W' := o_AL a1666 (.int (2 : Int32)) (.int (2147483647 : Int32)) (.int (2 : Int32)) (.int (0 : Int32)) (.int (0 : Int32)) (.int bs) (.ref a1635) :: o_SE a1635 (.ref po1638) (.ref wb1640) (.ref ls1642) (.ref pts1644) (.int (0 : Int32)) (.int (-1 : Int32)) (.ref sv1646) (.ref pt1647) (.int (1 : Int32)) (.int (0 : Int32)) (.long (0 : Int64)) (.int (0 : Int32)) (.int (0 : Int32)) :: (pts1644, true, .inr (kp1645, (.object "com/example/lockstep/lockstep/core/ChoicePoint"), (16 : Int32), [(.ref cn1719), .null], .null)) :: o_CP cn1719 (.int (2 : Int32)) (.int (0 : Int32)) (.int (0 : Int32)) (.int (0 : Int32)) .null (.long (0 : Int64)) (.int (0 : Int32)) :: (a1713, false, (o_Str a1713 (.ref a1716) (.int (0 : Int32))).2.2) :: o_LO lo1659  :: (a1716, false, .inr (k1717, .byte, (1 : Int32), [(.int (101 : Int32))], (.int (0 : Int32)))) :: F) rfl
      show Run _ _ _ _ (State.setTop _ (mkF m 179 #[.val (.int f0), .val (.int lv), .val (.int (0 : Int32)), .val (.int v3), .val (.int (1 : Int32)), .val (.int v5), .val (.int v6), .val (.int mm), .val (.ref a1635), .val (.ref lo1659), .val (.ref a1666), .val (.int (1 : Int32)), .val (.int (0 : Int32)), .val (.int (1 : Int32)), .val (.int (0 : Int32)), .val (.int bs), .val (.int (0 : Int32)), .unset, .unset, .unset] [(.int (1 : Int32))]))
      refine p_pop J1725 at_179 rfl 180 rfl ?_
      refine p_iload_n J1725 at_180 rfl 181 rfl ?_
      refine p_if_y J1725 at_181 (by decide) 194 (by decide) (by decide) ?_
      refine p_iconst J1725 at_194 (z := (2 : Int32)) rfl 195 rfl ?_
      refine p_istore J1725 #[.val (.int f0), .val (.int lv), .val (.int (0 : Int32)), .val (.int v3), .val (.int (1 : Int32)), .val (.int v5), .val (.int v6), .val (.int mm), .val (.ref a1635), .val (.ref lo1659), .val (.ref a1666), .val (.int (2 : Int32)), .val (.int (0 : Int32)), .val (.int (1 : Int32)), .val (.int (0 : Int32)), .val (.int bs), .val (.int (0 : Int32)), .unset, .unset, .unset] at_195 rfl 197 rfl ?_
      refine p_iconst J1725 at_197 (z := (2 : Int32)) rfl 198 rfl ?_
      refine p_istore J1725 #[.val (.int f0), .val (.int lv), .val (.int (0 : Int32)), .val (.int v3), .val (.int (1 : Int32)), .val (.int v5), .val (.int v6), .val (.int mm), .val (.ref a1635), .val (.ref lo1659), .val (.ref a1666), .val (.int (2 : Int32)), .val (.int (0 : Int32)), .val (.int (2 : Int32)), .val (.int (0 : Int32)), .val (.int bs), .val (.int (0 : Int32)), .unset, .unset, .unset] at_198 rfl 200 rfl ?_
      refine p_iconst J1725 at_200 (z := (1 : Int32)) rfl 201 rfl ?_
      refine p_istore J1725 #[.val (.int f0), .val (.int lv), .val (.int (0 : Int32)), .val (.int v3), .val (.int (1 : Int32)), .val (.int v5), .val (.int v6), .val (.int mm), .val (.ref a1635), .val (.ref lo1659), .val (.ref a1666), .val (.int (2 : Int32)), .val (.int (0 : Int32)), .val (.int (2 : Int32)), .val (.int (0 : Int32)), .val (.int bs), .val (.int (1 : Int32)), .unset, .unset, .unset] at_201 rfl 203 rfl ?_
      have J1726 := J1725.weak [0, 1, 2, 3, 4, 5] 7 (by decide) (lenLe F 7 rfl) (W' := o_AL a1666 (.int (2 : Int32)) (.int (2147483647 : Int32)) (.int (2 : Int32)) (.int (0 : Int32)) (.int (0 : Int32)) (.int bs) (.ref a1635) :: o_SE a1635 (.ref po1638) (.ref wb1640) (.ref ls1642) (.ref pts1644) (.int (0 : Int32)) (.int (-1 : Int32)) (.ref sv1646) (.ref pt1647) (.int (1 : Int32)) (.int (0 : Int32)) (.long (0 : Int64)) (.int (0 : Int32)) (.int (0 : Int32)) :: (pts1644, true, .inr (kp1645, (.object "com/example/lockstep/lockstep/core/ChoicePoint"), (16 : Int32), [(.ref cn1719), .null], .null)) :: o_CP cn1719 (.int (2 : Int32)) (.int (0 : Int32)) (.int (0 : Int32)) (.int (0 : Int32)) .null (.long (0 : Int64)) (.int (0 : Int32)) :: (a1713, false, (o_Str a1713 (.ref a1716) (.int (0 : Int32))).2.2) :: o_LO lo1659  :: F) rfl
      refine sec_cap g0 J1726 hv5 (Or.inl rfl) (by decide) (by decide) fun le1727 mo1727 fx1727 bz1727 T1727 hfx1727 J1727 => ?_
      refine sec_nest g0 J1727 hv6 hfx1727 (Or.inl rfl) (by decide) (by decide) (fun lf1727 mp1727 by1727 U1727 K1727 => ?_) (fun V1727 h01727 H1727 => ?_)
      · refine sec_cmp g0 K1727 (Or.inr rfl) (by decide) (by decide) fun X1727 G1727 => ?_
        refine p_aload G1727 at_350 rfl rfl 352 rfl ?_
        refine p_iload G1727 at_352 rfl 354 rfl ?_
        refine i_ldcA G1727 at_354 (mt (i := 422) rfl) (List.mem_cons_self ..) 356 rfl ?_
        refine p_aload G1727 at_356 rfl rfl 358 rfl ?_
        refine i_virtual G1727 at_358 (mt (i := 423) rfl) (mt (i := 424) rfl) (nfSel (mt (i := 426) rfl)) (mt (i := 426) rfl) (mt (i := 425) rfl) (mt (i := 391) rfl) (mt (i := 427) rfl) (by decide) (lenOf pd_27 rfl) 0 rfl (c_exF g0 a1666 a1635 lf1727 mp1727 (2 : Int32) (1 : Int32) (0 : Int32) by1727 a1713 lo1659 (by decide)) [0] [1, 2, 3, 4, 5] 6 (by decide) (lenLe F 6 rfl) rfl 0 (by decide) (by decide) (by decide) (by decide) rfl (by show (0 : Nat) ≤ _; decide) _ rfl 61 626 rfl rfl 361 rfl fun v1731 W1732 T1728 hQ1730 J1729 => ?_
        obtain ⟨rfl, rfl⟩ := hQ1730
        have J1733 := J1729.norm (W' := o_AL a1666 (.int lf1727) (.int mp1727) (.int (2 : Int32)) (.int (1 : Int32)) (.int (0 : Int32)) (.int by1727) (.ref a1635) :: o_SE a1635 (.ref po1638) (.ref wb1640) (.ref ls1642) (.ref pts1644) (.int (0 : Int32)) (.int (-1 : Int32)) (.ref sv1646) (.ref pt1647) (.int (1 : Int32)) (.int (0 : Int32)) (.long (0 : Int64)) (.int (0 : Int32)) (.int (0 : Int32)) :: (pts1644, true, .inr (kp1645, (.object "com/example/lockstep/lockstep/core/ChoicePoint"), (16 : Int32), [(.ref cn1719), .null], .null)) :: o_CP cn1719 (.int (2 : Int32)) (.int (0 : Int32)) (.int (0 : Int32)) (.int (0 : Int32)) .null (.long (0 : Int64)) (.int (0 : Int32)) :: (a1713, false, (o_Str a1713 (.ref a1716) (.int (0 : Int32))).2.2) :: o_LO lo1659  :: F) rfl
        show Run _ _ _ _ (State.setTop _ (mkF m 361 #[.val (.int f0), .val (.int lv), .val (.int (0 : Int32)), .val (.int v3), .val (.int (1 : Int32)), .val (.int v5), .val (.int v6), .val (.int mm), .val (.ref a1635), .val (.ref lo1659), .val (.ref a1666), .val (.int lf1727), .val (.int (1 : Int32)), .val (.int (2 : Int32)), .val (.int (0 : Int32)), .val (.int by1727), .val (.int (1 : Int32)), .val (.int lf1727), .val (.int (1 : Int32)), .val (.int (1 : Int32))] [(.int (0 : Int32))]))
        refine p_pop J1733 at_361 rfl 362 rfl ?_
        refine p_iload J1733 at_362 rfl 364 rfl ?_
        refine p_if_y J1733 at_364 (by decide) 414 (by decide) (by decide) ?_
        refine sec_end g0 J1733 (Or.inl rfl) (by decide) (by decide) (by decide) fun oT1734 T1734 J1735 => ?_
        have J1736 := J1735.weak [] 6 (by decide) (lenLe F 6 rfl) (W' := F) rfl
        exact r_val J1736 at_451 (t := .boolean) rfl rfl (Or.inl ⟨rfl, by simp, _, rfl⟩) (by decide) (by decide) (Wf := []) rfl ⟨rfl, rfl⟩
      · clear h01727
        refine sec_cmp g0 H1727 (Or.inl rfl) (by decide) (by decide) fun Y1727 I1727 => ?_
        refine p_aload I1727 at_350 rfl rfl 352 rfl ?_
        refine p_iload I1727 at_352 rfl 354 rfl ?_
        refine i_ldcA I1727 at_354 (mt (i := 422) rfl) (List.mem_cons_self ..) 356 rfl ?_
        refine p_aload I1727 at_356 rfl rfl 358 rfl ?_
        refine i_virtual I1727 at_358 (mt (i := 423) rfl) (mt (i := 424) rfl) (nfSel (mt (i := 426) rfl)) (mt (i := 426) rfl) (mt (i := 425) rfl) (mt (i := 391) rfl) (mt (i := 427) rfl) (by decide) (lenOf pd_27 rfl) 0 rfl (c_exch1 g0 a1666 (1 : Int32) a1635 po1638 wb1640 ls1642 pts1644 kp1645 sv1646 pt1647 a1713 lo1659 a1716 cn1719 ) [0, 1, 2, 4, 5] [3] 6 (by decide) (lenLe F 6 rfl) rfl 0 (by decide) (by decide) (by decide) (by decide) rfl (by show (0 : Nat) ≤ _; decide) _ rfl 66 674 rfl rfl 361 rfl fun v1741 W1742 T1738 hQ1740 J1739 => ?_
        obtain ⟨cn1737, rfl, rfl⟩ := hQ1740
        have J1743 := J1739.norm (W' := o_AL a1666 (.int (3 : Int32)) (.int (2147483647 : Int32)) (.int (3 : Int32)) (.int (0 : Int32)) (.int (0 : Int32)) (.int (1 : Int32)) (.ref a1635) :: o_SE a1635 (.ref po1638) (.ref wb1640) (.ref ls1642) (.ref pts1644) (.int (0 : Int32)) (.int (-1 : Int32)) (.ref sv1646) (.ref pt1647) (.int (2 : Int32)) (.int (0 : Int32)) (.long (0 : Int64)) (.int (0 : Int32)) (.int (0 : Int32)) :: (pts1644, true, .inr (kp1645, (.object "com/example/lockstep/lockstep/core/ChoicePoint"), (16 : Int32), [(.ref cn1719), (.ref cn1737)], .null)) :: o_CP cn1737 (.int (2 : Int32)) (.int (0 : Int32)) (.int (0 : Int32)) (.int (0 : Int32)) .null (.long (0 : Int64)) (.int (0 : Int32)) :: (a1713, false, (o_Str a1713 (.ref a1716) (.int (0 : Int32))).2.2) :: o_LO lo1659  :: o_CP cn1719 (.int (2 : Int32)) (.int (0 : Int32)) (.int (0 : Int32)) (.int (0 : Int32)) .null (.long (0 : Int64)) (.int (0 : Int32)) :: F) rfl
        show Run _ _ _ _ (State.setTop _ (mkF m 361 #[.val (.int f0), .val (.int lv), .val (.int (0 : Int32)), .val (.int v3), .val (.int (1 : Int32)), .val (.int v5), .val (.int v6), .val (.int mm), .val (.ref a1635), .val (.ref lo1659), .val (.ref a1666), .val (.int (2 : Int32)), .val (.int (0 : Int32)), .val (.int (2 : Int32)), .val (.int (0 : Int32)), .val (.int (1 : Int32)), .val (.int (1 : Int32)), .val (.int (2 : Int32)), .val (.int (0 : Int32)), .val (.int (1 : Int32))] [(.int (1 : Int32))]))
        refine p_pop J1743 at_361 rfl 362 rfl ?_
        refine p_iload J1743 at_362 rfl 364 rfl ?_
        refine p_if_n J1743 at_364 (by decide) 367 rfl ?_
        refine p_iload_n J1743 at_367 rfl 368 rfl ?_
        refine p_if_y J1743 at_368 (by decide) 399 (by decide) (by decide) ?_
        refine p_iload J1743 at_399 rfl 401 rfl ?_
        refine p_iconst J1743 at_401 (z := (1 : Int32)) rfl 402 rfl ?_
        refine p_iadd J1743 at_402 (z := (3 : Int32)) (by decide) 403 rfl ?_
        refine p_istore J1743 #[.val (.int f0), .val (.int lv), .val (.int (0 : Int32)), .val (.int v3), .val (.int (1 : Int32)), .val (.int v5), .val (.int v6), .val (.int mm), .val (.ref a1635), .val (.ref lo1659), .val (.ref a1666), .val (.int (3 : Int32)), .val (.int (0 : Int32)), .val (.int (2 : Int32)), .val (.int (0 : Int32)), .val (.int (1 : Int32)), .val (.int (1 : Int32)), .val (.int (2 : Int32)), .val (.int (0 : Int32)), .val (.int (1 : Int32))] at_403 rfl 405 rfl ?_
        refine p_iload J1743 at_405 rfl 407 rfl ?_
        refine p_iload J1743 at_407 rfl 409 rfl ?_
        refine i_static J1743 at_409 (mt (i := 615) rfl) (mt (i := 507) rfl) (mt (i := 310) rfl) (mt (i := 508) rfl) (by decide) (lenOf pd_10 rfl) (c_max3 g0  ) [] [0, 1, 2, 3, 4, 5, 6] 7 (by decide) (lenLe F 7 rfl) rfl 0 (by decide) (by decide) (by decide) (by decide) rfl (by show (0 : Nat) ≤ _; decide) _ rfl 66 674 rfl rfl 412 rfl fun v1747 W1748 T1744 hQ1746 J1745 => ?_
        obtain ⟨rfl, rfl⟩ := hQ1746
        have J1749 := J1745.norm (W' := o_AL a1666 (.int (3 : Int32)) (.int (2147483647 : Int32)) (.int (3 : Int32)) (.int (0 : Int32)) (.int (0 : Int32)) (.int (1 : Int32)) (.ref a1635) :: o_SE a1635 (.ref po1638) (.ref wb1640) (.ref ls1642) (.ref pts1644) (.int (0 : Int32)) (.int (-1 : Int32)) (.ref sv1646) (.ref pt1647) (.int (2 : Int32)) (.int (0 : Int32)) (.long (0 : Int64)) (.int (0 : Int32)) (.int (0 : Int32)) :: (pts1644, true, .inr (kp1645, (.object "com/example/lockstep/lockstep/core/ChoicePoint"), (16 : Int32), [(.ref cn1719), (.ref cn1737)], .null)) :: o_CP cn1737 (.int (2 : Int32)) (.int (0 : Int32)) (.int (0 : Int32)) (.int (0 : Int32)) .null (.long (0 : Int64)) (.int (0 : Int32)) :: (a1713, false, (o_Str a1713 (.ref a1716) (.int (0 : Int32))).2.2) :: o_LO lo1659  :: o_CP cn1719 (.int (2 : Int32)) (.int (0 : Int32)) (.int (0 : Int32)) (.int (0 : Int32)) .null (.long (0 : Int64)) (.int (0 : Int32)) :: F) rfl
        show Run _ _ _ _ (State.setTop _ (mkF m 412 #[.val (.int f0), .val (.int lv), .val (.int (0 : Int32)), .val (.int v3), .val (.int (1 : Int32)), .val (.int v5), .val (.int v6), .val (.int mm), .val (.ref a1635), .val (.ref lo1659), .val (.ref a1666), .val (.int (3 : Int32)), .val (.int (0 : Int32)), .val (.int (2 : Int32)), .val (.int (0 : Int32)), .val (.int (1 : Int32)), .val (.int (1 : Int32)), .val (.int (2 : Int32)), .val (.int (0 : Int32)), .val (.int (1 : Int32))] [(.int (3 : Int32))]))
        refine p_istore J1749 #[.val (.int f0), .val (.int lv), .val (.int (0 : Int32)), .val (.int v3), .val (.int (1 : Int32)), .val (.int v5), .val (.int v6), .val (.int mm), .val (.ref a1635), .val (.ref lo1659), .val (.ref a1666), .val (.int (3 : Int32)), .val (.int (0 : Int32)), .val (.int (3 : Int32)), .val (.int (0 : Int32)), .val (.int (1 : Int32)), .val (.int (1 : Int32)), .val (.int (2 : Int32)), .val (.int (0 : Int32)), .val (.int (1 : Int32))] at_412 rfl 414 rfl ?_
        refine sec_end g0 J1749 (Or.inl rfl) (by decide) (by decide) (by decide) fun oT1750 T1750 J1751 => ?_
        have J1752 := J1751.weak [] 7 (by decide) (lenLe F 7 rfl) (W' := F) rfl
        exact r_val J1752 at_451 (t := .boolean) rfl rfl (Or.inl ⟨rfl, by simp, _, rfl⟩) (by decide) (by decide) (Wf := []) rfl ⟨rfl, rfl⟩
  · refine p_if_n J1674 at_102 (by decide) 105 rfl ?_
    refine p_aload J1674 at_105 rfl rfl 107 rfl ?_
    refine p_iconst J1674 at_107 (z := (1 : Int32)) rfl 108 rfl ?_
    refine i_ldcS J1674 at_108 (mt (i := 422) rfl) (by rw [hEL]; exact List.mem_of_getElem? (i := 1) rfl) (vs := [(.int (101 : Int32))]) (z := (1 : Int32)) (by decide) (by decide) (by decide) 4 (by decide) (by decide) (by decide) (by decide) 56 578 rfl rfl 110 rfl fun a1753 a1756 k1757 T1754 J1755 => ?_
    have J1758 := J.forget J1755
    refine p_aload J1758 at_110 rfl rfl 112 rfl ?_
    refine i_virtual J1758 at_112 (mt (i := 423) rfl) (mt (i := 424) rfl) (nfSel (mt (i := 426) rfl)) (mt (i := 426) rfl) (mt (i := 425) rfl) (mt (i := 391) rfl) (mt (i := 427) rfl) (by decide) (lenOf pd_27 rfl) 2 rfl (c_exch0 g0 a1666 (0 : Int32) a1635 po1638 wb1640 ls1642 pts1644 kp1645 sv1646 pt1647 a1753 lo1659 a1756 ) [2, 4, 11, 0, 3] [1, 5, 6, 7, 8, 9, 10, 12, 13] 14 (by decide) (lenLe F 14 rfl) rfl 0 (by decide) (by decide) (by decide) (by decide) rfl (by show (0 : Nat) ≤ _; decide) _ rfl 61 626 rfl rfl 115 rfl fun v1763 W1764 T1760 hQ1762 J1761 => ?_
    obtain ⟨cn1759, rfl, rfl⟩ := hQ1762
    have J1765 := J1761.norm (W' := o_AL a1666 (.int (2 : Int32)) (.int (2147483647 : Int32)) (.int (2 : Int32)) (.int (0 : Int32)) (.int (0 : Int32)) (.int (0 : Int32)) (.ref a1635) :: o_SE a1635 (.ref po1638) (.ref wb1640) (.ref ls1642) (.ref pts1644) (.int (0 : Int32)) (.int (-1 : Int32)) (.ref sv1646) (.ref pt1647) (.int (1 : Int32)) (.int (0 : Int32)) (.long (0 : Int64)) (.int (0 : Int32)) (.int (0 : Int32)) :: (pts1644, true, .inr (kp1645, (.object "com/example/lockstep/lockstep/core/ChoicePoint"), (16 : Int32), [(.ref cn1759), .null], .null)) :: o_CP cn1759 (.int (2 : Int32)) (.int (0 : Int32)) (.int (0 : Int32)) (.int (0 : Int32)) .null (.long (0 : Int64)) (.int (0 : Int32)) :: (a1753, false, (o_Str a1753 (.ref a1756) (.int (0 : Int32))).2.2) :: o_LO lo1659  :: (a1756, false, .inr (k1757, .byte, (1 : Int32), [(.int (101 : Int32))], (.int (0 : Int32)))) :: o_PC po1638 (.ref po11639) :: o_HM po11639 (.int (0 : Int32)) .null :: o_PC wb1640 (.ref wb11641) :: o_HM wb11641 (.int (0 : Int32)) .null :: o_HS ls1642 (.ref ls11643) :: o_HM ls11643 (.int (0 : Int32)) .null :: o_AY sv1646 (.int (0 : Int32)) :: o_AY pt1647 (.int (0 : Int32)) :: F) rfl
    show Run _ _ _ _ (State.setTop _ (mkF m 115 #[.val (.int f0), .val (.int lv), .val (.int (1 : Int32)), .val (.int v3), .val (.int v4), .val (.int v5), .val (.int v6), .val (.int mm), .val (.ref a1635), .val (.ref lo1659), .val (.ref a1666), .unset, .unset, .unset, .unset, .unset, .unset, .unset, .unset, .unset] [(.int (1 : Int32))]))
    refine p_pop J1765 at_115 rfl 116 rfl ?_
    refine p_aload J1765 at_116 rfl rfl 118 rfl ?_
    refine i_virtual J1765 at_118 (mt (i := 509) rfl) (mt (i := 510) rfl) (nfSel (mt (i := 512) rfl)) (mt (i := 512) rfl) (mt (i := 511) rfl) (mt (i := 3) rfl) (mt (i := 513) rfl) (by decide) (lenOf pd_8 rfl) 1 rfl (c_next g0 a1635 po1638 wb1640 ls1642 pts1644 kp1645 sv1646 pt1647 po11639 wb11641 ls11643 cn1759 ) [1, 7, 8, 9, 10, 11, 12, 2, 3, 13, 14] [0, 4, 5, 6] 15 (by decide) (lenLe F 15 rfl) rfl 0 (by decide) (by decide) (by decide) (by decide) rfl (by show (0 : Nat) ≤ _; decide) _ rfl 61 626 rfl rfl 121 rfl fun v1769 W1770 T1766 hQ1768 J1767 => ?_
    obtain ⟨rfl, rfl⟩ := hQ1768
    have J1771 := J1767.norm (W' := o_SE a1635 (.ref po1638) (.ref wb1640) (.ref ls1642) (.ref pts1644) (.int (0 : Int32)) (.int (-1 : Int32)) (.ref sv1646) (.ref pt1647) (.int (0 : Int32)) (.int (1 : Int32)) (.long (0 : Int64)) (.int (0 : Int32)) (.int (0 : Int32)) :: (pts1644, true, .inr (kp1645, (.object "com/example/lockstep/lockstep/core/ChoicePoint"), (16 : Int32), [(.ref cn1759), .null], .null)) :: o_CP cn1759 (.int (2 : Int32)) (.int (0 : Int32)) (.int (1 : Int32)) (.int (0 : Int32)) .null (.long (0 : Int64)) (.int (0 : Int32)) :: o_AL a1666 (.int (2 : Int32)) (.int (2147483647 : Int32)) (.int (2 : Int32)) (.int (0 : Int32)) (.int (0 : Int32)) (.int (0 : Int32)) (.ref a1635) :: (a1753, false, (o_Str a1753 (.ref a1756) (.int (0 : Int32))).2.2) :: o_LO lo1659  :: (a1756, false, .inr (k1757, .byte, (1 : Int32), [(.int (101 : Int32))], (.int (0 : Int32)))) :: F) rfl
    show Run _ _ _ _ (State.setTop _ (mkF m 121 #[.val (.int f0), .val (.int lv), .val (.int (1 : Int32)), .val (.int v3), .val (.int v4), .val (.int v5), .val (.int v6), .val (.int mm), .val (.ref a1635), .val (.ref lo1659), .val (.ref a1666), .unset, .unset, .unset, .unset, .unset, .unset, .unset, .unset, .unset] [(.int (1 : Int32))]))
    refine p_pop J1771 at_121 rfl 122 rfl ?_
    refine i_new J1771 at_122 (mt (i := 389) rfl) (mt (i := 390) rfl) (mt (i := 391) rfl) (by decide) (by decide) df_AL 62 633 rfl rfl 125 rfl fun a1772 T1773 J1774 => ?_
    refine p_dup J1774 at_125 rfl 126 rfl ?_
    refine p_aload J1774 at_126 rfl rfl 128 rfl ?_
    refine i_special J1774 at_128 rfl (mt (i := 392) rfl) (mt (i := 393) rfl) (mt (i := 391) rfl) (mt (i := 394) rfl) (by decide) (lenOf pd_26 rfl) (c_al g0 a1772 a1635 ) [0] [1, 2, 3, 4, 5, 6, 7] 8 (by decide) (lenLe F 8 rfl) rfl 1 (by decide) (by decide) (by decide) (by decide) rfl (by show (1 : Nat) ≤ _; decide) _ rfl 62 633 rfl rfl 131 rfl fun v1778 W1779 T1775 hQ1777 J1776 => ?_
    obtain ⟨rfl, rfl⟩ := hQ1777
    have J1780 := J1776.norm (W' := o_AL a1772 (.int (1 : Int32)) (.int (2147483647 : Int32)) (.int (1 : Int32)) (.int (0 : Int32)) (.int (0 : Int32)) (.int (0 : Int32)) (.ref a1635) :: o_SE a1635 (.ref po1638) (.ref wb1640) (.ref ls1642) (.ref pts1644) (.int (0 : Int32)) (.int (-1 : Int32)) (.ref sv1646) (.ref pt1647) (.int (0 : Int32)) (.int (1 : Int32)) (.long (0 : Int64)) (.int (0 : Int32)) (.int (0 : Int32)) :: (pts1644, true, .inr (kp1645, (.object "com/example/lockstep/lockstep/core/ChoicePoint"), (16 : Int32), [(.ref cn1759), .null], .null)) :: o_CP cn1759 (.int (2 : Int32)) (.int (0 : Int32)) (.int (1 : Int32)) (.int (0 : Int32)) .null (.long (0 : Int64)) (.int (0 : Int32)) :: o_AL a1666 (.int (2 : Int32)) (.int (2147483647 : Int32)) (.int (2 : Int32)) (.int (0 : Int32)) (.int (0 : Int32)) (.int (0 : Int32)) (.ref a1635) :: (a1753, false, (o_Str a1753 (.ref a1756) (.int (0 : Int32))).2.2) :: o_LO lo1659  :: (a1756, false, .inr (k1757, .byte, (1 : Int32), [(.int (101 : Int32))], (.int (0 : Int32)))) :: F) rfl
    show Run _ _ _ _ (State.setTop _ (mkF m 131 #[.val (.int f0), .val (.int lv), .val (.int (1 : Int32)), .val (.int v3), .val (.int v4), .val (.int v5), .val (.int v6), .val (.int mm), .val (.ref a1635), .val (.ref lo1659), .val (.ref a1666), .unset, .unset, .unset, .unset, .unset, .unset, .unset, .unset, .unset] [(.ref a1772)]))
    refine p_astore J1780 #[.val (.int f0), .val (.int lv), .val (.int (1 : Int32)), .val (.int v3), .val (.int v4), .val (.int v5), .val (.int v6), .val (.int mm), .val (.ref a1635), .val (.ref lo1659), .val (.ref a1772), .unset, .unset, .unset, .unset, .unset, .unset, .unset, .unset, .unset] at_131 rfl rfl 133 rfl ?_
    have J1781 := J1780.weak [0, 1, 2, 3, 5, 6] 8 (by decide) (lenLe F 8 rfl) (W' := o_AL a1772 (.int (1 : Int32)) (.int (2147483647 : Int32)) (.int (1 : Int32)) (.int (0 : Int32)) (.int (0 : Int32)) (.int (0 : Int32)) (.ref a1635) :: o_SE a1635 (.ref po1638) (.ref wb1640) (.ref ls1642) (.ref pts1644) (.int (0 : Int32)) (.int (-1 : Int32)) (.ref sv1646) (.ref pt1647) (.int (0 : Int32)) (.int (1 : Int32)) (.long (0 : Int64)) (.int (0 : Int32)) (.int (0 : Int32)) :: (pts1644, true, .inr (kp1645, (.object "com/example/lockstep/lockstep/core/ChoicePoint"), (16 : Int32), [(.ref cn1759), .null], .null)) :: o_CP cn1759 (.int (2 : Int32)) (.int (0 : Int32)) (.int (1 : Int32)) (.int (0 : Int32)) .null (.long (0 : Int64)) (.int (0 : Int32)) :: (a1753, false, (o_Str a1753 (.ref a1756) (.int (0 : Int32))).2.2) :: o_LO lo1659  :: F) rfl
    refine p_iconst J1781 at_133 (z := (1 : Int32)) rfl 134 rfl ?_
    refine p_istore J1781 #[.val (.int f0), .val (.int lv), .val (.int (1 : Int32)), .val (.int v3), .val (.int v4), .val (.int v5), .val (.int v6), .val (.int mm), .val (.ref a1635), .val (.ref lo1659), .val (.ref a1772), .val (.int (1 : Int32)), .unset, .unset, .unset, .unset, .unset, .unset, .unset, .unset] at_134 rfl 136 rfl ?_
    refine p_iconst J1781 at_136 (z := (0 : Int32)) rfl 137 rfl ?_
    refine p_istore J1781 #[.val (.int f0), .val (.int lv), .val (.int (1 : Int32)), .val (.int v3), .val (.int v4), .val (.int v5), .val (.int v6), .val (.int mm), .val (.ref a1635), .val (.ref lo1659), .val (.ref a1772), .val (.int (1 : Int32)), .val (.int (0 : Int32)), .unset, .unset, .unset, .unset, .unset, .unset, .unset] at_137 rfl 139 rfl ?_
    refine p_iconst J1781 at_139 (z := (1 : Int32)) rfl 140 rfl ?_
    refine p_istore J1781 #[.val (.int f0), .val (.int lv), .val (.int (1 : Int32)), .val (.int v3), .val (.int v4), .val (.int v5), .val (.int v6), .val (.int mm), .val (.ref a1635), .val (.ref lo1659), .val (.ref a1772), .val (.int (1 : Int32)), .val (.int (0 : Int32)), .val (.int (1 : Int32)), .unset, .unset, .unset, .unset, .unset, .unset] at_140 rfl 142 rfl ?_
    refine p_iconst J1781 at_142 (z := (0 : Int32)) rfl 143 rfl ?_
    refine p_istore J1781 #[.val (.int f0), .val (.int lv), .val (.int (1 : Int32)), .val (.int v3), .val (.int v4), .val (.int v5), .val (.int v6), .val (.int mm), .val (.ref a1635), .val (.ref lo1659), .val (.ref a1772), .val (.int (1 : Int32)), .val (.int (0 : Int32)), .val (.int (1 : Int32)), .val (.int (0 : Int32)), .unset, .unset, .unset, .unset, .unset] at_143 rfl 145 rfl ?_
    refine p_iconst J1781 at_145 (z := (0 : Int32)) rfl 146 rfl ?_
    refine p_istore J1781 #[.val (.int f0), .val (.int lv), .val (.int (1 : Int32)), .val (.int v3), .val (.int v4), .val (.int v5), .val (.int v6), .val (.int mm), .val (.ref a1635), .val (.ref lo1659), .val (.ref a1772), .val (.int (1 : Int32)), .val (.int (0 : Int32)), .val (.int (1 : Int32)), .val (.int (0 : Int32)), .val (.int (0 : Int32)), .unset, .unset, .unset, .unset] at_146 rfl 148 rfl ?_
    refine p_iconst J1781 at_148 (z := (0 : Int32)) rfl 149 rfl ?_
    refine p_istore J1781 #[.val (.int f0), .val (.int lv), .val (.int (1 : Int32)), .val (.int v3), .val (.int v4), .val (.int v5), .val (.int v6), .val (.int mm), .val (.ref a1635), .val (.ref lo1659), .val (.ref a1772), .val (.int (1 : Int32)), .val (.int (0 : Int32)), .val (.int (1 : Int32)), .val (.int (0 : Int32)), .val (.int (0 : Int32)), .val (.int (0 : Int32)), .unset, .unset, .unset] at_149 rfl 151 rfl ?_
    refine sec_pre g0 J1781 hv3 (by decide) (by decide) fun bs T1782 hbs J1782 => ?_
    refine p_iload J1782 at_164 rfl 166 rfl ?_
    rcases hv4 with rfl | rfl
    · refine p_if_y J1782 at_166 (by decide) 203 (by decide) (by decide) ?_
      refine sec_cap g0 J1782 hv5 (Or.inl rfl) (by decide) (by decide) fun le1783 mo1783 fx1783 bz1783 T1783 hfx1783 J1783 => ?_
      refine sec_nest g0 J1783 hv6 hfx1783 (Or.inl rfl) (by decide) (by decide) (fun lf1783 mp1783 by1783 U1783 K1783 => ?_) (fun V1783 h01783 H1783 => ?_)
      · refine sec_cmp g0 K1783 (Or.inr rfl) (by decide) (by decide) fun X1783 G1783 => ?_
        refine p_aload G1783 at_350 rfl rfl 352 rfl ?_
        refine p_iload G1783 at_352 rfl 354 rfl ?_
        refine i_ldcA G1783 at_354 (mt (i := 422) rfl) (List.mem_cons_self ..) 356 rfl ?_
        refine p_aload G1783 at_356 rfl rfl 358 rfl ?_
        refine i_virtual G1783 at_358 (mt (i := 423) rfl) (mt (i := 424) rfl) (nfSel (mt (i := 426) rfl)) (mt (i := 426) rfl) (mt (i := 425) rfl) (mt (i := 391) rfl) (mt (i := 427) rfl) (by decide) (lenOf pd_27 rfl) 0 rfl (c_exF g0 a1772 a1635 lf1783 mp1783 (1 : Int32) (1 : Int32) (0 : Int32) by1783 a1753 lo1659 (by decide)) [0] [1, 2, 3, 4, 5] 6 (by decide) (lenLe F 6 rfl) rfl 0 (by decide) (by decide) (by decide) (by decide) rfl (by show (0 : Nat) ≤ _; decide) _ rfl 62 633 rfl rfl 361 rfl fun v1787 W1788 T1784 hQ1786 J1785 => ?_
        obtain ⟨rfl, rfl⟩ := hQ1786
        have J1789 := J1785.norm (W' := o_AL a1772 (.int lf1783) (.int mp1783) (.int (1 : Int32)) (.int (1 : Int32)) (.int (0 : Int32)) (.int by1783) (.ref a1635) :: o_SE a1635 (.ref po1638) (.ref wb1640) (.ref ls1642) (.ref pts1644) (.int (0 : Int32)) (.int (-1 : Int32)) (.ref sv1646) (.ref pt1647) (.int (0 : Int32)) (.int (1 : Int32)) (.long (0 : Int64)) (.int (0 : Int32)) (.int (0 : Int32)) :: (pts1644, true, .inr (kp1645, (.object "com/example/lockstep/lockstep/core/ChoicePoint"), (16 : Int32), [(.ref cn1759), .null], .null)) :: o_CP cn1759 (.int (2 : Int32)) (.int (0 : Int32)) (.int (1 : Int32)) (.int (0 : Int32)) .null (.long (0 : Int64)) (.int (0 : Int32)) :: (a1753, false, (o_Str a1753 (.ref a1756) (.int (0 : Int32))).2.2) :: o_LO lo1659  :: F) rfl
        show Run _ _ _ _ (State.setTop _ (mkF m 361 #[.val (.int f0), .val (.int lv), .val (.int (1 : Int32)), .val (.int v3), .val (.int (0 : Int32)), .val (.int v5), .val (.int v6), .val (.int mm), .val (.ref a1635), .val (.ref lo1659), .val (.ref a1772), .val (.int lf1783), .val (.int (1 : Int32)), .val (.int (1 : Int32)), .val (.int (0 : Int32)), .val (.int by1783), .val (.int (0 : Int32)), .val (.int lf1783), .val (.int (1 : Int32)), .val (.int (1 : Int32))] [(.int (0 : Int32))]))
        refine p_pop J1789 at_361 rfl 362 rfl ?_
        refine p_iload J1789 at_362 rfl 364 rfl ?_
        refine p_if_y J1789 at_364 (by decide) 414 (by decide) (by decide) ?_
        refine sec_end g0 J1789 (Or.inl rfl) (by decide) (by decide) (by decide) fun oT1790 T1790 J1791 => ?_
        have J1792 := J1791.weak [] 6 (by decide) (lenLe F 6 rfl) (W' := F) rfl
        exact r_val J1792 at_451 (t := .boolean) rfl rfl (Or.inl ⟨rfl, by simp, _, rfl⟩) (by decide) (by decide) (Wf := []) rfl ⟨rfl, rfl⟩
      · clear h01783
        refine sec_cmp g0 H1783 (Or.inl rfl) (by decide) (by decide) fun Y1783 I1783 => ?_
        refine p_aload I1783 at_350 rfl rfl 352 rfl ?_
        refine p_iload I1783 at_352 rfl 354 rfl ?_
        refine i_ldcA I1783 at_354 (mt (i := 422) rfl) (List.mem_cons_self ..) 356 rfl ?_
        refine p_aload I1783 at_356 rfl rfl 358 rfl ?_
        refine i_virtual I1783 at_358 (mt (i := 423) rfl) (mt (i := 424) rfl) (nfSel (mt (i := 426) rfl)) (mt (i := 426) rfl) (mt (i := 425) rfl) (mt (i := 391) rfl) (mt (i := 427) rfl) (by decide) (lenOf pd_27 rfl) 0 rfl (c_exchR g0 a1772 (1 : Int32) a1635 po1638 wb1640 ls1642 pts1644 kp1645 sv1646 pt1647 a1753 lo1659 a1756 cn1759 (Or.inr rfl)) [0, 1, 2, 3, 4, 5] [] 6 (by decide) (lenLe F 6 rfl) rfl 0 (by decide) (by decide) (by decide) (by decide) rfl (by show (0 : Nat) ≤ _; decide) _ rfl 66 669 rfl rfl 361 rfl fun v1796 W1797 T1793 hQ1795 J1794 => ?_
        obtain ⟨rfl, rfl⟩ := hQ1795
        have J1798 := J1794.norm (W' := o_AL a1772 (.int (1 : Int32)) (.int (2147483647 : Int32)) (.int (1 : Int32)) (.int (1 : Int32)) (.int (1 : Int32)) (.int (1 : Int32)) (.ref a1635) :: o_SE a1635 (.ref po1638) (.ref wb1640) (.ref ls1642) (.ref pts1644) (.int (0 : Int32)) (.int (-1 : Int32)) (.ref sv1646) (.ref pt1647) (.int (1 : Int32)) (.int (1 : Int32)) (.long (0 : Int64)) (.int (0 : Int32)) (.int (0 : Int32)) :: (pts1644, true, .inr (kp1645, (.object "com/example/lockstep/lockstep/core/ChoicePoint"), (16 : Int32), [(.ref cn1759), .null], .null)) :: o_CP cn1759 (.int (2 : Int32)) (.int (0 : Int32)) (.int (1 : Int32)) (.int (0 : Int32)) .null (.long (0 : Int64)) (.int (0 : Int32)) :: (a1753, false, (o_Str a1753 (.ref a1756) (.int (0 : Int32))).2.2) :: o_LO lo1659  :: F) rfl
        show Run _ _ _ _ (State.setTop _ (mkF m 361 #[.val (.int f0), .val (.int lv), .val (.int (1 : Int32)), .val (.int v3), .val (.int (0 : Int32)), .val (.int v5), .val (.int v6), .val (.int mm), .val (.ref a1635), .val (.ref lo1659), .val (.ref a1772), .val (.int (1 : Int32)), .val (.int (0 : Int32)), .val (.int (1 : Int32)), .val (.int (0 : Int32)), .val (.int (1 : Int32)), .val (.int (0 : Int32)), .val (.int (1 : Int32)), .val (.int (0 : Int32)), .val (.int (1 : Int32))] [(.int (0 : Int32))]))
        refine p_pop J1798 at_361 rfl 362 rfl ?_
        refine p_iload J1798 at_362 rfl 364 rfl ?_
        refine p_if_n J1798 at_364 (by decide) 367 rfl ?_
        refine p_iload_n J1798 at_367 rfl 368 rfl ?_
        refine p_if_n J1798 at_368 (by decide) 371 rfl ?_
        refine p_iload J1798 at_371 rfl 373 rfl ?_
        refine p_if_n J1798 at_373 (by decide) 376 rfl ?_
        refine p_iconst J1798 at_376 (z := (1 : Int32)) rfl 377 rfl ?_
        refine p_istore J1798 #[.val (.int f0), .val (.int lv), .val (.int (1 : Int32)), .val (.int v3), .val (.int (0 : Int32)), .val (.int v5), .val (.int v6), .val (.int mm), .val (.ref a1635), .val (.ref lo1659), .val (.ref a1772), .val (.int (1 : Int32)), .val (.int (1 : Int32)), .val (.int (1 : Int32)), .val (.int (0 : Int32)), .val (.int (1 : Int32)), .val (.int (0 : Int32)), .val (.int (1 : Int32)), .val (.int (0 : Int32)), .val (.int (1 : Int32))] at_377 rfl 379 rfl ?_
        refine p_iload J1798 at_379 rfl 381 rfl ?_
        refine p_if_n J1798 at_381 (by decide) 384 rfl ?_
        refine p_iload J1798 at_384 rfl 386 rfl ?_
        refine p_if_n J1798 at_386 (by decide) 389 rfl ?_
        refine p_iconst J1798 at_389 (z := (1 : Int32)) rfl 390 rfl ?_
        refine p_goto J1798 at_390 394 (by decide) (by decide) ?_
        refine p_istore J1798 #[.val (.int f0), .val (.int lv), .val (.int (1 : Int32)), .val (.int v3), .val (.int (0 : Int32)), .val (.int v5), .val (.int v6), .val (.int mm), .val (.ref a1635), .val (.ref lo1659), .val (.ref a1772), .val (.int (1 : Int32)), .val (.int (1 : Int32)), .val (.int (1 : Int32)), .val (.int (1 : Int32)), .val (.int (1 : Int32)), .val (.int (0 : Int32)), .val (.int (1 : Int32)), .val (.int (0 : Int32)), .val (.int (1 : Int32))] at_394 rfl 396 rfl ?_
        refine p_goto J1798 at_396 414 (by decide) (by decide) ?_
        refine sec_end g0 J1798 (Or.inr rfl) (by decide) (by decide) (by decide) fun oT1799 T1799 J1800 => ?_
        have J1801 := J1800.weak [] 6 (by decide) (lenLe F 6 rfl) (W' := F) rfl
        exact r_val J1801 at_451 (t := .boolean) rfl rfl (Or.inl ⟨rfl, by simp, _, rfl⟩) (by decide) (by decide) (Wf := []) rfl ⟨rfl, rfl⟩
    · refine p_if_n J1782 at_166 (by decide) 169 rfl ?_
      refine p_aload J1782 at_169 rfl rfl 171 rfl ?_
      refine p_iconst J1782 at_171 (z := (1 : Int32)) rfl 172 rfl ?_
      refine i_ldcA J1782 at_172 (mt (i := 422) rfl) (List.mem_cons_self ..) 174 rfl ?_
      refine p_aload J1782 at_174 rfl rfl 176 rfl ?_
      refine i_virtual J1782 at_176 (mt (i := 423) rfl) (mt (i := 424) rfl) (nfSel (mt (i := 426) rfl)) (mt (i := 426) rfl) (mt (i := 425) rfl) (mt (i := 391) rfl) (mt (i := 427) rfl) (by decide) (lenOf pd_27 rfl) 0 rfl (c_exchR g0 a1772 bs a1635 po1638 wb1640 ls1642 pts1644 kp1645 sv1646 pt1647 a1753 lo1659 a1756 cn1759 hbs) [0, 1, 2, 3, 4, 5] [] 6 (by decide) (lenLe F 6 rfl) rfl 0 (by decide) (by decide) (by decide) (by decide) rfl (by show (0 : Nat) ≤ _; decide) _ rfl 66 669 rfl rfl 179 rfl fun v1805 W1806 T1802 hQ1804 J1803 => ?_
      obtain ⟨rfl, rfl⟩ := hQ1804
      have J1807 := J1803.norm (W' := o_AL a1772 (.int (1 : Int32)) (.int (2147483647 : Int32)) (.int (1 : Int32)) (.int (1 : Int32)) (.int bs) (.int bs) (.ref a1635) :: o_SE a1635 (.ref po1638) (.ref wb1640) (.ref ls1642) (.ref pts1644) (.int (0 : Int32)) (.int (-1 : Int32)) (.ref sv1646) (.ref pt1647) (.int (1 : Int32)) (.int (1 : Int32)) (.long (0 : Int64)) (.int (0 : Int32)) (.int (0 : Int32)) :: (pts1644, true, .inr (kp1645, (.object "com/example/lockstep/lockstep/core/ChoicePoint"), (16 : Int32), [(.ref cn1759), .null], .null)) :: o_CP cn1759 (.int (2 : Int32)) (.int (0 : Int32)) (.int (1 : Int32)) (.int (0 : Int32)) .null (.long (0 : Int64)) (.int (0 : Int32)) :: (a1753, false, (o_Str a1753 (.ref a1756) (.int (0 : Int32))).2.2) :: o_LO lo1659  :: F) rfl
      show Run _ _ _ _ (State.setTop _ (mkF m 179 #[.val (.int f0), .val (.int lv), .val (.int (1 : Int32)), .val (.int v3), .val (.int (1 : Int32)), .val (.int v5), .val (.int v6), .val (.int mm), .val (.ref a1635), .val (.ref lo1659), .val (.ref a1772), .val (.int (1 : Int32)), .val (.int (0 : Int32)), .val (.int (1 : Int32)), .val (.int (0 : Int32)), .val (.int bs), .val (.int (0 : Int32)), .unset, .unset, .unset] [(.int (0 : Int32))]))
      refine p_pop J1807 at_179 rfl 180 rfl ?_
      refine p_iload_n J1807 at_180 rfl 181 rfl ?_
      refine p_if_n J1807 at_181 (by decide) 184 rfl ?_
      refine p_iconst J1807 at_184 (z := (1 : Int32)) rfl 185 rfl ?_
      refine p_istore J1807 #[.val (.int f0), .val (.int lv), .val (.int (1 : Int32)), .val (.int v3), .val (.int (1 : Int32)), .val (.int v5), .val (.int v6), .val (.int mm), .val (.ref a1635), .val (.ref lo1659), .val (.ref a1772), .val (.int (1 : Int32)), .val (.int (1 : Int32)), .val (.int (1 : Int32)), .val (.int (0 : Int32)), .val (.int bs), .val (.int (0 : Int32)), .unset, .unset, .unset] at_185 rfl 187 rfl ?_
      refine p_iload J1807 at_187 rfl 189 rfl ?_
      refine p_istore J1807 #[.val (.int f0), .val (.int lv), .val (.int (1 : Int32)), .val (.int v3), .val (.int (1 : Int32)), .val (.int v5), .val (.int v6), .val (.int mm), .val (.ref a1635), .val (.ref lo1659), .val (.ref a1772), .val (.int (1 : Int32)), .val (.int (1 : Int32)), .val (.int (1 : Int32)), .val (.int bs), .val (.int bs), .val (.int (0 : Int32)), .unset, .unset, .unset] at_189 rfl 191 rfl ?_
      refine p_goto J1807 at_191 200 (by decide) (by decide) ?_
      refine p_iconst J1807 at_200 (z := (1 : Int32)) rfl 201 rfl ?_
      refine p_istore J1807 #[.val (.int f0), .val (.int lv), .val (.int (1 : Int32)), .val (.int v3), .val (.int (1 : Int32)), .val (.int v5), .val (.int v6), .val (.int mm), .val (.ref a1635), .val (.ref lo1659), .val (.ref a1772), .val (.int (1 : Int32)), .val (.int (1 : Int32)), .val (.int (1 : Int32)), .val (.int bs), .val (.int bs), .val (.int (1 : Int32)), .unset, .unset, .unset] at_201 rfl 203 rfl ?_
      have J1808 := J1807.weak [0, 1, 2, 3, 4, 5] 6 (by decide) (lenLe F 6 rfl) (W' := o_AL a1772 (.int (1 : Int32)) (.int (2147483647 : Int32)) (.int (1 : Int32)) (.int (1 : Int32)) (.int bs) (.int bs) (.ref a1635) :: o_SE a1635 (.ref po1638) (.ref wb1640) (.ref ls1642) (.ref pts1644) (.int (0 : Int32)) (.int (-1 : Int32)) (.ref sv1646) (.ref pt1647) (.int (1 : Int32)) (.int (1 : Int32)) (.long (0 : Int64)) (.int (0 : Int32)) (.int (0 : Int32)) :: (pts1644, true, .inr (kp1645, (.object "com/example/lockstep/lockstep/core/ChoicePoint"), (16 : Int32), [(.ref cn1759), .null], .null)) :: o_CP cn1759 (.int (2 : Int32)) (.int (0 : Int32)) (.int (1 : Int32)) (.int (0 : Int32)) .null (.long (0 : Int64)) (.int (0 : Int32)) :: (a1753, false, (o_Str a1753 (.ref a1756) (.int (0 : Int32))).2.2) :: o_LO lo1659  :: F) rfl
      refine sec_cap g0 J1808 hv5 (Or.inr rfl) (by decide) (by decide) fun le1809 mo1809 fx1809 bz1809 T1809 hfx1809 J1809 => ?_
      refine sec_nest g0 J1809 hv6 hfx1809 hbs (by decide) (by decide) (fun lf1809 mp1809 by1809 U1809 K1809 => ?_) (fun V1809 h01809 H1809 => ?_)
      · refine sec_cmp g0 K1809 (Or.inr rfl) (by decide) (by decide) fun X1809 G1809 => ?_
        refine p_aload G1809 at_350 rfl rfl 352 rfl ?_
        refine p_iload G1809 at_352 rfl 354 rfl ?_
        refine i_ldcA G1809 at_354 (mt (i := 422) rfl) (List.mem_cons_self ..) 356 rfl ?_
        refine p_aload G1809 at_356 rfl rfl 358 rfl ?_
        refine i_virtual G1809 at_358 (mt (i := 423) rfl) (mt (i := 424) rfl) (nfSel (mt (i := 426) rfl)) (mt (i := 426) rfl) (mt (i := 425) rfl) (mt (i := 391) rfl) (mt (i := 427) rfl) (by decide) (lenOf pd_27 rfl) 0 rfl (c_exF g0 a1772 a1635 lf1809 mp1809 (1 : Int32) (1 : Int32) bs by1809 a1753 lo1659 (by decide)) [0] [1, 2, 3, 4, 5] 6 (by decide) (lenLe F 6 rfl) rfl 0 (by decide) (by decide) (by decide) (by decide) rfl (by show (0 : Nat) ≤ _; decide) _ rfl 66 669 rfl rfl 361 rfl fun v1813 W1814 T1810 hQ1812 J1811 => ?_
        obtain ⟨rfl, rfl⟩ := hQ1812
        have J1815 := J1811.norm (W' := o_AL a1772 (.int lf1809) (.int mp1809) (.int (1 : Int32)) (.int (1 : Int32)) (.int bs) (.int by1809) (.ref a1635) :: o_SE a1635 (.ref po1638) (.ref wb1640) (.ref ls1642) (.ref pts1644) (.int (0 : Int32)) (.int (-1 : Int32)) (.ref sv1646) (.ref pt1647) (.int (1 : Int32)) (.int (1 : Int32)) (.long (0 : Int64)) (.int (0 : Int32)) (.int (0 : Int32)) :: (pts1644, true, .inr (kp1645, (.object "com/example/lockstep/lockstep/core/ChoicePoint"), (16 : Int32), [(.ref cn1759), .null], .null)) :: o_CP cn1759 (.int (2 : Int32)) (.int (0 : Int32)) (.int (1 : Int32)) (.int (0 : Int32)) .null (.long (0 : Int64)) (.int (0 : Int32)) :: (a1753, false, (o_Str a1753 (.ref a1756) (.int (0 : Int32))).2.2) :: o_LO lo1659  :: F) rfl
        show Run _ _ _ _ (State.setTop _ (mkF m 361 #[.val (.int f0), .val (.int lv), .val (.int (1 : Int32)), .val (.int v3), .val (.int (1 : Int32)), .val (.int v5), .val (.int v6), .val (.int mm), .val (.ref a1635), .val (.ref lo1659), .val (.ref a1772), .val (.int lf1809), .val (.int (1 : Int32)), .val (.int (1 : Int32)), .val (.int bs), .val (.int by1809), .val (.int (1 : Int32)), .val (.int lf1809), .val (.int (1 : Int32)), .val (.int (1 : Int32))] [(.int (0 : Int32))]))
        refine p_pop J1815 at_361 rfl 362 rfl ?_
        refine p_iload J1815 at_362 rfl 364 rfl ?_
        refine p_if_y J1815 at_364 (by decide) 414 (by decide) (by decide) ?_
        refine sec_end g0 J1815 hbs (by decide) (by decide) (by decide) fun oT1816 T1816 J1817 => ?_
        have J1818 := J1817.weak [] 6 (by decide) (lenLe F 6 rfl) (W' := F) rfl
        exact r_val J1818 at_451 (t := .boolean) rfl rfl (Or.inl ⟨rfl, by simp, _, rfl⟩) (by decide) (by decide) (Wf := []) rfl ⟨rfl, rfl⟩
      · subst h01809
        refine sec_cmp g0 H1809 (Or.inl rfl) (by decide) (by decide) fun Y1809 I1809 => ?_
        refine p_aload I1809 at_350 rfl rfl 352 rfl ?_
        refine p_iload I1809 at_352 rfl 354 rfl ?_
        refine i_ldcA I1809 at_354 (mt (i := 422) rfl) (List.mem_cons_self ..) 356 rfl ?_
        refine p_aload I1809 at_356 rfl rfl 358 rfl ?_
        refine i_virtual I1809 at_358 (mt (i := 423) rfl) (mt (i := 424) rfl) (nfSel (mt (i := 426) rfl)) (mt (i := 426) rfl) (mt (i := 425) rfl) (mt (i := 391) rfl) (mt (i := 427) rfl) (by decide) (lenOf pd_27 rfl) 0 rfl (c_exch1r g0 a1772 (1 : Int32) a1635 po1638 wb1640 ls1642 pts1644 kp1645 sv1646 pt1647 a1753 lo1659 a1756 cn1759 ) [0, 1, 2, 4, 5] [3] 6 (by decide) (lenLe F 6 rfl) rfl 0 (by decide) (by decide) (by decide) (by decide) rfl (by show (0 : Nat) ≤ _; decide) _ rfl 71 717 rfl rfl 361 rfl fun v1823 W1824 T1820 hQ1822 J1821 => ?_
        obtain ⟨cn1819, rfl, rfl⟩ := hQ1822
        have J1825 := J1821.norm (W' := o_AL a1772 (.int (2 : Int32)) (.int (2147483647 : Int32)) (.int (2 : Int32)) (.int (0 : Int32)) (.int (0 : Int32)) (.int (1 : Int32)) (.ref a1635) :: o_SE a1635 (.ref po1638) (.ref wb1640) (.ref ls1642) (.ref pts1644) (.int (0 : Int32)) (.int (-1 : Int32)) (.ref sv1646) (.ref pt1647) (.int (2 : Int32)) (.int (1 : Int32)) (.long (0 : Int64)) (.int (0 : Int32)) (.int (0 : Int32)) :: (pts1644, true, .inr (kp1645, (.object "com/example/lockstep/lockstep/core/ChoicePoint"), (16 : Int32), [(.ref cn1759), (.ref cn1819)], .null)) :: o_CP cn1819 (.int (2 : Int32)) (.int (0 : Int32)) (.int (0 : Int32)) (.int (0 : Int32)) .null (.long (0 : Int64)) (.int (0 : Int32)) :: (a1753, false, (o_Str a1753 (.ref a1756) (.int (0 : Int32))).2.2) :: o_LO lo1659  :: o_CP cn1759 (.int (2 : Int32)) (.int (0 : Int32)) (.int (1 : Int32)) (.int (0 : Int32)) .null (.long (0 : Int64)) (.int (0 : Int32)) :: F) rfl
        show Run _ _ _ _ (State.setTop _ (mkF m 361 #[.val (.int f0), .val (.int lv), .val (.int (1 : Int32)), .val (.int v3), .val (.int (1 : Int32)), .val (.int v5), .val (.int v6), .val (.int mm), .val (.ref a1635), .val (.ref lo1659), .val (.ref a1772), .val (.int (1 : Int32)), .val (.int (0 : Int32)), .val (.int (1 : Int32)), .val (.int (0 : Int32)), .val (.int (1 : Int32)), .val (.int (1 : Int32)), .val (.int (1 : Int32)), .val (.int (0 : Int32)), .val (.int (1 : Int32))] [(.int (1 : Int32))]))
        refine p_pop J1825 at_361 rfl 362 rfl ?_
        refine p_iload J1825 at_362 rfl 364 rfl ?_
        refine p_if_n J1825 at_364 (by decide) 367 rfl ?_
        refine p_iload_n J1825 at_367 rfl 368 rfl ?_
        refine p_if_n J1825 at_368 (by decide) 371 rfl ?_
        refine p_iload J1825 at_371 rfl 373 rfl ?_
        refine p_if_y J1825 at_373 (by decide) 399 (by decide) (by decide) ?_
        refine p_iload J1825 at_399 rfl 401 rfl ?_
        refine p_iconst J1825 at_401 (z := (1 : Int32)) rfl 402 rfl ?_
        refine p_iadd J1825 at_402 (z := (2 : Int32)) (by decide) 403 rfl ?_
        refine p_istore J1825 #[.val (.int f0), .val (.int lv), .val (.int (1 : Int32)), .val (.int v3), .val (.int (1 : Int32)), .val (.int v5), .val (.int v6), .val (.int mm), .val (.ref a1635), .val (.ref lo1659), .val (.ref a1772), .val (.int (2 : Int32)), .val (.int (0 : Int32)), .val (.int (1 : Int32)), .val (.int (0 : Int32)), .val (.int (1 : Int32)), .val (.int (1 : Int32)), .val (.int (1 : Int32)), .val (.int (0 : Int32)), .val (.int (1 : Int32))] at_403 rfl 405 rfl ?_
        refine p_iload J1825 at_405 rfl 407 rfl ?_
        refine p_iload J1825 at_407 rfl 409 rfl ?_
        refine i_static J1825 at_409 (mt (i := 615) rfl) (mt (i := 507) rfl) (mt (i := 310) rfl) (mt (i := 508) rfl) (by decide) (lenOf pd_10 rfl) (c_max2 g0  ) [] [0, 1, 2, 3, 4, 5, 6] 7 (by decide) (lenLe F 7 rfl) rfl 0 (by decide) (by decide) (by decide) (by decide) rfl (by show (0 : Nat) ≤ _; decide) _ rfl 71 717 rfl rfl 412 rfl fun v1829 W1830 T1826 hQ1828 J1827 => ?_
        obtain ⟨rfl, rfl⟩ := hQ1828
        have J1831 := J1827.norm (W' := o_AL a1772 (.int (2 : Int32)) (.int (2147483647 : Int32)) (.int (2 : Int32)) (.int (0 : Int32)) (.int (0 : Int32)) (.int (1 : Int32)) (.ref a1635) :: o_SE a1635 (.ref po1638) (.ref wb1640) (.ref ls1642) (.ref pts1644) (.int (0 : Int32)) (.int (-1 : Int32)) (.ref sv1646) (.ref pt1647) (.int (2 : Int32)) (.int (1 : Int32)) (.long (0 : Int64)) (.int (0 : Int32)) (.int (0 : Int32)) :: (pts1644, true, .inr (kp1645, (.object "com/example/lockstep/lockstep/core/ChoicePoint"), (16 : Int32), [(.ref cn1759), (.ref cn1819)], .null)) :: o_CP cn1819 (.int (2 : Int32)) (.int (0 : Int32)) (.int (0 : Int32)) (.int (0 : Int32)) .null (.long (0 : Int64)) (.int (0 : Int32)) :: (a1753, false, (o_Str a1753 (.ref a1756) (.int (0 : Int32))).2.2) :: o_LO lo1659  :: o_CP cn1759 (.int (2 : Int32)) (.int (0 : Int32)) (.int (1 : Int32)) (.int (0 : Int32)) .null (.long (0 : Int64)) (.int (0 : Int32)) :: F) rfl
        show Run _ _ _ _ (State.setTop _ (mkF m 412 #[.val (.int f0), .val (.int lv), .val (.int (1 : Int32)), .val (.int v3), .val (.int (1 : Int32)), .val (.int v5), .val (.int v6), .val (.int mm), .val (.ref a1635), .val (.ref lo1659), .val (.ref a1772), .val (.int (2 : Int32)), .val (.int (0 : Int32)), .val (.int (1 : Int32)), .val (.int (0 : Int32)), .val (.int (1 : Int32)), .val (.int (1 : Int32)), .val (.int (1 : Int32)), .val (.int (0 : Int32)), .val (.int (1 : Int32))] [(.int (2 : Int32))]))
        refine p_istore J1831 #[.val (.int f0), .val (.int lv), .val (.int (1 : Int32)), .val (.int v3), .val (.int (1 : Int32)), .val (.int v5), .val (.int v6), .val (.int mm), .val (.ref a1635), .val (.ref lo1659), .val (.ref a1772), .val (.int (2 : Int32)), .val (.int (0 : Int32)), .val (.int (2 : Int32)), .val (.int (0 : Int32)), .val (.int (1 : Int32)), .val (.int (1 : Int32)), .val (.int (1 : Int32)), .val (.int (0 : Int32)), .val (.int (1 : Int32))] at_412 rfl 414 rfl ?_
        refine sec_end g0 J1831 (Or.inl rfl) (by decide) (by decide) (by decide) fun oT1832 T1832 J1833 => ?_
        have J1834 := J1833.weak [] 7 (by decide) (lenLe F 7 rfl) (W' := F) rfl
        exact r_val J1834 at_451 (t := .boolean) rfl rfl (Or.inl ⟨rfl, by simp, _, rfl⟩) (by decide) (by decide) (Wf := []) rfl ⟨rfl, rfl⟩
theorem sAtoms {a : Array Value} {s : State} (hw : ∀ d ∈ tables_1, d.before a s = true) : ∀ d ∈ Bundle.stringAtoms, d.before a s = true := by
  intro d hd
  simp only [Bundle.stringAtoms, List.mem_cons, List.not_mem_nil, or_false] at hd
  rcases hd with rfl | rfl | rfl | rfl | rfl | rfl | rfl
  · exact hw _ (mt (i := 353) rfl)
  · exact hw _ (mt (i := 354) rfl)
  · exact hw _ (mt (i := 355) rfl)
  · exact hw _ (mt (i := 356) rfl)
  · exact hw _ (mt (i := 357) rfl)
  · exact hw _ (mt (i := 358) rfl)
  · exact hw _ (mt (i := 359) rfl)
set_option maxRecDepth 65536 in
set_option maxHeartbeats 40000000 in
theorem comes_1 {Post : Tables → Env → Array Value → State → Outcome → State → Prop} (hpost : ∀ tb e args s v u, (limb_1_1.after args s (.returned v) u = true ∧ limb_1_2.after args s (.returned v) u = true ∧ True) → FramedW s (.returned v) u (Jvm.fieldLocs frame_1_writes args s ++ Jvm.arrayLocs frame_1_arrays args s ++ Jvm.staticLocs frame_1_statics s) 128 6400 → Post tb e args s (.returned v) u) :
    ArmFor flags0 classFile x code maxLocals ret World_1 tables_1 room_1 Calls_1 rest_1 Pre_1 Post := by
  intro l hfl _ _ p e ha hc hk s m args below hf hA hF happ hP
  obtain ⟨hcalls, hrest, hpre⟩ := hP
  obtain ⟨-, -, -, hnamed, -, -, -, hat⟩ := (Spec.applies_iff hf).mp happ
  obtain ⟨hg, hn⟩ := and_e (Cond.before_iff.mp (show (Jvm.Cond.and given_1 narrow_1).before args s = true from hpre))
  obtain ⟨g1, g2⟩ := and_e hg
  obtain ⟨g3, g4⟩ := and_e g2
  obtain ⟨w0, w1, rfl⟩ : ∃ w0 w1 : Value, args = #[w0, w1] := by
    have hs : args.size = 2 := by simpa [Cond.value, given_1] using g1
    obtain ⟨L⟩ := args
    match L, hs with
    | [w0, w1], _ => exact ⟨w0, w1, rfl⟩
  have hw := fun d (hd : d ∈ tables_1) => atoms_spec (ws := Jvm.Cond.code x code maxLocals ret :: tables_1) hat d (List.mem_cons_of_mem _ hd)
  obtain ⟨hsets, -⟩ := atoms_of _ (rest_1_c_eq ▸ (show rest_1_c.before _ s = true from hrest))
  obtain ⟨i0, ei0⟩ := is_v g3
  obtain rfl : w0 = (.int i0) := Option.some.inj ei0
  obtain ⟨i1, ei1⟩ := is_v g4
  obtain rfl : w1 = (.int i1) := Option.some.inj ei1
  have q2 := hsets _ (List.mem_of_getElem? (i := 11) rfl)
  obtain ⟨dc, -, -, -, edc, -⟩ := Cond.exactly_spec (hsets _ (List.mem_of_getElem? (i := 7) rfl))
  have hDC := Sta.start edc (Or.inr ⟨hw _ (mt (i := 162) rfl), hsets _ (List.mem_of_getElem? (i := 2) rfl)⟩)
  obtain ⟨⟨c1, k1, mS, a1, a2, a3, a4⟩, ⟨c2, k2, mA, b1, b2, b3, b4⟩, ⟨c3, k3, mO, d1, d2, d3, d4⟩, hcon, -⟩ := hcalls
  have hMS : Mir s "java/util/Collections$SingletonList" mS := ⟨c1, k1, a1, a2, a3, a4⟩
  have hMA : Mir s "java/util/ArrayList" mA := ⟨c2, k2, b1, b2, b3, b4⟩
  have hO : Mir s "[Ljava/lang/Object;" mO := ⟨c3, k3, d1, d2, d3, d4⟩
  have hE : EW s _ [("com/example/lockstep/lockstep/core/ActiveLevelsSetNestedPinLaw", 13), ("com/example/lockstep/lockstep/core/ActiveLevelsSetNestedPinLaw", 26), ("com/example/lockstep/lockstep/core/Search", 488), ("com/example/lockstep/lockstep/core/Search", 491), ("com/example/lockstep/lockstep/core/value/SourceLocation", 38)] := EW.cons (hw _ (mt (i := 352) rfl)) (by decide) <| EW.cons (hw _ (mt (i := 422) rfl)) (by decide) <| EW.cons (hw _ (mt (i := 447) rfl)) (by decide) <| EW.cons (hw _ (mt (i := 450) rfl)) (by decide) <| EW.cons (hw _ (mt (i := 366) rfl)) (by decide) <| EW.nil
  have g : GC s _ [("com/example/lockstep/lockstep/core/ActiveLevelsSetNestedPinLaw", 13), ("com/example/lockstep/lockstep/core/ActiveLevelsSetNestedPinLaw", 26), ("com/example/lockstep/lockstep/core/Search", 488), ("com/example/lockstep/lockstep/core/Search", 491), ("com/example/lockstep/lockstep/core/value/SourceLocation", 38)] := ⟨hw, hE, sAtoms hw⟩
  have hH : CHv s [("com/example/lockstep/lockstep/core/ActiveLevelsSetNestedPinLaw", 13), ("com/example/lockstep/lockstep/core/ActiveLevelsSetNestedPinLaw", 26), ("com/example/lockstep/lockstep/core/Search", 488), ("com/example/lockstep/lockstep/core/Search", 491), ("com/example/lockstep/lockstep/core/value/SourceLocation", 38)] s.vm s.heap := CHv.start hE (fun q hq => hcon q hq) q2 (hw _ (mt (i := 355) rfl)) (hw _ (mt (i := 354) rfl))
  obtain ⟨n, o, h1, h2, h3, v, L, W', rfl, ⟨rfl, rfl⟩, N, -, hq⟩ := met_law (l := l) g rfl i0 i1 dc hDC mS mA hMS hMA mO hO tables_1 [] s.heap p e ha hc hk s m _ below hf ((Spec.applies_iff_loose hf).mp happ).1 ⟨rfl, State.Warmed39.refl s, rfl, ⟨Nat.le_refl _, fun _ _ q => q⟩, hH, nofun, List.Pairwise.nil⟩ trivial
  exact ⟨n, _, h1, h2, h3, hpost _ _ _ _ _ _ ⟨Cond.after_iff.mpr rfl, Cond.after_iff.mpr (eq_i res_at (Term.int_eval (1)) rfl), trivial⟩ ⟨hq.1, hq.2.1, hq.2.2.1, (hq.2.2.2.sift fun y hy => Or.inr (N y hy)).mono (by decide) (by decide)⟩⟩
theorem main_1_1 : Claimed_1_1 := comes_1 fun _ _ _ _ _ _ h hF => ⟨h.1, hF⟩
theorem main_1_2 : Claimed_1_2 := comes_1 fun _ _ _ _ _ _ h hF => ⟨h.2.1, hF⟩
end Jvm.Pilot.@@N@@
namespace Jvm.Pilot.@@N@@
open Jvm Jvm.ClassFile Sem Op Lib Jvm.Free Jvm.Stand Jvm.Pilot.@@N@@.Jvm.D
/-! MADE BY PROGRAM (witnessworld.py) out of the Statement's table words and the real class files: 60 classes; the members and pool entries that the words name. The judged class is class 1, her method 1. -/
namespace start1
open Jvm.ClassFile
def u (s : String) : CpInfo := .utf8 (stringToUtf16 s)
/-- a pool by its gaps: so many unusable entries, then the entry; so many at the end -/
def gap : Nat → List CpInfo → List CpInfo
  | 0, r => r
  | n + 1, r => .unusable :: gap n r
def poolList (es : List (Nat × CpInfo)) (last : Nat) : List CpInfo := es.foldr (fun e r => gap e.1 (e.2 :: r)) (gap last [])
def pool (es : List (Nat × CpInfo)) (last : Nat) : Array CpInfo := ⟨poolList es last⟩
def fileOf (pool : Array CpInfo) (this : Nat) (attrs : Array Attribute := #[]) (ms : Array MethodInfo := #[]) (fl : Nat := 33) (sup : Nat := 0) (ifs : Array Nat := #[]) (fds : Array FieldInfo := #[]) : ClassFile where
  minorVersion := 0
  majorVersion := 65
  constantPool := pool
  accessFlags := fl
  thisClass := this
  superClass := sup
  interfaces := ifs
  fields := fds
  methods := ms
  attributes := attrs
def plain (name : String) (sup : Option ClassId) : Class where
  name := name
  kind := .ordinary
  loader := none
  accessFlags := 33
  super := sup
  interfaces := #[]
  cf := none
  fields := #[]
  methods := #[]
  instanceTypes := #[]
  staticTypes := #[]
  resolved := #[]
  callSites := []
  init := .initialized
  statics := none
  mirror := none

def pool0 : Array CpInfo := pool [(5, u "<init>"), (0, u "()V"), (1, .class_ 10), (1, u "java/lang/Object"), (0, u "getClass"), (0, u "()Ljava/lang/Class;")] 111

def k0c0 : Code := { maxStack := 0, maxLocals := 1, code := object_method_1_code, exceptionTable := #[], attributes := #[] }
def k0m0 : Method := { name := "<init>", desc := "()V", sig := { parameters := [], returnType := none }, accessFlags := 1, code := some k0c0 }
def k0m1 : Method := { name := "getClass", desc := "()Ljava/lang/Class;", sig := { parameters := [], returnType := some (.object "java/lang/Class") }, accessFlags := 273, code := none }
/-- java/lang/Object -/
def k0 : Class := { plain "java/lang/Object" none with
  accessFlags := 33
  interfaces := #[]
  cf := some (fileOf pool0 8 #[] #[{ accessFlags := 1, nameIndex := 5, descriptorIndex := 6, attributes := #[] }, { accessFlags := 273, nameIndex := 11, descriptorIndex := 12, attributes := #[] }] 33 0 #[] #[])
  fields := #[]
  methods := #[k0m0, k0m1]
  instanceTypes := #[]
  staticTypes := #[]
  resolved := Array.replicate 124 none
  statics := none }

def pool1 : Array CpInfo := pool [(2, .class_ 4), (1, u "java/lang/Object"), (0, u "<init>"), (0, u "()V"), (0, .integer 2147483647), (0, .class_ 9), (0, u "com/example/lockstep/lockstep/core/Search"), (0, .methodref 8 11), (0, .nameAndType 5 12), (0, u "(J)V"), (0, .string 14), (0, u "f"), (0, .methodref 16 17), (0, .class_ 18), (0, .nameAndType 19 20), (0, u "com/example/lockstep/lockstep/core/value/SourceLocation"), (0, u "of"), (0, u "(Ljava/lang/String;II)Lcom/example/lockstep/lockstep/core/value/SourceLocation;"), (0, .class_ 22), (0, u "com/example/lockstep/lockstep/core/ActiveLevels"), (0, .methodref 21 24), (0, .nameAndType 5 25), (0, u "(Lcom/example/lockstep/lockstep/core/Search;)V"), (0, .string 27), (0, u "e"), (0, .methodref 21 29), (0, .nameAndType 30 31), (0, u "exceeds"), (0, u "(ILjava/lang/String;Lcom/example/lockstep/lockstep/core/value/SourceLocation;)Z"), (0, .methodref 8 33), (0, .nameAndType 34 35), (0, u "next"), (0, u "()Z"), (0, .methodref 21 37), (0, .nameAndType 38 39), (0, u "setNested"), (0, u "(Z)V"), (0, .methodref 21 41), (0, .nameAndType 42 43), (0, u "setMost"), (0, u "(I)V"), (0, .methodref 45 46), (0, .class_ 47), (0, .nameAndType 48 49), (0, u "java/lang/Math"), (0, u "min"), (0, u "(II)I"), (0, .methodref 21 51), (0, .nameAndType 52 53), (0, u "least"), (0, u "()I"), (0, .methodref 21 55), (0, .nameAndType 56 35), (0, u "isFixed"), (0, .methodref 45 58), (0, .nameAndType 59 49), (0, u "max"), (2, .class_ 63), (0, u "com/example/lockstep/lockstep/core/ActiveLevelsSetNestedPinLaw"), (2, u "law"), (0, u "(II)Z")] 3

def k1m0 : Method := { name := "<init>", desc := "()V", sig := { parameters := [], returnType := none }, accessFlags := 1, code := none }
def k1c1 : Code := { maxStack := 4, maxLocals := 20, code := code, exceptionTable := #[], attributes := #[] }
def k1m1 : Method := { name := "law", desc := "(II)Z", sig := { parameters := [.int, .int], returnType := some .boolean }, accessFlags := 9, code := some k1c1 }
/-- com/example/lockstep/lockstep/core/ActiveLevelsSetNestedPinLaw -/
def k1 : Class := { plain "com/example/lockstep/lockstep/core/ActiveLevelsSetNestedPinLaw" (some 0) with
  accessFlags := 49
  interfaces := #[]
  cf := some (fileOf pool1 62 #[] #[{ accessFlags := 1, nameIndex := 5, descriptorIndex := 6, attributes := #[] }, { accessFlags := 9, nameIndex := 66, descriptorIndex := 67, attributes := #[] }] 49 2 #[] #[])
  fields := #[]
  methods := #[k1m0, k1m1]
  instanceTypes := #[]
  staticTypes := #[]
  resolved := Array.replicate 71 none
  statics := none }

def pool2 : Array CpInfo := pool [(1, .class_ 2), (0, u "com/example/lockstep/lockstep/core/Search"), (0, .class_ 4), (0, u "java/util/BitSet"), (0, .methodref 3 6), (0, .nameAndType 7 8), (0, u "<init>"), (0, u "()V"), (0, .methodref 1 10), (0, .nameAndType 7 11), (0, u "(JJILjava/util/BitSet;ZZZ)V"), (0, .methodref 13 6), (0, .class_ 14), (0, u "java/lang/Object"), (0, .class_ 16), (0, u "com/example/lockstep/lockstep/core/PassCounts"), (0, .methodref 15 6), (0, .fieldref 1 19), (0, .nameAndType 20 21), (0, u "passedOnAnyThread"), (0, u "Lcom/example/lockstep/lockstep/core/PassCounts;"), (0, .fieldref 1 23), (0, .nameAndType 24 21), (0, u "wentBack"), (0, .class_ 26), (0, u "java/util/HashSet"), (0, .methodref 25 6), (0, .fieldref 1 29), (0, .nameAndType 30 31), (0, u "loopTopSummaries"), (0, u "Ljava/util/Set;"), (0, .class_ 33), (0, u "com/example/lockstep/lockstep/core/RaceLog"), (0, .methodref 32 6), (0, .fieldref 1 36), (0, .nameAndType 37 38), (0, u "races"), (0, u "Lcom/example/lockstep/lockstep/core/RaceLog;"), (0, .class_ 40), (0, u "java/util/TreeSet"), (0, .methodref 39 6), (0, .fieldref 1 43), (0, .nameAndType 44 45), (0, u "teamSizes"), (0, u "Ljava/util/SortedSet;"), (0, .fieldref 1 47), (0, .nameAndType 48 45), (0, u "leagueSizes"), (0, .fieldref 1 50), (0, .nameAndType 51 31), (0, u "failing"), (0, .fieldref 1 53), (0, .nameAndType 54 31), (0, u "readingEarly"), (0, .fieldref 1 56), (0, .nameAndType 57 31), (0, u "besideThreads"), (0, .class_ 59), (0, u "java/util/ArrayList"), (0, .methodref 58 6), (0, .fieldref 1 62), (0, .nameAndType 63 64), (0, u "taken"), (0, u "Ljava/util/List;"), (0, .class_ 66), (0, u "java/util/IdentityHashMap"), (0, .methodref 65 6), (0, .fieldref 1 69), (0, .nameAndType 70 71), (0, u "ranBefore"), (0, u "Ljava/util/Map;"), (0, .class_ 73), (0, u "java/util/HashMap"), (0, .methodref 72 6), (0, .fieldref 1 76), (0, .nameAndType 77 71), (0, u "visited"), (0, .fieldref 1 79), (0, .nameAndType 80 71), (0, u "loopTops"), (0, .fieldref 1 82), (0, .nameAndType 83 71), (0, u "passedThrough"), (0, .fieldref 1 85), (0, .nameAndType 86 31), (0, u "keptDivisions"), (0, .class_ 88), (0, u "com/example/lockstep/lockstep/core/StateGraph"), (0, .methodref 87 6), (0, .fieldref 1 91), (0, .nameAndType 92 93), (0, u "graph"), (0, u "Lcom/example/lockstep/lockstep/core/StateGraph;"), (0, .fieldref 1 95), (0, .nameAndType 96 97), (0, u "node"), (0, u "I"), (0, .fieldref 1 99), (0, .nameAndType 100 64), (0, u "pathTops"), (0, .fieldref 1 102), (0, .nameAndType 103 104), (0, u "interchanging"), (0, u "Z"), (0, .fieldref 1 106), (0, .nameAndType 107 71), (0, u "modelIds"), (0, .class_ 109), (0, u "com/example/lockstep/lockstep/core/ChoicePoint"), (0, .fieldref 1 111), (0, .nameAndType 112 113), (0, u "points"), (0, u "[Lcom/example/lockstep/lockstep/core/ChoicePoint;"), (0, .fieldref 1 115), (0, .nameAndType 116 97), (0, u "elsewhere"), (0, .fieldref 1 118), (0, .nameAndType 119 97), (0, u "mainInstruction"), (0, .fieldref 1 121), (0, .nameAndType 122 64), (0, u "saved"), (0, .fieldref 1 124), (0, .nameAndType 125 126), (0, u "maxSteps"), (0, u "J"), (0, .fieldref 1 128), (0, .nameAndType 129 126), (0, u "steps"), (0, .fieldref 1 131), (0, .nameAndType 132 97), (0, u "standing"), (0, .fieldref 1 134), (0, .nameAndType 135 136), (0, u "choosing"), (0, u "Ljava/util/BitSet;"), (0, .fieldref 1 138), (0, .nameAndType 139 104), (0, u "confirming"), (0, .fieldref 1 141), (0, .nameAndType 142 104), (0, u "everyRound"), (0, .fieldref 1 144), (0, .nameAndType 145 104), (0, u "everyOrderOfPieces"), (2, u "exhausted"), (7, u "()Z"), (10, .class_ 169), (1, u "com/example/lockstep/lockstep/core/Search$Untried"), (0, u "every"), (6, u "at"), (5, .fieldref 1 184), (0, .nameAndType 185 126), (0, u "spent"), (3, u "()I"), (2, u "anyThreadLoop"), (0, u "Lcom/example/lockstep/lockstep/core/Search$Untried;"), (0, .fieldref 1 195), (0, .nameAndType 196 97), (0, u "anyThreadDepth"), (9, .fieldref 1 207), (0, .nameAndType 208 193), (0, u "pending"), (26, u "stopped"), (0, u "Lcom/example/lockstep/lockstep/core/value/CannotDecide;"), (1, .class_ 240), (1, u "java/util/Map"), (8, .class_ 251), (1, u "java/util/List"), (7, u "decider"), (0, u "Lcom/example/lockstep/lockstep/core/value/Origin;"), (5, .fieldref 1 267), (0, .nameAndType 268 97), (0, u "depth"), (6, u "everyCallFails"), (1, .class_ 278), (0, u "java/util/Set"), (17, .fieldref 1 297), (0, .nameAndType 298 104), (0, u "restart"), (0, .class_ 300), (0, u "com/example/lockstep/lockstep/core/Search$Restart"), (13, .interfaceMethodref 249 315), (0, .nameAndType 316 156), (0, u "isEmpty"), (2, u "layouts"), (2, u "passed"), (2, u "everyOrder"), (5, u "everyLockOrder"), (2, u "tookInOrder"), (7, u "ranOnAnyThread"), (2, u "heldAtLoop"), (26, .interfaceMethodref 238 373), (0, .nameAndType 374 8), (0, u "clear"), (5, u "pruned"), (1, .nameAndType 383 189), (0, u "size"), (3, .fieldref 1 388), (0, .nameAndType 389 97), (0, u "repeated"), (0, .methodref 108 391), (0, .nameAndType 63 189), (2, .methodref 395 396), (0, .class_ 397), (0, .nameAndType 398 399), (0, u "java/util/Objects"), (0, u "requireNonNull"), (0, u "(Ljava/lang/Object;Ljava/lang/String;)Ljava/lang/Object;"), (2, .class_ 403), (0, u "com/example/lockstep/lockstep/core/Search$1"), (3, .methodref 1 408), (0, .nameAndType 409 410), (0, u "choose"), (0, u "(ILjava/util/function/Supplier;ZLjava/lang/String;Lcom/example/lockstep/lockstep/core/value/SourceLocation;)I"), (6, .fieldref 1 418), (0, .nameAndType 419 97), (0, u "rejoining"), (0, .fieldref 1 421), (0, .nameAndType 422 97), (0, u "unrecorded"), (0, .fieldref 1 424), (0, .nameAndType 425 126), (0, u "settledSince"), (0, .methodref 108 427), (0, .nameAndType 428 429), (0, u "settledBefore"), (0, u "()J"), (4, .methodref 108 435), (0, .nameAndType 436 156), (0, u "isSettled"), (5, .fieldref 1 443), (0, .nameAndType 444 97), (0, u "rejoiningFrom"), (0, .fieldref 1 446), (0, .nameAndType 447 97), (0, u "unrecordedFrom"), (0, .interfaceMethodref 249 382), (3, .class_ 453), (0, u "com/example/lockstep/lockstep/core/Search$Saved"), (2, .methodref 108 457), (0, .nameAndType 96 189), (6, .class_ 465), (0, u "com/example/lockstep/lockstep/core/Search$LoopTop"), (10, .class_ 477), (0, u "com/example/lockstep/lockstep/core/Search$Pruned"), (6, .methodref 1 485), (0, .nameAndType 486 487), (0, u "chooseUnspecified"), (0, u "(ILjava/util/function/Supplier;Ljava/lang/String;Lcom/example/lockstep/lockstep/core/value/SourceLocation;)I"), (0, .string 170), (0, .class_ 490), (0, u "java/lang/String"), (0, .string 177), (0, .class_ 493), (0, u "com/example/lockstep/lockstep/core/value/SourceLocation"), (26, .methodref 108 521), (0, .nameAndType 522 189), (0, u "ways"), (5, .class_ 529), (0, u "com/example/lockstep/lockstep/core/Search$Met"), (13, .methodref 108 6), (4, .methodref 108 549), (0, .nameAndType 550 551), (0, u "open"), (0, u "(IIZLjava/lang/String;Lcom/example/lockstep/lockstep/core/value/SourceLocation;Ljava/util/BitSet;JI)V"), (50, .class_ 603), (0, u "com/example/lockstep/lockstep/core/Search$Round"), (28, .methodref 15 373), (0, .interfaceMethodref 277 373), (4, .methodref 108 639), (0, .nameAndType 640 156), (0, u "hasWayToTry"), (0, .methodref 108 642), (0, .nameAndType 643 8), (0, u "takeNextWay"), (0, u "ATOMICS_IN_ORDER"), (2, u "STATIC_ON_ANY_THREAD"), (1, u "LOCKS_IN_ORDER"), (11, u "LEFT"), (4, u "LAST_SAVED_KEPT"), (1, u "(J)V"), (66, u "(ILjava/lang/String;Lcom/example/lockstep/lockstep/core/value/SourceLocation;)I"), (25, u "next")] 29

def k2c0 : Code := { maxStack := 10, maxLocals := 3, code := prog_206_method_1_code, exceptionTable := #[], attributes := #[] }
def k2m0 : Method := { name := "<init>", desc := "(J)V", sig := { parameters := [.long], returnType := none }, accessFlags := 0, code := some k2c0 }
def k2c1 : Code := { maxStack := 3, maxLocals := 10, code := prog_206_method_2_code, exceptionTable := #[], attributes := #[] }
def k2m1 : Method := { name := "<init>", desc := "(JJILjava/util/BitSet;ZZZ)V", sig := { parameters := [.long, .long, .int, (.object "java/util/BitSet"), .boolean, .boolean, .boolean], returnType := none }, accessFlags := 2, code := some k2c1 }
def k2c2 : Code := { maxStack := 5, maxLocals := 4, code := prog_206_method_71_code, exceptionTable := #[], attributes := #[] }
def k2m2 : Method := { name := "chooseUnspecified", desc := "(ILjava/lang/String;Lcom/example/lockstep/lockstep/core/value/SourceLocation;)I", sig := { parameters := [.int, (.object "java/lang/String"), (.object "com/example/lockstep/lockstep/core/value/SourceLocation")], returnType := some .int }, accessFlags := 0, code := some k2c2 }
def k2c3 : Code := { maxStack := 7, maxLocals := 5, code := prog_206_method_72_code, exceptionTable := #[], attributes := #[] }
def k2m3 : Method := { name := "chooseUnspecified", desc := "(ILjava/util/function/Supplier;Ljava/lang/String;Lcom/example/lockstep/lockstep/core/value/SourceLocation;)I", sig := { parameters := [.int, (.object "java/util/function/Supplier"), (.object "java/lang/String"), (.object "com/example/lockstep/lockstep/core/value/SourceLocation")], returnType := some .int }, accessFlags := 0, code := some k2c3 }
def k2c4 : Code := { maxStack := 10, maxLocals := 8, code := prog_206_method_80_code, exceptionTable := #[], attributes := #[] }
def k2m4 : Method := { name := "choose", desc := "(ILjava/util/function/Supplier;ZLjava/lang/String;Lcom/example/lockstep/lockstep/core/value/SourceLocation;)I", sig := { parameters := [.int, (.object "java/util/function/Supplier"), .boolean, (.object "java/lang/String"), (.object "com/example/lockstep/lockstep/core/value/SourceLocation")], returnType := some .int }, accessFlags := 2, code := some k2c4 }
def k2c5 : Code := { maxStack := 6, maxLocals := 3, code := prog_206_method_91_code, exceptionTable := #[], attributes := #[] }
def k2m5 : Method := { name := "next", desc := "()Z", sig := { parameters := [], returnType := some .boolean }, accessFlags := 0, code := some k2c5 }
/-- com/example/lockstep/lockstep/core/Search -/
def k2 : Class := { plain "com/example/lockstep/lockstep/core/Search" (some 0) with
  accessFlags := 48
  interfaces := #[]
  cf := some (fileOf pool2 1 #[.nestMembers #[476, 299, 602, 452, 167, 464, 528, 402]] #[{ accessFlags := 0, nameIndex := 7, descriptorIndex := 668, attributes := #[] }, { accessFlags := 2, nameIndex := 7, descriptorIndex := 11, attributes := #[] }, { accessFlags := 0, nameIndex := 486, descriptorIndex := 735, attributes := #[] }, { accessFlags := 0, nameIndex := 486, descriptorIndex := 487, attributes := #[] }, { accessFlags := 2, nameIndex := 409, descriptorIndex := 410, attributes := #[] }, { accessFlags := 0, nameIndex := 761, descriptorIndex := 156, attributes := #[] }] 48 13 #[] #[{ accessFlags := 18, nameIndex := 125, descriptorIndex := 126, attributes := #[] }, { accessFlags := 2, nameIndex := 129, descriptorIndex := 126, attributes := #[] }, { accessFlags := 18, nameIndex := 132, descriptorIndex := 97, attributes := #[] }, { accessFlags := 26, nameIndex := 644, descriptorIndex := 97, attributes := #[] }, { accessFlags := 26, nameIndex := 647, descriptorIndex := 97, attributes := #[] }, { accessFlags := 26, nameIndex := 649, descriptorIndex := 97, attributes := #[] }, { accessFlags := 2, nameIndex := 334, descriptorIndex := 104, attributes := #[] }, { accessFlags := 2, nameIndex := 331, descriptorIndex := 104, attributes := #[] }, { accessFlags := 2, nameIndex := 322, descriptorIndex := 104, attributes := #[] }, { accessFlags := 2, nameIndex := 325, descriptorIndex := 104, attributes := #[] }, { accessFlags := 2, nameIndex := 342, descriptorIndex := 104, attributes := #[] }, { accessFlags := 2, nameIndex := 345, descriptorIndex := 104, attributes := #[] }, { accessFlags := 2, nameIndex := 192, descriptorIndex := 193, attributes := #[] }, { accessFlags := 2, nameIndex := 196, descriptorIndex := 97, attributes := #[] }, { accessFlags := 18, nameIndex := 20, descriptorIndex := 21, attributes := #[] }, { accessFlags := 18, nameIndex := 24, descriptorIndex := 21, attributes := #[] }, { accessFlags := 18, nameIndex := 30, descriptorIndex := 31, attributes := #[] }, { accessFlags := 2, nameIndex := 148, descriptorIndex := 104, attributes := #[] }, { accessFlags := 2, nameIndex := 235, descriptorIndex := 236, attributes := #[] }, { accessFlags := 18, nameIndex := 37, descriptorIndex := 38, attributes := #[] }, { accessFlags := 18, nameIndex := 44, descriptorIndex := 45, attributes := #[] }, { accessFlags := 18, nameIndex := 48, descriptorIndex := 45, attributes := #[] }, { accessFlags := 2, nameIndex := 259, descriptorIndex := 260, attributes := #[] }, { accessFlags := 18, nameIndex := 51, descriptorIndex := 31, attributes := #[] }, { accessFlags := 2, nameIndex := 275, descriptorIndex := 104, attributes := #[] }, { accessFlags := 18, nameIndex := 54, descriptorIndex := 31, attributes := #[] }, { accessFlags := 2, nameIndex := 319, descriptorIndex := 104, attributes := #[] }, { accessFlags := 18, nameIndex := 57, descriptorIndex := 31, attributes := #[] }, { accessFlags := 18, nameIndex := 63, descriptorIndex := 64, attributes := #[] }, { accessFlags := 18, nameIndex := 70, descriptorIndex := 71, attributes := #[] }, { accessFlags := 2, nameIndex := 298, descriptorIndex := 104, attributes := #[] }, { accessFlags := 18, nameIndex := 77, descriptorIndex := 71, attributes := #[] }, { accessFlags := 18, nameIndex := 80, descriptorIndex := 71, attributes := #[] }, { accessFlags := 18, nameIndex := 83, descriptorIndex := 71, attributes := #[] }, { accessFlags := 18, nameIndex := 86, descriptorIndex := 31, attributes := #[] }, { accessFlags := 26, nameIndex := 661, descriptorIndex := 97, attributes := #[] }, { accessFlags := 18, nameIndex := 92, descriptorIndex := 93, attributes := #[] }, { accessFlags := 2, nameIndex := 96, descriptorIndex := 97, attributes := #[] }, { accessFlags := 18, nameIndex := 100, descriptorIndex := 64, attributes := #[] }, { accessFlags := 2, nameIndex := 419, descriptorIndex := 97, attributes := #[] }, { accessFlags := 2, nameIndex := 444, descriptorIndex := 97, attributes := #[] }, { accessFlags := 2, nameIndex := 422, descriptorIndex := 97, attributes := #[] }, { accessFlags := 2, nameIndex := 447, descriptorIndex := 97, attributes := #[] }, { accessFlags := 2, nameIndex := 103, descriptorIndex := 104, attributes := #[] }, { accessFlags := 2, nameIndex := 380, descriptorIndex := 104, attributes := #[] }, { accessFlags := 18, nameIndex := 107, descriptorIndex := 71, attributes := #[] }, { accessFlags := 2, nameIndex := 112, descriptorIndex := 113, attributes := #[] }, { accessFlags := 2, nameIndex := 208, descriptorIndex := 193, attributes := #[] }, { accessFlags := 2, nameIndex := 268, descriptorIndex := 97, attributes := #[] }, { accessFlags := 2, nameIndex := 389, descriptorIndex := 97, attributes := #[] }, { accessFlags := 2, nameIndex := 425, descriptorIndex := 126, attributes := #[] }, { accessFlags := 2, nameIndex := 116, descriptorIndex := 97, attributes := #[] }, { accessFlags := 2, nameIndex := 119, descriptorIndex := 97, attributes := #[] }, { accessFlags := 2, nameIndex := 185, descriptorIndex := 126, attributes := #[] }, { accessFlags := 18, nameIndex := 135, descriptorIndex := 136, attributes := #[] }, { accessFlags := 18, nameIndex := 122, descriptorIndex := 64, attributes := #[] }, { accessFlags := 26, nameIndex := 666, descriptorIndex := 97, attributes := #[] }, { accessFlags := 18, nameIndex := 139, descriptorIndex := 104, attributes := #[] }, { accessFlags := 18, nameIndex := 142, descriptorIndex := 104, attributes := #[] }, { accessFlags := 18, nameIndex := 145, descriptorIndex := 104, attributes := #[] }])
  fields := #[{ name := "maxSteps", type := .long, accessFlags := 18, slot := 0, constantValue := 0 }, { name := "steps", type := .long, accessFlags := 2, slot := 1, constantValue := 0 }, { name := "standing", type := .int, accessFlags := 18, slot := 2, constantValue := 0 }, { name := "ATOMICS_IN_ORDER", type := .int, accessFlags := 26, slot := 0, constantValue := 0 }, { name := "STATIC_ON_ANY_THREAD", type := .int, accessFlags := 26, slot := 1, constantValue := 0 }, { name := "LOCKS_IN_ORDER", type := .int, accessFlags := 26, slot := 2, constantValue := 0 }, { name := "tookInOrder", type := .boolean, accessFlags := 2, slot := 3, constantValue := 0 }, { name := "everyLockOrder", type := .boolean, accessFlags := 2, slot := 4, constantValue := 0 }, { name := "passed", type := .boolean, accessFlags := 2, slot := 5, constantValue := 0 }, { name := "everyOrder", type := .boolean, accessFlags := 2, slot := 6, constantValue := 0 }, { name := "ranOnAnyThread", type := .boolean, accessFlags := 2, slot := 7, constantValue := 0 }, { name := "heldAtLoop", type := .boolean, accessFlags := 2, slot := 8, constantValue := 0 }, { name := "anyThreadLoop", type := (.object "com/example/lockstep/lockstep/core/Search$Untried"), accessFlags := 2, slot := 9, constantValue := 0 }, { name := "anyThreadDepth", type := .int, accessFlags := 2, slot := 10, constantValue := 0 }, { name := "passedOnAnyThread", type := (.object "com/example/lockstep/lockstep/core/PassCounts"), accessFlags := 18, slot := 11, constantValue := 0 }, { name := "wentBack", type := (.object "com/example/lockstep/lockstep/core/PassCounts"), accessFlags := 18, slot := 12, constantValue := 0 }, { name := "loopTopSummaries", type := (.object "java/util/Set"), accessFlags := 18, slot := 13, constantValue := 0 }, { name := "exhausted", type := .boolean, accessFlags := 2, slot := 14, constantValue := 0 }, { name := "stopped", type := (.object "com/example/lockstep/lockstep/core/value/CannotDecide"), accessFlags := 2, slot := 15, constantValue := 0 }, { name := "races", type := (.object "com/example/lockstep/lockstep/core/RaceLog"), accessFlags := 18, slot := 16, constantValue := 0 }, { name := "teamSizes", type := (.object "java/util/SortedSet"), accessFlags := 18, slot := 17, constantValue := 0 }, { name := "leagueSizes", type := (.object "java/util/SortedSet"), accessFlags := 18, slot := 18, constantValue := 0 }, { name := "decider", type := (.object "com/example/lockstep/lockstep/core/value/Origin"), accessFlags := 2, slot := 19, constantValue := 0 }, { name := "failing", type := (.object "java/util/Set"), accessFlags := 18, slot := 20, constantValue := 0 }, { name := "everyCallFails", type := .boolean, accessFlags := 2, slot := 21, constantValue := 0 }, { name := "readingEarly", type := (.object "java/util/Set"), accessFlags := 18, slot := 22, constantValue := 0 }, { name := "layouts", type := .boolean, accessFlags := 2, slot := 23, constantValue := 0 }, { name := "besideThreads", type := (.object "java/util/Set"), accessFlags := 18, slot := 24, constantValue := 0 }, { name := "taken", type := (.object "java/util/List"), accessFlags := 18, slot := 25, constantValue := 0 }, { name := "ranBefore", type := (.object "java/util/Map"), accessFlags := 18, slot := 26, constantValue := 0 }, { name := "restart", type := .boolean, accessFlags := 2, slot := 27, constantValue := 0 }, { name := "visited", type := (.object "java/util/Map"), accessFlags := 18, slot := 28, constantValue := 0 }, { name := "loopTops", type := (.object "java/util/Map"), accessFlags := 18, slot := 29, constantValue := 0 }, { name := "passedThrough", type := (.object "java/util/Map"), accessFlags := 18, slot := 30, constantValue := 0 }, { name := "keptDivisions", type := (.object "java/util/Set"), accessFlags := 18, slot := 31, constantValue := 0 }, { name := "LEFT", type := .int, accessFlags := 26, slot := 3, constantValue := 0 }, { name := "graph", type := (.object "com/example/lockstep/lockstep/core/StateGraph"), accessFlags := 18, slot := 32, constantValue := 0 }, { name := "node", type := .int, accessFlags := 2, slot := 33, constantValue := 0 }, { name := "pathTops", type := (.object "java/util/List"), accessFlags := 18, slot := 34, constantValue := 0 }, { name := "rejoining", type := .int, accessFlags := 2, slot := 35, constantValue := 0 }, { name := "rejoiningFrom", type := .int, accessFlags := 2, slot := 36, constantValue := 0 }, { name := "unrecorded", type := .int, accessFlags := 2, slot := 37, constantValue := 0 }, { name := "unrecordedFrom", type := .int, accessFlags := 2, slot := 38, constantValue := 0 }, { name := "interchanging", type := .boolean, accessFlags := 2, slot := 39, constantValue := 0 }, { name := "pruned", type := .boolean, accessFlags := 2, slot := 40, constantValue := 0 }, { name := "modelIds", type := (.object "java/util/Map"), accessFlags := 18, slot := 41, constantValue := 0 }, { name := "points", type := (.array (.object "com/example/lockstep/lockstep/core/ChoicePoint")), accessFlags := 2, slot := 42, constantValue := 0 }, { name := "pending", type := (.object "com/example/lockstep/lockstep/core/Search$Untried"), accessFlags := 2, slot := 43, constantValue := 0 }, { name := "depth", type := .int, accessFlags := 2, slot := 44, constantValue := 0 }, { name := "repeated", type := .int, accessFlags := 2, slot := 45, constantValue := 0 }, { name := "settledSince", type := .long, accessFlags := 2, slot := 46, constantValue := 0 }, { name := "elsewhere", type := .int, accessFlags := 2, slot := 47, constantValue := 0 }, { name := "mainInstruction", type := .int, accessFlags := 2, slot := 48, constantValue := 0 }, { name := "spent", type := .long, accessFlags := 2, slot := 49, constantValue := 0 }, { name := "choosing", type := (.object "java/util/BitSet"), accessFlags := 18, slot := 50, constantValue := 0 }, { name := "saved", type := (.object "java/util/List"), accessFlags := 18, slot := 51, constantValue := 0 }, { name := "LAST_SAVED_KEPT", type := .int, accessFlags := 26, slot := 4, constantValue := 0 }, { name := "confirming", type := .boolean, accessFlags := 18, slot := 52, constantValue := 0 }, { name := "everyRound", type := .boolean, accessFlags := 18, slot := 53, constantValue := 0 }, { name := "everyOrderOfPieces", type := .boolean, accessFlags := 18, slot := 54, constantValue := 0 }]
  methods := #[k2m0, k2m1, k2m2, k2m3, k2m4, k2m5]
  instanceTypes := #[.long, .long, .int, .boolean, .boolean, .boolean, .boolean, .boolean, .boolean, (.object "com/example/lockstep/lockstep/core/Search$Untried"), .int, (.object "com/example/lockstep/lockstep/core/PassCounts"), (.object "com/example/lockstep/lockstep/core/PassCounts"), (.object "java/util/Set"), .boolean, (.object "com/example/lockstep/lockstep/core/value/CannotDecide"), (.object "com/example/lockstep/lockstep/core/RaceLog"), (.object "java/util/SortedSet"), (.object "java/util/SortedSet"), (.object "com/example/lockstep/lockstep/core/value/Origin"), (.object "java/util/Set"), .boolean, (.object "java/util/Set"), .boolean, (.object "java/util/Set"), (.object "java/util/List"), (.object "java/util/Map"), .boolean, (.object "java/util/Map"), (.object "java/util/Map"), (.object "java/util/Map"), (.object "java/util/Set"), (.object "com/example/lockstep/lockstep/core/StateGraph"), .int, (.object "java/util/List"), .int, .int, .int, .int, .boolean, .boolean, (.object "java/util/Map"), (.array (.object "com/example/lockstep/lockstep/core/ChoicePoint")), (.object "com/example/lockstep/lockstep/core/Search$Untried"), .int, .int, .long, .int, .int, .long, (.object "java/util/BitSet"), (.object "java/util/List"), .boolean, .boolean, .boolean]
  staticTypes := #[.int, .int, .int, .int, .int]
  resolved := Array.replicate 791 none
  statics := none }

def pool3 : Array CpInfo := pool [(1, .class_ 2), (0, u "java/lang/Cloneable"), (0, .class_ 4), (0, u "java/lang/Object")] 2

/-- java/lang/Cloneable -/
def k3 : Class := { plain "java/lang/Cloneable" (some 0) with
  accessFlags := 1537
  interfaces := #[]
  cf := some (fileOf pool3 1 #[] #[] 1537 3 #[] #[])
  fields := #[]
  methods := #[]
  instanceTypes := #[]
  staticTypes := #[]
  resolved := Array.replicate 7 none
  statics := none }

def pool4 : Array CpInfo := pool [(1, .class_ 2), (0, u "java/io/Serializable"), (0, .class_ 4), (0, u "java/lang/Object")] 2

/-- java/io/Serializable -/
def k4 : Class := { plain "java/io/Serializable" (some 0) with
  accessFlags := 1537
  interfaces := #[]
  cf := some (fileOf pool4 1 #[] #[] 1537 3 #[] #[])
  fields := #[]
  methods := #[]
  instanceTypes := #[]
  staticTypes := #[]
  resolved := Array.replicate 7 none
  statics := none }

def pool5 : Array CpInfo := pool [(1, .class_ 2), (0, u "java/util/BitSet"), (2, u "$assertionsDisabled"), (0, u "Z"), (0, .fieldref 1 8), (0, .nameAndType 9 10), (0, u "wordsInUse"), (0, u "I"), (0, .fieldref 1 12), (0, .nameAndType 13 14), (0, u "words"), (0, u "[J"), (3, .nameAndType 19 20), (0, u "<init>"), (0, u "()V"), (0, .methodref 22 18), (0, .class_ 23), (0, u "java/lang/Object"), (0, .fieldref 1 25), (0, .nameAndType 26 6), (0, u "sizeIsSticky"), (0, .methodref 1 28), (0, .nameAndType 29 30), (0, u "initWords"), (0, u "(I)V"), (21, .methodref 1 53), (0, .nameAndType 54 55), (0, u "wordIndex"), (0, u "(I)I"), (213, .class_ 270), (0, u "java/util/BitSet$1BitSetSpliterator"), (22, u "serialPersistentFields"), (0, u "[Ljava/io/ObjectStreamField;"), (0, .class_ 296), (0, u "java/lang/Cloneable"), (0, .class_ 298), (0, u "java/io/Serializable"), (0, u "ADDRESS_BITS_PER_WORD"), (2, u "BITS_PER_WORD"), (1, u "BIT_INDEX_MASK"), (1, u "WORD_MASK"), (0, u "J"), (0, u "serialVersionUID")] 108

def k5c0 : Code := { maxStack := 2, maxLocals := 1, code := jdk_92_method_1_code, exceptionTable := #[], attributes := #[] }
def k5m0 : Method := { name := "wordIndex", desc := "(I)I", sig := { parameters := [.int], returnType := some .int }, accessFlags := 10, code := some k5c0 }
def k5c1 : Code := { maxStack := 2, maxLocals := 1, code := jdk_92_method_4_code, exceptionTable := #[], attributes := #[] }
def k5m1 : Method := { name := "<init>", desc := "()V", sig := { parameters := [], returnType := none }, accessFlags := 1, code := some k5c1 }
def k5c2 : Code := { maxStack := 3, maxLocals := 2, code := jdk_92_method_6_code, exceptionTable := #[], attributes := #[] }
def k5m2 : Method := { name := "initWords", desc := "(I)V", sig := { parameters := [.int], returnType := none }, accessFlags := 2, code := some k5c2 }
/-- java/util/BitSet -/
def k5 : Class := { plain "java/util/BitSet" (some 0) with
  accessFlags := 33
  interfaces := #[3, 4]
  cf := some (fileOf pool5 1 #[.nestMembers #[269]] #[{ accessFlags := 10, nameIndex := 54, descriptorIndex := 55, attributes := #[] }, { accessFlags := 1, nameIndex := 19, descriptorIndex := 20, attributes := #[] }, { accessFlags := 2, nameIndex := 29, descriptorIndex := 30, attributes := #[] }] 33 22 #[295, 297] #[{ accessFlags := 26, nameIndex := 299, descriptorIndex := 10, attributes := #[] }, { accessFlags := 26, nameIndex := 302, descriptorIndex := 10, attributes := #[] }, { accessFlags := 26, nameIndex := 304, descriptorIndex := 10, attributes := #[] }, { accessFlags := 26, nameIndex := 306, descriptorIndex := 307, attributes := #[] }, { accessFlags := 26, nameIndex := 293, descriptorIndex := 294, attributes := #[] }, { accessFlags := 2, nameIndex := 13, descriptorIndex := 14, attributes := #[] }, { accessFlags := 130, nameIndex := 9, descriptorIndex := 10, attributes := #[] }, { accessFlags := 130, nameIndex := 26, descriptorIndex := 6, attributes := #[] }, { accessFlags := 26, nameIndex := 308, descriptorIndex := 307, attributes := #[] }, { accessFlags := 4120, nameIndex := 5, descriptorIndex := 6, attributes := #[] }])
  fields := #[{ name := "ADDRESS_BITS_PER_WORD", type := .int, accessFlags := 26, slot := 0, constantValue := 0 }, { name := "BITS_PER_WORD", type := .int, accessFlags := 26, slot := 1, constantValue := 0 }, { name := "BIT_INDEX_MASK", type := .int, accessFlags := 26, slot := 2, constantValue := 0 }, { name := "WORD_MASK", type := .long, accessFlags := 26, slot := 3, constantValue := 0 }, { name := "serialPersistentFields", type := (.array (.object "java/io/ObjectStreamField")), accessFlags := 26, slot := 4, constantValue := 0 }, { name := "words", type := (.array .long), accessFlags := 2, slot := 0, constantValue := 0 }, { name := "wordsInUse", type := .int, accessFlags := 130, slot := 1, constantValue := 0 }, { name := "sizeIsSticky", type := .boolean, accessFlags := 130, slot := 2, constantValue := 0 }, { name := "serialVersionUID", type := .long, accessFlags := 26, slot := 5, constantValue := 0 }, { name := "$assertionsDisabled", type := .boolean, accessFlags := 4120, slot := 6, constantValue := 0 }]
  methods := #[k5m0, k5m1, k5m2]
  instanceTypes := #[(.array .long), .int, .boolean]
  staticTypes := #[.int, .int, .int, .long, (.array (.object "java/io/ObjectStreamField")), .long, .boolean]
  resolved := Array.replicate 417 none
  statics := none }

def pool6 : Array CpInfo := pool [(1, .methodref 2 3), (0, .class_ 4), (0, .nameAndType 5 6), (0, u "java/lang/Object"), (0, u "<init>"), (0, u "()V"), (0, .class_ 8), (0, u "java/util/HashMap"), (0, .methodref 7 3), (0, .fieldref 11 12), (0, .class_ 13), (0, .nameAndType 14 15), (0, u "com/example/lockstep/lockstep/core/PassCounts"), (0, u "counts"), (0, u "Ljava/util/Map;"), (0, .fieldref 11 17), (0, .nameAndType 18 19), (0, u "last"), (0, u "Lcom/example/lockstep/lockstep/core/value/SourceLocation;"), (4, .fieldref 11 25), (0, .nameAndType 26 27), (0, u "lastCount"), (0, u "[J"), (1, .class_ 31), (1, u "java/util/Map"), (27, .interfaceMethodref 29 60), (0, .nameAndType 61 6), (0, u "clear")] 11

def k6c0 : Code := { maxStack := 3, maxLocals := 1, code := prog_189_method_1_code, exceptionTable := #[], attributes := #[] }
def k6m0 : Method := { name := "<init>", desc := "()V", sig := { parameters := [], returnType := none }, accessFlags := 0, code := some k6c0 }
def k6c1 : Code := { maxStack := 2, maxLocals := 1, code := prog_189_method_5_code, exceptionTable := #[], attributes := #[] }
def k6m1 : Method := { name := "clear", desc := "()V", sig := { parameters := [], returnType := none }, accessFlags := 0, code := some k6c1 }
/-- com/example/lockstep/lockstep/core/PassCounts -/
def k6 : Class := { plain "com/example/lockstep/lockstep/core/PassCounts" (some 0) with
  accessFlags := 48
  interfaces := #[]
  cf := some (fileOf pool6 11 #[] #[{ accessFlags := 0, nameIndex := 5, descriptorIndex := 6, attributes := #[] }, { accessFlags := 0, nameIndex := 61, descriptorIndex := 6, attributes := #[] }] 48 2 #[] #[{ accessFlags := 18, nameIndex := 14, descriptorIndex := 15, attributes := #[] }, { accessFlags := 2, nameIndex := 18, descriptorIndex := 19, attributes := #[] }, { accessFlags := 2, nameIndex := 26, descriptorIndex := 27, attributes := #[] }])
  fields := #[{ name := "counts", type := (.object "java/util/Map"), accessFlags := 18, slot := 0, constantValue := 0 }, { name := "last", type := (.object "com/example/lockstep/lockstep/core/value/SourceLocation"), accessFlags := 2, slot := 1, constantValue := 0 }, { name := "lastCount", type := (.array .long), accessFlags := 2, slot := 2, constantValue := 0 }]
  methods := #[k6m0, k6m1]
  instanceTypes := #[(.object "java/util/Map"), (.object "com/example/lockstep/lockstep/core/value/SourceLocation"), (.array .long)]
  staticTypes := #[]
  resolved := Array.replicate 73 none
  statics := none }

def pool7 : Array CpInfo := pool [(2, .class_ 4), (1, u "java/util/Map"), (31, .class_ 37), (0, u "java/util/Map$Entry"), (55, .class_ 94), (0, u "java/lang/Object"), (34, u "clear"), (0, u "()V")] 132

def k7m0 : Method := { name := "clear", desc := "()V", sig := { parameters := [], returnType := none }, accessFlags := 1025, code := none }
/-- java/util/Map -/
def k7 : Class := { plain "java/util/Map" (some 0) with
  accessFlags := 1537
  interfaces := #[]
  cf := some (fileOf pool7 2 #[.nestMembers #[36]] #[{ accessFlags := 1025, nameIndex := 129, descriptorIndex := 130, attributes := #[] }] 1537 93 #[] #[])
  fields := #[]
  methods := #[k7m0]
  instanceTypes := #[]
  staticTypes := #[]
  resolved := Array.replicate 263 none
  statics := none }

def pool8 : Array CpInfo := pool [(1, .methodref 2 3), (0, .class_ 4), (0, .nameAndType 5 6), (0, u "java/lang/Object"), (0, u "<init>"), (0, u "()V"), (1, .class_ 10), (1, u "java/util/AbstractMap"), (42, .class_ 54), (0, u "java/util/Map"), (9, u "keySet"), (0, u "Ljava/util/Set;"), (0, .class_ 67), (0, u "java/util/AbstractMap$1"), (5, u "values"), (0, u "Ljava/util/Collection;"), (0, .class_ 76), (0, u "java/util/AbstractMap$2"), (104, .class_ 182), (0, u "java/util/AbstractMap$ViewCollection"), (0, .class_ 184), (0, u "java/util/AbstractMap$SimpleImmutableEntry"), (0, .class_ 186), (0, u "java/util/AbstractMap$SimpleEntry"), (0, .class_ 188), (0, u "java/util/AbstractMap$2$1"), (0, .class_ 190), (0, u "java/util/AbstractMap$1$1")] 5

def k8c0 : Code := { maxStack := 1, maxLocals := 1, code := jdk_71_method_1_code, exceptionTable := #[], attributes := #[] }
def k8m0 : Method := { name := "<init>", desc := "()V", sig := { parameters := [], returnType := none }, accessFlags := 4, code := some k8c0 }
/-- java/util/AbstractMap -/
def k8 : Class := { plain "java/util/AbstractMap" (some 0) with
  accessFlags := 1057
  interfaces := #[7]
  cf := some (fileOf pool8 8 #[.nestMembers #[181, 183, 185, 75, 187, 66, 189]] #[{ accessFlags := 4, nameIndex := 5, descriptorIndex := 6, attributes := #[] }] 1057 2 #[53] #[{ accessFlags := 128, nameIndex := 64, descriptorIndex := 65, attributes := #[] }, { accessFlags := 128, nameIndex := 73, descriptorIndex := 74, attributes := #[] }])
  fields := #[{ name := "keySet", type := (.object "java/util/Set"), accessFlags := 128, slot := 0, constantValue := 0 }, { name := "values", type := (.object "java/util/Collection"), accessFlags := 128, slot := 1, constantValue := 0 }]
  methods := #[k8m0]
  instanceTypes := #[(.object "java/util/Set"), (.object "java/util/Collection")]
  staticTypes := #[]
  resolved := Array.replicate 196 none
  statics := none }

def pool9 : Array CpInfo := pool [(40, .class_ 41), (0, u "java/util/HashMap"), (1, .methodref 44 45), (0, .class_ 46), (0, .nameAndType 47 48), (0, u "java/util/AbstractMap"), (0, u "<init>"), (0, u "()V"), (32, .fieldref 40 82), (0, .nameAndType 83 84), (0, u "loadFactor"), (0, u "F"), (5, u "threshold"), (0, u "I"), (0, .float 1061158912), (8, .class_ 103), (1, u "java/util/Map"), (0, u "size"), (0, .fieldref 40 106), (0, .nameAndType 107 108), (0, u "table"), (0, u "[Ljava/util/HashMap$Node;"), (14, u "entrySet"), (39, .class_ 165), (1, u "java/util/HashMap$Node"), (14, .class_ 181), (0, u "java/util/HashMap$TreeNode"), (20, .fieldref 40 203), (0, .nameAndType 204 91), (0, u "modCount"), (37, u "Ljava/util/Set;"), (0, .class_ 244), (0, u "java/util/HashMap$KeySet"), (18, .class_ 264), (0, u "java/util/HashMap$Values"), (3, .class_ 269), (0, u "java/util/HashMap$EntrySet"), (76, .class_ 348), (1, u "java/util/HashMap$UnsafeHolder"), (43, .class_ 393), (0, u "java/lang/Cloneable"), (0, .class_ 395), (0, u "java/io/Serializable"), (0, u "serialVersionUID"), (0, u "J"), (3, u "DEFAULT_INITIAL_CAPACITY"), (1, u "MAXIMUM_CAPACITY"), (0, u "DEFAULT_LOAD_FACTOR"), (0, u "TREEIFY_THRESHOLD"), (1, u "UNTREEIFY_THRESHOLD"), (1, u "MIN_TREEIFY_CAPACITY"), (92, u "clear"), (93, .class_ 597), (0, u "java/util/HashMap$EntrySpliterator"), (0, .class_ 599), (0, u "java/util/HashMap$ValueSpliterator"), (0, .class_ 601), (0, u "java/util/HashMap$KeySpliterator"), (0, .class_ 603), (0, u "java/util/HashMap$HashMapSpliterator"), (0, .class_ 605), (0, u "java/util/HashMap$EntryIterator"), (0, .class_ 607), (0, u "java/util/HashMap$ValueIterator"), (0, .class_ 609), (0, u "java/util/HashMap$KeyIterator"), (0, .class_ 611), (0, u "java/util/HashMap$HashIterator")] 17

def k9c0 : Code := { maxStack := 2, maxLocals := 1, code := jdk_69_method_7_code, exceptionTable := #[], attributes := #[] }
def k9m0 : Method := { name := "<init>", desc := "()V", sig := { parameters := [], returnType := none }, accessFlags := 1, code := some k9c0 }
def k9c1 : Code := { maxStack := 3, maxLocals := 3, code := jdk_69_method_22_code, exceptionTable := #[], attributes := #[] }
def k9m1 : Method := { name := "clear", desc := "()V", sig := { parameters := [], returnType := none }, accessFlags := 1, code := some k9c1 }
/-- java/util/HashMap -/
def k9 : Class := { plain "java/util/HashMap" (some 8) with
  accessFlags := 33
  interfaces := #[7, 3, 4]
  cf := some (fileOf pool9 40 #[.nestMembers #[180, 596, 598, 600, 602, 604, 606, 608, 610, 346, 268, 263, 243, 163]] #[{ accessFlags := 1, nameIndex := 47, descriptorIndex := 48, attributes := #[] }, { accessFlags := 1, nameIndex := 502, descriptorIndex := 48, attributes := #[] }] 33 44 #[101, 392, 394] #[{ accessFlags := 26, nameIndex := 396, descriptorIndex := 397, attributes := #[] }, { accessFlags := 24, nameIndex := 401, descriptorIndex := 91, attributes := #[] }, { accessFlags := 24, nameIndex := 403, descriptorIndex := 91, attributes := #[] }, { accessFlags := 24, nameIndex := 404, descriptorIndex := 84, attributes := #[] }, { accessFlags := 24, nameIndex := 405, descriptorIndex := 91, attributes := #[] }, { accessFlags := 24, nameIndex := 407, descriptorIndex := 91, attributes := #[] }, { accessFlags := 24, nameIndex := 409, descriptorIndex := 91, attributes := #[] }, { accessFlags := 128, nameIndex := 107, descriptorIndex := 108, attributes := #[] }, { accessFlags := 128, nameIndex := 123, descriptorIndex := 242, attributes := #[] }, { accessFlags := 128, nameIndex := 104, descriptorIndex := 91, attributes := #[] }, { accessFlags := 128, nameIndex := 204, descriptorIndex := 91, attributes := #[] }, { accessFlags := 0, nameIndex := 90, descriptorIndex := 91, attributes := #[] }, { accessFlags := 16, nameIndex := 83, descriptorIndex := 84, attributes := #[] }])
  fields := #[{ name := "serialVersionUID", type := .long, accessFlags := 26, slot := 0, constantValue := 0 }, { name := "DEFAULT_INITIAL_CAPACITY", type := .int, accessFlags := 24, slot := 1, constantValue := 0 }, { name := "MAXIMUM_CAPACITY", type := .int, accessFlags := 24, slot := 2, constantValue := 0 }, { name := "DEFAULT_LOAD_FACTOR", type := .float, accessFlags := 24, slot := 3, constantValue := 0 }, { name := "TREEIFY_THRESHOLD", type := .int, accessFlags := 24, slot := 4, constantValue := 0 }, { name := "UNTREEIFY_THRESHOLD", type := .int, accessFlags := 24, slot := 5, constantValue := 0 }, { name := "MIN_TREEIFY_CAPACITY", type := .int, accessFlags := 24, slot := 6, constantValue := 0 }, { name := "table", type := (.array (.object "java/util/HashMap$Node")), accessFlags := 128, slot := 2, constantValue := 0 }, { name := "entrySet", type := (.object "java/util/Set"), accessFlags := 128, slot := 3, constantValue := 0 }, { name := "size", type := .int, accessFlags := 128, slot := 4, constantValue := 0 }, { name := "modCount", type := .int, accessFlags := 128, slot := 5, constantValue := 0 }, { name := "threshold", type := .int, accessFlags := 0, slot := 6, constantValue := 0 }, { name := "loadFactor", type := .float, accessFlags := 16, slot := 7, constantValue := 0 }]
  methods := #[k9m0, k9m1]
  instanceTypes := #[(.object "java/util/Set"), (.object "java/util/Collection"), (.array (.object "java/util/HashMap$Node")), (.object "java/util/Set"), .int, .int, .int, .float]
  staticTypes := #[.long, .int, .int, .float, .int, .int, .int]
  resolved := Array.replicate 629 none
  statics := none }

def pool10 : Array CpInfo := pool [(8, .class_ 10), (1, u "java/lang/Iterable"), (24, .class_ 36), (0, u "java/lang/Object")] 25

/-- java/lang/Iterable -/
def k10 : Class := { plain "java/lang/Iterable" (some 0) with
  accessFlags := 1537
  interfaces := #[]
  cf := some (fileOf pool10 8 #[] #[] 1537 35 #[] #[])
  fields := #[]
  methods := #[]
  instanceTypes := #[]
  staticTypes := #[]
  resolved := Array.replicate 62 none
  statics := none }

def pool11 : Array CpInfo := pool [(10, .class_ 12), (1, u "java/util/Collection"), (0, u "toArray"), (46, .class_ 61), (0, u "java/lang/Object"), (0, .class_ 63), (0, u "java/lang/Iterable"), (6, u "()[Ljava/lang/Object;")] 44

def k11m0 : Method := { name := "toArray", desc := "()[Ljava/lang/Object;", sig := { parameters := [], returnType := some (.array (.object "java/lang/Object")) }, accessFlags := 1025, code := none }
/-- java/util/Collection -/
def k11 : Class := { plain "java/util/Collection" (some 0) with
  accessFlags := 1537
  interfaces := #[10]
  cf := some (fileOf pool11 10 #[] #[{ accessFlags := 1025, nameIndex := 13, descriptorIndex := 70, attributes := #[] }] 1537 60 #[62] #[])
  fields := #[]
  methods := #[k11m0]
  instanceTypes := #[]
  staticTypes := #[]
  resolved := Array.replicate 115 none
  statics := none }

def pool12 : Array CpInfo := pool [(1, .methodref 2 3), (0, .class_ 4), (0, .nameAndType 5 6), (0, u "java/lang/Object"), (0, u "<init>"), (0, u "()V"), (0, .methodref 8 9), (0, .class_ 10), (0, .nameAndType 11 12), (0, u "java/util/AbstractCollection"), (0, u "size"), (0, u "()I"), (0, .methodref 8 14), (0, .nameAndType 15 16), (0, u "iterator"), (0, u "()Ljava/util/Iterator;"), (0, .interfaceMethodref 18 19), (0, .class_ 20), (0, .nameAndType 21 22), (0, u "java/util/Iterator"), (0, u "hasNext"), (0, u "()Z"), (0, .interfaceMethodref 18 24), (0, .nameAndType 25 26), (0, u "next"), (0, u "()Ljava/lang/Object;"), (50, .class_ 78), (0, u "java/util/Collection"), (47, u "toArray"), (0, u "()[Ljava/lang/Object;")] 32

def k12c0 : Code := { maxStack := 1, maxLocals := 1, code := jdk_22_method_1_code, exceptionTable := #[], attributes := #[] }
def k12m0 : Method := { name := "<init>", desc := "()V", sig := { parameters := [], returnType := none }, accessFlags := 4, code := some k12c0 }
def k12m1 : Method := { name := "iterator", desc := "()Ljava/util/Iterator;", sig := { parameters := [], returnType := some (.object "java/util/Iterator") }, accessFlags := 1025, code := none }
def k12m2 : Method := { name := "size", desc := "()I", sig := { parameters := [], returnType := some .int }, accessFlags := 1025, code := none }
def k12c3 : Code := { maxStack := 3, maxLocals := 4, code := jdk_22_method_6_code, exceptionTable := #[], attributes := #[] }
def k12m3 : Method := { name := "toArray", desc := "()[Ljava/lang/Object;", sig := { parameters := [], returnType := some (.array (.object "java/lang/Object")) }, accessFlags := 1, code := some k12c3 }
/-- java/util/AbstractCollection -/
def k12 : Class := { plain "java/util/AbstractCollection" (some 0) with
  accessFlags := 1057
  interfaces := #[11]
  cf := some (fileOf pool12 8 #[] #[{ accessFlags := 4, nameIndex := 5, descriptorIndex := 6, attributes := #[] }, { accessFlags := 1025, nameIndex := 15, descriptorIndex := 16, attributes := #[] }, { accessFlags := 1025, nameIndex := 11, descriptorIndex := 12, attributes := #[] }, { accessFlags := 1, nameIndex := 126, descriptorIndex := 127, attributes := #[] }] 1057 2 #[77] #[])
  fields := #[]
  methods := #[k12m0, k12m1, k12m2, k12m3]
  instanceTypes := #[]
  staticTypes := #[]
  resolved := Array.replicate 160 none
  statics := none }

def pool13 : Array CpInfo := pool [(26, .class_ 27), (0, u "java/lang/Object"), (5, .class_ 34), (0, u "java/util/Set"), (1, .class_ 38), (1, u "java/util/Collection"), (38, u "clear"), (0, u "()V")] 65

def k13m0 : Method := { name := "clear", desc := "()V", sig := { parameters := [], returnType := none }, accessFlags := 1025, code := none }
/-- java/util/Set -/
def k13 : Class := { plain "java/util/Set" (some 0) with
  accessFlags := 1537
  interfaces := #[11]
  cf := some (fileOf pool13 33 #[] #[{ accessFlags := 1025, nameIndex := 77, descriptorIndex := 78, attributes := #[] }] 1537 26 #[36] #[])
  fields := #[]
  methods := #[k13m0]
  instanceTypes := #[]
  staticTypes := #[]
  resolved := Array.replicate 144 none
  statics := none }

def pool14 : Array CpInfo := pool [(1, .methodref 2 3), (0, .class_ 4), (0, .nameAndType 5 6), (0, u "java/util/AbstractCollection"), (0, u "<init>"), (0, u "()V"), (0, .class_ 8), (0, u "java/util/Set"), (7, .class_ 17), (0, u "java/util/AbstractSet")] 78

def k14c0 : Code := { maxStack := 1, maxLocals := 1, code := jdk_91_method_1_code, exceptionTable := #[], attributes := #[] }
def k14m0 : Method := { name := "<init>", desc := "()V", sig := { parameters := [], returnType := none }, accessFlags := 4, code := some k14c0 }
/-- java/util/AbstractSet -/
def k14 : Class := { plain "java/util/AbstractSet" (some 12) with
  accessFlags := 1057
  interfaces := #[13]
  cf := some (fileOf pool14 16 #[] #[{ accessFlags := 4, nameIndex := 5, descriptorIndex := 6, attributes := #[] }] 1057 2 #[7] #[])
  fields := #[]
  methods := #[k14m0]
  instanceTypes := #[]
  staticTypes := #[]
  resolved := Array.replicate 96 none
  statics := none }

def pool15 : Array CpInfo := pool [(1, .methodref 2 3), (0, .class_ 4), (0, .nameAndType 5 6), (0, u "java/util/AbstractSet"), (0, u "<init>"), (0, u "()V"), (0, .class_ 8), (0, u "java/util/HashMap"), (0, .methodref 7 3), (0, .fieldref 11 12), (0, .class_ 13), (0, .nameAndType 14 15), (0, u "java/util/HashSet"), (0, u "map"), (0, u "Ljava/util/HashMap;"), (34, .class_ 52), (1, u "java/util/Set"), (13, u "PRESENT"), (0, u "Ljava/lang/Object;"), (8, .methodref 7 77), (0, .nameAndType 78 6), (0, u "clear"), (147, .class_ 227), (0, u "java/lang/Cloneable"), (0, .class_ 229), (0, u "java/io/Serializable"), (0, u "serialVersionUID"), (0, u "J")] 71

def k15c0 : Code := { maxStack := 3, maxLocals := 1, code := jdk_93_method_1_code, exceptionTable := #[], attributes := #[] }
def k15m0 : Method := { name := "<init>", desc := "()V", sig := { parameters := [], returnType := none }, accessFlags := 1, code := some k15c0 }
def k15c1 : Code := { maxStack := 1, maxLocals := 1, code := jdk_93_method_12_code, exceptionTable := #[], attributes := #[] }
def k15m1 : Method := { name := "clear", desc := "()V", sig := { parameters := [], returnType := none }, accessFlags := 1, code := some k15c1 }
/-- java/util/HashSet -/
def k15 : Class := { plain "java/util/HashSet" (some 14) with
  accessFlags := 33
  interfaces := #[13, 3, 4]
  cf := some (fileOf pool15 11 #[] #[{ accessFlags := 1, nameIndex := 5, descriptorIndex := 6, attributes := #[] }, { accessFlags := 1, nameIndex := 78, descriptorIndex := 6, attributes := #[] }] 33 2 #[50, 226, 228] #[{ accessFlags := 24, nameIndex := 230, descriptorIndex := 231, attributes := #[] }, { accessFlags := 128, nameIndex := 14, descriptorIndex := 15, attributes := #[] }, { accessFlags := 24, nameIndex := 66, descriptorIndex := 67, attributes := #[] }])
  fields := #[{ name := "serialVersionUID", type := .long, accessFlags := 24, slot := 0, constantValue := 0 }, { name := "map", type := (.object "java/util/HashMap"), accessFlags := 128, slot := 0, constantValue := 0 }, { name := "PRESENT", type := (.object "java/lang/Object"), accessFlags := 24, slot := 1, constantValue := 0 }]
  methods := #[k15m0, k15m1]
  instanceTypes := #[(.object "java/util/HashMap")]
  staticTypes := #[.long, (.object "java/lang/Object")]
  resolved := Array.replicate 303 none
  statics := none }

def pool16 : Array CpInfo := pool [(1, .methodref 2 3), (0, .class_ 4), (0, .nameAndType 5 6), (0, u "java/lang/Object"), (0, u "<init>"), (0, u "()V"), (0, .class_ 8), (0, u "java/util/IdentityHashMap"), (0, .methodref 7 3), (0, .fieldref 11 12), (0, .class_ 13), (0, .nameAndType 14 15), (0, u "com/example/lockstep/lockstep/core/RaceLog"), (0, u "pairs"), (0, u "Ljava/util/Map;"), (0, .fieldref 11 17), (0, .nameAndType 18 15), (0, u "provisionalPairs"), (2, u "met"), (0, u "J"), (12, u "provisional"), (0, u "Z")] 79

def k16c0 : Code := { maxStack := 3, maxLocals := 1, code := prog_198_method_1_code, exceptionTable := #[], attributes := #[] }
def k16m0 : Method := { name := "<init>", desc := "()V", sig := { parameters := [], returnType := none }, accessFlags := 0, code := some k16c0 }
/-- com/example/lockstep/lockstep/core/RaceLog -/
def k16 : Class := { plain "com/example/lockstep/lockstep/core/RaceLog" (some 0) with
  accessFlags := 48
  interfaces := #[]
  cf := some (fileOf pool16 11 #[] #[{ accessFlags := 0, nameIndex := 5, descriptorIndex := 6, attributes := #[] }] 48 2 #[] #[{ accessFlags := 18, nameIndex := 14, descriptorIndex := 15, attributes := #[] }, { accessFlags := 18, nameIndex := 18, descriptorIndex := 15, attributes := #[] }, { accessFlags := 2, nameIndex := 35, descriptorIndex := 36, attributes := #[] }, { accessFlags := 2, nameIndex := 21, descriptorIndex := 22, attributes := #[] }])
  fields := #[{ name := "pairs", type := (.object "java/util/Map"), accessFlags := 18, slot := 0, constantValue := 0 }, { name := "provisionalPairs", type := (.object "java/util/Map"), accessFlags := 18, slot := 1, constantValue := 0 }, { name := "provisional", type := .boolean, accessFlags := 2, slot := 2, constantValue := 0 }, { name := "met", type := .long, accessFlags := 2, slot := 3, constantValue := 0 }]
  methods := #[k16m0]
  instanceTypes := #[(.object "java/util/Map"), (.object "java/util/Map"), .boolean, .long]
  staticTypes := #[]
  resolved := Array.replicate 116 none
  statics := none }

def pool17 : Array CpInfo := pool [(2, .class_ 4), (1, u "java/util/IdentityHashMap"), (0, u "NULL_KEY"), (0, u "Ljava/lang/Object;"), (0, .methodref 8 9), (0, .class_ 10), (0, .nameAndType 11 12), (0, u "java/util/AbstractMap"), (0, u "<init>"), (0, u "()V"), (0, .methodref 2 14), (0, .nameAndType 15 16), (0, u "init"), (0, u "(I)V"), (32, .class_ 50), (0, u "java/lang/Object"), (0, .fieldref 2 52), (0, .nameAndType 53 54), (0, u "table"), (0, u "[Ljava/lang/Object;"), (1, .class_ 58), (1, u "java/util/Map"), (0, u "size"), (11, u "I"), (24, u "modCount"), (9, u "entrySet"), (50, u "Ljava/util/Set;"), (12, .class_ 171), (0, u "java/util/IdentityHashMap$KeySet"), (7, .class_ 180), (0, u "java/util/IdentityHashMap$Values"), (1, .class_ 183), (0, u "java/util/IdentityHashMap$EntrySet"), (69, .class_ 254), (0, u "java/io/Serializable"), (0, .class_ 256), (0, u "java/lang/Cloneable"), (0, u "DEFAULT_CAPACITY"), (2, u "MINIMUM_CAPACITY"), (1, u "MAXIMUM_CAPACITY"), (2, u "serialVersionUID"), (0, u "J"), (102, .class_ 370), (0, u "java/util/IdentityHashMap$EntrySpliterator"), (0, .class_ 372), (0, u "java/util/IdentityHashMap$ValueSpliterator"), (0, .class_ 374), (0, u "java/util/IdentityHashMap$KeySpliterator"), (0, .class_ 376), (0, u "java/util/IdentityHashMap$IdentityHashMapSpliterator"), (0, .class_ 378), (0, u "java/util/IdentityHashMap$EntryIterator"), (0, .class_ 380), (0, u "java/util/IdentityHashMap$EntryIterator$Entry"), (0, .class_ 382), (0, u "java/util/IdentityHashMap$ValueIterator"), (0, .class_ 384), (0, u "java/util/IdentityHashMap$KeyIterator"), (0, .class_ 386), (0, u "java/util/IdentityHashMap$IdentityHashMapIterator")] 16

def k17c0 : Code := { maxStack := 2, maxLocals := 1, code := jdk_2581_method_3_code, exceptionTable := #[], attributes := #[] }
def k17m0 : Method := { name := "<init>", desc := "()V", sig := { parameters := [], returnType := none }, accessFlags := 1, code := some k17c0 }
def k17c1 : Code := { maxStack := 3, maxLocals := 2, code := jdk_2581_method_6_code, exceptionTable := #[], attributes := #[] }
def k17m1 : Method := { name := "init", desc := "(I)V", sig := { parameters := [.int], returnType := none }, accessFlags := 2, code := some k17c1 }
/-- java/util/IdentityHashMap -/
def k17 : Class := { plain "java/util/IdentityHashMap" (some 8) with
  accessFlags := 33
  interfaces := #[7, 4, 3]
  cf := some (fileOf pool17 2 #[.nestMembers #[369, 371, 373, 375, 182, 179, 170, 377, 379, 381, 383, 385]] #[{ accessFlags := 1, nameIndex := 11, descriptorIndex := 12, attributes := #[] }, { accessFlags := 2, nameIndex := 15, descriptorIndex := 16, attributes := #[] }] 33 8 #[56, 253, 255] #[{ accessFlags := 26, nameIndex := 257, descriptorIndex := 71, attributes := #[] }, { accessFlags := 26, nameIndex := 260, descriptorIndex := 71, attributes := #[] }, { accessFlags := 26, nameIndex := 262, descriptorIndex := 71, attributes := #[] }, { accessFlags := 128, nameIndex := 53, descriptorIndex := 54, attributes := #[] }, { accessFlags := 0, nameIndex := 59, descriptorIndex := 71, attributes := #[] }, { accessFlags := 128, nameIndex := 96, descriptorIndex := 71, attributes := #[] }, { accessFlags := 24, nameIndex := 5, descriptorIndex := 6, attributes := #[] }, { accessFlags := 130, nameIndex := 106, descriptorIndex := 157, attributes := #[] }, { accessFlags := 26, nameIndex := 265, descriptorIndex := 266, attributes := #[] }])
  fields := #[{ name := "DEFAULT_CAPACITY", type := .int, accessFlags := 26, slot := 0, constantValue := 0 }, { name := "MINIMUM_CAPACITY", type := .int, accessFlags := 26, slot := 1, constantValue := 0 }, { name := "MAXIMUM_CAPACITY", type := .int, accessFlags := 26, slot := 2, constantValue := 0 }, { name := "table", type := (.array (.object "java/lang/Object")), accessFlags := 128, slot := 2, constantValue := 0 }, { name := "size", type := .int, accessFlags := 0, slot := 3, constantValue := 0 }, { name := "modCount", type := .int, accessFlags := 128, slot := 4, constantValue := 0 }, { name := "NULL_KEY", type := (.object "java/lang/Object"), accessFlags := 24, slot := 3, constantValue := 0 }, { name := "entrySet", type := (.object "java/util/Set"), accessFlags := 130, slot := 5, constantValue := 0 }, { name := "serialVersionUID", type := .long, accessFlags := 26, slot := 4, constantValue := 0 }]
  methods := #[k17m0, k17m1]
  instanceTypes := #[(.object "java/util/Set"), (.object "java/util/Collection"), (.array (.object "java/lang/Object")), .int, .int, (.object "java/util/Set")]
  staticTypes := #[.int, .int, .int, (.object "java/lang/Object"), .long]
  resolved := Array.replicate 403 none
  statics := none }

def pool18 : Array CpInfo := pool [(8, .class_ 10), (1, u "java/util/SequencedCollection"), (15, .class_ 27), (0, u "java/lang/Object"), (0, .class_ 29), (0, u "java/util/Collection")] 27

/-- java/util/SequencedCollection -/
def k18 : Class := { plain "java/util/SequencedCollection" (some 0) with
  accessFlags := 1537
  interfaces := #[11]
  cf := some (fileOf pool18 8 #[] #[] 1537 26 #[28] #[])
  fields := #[]
  methods := #[]
  instanceTypes := #[]
  staticTypes := #[]
  resolved := Array.replicate 57 none
  statics := none }

def pool19 : Array CpInfo := pool [(2, .class_ 4), (1, u "java/util/SequencedSet"), (2, .class_ 8), (0, u "java/lang/Object"), (0, .class_ 10), (0, u "java/util/SequencedCollection"), (0, .class_ 12), (0, u "java/util/Set")] 13

/-- java/util/SequencedSet -/
def k19 : Class := { plain "java/util/SequencedSet" (some 0) with
  accessFlags := 1537
  interfaces := #[18, 13]
  cf := some (fileOf pool19 2 #[] #[] 1537 7 #[9, 11] #[])
  fields := #[]
  methods := #[]
  instanceTypes := #[]
  staticTypes := #[]
  resolved := Array.replicate 26 none
  statics := none }

def pool20 : Array CpInfo := pool [(1, .class_ 2), (0, u "java/util/SortedSet$1"), (12, .class_ 17), (1, u "java/util/SortedSet"), (19, .class_ 38), (0, u "java/lang/Object"), (0, .class_ 40), (0, u "java/util/Set"), (0, .class_ 42), (0, u "java/util/SequencedSet")] 41

/-- java/util/SortedSet -/
def k20 : Class := { plain "java/util/SortedSet" (some 0) with
  accessFlags := 1537
  interfaces := #[13, 19]
  cf := some (fileOf pool20 15 #[.nestMembers #[1]] #[] 1537 37 #[39, 41] #[])
  fields := #[]
  methods := #[]
  instanceTypes := #[]
  staticTypes := #[]
  resolved := Array.replicate 84 none
  statics := none }

def pool21 : Array CpInfo := pool [(2, .class_ 4), (1, u "java/util/NavigableSet"), (22, .class_ 28), (0, u "java/lang/Object"), (0, .class_ 30), (0, u "java/util/SortedSet")] 40

/-- java/util/NavigableSet -/
def k21 : Class := { plain "java/util/NavigableSet" (some 0) with
  accessFlags := 1537
  interfaces := #[20]
  cf := some (fileOf pool21 2 #[] #[] 1537 27 #[29] #[])
  fields := #[]
  methods := #[]
  instanceTypes := #[]
  staticTypes := #[]
  resolved := Array.replicate 71 none
  statics := none }

def pool22 : Array CpInfo := pool [(1, .methodref 2 3), (0, .class_ 4), (0, .nameAndType 5 6), (0, u "java/util/AbstractSet"), (0, u "<init>"), (0, u "()V"), (0, .fieldref 8 9), (0, .class_ 10), (0, .nameAndType 11 12), (0, u "java/util/TreeSet"), (0, u "m"), (0, u "Ljava/util/NavigableMap;"), (0, .class_ 14), (0, u "java/util/TreeMap"), (0, .methodref 13 3), (0, .methodref 8 17), (0, .nameAndType 5 18), (0, u "(Ljava/util/NavigableMap;)V"), (22, .class_ 43), (1, u "java/util/NavigableSet"), (23, u "PRESENT"), (0, u "Ljava/lang/Object;"), (148, .class_ 218), (0, u "java/lang/Cloneable"), (0, .class_ 220), (0, u "java/io/Serializable"), (2, u "serialVersionUID"), (0, u "J")] 92

def k22c0 : Code := { maxStack := 2, maxLocals := 2, code := jdk_2756_method_1_code, exceptionTable := #[], attributes := #[] }
def k22m0 : Method := { name := "<init>", desc := "(Ljava/util/NavigableMap;)V", sig := { parameters := [(.object "java/util/NavigableMap")], returnType := none }, accessFlags := 0, code := some k22c0 }
def k22c1 : Code := { maxStack := 3, maxLocals := 1, code := jdk_2756_method_2_code, exceptionTable := #[], attributes := #[] }
def k22m1 : Method := { name := "<init>", desc := "()V", sig := { parameters := [], returnType := none }, accessFlags := 1, code := some k22c1 }
/-- java/util/TreeSet -/
def k22 : Class := { plain "java/util/TreeSet" (some 14) with
  accessFlags := 33
  interfaces := #[21, 3, 4]
  cf := some (fileOf pool22 8 #[] #[{ accessFlags := 0, nameIndex := 5, descriptorIndex := 18, attributes := #[] }, { accessFlags := 1, nameIndex := 5, descriptorIndex := 6, attributes := #[] }] 33 2 #[41, 217, 219] #[{ accessFlags := 130, nameIndex := 11, descriptorIndex := 12, attributes := #[] }, { accessFlags := 26, nameIndex := 67, descriptorIndex := 68, attributes := #[] }, { accessFlags := 26, nameIndex := 223, descriptorIndex := 224, attributes := #[] }])
  fields := #[{ name := "m", type := (.object "java/util/NavigableMap"), accessFlags := 130, slot := 0, constantValue := 0 }, { name := "PRESENT", type := (.object "java/lang/Object"), accessFlags := 26, slot := 0, constantValue := 0 }, { name := "serialVersionUID", type := .long, accessFlags := 26, slot := 1, constantValue := 0 }]
  methods := #[k22m0, k22m1]
  instanceTypes := #[(.object "java/util/NavigableMap")]
  staticTypes := #[(.object "java/lang/Object"), .long]
  resolved := Array.replicate 317 none
  statics := none }

def pool23 : Array CpInfo := pool [(2, .class_ 4), (1, u "java/util/SequencedMap"), (38, .class_ 44), (0, u "java/util/SequencedMap$1SeqKeySet"), (3, .class_ 49), (0, u "java/util/SequencedMap$1SeqValues"), (1, .class_ 52), (0, u "java/util/SequencedMap$1SeqEntrySet"), (1, .class_ 55), (0, u "java/lang/Object"), (0, .class_ 57), (0, u "java/util/Map")] 48

/-- java/util/SequencedMap -/
def k23 : Class := { plain "java/util/SequencedMap" (some 0) with
  accessFlags := 1537
  interfaces := #[7]
  cf := some (fileOf pool23 2 #[.nestMembers #[51, 48, 43]] #[] 1537 54 #[56] #[])
  fields := #[]
  methods := #[]
  instanceTypes := #[]
  staticTypes := #[]
  resolved := Array.replicate 106 none
  statics := none }

def pool24 : Array CpInfo := pool [(14, .class_ 16), (1, u "java/util/SortedMap"), (2, .class_ 20), (0, u "java/lang/Object"), (0, .class_ 22), (0, u "java/util/SequencedMap")] 50

/-- java/util/SortedMap -/
def k24 : Class := { plain "java/util/SortedMap" (some 0) with
  accessFlags := 1537
  interfaces := #[23]
  cf := some (fileOf pool24 14 #[] #[] 1537 19 #[21] #[])
  fields := #[]
  methods := #[]
  instanceTypes := #[]
  staticTypes := #[]
  resolved := Array.replicate 73 none
  statics := none }

def pool25 : Array CpInfo := pool [(2, .class_ 4), (1, u "java/util/NavigableMap"), (5, .class_ 11), (0, u "java/lang/Object"), (0, .class_ 13), (0, u "java/util/SortedMap")] 53

/-- java/util/NavigableMap -/
def k25 : Class := { plain "java/util/NavigableMap" (some 0) with
  accessFlags := 1537
  interfaces := #[24]
  cf := some (fileOf pool25 2 #[] #[] 1537 10 #[12] #[])
  fields := #[]
  methods := #[]
  instanceTypes := #[]
  staticTypes := #[]
  resolved := Array.replicate 67 none
  statics := none }

def pool26 : Array CpInfo := pool [(1, .methodref 2 3), (0, .class_ 4), (0, .nameAndType 5 6), (0, u "java/util/AbstractMap"), (0, u "<init>"), (0, u "()V"), (0, .fieldref 8 9), (0, .class_ 10), (0, .nameAndType 11 12), (0, u "java/util/TreeMap"), (0, u "size"), (0, u "I"), (0, .fieldref 8 14), (0, .nameAndType 15 12), (0, u "modCount"), (0, .fieldref 8 17), (0, .nameAndType 18 19), (0, u "comparator"), (0, u "Ljava/util/Comparator;"), (14, u "entrySet"), (24, .class_ 61), (1, u "java/util/TreeMap$Entry"), (1, u "Ljava/lang/Object;"), (39, u "root"), (0, u "Ljava/util/TreeMap$Entry;"), (85, u "Ljava/util/TreeMap$EntrySet;"), (2, u "navigableKeySet"), (0, u "Ljava/util/TreeMap$KeySet;"), (2, u "descendingMap"), (0, u "Ljava/util/NavigableMap;"), (23, .class_ 223), (0, u "java/util/TreeMap$KeySet"), (7, .class_ 232), (0, u "java/util/NavigableMap"), (4, .class_ 238), (0, u "java/util/TreeMap$Values"), (3, .class_ 243), (0, u "java/util/TreeMap$EntrySet"), (1, .class_ 246), (0, u "java/util/TreeMap$DescendingSubMap"), (3, .class_ 251), (0, u "java/util/TreeMap$AscendingSubMap"), (17, .class_ 270), (0, u "java/util/TreeMap$KeyIterator"), (3, .class_ 275), (0, u "java/util/TreeMap$DescendingKeyIterator"), (17, u "Z"), (94, .class_ 389), (0, u "java/util/TreeMap$NavigableSubMap"), (1, .class_ 392), (0, u "java/util/TreeMap$KeySpliterator"), (3, .class_ 397), (0, u "java/util/TreeMap$DescendingKeySpliterator"), (4, u "UNBOUNDED"), (0, .class_ 404), (0, u "java/lang/Cloneable"), (0, .class_ 406), (0, u "java/io/Serializable"), (6, u "RED"), (2, u "BLACK"), (1, u "serialVersionUID"), (0, u "J"), (214, .class_ 635), (0, u "java/util/TreeMap$EntrySpliterator"), (0, .class_ 637), (0, u "java/util/TreeMap$ValueSpliterator"), (0, .class_ 639), (0, u "java/util/TreeMap$TreeMapSpliterator"), (0, .class_ 641), (0, u "java/util/TreeMap$SubMap"), (0, .class_ 643), (0, u "java/util/TreeMap$DescendingSubMap$DescendingEntrySetView"), (0, .class_ 645), (0, u "java/util/TreeMap$AscendingSubMap$AscendingEntrySetView"), (0, .class_ 647), (0, u "java/util/TreeMap$NavigableSubMap$DescendingSubMapKeyIterator"), (0, .class_ 649), (0, u "java/util/TreeMap$NavigableSubMap$SubMapKeyIterator"), (0, .class_ 651), (0, u "java/util/TreeMap$NavigableSubMap$DescendingSubMapEntryIterator"), (0, .class_ 653), (0, u "java/util/TreeMap$NavigableSubMap$SubMapEntryIterator"), (0, .class_ 655), (0, u "java/util/TreeMap$NavigableSubMap$SubMapIterator"), (0, .class_ 657), (0, u "java/util/TreeMap$NavigableSubMap$EntrySetView"), (0, .class_ 659), (0, u "java/util/TreeMap$ValueIterator"), (0, .class_ 661), (0, u "java/util/TreeMap$EntryIterator"), (0, .class_ 663), (0, u "java/util/TreeMap$PrivateEntryIterator")] 28

def k26c0 : Code := { maxStack := 2, maxLocals := 1, code := jdk_2729_method_1_code, exceptionTable := #[], attributes := #[] }
def k26m0 : Method := { name := "<init>", desc := "()V", sig := { parameters := [], returnType := none }, accessFlags := 1, code := some k26c0 }
/-- java/util/TreeMap -/
def k26 : Class := { plain "java/util/TreeMap" (some 8) with
  accessFlags := 33
  interfaces := #[25, 3, 4]
  cf := some (fileOf pool26 8 #[.nestMembers #[634, 636, 396, 391, 638, 59, 640, 245, 642, 250, 644, 388, 646, 648, 650, 652, 654, 656, 274, 269, 658, 660, 662, 222, 242, 237]] #[{ accessFlags := 1, nameIndex := 5, descriptorIndex := 6, attributes := #[] }] 33 2 #[231, 403, 405] #[{ accessFlags := 18, nameIndex := 18, descriptorIndex := 19, attributes := #[] }, { accessFlags := 130, nameIndex := 103, descriptorIndex := 104, attributes := #[] }, { accessFlags := 130, nameIndex := 11, descriptorIndex := 12, attributes := #[] }, { accessFlags := 130, nameIndex := 15, descriptorIndex := 12, attributes := #[] }, { accessFlags := 130, nameIndex := 34, descriptorIndex := 190, attributes := #[] }, { accessFlags := 130, nameIndex := 193, descriptorIndex := 194, attributes := #[] }, { accessFlags := 130, nameIndex := 197, descriptorIndex := 198, attributes := #[] }, { accessFlags := 26, nameIndex := 402, descriptorIndex := 63, attributes := #[] }, { accessFlags := 26, nameIndex := 413, descriptorIndex := 293, attributes := #[] }, { accessFlags := 26, nameIndex := 416, descriptorIndex := 293, attributes := #[] }, { accessFlags := 26, nameIndex := 418, descriptorIndex := 419, attributes := #[] }])
  fields := #[{ name := "comparator", type := (.object "java/util/Comparator"), accessFlags := 18, slot := 2, constantValue := 0 }, { name := "root", type := (.object "java/util/TreeMap$Entry"), accessFlags := 130, slot := 3, constantValue := 0 }, { name := "size", type := .int, accessFlags := 130, slot := 4, constantValue := 0 }, { name := "modCount", type := .int, accessFlags := 130, slot := 5, constantValue := 0 }, { name := "entrySet", type := (.object "java/util/TreeMap$EntrySet"), accessFlags := 130, slot := 6, constantValue := 0 }, { name := "navigableKeySet", type := (.object "java/util/TreeMap$KeySet"), accessFlags := 130, slot := 7, constantValue := 0 }, { name := "descendingMap", type := (.object "java/util/NavigableMap"), accessFlags := 130, slot := 8, constantValue := 0 }, { name := "UNBOUNDED", type := (.object "java/lang/Object"), accessFlags := 26, slot := 0, constantValue := 0 }, { name := "RED", type := .boolean, accessFlags := 26, slot := 1, constantValue := 0 }, { name := "BLACK", type := .boolean, accessFlags := 26, slot := 2, constantValue := 0 }, { name := "serialVersionUID", type := .long, accessFlags := 26, slot := 3, constantValue := 0 }]
  methods := #[k26m0]
  instanceTypes := #[(.object "java/util/Set"), (.object "java/util/Collection"), (.object "java/util/Comparator"), (.object "java/util/TreeMap$Entry"), .int, .int, (.object "java/util/TreeMap$EntrySet"), (.object "java/util/TreeMap$KeySet"), (.object "java/util/NavigableMap")]
  staticTypes := #[(.object "java/lang/Object"), .boolean, .boolean, .long]
  resolved := Array.replicate 692 none
  statics := none }

def pool27 : Array CpInfo := pool [(8, .class_ 10), (1, u "java/util/List"), (7, u "()Z"), (48, u "isEmpty"), (11, u "size"), (0, u "()I"), (22, .class_ 104), (0, u "java/lang/Object"), (15, .class_ 121), (0, u "java/util/SequencedCollection")] 129

def k27m0 : Method := { name := "size", desc := "()I", sig := { parameters := [], returnType := some .int }, accessFlags := 1025, code := none }
def k27m1 : Method := { name := "isEmpty", desc := "()Z", sig := { parameters := [], returnType := some .boolean }, accessFlags := 1025, code := none }
/-- java/util/List -/
def k27 : Class := { plain "java/util/List" (some 0) with
  accessFlags := 1537
  interfaces := #[18]
  cf := some (fileOf pool27 8 #[] #[{ accessFlags := 1025, nameIndex := 79, descriptorIndex := 80, attributes := #[] }, { accessFlags := 1025, nameIndex := 67, descriptorIndex := 18, attributes := #[] }] 1537 103 #[120] #[])
  fields := #[]
  methods := #[k27m0, k27m1]
  instanceTypes := #[]
  staticTypes := #[]
  resolved := Array.replicate 251 none
  statics := none }

def pool28 : Array CpInfo := pool [(1, .methodref 2 3), (0, .class_ 4), (0, .nameAndType 5 6), (0, u "java/util/AbstractCollection"), (0, u "<init>"), (0, u "()V"), (0, .fieldref 8 9), (0, .class_ 10), (0, .nameAndType 11 12), (0, u "java/util/AbstractList"), (0, u "modCount"), (0, u "I"), (64, .class_ 78), (0, u "java/util/AbstractList$Itr"), (3, .class_ 83), (0, u "java/util/AbstractList$ListItr"), (9, .class_ 94), (0, u "java/util/AbstractList$RandomAccessSubList"), (3, .class_ 99), (0, u "java/util/AbstractList$SubList"), (33, .class_ 134), (0, u "java/util/List"), (73, .class_ 209), (0, u "java/util/AbstractList$SubList$1"), (0, .class_ 211), (0, u "java/util/AbstractList$RandomAccessSpliterator")] 6

def k28c0 : Code := { maxStack := 2, maxLocals := 1, code := jdk_39_method_1_code, exceptionTable := #[], attributes := #[] }
def k28m0 : Method := { name := "<init>", desc := "()V", sig := { parameters := [], returnType := none }, accessFlags := 4, code := some k28c0 }
/-- java/util/AbstractList -/
def k28 : Class := { plain "java/util/AbstractList" (some 12) with
  accessFlags := 1057
  interfaces := #[27]
  cf := some (fileOf pool28 8 #[.nestMembers #[93, 98, 208, 210, 82, 77]] #[{ accessFlags := 4, nameIndex := 5, descriptorIndex := 6, attributes := #[] }] 1057 2 #[133] #[{ accessFlags := 132, nameIndex := 11, descriptorIndex := 12, attributes := #[] }])
  fields := #[{ name := "modCount", type := .int, accessFlags := 132, slot := 0, constantValue := 0 }]
  methods := #[k28m0]
  instanceTypes := #[.int]
  staticTypes := #[]
  resolved := Array.replicate 218 none
  statics := none }

def pool29 : Array CpInfo := pool [(1, .class_ 2), (0, u "java/util/RandomAccess"), (0, .class_ 4), (0, u "java/lang/Object")] 2

/-- java/util/RandomAccess -/
def k29 : Class := { plain "java/util/RandomAccess" (some 0) with
  accessFlags := 1537
  interfaces := #[]
  cf := some (fileOf pool29 1 #[] #[] 1537 3 #[] #[])
  fields := #[]
  methods := #[]
  instanceTypes := #[]
  staticTypes := #[]
  resolved := Array.replicate 7 none
  statics := none }

def pool30 : Array CpInfo := pool [(1, .methodref 2 3), (0, .class_ 4), (0, .nameAndType 5 6), (0, u "java/util/AbstractList"), (0, u "<init>"), (0, u "()V"), (2, .fieldref 10 11), (0, .class_ 12), (0, .nameAndType 13 14), (0, u "java/util/ArrayList"), (0, u "elementData"), (0, u "[Ljava/lang/Object;"), (2, u "EMPTY_ELEMENTDATA"), (21, .fieldref 10 40), (0, .nameAndType 41 14), (0, u "DEFAULTCAPACITY_EMPTY_ELEMENTDATA"), (0, .interfaceMethodref 43 44), (0, .class_ 45), (0, .nameAndType 46 47), (0, u "java/util/Collection"), (0, u "toArray"), (0, u "()[Ljava/lang/Object;"), (0, .fieldref 10 49), (0, .nameAndType 50 51), (0, u "size"), (0, u "I"), (0, .interfaceMethodref 43 53), (0, .nameAndType 54 55), (0, u "getClass"), (0, u "()Ljava/lang/Class;"), (0, .class_ 14), (0, .methodref 58 59), (0, .class_ 60), (0, .nameAndType 61 62), (0, u "java/util/Arrays"), (0, u "copyOf"), (0, u "([Ljava/lang/Object;ILjava/lang/Class;)[Ljava/lang/Object;"), (85, .class_ 149), (0, u "java/util/List"), (23, u "()Z"), (12, u "()I"), (75, .class_ 263), (0, u "java/util/ArrayList$ListItr"), (3, .class_ 268), (0, u "java/util/ArrayList$Itr"), (7, .class_ 277), (0, u "java/util/ArrayList$SubList"), (12, .class_ 291), (0, u "java/util/ArrayList$ArrayListSpliterator"), (37, .class_ 330), (0, u "java/util/RandomAccess"), (0, .class_ 332), (0, u "java/lang/Cloneable"), (0, .class_ 334), (0, u "java/io/Serializable"), (0, u "serialVersionUID"), (0, u "J"), (3, u "DEFAULT_CAPACITY"), (10, u "(Ljava/util/Collection;)V"), (11, u "isEmpty"), (136, .class_ 501), (0, u "java/util/ArrayList$SubList$2"), (0, .class_ 503), (0, u "java/util/ArrayList$SubList$1")] 5

def k30c0 : Code := { maxStack := 2, maxLocals := 1, code := jdk_38_method_2_code, exceptionTable := #[], attributes := #[] }
def k30m0 : Method := { name := "<init>", desc := "()V", sig := { parameters := [], returnType := none }, accessFlags := 1, code := some k30c0 }
def k30c1 : Code := { maxStack := 4, maxLocals := 3, code := jdk_38_method_3_code, exceptionTable := #[], attributes := #[] }
def k30m1 : Method := { name := "<init>", desc := "(Ljava/util/Collection;)V", sig := { parameters := [(.object "java/util/Collection")], returnType := none }, accessFlags := 1, code := some k30c1 }
def k30c2 : Code := { maxStack := 1, maxLocals := 1, code := jdk_38_method_8_code, exceptionTable := #[], attributes := #[] }
def k30m2 : Method := { name := "size", desc := "()I", sig := { parameters := [], returnType := some .int }, accessFlags := 1, code := some k30c2 }
def k30c3 : Code := { maxStack := 1, maxLocals := 1, code := jdk_38_method_9_code, exceptionTable := #[], attributes := #[] }
def k30m3 : Method := { name := "isEmpty", desc := "()Z", sig := { parameters := [], returnType := some .boolean }, accessFlags := 1, code := some k30c3 }
/-- java/util/ArrayList -/
def k30 : Class := { plain "java/util/ArrayList" (some 28) with
  accessFlags := 33
  interfaces := #[27, 29, 3, 4]
  cf := some (fileOf pool30 10 #[.nestMembers #[290, 276, 500, 502, 262, 267]] #[{ accessFlags := 1, nameIndex := 5, descriptorIndex := 6, attributes := #[] }, { accessFlags := 1, nameIndex := 5, descriptorIndex := 351, attributes := #[] }, { accessFlags := 1, nameIndex := 50, descriptorIndex := 186, attributes := #[] }, { accessFlags := 1, nameIndex := 363, descriptorIndex := 173, attributes := #[] }] 33 2 #[148, 329, 331, 333] #[{ accessFlags := 26, nameIndex := 335, descriptorIndex := 336, attributes := #[] }, { accessFlags := 26, nameIndex := 340, descriptorIndex := 51, attributes := #[] }, { accessFlags := 26, nameIndex := 17, descriptorIndex := 14, attributes := #[] }, { accessFlags := 26, nameIndex := 41, descriptorIndex := 14, attributes := #[] }, { accessFlags := 128, nameIndex := 13, descriptorIndex := 14, attributes := #[] }, { accessFlags := 2, nameIndex := 50, descriptorIndex := 51, attributes := #[] }])
  fields := #[{ name := "serialVersionUID", type := .long, accessFlags := 26, slot := 0, constantValue := 0 }, { name := "DEFAULT_CAPACITY", type := .int, accessFlags := 26, slot := 1, constantValue := 0 }, { name := "EMPTY_ELEMENTDATA", type := (.array (.object "java/lang/Object")), accessFlags := 26, slot := 2, constantValue := 0 }, { name := "DEFAULTCAPACITY_EMPTY_ELEMENTDATA", type := (.array (.object "java/lang/Object")), accessFlags := 26, slot := 3, constantValue := 0 }, { name := "elementData", type := (.array (.object "java/lang/Object")), accessFlags := 128, slot := 1, constantValue := 0 }, { name := "size", type := .int, accessFlags := 2, slot := 2, constantValue := 0 }]
  methods := #[k30m0, k30m1, k30m2, k30m3]
  instanceTypes := #[.int, (.array (.object "java/lang/Object")), .int]
  staticTypes := #[.long, .int, (.array (.object "java/lang/Object")), (.array (.object "java/lang/Object"))]
  resolved := Array.replicate 509 none
  mirror := some 4
  statics := some 0 }

def pool31 : Array CpInfo := pool [(1, .methodref 2 3), (0, .class_ 4), (0, .nameAndType 5 6), (0, u "java/lang/Object"), (0, u "<init>"), (0, u "()V"), (0, .fieldref 8 9), (0, .class_ 10), (0, .nameAndType 11 12), (0, u "com/example/lockstep/lockstep/core/StateGraph"), (0, u "parents"), (0, u "[I"), (0, .fieldref 8 14), (0, .nameAndType 15 16), (0, u "size"), (0, u "I"), (0, .fieldref 8 18), (0, .nameAndType 19 12), (0, u "from"), (0, .fieldref 8 21), (0, .nameAndType 22 12), (0, u "to"), (0, .class_ 24), (0, u "java/util/BitSet"), (0, .methodref 23 3), (0, .fieldref 8 27), (0, .nameAndType 28 29), (0, u "ends"), (0, u "Ljava/util/BitSet;"), (0, .class_ 31), (0, u "java/util/ArrayList"), (0, .methodref 33 34), (0, .class_ 35), (0, .nameAndType 36 37), (0, u "java/util/Collections"), (0, u "singletonList"), (0, u "(Ljava/lang/Object;)Ljava/util/List;"), (0, .methodref 30 39), (0, .nameAndType 5 40), (0, u "(Ljava/util/Collection;)V"), (0, .fieldref 8 42), (0, .nameAndType 43 44), (0, u "reasons"), (0, u "Ljava/util/List;"), (24, u "edges"), (66, u "START")] 15

def k31c0 : Code := { maxStack := 5, maxLocals := 1, code := prog_248_method_1_code, exceptionTable := #[], attributes := #[] }
def k31m0 : Method := { name := "<init>", desc := "()V", sig := { parameters := [], returnType := none }, accessFlags := 0, code := some k31c0 }
/-- com/example/lockstep/lockstep/core/StateGraph -/
def k31 : Class := { plain "com/example/lockstep/lockstep/core/StateGraph" (some 0) with
  accessFlags := 48
  interfaces := #[]
  cf := some (fileOf pool31 8 #[] #[{ accessFlags := 0, nameIndex := 5, descriptorIndex := 6, attributes := #[] }] 48 2 #[] #[{ accessFlags := 24, nameIndex := 136, descriptorIndex := 16, attributes := #[] }, { accessFlags := 2, nameIndex := 11, descriptorIndex := 12, attributes := #[] }, { accessFlags := 2, nameIndex := 15, descriptorIndex := 16, attributes := #[] }, { accessFlags := 2, nameIndex := 19, descriptorIndex := 12, attributes := #[] }, { accessFlags := 2, nameIndex := 22, descriptorIndex := 12, attributes := #[] }, { accessFlags := 2, nameIndex := 69, descriptorIndex := 16, attributes := #[] }, { accessFlags := 18, nameIndex := 28, descriptorIndex := 29, attributes := #[] }, { accessFlags := 18, nameIndex := 43, descriptorIndex := 44, attributes := #[] }])
  fields := #[{ name := "START", type := .int, accessFlags := 24, slot := 0, constantValue := 0 }, { name := "parents", type := (.array .int), accessFlags := 2, slot := 0, constantValue := 0 }, { name := "size", type := .int, accessFlags := 2, slot := 1, constantValue := 0 }, { name := "from", type := (.array .int), accessFlags := 2, slot := 2, constantValue := 0 }, { name := "to", type := (.array .int), accessFlags := 2, slot := 3, constantValue := 0 }, { name := "edges", type := .int, accessFlags := 2, slot := 4, constantValue := 0 }, { name := "ends", type := (.object "java/util/BitSet"), accessFlags := 18, slot := 5, constantValue := 0 }, { name := "reasons", type := (.object "java/util/List"), accessFlags := 18, slot := 6, constantValue := 0 }]
  methods := #[k31m0]
  instanceTypes := #[(.array .int), .int, (.array .int), (.array .int), .int, (.object "java/util/BitSet"), (.object "java/util/List")]
  staticTypes := #[.int]
  resolved := Array.replicate 152 none
  statics := none }

def pool32 : Array CpInfo := pool [(2, .class_ 4), (1, u "java/lang/Object"), (0, u "<init>"), (0, u "()V"), (12, .class_ 20), (0, u "java/util/Collections"), (60, u "(Ljava/lang/Object;)V"), (2, u "r"), (0, u "Ljava/util/Random;"), (80, .class_ 167), (0, u "java/util/Collections$UnmodifiableCollection"), (6, .class_ 175), (0, u "java/util/Collections$UnmodifiableSequencedCollection"), (6, .class_ 183), (0, u "java/util/Collections$UnmodifiableSet"), (6, .class_ 191), (0, u "java/util/Collections$UnmodifiableSequencedSet"), (6, .class_ 199), (0, u "java/util/Collections$UnmodifiableSortedSet"), (6, .class_ 207), (0, u "java/util/Collections$UnmodifiableNavigableSet"), (4, .class_ 213), (0, u "java/util/Collections$UnmodifiableList"), (1, .class_ 216), (0, u "java/util/Collections$UnmodifiableRandomAccessList"), (6, .class_ 224), (0, u "java/util/Collections$UnmodifiableMap"), (6, .class_ 232), (0, u "java/util/Collections$UnmodifiableSequencedMap"), (4, .class_ 238), (0, u "java/util/Collections$UnmodifiableSortedMap"), (6, .class_ 246), (0, u "java/util/Collections$UnmodifiableNavigableMap"), (3, .class_ 251), (0, u "java/util/Collections$SynchronizedCollection"), (4, .class_ 257), (0, u "java/util/Collections$SynchronizedSet"), (4, .class_ 263), (0, u "java/util/Collections$SynchronizedSortedSet"), (1, .class_ 266), (0, u "java/util/Collections$SynchronizedNavigableSet"), (1, .class_ 269), (0, u "java/util/Collections$SynchronizedRandomAccessList"), (1, .class_ 272), (0, u "java/util/Collections$SynchronizedList"), (5, .class_ 279), (0, u "java/util/Collections$SynchronizedMap"), (1, .class_ 282), (0, u "java/util/Collections$SynchronizedSortedMap"), (1, .class_ 285), (0, u "java/util/Collections$SynchronizedNavigableMap"), (1, .class_ 288), (0, u "java/util/Collections$CheckedCollection"), (11, .class_ 301), (0, u "java/util/Collections$CheckedQueue"), (3, .class_ 306), (0, u "java/util/Collections$CheckedSet"), (3, .class_ 311), (0, u "java/util/Collections$CheckedSortedSet"), (3, .class_ 316), (0, u "java/util/Collections$CheckedNavigableSet"), (3, .class_ 321), (0, u "java/util/Collections$CheckedRandomAccessList"), (3, .class_ 326), (0, u "java/util/Collections$CheckedList"), (1, .class_ 329), (0, u "java/util/Collections$CheckedMap"), (3, .class_ 334), (0, u "java/util/Collections$CheckedSortedMap"), (3, .class_ 339), (0, u "java/util/Collections$CheckedNavigableMap"), (4, .class_ 346), (1, u "java/util/Collections$EmptyIterator"), (3, .class_ 352), (1, u "java/util/Collections$EmptyListIterator"), (2, .class_ 357), (1, u "java/util/Collections$EmptyEnumeration"), (4, u "EMPTY_SET"), (0, u "Ljava/util/Set;"), (6, u "EMPTY_LIST"), (0, u "Ljava/util/List;"), (2, u "EMPTY_MAP"), (0, u "Ljava/util/Map;"), (4, .class_ 381), (0, u "java/util/Collections$SingletonSet"), (1, .nameAndType 5 81), (0, .class_ 385), (0, u "java/util/Collections$1"), (0, .methodref 384 383), (0, .class_ 388), (0, u "java/util/Collections$2"), (1, .class_ 391), (0, u "java/util/Collections$SingletonList"), (0, .methodref 390 383), (0, .class_ 394), (0, u "java/util/Collections$SingletonMap"), (22, .class_ 418), (0, u "java/util/Collections$CopiesList"), (4, .class_ 425), (1, u "java/util/Collections$ReverseComparator"), (8, .class_ 435), (0, u "java/util/Collections$ReverseComparator2"), (6, .class_ 443), (0, u "java/util/Collections$3"), (25, .class_ 470), (0, u "java/util/Collections$SetFromMap"), (2, .class_ 474), (0, u "java/util/Collections$SequencedSetFromMap"), (3, .class_ 479), (0, u "java/util/Collections$AsLIFOQueue"), (11, .class_ 492), (0, u "java/util/Collections$EmptySet"), (1, .class_ 495), (0, u "java/util/Collections$EmptyList"), (1, .class_ 498), (0, u "java/util/Collections$EmptyMap"), (1, u "BINARYSEARCH_THRESHOLD"), (0, u "I"), (2, u "REVERSE_THRESHOLD"), (1, u "SHUFFLE_THRESHOLD"), (1, u "FILL_THRESHOLD"), (1, u "ROTATE_THRESHOLD"), (1, u "COPY_THRESHOLD"), (1, u "REPLACEALL_THRESHOLD"), (1, u "INDEXOFSUBLIST_THRESHOLD"), (256, u "singletonIterator"), (0, u "(Ljava/lang/Object;)Ljava/util/Iterator;"), (6, u "singletonList"), (0, u "(Ljava/lang/Object;)Ljava/util/List;"), (67, .class_ 851), (0, u "java/util/Collections$CheckedMap$CheckedEntrySet"), (0, .class_ 853), (0, u "java/util/Collections$CheckedMap$CheckedEntrySet$CheckedEntry"), (0, .class_ 855), (0, u "java/util/Collections$CheckedMap$CheckedEntrySet$1"), (0, .class_ 857), (0, u "java/util/Collections$CheckedList$1"), (0, .class_ 859), (0, u "java/util/Collections$CheckedCollection$1"), (0, .class_ 861), (0, u "java/util/Collections$UnmodifiableNavigableMap$EmptyNavigableMap"), (0, .class_ 863), (0, u "java/util/Collections$UnmodifiableMap$UnmodifiableEntrySet"), (0, .class_ 865), (0, u "java/util/Collections$UnmodifiableMap$UnmodifiableEntrySet$UnmodifiableEntry"), (0, .class_ 867), (0, u "java/util/Collections$UnmodifiableMap$UnmodifiableEntrySet$UnmodifiableEntrySetSpliterator"), (0, .class_ 869), (0, u "java/util/Collections$UnmodifiableMap$UnmodifiableEntrySet$1"), (0, .class_ 871), (0, u "java/util/Collections$UnmodifiableList$1"), (0, .class_ 873), (0, u "java/util/Collections$UnmodifiableNavigableSet$EmptyNavigableSet"), (0, .class_ 875), (0, u "java/util/Collections$UnmodifiableCollection$1")] 57

def k32m0 : Method := { name := "<init>", desc := "()V", sig := { parameters := [], returnType := none }, accessFlags := 2, code := none }
def k32c1 : Code := { maxStack := 3, maxLocals := 1, code := jdk_79_method_72_code, exceptionTable := #[], attributes := #[] }
def k32m1 : Method := { name := "singletonIterator", desc := "(Ljava/lang/Object;)Ljava/util/Iterator;", sig := { parameters := [(.object "java/lang/Object")], returnType := some (.object "java/util/Iterator") }, accessFlags := 8, code := some k32c1 }
def k32c2 : Code := { maxStack := 3, maxLocals := 1, code := jdk_79_method_74_code, exceptionTable := #[], attributes := #[] }
def k32m2 : Method := { name := "singletonList", desc := "(Ljava/lang/Object;)Ljava/util/List;", sig := { parameters := [(.object "java/lang/Object")], returnType := some (.object "java/util/List") }, accessFlags := 9, code := some k32c2 }
/-- java/util/Collections -/
def k32 : Class := { plain "java/util/Collections" (some 0) with
  accessFlags := 33
  interfaces := #[]
  cf := some (fileOf pool32 19 #[.nestMembers #[478, 473, 469, 434, 423, 417, 393, 390, 380, 497, 494, 491, 355, 350, 344, 338, 333, 328, 850, 852, 854, 320, 325, 856, 315, 310, 305, 300, 287, 858, 284, 281, 278, 268, 271, 265, 262, 256, 250, 245, 860, 237, 231, 223, 862, 864, 866, 868, 215, 212, 870, 206, 872, 198, 190, 182, 174, 166, 874, 442, 387, 384]] #[{ accessFlags := 2, nameIndex := 5, descriptorIndex := 6, attributes := #[] }, { accessFlags := 8, nameIndex := 773, descriptorIndex := 774, attributes := #[] }, { accessFlags := 9, nameIndex := 781, descriptorIndex := 782, attributes := #[] }] 33 2 #[] #[{ accessFlags := 26, nameIndex := 500, descriptorIndex := 501, attributes := #[] }, { accessFlags := 26, nameIndex := 504, descriptorIndex := 501, attributes := #[] }, { accessFlags := 26, nameIndex := 506, descriptorIndex := 501, attributes := #[] }, { accessFlags := 26, nameIndex := 508, descriptorIndex := 501, attributes := #[] }, { accessFlags := 26, nameIndex := 510, descriptorIndex := 501, attributes := #[] }, { accessFlags := 26, nameIndex := 512, descriptorIndex := 501, attributes := #[] }, { accessFlags := 26, nameIndex := 514, descriptorIndex := 501, attributes := #[] }, { accessFlags := 26, nameIndex := 516, descriptorIndex := 501, attributes := #[] }, { accessFlags := 10, nameIndex := 84, descriptorIndex := 85, attributes := #[] }, { accessFlags := 25, nameIndex := 362, descriptorIndex := 363, attributes := #[] }, { accessFlags := 25, nameIndex := 370, descriptorIndex := 371, attributes := #[] }, { accessFlags := 25, nameIndex := 374, descriptorIndex := 375, attributes := #[] }])
  fields := #[{ name := "BINARYSEARCH_THRESHOLD", type := .int, accessFlags := 26, slot := 0, constantValue := 0 }, { name := "REVERSE_THRESHOLD", type := .int, accessFlags := 26, slot := 1, constantValue := 0 }, { name := "SHUFFLE_THRESHOLD", type := .int, accessFlags := 26, slot := 2, constantValue := 0 }, { name := "FILL_THRESHOLD", type := .int, accessFlags := 26, slot := 3, constantValue := 0 }, { name := "ROTATE_THRESHOLD", type := .int, accessFlags := 26, slot := 4, constantValue := 0 }, { name := "COPY_THRESHOLD", type := .int, accessFlags := 26, slot := 5, constantValue := 0 }, { name := "REPLACEALL_THRESHOLD", type := .int, accessFlags := 26, slot := 6, constantValue := 0 }, { name := "INDEXOFSUBLIST_THRESHOLD", type := .int, accessFlags := 26, slot := 7, constantValue := 0 }, { name := "r", type := (.object "java/util/Random"), accessFlags := 10, slot := 8, constantValue := 0 }, { name := "EMPTY_SET", type := (.object "java/util/Set"), accessFlags := 25, slot := 9, constantValue := 0 }, { name := "EMPTY_LIST", type := (.object "java/util/List"), accessFlags := 25, slot := 10, constantValue := 0 }, { name := "EMPTY_MAP", type := (.object "java/util/Map"), accessFlags := 25, slot := 11, constantValue := 0 }]
  methods := #[k32m0, k32m1, k32m2]
  instanceTypes := #[]
  staticTypes := #[.int, .int, .int, .int, .int, .int, .int, .int, (.object "java/util/Random"), (.object "java/util/Set"), (.object "java/util/List"), (.object "java/util/Map")]
  resolved := Array.replicate 933 none
  statics := none }

def pool33 : Array CpInfo := pool [(1, .methodref 2 3), (0, .class_ 4), (0, .nameAndType 5 6), (0, u "java/util/AbstractList"), (0, u "<init>"), (0, u "()V"), (0, .fieldref 8 9), (0, .class_ 10), (0, .nameAndType 11 12), (0, u "java/util/Collections$SingletonList"), (0, u "element"), (0, u "Ljava/lang/Object;"), (0, .methodref 14 15), (0, .class_ 16), (0, .nameAndType 17 18), (0, u "java/util/Collections"), (0, u "singletonIterator"), (0, u "(Ljava/lang/Object;)Ljava/util/Iterator;"), (32, u "(Ljava/lang/Object;)V"), (13, .class_ 66), (0, u "java/util/RandomAccess"), (0, .class_ 68), (0, u "java/io/Serializable"), (0, u "serialVersionUID"), (0, u "J"), (14, u "iterator"), (0, u "()Ljava/util/Iterator;"), (1, u "size"), (0, u "()I")] 41

def k33c0 : Code := { maxStack := 2, maxLocals := 2, code := jdk_2487_method_1_code, exceptionTable := #[], attributes := #[] }
def k33m0 : Method := { name := "<init>", desc := "(Ljava/lang/Object;)V", sig := { parameters := [(.object "java/lang/Object")], returnType := none }, accessFlags := 0, code := some k33c0 }
def k33c1 : Code := { maxStack := 1, maxLocals := 1, code := jdk_2487_method_2_code, exceptionTable := #[], attributes := #[] }
def k33m1 : Method := { name := "iterator", desc := "()Ljava/util/Iterator;", sig := { parameters := [], returnType := some (.object "java/util/Iterator") }, accessFlags := 1, code := some k33c1 }
def k33c2 : Code := { maxStack := 1, maxLocals := 1, code := jdk_2487_method_3_code, exceptionTable := #[], attributes := #[] }
def k33m2 : Method := { name := "size", desc := "()I", sig := { parameters := [], returnType := some .int }, accessFlags := 1, code := some k33c2 }
/-- java/util/Collections$SingletonList -/
def k33 : Class := { plain "java/util/Collections$SingletonList" (some 28) with
  accessFlags := 32
  interfaces := #[29, 4]
  cf := some (fileOf pool33 8 #[.nestHost 14] #[{ accessFlags := 0, nameIndex := 5, descriptorIndex := 51, attributes := #[] }, { accessFlags := 1, nameIndex := 85, descriptorIndex := 86, attributes := #[] }, { accessFlags := 1, nameIndex := 88, descriptorIndex := 89, attributes := #[] }] 32 2 #[65, 67] #[{ accessFlags := 26, nameIndex := 69, descriptorIndex := 70, attributes := #[] }, { accessFlags := 18, nameIndex := 11, descriptorIndex := 12, attributes := #[] }])
  fields := #[{ name := "serialVersionUID", type := .long, accessFlags := 26, slot := 0, constantValue := 0 }, { name := "element", type := (.object "java/lang/Object"), accessFlags := 18, slot := 1, constantValue := 0 }]
  methods := #[k33m0, k33m1, k33m2]
  instanceTypes := #[.int, (.object "java/lang/Object")]
  staticTypes := #[.long]
  resolved := Array.replicate 131 none
  mirror := some 3
  statics := none }

def pool34 : Array CpInfo := pool [(16, .class_ 18), (1, u "java/util/Iterator"), (0, u "hasNext"), (0, u "()Z"), (2, u "next"), (0, u "()Ljava/lang/Object;"), (6, .class_ 32), (0, u "java/lang/Object")] 20

def k34m0 : Method := { name := "hasNext", desc := "()Z", sig := { parameters := [], returnType := some .boolean }, accessFlags := 1025, code := none }
def k34m1 : Method := { name := "next", desc := "()Ljava/lang/Object;", sig := { parameters := [], returnType := some (.object "java/lang/Object") }, accessFlags := 1025, code := none }
/-- java/util/Iterator -/
def k34 : Class := { plain "java/util/Iterator" (some 0) with
  accessFlags := 1537
  interfaces := #[]
  cf := some (fileOf pool34 16 #[] #[{ accessFlags := 1025, nameIndex := 19, descriptorIndex := 20, attributes := #[] }, { accessFlags := 1025, nameIndex := 23, descriptorIndex := 24, attributes := #[] }] 1537 31 #[] #[])
  fields := #[]
  methods := #[k34m0, k34m1]
  instanceTypes := #[]
  staticTypes := #[]
  resolved := Array.replicate 53 none
  statics := none }

def pool35 : Array CpInfo := pool [(1, .fieldref 2 3), (0, .class_ 4), (0, .nameAndType 5 6), (0, u "java/util/Collections$1"), (0, u "val$e"), (0, u "Ljava/lang/Object;"), (0, .methodref 8 9), (0, .class_ 10), (0, .nameAndType 11 12), (0, u "java/lang/Object"), (0, u "<init>"), (0, u "()V"), (0, .fieldref 2 14), (0, .nameAndType 15 16), (0, u "hasNext"), (0, u "Z"), (17, u "(Ljava/lang/Object;)V"), (0, .class_ 36), (0, u "java/util/Iterator"), (5, u "()Z"), (0, u "next"), (0, u "()Ljava/lang/Object;"), (15, .class_ 61), (0, u "java/util/Collections")] 5

def k35c0 : Code := { maxStack := 2, maxLocals := 2, code := jdk_2460_method_1_code, exceptionTable := #[], attributes := #[] }
def k35m0 : Method := { name := "<init>", desc := "(Ljava/lang/Object;)V", sig := { parameters := [(.object "java/lang/Object")], returnType := none }, accessFlags := 0, code := some k35c0 }
def k35c1 : Code := { maxStack := 1, maxLocals := 1, code := jdk_2460_method_2_code, exceptionTable := #[], attributes := #[] }
def k35m1 : Method := { name := "hasNext", desc := "()Z", sig := { parameters := [], returnType := some .boolean }, accessFlags := 1, code := some k35c1 }
def k35c2 : Code := { maxStack := 2, maxLocals := 1, code := jdk_2460_method_3_code, exceptionTable := #[], attributes := #[] }
def k35m2 : Method := { name := "next", desc := "()Ljava/lang/Object;", sig := { parameters := [], returnType := some (.object "java/lang/Object") }, accessFlags := 1, code := some k35c2 }
/-- java/util/Collections$1 -/
def k35 : Class := { plain "java/util/Collections$1" (some 0) with
  accessFlags := 32
  interfaces := #[34]
  cf := some (fileOf pool35 2 #[.nestHost 60] #[{ accessFlags := 0, nameIndex := 11, descriptorIndex := 34, attributes := #[] }, { accessFlags := 1, nameIndex := 15, descriptorIndex := 42, attributes := #[] }, { accessFlags := 1, nameIndex := 43, descriptorIndex := 44, attributes := #[] }] 32 8 #[35] #[{ accessFlags := 2, nameIndex := 15, descriptorIndex := 16, attributes := #[] }, { accessFlags := 4112, nameIndex := 5, descriptorIndex := 6, attributes := #[] }])
  fields := #[{ name := "hasNext", type := .boolean, accessFlags := 2, slot := 0, constantValue := 0 }, { name := "val$e", type := (.object "java/lang/Object"), accessFlags := 4112, slot := 1, constantValue := 0 }]
  methods := #[k35m0, k35m1, k35m2]
  instanceTypes := #[.boolean, (.object "java/lang/Object")]
  staticTypes := #[]
  resolved := Array.replicate 67 none
  statics := none }

def pool36 : Array CpInfo := pool [(2, .class_ 4), (1, u "java/lang/Object"), (0, u "<init>"), (0, u "()V"), (7, .class_ 16), (1, u "java/util/Arrays"), (57, .class_ 76), (1, u "java/util/Arrays$NaturalOrder"), (33, .class_ 111), (0, u "[Ljava/lang/Object;"), (1, .class_ 115), (1, u "java/util/Arrays$LegacyMergeSort"), (1, u "Z"), (32, .methodref 151 152), (0, .class_ 153), (0, .nameAndType 154 155), (0, u "java/lang/System"), (0, u "arraycopy"), (0, u "(Ljava/lang/Object;ILjava/lang/Object;II)V"), (146, u "copyOf"), (0, u "([Ljava/lang/Object;ILjava/lang/Class;)[Ljava/lang/Object;"), (0, .methodref 305 306), (0, .class_ 307), (0, .nameAndType 308 309), (0, u "java/lang/Math"), (0, u "min"), (0, u "(II)I"), (65, .class_ 376), (0, u "java/util/Arrays$ArrayList"), (68, u "$assertionsDisabled"), (269, u "MIN_ARRAY_SORT_GRAN"), (0, u "I"), (2, u "INSERTIONSORT_THRESHOLD"), (255, .class_ 976), (0, u "java/util/Arrays$ArrayItr")] 52

def k36m0 : Method := { name := "<init>", desc := "()V", sig := { parameters := [], returnType := none }, accessFlags := 2, code := none }
def k36c1 : Code := { maxStack := 6, maxLocals := 4, code := jdk_65_method_120_code, exceptionTable := #[], attributes := #[] }
def k36m1 : Method := { name := "copyOf", desc := "([Ljava/lang/Object;ILjava/lang/Class;)[Ljava/lang/Object;", sig := { parameters := [(.array (.object "java/lang/Object")), .int, (.object "java/lang/Class")], returnType := some (.array (.object "java/lang/Object")) }, accessFlags := 9, code := some k36c1 }
/-- java/util/Arrays -/
def k36 : Class := { plain "java/util/Arrays" (some 0) with
  accessFlags := 49
  interfaces := #[]
  cf := some (fileOf pool36 14 #[.nestMembers #[975, 375, 113, 74]] #[{ accessFlags := 2, nameIndex := 5, descriptorIndex := 6, attributes := #[] }, { accessFlags := 9, nameIndex := 302, descriptorIndex := 303, attributes := #[] }] 49 2 #[] #[{ accessFlags := 26, nameIndex := 715, descriptorIndex := 716, attributes := #[] }, { accessFlags := 26, nameIndex := 719, descriptorIndex := 716, attributes := #[] }, { accessFlags := 4120, nameIndex := 445, descriptorIndex := 117, attributes := #[] }])
  fields := #[{ name := "MIN_ARRAY_SORT_GRAN", type := .int, accessFlags := 26, slot := 0, constantValue := 0 }, { name := "INSERTIONSORT_THRESHOLD", type := .int, accessFlags := 26, slot := 1, constantValue := 0 }, { name := "$assertionsDisabled", type := .boolean, accessFlags := 4120, slot := 2, constantValue := 0 }]
  methods := #[k36m0, k36m1]
  instanceTypes := #[]
  staticTypes := #[.int, .int, .boolean]
  resolved := Array.replicate 1029 none
  statics := none }

def pool37 : Array CpInfo := pool [(1, .class_ 2), (0, u "java/lang/Math"), (1, .class_ 6), (1, u "java/lang/Object"), (0, u "<init>"), (0, u "()V"), (89, .class_ 100), (1, u "java/lang/Math$RandomNumberGeneratorHolder"), (71, u "negativeZeroFloatBits"), (0, u "J"), (2, u "negativeZeroDoubleBits"), (21, u "max"), (2, u "min"), (43, u "$assertionsDisabled"), (0, u "Z"), (88, u "(II)I"), (2, u "twoToTheDoubleScaleDown"), (0, u "D"), (4, u "twoToTheDoubleScaleUp"), (9, u "E"), (3, u "PI"), (2, u "TAU"), (2, u "DEGREES_TO_RADIANS"), (0, u "RADIANS_TO_DEGREES")] 94

def k37m0 : Method := { name := "<init>", desc := "()V", sig := { parameters := [], returnType := none }, accessFlags := 2, code := none }
def k37c1 : Code := { maxStack := 2, maxLocals := 2, code := jdk_29_method_65_code, exceptionTable := #[], attributes := #[] }
def k37m1 : Method := { name := "max", desc := "(II)I", sig := { parameters := [.int, .int], returnType := some .int }, accessFlags := 9, code := some k37c1 }
def k37c2 : Code := { maxStack := 2, maxLocals := 2, code := jdk_29_method_69_code, exceptionTable := #[], attributes := #[] }
def k37m2 : Method := { name := "min", desc := "(II)I", sig := { parameters := [.int, .int], returnType := some .int }, accessFlags := 9, code := some k37c2 }
/-- java/lang/Math -/
def k37 : Class := { plain "java/lang/Math" (some 0) with
  accessFlags := 49
  interfaces := #[]
  cf := some (fileOf pool37 1 #[.nestMembers #[98]] #[{ accessFlags := 2, nameIndex := 7, descriptorIndex := 8, attributes := #[] }, { accessFlags := 9, nameIndex := 198, descriptorIndex := 335, attributes := #[] }, { accessFlags := 9, nameIndex := 201, descriptorIndex := 335, attributes := #[] }] 49 4 #[] #[{ accessFlags := 25, nameIndex := 354, descriptorIndex := 339, attributes := #[] }, { accessFlags := 25, nameIndex := 358, descriptorIndex := 339, attributes := #[] }, { accessFlags := 25, nameIndex := 361, descriptorIndex := 339, attributes := #[] }, { accessFlags := 26, nameIndex := 364, descriptorIndex := 339, attributes := #[] }, { accessFlags := 26, nameIndex := 365, descriptorIndex := 339, attributes := #[] }, { accessFlags := 26, nameIndex := 172, descriptorIndex := 173, attributes := #[] }, { accessFlags := 26, nameIndex := 176, descriptorIndex := 173, attributes := #[] }, { accessFlags := 8, nameIndex := 344, descriptorIndex := 339, attributes := #[] }, { accessFlags := 8, nameIndex := 338, descriptorIndex := 339, attributes := #[] }, { accessFlags := 4120, nameIndex := 245, descriptorIndex := 246, attributes := #[] }])
  fields := #[{ name := "E", type := .double, accessFlags := 25, slot := 0, constantValue := 0 }, { name := "PI", type := .double, accessFlags := 25, slot := 1, constantValue := 0 }, { name := "TAU", type := .double, accessFlags := 25, slot := 2, constantValue := 0 }, { name := "DEGREES_TO_RADIANS", type := .double, accessFlags := 26, slot := 3, constantValue := 0 }, { name := "RADIANS_TO_DEGREES", type := .double, accessFlags := 26, slot := 4, constantValue := 0 }, { name := "negativeZeroFloatBits", type := .long, accessFlags := 26, slot := 5, constantValue := 0 }, { name := "negativeZeroDoubleBits", type := .long, accessFlags := 26, slot := 6, constantValue := 0 }, { name := "twoToTheDoubleScaleUp", type := .double, accessFlags := 8, slot := 7, constantValue := 0 }, { name := "twoToTheDoubleScaleDown", type := .double, accessFlags := 8, slot := 8, constantValue := 0 }, { name := "$assertionsDisabled", type := .boolean, accessFlags := 4120, slot := 9, constantValue := 0 }]
  methods := #[k37m0, k37m1, k37m2]
  instanceTypes := #[]
  staticTypes := #[.double, .double, .double, .double, .double, .long, .long, .double, .double, .boolean]
  resolved := Array.replicate 460 none
  statics := none }

def pool38 : Array CpInfo := pool [(2, .class_ 4), (1, u "java/lang/Object"), (0, u "<init>"), (0, u "()V"), (1, .class_ 10), (1, u "java/lang/System"), (0, u "allowSecurityManager"), (0, u "I"), (16, u "cons"), (0, u "Ljava/io/Console;"), (77, .class_ 110), (1, u "java/lang/System$CallersHolder"), (43, u "initialErrStream"), (0, u "Ljava/io/PrintStream;"), (19, u "security"), (0, u "Ljava/lang/SecurityManager;"), (31, .class_ 209), (0, u "java/lang/System$1"), (7, u "props"), (0, u "Ljava/util/Properties;"), (2, u "lineSeparator"), (0, u "Ljava/lang/String;"), (96, .class_ 321), (1, u "java/lang/System$LoggerFinder"), (5, .class_ 328), (0, u "java/lang/System$Logger"), (67, u "err"), (2, u "out"), (91, u "notSupportedJnuEncoding"), (15, u "in"), (17, u "initialIn"), (0, u "Ljava/io/InputStream;"), (35, u "bootLayer"), (0, u "Ljava/lang/ModuleLayer;"), (99, .class_ 664), (0, u "java/lang/System$2"), (9, u "NEVER"), (2, u "MAYBE"), (49, u "arraycopy"), (0, u "(Ljava/lang/Object;ILjava/lang/Object;II)V"), (72, .class_ 802), (0, u "java/lang/System$Logger$Level")] 31

def k38m0 : Method := { name := "<init>", desc := "()V", sig := { parameters := [], returnType := none }, accessFlags := 2, code := none }
def k38m1 : Method := { name := "arraycopy", desc := "(Ljava/lang/Object;ILjava/lang/Object;II)V", sig := { parameters := [(.object "java/lang/Object"), .int, (.object "java/lang/Object"), .int, .int], returnType := none }, accessFlags := 265, code := none }
/-- java/lang/System -/
def k38 : Class := { plain "java/lang/System" (some 0) with
  accessFlags := 49
  interfaces := #[]
  cf := some (fileOf pool38 8 #[.nestMembers #[319, 327, 801, 108, 663, 208]] #[{ accessFlags := 2, nameIndex := 5, descriptorIndex := 6, attributes := #[] }, { accessFlags := 265, nameIndex := 727, descriptorIndex := 728, attributes := #[] }] 49 2 #[] #[{ accessFlags := 25, nameIndex := 507, descriptorIndex := 526, attributes := #[] }, { accessFlags := 25, nameIndex := 399, descriptorIndex := 155, attributes := #[] }, { accessFlags := 25, nameIndex := 396, descriptorIndex := 155, attributes := #[] }, { accessFlags := 10, nameIndex := 525, descriptorIndex := 526, attributes := #[] }, { accessFlags := 26, nameIndex := 674, descriptorIndex := 12, attributes := #[] }, { accessFlags := 26, nameIndex := 677, descriptorIndex := 12, attributes := #[] }, { accessFlags := 10, nameIndex := 11, descriptorIndex := 12, attributes := #[] }, { accessFlags := 74, nameIndex := 175, descriptorIndex := 176, attributes := #[] }, { accessFlags := 10, nameIndex := 491, descriptorIndex := 222, attributes := #[] }, { accessFlags := 74, nameIndex := 29, descriptorIndex := 30, attributes := #[] }, { accessFlags := 74, nameIndex := 154, descriptorIndex := 155, attributes := #[] }, { accessFlags := 10, nameIndex := 217, descriptorIndex := 218, attributes := #[] }, { accessFlags := 10, nameIndex := 221, descriptorIndex := 222, attributes := #[] }, { accessFlags := 8, nameIndex := 562, descriptorIndex := 563, attributes := #[] }])
  fields := #[{ name := "in", type := (.object "java/io/InputStream"), accessFlags := 25, slot := 0, constantValue := 0 }, { name := "out", type := (.object "java/io/PrintStream"), accessFlags := 25, slot := 1, constantValue := 0 }, { name := "err", type := (.object "java/io/PrintStream"), accessFlags := 25, slot := 2, constantValue := 0 }, { name := "initialIn", type := (.object "java/io/InputStream"), accessFlags := 10, slot := 3, constantValue := 0 }, { name := "NEVER", type := .int, accessFlags := 26, slot := 4, constantValue := 0 }, { name := "MAYBE", type := .int, accessFlags := 26, slot := 5, constantValue := 0 }, { name := "allowSecurityManager", type := .int, accessFlags := 10, slot := 6, constantValue := 0 }, { name := "security", type := (.object "java/lang/SecurityManager"), accessFlags := 74, slot := 7, constantValue := 0 }, { name := "notSupportedJnuEncoding", type := (.object "java/lang/String"), accessFlags := 10, slot := 8, constantValue := 0 }, { name := "cons", type := (.object "java/io/Console"), accessFlags := 74, slot := 9, constantValue := 0 }, { name := "initialErrStream", type := (.object "java/io/PrintStream"), accessFlags := 74, slot := 10, constantValue := 0 }, { name := "props", type := (.object "java/util/Properties"), accessFlags := 10, slot := 11, constantValue := 0 }, { name := "lineSeparator", type := (.object "java/lang/String"), accessFlags := 10, slot := 12, constantValue := 0 }, { name := "bootLayer", type := (.object "java/lang/ModuleLayer"), accessFlags := 8, slot := 13, constantValue := 0 }]
  methods := #[k38m0, k38m1]
  instanceTypes := #[]
  staticTypes := #[(.object "java/io/InputStream"), (.object "java/io/PrintStream"), (.object "java/io/PrintStream"), (.object "java/io/InputStream"), .int, .int, .int, (.object "java/lang/SecurityManager"), (.object "java/lang/String"), (.object "java/io/Console"), (.object "java/io/PrintStream"), (.object "java/util/Properties"), (.object "java/lang/String"), (.object "java/lang/ModuleLayer")]
  resolved := Array.replicate 834 none
  statics := none }

def pool39 : Array CpInfo := pool [(1, .methodref 2 3), (0, .class_ 4), (0, .nameAndType 5 6), (0, u "java/lang/Object"), (0, u "<init>"), (0, u "()V"), (0, .fieldref 8 9), (0, .class_ 10), (0, .nameAndType 11 12), (0, u "com/example/lockstep/lockstep/core/ChoicePoint"), (0, u "ways"), (0, u "I"), (0, .fieldref 8 14), (0, .nameAndType 15 12), (0, u "node"), (0, .fieldref 8 17), (0, .nameAndType 18 12), (0, u "taken"), (0, .fieldref 8 20), (0, .nameAndType 21 22), (0, u "value"), (0, u "Z"), (0, .fieldref 8 24), (0, .nameAndType 25 22), (0, u "matters"), (0, .fieldref 8 27), (0, .nameAndType 28 22), (0, u "failureMatters"), (0, .fieldref 8 30), (0, .nameAndType 31 32), (0, u "unspecified"), (0, u "Ljava/lang/String;"), (0, .fieldref 8 34), (0, .nameAndType 35 36), (0, u "unspecifiedPlace"), (0, u "Lcom/example/lockstep/lockstep/core/value/SourceLocation;"), (0, .fieldref 8 38), (0, .nameAndType 39 40), (0, u "standIns"), (0, u "Ljava/util/BitSet;"), (0, .fieldref 8 42), (0, .nameAndType 43 44), (0, u "settledBefore"), (0, u "J"), (0, .fieldref 8 46), (0, .nameAndType 47 22), (0, u "settled"), (0, .fieldref 8 49), (0, .nameAndType 50 12), (0, u "instruction"), (0, .methodref 8 52), (0, .nameAndType 53 54), (0, u "nextWay"), (0, u "()I"), (6, .methodref 62 63), (0, .class_ 64), (0, .nameAndType 65 66), (0, u "java/lang/Math"), (0, u "min"), (0, u "(II)I"), (2, u "open"), (0, u "(IIZLjava/lang/String;Lcom/example/lockstep/lockstep/core/value/SourceLocation;Ljava/util/BitSet;JI)V"), (0, u "takeNextWay"), (0, u "hasWayToTry"), (0, u "()Z"), (6, u "()J"), (0, u "isSettled")] 3

def k39c0 : Code := { maxStack := 1, maxLocals := 1, code := prog_75_method_1_code, exceptionTable := #[], attributes := #[] }
def k39m0 : Method := { name := "<init>", desc := "()V", sig := { parameters := [], returnType := none }, accessFlags := 0, code := some k39c0 }
def k39c1 : Code := { maxStack := 3, maxLocals := 10, code := prog_75_method_2_code, exceptionTable := #[], attributes := #[] }
def k39m1 : Method := { name := "open", desc := "(IIZLjava/lang/String;Lcom/example/lockstep/lockstep/core/value/SourceLocation;Ljava/util/BitSet;JI)V", sig := { parameters := [.int, .int, .boolean, (.object "java/lang/String"), (.object "com/example/lockstep/lockstep/core/value/SourceLocation"), (.object "java/util/BitSet"), .long, .int], returnType := none }, accessFlags := 0, code := some k39c1 }
def k39c2 : Code := { maxStack := 1, maxLocals := 1, code := prog_75_method_3_code, exceptionTable := #[], attributes := #[] }
def k39m2 : Method := { name := "ways", desc := "()I", sig := { parameters := [], returnType := some .int }, accessFlags := 0, code := some k39c2 }
def k39c3 : Code := { maxStack := 1, maxLocals := 1, code := prog_75_method_4_code, exceptionTable := #[], attributes := #[] }
def k39m3 : Method := { name := "node", desc := "()I", sig := { parameters := [], returnType := some .int }, accessFlags := 0, code := some k39c3 }
def k39c4 : Code := { maxStack := 1, maxLocals := 1, code := prog_75_method_5_code, exceptionTable := #[], attributes := #[] }
def k39m4 : Method := { name := "taken", desc := "()I", sig := { parameters := [], returnType := some .int }, accessFlags := 0, code := some k39c4 }
def k39c5 : Code := { maxStack := 2, maxLocals := 1, code := prog_75_method_6_code, exceptionTable := #[], attributes := #[] }
def k39m5 : Method := { name := "takeNextWay", desc := "()V", sig := { parameters := [], returnType := none }, accessFlags := 0, code := some k39c5 }
def k39c6 : Code := { maxStack := 2, maxLocals := 1, code := prog_75_method_7_code, exceptionTable := #[], attributes := #[] }
def k39m6 : Method := { name := "hasWayToTry", desc := "()Z", sig := { parameters := [], returnType := some .boolean }, accessFlags := 0, code := some k39c6 }
def k39c7 : Code := { maxStack := 2, maxLocals := 2, code := prog_75_method_8_code, exceptionTable := #[], attributes := #[] }
def k39m7 : Method := { name := "nextWay", desc := "()I", sig := { parameters := [], returnType := some .int }, accessFlags := 2, code := some k39c7 }
def k39c8 : Code := { maxStack := 2, maxLocals := 1, code := prog_75_method_15_code, exceptionTable := #[], attributes := #[] }
def k39m8 : Method := { name := "settledBefore", desc := "()J", sig := { parameters := [], returnType := some .long }, accessFlags := 0, code := some k39c8 }
def k39c9 : Code := { maxStack := 1, maxLocals := 1, code := prog_75_method_16_code, exceptionTable := #[], attributes := #[] }
def k39m9 : Method := { name := "isSettled", desc := "()Z", sig := { parameters := [], returnType := some .boolean }, accessFlags := 0, code := some k39c9 }
/-- com/example/lockstep/lockstep/core/ChoicePoint -/
def k39 : Class := { plain "com/example/lockstep/lockstep/core/ChoicePoint" (some 0) with
  accessFlags := 48
  interfaces := #[]
  cf := some (fileOf pool39 8 #[] #[{ accessFlags := 0, nameIndex := 5, descriptorIndex := 6, attributes := #[] }, { accessFlags := 0, nameIndex := 69, descriptorIndex := 70, attributes := #[] }, { accessFlags := 0, nameIndex := 11, descriptorIndex := 54, attributes := #[] }, { accessFlags := 0, nameIndex := 15, descriptorIndex := 54, attributes := #[] }, { accessFlags := 0, nameIndex := 18, descriptorIndex := 54, attributes := #[] }, { accessFlags := 0, nameIndex := 71, descriptorIndex := 6, attributes := #[] }, { accessFlags := 0, nameIndex := 72, descriptorIndex := 73, attributes := #[] }, { accessFlags := 2, nameIndex := 53, descriptorIndex := 54, attributes := #[] }, { accessFlags := 0, nameIndex := 43, descriptorIndex := 80, attributes := #[] }, { accessFlags := 0, nameIndex := 81, descriptorIndex := 73, attributes := #[] }] 48 2 #[] #[{ accessFlags := 2, nameIndex := 11, descriptorIndex := 12, attributes := #[] }, { accessFlags := 2, nameIndex := 15, descriptorIndex := 12, attributes := #[] }, { accessFlags := 2, nameIndex := 18, descriptorIndex := 12, attributes := #[] }, { accessFlags := 2, nameIndex := 21, descriptorIndex := 22, attributes := #[] }, { accessFlags := 2, nameIndex := 25, descriptorIndex := 22, attributes := #[] }, { accessFlags := 2, nameIndex := 28, descriptorIndex := 22, attributes := #[] }, { accessFlags := 2, nameIndex := 31, descriptorIndex := 32, attributes := #[] }, { accessFlags := 2, nameIndex := 35, descriptorIndex := 36, attributes := #[] }, { accessFlags := 2, nameIndex := 39, descriptorIndex := 40, attributes := #[] }, { accessFlags := 2, nameIndex := 43, descriptorIndex := 44, attributes := #[] }, { accessFlags := 2, nameIndex := 47, descriptorIndex := 22, attributes := #[] }, { accessFlags := 2, nameIndex := 50, descriptorIndex := 12, attributes := #[] }])
  fields := #[{ name := "ways", type := .int, accessFlags := 2, slot := 0, constantValue := 0 }, { name := "node", type := .int, accessFlags := 2, slot := 1, constantValue := 0 }, { name := "taken", type := .int, accessFlags := 2, slot := 2, constantValue := 0 }, { name := "value", type := .boolean, accessFlags := 2, slot := 3, constantValue := 0 }, { name := "matters", type := .boolean, accessFlags := 2, slot := 4, constantValue := 0 }, { name := "failureMatters", type := .boolean, accessFlags := 2, slot := 5, constantValue := 0 }, { name := "unspecified", type := (.object "java/lang/String"), accessFlags := 2, slot := 6, constantValue := 0 }, { name := "unspecifiedPlace", type := (.object "com/example/lockstep/lockstep/core/value/SourceLocation"), accessFlags := 2, slot := 7, constantValue := 0 }, { name := "standIns", type := (.object "java/util/BitSet"), accessFlags := 2, slot := 8, constantValue := 0 }, { name := "settledBefore", type := .long, accessFlags := 2, slot := 9, constantValue := 0 }, { name := "settled", type := .boolean, accessFlags := 2, slot := 10, constantValue := 0 }, { name := "instruction", type := .int, accessFlags := 2, slot := 11, constantValue := 0 }]
  methods := #[k39m0, k39m1, k39m2, k39m3, k39m4, k39m5, k39m6, k39m7, k39m8, k39m9]
  instanceTypes := #[.int, .int, .int, .boolean, .boolean, .boolean, (.object "java/lang/String"), (.object "com/example/lockstep/lockstep/core/value/SourceLocation"), (.object "java/util/BitSet"), .long, .boolean, .int]
  staticTypes := #[]
  resolved := Array.replicate 85 none
  statics := none }

def pool40 : Array CpInfo := pool [(1, .class_ 2), (0, u "java/lang/Comparable"), (0, .class_ 4), (0, u "java/lang/Object")] 7

/-- java/lang/Comparable -/
def k40 : Class := { plain "java/lang/Comparable" (some 0) with
  accessFlags := 1537
  interfaces := #[]
  cf := some (fileOf pool40 1 #[] #[] 1537 3 #[] #[])
  fields := #[]
  methods := #[]
  instanceTypes := #[]
  staticTypes := #[]
  resolved := Array.replicate 12 none
  statics := none }

def pool41 : Array CpInfo := pool [(2, .class_ 4), (1, u "java/lang/CharSequence"), (42, .class_ 48), (0, u "java/lang/CharSequence$1CodePointIterator"), (10, .class_ 60), (0, u "java/lang/CharSequence$1CharIterator"), (5, .class_ 67), (0, u "java/lang/Object")] 63

/-- java/lang/CharSequence -/
def k41 : Class := { plain "java/lang/CharSequence" (some 0) with
  accessFlags := 1537
  interfaces := #[]
  cf := some (fileOf pool41 2 #[.nestMembers #[47, 59]] #[] 1537 66 #[] #[])
  fields := #[]
  methods := #[]
  instanceTypes := #[]
  staticTypes := #[]
  resolved := Array.replicate 131 none
  statics := none }

def pool42 : Array CpInfo := pool [(1, .class_ 2), (0, u "java/lang/constant/Constable"), (0, .class_ 4), (0, u "java/lang/Object")] 6

/-- java/lang/constant/Constable -/
def k42 : Class := { plain "java/lang/constant/Constable" (some 0) with
  accessFlags := 1537
  interfaces := #[]
  cf := some (fileOf pool42 1 #[] #[] 1537 3 #[] #[])
  fields := #[]
  methods := #[]
  instanceTypes := #[]
  staticTypes := #[]
  resolved := Array.replicate 11 none
  statics := none }

def pool43 : Array CpInfo := pool [(1, .class_ 2), (0, u "java/lang/constant/ConstantDesc"), (0, .class_ 4), (0, u "java/lang/Object")] 32

/-- java/lang/constant/ConstantDesc -/
def k43 : Class := { plain "java/lang/constant/ConstantDesc" (some 0) with
  accessFlags := 1537
  interfaces := #[]
  cf := some (fileOf pool43 1 #[] #[] 1537 3 #[] #[])
  fields := #[]
  methods := #[]
  instanceTypes := #[]
  staticTypes := #[]
  resolved := Array.replicate 37 none
  statics := none }

def pool44 : Array CpInfo := pool [(2, .class_ 4), (1, u "java/lang/Object"), (0, u "<init>"), (0, u "()V"), (2, .fieldref 10 11), (0, .class_ 12), (0, .nameAndType 13 14), (0, u "java/lang/String"), (0, u "value"), (0, u "[B"), (2, u "coder"), (0, u "B"), (2, u "hash"), (0, u "I"), (2, u "hashIsZero"), (0, u "Z"), (13, u "COMPACT_STRINGS"), (101, u "()Z"), (432, .class_ 576), (0, u "java/lang/CharSequence"), (22, u "CASE_INSENSITIVE_ORDER"), (0, u "Ljava/util/Comparator;"), (91, u "isEmpty"), (408, u "serialPersistentFields"), (0, u "[Ljava/io/ObjectStreamField;"), (0, .class_ 1104), (0, u "java/lang/String$CaseInsensitiveComparator"), (1, .class_ 1107), (0, u "java/io/Serializable"), (0, .class_ 1109), (0, u "java/lang/Comparable"), (0, .class_ 1111), (0, u "java/lang/constant/Constable"), (0, .class_ 1113), (0, u "java/lang/constant/ConstantDesc"), (2, u "serialVersionUID"), (0, u "J"), (3, u "REPL"), (0, u "C"), (2, u "LATIN1"), (1, u "UTF16")] 323

def k44m0 : Method := { name := "<init>", desc := "()V", sig := { parameters := [], returnType := none }, accessFlags := 1, code := none }
def k44c1 : Code := { maxStack := 1, maxLocals := 1, code := jdk_42_method_55_code, exceptionTable := #[], attributes := #[] }
def k44m1 : Method := { name := "isEmpty", desc := "()Z", sig := { parameters := [], returnType := some .boolean }, accessFlags := 1, code := some k44c1 }
/-- java/lang/String -/
def k44 : Class := { plain "java/lang/String" (some 0) with
  accessFlags := 49
  interfaces := #[4, 40, 41, 42, 43]
  cf := some (fileOf pool44 10 #[.nestMembers #[1103]] #[{ accessFlags := 1, nameIndex := 5, descriptorIndex := 6, attributes := #[] }, { accessFlags := 1, nameIndex := 692, descriptorIndex := 142, attributes := #[] }] 49 2 #[1106, 1108, 575, 1110, 1112] #[{ accessFlags := 18, nameIndex := 13, descriptorIndex := 14, attributes := #[] }, { accessFlags := 18, nameIndex := 17, descriptorIndex := 18, attributes := #[] }, { accessFlags := 2, nameIndex := 21, descriptorIndex := 22, attributes := #[] }, { accessFlags := 2, nameIndex := 25, descriptorIndex := 26, attributes := #[] }, { accessFlags := 26, nameIndex := 1116, descriptorIndex := 1117, attributes := #[] }, { accessFlags := 24, nameIndex := 40, descriptorIndex := 26, attributes := #[] }, { accessFlags := 26, nameIndex := 1101, descriptorIndex := 1102, attributes := #[] }, { accessFlags := 26, nameIndex := 1121, descriptorIndex := 1122, attributes := #[] }, { accessFlags := 25, nameIndex := 599, descriptorIndex := 600, attributes := #[] }, { accessFlags := 24, nameIndex := 1125, descriptorIndex := 18, attributes := #[] }, { accessFlags := 24, nameIndex := 1127, descriptorIndex := 18, attributes := #[] }])
  fields := #[{ name := "value", type := (.array .byte), accessFlags := 18, slot := 0, constantValue := 0 }, { name := "coder", type := .byte, accessFlags := 18, slot := 1, constantValue := 0 }, { name := "hash", type := .int, accessFlags := 2, slot := 2, constantValue := 0 }, { name := "hashIsZero", type := .boolean, accessFlags := 2, slot := 3, constantValue := 0 }, { name := "serialVersionUID", type := .long, accessFlags := 26, slot := 0, constantValue := 0 }, { name := "COMPACT_STRINGS", type := .boolean, accessFlags := 24, slot := 1, constantValue := 0 }, { name := "serialPersistentFields", type := (.array (.object "java/io/ObjectStreamField")), accessFlags := 26, slot := 2, constantValue := 0 }, { name := "REPL", type := .char, accessFlags := 26, slot := 3, constantValue := 0 }, { name := "CASE_INSENSITIVE_ORDER", type := (.object "java/util/Comparator"), accessFlags := 25, slot := 4, constantValue := 0 }, { name := "LATIN1", type := .byte, accessFlags := 24, slot := 5, constantValue := 0 }, { name := "UTF16", type := .byte, accessFlags := 24, slot := 6, constantValue := 0 }]
  methods := #[k44m0, k44m1]
  instanceTypes := #[(.array .byte), .byte, .int, .boolean]
  staticTypes := #[.long, .boolean, (.array (.object "java/io/ObjectStreamField")), .char, (.object "java/util/Comparator"), .byte, .byte]
  resolved := Array.replicate 1451 none
  statics := some 1 }

def pool45 : Array CpInfo := pool [(1, .methodref 2 3), (0, .class_ 4), (0, .nameAndType 5 6), (0, u "java/lang/Object"), (0, u "<init>"), (0, u "()V"), (0, .methodref 8 9), (0, .class_ 10), (0, .nameAndType 11 12), (0, u "java/lang/String"), (0, u "isEmpty"), (0, u "()Z"), (12, .fieldref 26 27), (0, .class_ 28), (0, .nameAndType 29 30), (0, u "com/example/lockstep/lockstep/core/value/SourceLocation"), (0, u "path"), (0, u "Ljava/lang/String;"), (0, .fieldref 26 32), (0, .nameAndType 33 34), (0, u "line"), (0, u "I"), (0, .fieldref 26 36), (0, .nameAndType 37 34), (0, u "column"), (0, .string 29), (0, .methodref 40 41), (0, .class_ 42), (0, .nameAndType 43 44), (0, u "java/util/Objects"), (0, u "requireNonNull"), (0, u "(Ljava/lang/Object;Ljava/lang/String;)Ljava/lang/Object;"), (0, .methodref 26 46), (0, .nameAndType 5 47), (0, u "(Ljava/lang/String;II)V"), (20, u "of"), (0, u "(Ljava/lang/String;II)Lcom/example/lockstep/lockstep/core/value/SourceLocation;")] 28

def k45c0 : Code := { maxStack := 3, maxLocals := 4, code := prog_359_method_1_code, exceptionTable := #[], attributes := #[] }
def k45m0 : Method := { name := "<init>", desc := "(Ljava/lang/String;II)V", sig := { parameters := [(.object "java/lang/String"), .int, .int], returnType := none }, accessFlags := 2, code := some k45c0 }
def k45c1 : Code := { maxStack := 5, maxLocals := 3, code := prog_359_method_2_code, exceptionTable := #[], attributes := #[] }
def k45m1 : Method := { name := "of", desc := "(Ljava/lang/String;II)Lcom/example/lockstep/lockstep/core/value/SourceLocation;", sig := { parameters := [(.object "java/lang/String"), .int, .int], returnType := some (.object "com/example/lockstep/lockstep/core/value/SourceLocation") }, accessFlags := 9, code := some k45c1 }
/-- com/example/lockstep/lockstep/core/value/SourceLocation -/
def k45 : Class := { plain "com/example/lockstep/lockstep/core/value/SourceLocation" (some 0) with
  accessFlags := 49
  interfaces := #[]
  cf := some (fileOf pool45 26 #[] #[{ accessFlags := 2, nameIndex := 5, descriptorIndex := 47, attributes := #[] }, { accessFlags := 9, nameIndex := 68, descriptorIndex := 69, attributes := #[] }] 49 2 #[] #[{ accessFlags := 18, nameIndex := 29, descriptorIndex := 30, attributes := #[] }, { accessFlags := 18, nameIndex := 33, descriptorIndex := 34, attributes := #[] }, { accessFlags := 18, nameIndex := 37, descriptorIndex := 34, attributes := #[] }])
  fields := #[{ name := "path", type := (.object "java/lang/String"), accessFlags := 18, slot := 0, constantValue := 0 }, { name := "line", type := .int, accessFlags := 18, slot := 1, constantValue := 0 }, { name := "column", type := .int, accessFlags := 18, slot := 2, constantValue := 0 }]
  methods := #[k45m0, k45m1]
  instanceTypes := #[(.object "java/lang/String"), .int, .int]
  staticTypes := #[]
  resolved := Array.replicate 98 none
  statics := none }

def pool46 : Array CpInfo := pool [(2, .class_ 4), (1, u "java/lang/Object"), (0, u "<init>"), (0, u "()V"), (35, .class_ 44), (1, u "java/util/Objects"), (0, u "requireNonNull"), (48, u "(Ljava/lang/Object;Ljava/lang/String;)Ljava/lang/Object;")] 89

def k46m0 : Method := { name := "<init>", desc := "()V", sig := { parameters := [], returnType := none }, accessFlags := 2, code := none }
def k46c1 : Code := { maxStack := 3, maxLocals := 2, code := jdk_31_method_11_code, exceptionTable := #[], attributes := #[] }
def k46m1 : Method := { name := "requireNonNull", desc := "(Ljava/lang/Object;Ljava/lang/String;)Ljava/lang/Object;", sig := { parameters := [(.object "java/lang/Object"), (.object "java/lang/String")], returnType := some (.object "java/lang/Object") }, accessFlags := 9, code := some k46c1 }
/-- java/util/Objects -/
def k46 : Class := { plain "java/util/Objects" (some 0) with
  accessFlags := 49
  interfaces := #[]
  cf := some (fileOf pool46 42 #[] #[{ accessFlags := 2, nameIndex := 5, descriptorIndex := 6, attributes := #[] }, { accessFlags := 9, nameIndex := 45, descriptorIndex := 94, attributes := #[] }] 49 2 #[] #[])
  fields := #[]
  methods := #[k46m0, k46m1]
  instanceTypes := #[]
  staticTypes := #[]
  resolved := Array.replicate 184 none
  statics := none }

def pool47 : Array CpInfo := pool [(1, .methodref 2 3), (0, .class_ 4), (0, .nameAndType 5 6), (0, u "java/lang/Object"), (0, u "<init>"), (0, u "()V"), (0, .fieldref 8 9), (0, .class_ 10), (0, .nameAndType 11 12), (0, u "com/example/lockstep/lockstep/core/ActiveLevels"), (0, u "least"), (0, u "I"), (2, .integer 2147483647), (0, .fieldref 8 17), (0, .nameAndType 18 12), (0, u "most"), (0, .fieldref 8 20), (0, .nameAndType 21 12), (0, u "supported"), (0, .fieldref 8 23), (0, .nameAndType 24 25), (0, u "search"), (0, u "Lcom/example/lockstep/lockstep/core/Search;"), (0, .fieldref 8 27), (0, .nameAndType 28 29), (0, u "fixed"), (0, u "Z"), (0, .fieldref 8 31), (0, .nameAndType 32 29), (0, u "supportFixed"), (0, .fieldref 8 34), (0, .nameAndType 35 29), (0, u "bySupport"), (15, u "exceeds"), (0, u "(ILjava/lang/String;Lcom/example/lockstep/lockstep/core/value/SourceLocation;)Z"), (0, .methodref 54 55), (0, .class_ 56), (0, .nameAndType 57 58), (0, u "com/example/lockstep/lockstep/core/Search"), (0, u "chooseUnspecified"), (0, u "(ILjava/lang/String;Lcom/example/lockstep/lockstep/core/value/SourceLocation;)I"), (0, .methodref 60 61), (0, .class_ 62), (0, .nameAndType 63 64), (0, u "java/lang/Math"), (0, u "max"), (0, u "(II)I"), (0, .methodref 60 66), (0, .nameAndType 67 64), (0, u "min"), (6, u "(Lcom/example/lockstep/lockstep/core/Search;)V"), (7, u "()I"), (0, u "isFixed"), (0, u "()Z"), (0, u "setMost"), (0, u "(I)V"), (0, u "setNested"), (0, u "(Z)V")] 19

def k47c0 : Code := { maxStack := 2, maxLocals := 2, code := prog_39_method_1_code, exceptionTable := #[], attributes := #[] }
def k47m0 : Method := { name := "<init>", desc := "(Lcom/example/lockstep/lockstep/core/Search;)V", sig := { parameters := [(.object "com/example/lockstep/lockstep/core/Search")], returnType := none }, accessFlags := 0, code := some k47c0 }
def k47c1 : Code := { maxStack := 4, maxLocals := 4, code := prog_39_method_5_code, exceptionTable := #[], attributes := #[] }
def k47m1 : Method := { name := "exceeds", desc := "(ILjava/lang/String;Lcom/example/lockstep/lockstep/core/value/SourceLocation;)Z", sig := { parameters := [.int, (.object "java/lang/String"), (.object "com/example/lockstep/lockstep/core/value/SourceLocation")], returnType := some .boolean }, accessFlags := 0, code := some k47c1 }
def k47c2 : Code := { maxStack := 1, maxLocals := 1, code := prog_39_method_6_code, exceptionTable := #[], attributes := #[] }
def k47m2 : Method := { name := "least", desc := "()I", sig := { parameters := [], returnType := some .int }, accessFlags := 0, code := some k47c2 }
def k47c3 : Code := { maxStack := 1, maxLocals := 1, code := prog_39_method_7_code, exceptionTable := #[], attributes := #[] }
def k47m3 : Method := { name := "isFixed", desc := "()Z", sig := { parameters := [], returnType := some .boolean }, accessFlags := 0, code := some k47c3 }
def k47c4 : Code := { maxStack := 3, maxLocals := 2, code := prog_39_method_8_code, exceptionTable := #[], attributes := #[] }
def k47m4 : Method := { name := "setMost", desc := "(I)V", sig := { parameters := [.int], returnType := none }, accessFlags := 0, code := some k47c4 }
def k47c5 : Code := { maxStack := 2, maxLocals := 2, code := prog_39_method_9_code, exceptionTable := #[], attributes := #[] }
def k47m5 : Method := { name := "setNested", desc := "(Z)V", sig := { parameters := [.boolean], returnType := none }, accessFlags := 0, code := some k47c5 }
/-- com/example/lockstep/lockstep/core/ActiveLevels -/
def k47 : Class := { plain "com/example/lockstep/lockstep/core/ActiveLevels" (some 0) with
  accessFlags := 48
  interfaces := #[]
  cf := some (fileOf pool47 8 #[] #[{ accessFlags := 0, nameIndex := 5, descriptorIndex := 74, attributes := #[] }, { accessFlags := 0, nameIndex := 51, descriptorIndex := 52, attributes := #[] }, { accessFlags := 0, nameIndex := 11, descriptorIndex := 82, attributes := #[] }, { accessFlags := 0, nameIndex := 83, descriptorIndex := 84, attributes := #[] }, { accessFlags := 0, nameIndex := 85, descriptorIndex := 86, attributes := #[] }, { accessFlags := 0, nameIndex := 87, descriptorIndex := 88, attributes := #[] }] 48 2 #[] #[{ accessFlags := 18, nameIndex := 24, descriptorIndex := 25, attributes := #[] }, { accessFlags := 2, nameIndex := 11, descriptorIndex := 12, attributes := #[] }, { accessFlags := 2, nameIndex := 28, descriptorIndex := 29, attributes := #[] }, { accessFlags := 2, nameIndex := 18, descriptorIndex := 12, attributes := #[] }, { accessFlags := 2, nameIndex := 21, descriptorIndex := 12, attributes := #[] }, { accessFlags := 2, nameIndex := 32, descriptorIndex := 29, attributes := #[] }, { accessFlags := 2, nameIndex := 35, descriptorIndex := 29, attributes := #[] }])
  fields := #[{ name := "search", type := (.object "com/example/lockstep/lockstep/core/Search"), accessFlags := 18, slot := 0, constantValue := 0 }, { name := "least", type := .int, accessFlags := 2, slot := 1, constantValue := 0 }, { name := "fixed", type := .boolean, accessFlags := 2, slot := 2, constantValue := 0 }, { name := "most", type := .int, accessFlags := 2, slot := 3, constantValue := 0 }, { name := "supported", type := .int, accessFlags := 2, slot := 4, constantValue := 0 }, { name := "supportFixed", type := .boolean, accessFlags := 2, slot := 5, constantValue := 0 }, { name := "bySupport", type := .boolean, accessFlags := 2, slot := 6, constantValue := 0 }]
  methods := #[k47m0, k47m1, k47m2, k47m3, k47m4, k47m5]
  instanceTypes := #[(.object "com/example/lockstep/lockstep/core/Search"), .int, .boolean, .int, .int, .boolean, .boolean]
  staticTypes := #[]
  resolved := Array.replicate 108 none
  statics := none }

def pool48 : Array CpInfo := pool [(4, .class_ 6), (1, u "java/lang/Object"), (0, u "<init>"), (0, u "()V"), (5, .class_ 16), (1, u "java/lang/StringLatin1"), (104, u "$assertionsDisabled"), (0, u "Z"), (98, .class_ 223), (1, u "java/lang/StringLatin1$LinesSpliterator"), (166, .class_ 391), (0, u "java/lang/StringLatin1$CharsSpliterator")] 3

def k48m0 : Method := { name := "<init>", desc := "()V", sig := { parameters := [], returnType := none }, accessFlags := 0, code := none }
/-- java/lang/StringLatin1 -/
def k48 : Class := { plain "java/lang/StringLatin1" (some 0) with
  accessFlags := 48
  interfaces := #[]
  cf := some (fileOf pool48 14 #[.nestMembers #[390, 221]] #[{ accessFlags := 0, nameIndex := 7, descriptorIndex := 8, attributes := #[] }] 48 4 #[] #[{ accessFlags := 4120, nameIndex := 121, descriptorIndex := 122, attributes := #[] }])
  fields := #[{ name := "$assertionsDisabled", type := .boolean, accessFlags := 4120, slot := 0, constantValue := 0 }]
  methods := #[k48m0]
  instanceTypes := #[]
  staticTypes := #[.boolean]
  resolved := Array.replicate 395 none
  statics := none }

def pool49 : Array CpInfo := pool [(2, .class_ 4), (1, u "java/lang/Object"), (0, u "<init>"), (0, u "()V"), (17, .class_ 26), (1, u "jdk/internal/util/Preconditions"), (28, .class_ 56), (0, u "jdk/internal/util/Preconditions$4"), (57, .class_ 115), (0, u "jdk/internal/util/Preconditions$1"), (7, u "SIOOBE_FORMATTER"), (0, u "Ljava/util/function/BiFunction;"), (0, .class_ 126), (0, u "jdk/internal/util/Preconditions$2"), (3, u "AIOOBE_FORMATTER"), (0, .class_ 132), (0, u "jdk/internal/util/Preconditions$3"), (3, u "IOOBE_FORMATTER")] 57

def k49m0 : Method := { name := "<init>", desc := "()V", sig := { parameters := [], returnType := none }, accessFlags := 1, code := none }
/-- jdk/internal/util/Preconditions -/
def k49 : Class := { plain "jdk/internal/util/Preconditions" (some 0) with
  accessFlags := 33
  interfaces := #[]
  cf := some (fileOf pool49 24 #[.nestMembers #[55, 131, 125, 114]] #[{ accessFlags := 1, nameIndex := 5, descriptorIndex := 6, attributes := #[] }] 33 2 #[] #[{ accessFlags := 25, nameIndex := 123, descriptorIndex := 124, attributes := #[] }, { accessFlags := 25, nameIndex := 130, descriptorIndex := 124, attributes := #[] }, { accessFlags := 25, nameIndex := 136, descriptorIndex := 124, attributes := #[] }])
  fields := #[{ name := "SIOOBE_FORMATTER", type := (.object "java/util/function/BiFunction"), accessFlags := 25, slot := 0, constantValue := 0 }, { name := "AIOOBE_FORMATTER", type := (.object "java/util/function/BiFunction"), accessFlags := 25, slot := 1, constantValue := 0 }, { name := "IOOBE_FORMATTER", type := (.object "java/util/function/BiFunction"), accessFlags := 25, slot := 2, constantValue := 0 }]
  methods := #[k49m0]
  instanceTypes := #[]
  staticTypes := #[(.object "java/util/function/BiFunction"), (.object "java/util/function/BiFunction"), (.object "java/util/function/BiFunction")]
  resolved := Array.replicate 194 none
  statics := some 2 }

def pool50 : Array CpInfo := pool [(9, u "<init>"), (6, .class_ 18), (1, u "java/lang/Object"), (0, u "()V"), (1, .class_ 23), (1, u "jdk/internal/util/ArraysSupport"), (0, u "LOG2_ARRAY_LONG_INDEX_SCALE"), (0, u "I"), (2, u "U"), (0, u "Ljdk/internal/misc/Unsafe;"), (8, u "BIG_ENDIAN"), (0, u "Z"), (8, u "LOG2_BYTE_BIT_SIZE"), (4, u "LOG2_ARRAY_INT_INDEX_SCALE"), (54, u "JLA"), (0, u "Ljdk/internal/access/JavaLangAccess;"), (11, u "LOG2_ARRAY_BOOLEAN_INDEX_SCALE"), (9, u "LOG2_ARRAY_BYTE_INDEX_SCALE"), (5, u "LOG2_ARRAY_CHAR_INDEX_SCALE"), (5, u "LOG2_ARRAY_SHORT_INDEX_SCALE"), (18, u "LOG2_ARRAY_FLOAT_INDEX_SCALE"), (24, u "LOG2_ARRAY_DOUBLE_INDEX_SCALE"), (89, u "T_BOOLEAN"), (2, u "T_CHAR"), (1, u "T_FLOAT"), (1, u "T_DOUBLE"), (1, u "T_BYTE"), (1, u "T_SHORT"), (1, u "T_INT"), (1, u "T_LONG"), (1, u "SOFT_MAX_ARRAY_LENGTH")] 83

def k50m0 : Method := { name := "<init>", desc := "()V", sig := { parameters := [], returnType := none }, accessFlags := 2, code := none }
/-- jdk/internal/util/ArraysSupport -/
def k50 : Class := { plain "jdk/internal/util/ArraysSupport" (some 0) with
  accessFlags := 33
  interfaces := #[]
  cf := some (fileOf pool50 21 #[] #[{ accessFlags := 2, nameIndex := 9, descriptorIndex := 19, attributes := #[] }] 33 16 #[] #[{ accessFlags := 24, nameIndex := 28, descriptorIndex := 29, attributes := #[] }, { accessFlags := 26, nameIndex := 38, descriptorIndex := 39, attributes := #[] }, { accessFlags := 25, nameIndex := 121, descriptorIndex := 25, attributes := #[] }, { accessFlags := 25, nameIndex := 131, descriptorIndex := 25, attributes := #[] }, { accessFlags := 25, nameIndex := 137, descriptorIndex := 25, attributes := #[] }, { accessFlags := 25, nameIndex := 143, descriptorIndex := 25, attributes := #[] }, { accessFlags := 25, nameIndex := 53, descriptorIndex := 25, attributes := #[] }, { accessFlags := 25, nameIndex := 24, descriptorIndex := 25, attributes := #[] }, { accessFlags := 25, nameIndex := 162, descriptorIndex := 25, attributes := #[] }, { accessFlags := 25, nameIndex := 187, descriptorIndex := 25, attributes := #[] }, { accessFlags := 26, nameIndex := 48, descriptorIndex := 25, attributes := #[] }, { accessFlags := 25, nameIndex := 277, descriptorIndex := 25, attributes := #[] }, { accessFlags := 25, nameIndex := 280, descriptorIndex := 25, attributes := #[] }, { accessFlags := 25, nameIndex := 282, descriptorIndex := 25, attributes := #[] }, { accessFlags := 25, nameIndex := 284, descriptorIndex := 25, attributes := #[] }, { accessFlags := 25, nameIndex := 286, descriptorIndex := 25, attributes := #[] }, { accessFlags := 25, nameIndex := 288, descriptorIndex := 25, attributes := #[] }, { accessFlags := 25, nameIndex := 290, descriptorIndex := 25, attributes := #[] }, { accessFlags := 25, nameIndex := 292, descriptorIndex := 25, attributes := #[] }, { accessFlags := 26, nameIndex := 108, descriptorIndex := 109, attributes := #[] }, { accessFlags := 25, nameIndex := 294, descriptorIndex := 25, attributes := #[] }])
  fields := #[{ name := "U", type := (.object "jdk/internal/misc/Unsafe"), accessFlags := 24, slot := 0, constantValue := 0 }, { name := "BIG_ENDIAN", type := .boolean, accessFlags := 26, slot := 1, constantValue := 0 }, { name := "LOG2_ARRAY_BOOLEAN_INDEX_SCALE", type := .int, accessFlags := 25, slot := 2, constantValue := 0 }, { name := "LOG2_ARRAY_BYTE_INDEX_SCALE", type := .int, accessFlags := 25, slot := 3, constantValue := 0 }, { name := "LOG2_ARRAY_CHAR_INDEX_SCALE", type := .int, accessFlags := 25, slot := 4, constantValue := 0 }, { name := "LOG2_ARRAY_SHORT_INDEX_SCALE", type := .int, accessFlags := 25, slot := 5, constantValue := 0 }, { name := "LOG2_ARRAY_INT_INDEX_SCALE", type := .int, accessFlags := 25, slot := 6, constantValue := 0 }, { name := "LOG2_ARRAY_LONG_INDEX_SCALE", type := .int, accessFlags := 25, slot := 7, constantValue := 0 }, { name := "LOG2_ARRAY_FLOAT_INDEX_SCALE", type := .int, accessFlags := 25, slot := 8, constantValue := 0 }, { name := "LOG2_ARRAY_DOUBLE_INDEX_SCALE", type := .int, accessFlags := 25, slot := 9, constantValue := 0 }, { name := "LOG2_BYTE_BIT_SIZE", type := .int, accessFlags := 26, slot := 10, constantValue := 0 }, { name := "T_BOOLEAN", type := .int, accessFlags := 25, slot := 11, constantValue := 0 }, { name := "T_CHAR", type := .int, accessFlags := 25, slot := 12, constantValue := 0 }, { name := "T_FLOAT", type := .int, accessFlags := 25, slot := 13, constantValue := 0 }, { name := "T_DOUBLE", type := .int, accessFlags := 25, slot := 14, constantValue := 0 }, { name := "T_BYTE", type := .int, accessFlags := 25, slot := 15, constantValue := 0 }, { name := "T_SHORT", type := .int, accessFlags := 25, slot := 16, constantValue := 0 }, { name := "T_INT", type := .int, accessFlags := 25, slot := 17, constantValue := 0 }, { name := "T_LONG", type := .int, accessFlags := 25, slot := 18, constantValue := 0 }, { name := "JLA", type := (.object "jdk/internal/access/JavaLangAccess"), accessFlags := 26, slot := 19, constantValue := 0 }, { name := "SOFT_MAX_ARRAY_LENGTH", type := .int, accessFlags := 25, slot := 20, constantValue := 0 }]
  methods := #[k50m0]
  instanceTypes := #[]
  staticTypes := #[(.object "jdk/internal/misc/Unsafe"), .boolean, .int, .int, .int, .int, .int, .int, .int, .int, .int, .int, .int, .int, .int, .int, .int, .int, .int, (.object "jdk/internal/access/JavaLangAccess"), .int]
  resolved := Array.replicate 378 none
  statics := none }

def pool51 : Array CpInfo := pool [(1, u "java/lang/Class"), (0, .class_ 1), (0, u "java/lang/Object"), (0, .class_ 3)] 0

/-- java/lang/Class -/
def k51 : Class := { plain "java/lang/Class" (some 0) with
  accessFlags := 49
  interfaces := #[]
  cf := some (fileOf pool51 2 #[] #[] 49 4 #[] #[])
  fields := #[]
  methods := #[]
  instanceTypes := #[]
  staticTypes := #[]
  resolved := Array.replicate 5 none
  statics := none }

/-- the primitive byte -/
def k52 : Class := { plain "byte" none with kind := .primitive 'B', accessFlags := 0x411 }
/-- [B -/
def k53 : Class := { plain "[B" (some 0) with kind := .array 52 .byte, interfaces := #[3, 4], accessFlags := 1041 }

/-- the primitive int -/
def k54 : Class := { plain "int" none with kind := .primitive 'I', accessFlags := 0x411 }
/-- [I -/
def k55 : Class := { plain "[I" (some 0) with kind := .array 54 .int, interfaces := #[3, 4], accessFlags := 1041 }

/-- the primitive long -/
def k56 : Class := { plain "long" none with kind := .primitive 'J', accessFlags := 0x411 }
/-- [J -/
def k57 : Class := { plain "[J" (some 0) with kind := .array 56 .long, interfaces := #[3, 4], accessFlags := 1041 }

/-- [Lcom/example/lockstep/lockstep/core/ChoicePoint; -/
def k58 : Class := { plain "[Lcom/example/lockstep/lockstep/core/ChoicePoint;" (some 0) with kind := .array 39 (.object "com/example/lockstep/lockstep/core/ChoicePoint"), interfaces := #[3, 4], accessFlags := 1041 }

/-- [Ljava/lang/Object; -/
def k59 : Class := { plain "[Ljava/lang/Object;" (some 0) with kind := .array 0 (.object "java/lang/Object"), interfaces := #[3, 4], accessFlags := 1041, mirror := some 5 }

def heap : Heap := #[{ cls := 30, slots := #[.long 0, .int 0, .ref 6, .ref 7], vm := .statics 30 },
  { cls := 44, slots := #[.long 0, .int 1, .null, .int 0, .null, .int 0, .int 0], vm := .statics 44 },
  { cls := 49, slots := #[.null, .null, .null], vm := .statics 49 },
  { cls := 51, slots := #[], vm := .mirror 33 },
  { cls := 51, slots := #[], vm := .mirror 30 },
  { cls := 51, slots := #[], vm := .mirror 59 },
  { cls := 59, slots := #[], vm := .none },
  { cls := 59, slots := #[], vm := .none }]
def classes : Array Class := #[k0, k1, k2, k3, k4, k5, k6, k7, k8, k9, k10, k11, k12, k13, k14, k15, k16, k17, k18, k19, k20, k21, k22, k23, k24, k25, k26, k27, k28, k29, k30, k31, k32, k33, k34, k35, k36, k37, k38, k39, k40, k41, k42, k43, k44, k45, k46, k47, k48, k49, k50, k51, k52, k53, k54, k55, k56, k57, k58, k59]
def interned : List (Array UInt16 × Addr) := []
def slotsUsed : Nat := 14
def theMethod : MethodId := ⟨1, 1⟩
def args0 : Array Value := #[.int 31, .int 3]
def aboutOver (below : List Frame) : State where
  vm := { classes := classes, interned := interned.toArray }
  heap := heap
  slotsUsed := slotsUsed
  threads := #[{ frames := .invoking theMethod args0 :: below }]
def below0 : List Frame := [.native { method := ⟨0, 0⟩, args := #[] }]
def about1 : State := aboutOver below0
def p0 : Program := .bare "" "" ""
def e0 : Env := launch0.env 0 0 0
theorem w_frames : about1.frames = Frame.invoking theMethod args0 :: below0 := rfl
set_option maxRecDepth 65536 in
theorem w_args : argsFit about1.vm theMethod args0 = true := by decide +kernel
set_option maxRecDepth 65536 in
theorem w_heap : heapFits about1 = true := by decide +kernel
set_option maxRecDepth 65536 in
theorem w_runnable : about1.curStatus? = some .runnable := by decide +kernel
set_option maxRecDepth 65536 in
theorem w_alone : about1.alone = true := by decide +kernel
set_option maxRecDepth 65536 in
theorem w_named : about1.methodNamed? x = some theMethod := by decide +kernel
set_option maxRecDepth 65536 in
theorem w_hears : about1.hears theMethod below0 = true := by decide +kernel
set_option maxRecDepth 65536 in
theorem w_ripe : about1.ripe theMethod args0 below0 = true := by decide +kernel
theorem w_running : about1.status = .running := rfl
set_option maxRecDepth 65536 in
theorem w_room : about1.hasRoom e0.platform room_1 = true :=
  launch0.hasRoom_least _ room_1 (by decide +kernel) (by decide +kernel) (by decide +kernel) (by decide +kernel) (by decide +kernel) (by decide +kernel)
theorem allAtoms_all (ts : List Jvm.Cond) (a : Array Jvm.Value) (st : Jvm.State) : (allAtoms ts).before a st = ts.all (fun c => c.before a st) := by
  induction ts with
  | nil => rfl
  | cons c t ih =>
    show (Jvm.Cond.and c (allAtoms t)).before a st = _
    rw [Jvm.Cond.before_and, ih, List.all_cons]
def words1 : List Jvm.Cond := Jvm.Cond.code x code maxLocals ret :: tables_1
/-- a 'code' word, met by the world's own term for the bytes: nothing is compared byte by byte -/
theorem code_word {y : MethodName} {bytes : ByteArray} {mx : Nat} {rt : Option FieldType} {a : Array Value} {s : State} {m : MethodId} {meth : Method} {c : Code} (h1 : s.methodNamed? y = some m) (h2 : s.vm.method? m = some meth) (h3 : meth.code = some c) (h4 : c.code = bytes)
    (h5 : (c.maxLocals == mx && c.exceptionTable.isEmpty && decide (c.maxStack ≤ mostOperands) && decide (meth.sig.returnType = rt) && !meth.locks && decide (parseMethodDescriptor y.desc = some meth.sig)) = true) : (Jvm.Cond.code y bytes mx rt).before a s = true := by
  simp only [Bool.and_eq_true, beq_iff_eq, Bool.not_eq_true', decide_eq_true_eq] at h5
  obtain ⟨⟨⟨⟨⟨g1, g2⟩, g3⟩, g4⟩, g5⟩, g6⟩ := h5
  simp [Cond.before, Cond.holds, Cond.value, h1, h2, h3, h4, g1, g2, g3, g4, g5, g6]
def isCode : Jvm.Cond → Bool
  | .code _ _ _ _ => true
  | _ => false
theorem all_split {L : List Jvm.Cond} {P : Jvm.Cond → Bool} (h1 : L.all (fun c => isCode c || P c) = true) (h2 : ∀ c ∈ L.filter isCode, P c = true) : L.all P = true := by
  refine List.all_eq_true.mpr fun c hc => ?_
  have h := List.all_eq_true.mp h1 c hc
  rcases Bool.eq_false_or_eq_true (isCode c) with hi | hi
  · exact h2 c (List.mem_filter.mpr ⟨hc, hi⟩)
  · simpa [hi] using h
set_option maxRecDepth 65536 in
theorem w_c0 : (Jvm.Cond.code x code maxLocals ret).before args0 about1 = true := code_word (m := ⟨1, 1⟩) (meth := k1m1) (c := k1c1) (by decide +kernel) rfl rfl rfl (by decide +kernel)
set_option maxRecDepth 65536 in
theorem w_c1 : (Jvm.Cond.code ({ cls := "com/example/lockstep/lockstep/core/Search", name := "<init>", desc := "(J)V" } : Jvm.MethodName) prog_206_method_1_code (3 : Nat) (Option.none : Option Jvm.ClassFile.FieldType)).before args0 about1 = true := code_word (m := ⟨2, 0⟩) (meth := k2m0) (c := k2c0) (by decide +kernel) rfl rfl rfl (by decide +kernel)
set_option maxRecDepth 65536 in
theorem w_c2 : (Jvm.Cond.code ({ cls := "java/util/BitSet", name := "<init>", desc := "()V" } : Jvm.MethodName) jdk_92_method_4_code (1 : Nat) (Option.none : Option Jvm.ClassFile.FieldType)).before args0 about1 = true := code_word (m := ⟨5, 1⟩) (meth := k5m1) (c := k5c1) (by decide +kernel) rfl rfl rfl (by decide +kernel)
set_option maxRecDepth 65536 in
theorem w_c3 : (Jvm.Cond.code ({ cls := "java/lang/Object", name := "<init>", desc := "()V" } : Jvm.MethodName) object_method_1_code (1 : Nat) (Option.none : Option Jvm.ClassFile.FieldType)).before args0 about1 = true := code_word (m := ⟨0, 0⟩) (meth := k0m0) (c := k0c0) (by decide +kernel) rfl rfl rfl (by decide +kernel)
set_option maxRecDepth 65536 in
theorem w_c4 : (Jvm.Cond.code ({ cls := "java/util/BitSet", name := "initWords", desc := "(I)V" } : Jvm.MethodName) jdk_92_method_6_code (2 : Nat) (Option.none : Option Jvm.ClassFile.FieldType)).before args0 about1 = true := code_word (m := ⟨5, 2⟩) (meth := k5m2) (c := k5c2) (by decide +kernel) rfl rfl rfl (by decide +kernel)
set_option maxRecDepth 65536 in
theorem w_c5 : (Jvm.Cond.code ({ cls := "java/util/BitSet", name := "wordIndex", desc := "(I)I" } : Jvm.MethodName) jdk_92_method_1_code (1 : Nat) (Option.some Jvm.ClassFile.FieldType.int)).before args0 about1 = true := code_word (m := ⟨5, 0⟩) (meth := k5m0) (c := k5c0) (by decide +kernel) rfl rfl rfl (by decide +kernel)
set_option maxRecDepth 65536 in
theorem w_c6 : (Jvm.Cond.code ({ cls := "com/example/lockstep/lockstep/core/Search", name := "<init>", desc := "(JJILjava/util/BitSet;ZZZ)V" } : Jvm.MethodName) prog_206_method_2_code (10 : Nat) (Option.none : Option Jvm.ClassFile.FieldType)).before args0 about1 = true := code_word (m := ⟨2, 1⟩) (meth := k2m1) (c := k2c1) (by decide +kernel) rfl rfl rfl (by decide +kernel)
set_option maxRecDepth 65536 in
theorem w_c7 : (Jvm.Cond.code ({ cls := "com/example/lockstep/lockstep/core/PassCounts", name := "<init>", desc := "()V" } : Jvm.MethodName) prog_189_method_1_code (1 : Nat) (Option.none : Option Jvm.ClassFile.FieldType)).before args0 about1 = true := code_word (m := ⟨6, 0⟩) (meth := k6m0) (c := k6c0) (by decide +kernel) rfl rfl rfl (by decide +kernel)
set_option maxRecDepth 65536 in
theorem w_c8 : (Jvm.Cond.code ({ cls := "java/util/HashMap", name := "<init>", desc := "()V" } : Jvm.MethodName) jdk_69_method_7_code (1 : Nat) (Option.none : Option Jvm.ClassFile.FieldType)).before args0 about1 = true := code_word (m := ⟨9, 0⟩) (meth := k9m0) (c := k9c0) (by decide +kernel) rfl rfl rfl (by decide +kernel)
set_option maxRecDepth 65536 in
theorem w_c9 : (Jvm.Cond.code ({ cls := "java/util/AbstractMap", name := "<init>", desc := "()V" } : Jvm.MethodName) jdk_71_method_1_code (1 : Nat) (Option.none : Option Jvm.ClassFile.FieldType)).before args0 about1 = true := code_word (m := ⟨8, 0⟩) (meth := k8m0) (c := k8c0) (by decide +kernel) rfl rfl rfl (by decide +kernel)
set_option maxRecDepth 65536 in
theorem w_c10 : (Jvm.Cond.code ({ cls := "java/util/HashSet", name := "<init>", desc := "()V" } : Jvm.MethodName) jdk_93_method_1_code (1 : Nat) (Option.none : Option Jvm.ClassFile.FieldType)).before args0 about1 = true := code_word (m := ⟨15, 0⟩) (meth := k15m0) (c := k15c0) (by decide +kernel) rfl rfl rfl (by decide +kernel)
set_option maxRecDepth 65536 in
theorem w_c11 : (Jvm.Cond.code ({ cls := "java/util/AbstractSet", name := "<init>", desc := "()V" } : Jvm.MethodName) jdk_91_method_1_code (1 : Nat) (Option.none : Option Jvm.ClassFile.FieldType)).before args0 about1 = true := code_word (m := ⟨14, 0⟩) (meth := k14m0) (c := k14c0) (by decide +kernel) rfl rfl rfl (by decide +kernel)
set_option maxRecDepth 65536 in
theorem w_c12 : (Jvm.Cond.code ({ cls := "java/util/AbstractCollection", name := "<init>", desc := "()V" } : Jvm.MethodName) jdk_22_method_1_code (1 : Nat) (Option.none : Option Jvm.ClassFile.FieldType)).before args0 about1 = true := code_word (m := ⟨12, 0⟩) (meth := k12m0) (c := k12c0) (by decide +kernel) rfl rfl rfl (by decide +kernel)
set_option maxRecDepth 65536 in
theorem w_c13 : (Jvm.Cond.code ({ cls := "com/example/lockstep/lockstep/core/RaceLog", name := "<init>", desc := "()V" } : Jvm.MethodName) prog_198_method_1_code (1 : Nat) (Option.none : Option Jvm.ClassFile.FieldType)).before args0 about1 = true := code_word (m := ⟨16, 0⟩) (meth := k16m0) (c := k16c0) (by decide +kernel) rfl rfl rfl (by decide +kernel)
set_option maxRecDepth 65536 in
theorem w_c14 : (Jvm.Cond.code ({ cls := "java/util/IdentityHashMap", name := "<init>", desc := "()V" } : Jvm.MethodName) jdk_2581_method_3_code (1 : Nat) (Option.none : Option Jvm.ClassFile.FieldType)).before args0 about1 = true := code_word (m := ⟨17, 0⟩) (meth := k17m0) (c := k17c0) (by decide +kernel) rfl rfl rfl (by decide +kernel)
set_option maxRecDepth 65536 in
theorem w_c15 : (Jvm.Cond.code ({ cls := "java/util/IdentityHashMap", name := "init", desc := "(I)V" } : Jvm.MethodName) jdk_2581_method_6_code (2 : Nat) (Option.none : Option Jvm.ClassFile.FieldType)).before args0 about1 = true := code_word (m := ⟨17, 1⟩) (meth := k17m1) (c := k17c1) (by decide +kernel) rfl rfl rfl (by decide +kernel)
set_option maxRecDepth 65536 in
theorem w_c16 : (Jvm.Cond.code ({ cls := "java/util/TreeSet", name := "<init>", desc := "()V" } : Jvm.MethodName) jdk_2756_method_2_code (1 : Nat) (Option.none : Option Jvm.ClassFile.FieldType)).before args0 about1 = true := code_word (m := ⟨22, 1⟩) (meth := k22m1) (c := k22c1) (by decide +kernel) rfl rfl rfl (by decide +kernel)
set_option maxRecDepth 65536 in
theorem w_c17 : (Jvm.Cond.code ({ cls := "java/util/TreeMap", name := "<init>", desc := "()V" } : Jvm.MethodName) jdk_2729_method_1_code (1 : Nat) (Option.none : Option Jvm.ClassFile.FieldType)).before args0 about1 = true := code_word (m := ⟨26, 0⟩) (meth := k26m0) (c := k26c0) (by decide +kernel) rfl rfl rfl (by decide +kernel)
set_option maxRecDepth 65536 in
theorem w_c18 : (Jvm.Cond.code ({ cls := "java/util/TreeSet", name := "<init>", desc := "(Ljava/util/NavigableMap;)V" } : Jvm.MethodName) jdk_2756_method_1_code (2 : Nat) (Option.none : Option Jvm.ClassFile.FieldType)).before args0 about1 = true := code_word (m := ⟨22, 0⟩) (meth := k22m0) (c := k22c0) (by decide +kernel) rfl rfl rfl (by decide +kernel)
set_option maxRecDepth 65536 in
theorem w_c19 : (Jvm.Cond.code ({ cls := "java/util/ArrayList", name := "<init>", desc := "()V" } : Jvm.MethodName) jdk_38_method_2_code (1 : Nat) (Option.none : Option Jvm.ClassFile.FieldType)).before args0 about1 = true := code_word (m := ⟨30, 0⟩) (meth := k30m0) (c := k30c0) (by decide +kernel) rfl rfl rfl (by decide +kernel)
set_option maxRecDepth 65536 in
theorem w_c20 : (Jvm.Cond.code ({ cls := "java/util/AbstractList", name := "<init>", desc := "()V" } : Jvm.MethodName) jdk_39_method_1_code (1 : Nat) (Option.none : Option Jvm.ClassFile.FieldType)).before args0 about1 = true := code_word (m := ⟨28, 0⟩) (meth := k28m0) (c := k28c0) (by decide +kernel) rfl rfl rfl (by decide +kernel)
set_option maxRecDepth 65536 in
theorem w_c21 : (Jvm.Cond.code ({ cls := "com/example/lockstep/lockstep/core/StateGraph", name := "<init>", desc := "()V" } : Jvm.MethodName) prog_248_method_1_code (1 : Nat) (Option.none : Option Jvm.ClassFile.FieldType)).before args0 about1 = true := code_word (m := ⟨31, 0⟩) (meth := k31m0) (c := k31c0) (by decide +kernel) rfl rfl rfl (by decide +kernel)
set_option maxRecDepth 65536 in
theorem w_c22 : (Jvm.Cond.code ({ cls := "java/util/Collections", name := "singletonList", desc := "(Ljava/lang/Object;)Ljava/util/List;" } : Jvm.MethodName) jdk_79_method_74_code (1 : Nat) (Option.some (Jvm.ClassFile.FieldType.object "java/util/List"))).before args0 about1 = true := code_word (m := ⟨32, 2⟩) (meth := k32m2) (c := k32c2) (by decide +kernel) rfl rfl rfl (by decide +kernel)
set_option maxRecDepth 65536 in
theorem w_c23 : (Jvm.Cond.code ({ cls := "java/util/Collections$SingletonList", name := "<init>", desc := "(Ljava/lang/Object;)V" } : Jvm.MethodName) jdk_2487_method_1_code (2 : Nat) (Option.none : Option Jvm.ClassFile.FieldType)).before args0 about1 = true := code_word (m := ⟨33, 0⟩) (meth := k33m0) (c := k33c0) (by decide +kernel) rfl rfl rfl (by decide +kernel)
set_option maxRecDepth 65536 in
theorem w_c24 : (Jvm.Cond.code ({ cls := "java/util/ArrayList", name := "<init>", desc := "(Ljava/util/Collection;)V" } : Jvm.MethodName) jdk_38_method_3_code (3 : Nat) (Option.none : Option Jvm.ClassFile.FieldType)).before args0 about1 = true := code_word (m := ⟨30, 1⟩) (meth := k30m1) (c := k30c1) (by decide +kernel) rfl rfl rfl (by decide +kernel)
set_option maxRecDepth 65536 in
theorem w_c25 : (Jvm.Cond.code ({ cls := "java/util/AbstractCollection", name := "toArray", desc := "()[Ljava/lang/Object;" } : Jvm.MethodName) jdk_22_method_6_code (4 : Nat) (Option.some (Jvm.ClassFile.FieldType.array (Jvm.ClassFile.FieldType.object "java/lang/Object")))).before args0 about1 = true := code_word (m := ⟨12, 3⟩) (meth := k12m3) (c := k12c3) (by decide +kernel) rfl rfl rfl (by decide +kernel)
set_option maxRecDepth 65536 in
theorem w_c26 : (Jvm.Cond.code ({ cls := "java/util/Collections$SingletonList", name := "size", desc := "()I" } : Jvm.MethodName) jdk_2487_method_3_code (1 : Nat) (Option.some Jvm.ClassFile.FieldType.int)).before args0 about1 = true := code_word (m := ⟨33, 2⟩) (meth := k33m2) (c := k33c2) (by decide +kernel) rfl rfl rfl (by decide +kernel)
set_option maxRecDepth 65536 in
theorem w_c27 : (Jvm.Cond.code ({ cls := "java/util/Collections$SingletonList", name := "iterator", desc := "()Ljava/util/Iterator;" } : Jvm.MethodName) jdk_2487_method_2_code (1 : Nat) (Option.some (Jvm.ClassFile.FieldType.object "java/util/Iterator"))).before args0 about1 = true := code_word (m := ⟨33, 1⟩) (meth := k33m1) (c := k33c1) (by decide +kernel) rfl rfl rfl (by decide +kernel)
set_option maxRecDepth 65536 in
theorem w_c28 : (Jvm.Cond.code ({ cls := "java/util/Collections", name := "singletonIterator", desc := "(Ljava/lang/Object;)Ljava/util/Iterator;" } : Jvm.MethodName) jdk_79_method_72_code (1 : Nat) (Option.some (Jvm.ClassFile.FieldType.object "java/util/Iterator"))).before args0 about1 = true := code_word (m := ⟨32, 1⟩) (meth := k32m1) (c := k32c1) (by decide +kernel) rfl rfl rfl (by decide +kernel)
set_option maxRecDepth 65536 in
theorem w_c29 : (Jvm.Cond.code ({ cls := "java/util/Collections$1", name := "<init>", desc := "(Ljava/lang/Object;)V" } : Jvm.MethodName) jdk_2460_method_1_code (2 : Nat) (Option.none : Option Jvm.ClassFile.FieldType)).before args0 about1 = true := code_word (m := ⟨35, 0⟩) (meth := k35m0) (c := k35c0) (by decide +kernel) rfl rfl rfl (by decide +kernel)
set_option maxRecDepth 65536 in
theorem w_c30 : (Jvm.Cond.code ({ cls := "java/util/Collections$1", name := "hasNext", desc := "()Z" } : Jvm.MethodName) jdk_2460_method_2_code (1 : Nat) (Option.some Jvm.ClassFile.FieldType.boolean)).before args0 about1 = true := code_word (m := ⟨35, 1⟩) (meth := k35m1) (c := k35c1) (by decide +kernel) rfl rfl rfl (by decide +kernel)
set_option maxRecDepth 65536 in
theorem w_c31 : (Jvm.Cond.code ({ cls := "java/util/Collections$1", name := "next", desc := "()Ljava/lang/Object;" } : Jvm.MethodName) jdk_2460_method_3_code (1 : Nat) (Option.some (Jvm.ClassFile.FieldType.object "java/lang/Object"))).before args0 about1 = true := code_word (m := ⟨35, 2⟩) (meth := k35m2) (c := k35c2) (by decide +kernel) rfl rfl rfl (by decide +kernel)
set_option maxRecDepth 65536 in
theorem w_c32 : (Jvm.Cond.code ({ cls := "java/util/Arrays", name := "copyOf", desc := "([Ljava/lang/Object;ILjava/lang/Class;)[Ljava/lang/Object;" } : Jvm.MethodName) jdk_65_method_120_code (4 : Nat) (Option.some (Jvm.ClassFile.FieldType.array (Jvm.ClassFile.FieldType.object "java/lang/Object")))).before args0 about1 = true := code_word (m := ⟨36, 1⟩) (meth := k36m1) (c := k36c1) (by decide +kernel) rfl rfl rfl (by decide +kernel)
set_option maxRecDepth 65536 in
theorem w_c33 : (Jvm.Cond.code ({ cls := "java/lang/Math", name := "min", desc := "(II)I" } : Jvm.MethodName) jdk_29_method_69_code (2 : Nat) (Option.some Jvm.ClassFile.FieldType.int)).before args0 about1 = true := code_word (m := ⟨37, 2⟩) (meth := k37m2) (c := k37c2) (by decide +kernel) rfl rfl rfl (by decide +kernel)
set_option maxRecDepth 65536 in
theorem w_c34 : (Jvm.Cond.code ({ cls := "com/example/lockstep/lockstep/core/value/SourceLocation", name := "of", desc := "(Ljava/lang/String;II)Lcom/example/lockstep/lockstep/core/value/SourceLocation;" } : Jvm.MethodName) prog_359_method_2_code (3 : Nat) (Option.some (Jvm.ClassFile.FieldType.object "com/example/lockstep/lockstep/core/value/SourceLocation"))).before args0 about1 = true := code_word (m := ⟨45, 1⟩) (meth := k45m1) (c := k45c1) (by decide +kernel) rfl rfl rfl (by decide +kernel)
set_option maxRecDepth 65536 in
theorem w_c35 : (Jvm.Cond.code ({ cls := "java/util/Objects", name := "requireNonNull", desc := "(Ljava/lang/Object;Ljava/lang/String;)Ljava/lang/Object;" } : Jvm.MethodName) jdk_31_method_11_code (2 : Nat) (Option.some (Jvm.ClassFile.FieldType.object "java/lang/Object"))).before args0 about1 = true := code_word (m := ⟨46, 1⟩) (meth := k46m1) (c := k46c1) (by decide +kernel) rfl rfl rfl (by decide +kernel)
set_option maxRecDepth 65536 in
theorem w_c36 : (Jvm.Cond.code ({ cls := "com/example/lockstep/lockstep/core/value/SourceLocation", name := "<init>", desc := "(Ljava/lang/String;II)V" } : Jvm.MethodName) prog_359_method_1_code (4 : Nat) (Option.none : Option Jvm.ClassFile.FieldType)).before args0 about1 = true := code_word (m := ⟨45, 0⟩) (meth := k45m0) (c := k45c0) (by decide +kernel) rfl rfl rfl (by decide +kernel)
set_option maxRecDepth 65536 in
theorem w_c37 : (Jvm.Cond.code ({ cls := "java/lang/String", name := "isEmpty", desc := "()Z" } : Jvm.MethodName) jdk_42_method_55_code (1 : Nat) (Option.some Jvm.ClassFile.FieldType.boolean)).before args0 about1 = true := code_word (m := ⟨44, 1⟩) (meth := k44m1) (c := k44c1) (by decide +kernel) rfl rfl rfl (by decide +kernel)
set_option maxRecDepth 65536 in
theorem w_c38 : (Jvm.Cond.code ({ cls := "com/example/lockstep/lockstep/core/ActiveLevels", name := "<init>", desc := "(Lcom/example/lockstep/lockstep/core/Search;)V" } : Jvm.MethodName) prog_39_method_1_code (2 : Nat) (Option.none : Option Jvm.ClassFile.FieldType)).before args0 about1 = true := code_word (m := ⟨47, 0⟩) (meth := k47m0) (c := k47c0) (by decide +kernel) rfl rfl rfl (by decide +kernel)
set_option maxRecDepth 65536 in
theorem w_c39 : (Jvm.Cond.code ({ cls := "com/example/lockstep/lockstep/core/ActiveLevels", name := "setNested", desc := "(Z)V" } : Jvm.MethodName) prog_39_method_9_code (2 : Nat) (Option.none : Option Jvm.ClassFile.FieldType)).before args0 about1 = true := code_word (m := ⟨47, 5⟩) (meth := k47m5) (c := k47c5) (by decide +kernel) rfl rfl rfl (by decide +kernel)
set_option maxRecDepth 65536 in
theorem w_c40 : (Jvm.Cond.code ({ cls := "com/example/lockstep/lockstep/core/ActiveLevels", name := "least", desc := "()I" } : Jvm.MethodName) prog_39_method_6_code (1 : Nat) (Option.some Jvm.ClassFile.FieldType.int)).before args0 about1 = true := code_word (m := ⟨47, 2⟩) (meth := k47m2) (c := k47c2) (by decide +kernel) rfl rfl rfl (by decide +kernel)
set_option maxRecDepth 65536 in
theorem w_c41 : (Jvm.Cond.code ({ cls := "com/example/lockstep/lockstep/core/ActiveLevels", name := "isFixed", desc := "()Z" } : Jvm.MethodName) prog_39_method_7_code (1 : Nat) (Option.some Jvm.ClassFile.FieldType.boolean)).before args0 about1 = true := code_word (m := ⟨47, 3⟩) (meth := k47m3) (c := k47c3) (by decide +kernel) rfl rfl rfl (by decide +kernel)
set_option maxRecDepth 65536 in
theorem w_c42 : (Jvm.Cond.code ({ cls := "com/example/lockstep/lockstep/core/ActiveLevels", name := "exceeds", desc := "(ILjava/lang/String;Lcom/example/lockstep/lockstep/core/value/SourceLocation;)Z" } : Jvm.MethodName) prog_39_method_5_code (4 : Nat) (Option.some Jvm.ClassFile.FieldType.boolean)).before args0 about1 = true := code_word (m := ⟨47, 1⟩) (meth := k47m1) (c := k47c1) (by decide +kernel) rfl rfl rfl (by decide +kernel)
set_option maxRecDepth 65536 in
theorem w_c43 : (Jvm.Cond.code ({ cls := "com/example/lockstep/lockstep/core/ActiveLevels", name := "setMost", desc := "(I)V" } : Jvm.MethodName) prog_39_method_8_code (2 : Nat) (Option.none : Option Jvm.ClassFile.FieldType)).before args0 about1 = true := code_word (m := ⟨47, 4⟩) (meth := k47m4) (c := k47c4) (by decide +kernel) rfl rfl rfl (by decide +kernel)
set_option maxRecDepth 65536 in
theorem w_c44 : (Jvm.Cond.code ({ cls := "com/example/lockstep/lockstep/core/Search", name := "chooseUnspecified", desc := "(ILjava/lang/String;Lcom/example/lockstep/lockstep/core/value/SourceLocation;)I" } : Jvm.MethodName) prog_206_method_71_code (4 : Nat) (Option.some Jvm.ClassFile.FieldType.int)).before args0 about1 = true := code_word (m := ⟨2, 2⟩) (meth := k2m2) (c := k2c2) (by decide +kernel) rfl rfl rfl (by decide +kernel)
set_option maxRecDepth 65536 in
theorem w_c45 : (Jvm.Cond.code ({ cls := "com/example/lockstep/lockstep/core/Search", name := "chooseUnspecified", desc := "(ILjava/util/function/Supplier;Ljava/lang/String;Lcom/example/lockstep/lockstep/core/value/SourceLocation;)I" } : Jvm.MethodName) prog_206_method_72_code (5 : Nat) (Option.some Jvm.ClassFile.FieldType.int)).before args0 about1 = true := code_word (m := ⟨2, 3⟩) (meth := k2m3) (c := k2c3) (by decide +kernel) rfl rfl rfl (by decide +kernel)
set_option maxRecDepth 65536 in
theorem w_c46 : (Jvm.Cond.code ({ cls := "com/example/lockstep/lockstep/core/Search", name := "choose", desc := "(ILjava/util/function/Supplier;ZLjava/lang/String;Lcom/example/lockstep/lockstep/core/value/SourceLocation;)I" } : Jvm.MethodName) prog_206_method_80_code (8 : Nat) (Option.some Jvm.ClassFile.FieldType.int)).before args0 about1 = true := code_word (m := ⟨2, 4⟩) (meth := k2m4) (c := k2c4) (by decide +kernel) rfl rfl rfl (by decide +kernel)
set_option maxRecDepth 65536 in
theorem w_c47 : (Jvm.Cond.code ({ cls := "com/example/lockstep/lockstep/core/ChoicePoint", name := "<init>", desc := "()V" } : Jvm.MethodName) prog_75_method_1_code (1 : Nat) (Option.none : Option Jvm.ClassFile.FieldType)).before args0 about1 = true := code_word (m := ⟨39, 0⟩) (meth := k39m0) (c := k39c0) (by decide +kernel) rfl rfl rfl (by decide +kernel)
set_option maxRecDepth 65536 in
theorem w_c48 : (Jvm.Cond.code ({ cls := "com/example/lockstep/lockstep/core/ChoicePoint", name := "open", desc := "(IIZLjava/lang/String;Lcom/example/lockstep/lockstep/core/value/SourceLocation;Ljava/util/BitSet;JI)V" } : Jvm.MethodName) prog_75_method_2_code (10 : Nat) (Option.none : Option Jvm.ClassFile.FieldType)).before args0 about1 = true := code_word (m := ⟨39, 1⟩) (meth := k39m1) (c := k39c1) (by decide +kernel) rfl rfl rfl (by decide +kernel)
set_option maxRecDepth 65536 in
theorem w_c49 : (Jvm.Cond.code ({ cls := "com/example/lockstep/lockstep/core/ChoicePoint", name := "taken", desc := "()I" } : Jvm.MethodName) prog_75_method_5_code (1 : Nat) (Option.some Jvm.ClassFile.FieldType.int)).before args0 about1 = true := code_word (m := ⟨39, 4⟩) (meth := k39m4) (c := k39c4) (by decide +kernel) rfl rfl rfl (by decide +kernel)
set_option maxRecDepth 65536 in
theorem w_c50 : (Jvm.Cond.code ({ cls := "java/lang/Math", name := "max", desc := "(II)I" } : Jvm.MethodName) jdk_29_method_65_code (2 : Nat) (Option.some Jvm.ClassFile.FieldType.int)).before args0 about1 = true := code_word (m := ⟨37, 1⟩) (meth := k37m1) (c := k37c1) (by decide +kernel) rfl rfl rfl (by decide +kernel)
set_option maxRecDepth 65536 in
theorem w_c51 : (Jvm.Cond.code ({ cls := "com/example/lockstep/lockstep/core/Search", name := "next", desc := "()Z" } : Jvm.MethodName) prog_206_method_91_code (3 : Nat) (Option.some Jvm.ClassFile.FieldType.boolean)).before args0 about1 = true := code_word (m := ⟨2, 5⟩) (meth := k2m5) (c := k2c5) (by decide +kernel) rfl rfl rfl (by decide +kernel)
set_option maxRecDepth 65536 in
theorem w_c52 : (Jvm.Cond.code ({ cls := "com/example/lockstep/lockstep/core/PassCounts", name := "clear", desc := "()V" } : Jvm.MethodName) prog_189_method_5_code (1 : Nat) (Option.none : Option Jvm.ClassFile.FieldType)).before args0 about1 = true := code_word (m := ⟨6, 1⟩) (meth := k6m1) (c := k6c1) (by decide +kernel) rfl rfl rfl (by decide +kernel)
set_option maxRecDepth 65536 in
theorem w_c53 : (Jvm.Cond.code ({ cls := "java/util/HashMap", name := "clear", desc := "()V" } : Jvm.MethodName) jdk_69_method_22_code (3 : Nat) (Option.none : Option Jvm.ClassFile.FieldType)).before args0 about1 = true := code_word (m := ⟨9, 1⟩) (meth := k9m1) (c := k9c1) (by decide +kernel) rfl rfl rfl (by decide +kernel)
set_option maxRecDepth 65536 in
theorem w_c54 : (Jvm.Cond.code ({ cls := "java/util/HashSet", name := "clear", desc := "()V" } : Jvm.MethodName) jdk_93_method_12_code (1 : Nat) (Option.none : Option Jvm.ClassFile.FieldType)).before args0 about1 = true := code_word (m := ⟨15, 1⟩) (meth := k15m1) (c := k15c1) (by decide +kernel) rfl rfl rfl (by decide +kernel)
set_option maxRecDepth 65536 in
theorem w_c55 : (Jvm.Cond.code ({ cls := "com/example/lockstep/lockstep/core/ChoicePoint", name := "hasWayToTry", desc := "()Z" } : Jvm.MethodName) prog_75_method_7_code (1 : Nat) (Option.some Jvm.ClassFile.FieldType.boolean)).before args0 about1 = true := code_word (m := ⟨39, 6⟩) (meth := k39m6) (c := k39c6) (by decide +kernel) rfl rfl rfl (by decide +kernel)
set_option maxRecDepth 65536 in
theorem w_c56 : (Jvm.Cond.code ({ cls := "com/example/lockstep/lockstep/core/ChoicePoint", name := "nextWay", desc := "()I" } : Jvm.MethodName) prog_75_method_8_code (2 : Nat) (Option.some Jvm.ClassFile.FieldType.int)).before args0 about1 = true := code_word (m := ⟨39, 7⟩) (meth := k39m7) (c := k39c7) (by decide +kernel) rfl rfl rfl (by decide +kernel)
set_option maxRecDepth 65536 in
theorem w_c57 : (Jvm.Cond.code ({ cls := "com/example/lockstep/lockstep/core/ChoicePoint", name := "takeNextWay", desc := "()V" } : Jvm.MethodName) prog_75_method_6_code (1 : Nat) (Option.none : Option Jvm.ClassFile.FieldType)).before args0 about1 = true := code_word (m := ⟨39, 5⟩) (meth := k39m5) (c := k39c5) (by decide +kernel) rfl rfl rfl (by decide +kernel)
set_option maxRecDepth 65536 in
theorem w_c58 : (Jvm.Cond.code ({ cls := "java/util/ArrayList", name := "isEmpty", desc := "()Z" } : Jvm.MethodName) jdk_38_method_9_code (1 : Nat) (Option.some Jvm.ClassFile.FieldType.boolean)).before args0 about1 = true := code_word (m := ⟨30, 3⟩) (meth := k30m3) (c := k30c3) (by decide +kernel) rfl rfl rfl (by decide +kernel)
set_option maxRecDepth 65536 in
theorem w_c59 : (Jvm.Cond.code ({ cls := "java/util/ArrayList", name := "size", desc := "()I" } : Jvm.MethodName) jdk_38_method_8_code (1 : Nat) (Option.some Jvm.ClassFile.FieldType.int)).before args0 about1 = true := code_word (m := ⟨30, 2⟩) (meth := k30m2) (c := k30c2) (by decide +kernel) rfl rfl rfl (by decide +kernel)
set_option maxRecDepth 65536 in
theorem w_c60 : (Jvm.Cond.code ({ cls := "com/example/lockstep/lockstep/core/ChoicePoint", name := "ways", desc := "()I" } : Jvm.MethodName) prog_75_method_3_code (1 : Nat) (Option.some Jvm.ClassFile.FieldType.int)).before args0 about1 = true := code_word (m := ⟨39, 2⟩) (meth := k39m2) (c := k39c2) (by decide +kernel) rfl rfl rfl (by decide +kernel)
set_option maxRecDepth 65536 in
theorem w_c61 : (Jvm.Cond.code ({ cls := "com/example/lockstep/lockstep/core/ChoicePoint", name := "settledBefore", desc := "()J" } : Jvm.MethodName) prog_75_method_15_code (1 : Nat) (Option.some Jvm.ClassFile.FieldType.long)).before args0 about1 = true := code_word (m := ⟨39, 8⟩) (meth := k39m8) (c := k39c8) (by decide +kernel) rfl rfl rfl (by decide +kernel)
set_option maxRecDepth 65536 in
theorem w_c62 : (Jvm.Cond.code ({ cls := "com/example/lockstep/lockstep/core/ChoicePoint", name := "isSettled", desc := "()Z" } : Jvm.MethodName) prog_75_method_16_code (1 : Nat) (Option.some Jvm.ClassFile.FieldType.boolean)).before args0 about1 = true := code_word (m := ⟨39, 9⟩) (meth := k39m9) (c := k39c9) (by decide +kernel) rfl rfl rfl (by decide +kernel)
set_option maxRecDepth 65536 in
theorem w_c63 : (Jvm.Cond.code ({ cls := "com/example/lockstep/lockstep/core/ChoicePoint", name := "node", desc := "()I" } : Jvm.MethodName) prog_75_method_4_code (1 : Nat) (Option.some Jvm.ClassFile.FieldType.int)).before args0 about1 = true := code_word (m := ⟨39, 3⟩) (meth := k39m3) (c := k39c3) (by decide +kernel) rfl rfl rfl (by decide +kernel)
def codes1 : List Jvm.Cond := [Jvm.Cond.code x code maxLocals ret, Jvm.Cond.code ({ cls := "com/example/lockstep/lockstep/core/Search", name := "<init>", desc := "(J)V" } : Jvm.MethodName) prog_206_method_1_code (3 : Nat) (Option.none : Option Jvm.ClassFile.FieldType), Jvm.Cond.code ({ cls := "java/util/BitSet", name := "<init>", desc := "()V" } : Jvm.MethodName) jdk_92_method_4_code (1 : Nat) (Option.none : Option Jvm.ClassFile.FieldType), Jvm.Cond.code ({ cls := "java/lang/Object", name := "<init>", desc := "()V" } : Jvm.MethodName) object_method_1_code (1 : Nat) (Option.none : Option Jvm.ClassFile.FieldType), Jvm.Cond.code ({ cls := "java/util/BitSet", name := "initWords", desc := "(I)V" } : Jvm.MethodName) jdk_92_method_6_code (2 : Nat) (Option.none : Option Jvm.ClassFile.FieldType), Jvm.Cond.code ({ cls := "java/util/BitSet", name := "wordIndex", desc := "(I)I" } : Jvm.MethodName) jdk_92_method_1_code (1 : Nat) (Option.some Jvm.ClassFile.FieldType.int), Jvm.Cond.code ({ cls := "com/example/lockstep/lockstep/core/Search", name := "<init>", desc := "(JJILjava/util/BitSet;ZZZ)V" } : Jvm.MethodName) prog_206_method_2_code (10 : Nat) (Option.none : Option Jvm.ClassFile.FieldType), Jvm.Cond.code ({ cls := "com/example/lockstep/lockstep/core/PassCounts", name := "<init>", desc := "()V" } : Jvm.MethodName) prog_189_method_1_code (1 : Nat) (Option.none : Option Jvm.ClassFile.FieldType), Jvm.Cond.code ({ cls := "java/util/HashMap", name := "<init>", desc := "()V" } : Jvm.MethodName) jdk_69_method_7_code (1 : Nat) (Option.none : Option Jvm.ClassFile.FieldType), Jvm.Cond.code ({ cls := "java/util/AbstractMap", name := "<init>", desc := "()V" } : Jvm.MethodName) jdk_71_method_1_code (1 : Nat) (Option.none : Option Jvm.ClassFile.FieldType), Jvm.Cond.code ({ cls := "java/util/HashSet", name := "<init>", desc := "()V" } : Jvm.MethodName) jdk_93_method_1_code (1 : Nat) (Option.none : Option Jvm.ClassFile.FieldType), Jvm.Cond.code ({ cls := "java/util/AbstractSet", name := "<init>", desc := "()V" } : Jvm.MethodName) jdk_91_method_1_code (1 : Nat) (Option.none : Option Jvm.ClassFile.FieldType), Jvm.Cond.code ({ cls := "java/util/AbstractCollection", name := "<init>", desc := "()V" } : Jvm.MethodName) jdk_22_method_1_code (1 : Nat) (Option.none : Option Jvm.ClassFile.FieldType), Jvm.Cond.code ({ cls := "com/example/lockstep/lockstep/core/RaceLog", name := "<init>", desc := "()V" } : Jvm.MethodName) prog_198_method_1_code (1 : Nat) (Option.none : Option Jvm.ClassFile.FieldType), Jvm.Cond.code ({ cls := "java/util/IdentityHashMap", name := "<init>", desc := "()V" } : Jvm.MethodName) jdk_2581_method_3_code (1 : Nat) (Option.none : Option Jvm.ClassFile.FieldType), Jvm.Cond.code ({ cls := "java/util/IdentityHashMap", name := "init", desc := "(I)V" } : Jvm.MethodName) jdk_2581_method_6_code (2 : Nat) (Option.none : Option Jvm.ClassFile.FieldType), Jvm.Cond.code ({ cls := "java/util/TreeSet", name := "<init>", desc := "()V" } : Jvm.MethodName) jdk_2756_method_2_code (1 : Nat) (Option.none : Option Jvm.ClassFile.FieldType), Jvm.Cond.code ({ cls := "java/util/TreeMap", name := "<init>", desc := "()V" } : Jvm.MethodName) jdk_2729_method_1_code (1 : Nat) (Option.none : Option Jvm.ClassFile.FieldType), Jvm.Cond.code ({ cls := "java/util/TreeSet", name := "<init>", desc := "(Ljava/util/NavigableMap;)V" } : Jvm.MethodName) jdk_2756_method_1_code (2 : Nat) (Option.none : Option Jvm.ClassFile.FieldType), Jvm.Cond.code ({ cls := "java/util/ArrayList", name := "<init>", desc := "()V" } : Jvm.MethodName) jdk_38_method_2_code (1 : Nat) (Option.none : Option Jvm.ClassFile.FieldType), Jvm.Cond.code ({ cls := "java/util/AbstractList", name := "<init>", desc := "()V" } : Jvm.MethodName) jdk_39_method_1_code (1 : Nat) (Option.none : Option Jvm.ClassFile.FieldType), Jvm.Cond.code ({ cls := "com/example/lockstep/lockstep/core/StateGraph", name := "<init>", desc := "()V" } : Jvm.MethodName) prog_248_method_1_code (1 : Nat) (Option.none : Option Jvm.ClassFile.FieldType), Jvm.Cond.code ({ cls := "java/util/Collections", name := "singletonList", desc := "(Ljava/lang/Object;)Ljava/util/List;" } : Jvm.MethodName) jdk_79_method_74_code (1 : Nat) (Option.some (Jvm.ClassFile.FieldType.object "java/util/List")), Jvm.Cond.code ({ cls := "java/util/Collections$SingletonList", name := "<init>", desc := "(Ljava/lang/Object;)V" } : Jvm.MethodName) jdk_2487_method_1_code (2 : Nat) (Option.none : Option Jvm.ClassFile.FieldType), Jvm.Cond.code ({ cls := "java/util/ArrayList", name := "<init>", desc := "(Ljava/util/Collection;)V" } : Jvm.MethodName) jdk_38_method_3_code (3 : Nat) (Option.none : Option Jvm.ClassFile.FieldType), Jvm.Cond.code ({ cls := "java/util/AbstractCollection", name := "toArray", desc := "()[Ljava/lang/Object;" } : Jvm.MethodName) jdk_22_method_6_code (4 : Nat) (Option.some (Jvm.ClassFile.FieldType.array (Jvm.ClassFile.FieldType.object "java/lang/Object"))), Jvm.Cond.code ({ cls := "java/util/Collections$SingletonList", name := "size", desc := "()I" } : Jvm.MethodName) jdk_2487_method_3_code (1 : Nat) (Option.some Jvm.ClassFile.FieldType.int), Jvm.Cond.code ({ cls := "java/util/Collections$SingletonList", name := "iterator", desc := "()Ljava/util/Iterator;" } : Jvm.MethodName) jdk_2487_method_2_code (1 : Nat) (Option.some (Jvm.ClassFile.FieldType.object "java/util/Iterator")), Jvm.Cond.code ({ cls := "java/util/Collections", name := "singletonIterator", desc := "(Ljava/lang/Object;)Ljava/util/Iterator;" } : Jvm.MethodName) jdk_79_method_72_code (1 : Nat) (Option.some (Jvm.ClassFile.FieldType.object "java/util/Iterator")), Jvm.Cond.code ({ cls := "java/util/Collections$1", name := "<init>", desc := "(Ljava/lang/Object;)V" } : Jvm.MethodName) jdk_2460_method_1_code (2 : Nat) (Option.none : Option Jvm.ClassFile.FieldType), Jvm.Cond.code ({ cls := "java/util/Collections$1", name := "hasNext", desc := "()Z" } : Jvm.MethodName) jdk_2460_method_2_code (1 : Nat) (Option.some Jvm.ClassFile.FieldType.boolean), Jvm.Cond.code ({ cls := "java/util/Collections$1", name := "next", desc := "()Ljava/lang/Object;" } : Jvm.MethodName) jdk_2460_method_3_code (1 : Nat) (Option.some (Jvm.ClassFile.FieldType.object "java/lang/Object")), Jvm.Cond.code ({ cls := "java/util/Arrays", name := "copyOf", desc := "([Ljava/lang/Object;ILjava/lang/Class;)[Ljava/lang/Object;" } : Jvm.MethodName) jdk_65_method_120_code (4 : Nat) (Option.some (Jvm.ClassFile.FieldType.array (Jvm.ClassFile.FieldType.object "java/lang/Object"))), Jvm.Cond.code ({ cls := "java/lang/Math", name := "min", desc := "(II)I" } : Jvm.MethodName) jdk_29_method_69_code (2 : Nat) (Option.some Jvm.ClassFile.FieldType.int), Jvm.Cond.code ({ cls := "com/example/lockstep/lockstep/core/value/SourceLocation", name := "of", desc := "(Ljava/lang/String;II)Lcom/example/lockstep/lockstep/core/value/SourceLocation;" } : Jvm.MethodName) prog_359_method_2_code (3 : Nat) (Option.some (Jvm.ClassFile.FieldType.object "com/example/lockstep/lockstep/core/value/SourceLocation")), Jvm.Cond.code ({ cls := "java/util/Objects", name := "requireNonNull", desc := "(Ljava/lang/Object;Ljava/lang/String;)Ljava/lang/Object;" } : Jvm.MethodName) jdk_31_method_11_code (2 : Nat) (Option.some (Jvm.ClassFile.FieldType.object "java/lang/Object")), Jvm.Cond.code ({ cls := "com/example/lockstep/lockstep/core/value/SourceLocation", name := "<init>", desc := "(Ljava/lang/String;II)V" } : Jvm.MethodName) prog_359_method_1_code (4 : Nat) (Option.none : Option Jvm.ClassFile.FieldType), Jvm.Cond.code ({ cls := "java/lang/String", name := "isEmpty", desc := "()Z" } : Jvm.MethodName) jdk_42_method_55_code (1 : Nat) (Option.some Jvm.ClassFile.FieldType.boolean), Jvm.Cond.code ({ cls := "com/example/lockstep/lockstep/core/ActiveLevels", name := "<init>", desc := "(Lcom/example/lockstep/lockstep/core/Search;)V" } : Jvm.MethodName) prog_39_method_1_code (2 : Nat) (Option.none : Option Jvm.ClassFile.FieldType), Jvm.Cond.code ({ cls := "com/example/lockstep/lockstep/core/ActiveLevels", name := "setNested", desc := "(Z)V" } : Jvm.MethodName) prog_39_method_9_code (2 : Nat) (Option.none : Option Jvm.ClassFile.FieldType), Jvm.Cond.code ({ cls := "com/example/lockstep/lockstep/core/ActiveLevels", name := "least", desc := "()I" } : Jvm.MethodName) prog_39_method_6_code (1 : Nat) (Option.some Jvm.ClassFile.FieldType.int), Jvm.Cond.code ({ cls := "com/example/lockstep/lockstep/core/ActiveLevels", name := "isFixed", desc := "()Z" } : Jvm.MethodName) prog_39_method_7_code (1 : Nat) (Option.some Jvm.ClassFile.FieldType.boolean), Jvm.Cond.code ({ cls := "com/example/lockstep/lockstep/core/ActiveLevels", name := "exceeds", desc := "(ILjava/lang/String;Lcom/example/lockstep/lockstep/core/value/SourceLocation;)Z" } : Jvm.MethodName) prog_39_method_5_code (4 : Nat) (Option.some Jvm.ClassFile.FieldType.boolean), Jvm.Cond.code ({ cls := "com/example/lockstep/lockstep/core/ActiveLevels", name := "setMost", desc := "(I)V" } : Jvm.MethodName) prog_39_method_8_code (2 : Nat) (Option.none : Option Jvm.ClassFile.FieldType), Jvm.Cond.code ({ cls := "com/example/lockstep/lockstep/core/Search", name := "chooseUnspecified", desc := "(ILjava/lang/String;Lcom/example/lockstep/lockstep/core/value/SourceLocation;)I" } : Jvm.MethodName) prog_206_method_71_code (4 : Nat) (Option.some Jvm.ClassFile.FieldType.int), Jvm.Cond.code ({ cls := "com/example/lockstep/lockstep/core/Search", name := "chooseUnspecified", desc := "(ILjava/util/function/Supplier;Ljava/lang/String;Lcom/example/lockstep/lockstep/core/value/SourceLocation;)I" } : Jvm.MethodName) prog_206_method_72_code (5 : Nat) (Option.some Jvm.ClassFile.FieldType.int), Jvm.Cond.code ({ cls := "com/example/lockstep/lockstep/core/Search", name := "choose", desc := "(ILjava/util/function/Supplier;ZLjava/lang/String;Lcom/example/lockstep/lockstep/core/value/SourceLocation;)I" } : Jvm.MethodName) prog_206_method_80_code (8 : Nat) (Option.some Jvm.ClassFile.FieldType.int), Jvm.Cond.code ({ cls := "com/example/lockstep/lockstep/core/ChoicePoint", name := "<init>", desc := "()V" } : Jvm.MethodName) prog_75_method_1_code (1 : Nat) (Option.none : Option Jvm.ClassFile.FieldType), Jvm.Cond.code ({ cls := "com/example/lockstep/lockstep/core/ChoicePoint", name := "open", desc := "(IIZLjava/lang/String;Lcom/example/lockstep/lockstep/core/value/SourceLocation;Ljava/util/BitSet;JI)V" } : Jvm.MethodName) prog_75_method_2_code (10 : Nat) (Option.none : Option Jvm.ClassFile.FieldType), Jvm.Cond.code ({ cls := "com/example/lockstep/lockstep/core/ChoicePoint", name := "taken", desc := "()I" } : Jvm.MethodName) prog_75_method_5_code (1 : Nat) (Option.some Jvm.ClassFile.FieldType.int), Jvm.Cond.code ({ cls := "java/lang/Math", name := "max", desc := "(II)I" } : Jvm.MethodName) jdk_29_method_65_code (2 : Nat) (Option.some Jvm.ClassFile.FieldType.int), Jvm.Cond.code ({ cls := "com/example/lockstep/lockstep/core/Search", name := "next", desc := "()Z" } : Jvm.MethodName) prog_206_method_91_code (3 : Nat) (Option.some Jvm.ClassFile.FieldType.boolean), Jvm.Cond.code ({ cls := "com/example/lockstep/lockstep/core/PassCounts", name := "clear", desc := "()V" } : Jvm.MethodName) prog_189_method_5_code (1 : Nat) (Option.none : Option Jvm.ClassFile.FieldType), Jvm.Cond.code ({ cls := "java/util/HashMap", name := "clear", desc := "()V" } : Jvm.MethodName) jdk_69_method_22_code (3 : Nat) (Option.none : Option Jvm.ClassFile.FieldType), Jvm.Cond.code ({ cls := "java/util/HashSet", name := "clear", desc := "()V" } : Jvm.MethodName) jdk_93_method_12_code (1 : Nat) (Option.none : Option Jvm.ClassFile.FieldType), Jvm.Cond.code ({ cls := "com/example/lockstep/lockstep/core/ChoicePoint", name := "hasWayToTry", desc := "()Z" } : Jvm.MethodName) prog_75_method_7_code (1 : Nat) (Option.some Jvm.ClassFile.FieldType.boolean), Jvm.Cond.code ({ cls := "com/example/lockstep/lockstep/core/ChoicePoint", name := "nextWay", desc := "()I" } : Jvm.MethodName) prog_75_method_8_code (2 : Nat) (Option.some Jvm.ClassFile.FieldType.int), Jvm.Cond.code ({ cls := "com/example/lockstep/lockstep/core/ChoicePoint", name := "takeNextWay", desc := "()V" } : Jvm.MethodName) prog_75_method_6_code (1 : Nat) (Option.none : Option Jvm.ClassFile.FieldType), Jvm.Cond.code ({ cls := "java/util/ArrayList", name := "isEmpty", desc := "()Z" } : Jvm.MethodName) jdk_38_method_9_code (1 : Nat) (Option.some Jvm.ClassFile.FieldType.boolean), Jvm.Cond.code ({ cls := "java/util/ArrayList", name := "size", desc := "()I" } : Jvm.MethodName) jdk_38_method_8_code (1 : Nat) (Option.some Jvm.ClassFile.FieldType.int), Jvm.Cond.code ({ cls := "com/example/lockstep/lockstep/core/ChoicePoint", name := "ways", desc := "()I" } : Jvm.MethodName) prog_75_method_3_code (1 : Nat) (Option.some Jvm.ClassFile.FieldType.int), Jvm.Cond.code ({ cls := "com/example/lockstep/lockstep/core/ChoicePoint", name := "settledBefore", desc := "()J" } : Jvm.MethodName) prog_75_method_15_code (1 : Nat) (Option.some Jvm.ClassFile.FieldType.long), Jvm.Cond.code ({ cls := "com/example/lockstep/lockstep/core/ChoicePoint", name := "isSettled", desc := "()Z" } : Jvm.MethodName) prog_75_method_16_code (1 : Nat) (Option.some Jvm.ClassFile.FieldType.boolean), Jvm.Cond.code ({ cls := "com/example/lockstep/lockstep/core/ChoicePoint", name := "node", desc := "()I" } : Jvm.MethodName) prog_75_method_4_code (1 : Nat) (Option.some Jvm.ClassFile.FieldType.int)]
set_option maxRecDepth 65536 in
theorem codes_eq : words1.filter isCode = codes1 := rfl
theorem w_codes : ∀ c ∈ words1.filter isCode, c.before args0 about1 = true := by
  rw [codes_eq]
  intro c hc
  simp only [codes1, List.mem_cons, List.not_mem_nil, or_false] at hc
  rcases hc with rfl | rfl | rfl | rfl | rfl | rfl | rfl | rfl | rfl | rfl | rfl | rfl | rfl | rfl | rfl | rfl | rfl | rfl | rfl | rfl | rfl | rfl | rfl | rfl | rfl | rfl | rfl | rfl | rfl | rfl | rfl | rfl | rfl | rfl | rfl | rfl | rfl | rfl | rfl | rfl | rfl | rfl | rfl | rfl | rfl | rfl | rfl | rfl | rfl | rfl | rfl | rfl | rfl | rfl | rfl | rfl | rfl | rfl | rfl | rfl | rfl | rfl | rfl | rfl
  · exact w_c0
  · exact w_c1
  · exact w_c2
  · exact w_c3
  · exact w_c4
  · exact w_c5
  · exact w_c6
  · exact w_c7
  · exact w_c8
  · exact w_c9
  · exact w_c10
  · exact w_c11
  · exact w_c12
  · exact w_c13
  · exact w_c14
  · exact w_c15
  · exact w_c16
  · exact w_c17
  · exact w_c18
  · exact w_c19
  · exact w_c20
  · exact w_c21
  · exact w_c22
  · exact w_c23
  · exact w_c24
  · exact w_c25
  · exact w_c26
  · exact w_c27
  · exact w_c28
  · exact w_c29
  · exact w_c30
  · exact w_c31
  · exact w_c32
  · exact w_c33
  · exact w_c34
  · exact w_c35
  · exact w_c36
  · exact w_c37
  · exact w_c38
  · exact w_c39
  · exact w_c40
  · exact w_c41
  · exact w_c42
  · exact w_c43
  · exact w_c44
  · exact w_c45
  · exact w_c46
  · exact w_c47
  · exact w_c48
  · exact w_c49
  · exact w_c50
  · exact w_c51
  · exact w_c52
  · exact w_c53
  · exact w_c54
  · exact w_c55
  · exact w_c56
  · exact w_c57
  · exact w_c58
  · exact w_c59
  · exact w_c60
  · exact w_c61
  · exact w_c62
  · exact w_c63
set_option maxRecDepth 65536 in
theorem w_t1 : (words1.take 24).all (fun c => isCode c || c.before args0 about1) = true := by decide +kernel
set_option maxRecDepth 65536 in
theorem w_t2 : ((words1.drop 24).take 24).all (fun c => isCode c || c.before args0 about1) = true := by decide +kernel
set_option maxRecDepth 65536 in
theorem w_t3 : (((words1.drop 24).drop 24).take 24).all (fun c => isCode c || c.before args0 about1) = true := by decide +kernel
set_option maxRecDepth 65536 in
theorem w_t4 : ((((words1.drop 24).drop 24).drop 24).take 24).all (fun c => isCode c || c.before args0 about1) = true := by decide +kernel
set_option maxRecDepth 65536 in
theorem w_t5 : (((((words1.drop 24).drop 24).drop 24).drop 24).take 24).all (fun c => isCode c || c.before args0 about1) = true := by decide +kernel
set_option maxRecDepth 65536 in
theorem w_t6 : ((((((words1.drop 24).drop 24).drop 24).drop 24).drop 24).take 24).all (fun c => isCode c || c.before args0 about1) = true := by decide +kernel
set_option maxRecDepth 65536 in
theorem w_t7 : (((((((words1.drop 24).drop 24).drop 24).drop 24).drop 24).drop 24).take 24).all (fun c => isCode c || c.before args0 about1) = true := by decide +kernel
set_option maxRecDepth 65536 in
theorem w_t8 : ((((((((words1.drop 24).drop 24).drop 24).drop 24).drop 24).drop 24).drop 24).take 24).all (fun c => isCode c || c.before args0 about1) = true := by decide +kernel
set_option maxRecDepth 65536 in
theorem w_t9 : (((((((((words1.drop 24).drop 24).drop 24).drop 24).drop 24).drop 24).drop 24).drop 24).take 24).all (fun c => isCode c || c.before args0 about1) = true := by decide +kernel
set_option maxRecDepth 65536 in
theorem w_t10 : ((((((((((words1.drop 24).drop 24).drop 24).drop 24).drop 24).drop 24).drop 24).drop 24).drop 24).take 24).all (fun c => isCode c || c.before args0 about1) = true := by decide +kernel
set_option maxRecDepth 65536 in
theorem w_t11 : (((((((((((words1.drop 24).drop 24).drop 24).drop 24).drop 24).drop 24).drop 24).drop 24).drop 24).drop 24).take 24).all (fun c => isCode c || c.before args0 about1) = true := by decide +kernel
set_option maxRecDepth 65536 in
theorem w_t12 : ((((((((((((words1.drop 24).drop 24).drop 24).drop 24).drop 24).drop 24).drop 24).drop 24).drop 24).drop 24).drop 24).take 24).all (fun c => isCode c || c.before args0 about1) = true := by decide +kernel
set_option maxRecDepth 65536 in
theorem w_t13 : (((((((((((((words1.drop 24).drop 24).drop 24).drop 24).drop 24).drop 24).drop 24).drop 24).drop 24).drop 24).drop 24).drop 24).take 24).all (fun c => isCode c || c.before args0 about1) = true := by decide +kernel
set_option maxRecDepth 65536 in
theorem w_t14 : ((((((((((((((words1.drop 24).drop 24).drop 24).drop 24).drop 24).drop 24).drop 24).drop 24).drop 24).drop 24).drop 24).drop 24).drop 24).take 24).all (fun c => isCode c || c.before args0 about1) = true := by decide +kernel
set_option maxRecDepth 65536 in
theorem w_t15 : (((((((((((((((words1.drop 24).drop 24).drop 24).drop 24).drop 24).drop 24).drop 24).drop 24).drop 24).drop 24).drop 24).drop 24).drop 24).drop 24).take 24).all (fun c => isCode c || c.before args0 about1) = true := by decide +kernel
set_option maxRecDepth 65536 in
theorem w_t16 : ((((((((((((((((words1.drop 24).drop 24).drop 24).drop 24).drop 24).drop 24).drop 24).drop 24).drop 24).drop 24).drop 24).drop 24).drop 24).drop 24).drop 24).take 24).all (fun c => isCode c || c.before args0 about1) = true := by decide +kernel
set_option maxRecDepth 65536 in
theorem w_t17 : (((((((((((((((((words1.drop 24).drop 24).drop 24).drop 24).drop 24).drop 24).drop 24).drop 24).drop 24).drop 24).drop 24).drop 24).drop 24).drop 24).drop 24).drop 24).take 24).all (fun c => isCode c || c.before args0 about1) = true := by decide +kernel
set_option maxRecDepth 65536 in
theorem w_t18 : ((((((((((((((((((words1.drop 24).drop 24).drop 24).drop 24).drop 24).drop 24).drop 24).drop 24).drop 24).drop 24).drop 24).drop 24).drop 24).drop 24).drop 24).drop 24).drop 24).take 24).all (fun c => isCode c || c.before args0 about1) = true := by decide +kernel
set_option maxRecDepth 65536 in
theorem w_t19 : (((((((((((((((((((words1.drop 24).drop 24).drop 24).drop 24).drop 24).drop 24).drop 24).drop 24).drop 24).drop 24).drop 24).drop 24).drop 24).drop 24).drop 24).drop 24).drop 24).drop 24).take 24).all (fun c => isCode c || c.before args0 about1) = true := by decide +kernel
set_option maxRecDepth 65536 in
theorem w_t20 : ((((((((((((((((((((words1.drop 24).drop 24).drop 24).drop 24).drop 24).drop 24).drop 24).drop 24).drop 24).drop 24).drop 24).drop 24).drop 24).drop 24).drop 24).drop 24).drop 24).drop 24).drop 24).take 24).all (fun c => isCode c || c.before args0 about1) = true := by decide +kernel
set_option maxRecDepth 65536 in
theorem w_t21 : (((((((((((((((((((((words1.drop 24).drop 24).drop 24).drop 24).drop 24).drop 24).drop 24).drop 24).drop 24).drop 24).drop 24).drop 24).drop 24).drop 24).drop 24).drop 24).drop 24).drop 24).drop 24).drop 24).take 24).all (fun c => isCode c || c.before args0 about1) = true := by decide +kernel
set_option maxRecDepth 65536 in
theorem w_t22 : ((((((((((((((((((((((words1.drop 24).drop 24).drop 24).drop 24).drop 24).drop 24).drop 24).drop 24).drop 24).drop 24).drop 24).drop 24).drop 24).drop 24).drop 24).drop 24).drop 24).drop 24).drop 24).drop 24).drop 24).take 24).all (fun c => isCode c || c.before args0 about1) = true := by decide +kernel
set_option maxRecDepth 65536 in
theorem w_t23 : (((((((((((((((((((((((words1.drop 24).drop 24).drop 24).drop 24).drop 24).drop 24).drop 24).drop 24).drop 24).drop 24).drop 24).drop 24).drop 24).drop 24).drop 24).drop 24).drop 24).drop 24).drop 24).drop 24).drop 24).drop 24).take 24).all (fun c => isCode c || c.before args0 about1) = true := by decide +kernel
set_option maxRecDepth 65536 in
theorem w_t24 : ((((((((((((((((((((((((words1.drop 24).drop 24).drop 24).drop 24).drop 24).drop 24).drop 24).drop 24).drop 24).drop 24).drop 24).drop 24).drop 24).drop 24).drop 24).drop 24).drop 24).drop 24).drop 24).drop 24).drop 24).drop 24).drop 24).take 24).all (fun c => isCode c || c.before args0 about1) = true := by decide +kernel
set_option maxRecDepth 65536 in
theorem w_t25 : (((((((((((((((((((((((((words1.drop 24).drop 24).drop 24).drop 24).drop 24).drop 24).drop 24).drop 24).drop 24).drop 24).drop 24).drop 24).drop 24).drop 24).drop 24).drop 24).drop 24).drop 24).drop 24).drop 24).drop 24).drop 24).drop 24).drop 24).take 24).all (fun c => isCode c || c.before args0 about1) = true := by decide +kernel
set_option maxRecDepth 65536 in
theorem w_t26 : (((((((((((((((((((((((((words1.drop 24).drop 24).drop 24).drop 24).drop 24).drop 24).drop 24).drop 24).drop 24).drop 24).drop 24).drop 24).drop 24).drop 24).drop 24).drop 24).drop 24).drop 24).drop 24).drop 24).drop 24).drop 24).drop 24).drop 24).drop 24).all (fun c => isCode c || c.before args0 about1) = true := by decide +kernel
theorem w_tables : (allAtoms (Jvm.Cond.code x code maxLocals ret :: tables_1)).before args0 about1 = true := by
  rw [allAtoms_all]
  show words1.all (fun c => c.before args0 about1) = true
  refine all_split ?_ w_codes
  rw [← List.take_append_drop 24 words1, List.all_append, w_t1, ← List.take_append_drop 24 (words1.drop 24), List.all_append, w_t2, ← List.take_append_drop 24 ((words1.drop 24).drop 24), List.all_append, w_t3, ← List.take_append_drop 24 (((words1.drop 24).drop 24).drop 24), List.all_append, w_t4, ← List.take_append_drop 24 ((((words1.drop 24).drop 24).drop 24).drop 24), List.all_append, w_t5, ← List.take_append_drop 24 (((((words1.drop 24).drop 24).drop 24).drop 24).drop 24), List.all_append, w_t6, ← List.take_append_drop 24 ((((((words1.drop 24).drop 24).drop 24).drop 24).drop 24).drop 24), List.all_append, w_t7, ← List.take_append_drop 24 (((((((words1.drop 24).drop 24).drop 24).drop 24).drop 24).drop 24).drop 24), List.all_append, w_t8, ← List.take_append_drop 24 ((((((((words1.drop 24).drop 24).drop 24).drop 24).drop 24).drop 24).drop 24).drop 24), List.all_append, w_t9, ← List.take_append_drop 24 (((((((((words1.drop 24).drop 24).drop 24).drop 24).drop 24).drop 24).drop 24).drop 24).drop 24), List.all_append, w_t10, ← List.take_append_drop 24 ((((((((((words1.drop 24).drop 24).drop 24).drop 24).drop 24).drop 24).drop 24).drop 24).drop 24).drop 24), List.all_append, w_t11, ← List.take_append_drop 24 (((((((((((words1.drop 24).drop 24).drop 24).drop 24).drop 24).drop 24).drop 24).drop 24).drop 24).drop 24).drop 24), List.all_append, w_t12, ← List.take_append_drop 24 ((((((((((((words1.drop 24).drop 24).drop 24).drop 24).drop 24).drop 24).drop 24).drop 24).drop 24).drop 24).drop 24).drop 24), List.all_append, w_t13, ← List.take_append_drop 24 (((((((((((((words1.drop 24).drop 24).drop 24).drop 24).drop 24).drop 24).drop 24).drop 24).drop 24).drop 24).drop 24).drop 24).drop 24), List.all_append, w_t14, ← List.take_append_drop 24 ((((((((((((((words1.drop 24).drop 24).drop 24).drop 24).drop 24).drop 24).drop 24).drop 24).drop 24).drop 24).drop 24).drop 24).drop 24).drop 24), List.all_append, w_t15, ← List.take_append_drop 24 (((((((((((((((words1.drop 24).drop 24).drop 24).drop 24).drop 24).drop 24).drop 24).drop 24).drop 24).drop 24).drop 24).drop 24).drop 24).drop 24).drop 24), List.all_append, w_t16, ← List.take_append_drop 24 ((((((((((((((((words1.drop 24).drop 24).drop 24).drop 24).drop 24).drop 24).drop 24).drop 24).drop 24).drop 24).drop 24).drop 24).drop 24).drop 24).drop 24).drop 24), List.all_append, w_t17, ← List.take_append_drop 24 (((((((((((((((((words1.drop 24).drop 24).drop 24).drop 24).drop 24).drop 24).drop 24).drop 24).drop 24).drop 24).drop 24).drop 24).drop 24).drop 24).drop 24).drop 24).drop 24), List.all_append, w_t18, ← List.take_append_drop 24 ((((((((((((((((((words1.drop 24).drop 24).drop 24).drop 24).drop 24).drop 24).drop 24).drop 24).drop 24).drop 24).drop 24).drop 24).drop 24).drop 24).drop 24).drop 24).drop 24).drop 24), List.all_append, w_t19, ← List.take_append_drop 24 (((((((((((((((((((words1.drop 24).drop 24).drop 24).drop 24).drop 24).drop 24).drop 24).drop 24).drop 24).drop 24).drop 24).drop 24).drop 24).drop 24).drop 24).drop 24).drop 24).drop 24).drop 24), List.all_append, w_t20, ← List.take_append_drop 24 ((((((((((((((((((((words1.drop 24).drop 24).drop 24).drop 24).drop 24).drop 24).drop 24).drop 24).drop 24).drop 24).drop 24).drop 24).drop 24).drop 24).drop 24).drop 24).drop 24).drop 24).drop 24).drop 24), List.all_append, w_t21, ← List.take_append_drop 24 (((((((((((((((((((((words1.drop 24).drop 24).drop 24).drop 24).drop 24).drop 24).drop 24).drop 24).drop 24).drop 24).drop 24).drop 24).drop 24).drop 24).drop 24).drop 24).drop 24).drop 24).drop 24).drop 24).drop 24), List.all_append, w_t22, ← List.take_append_drop 24 ((((((((((((((((((((((words1.drop 24).drop 24).drop 24).drop 24).drop 24).drop 24).drop 24).drop 24).drop 24).drop 24).drop 24).drop 24).drop 24).drop 24).drop 24).drop 24).drop 24).drop 24).drop 24).drop 24).drop 24).drop 24), List.all_append, w_t23, ← List.take_append_drop 24 (((((((((((((((((((((((words1.drop 24).drop 24).drop 24).drop 24).drop 24).drop 24).drop 24).drop 24).drop 24).drop 24).drop 24).drop 24).drop 24).drop 24).drop 24).drop 24).drop 24).drop 24).drop 24).drop 24).drop 24).drop 24).drop 24), List.all_append, w_t24, ← List.take_append_drop 24 ((((((((((((((((((((((((words1.drop 24).drop 24).drop 24).drop 24).drop 24).drop 24).drop 24).drop 24).drop 24).drop 24).drop 24).drop 24).drop 24).drop 24).drop 24).drop 24).drop 24).drop 24).drop 24).drop 24).drop 24).drop 24).drop 24).drop 24), List.all_append, w_t25, w_t26]
  rfl
set_option maxRecDepth 65536 in
theorem w_rest : rest_1_c.before args0 about1 = true := by decide +kernel
set_option maxRecDepth 65536 in
theorem w_case : (Jvm.Cond.and given_1 narrow_1).before args0 about1 = true := by decide +kernel
set_option maxRecDepth 65536 in
theorem w_consts : constsHeld consts_1 about1 := Jvm.Lit.constsHeldB_iff.mp (by decide +kernel)
theorem w_applies : (headSpec (Jvm.Cond.code x code maxLocals ret :: tables_1) room_1).applies x e0.platform about1 = true :=
  (Spec.applies_iff w_frames).mpr ⟨w_running, w_runnable, w_alone, w_named, w_hears, w_ripe, w_room, w_tables⟩
theorem atStart : AtStart classFile x code maxLocals ret World_1 tables_1 room_1 Calls_1 rest_1 Pre_1 launch0 p0 e0 about1 theMethod args0 below0 :=
  ⟨lists_1, trivial, launch0.admits_env _ _ _, launch0.least_env, fairChoices_fair.cas, fairChoices_fair.clock, w_frames, w_args, w_heap, w_applies, ⟨⟨33, k33, 3, by decide +kernel, rfl, rfl, _, rfl, rfl⟩, ⟨⟨30, k30, 4, by decide +kernel, rfl, rfl, _, rfl, rfl⟩, ⟨⟨59, k59, 5, by decide +kernel, rfl, rfl, _, rfl, rfl⟩, ⟨w_consts, trivial⟩⟩⟩⟩, w_rest, w_case⟩
end start1
theorem witness_1 : WitnessClaimed_1 := ⟨start1.p0, start1.e0, start1.about1, start1.theMethod, start1.args0, start1.below0, start1.atStart⟩
end Jvm.Pilot.@@N@@
