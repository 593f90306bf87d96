import JvmDerived
import JvmDerived.Pilot.@@N@@Statement
import JvmDerived.Pilot.@@N@@Code
set_option linter.unusedVariables false
set_option linter.unusedSimpArgs false
namespace Jvm.Pilot.@@N@@
open Jvm Jvm.ClassFile Sem Op Lib Jvm.Free Jvm.Stand Jvm.LawKit Jvm.RoadKit Bundle Jvm.Pilot.@@N@@.Jvm.D
/-! ## Own layer: a run in backward form, a world of known objects, one lemma a step -/
/-- from U the run comes to an end of which P holds -/
def Run (tb : Tables) (e : Env) (below : List Frame) (P : Outcome → State → Prop) (U : State) : Prop :=
  ∃ s₂ o, Steps tb e below U s₂ ∧ s₂.status = .running ∧ Ended s₂ below o ∧ P o s₂
theorem Run.of {tb : Tables} {e : Env} {below : List Frame} {P : Outcome → State → Prop} {U U' : State} (st : ∀ t, Steps tb e below U' t → Steps tb e below U t) (k : Run tb e below P U') : Run tb e below P U := by
  obtain ⟨s₂, o, h, r⟩ := k
  exact ⟨s₂, o, st _ h, r⟩
theorem Run.tr {tb : Tables} {e : Env} {below : List Frame} {P : Outcome → State → Prop} {U U' : State} (st : Steps tb e below U U') (k : Run tb e below P U') : Run tb e below P U := by
  obtain ⟨s₂, o, h, r⟩ := k
  exact ⟨s₂, o, st.trans h, r⟩
/-! ### The world: what is known of the heap -/
abbrev FS := List (String × String × String × Value)
/-- address, whether it may be written, then an object (class, fields) or an array (class, component kind, length, first components, the others) -/
abbrev OB := Addr × Bool × ((String × FS) ⊕ (ClassId × FieldType × Int32 × List Value × Value))
def Kn (h : Heap) (a : Addr) : Prop := ∃ cell : Cell, h[a]? = some cell ∧ cell.vm ≠ .unknown
theorem Kn.ext {h h' : Heap} {a : Addr} (E : Ext h h') (q : Kn h a) : Kn h' a := by obtain ⟨c, h1, h2⟩ := q; exact ⟨c, E.2 _ _ h1, h2⟩
theorem Kn.wr {h h' : Heap} {a b : Addr} {sl : Nat} {v : Value} (K : Wr h h' b sl v) (q : Kn h a) : Kn h' a := by
  obtain ⟨c, h1, h2⟩ := q
  obtain ⟨c', e1, -, e3, -⟩ := wr_at K h1
  exact ⟨c', e1, by rw [e3]; exact h2⟩
def obAt (Z : State) (h : Heap) (o : OB) : Prop :=
  match o.2.2 with
  | .inl q => Exa Z h o.1 q.1 ∧ (∀ f ∈ q.2, Fld Z h o.1 f.1 f.2.1 f.2.2.1 f.2.2.2) ∧ Kn h o.1
  | .inr q => Arv Z h o.1 q.1 q.2.1 q.2.2.1 q.2.2.2.1 q.2.2.2.2 ∧ ∀ C, q.2.1 = .object C → Ovr Z q.1 C
section World
variable {Z : State} {EL : List (String × Nat)} {vm vm1 : Vm} {h h' : Heap} {a : Addr} {sl : Nat} {v : Value} {o : OB} {W : List OB}
theorem obAt.lt (q : obAt Z h o) : o.1 < h.size := by
  obtain ⟨a, b, x⟩ := o
  cases x with
  | inl x => exact q.1.lt
  | inr x => exact q.1.lt
theorem obAt.ext (E : Ext h h') (q : obAt Z h o) : obAt Z h' o := by
  obtain ⟨a, b, x⟩ := o
  cases x with
  | inl x => exact ⟨q.1.ext E, fun f hf => (q.2.1 f hf).ext E, q.2.2.ext E⟩
  | inr x => exact ⟨q.1.ext E, q.2⟩
theorem obAt.other (K : Wr h h' a sl v) (ne : o.1 ≠ a) (q : obAt Z h o) : obAt Z h' o := by
  obtain ⟨b, c, x⟩ := o
  cases x with
  | inl x => exact ⟨q.1.wr K, fun f hf => (q.2.1 f hf).other K (Or.inl ne), q.2.2.wr K⟩
  | inr x => exact ⟨q.1.other K ne, q.2⟩
def Apart (o o' : OB) : Prop := (o.2.1 = true ∨ o'.2.1 = true) → o.1 ≠ o'.1
/-- the known objects W: new ones may be written, the others (literals) not; no two of them are one, where one may be written; the old heap stands; the literals are what they say -/
def WL (Z : State) (EL : List (String × Nat)) (vm : Vm) (h : Heap) (W : List OB) : Prop :=
  Ext Z.heap h ∧ CHv Z EL vm h ∧ (∀ o ∈ W, obAt Z h o ∧ (o.2.1 = true → Z.heap.size ≤ o.1 ∧ Safe Z EL vm h o.1)) ∧ W.Pairwise Apart
theorem ext_trans {h1 h2 h3 : Heap} (E : Ext h1 h2) (E' : Ext h2 h3) : Ext h1 h3 := ⟨Nat.le_trans E.1 E'.1, fun a c q => E'.2 a c (E.2 a c q)⟩
theorem WL.later (R : CHr Z EL vm h vm1 h') (E : Ext h h') (w : WL Z EL vm h W) : WL Z EL vm1 h' W :=
  ⟨ext_trans w.1 E, R.1, fun o ho => ⟨(w.2.2.1 o ho).1.ext E, fun b => ⟨((w.2.2.1 o ho).2 b).1, R.safe (w.2.2.1 o ho).1.lt ((w.2.2.1 o ho).2 b).2⟩⟩, w.2.2.2⟩
theorem WL.ext (E : Ext h h') (w : WL Z EL vm h W) : WL Z EL vm h' W := w.later (CHr.ext E w.2.1) E
theorem WL.atVm (R : CHr Z EL vm h vm1 h) (w : WL Z EL vm h W) : WL Z EL vm1 h W := w.later R ⟨Nat.le_refl _, fun _ _ q => q⟩
theorem WL.cons (w : WL Z EL vm h W) (q : obAt Z h o) (q1 : o.2.1 = true → Z.heap.size ≤ o.1 ∧ Safe Z EL vm h o.1) (q2 : ∀ o' ∈ W, Apart o o') : WL Z EL vm h (o :: W) :=
  ⟨w.1, w.2.1, fun x hx => by
    rcases List.mem_cons.mp hx with rfl | hx
    · exact ⟨q, q1⟩
    · exact w.2.2.1 x hx, List.pairwise_cons.mpr ⟨q2, w.2.2.2⟩⟩
theorem WL.tail (w : WL Z EL vm h (o :: W)) : WL Z EL vm h W := ⟨w.1, w.2.1, fun x hx => w.2.2.1 x (List.mem_cons_of_mem _ hx), (List.pairwise_cons.mp w.2.2.2).2⟩
/-- a fresh cell -/
theorem WL.fresh (w : WL Z EL vm h W) (E : Ext h h') (ho : o.1 = h.size) (q : obAt Z h' o) : WL Z EL vm h' (o :: W) := by
  refine (w.ext E).cons q (fun _ => ⟨by rw [ho]; exact w.1.1, ?_⟩) fun o' ho' _ => ?_
  · rw [ho]; exact (Safe.new (Nat.le_refl _)).ext E w.2.1
  · have := (w.2.2.1 o' ho').1.lt
    rw [ho]; exact fun e => Nat.lt_irrefl _ (Nat.lt_of_le_of_lt (Nat.le_of_eq e) this)
def pick (W : List OB) : List Nat → List OB
  | [] => []
  | i :: l => W.getD i (0, false, .inl ("", [])) :: pick W l
theorem pick_mem : ∀ (l : List Nat), (∀ i ∈ l, i < W.length) → ∀ o ∈ pick W l, ∃ i ∈ l, W[i]? = some o
  | [], _, o, ho => by cases ho
  | i :: l, hl, o, ho => by
    rcases List.mem_cons.mp ho with rfl | ho
    · have hi := hl i (List.mem_cons_self ..)
      exact ⟨i, List.mem_cons_self .., by simp [List.getD_eq_getElem?_getD, hi]⟩
    · obtain ⟨k, hk, e⟩ := pick_mem l (fun k hk => hl k (List.mem_cons_of_mem _ hk)) o ho
      exact ⟨k, List.mem_cons_of_mem _ hk, e⟩
theorem apart_symm {o o' : OB} (q : Apart o o') : Apart o' o := fun b e => q b.symm e.symm
theorem apart_at (w : WL Z EL vm h W) {i j : Nat} {o o' : OB} (hi : W[i]? = some o) (hj : W[j]? = some o') (ne : i ≠ j) : Apart o o' := by
  have P := List.pairwise_iff_getElem.mp w.2.2.2
  obtain ⟨h1, rfl⟩ := List.getElem?_eq_some_iff.mp hi
  obtain ⟨h2, rfl⟩ := List.getElem?_eq_some_iff.mp hj
  rcases Nat.lt_or_gt_of_ne ne with q | q
  · exact P i j h1 h2 q
  · exact apart_symm (P j i h2 h1 q)
theorem WL.picked (w : WL Z EL vm h W) (n : Nat) : ∀ (l : List Nat), l.Nodup → (∀ i ∈ l, i < n) → n ≤ W.length → WL Z EL vm h (pick W l ++ W.drop n)
  | [], _, _, _ => ⟨w.1, w.2.1, fun o ho => w.2.2.1 o (List.mem_of_mem_drop ho), w.2.2.2.sublist (List.drop_sublist n W)⟩
  | i :: l, hd, hl, hn => by
    have hi := hl i (List.mem_cons_self ..)
    have hi' : i < W.length := by omega
    have eW : W[i]? = some (W.getD i (0, false, .inl ("", []))) := by simp [List.getD_eq_getElem?_getD, hi']
    have r := WL.picked w n l (List.nodup_cons.mp hd).2 (fun k hk => hl k (List.mem_cons_of_mem _ hk)) hn
    have m := w.2.2.1 _ (List.mem_of_getElem? eW)
    refine r.cons m.1 m.2 fun o' ho' => ?_
    rcases List.mem_append.mp ho' with ho' | ho'
    · obtain ⟨k, hk, e⟩ := pick_mem l (fun k hk => Nat.lt_of_lt_of_le (hl k (List.mem_cons_of_mem _ hk)) hn) o' ho'
      exact apart_at w eW e fun z => (List.nodup_cons.mp hd).1 (z ▸ hk)
    · obtain ⟨k, e⟩ := List.mem_iff_getElem?.mp ho'
      rw [List.getElem?_drop] at e
      exact apart_at w eW e (by omega)
/-- the fields of an object lie in slots of their own -/
def SD (Z : State) (ks : List (String × String × String)) : Prop := ∀ (i j : Nat) (k k' : String × String × String), i ≠ j → ks[i]? = some k → ks[j]? = some k' → Jvm.RoadKit.slotOf Z k.1 k.2.1 k.2.2 ≠ Jvm.RoadKit.slotOf Z k'.1 k'.2.1 k'.2.2
def key (f : String × String × String × Value) : String × String × String := (f.1, f.2.1, f.2.2.1)
theorem WL.upd (w : WL Z EL vm h W) {i : Nat} {b : Bool} {x y : (String × FS) ⊕ (ClassId × FieldType × Int32 × List Value × Value)} (hi : W[i]? = some (a, true, x)) (K : Wr h h' a sl v) (q : obAt Z h' (a, true, y)) : WL Z EL vm h' (W.set i (a, true, y)) := by
  have m := w.2.2.1 _ (List.mem_of_getElem? hi)
  have ms := m.2 rfl
  have C := CHv.wrStep K ms.2 w.2.1
  have hlt := (List.getElem?_eq_some_iff.mp hi).1
  refine ⟨?_, C.1, fun o ho => ?_, ?_⟩
  · have O := (Old.wr ⟨rfl, w.1⟩ K ms.1 : Old Z Z.heap.size h')
    exact O.2
  · obtain ⟨k, hk⟩ := List.mem_iff_getElem?.mp ho
    rw [List.getElem?_set] at hk
    split at hk
    · rename_i e
      subst e
      first | rw [if_pos hlt] at hk | skip
      cases hk
      exact ⟨q, fun _ => ⟨ms.1, Safe.wr K ms.2 w.2.1 ms.2⟩⟩
    · rename_i e
      have m' := w.2.2.1 _ (List.mem_of_getElem? hk)
      have ne : o.1 ≠ a := apart_at w hk hi (Ne.symm e) (Or.inr rfl)
      exact ⟨m'.1.other K ne, fun b => ⟨(m'.2 b).1, Safe.wr K ms.2 w.2.1 (m'.2 b).2⟩⟩
  · rw [List.pairwise_iff_getElem]
    intro k j hk hj hkj
    have P := List.pairwise_iff_getElem.mp w.2.2.2 k j (by simpa using hk) (by simpa using hj) hkj
    obtain ⟨hl, e⟩ := List.getElem?_eq_some_iff.mp hi
    rw [List.getElem_set, List.getElem_set]
    split <;> split
    · rename_i e1 e2; omega
    · rename_i e1 e2; subst e1; rw [e] at P; exact P
    · rename_i e1 e2; subst e2; rw [e] at P; exact P
    · exact P
theorem WL.put (w : WL Z EL vm h W) {i j : Nat} {C : String} {fs : FS} {O n d : String} {old : Value} (hi : W[i]? = some (a, true, .inl (C, fs))) (hj : fs[j]? = some (O, n, d, old)) (D : SD Z (fs.map key)) (K : Wr h h' a (Jvm.RoadKit.slotOf Z O n d) v) : WL Z EL vm h' (W.set i (a, true, .inl (C, fs.set j (O, n, d, v)))) := by
  have m := (w.2.2.1 _ (List.mem_of_getElem? hi)).1
  have hlt := (List.getElem?_eq_some_iff.mp hj).1
  refine w.upd (b := true) hi K ⟨m.1.wr K, fun f hf => ?_, m.2.2.wr K⟩
  obtain ⟨k, hk⟩ := List.mem_iff_getElem?.mp hf
  rw [List.getElem?_set] at hk
  split at hk
  · rename_i e
    subst e
    first | rw [if_pos hlt] at hk | skip
    cases hk
    exact (m.2.1 _ (List.mem_of_getElem? hj)).same K
  · rename_i e
    exact (m.2.1 _ (List.mem_of_getElem? hk)).other K (Or.inr (D k j (key f) (key (O, n, d, old)) (Ne.symm e) (by rw [List.getElem?_map, hk]; rfl) (by rw [List.getElem?_map, hj]; rfl)))
/-- a field of which nothing is kept is written -/
theorem WL.putX (w : WL Z EL vm h W) {i : Nat} {C : String} {fs : FS} {O n d : String} (hi : W[i]? = some (a, true, .inl (C, fs))) (D : ∀ f ∈ fs, Jvm.RoadKit.slotOf Z f.1 f.2.1 f.2.2.1 ≠ Jvm.RoadKit.slotOf Z O n d) (K : Wr h h' a (Jvm.RoadKit.slotOf Z O n d) v) : WL Z EL vm h' W := by
  have m := (w.2.2.1 _ (List.mem_of_getElem? hi)).1
  have r := w.upd (b := true) (y := .inl (C, fs)) hi K ⟨m.1.wr K, fun f hf => (m.2.1 f hf).other K (Or.inr (D f hf)), m.2.2.wr K⟩
  obtain ⟨hl, e⟩ := List.getElem?_eq_some_iff.mp hi
  have e2 : W.set i (a, true, .inl (C, fs)) = W := by rw [← e]; exact List.set_getElem_self hl
  rw [e2] at r
  exact r
end World
/-! ### The walk's invariant -/
/-- what holds of the case: the table words, the constants' texts -/
def GC (Z : State) (a0 : Array Value) (EL : List (String × Nat)) : Prop :=
  (∀ d ∈ tables_1, d.before a0 Z = true) ∧ EW Z a0 EL ∧ (∀ d ∈ Bundle.stringAtoms, d.before a0 Z = true)
def J (l : Launch) (Z : State) (a0 : Array Value) (EL : List (String × Nat)) (LT : List (String × Nat × Addr)) (own : String) (bytes : ByteArray) (maxL : Nat) (ret : Option FieldType) (nm : String) (R : Room) (p : Program) (e : Env) (s : State) (m : MethodId) (args : Array Value) (below : List Frame) (meth : Method) (c : Code) (T : State) (cells slots : Nat) (W : List OB) : Prop :=
  ∃ (vm0 : Vm) (locs : List Loc) (k0 : Nat), Stand p l e R (s.setVm vm0) m args below meth c T locs cells slots ∧ s.Since vm0 k0 ∧ k0 ≤ T.heap.size ∧ Z.Warmed39 vm0 ∧ vm0.findClass own = some m.cls ∧ Fr Z.heap.size locs ∧ WL Z EL vm0 T.heap W ∧ (∀ t ∈ LT, Lit (s.setVm vm0) t.1 t.2.1 t.2.2) ∧
    (p.tables.exec = Jvm.exec ∧ c.code = bytes ∧ c.maxLocals = maxL ∧ meth.sig.returnType = ret ∧ meth.name = nm ∧ meth.locks = false ∧ GC Z a0 EL)
section Steps
variable {l : Launch} {Z : State} {a0 : Array Value} {EL : List (String × Nat)} {LT : List (String × Nat × Addr)} {own : String} {bytes : ByteArray} {maxL : Nat} {ret : Option FieldType} {nm : String} {R : Room} {p : Program} {e : Env} {s : State} {m : MethodId} {args : Array Value} {below : List Frame} {meth : Method} {c : Code} {T : State} {cells slots : Nat} {W : List OB}
theorem J.here (j : J l Z a0 EL LT own bytes maxL ret nm R p e s m args below meth c T cells slots W) : At T m c below ∧ p.tables.exec = Jvm.exec ∧ c.code = bytes := by
  obtain ⟨vm0, locs, k0, X, -, -, -, -, -, -, -, h1, h2, -⟩ := j
  exact ⟨X.here, h1, h2⟩
theorem J.norm (j : J l Z a0 EL LT own bytes maxL ret nm R p e s m args below meth c T cells slots W) {W' : List OB} (h : W = W') : J l Z a0 EL LT own bytes maxL ret nm R p e s m args below meth c T cells slots W' := h ▸ j
theorem mt {d : Jvm.Cond} {i : Nat} (h : tables_1[i]? = some d) : d ∈ tables_1 := List.mem_of_getElem? h

theorem p_aload_n (j : J l Z a0 EL LT own bytes maxL ret nm R p e s m args below meth c T cells slots W) {pc : Nat} {Ls : Array Slot} {S : List Value} {Pq : Outcome → State → Prop} {k : Fin 4} {v : Value} (hd : decode bytes pc = .ok (.aload_n k, 1)) (hl : Ls[k.val]? = some (.val v)) (hv : v.isRef = true) (pc' : Nat) (hp : pc' = pc + 1) (q : Run p.tables e below Pq (T.setTop (mkF m pc' Ls (v :: S)))) : Run p.tables e below Pq (T.setTop (mkF m pc Ls (S))) := by
  obtain ⟨hA, hx, hby⟩ := j.here
  subst hp
  exact Run.of (fun t k => XS.aloadN (g := mkF m pc Ls (S)) hA hx rfl (hb hby hd) hl hv k) q
theorem p_aload (j : J l Z a0 EL LT own bytes maxL ret nm R p e s m args below meth c T cells slots W) {pc : Nat} {Ls : Array Slot} {S : List Value} {Pq : Outcome → State → Prop} {k : Nat} {v : Value} (hd : decode bytes pc = .ok (.aload k, 2)) (hl : Ls[k]? = some (.val v)) (hv : v.isRef = true) (pc' : Nat) (hp : pc' = pc + 2) (q : Run p.tables e below Pq (T.setTop (mkF m pc' Ls (v :: S)))) : Run p.tables e below Pq (T.setTop (mkF m pc Ls (S))) := by
  obtain ⟨hA, hx, hby⟩ := j.here
  subst hp
  exact Run.of (fun t k => XS.aload (g := mkF m pc Ls (S)) hA hx rfl (hb hby hd) hl hv k) q
theorem p_iload_n (j : J l Z a0 EL LT own bytes maxL ret nm R p e s m args below meth c T cells slots W) {pc : Nat} {Ls : Array Slot} {S : List Value} {Pq : Outcome → State → Prop} {k : Fin 4} {v : Int32} (hd : decode bytes pc = .ok (.iload_n k, 1)) (hl : Ls[k.val]? = some (.val (.int v))) (pc' : Nat) (hp : pc' = pc + 1) (q : Run p.tables e below Pq (T.setTop (mkF m pc' Ls (.int v :: S)))) : Run p.tables e below Pq (T.setTop (mkF m pc Ls (S))) := by
  obtain ⟨hA, hx, hby⟩ := j.here
  subst hp
  exact Run.of (fun t k => XS.iloadN (g := mkF m pc Ls (S)) hA hx rfl (hb hby hd) hl k) q
theorem p_iload (j : J l Z a0 EL LT own bytes maxL ret nm R p e s m args below meth c T cells slots W) {pc : Nat} {Ls : Array Slot} {S : List Value} {Pq : Outcome → State → Prop} {k : Nat} {v : Int32} (hd : decode bytes pc = .ok (.iload k, 2)) (hl : Ls[k]? = some (.val (.int v))) (pc' : Nat) (hp : pc' = pc + 2) (q : Run p.tables e below Pq (T.setTop (mkF m pc' Ls (.int v :: S)))) : Run p.tables e below Pq (T.setTop (mkF m pc Ls (S))) := by
  obtain ⟨hA, hx, hby⟩ := j.here
  subst hp
  exact Run.of (fun t k => XS.iload (g := mkF m pc Ls (S)) hA hx rfl (hb hby hd) hl k) q
theorem p_lload_n (j : J l Z a0 EL LT own bytes maxL ret nm R p e s m args below meth c T cells slots W) {pc : Nat} {Ls : Array Slot} {S : List Value} {Pq : Outcome → State → Prop} {k : Fin 4} {v : Int64} (hd : decode bytes pc = .ok (.lload_n k, 1)) (hl : Ls[k.val]? = some (.val (.long v))) (pc' : Nat) (hp : pc' = pc + 1) (q : Run p.tables e below Pq (T.setTop (mkF m pc' Ls (.long v :: S)))) : Run p.tables e below Pq (T.setTop (mkF m pc Ls (S))) := by
  obtain ⟨hA, hx, hby⟩ := j.here
  subst hp
  exact Run.of (fun t k => XS.lloadN (g := mkF m pc Ls (S)) hA hx rfl (hb hby hd) hl k) q
theorem p_lload (j : J l Z a0 EL LT own bytes maxL ret nm R p e s m args below meth c T cells slots W) {pc : Nat} {Ls : Array Slot} {S : List Value} {Pq : Outcome → State → Prop} {k : Nat} {v : Int64} (hd : decode bytes pc = .ok (.lload k, 2)) (hl : Ls[k]? = some (.val (.long v))) (pc' : Nat) (hp : pc' = pc + 2) (q : Run p.tables e below Pq (T.setTop (mkF m pc' Ls (.long v :: S)))) : Run p.tables e below Pq (T.setTop (mkF m pc Ls (S))) := by
  obtain ⟨hA, hx, hby⟩ := j.here
  subst hp
  exact Run.of (fun t k => XS.lload (g := mkF m pc Ls (S)) hA hx rfl (hb hby hd) hl k) q
theorem p_istore_n (j : J l Z a0 EL LT own bytes maxL ret nm R p e s m args below meth c T cells slots W) {pc : Nat} {Ls : Array Slot} {S : List Value} {Pq : Outcome → State → Prop} {k : Fin 4} {x : Int32} (l' : Array Slot) (hd : decode bytes pc = .ok (.istore_n k, 1)) (hl : storeLocals Ls k.val (.int x) = some l') (pc' : Nat) (hp : pc' = pc + 1) (q : Run p.tables e below Pq (T.setTop (mkF m pc' l' (S)))) : Run p.tables e below Pq (T.setTop (mkF m pc Ls (.int x :: S))) := by
  obtain ⟨hA, hx, hby⟩ := j.here
  subst hp
  exact Run.of (fun t k => XS.istoreN (g := mkF m pc Ls (.int x :: S)) hA hx rfl (hb hby hd) rfl hl k) q
theorem p_istore (j : J l Z a0 EL LT own bytes maxL ret nm R p e s m args below meth c T cells slots W) {pc : Nat} {Ls : Array Slot} {S : List Value} {Pq : Outcome → State → Prop} {k : Nat} {x : Int32} (l' : Array Slot) (hd : decode bytes pc = .ok (.istore k, 2)) (hl : storeLocals Ls k (.int x) = some l') (pc' : Nat) (hp : pc' = pc + 2) (q : Run p.tables e below Pq (T.setTop (mkF m pc' l' (S)))) : Run p.tables e below Pq (T.setTop (mkF m pc Ls (.int x :: S))) := by
  obtain ⟨hA, hx, hby⟩ := j.here
  subst hp
  exact Run.of (fun t k => XS.istore (g := mkF m pc Ls (.int x :: S)) hA hx rfl (hb hby hd) rfl hl k) q
theorem p_lstore_n (j : J l Z a0 EL LT own bytes maxL ret nm R p e s m args below meth c T cells slots W) {pc : Nat} {Ls : Array Slot} {S : List Value} {Pq : Outcome → State → Prop} {k : Fin 4} {x : Int64} (l' : Array Slot) (hd : decode bytes pc = .ok (.lstore_n k, 1)) (hl : storeLocals Ls k.val (.long x) = some l') (pc' : Nat) (hp : pc' = pc + 1) (q : Run p.tables e below Pq (T.setTop (mkF m pc' l' (S)))) : Run p.tables e below Pq (T.setTop (mkF m pc Ls (.long x :: S))) := by
  obtain ⟨hA, hx, hby⟩ := j.here
  subst hp
  exact Run.of (fun t k => XS.lstoreN (g := mkF m pc Ls (.long x :: S)) hA hx rfl (hb hby hd) rfl hl k) q
theorem p_lstore (j : J l Z a0 EL LT own bytes maxL ret nm R p e s m args below meth c T cells slots W) {pc : Nat} {Ls : Array Slot} {S : List Value} {Pq : Outcome → State → Prop} {k : Nat} {x : Int64} (l' : Array Slot) (hd : decode bytes pc = .ok (.lstore k, 2)) (hl : storeLocals Ls k (.long x) = some l') (pc' : Nat) (hp : pc' = pc + 2) (q : Run p.tables e below Pq (T.setTop (mkF m pc' l' (S)))) : Run p.tables e below Pq (T.setTop (mkF m pc Ls (.long x :: S))) := by
  obtain ⟨hA, hx, hby⟩ := j.here
  subst hp
  exact Run.of (fun t k => XS.lstore (g := mkF m pc Ls (.long x :: S)) hA hx rfl (hb hby hd) rfl hl k) q
theorem p_astore_n (j : J l Z a0 EL LT own bytes maxL ret nm R p e s m args below meth c T cells slots W) {pc : Nat} {Ls : Array Slot} {S : List Value} {Pq : Outcome → State → Prop} {k : Fin 4} {x : Value} (l' : Array Slot) (hd : decode bytes pc = .ok (.astore_n k, 1)) (hv : x.isRef = true) (hl : storeLocals Ls k.val x = some l') (pc' : Nat) (hp : pc' = pc + 1) (q : Run p.tables e below Pq (T.setTop (mkF m pc' l' (S)))) : Run p.tables e below Pq (T.setTop (mkF m pc Ls (x :: S))) := by
  obtain ⟨hA, hx, hby⟩ := j.here
  subst hp
  exact Run.of (fun t k => XS.astoreN (g := mkF m pc Ls (x :: S)) hA hx rfl (hb hby hd) rfl hv hl k) q
theorem p_astore (j : J l Z a0 EL LT own bytes maxL ret nm R p e s m args below meth c T cells slots W) {pc : Nat} {Ls : Array Slot} {S : List Value} {Pq : Outcome → State → Prop} {k : Nat} {x : Value} (l' : Array Slot) (hd : decode bytes pc = .ok (.astore k, 2)) (hv : x.isRef = true) (hl : storeLocals Ls k x = some l') (pc' : Nat) (hp : pc' = pc + 2) (q : Run p.tables e below Pq (T.setTop (mkF m pc' l' (S)))) : Run p.tables e below Pq (T.setTop (mkF m pc Ls (x :: S))) := by
  obtain ⟨hA, hx, hby⟩ := j.here
  subst hp
  exact Run.of (fun t k => XS.astore (g := mkF m pc Ls (x :: S)) hA hx rfl (hb hby hd) rfl hv hl k) q
theorem p_iconst (j : J l Z a0 EL LT own bytes maxL ret nm R p e s m args below meth c T cells slots W) {pc : Nat} {Ls : Array Slot} {S : List Value} {Pq : Outcome → State → Prop} {i : Int} {z : Int32} (hd : decode bytes pc = .ok (.iconst i, 1)) (hz : Int32.ofInt i = z) (pc' : Nat) (hp : pc' = pc + 1) (q : Run p.tables e below Pq (T.setTop (mkF m pc' Ls (.int z :: S)))) : Run p.tables e below Pq (T.setTop (mkF m pc Ls (S))) := by
  obtain ⟨hA, hx, hby⟩ := j.here
  subst hp hz
  exact Run.of (fun t k => XS.iconst (g := mkF m pc Ls (S)) hA hx rfl (hb hby hd)  k) q
theorem p_bipush (j : J l Z a0 EL LT own bytes maxL ret nm R p e s m args below meth c T cells slots W) {pc : Nat} {Ls : Array Slot} {S : List Value} {Pq : Outcome → State → Prop} {i : Int} {z : Int32} (hd : decode bytes pc = .ok (.bipush i, 2)) (hz : (Int8.ofInt i).toInt32 = z) (pc' : Nat) (hp : pc' = pc + 2) (q : Run p.tables e below Pq (T.setTop (mkF m pc' Ls (.int z :: S)))) : Run p.tables e below Pq (T.setTop (mkF m pc Ls (S))) := by
  obtain ⟨hA, hx, hby⟩ := j.here
  subst hp hz
  exact Run.of (fun t k => XS.bipush (g := mkF m pc Ls (S)) hA hx rfl (hb hby hd)  k) q
theorem p_sipush (j : J l Z a0 EL LT own bytes maxL ret nm R p e s m args below meth c T cells slots W) {pc : Nat} {Ls : Array Slot} {S : List Value} {Pq : Outcome → State → Prop} {i : Int} {z : Int32} (hd : decode bytes pc = .ok (.sipush i, 3)) (hz : (Int16.ofInt i).toInt32 = z) (pc' : Nat) (hp : pc' = pc + 3) (q : Run p.tables e below Pq (T.setTop (mkF m pc' Ls (.int z :: S)))) : Run p.tables e below Pq (T.setTop (mkF m pc Ls (S))) := by
  obtain ⟨hA, hx, hby⟩ := j.here
  subst hp hz
  exact Run.of (fun t k => XS.sipush (g := mkF m pc Ls (S)) hA hx rfl (hb hby hd)  k) q
theorem p_lconst (j : J l Z a0 EL LT own bytes maxL ret nm R p e s m args below meth c T cells slots W) {pc : Nat} {Ls : Array Slot} {S : List Value} {Pq : Outcome → State → Prop} {i : Fin 2} {z : Int64} (hd : decode bytes pc = .ok (.lconst i, 1)) (hz : Int64.ofNat i = z) (pc' : Nat) (hp : pc' = pc + 1) (q : Run p.tables e below Pq (T.setTop (mkF m pc' Ls (.long z :: S)))) : Run p.tables e below Pq (T.setTop (mkF m pc Ls (S))) := by
  obtain ⟨hA, hx, hby⟩ := j.here
  subst hp hz
  exact Run.of (fun t k => XS.lconst (g := mkF m pc Ls (S)) hA hx rfl (hb hby hd)  k) q
theorem p_aconst_null (j : J l Z a0 EL LT own bytes maxL ret nm R p e s m args below meth c T cells slots W) {pc : Nat} {Ls : Array Slot} {S : List Value} {Pq : Outcome → State → Prop}  (hd : decode bytes pc = .ok (.aconst_null, 1))  (pc' : Nat) (hp : pc' = pc + 1) (q : Run p.tables e below Pq (T.setTop (mkF m pc' Ls (.null :: S)))) : Run p.tables e below Pq (T.setTop (mkF m pc Ls (S))) := by
  obtain ⟨hA, hx, hby⟩ := j.here
  subst hp
  exact Run.of (fun t k => XS.aconstNull (g := mkF m pc Ls (S)) hA hx rfl (hb hby hd)  k) q
theorem p_iadd (j : J l Z a0 EL LT own bytes maxL ret nm R p e s m args below meth c T cells slots W) {pc : Nat} {Ls : Array Slot} {S : List Value} {Pq : Outcome → State → Prop} {x y z : Int32} (hd : decode bytes pc = .ok (.iadd, 1)) (hz : x + y = z) (pc' : Nat) (hp : pc' = pc + 1) (q : Run p.tables e below Pq (T.setTop (mkF m pc' Ls (.int z :: S)))) : Run p.tables e below Pq (T.setTop (mkF m pc Ls (.int y :: .int x :: S))) := by
  obtain ⟨hA, hx, hby⟩ := j.here
  subst hp hz
  exact Run.of (fun t k => XS.iadd (g := mkF m pc Ls (.int y :: .int x :: S)) hA hx rfl (hb hby hd) rfl k) q
theorem p_isub (j : J l Z a0 EL LT own bytes maxL ret nm R p e s m args below meth c T cells slots W) {pc : Nat} {Ls : Array Slot} {S : List Value} {Pq : Outcome → State → Prop} {x y z : Int32} (hd : decode bytes pc = .ok (.isub, 1)) (hz : x - y = z) (pc' : Nat) (hp : pc' = pc + 1) (q : Run p.tables e below Pq (T.setTop (mkF m pc' Ls (.int z :: S)))) : Run p.tables e below Pq (T.setTop (mkF m pc Ls (.int y :: .int x :: S))) := by
  obtain ⟨hA, hx, hby⟩ := j.here
  subst hp hz
  exact Run.of (fun t k => XS.isub (g := mkF m pc Ls (.int y :: .int x :: S)) hA hx rfl (hb hby hd) rfl k) q
theorem p_imul (j : J l Z a0 EL LT own bytes maxL ret nm R p e s m args below meth c T cells slots W) {pc : Nat} {Ls : Array Slot} {S : List Value} {Pq : Outcome → State → Prop} {x y z : Int32} (hd : decode bytes pc = .ok (.imul, 1)) (hz : x * y = z) (pc' : Nat) (hp : pc' = pc + 1) (q : Run p.tables e below Pq (T.setTop (mkF m pc' Ls (.int z :: S)))) : Run p.tables e below Pq (T.setTop (mkF m pc Ls (.int y :: .int x :: S))) := by
  obtain ⟨hA, hx, hby⟩ := j.here
  subst hp hz
  exact Run.of (fun t k => XS.imul (g := mkF m pc Ls (.int y :: .int x :: S)) hA hx rfl (hb hby hd) rfl k) q
theorem p_iand (j : J l Z a0 EL LT own bytes maxL ret nm R p e s m args below meth c T cells slots W) {pc : Nat} {Ls : Array Slot} {S : List Value} {Pq : Outcome → State → Prop} {x y z : Int32} (hd : decode bytes pc = .ok (.iand, 1)) (hz : x &&& y = z) (pc' : Nat) (hp : pc' = pc + 1) (q : Run p.tables e below Pq (T.setTop (mkF m pc' Ls (.int z :: S)))) : Run p.tables e below Pq (T.setTop (mkF m pc Ls (.int y :: .int x :: S))) := by
  obtain ⟨hA, hx, hby⟩ := j.here
  subst hp hz
  exact Run.of (fun t k => XS.iand (g := mkF m pc Ls (.int y :: .int x :: S)) hA hx rfl (hb hby hd) rfl k) q
theorem p_ior (j : J l Z a0 EL LT own bytes maxL ret nm R p e s m args below meth c T cells slots W) {pc : Nat} {Ls : Array Slot} {S : List Value} {Pq : Outcome → State → Prop} {x y z : Int32} (hd : decode bytes pc = .ok (.ior, 1)) (hz : x ||| y = z) (pc' : Nat) (hp : pc' = pc + 1) (q : Run p.tables e below Pq (T.setTop (mkF m pc' Ls (.int z :: S)))) : Run p.tables e below Pq (T.setTop (mkF m pc Ls (.int y :: .int x :: S))) := by
  obtain ⟨hA, hx, hby⟩ := j.here
  subst hp hz
  exact Run.of (fun t k => XS.ior (g := mkF m pc Ls (.int y :: .int x :: S)) hA hx rfl (hb hby hd) rfl k) q
theorem p_ixor (j : J l Z a0 EL LT own bytes maxL ret nm R p e s m args below meth c T cells slots W) {pc : Nat} {Ls : Array Slot} {S : List Value} {Pq : Outcome → State → Prop} {x y z : Int32} (hd : decode bytes pc = .ok (.ixor, 1)) (hz : x ^^^ y = z) (pc' : Nat) (hp : pc' = pc + 1) (q : Run p.tables e below Pq (T.setTop (mkF m pc' Ls (.int z :: S)))) : Run p.tables e below Pq (T.setTop (mkF m pc Ls (.int y :: .int x :: S))) := by
  obtain ⟨hA, hx, hby⟩ := j.here
  subst hp hz
  exact Run.of (fun t k => XS.ixor (g := mkF m pc Ls (.int y :: .int x :: S)) hA hx rfl (hb hby hd) rfl k) q
theorem p_ishl (j : J l Z a0 EL LT own bytes maxL ret nm R p e s m args below meth c T cells slots W) {pc : Nat} {Ls : Array Slot} {S : List Value} {Pq : Outcome → State → Prop} {x y z : Int32} (hd : decode bytes pc = .ok (.ishl, 1)) (hz : x <<< (y &&& 31) = z) (pc' : Nat) (hp : pc' = pc + 1) (q : Run p.tables e below Pq (T.setTop (mkF m pc' Ls (.int z :: S)))) : Run p.tables e below Pq (T.setTop (mkF m pc Ls (.int y :: .int x :: S))) := by
  obtain ⟨hA, hx, hby⟩ := j.here
  subst hp hz
  exact Run.of (fun t k => XS.ishl (g := mkF m pc Ls (.int y :: .int x :: S)) hA hx rfl (hb hby hd) rfl k) q
theorem p_ishr (j : J l Z a0 EL LT own bytes maxL ret nm R p e s m args below meth c T cells slots W) {pc : Nat} {Ls : Array Slot} {S : List Value} {Pq : Outcome → State → Prop} {x y z : Int32} (hd : decode bytes pc = .ok (.ishr, 1)) (hz : x >>> (y &&& 31) = z) (pc' : Nat) (hp : pc' = pc + 1) (q : Run p.tables e below Pq (T.setTop (mkF m pc' Ls (.int z :: S)))) : Run p.tables e below Pq (T.setTop (mkF m pc Ls (.int y :: .int x :: S))) := by
  obtain ⟨hA, hx, hby⟩ := j.here
  subst hp hz
  exact Run.of (fun t k => XS.ishr (g := mkF m pc Ls (.int y :: .int x :: S)) hA hx rfl (hb hby hd) rfl k) q
theorem p_iushr (j : J l Z a0 EL LT own bytes maxL ret nm R p e s m args below meth c T cells slots W) {pc : Nat} {Ls : Array Slot} {S : List Value} {Pq : Outcome → State → Prop} {x y z : Int32} (hd : decode bytes pc = .ok (.iushr, 1)) (hz : (x.toUInt32 >>> (y &&& 31).toUInt32).toInt32 = z) (pc' : Nat) (hp : pc' = pc + 1) (q : Run p.tables e below Pq (T.setTop (mkF m pc' Ls (.int z :: S)))) : Run p.tables e below Pq (T.setTop (mkF m pc Ls (.int y :: .int x :: S))) := by
  obtain ⟨hA, hx, hby⟩ := j.here
  subst hp hz
  exact Run.of (fun t k => XS.iushr (g := mkF m pc Ls (.int y :: .int x :: S)) hA hx rfl (hb hby hd) rfl k) q
theorem p_lcmp (j : J l Z a0 EL LT own bytes maxL ret nm R p e s m args below meth c T cells slots W) {pc : Nat} {Ls : Array Slot} {S : List Value} {Pq : Outcome → State → Prop} {x y : Int64} {z : Int32} (hd : decode bytes pc = .ok (.lcmp, 1)) (hz : lcmpW x y = z) (pc' : Nat) (hp : pc' = pc + 1) (q : Run p.tables e below Pq (T.setTop (mkF m pc' Ls (.int z :: S)))) : Run p.tables e below Pq (T.setTop (mkF m pc Ls (.long y :: .long x :: S))) := by
  obtain ⟨hA, hx, hby⟩ := j.here
  subst hp hz
  exact Run.of (fun t k => XS.lcmp (g := mkF m pc Ls (.long y :: .long x :: S)) hA hx rfl (hb hby hd) rfl k) q
theorem p_i2c (j : J l Z a0 EL LT own bytes maxL ret nm R p e s m args below meth c T cells slots W) {pc : Nat} {Ls : Array Slot} {S : List Value} {Pq : Outcome → State → Prop} {x z : Int32} (hd : decode bytes pc = .ok (.i2c, 1)) (hz : x.toUInt32.toUInt16.toUInt32.toInt32 = z) (pc' : Nat) (hp : pc' = pc + 1) (q : Run p.tables e below Pq (T.setTop (mkF m pc' Ls (.int z :: S)))) : Run p.tables e below Pq (T.setTop (mkF m pc Ls (.int x :: S))) := by
  obtain ⟨hA, hx, hby⟩ := j.here
  subst hp hz
  exact Run.of (fun t k => XS.i2c (g := mkF m pc Ls (.int x :: S)) hA hx rfl (hb hby hd) rfl k) q
theorem p_i2b (j : J l Z a0 EL LT own bytes maxL ret nm R p e s m args below meth c T cells slots W) {pc : Nat} {Ls : Array Slot} {S : List Value} {Pq : Outcome → State → Prop} {x z : Int32} (hd : decode bytes pc = .ok (.i2b, 1)) (hz : x.toInt8.toInt32 = z) (pc' : Nat) (hp : pc' = pc + 1) (q : Run p.tables e below Pq (T.setTop (mkF m pc' Ls (.int z :: S)))) : Run p.tables e below Pq (T.setTop (mkF m pc Ls (.int x :: S))) := by
  obtain ⟨hA, hx, hby⟩ := j.here
  subst hp hz
  exact Run.of (fun t k => XS.i2b (g := mkF m pc Ls (.int x :: S)) hA hx rfl (hb hby hd) rfl k) q
theorem p_dup (j : J l Z a0 EL LT own bytes maxL ret nm R p e s m args below meth c T cells slots W) {pc : Nat} {Ls : Array Slot} {S : List Value} {Pq : Outcome → State → Prop} {x : Value} (hd : decode bytes pc = .ok (.dup, 1)) (hc : x.category = 1) (pc' : Nat) (hp : pc' = pc + 1) (q : Run p.tables e below Pq (T.setTop (mkF m pc' Ls (x :: x :: S)))) : Run p.tables e below Pq (T.setTop (mkF m pc Ls (x :: S))) := by
  obtain ⟨hA, hx, hby⟩ := j.here
  subst hp
  exact Run.of (fun t k => XS.dup (g := mkF m pc Ls (x :: S)) hA hx rfl (hb hby hd) rfl hc k) q
theorem p_pop (j : J l Z a0 EL LT own bytes maxL ret nm R p e s m args below meth c T cells slots W) {pc : Nat} {Ls : Array Slot} {S : List Value} {Pq : Outcome → State → Prop} {x : Value} (hd : decode bytes pc = .ok (.pop, 1)) (hc : x.category = 1) (pc' : Nat) (hp : pc' = pc + 1) (q : Run p.tables e below Pq (T.setTop (mkF m pc' Ls (S)))) : Run p.tables e below Pq (T.setTop (mkF m pc Ls (x :: S))) := by
  obtain ⟨hA, hx, hby⟩ := j.here
  subst hp
  exact Run.of (fun t k => XS.pop (g := mkF m pc Ls (x :: S)) hA hx rfl (hb hby hd) rfl hc k) q
theorem p_dup_x1 (j : J l Z a0 EL LT own bytes maxL ret nm R p e s m args below meth c T cells slots W) {pc : Nat} {Ls : Array Slot} {S : List Value} {Pq : Outcome → State → Prop} {x y : Value} (hd : decode bytes pc = .ok (.dup_x1, 1)) (hc : x.category = 1) (hc' : y.category = 1) (pc' : Nat) (hp : pc' = pc + 1) (q : Run p.tables e below Pq (T.setTop (mkF m pc' Ls (x :: y :: x :: S)))) : Run p.tables e below Pq (T.setTop (mkF m pc Ls (x :: y :: S))) := by
  obtain ⟨hA, hx, hby⟩ := j.here
  subst hp
  exact Run.of (fun t k => XS.dupX1 (g := mkF m pc Ls (x :: y :: S)) hA hx rfl (hb hby hd) rfl hc hc' k) q
theorem p_iinc (j : J l Z a0 EL LT own bytes maxL ret nm R p e s m args below meth c T cells slots W) {pc : Nat} {Ls : Array Slot} {S : List Value} {Pq : Outcome → State → Prop} {k : Nat} {i : Int} {v : Int32} (l' : Array Slot) (hd : decode bytes pc = .ok (.iinc k i, 3)) (hv : Ls[k]? = some (.val (.int v))) (hl : storeLocals Ls k (.int (v + Int32.ofInt i)) = some l') (pc' : Nat) (hp : pc' = pc + 3) (q : Run p.tables e below Pq (T.setTop (mkF m pc' l' (S)))) : Run p.tables e below Pq (T.setTop (mkF m pc Ls (S))) := by
  obtain ⟨hA, hx, hby⟩ := j.here
  subst hp
  exact Run.of (fun t k => XS.iinc (g := mkF m pc Ls (S)) hA hx rfl (hb hby hd) hv hl k) q
theorem p_goto (j : J l Z a0 EL LT own bytes maxL ret nm R p e s m args below meth c T cells slots W) {pc : Nat} {Ls : Array Slot} {S : List Value} {Pq : Outcome → State → Prop}  {o : Int} (hd : decode bytes pc = .ok (.goto o, 3))  (pc' : Nat) (ho : 0 ≤ (pc : Int) + o) (hp : ((pc : Int) + o).toNat = pc') (q : Run p.tables e below Pq (T.setTop (mkF m pc' Ls (S)))) : Run p.tables e below Pq (T.setTop (mkF m pc Ls (S))) := by
  obtain ⟨hA, hx, hby⟩ := j.here
  exact Run.of (fun t k => XS.goto (g := mkF m pc Ls (S)) hA hx rfl (pc0 := pc) (pc' := pc') rfl (hb hby hd)  ho hp k) q
theorem p_if_y (j : J l Z a0 EL LT own bytes maxL ret nm R p e s m args below meth c T cells slots W) {pc : Nat} {Ls : Array Slot} {S : List Value} {Pq : Outcome → State → Prop} {cd : ClassFile.Cond} {x : Int32} {o : Int} (hd : decode bytes pc = .ok (.ifCond cd o, 3)) (hc : ifCond.holds cd x = true) (pc' : Nat) (ho : 0 ≤ (pc : Int) + o) (hp : ((pc : Int) + o).toNat = pc') (q : Run p.tables e below Pq (T.setTop (mkF m pc' Ls (S)))) : Run p.tables e below Pq (T.setTop (mkF m pc Ls (.int x :: S))) := by
  obtain ⟨hA, hx, hby⟩ := j.here
  exact Run.of (fun t k => XS.ifYes (g := mkF m pc Ls (.int x :: S)) hA hx rfl (pc0 := pc) (pc' := pc') rfl (hb hby hd) rfl hc ho hp k) q
theorem p_if_n (j : J l Z a0 EL LT own bytes maxL ret nm R p e s m args below meth c T cells slots W) {pc : Nat} {Ls : Array Slot} {S : List Value} {Pq : Outcome → State → Prop} {cd : ClassFile.Cond} {x : Int32} {o : Int} (hd : decode bytes pc = .ok (.ifCond cd o, 3)) (hc : ifCond.holds cd x = false) (pc' : Nat) (hp : pc' = pc + 3) (q : Run p.tables e below Pq (T.setTop (mkF m pc' Ls (S)))) : Run p.tables e below Pq (T.setTop (mkF m pc Ls (.int x :: S))) := by
  obtain ⟨hA, hx, hby⟩ := j.here
  subst hp
  exact Run.of (fun t k => XS.ifNo (g := mkF m pc Ls (.int x :: S)) hA hx rfl (hb hby hd) rfl hc k) q
theorem p_icmp_y (j : J l Z a0 EL LT own bytes maxL ret nm R p e s m args below meth c T cells slots W) {pc : Nat} {Ls : Array Slot} {S : List Value} {Pq : Outcome → State → Prop} {cd : ClassFile.Cond} {x y : Int32} {o : Int} (hd : decode bytes pc = .ok (.if_icmp cd o, 3)) (hc : if_icmp.holds cd x y = true) (pc' : Nat) (ho : 0 ≤ (pc : Int) + o) (hp : ((pc : Int) + o).toNat = pc') (q : Run p.tables e below Pq (T.setTop (mkF m pc' Ls (S)))) : Run p.tables e below Pq (T.setTop (mkF m pc Ls (.int y :: .int x :: S))) := by
  obtain ⟨hA, hx, hby⟩ := j.here
  exact Run.of (fun t k => XS.icmpYes (g := mkF m pc Ls (.int y :: .int x :: S)) hA hx rfl (pc0 := pc) (pc' := pc') rfl (hb hby hd) rfl hc ho hp k) q
theorem p_icmp_n (j : J l Z a0 EL LT own bytes maxL ret nm R p e s m args below meth c T cells slots W) {pc : Nat} {Ls : Array Slot} {S : List Value} {Pq : Outcome → State → Prop} {cd : ClassFile.Cond} {x y : Int32} {o : Int} (hd : decode bytes pc = .ok (.if_icmp cd o, 3)) (hc : if_icmp.holds cd x y = false) (pc' : Nat) (hp : pc' = pc + 3) (q : Run p.tables e below Pq (T.setTop (mkF m pc' Ls (S)))) : Run p.tables e below Pq (T.setTop (mkF m pc Ls (.int y :: .int x :: S))) := by
  obtain ⟨hA, hx, hby⟩ := j.here
  subst hp
  exact Run.of (fun t k => XS.icmpNo (g := mkF m pc Ls (.int y :: .int x :: S)) hA hx rfl (hb hby hd) rfl hc k) q
theorem p_ifnull_y (j : J l Z a0 EL LT own bytes maxL ret nm R p e s m args below meth c T cells slots W) {pc : Nat} {Ls : Array Slot} {S : List Value} {Pq : Outcome → State → Prop}  {o : Int} (hd : decode bytes pc = .ok (.ifnull o, 3))  (pc' : Nat) (ho : 0 ≤ (pc : Int) + o) (hp : ((pc : Int) + o).toNat = pc') (q : Run p.tables e below Pq (T.setTop (mkF m pc' Ls (S)))) : Run p.tables e below Pq (T.setTop (mkF m pc Ls (.null :: S))) := by
  obtain ⟨hA, hx, hby⟩ := j.here
  exact Run.of (fun t k => XS.ifnullYes (g := mkF m pc Ls (.null :: S)) hA hx rfl (pc0 := pc) (pc' := pc') rfl (hb hby hd) rfl ho hp k) q
theorem p_ifnull_n (j : J l Z a0 EL LT own bytes maxL ret nm R p e s m args below meth c T cells slots W) {pc : Nat} {Ls : Array Slot} {S : List Value} {Pq : Outcome → State → Prop} {b : Addr} {o : Int} (hd : decode bytes pc = .ok (.ifnull o, 3))  (pc' : Nat) (hp : pc' = pc + 3) (q : Run p.tables e below Pq (T.setTop (mkF m pc' Ls (S)))) : Run p.tables e below Pq (T.setTop (mkF m pc Ls (.ref b :: S))) := by
  obtain ⟨hA, hx, hby⟩ := j.here
  subst hp
  exact Run.of (fun t k => XS.ifnullNo (g := mkF m pc Ls (.ref b :: S)) hA hx rfl (hb hby hd) rfl k) q
theorem p_ifnonnull_y (j : J l Z a0 EL LT own bytes maxL ret nm R p e s m args below meth c T cells slots W) {pc : Nat} {Ls : Array Slot} {S : List Value} {Pq : Outcome → State → Prop} {b : Addr} {o : Int} (hd : decode bytes pc = .ok (.ifnonnull o, 3))  (pc' : Nat) (ho : 0 ≤ (pc : Int) + o) (hp : ((pc : Int) + o).toNat = pc') (q : Run p.tables e below Pq (T.setTop (mkF m pc' Ls (S)))) : Run p.tables e below Pq (T.setTop (mkF m pc Ls (.ref b :: S))) := by
  obtain ⟨hA, hx, hby⟩ := j.here
  exact Run.of (fun t k => XS.ifnonnullYes (g := mkF m pc Ls (.ref b :: S)) hA hx rfl (pc0 := pc) (pc' := pc') rfl (hb hby hd) rfl ho hp k) q
theorem p_ifnonnull_n (j : J l Z a0 EL LT own bytes maxL ret nm R p e s m args below meth c T cells slots W) {pc : Nat} {Ls : Array Slot} {S : List Value} {Pq : Outcome → State → Prop}  {o : Int} (hd : decode bytes pc = .ok (.ifnonnull o, 3))  (pc' : Nat) (hp : pc' = pc + 3) (q : Run p.tables e below Pq (T.setTop (mkF m pc' Ls (S)))) : Run p.tables e below Pq (T.setTop (mkF m pc Ls (.null :: S))) := by
  obtain ⟨hA, hx, hby⟩ := j.here
  subst hp
  exact Run.of (fun t k => XS.ifnonnullNo (g := mkF m pc Ls (.null :: S)) hA hx rfl (hb hby hd) rfl k) q
theorem p_acmp (j : J l Z a0 EL LT own bytes maxL ret nm R p e s m args below meth c T cells slots W) {pc : Nat} {Ls : Array Slot} {S : List Value} {Pq : Outcome → State → Prop} {cd : ClassFile.ACond} {o : Int} {x y : Value} (h1 : x.isRef = true) (h2 : y.isRef = true) (hd : decode bytes pc = .ok (.if_acmp cd o, 3)) {same : Bool} (hq : decide (x = y) = same) (pc' : Nat) (ho : 0 ≤ (pc : Int) + o) (hp : pc' = if acV cd same = true then ((pc : Int) + o).toNat else pc + 3) (q : Run p.tables e below Pq (T.setTop (mkF m pc' Ls S))) : Run p.tables e below Pq (T.setTop (mkF m pc Ls (y :: x :: S))) := by
  obtain ⟨vm0, locs, k0, X, -, -, -, -, -, -, -, hx, hby, -⟩ := j
  exact Run.of (fun t k => Jvm.RoadKit.acmp (g := mkF m pc Ls (y :: x :: S)) X hx rfl h1 h2 (pc0 := pc) (pc' := pc') (same := same) rfl (hb hby hd) rfl hq ho hp k) q
/-! ### Steps by a law -/
theorem i_get (j : J l Z a0 EL LT own bytes maxL ret nm R p e s m args below meth c T cells slots W) {pc : Nat} {Ls : Array Slot} {S : List Value} {Pq : Outcome → State → Prop} {idx : Nat} {R0 O n d : String} {a : Addr} {b : Bool} {C : String} {fs : FS} {v : Value} (hd : decode bytes pc = .ok (.getfield idx, 3)) (wl : Jvm.Cond.fieldLink own idx R0 n d ∈ tables_1) (via : Via Z R0 O n d) (i k : Nat) (hi : W[i]? = some (a, b, .inl (C, fs))) (hk : fs[k]? = some (O, n, d, v)) (pc' : Nat) (hp : pc' = pc + 3) (q : ∀ T', J l Z a0 EL LT own bytes maxL ret nm R p e s m args below meth c T' cells slots W → Run p.tables e below Pq (T'.setTop (mkF m pc' Ls (v :: S)))) : Run p.tables e below Pq (T.setTop (mkF m pc Ls (.ref a :: S))) := by
  obtain ⟨vm0, locs, k0, X, hS, hk0, hZ, hown, hN, w, hT, hx, hby, hr⟩ := j
  obtain ⟨T', X', e', st⟩ := getF X hx hZ hown (host := "") (Or.inl (hr.2.2.2.2.1 _ wl)) via rfl ((w.2.2.1 _ (List.mem_of_getElem? hi)).1.2.1 _ (List.mem_of_getElem? hk)) (g := mkF m pc Ls (.ref a :: S)) rfl rfl (hb hby hd)
  subst hp
  exact Run.of st (q T' ⟨vm0, locs, k0, X', hS, by rw [e']; exact hk0, hZ, hown, hN, by rw [e']; exact w, hT, hx, hby, hr⟩)
theorem i_put (j : J l Z a0 EL LT own bytes maxL ret nm R p e s m args below meth c T cells slots W) {pc : Nat} {Ls : Array Slot} {S : List Value} {Pq : Outcome → State → Prop} {idx kk : Nat} {R0 O n d : String} {a : Addr} {C : String} {fs : FS} {v old : Value} {ty : FieldType} (hd : decode bytes pc = .ok (.putfield idx, 3)) (wl : Jvm.Cond.fieldLink own idx R0 n d ∈ tables_1) (via : Via Z R0 O n d) (i k : Nat) (hi : W[i]? = some (a, true, .inl (C, fs))) (hk : fs[k]? = some (O, n, d, old)) (D : GC Z a0 EL → SD Z (fs.map key))
    (wL : Jvm.Cond.lays C O n d ∈ tables_1 ∨ (Jvm.Cond.laysFinal C O n d ∈ tables_1 ∧ own = O ∧ nm = "<init>")) (wi : Jvm.Cond.instantiable C kk ∈ tables_1) (hty : parseFieldDescriptor d = some ty) (hn : narrow ty v = v) (hf : fits ty v = true) (pc' : Nat) (hp : pc' = pc + 3) (W' : List OB) (hW : W.set i (a, true, .inl (C, fs.set k (O, n, d, v))) = W') (q : ∀ T', J l Z a0 EL LT own bytes maxL ret nm R p e s m args below meth c T' cells slots W' → Run p.tables e below Pq (T'.setTop (mkF m pc' Ls S))) : Run p.tables e below Pq (T.setTop (mkF m pc Ls (v :: .ref a :: S))) := by
  obtain ⟨vm0, locs, k0, X, hS, hk0, hZ, hown, hN, w, hT, hx, hby, hr⟩ := j
  have mo := w.2.2.1 _ (List.mem_of_getElem? hi)
  obtain ⟨T', h', X', e', K, st⟩ := putF X hx hZ hown (host := "") (Or.inl (hr.2.2.2.2.1 _ wl)) via rfl (mo.1.2.1 _ (List.mem_of_getElem? hk)) mo.1.1 (wL.imp (hr.2.2.2.2.1 _) fun z => ⟨hr.2.2.2.2.1 _ z.1, z.2.1, by rw [hr.2.2.1]; exact z.2.2⟩) (hr.2.2.2.2.1 _ wi) hty hn hf (g := mkF m pc Ls (v :: .ref a :: S)) rfl rfl (hb hby hd)
  subst hp e' hW
  refine Run.of st (q T' ⟨vm0, _, k0, X', hS, by rw [K.size]; exact hk0, hZ, hown, Fr.snoc X' hN (mo.2 rfl).1, w.put hi hk (D hr.2.2.2.2) K, hT, hx, hby, hr⟩)
/-- an object's fields are laid -/
def KD (Z : State) (a0 : Array Value) (C : String) (ks : List (String × String × String)) : Prop := ∀ k ∈ ks, Laid Z a0 C k.1 k.2.1 k.2.2 ∧ ∃ t, parseFieldDescriptor k.2.2 = some t
theorem i_putX (j : J l Z a0 EL LT own bytes maxL ret nm R p e s m args below meth c T cells slots W) {pc : Nat} {Ls : Array Slot} {S : List Value} {Pq : Outcome → State → Prop} {idx kk : Nat} {R0 O n d : String} {a : Addr} {C : String} {fs : FS} {v : Value} {ty : FieldType} (hd : decode bytes pc = .ok (.putfield idx, 3)) (wl : Jvm.Cond.fieldLink own idx R0 n d ∈ tables_1) (via : Via Z R0 O n d) (i : Nat) (hi : W[i]? = some (a, true, .inl (C, fs))) (D : GC Z a0 EL → KD Z a0 C (fs.map key)) (hne : ((fs.map key).all fun k => k.2.1 != n) = true)
    (wL : Jvm.Cond.lays C O n d ∈ tables_1 ∨ (Jvm.Cond.laysFinal C O n d ∈ tables_1 ∧ own = O ∧ nm = "<init>")) (wi : Jvm.Cond.instantiable C kk ∈ tables_1) (hty : parseFieldDescriptor d = some ty) (hn : narrow ty v = v) (hf : fits ty v = true) (pc' : Nat) (hp : pc' = pc + 3) (q : ∀ T', J l Z a0 EL LT own bytes maxL ret nm R p e s m args below meth c T' cells slots W → Run p.tables e below Pq (T'.setTop (mkF m pc' Ls S))) : Run p.tables e below Pq (T.setTop (mkF m pc Ls (v :: .ref a :: S))) := by
  obtain ⟨vm0, locs, k0, X, hS, hk0, hZ, hown, hN, w, hT, hx, hby, hr⟩ := j
  have mo := w.2.2.1 _ (List.mem_of_getElem? hi)
  have wL' : (Jvm.Cond.lays C O n d).before a0 Z = true ∨ ((Jvm.Cond.laysFinal C O n d).before a0 Z = true ∧ own = O ∧ meth.name = "<init>") := wL.imp (hr.2.2.2.2.1 _) fun z => ⟨hr.2.2.2.2.1 _ z.1, z.2.1, by rw [hr.2.2.1]; exact z.2.2⟩
  have Lf : Laid Z a0 C O n d := wL'.imp id (·.1)
  obtain ⟨old, Fo⟩ := fld_laid mo.1.1 mo.1.2.2 (hr.2.2.2.2.1 _ wi) Lf
  obtain ⟨T', h', X', e', K, st⟩ := putF X hx hZ hown (host := "") (Or.inl (hr.2.2.2.2.1 _ wl)) via rfl Fo mo.1.1 wL' (hr.2.2.2.2.1 _ wi) hty hn hf (g := mkF m pc Ls (v :: .ref a :: S)) rfl rfl (hb hby hd)
  subst hp e'
  refine Run.of st (q T' ⟨vm0, _, k0, X', hS, by rw [K.size]; exact hk0, hZ, hown, Fr.snoc X' hN (mo.2 rfl).1, w.putX hi (fun f hf' => ?_) K, hT, hx, hby, hr⟩)
  have hk := List.mem_map_of_mem (f := key) hf'
  obtain ⟨L, t, ht⟩ := D hr.2.2.2.2 (key f) hk
  have ne := List.all_eq_true.mp hne (key f) hk
  exact Jvm.RoadKit.slot_ne L Lf (by simpa [key] using ne) ht hty
theorem i_getS (j : J l Z a0 EL LT own bytes maxL ret nm R p e s m args below meth c T cells slots W) {pc : Nat} {Ls : Array Slot} {S : List Value} {Pq : Outcome → State → Prop} {idx : Nat} {R0 O n d : String} {v : Value} (hd : decode bytes pc = .ok (.getstatic idx, 3)) (wl : Jvm.Cond.fieldLink own idx R0 n d ∈ tables_1) (via : Via Z R0 O n d) (F : Sta Z Z.heap O n d v) (pc' : Nat) (hp : pc' = pc + 3) (q : ∀ T', J l Z a0 EL LT own bytes maxL ret nm R p e s m args below meth c T' cells slots W → Run p.tables e below Pq (T'.setTop (mkF m pc' Ls (v :: S)))) : Run p.tables e below Pq (T.setTop (mkF m pc Ls S)) := by
  obtain ⟨vm0, locs, k0, X, hS, hk0, hZ, hown, hN, w, hT, hx, hby, hr⟩ := j
  obtain ⟨T', X', e', st⟩ := getS X hx hZ hown (host := "") (hr.2.2.2.2.1 _ wl) via rfl (F.ext w.1) (g := mkF m pc Ls S) rfl (hb hby hd)
  subst hp
  exact Run.of st (q T' ⟨vm0, locs, k0, X', hS, by rw [e']; exact hk0, hZ, hown, hN, by rw [e']; exact w, hT, hx, hby, hr⟩)
/-- an object's fields, each laid, each at its first value -/
def FD (Z : State) (a0 : Array Value) (C : String) (fs : FS) : Prop := ∀ f ∈ fs, Laid Z a0 C f.1 f.2.1 f.2.2.1 ∧ ∃ ty, parseFieldDescriptor f.2.2.1 = some ty ∧ defaultValue ty = f.2.2.2
theorem FD.nil {Z : State} {a0 : Array Value} {C : String} : FD Z a0 C [] := fun _ h => by cases h
theorem FD.cons {Z : State} {a0 : Array Value} {C O n d : String} {v : Value} {fs : FS} {ty : FieldType} (L : Laid Z a0 C O n d) (ht : parseFieldDescriptor d = some ty) (hv : defaultValue ty = v) (r : FD Z a0 C fs) : FD Z a0 C ((O, n, d, v) :: fs) := fun f hf => by
  rcases List.mem_cons.mp hf with rfl | hf
  · exact ⟨L, ty, ht, hv⟩
  · exact r f hf
theorem FD.keys {Z : State} {a0 : Array Value} {C : String} {fs : FS} (F : FD Z a0 C fs) : KD Z a0 C (fs.map key) := fun k hk => by
  obtain ⟨f, hf, rfl⟩ := List.mem_map.mp hk
  obtain ⟨L, t, ht, -⟩ := F f hf
  exact ⟨L, t, ht⟩
theorem SD.of {Z : State} {a0 : Array Value} {C : String} {fs : FS} (F : FD Z a0 C fs) (hn : (fs.map fun f => f.2.1).Nodup) : SD Z (fs.map key) := fun i j k k' ne h1 h2 => by
  rw [List.getElem?_map, Option.map_eq_some_iff] at h1 h2
  obtain ⟨f, e1, rfl⟩ := h1
  obtain ⟨f', e2, rfl⟩ := h2
  obtain ⟨L, t, ht, -⟩ := F f (List.mem_of_getElem? e1)
  obtain ⟨L', t', ht', -⟩ := F f' (List.mem_of_getElem? e2)
  refine Jvm.RoadKit.slot_ne L L' (fun e => ne ?_) ht ht'
  have P := List.pairwise_iff_getElem.mp hn
  obtain ⟨l1, z1⟩ := List.getElem?_eq_some_iff.mp e1
  obtain ⟨l2, z2⟩ := List.getElem?_eq_some_iff.mp e2
  rcases Nat.lt_trichotomy i j with q | q | q
  · have r := P i j (by simpa using l1) (by simpa using l2) q
    rw [List.getElem_map, List.getElem_map, z1, z2] at r
    exact absurd e r
  · exact q
  · have r := P j i (by simpa using l2) (by simpa using l1) q
    rw [List.getElem_map, List.getElem_map, z1, z2] at r
    exact absurd e.symm r
theorem i_new (j : J l Z a0 EL LT own bytes maxL ret nm R p e s m args below meth c T cells slots W) {pc : Nat} {Ls : Array Slot} {S : List Value} {Pq : Outcome → State → Prop} {idx n : Nat} {C : String} (hd : decode bytes pc = .ok (.new idx, 3)) (wl : Jvm.Cond.classLink own idx C ∈ tables_1) (wi : Jvm.Cond.instantiable C n ∈ tables_1) (wz : Jvm.Cond.initialized C ∈ tables_1) (hc : cells + 1 ≤ R.cells) (hs : slots + n ≤ R.slots) {fs : FS} (hfs : GC Z a0 EL → FD Z a0 C fs) (c' s' : Nat) (hc' : c' = cells + 1) (hs' : s' = slots + n) (pc' : Nat) (hp : pc' = pc + 3) (q : ∀ a T', J l Z a0 EL LT own bytes maxL ret nm R p e s m args below meth c T' c' s' ((a, true, .inl (C, fs)) :: W) → Run p.tables e below Pq (T'.setTop (mkF m pc' Ls (.ref a :: S)))) : Run p.tables e below Pq (T.setTop (mkF m pc Ls S)) := by
  obtain ⟨vm0, locs, k0, X, hS, hk0, hZ, hown, hN, w, hT, hx, hby, hr⟩ := j
  obtain ⟨T', h', X', e', E, A, Dd, ⟨nc, nc1, nc2, -⟩, st⟩ := newO X hx hZ hown (hr.2.2.2.2.1 _ wl) (hr.2.2.2.2.1 _ wi) (hr.2.2.2.2.1 _ wz) rfl (g := mkF m pc Ls S) rfl (hb hby hd) hc hs
  subst hp hc' hs' e'
  refine Run.of st (q _ T' ⟨vm0, locs, k0, X', hS, Nat.le_trans hk0 E.1, hZ, hown, hN, w.fresh E rfl ⟨A, fun f hf => ?_, ⟨nc, nc1, by rw [nc2]; simp⟩⟩, hT, hx, hby, hr⟩)
  obtain ⟨L, ty, ht, hv⟩ := hfs hr.2.2.2.2 f hf
  rw [← hv]
  exact Dd L ht
theorem i_newP (j : J l Z a0 EL LT own bytes maxL ret nm R p e s m args below meth c T cells slots W) {pc : Nat} {Ls : Array Slot} {S : List Value} {Pq : Outcome → State → Prop} {aty : ArrayType} {ty : FieldType} (hd : decode bytes pc = .ok (.newarray aty, 2)) (hty : newarray.typeOf aty = ty) (hno : ∀ C, ty ≠ .object C) (w1 : Jvm.Cond.arrayClass ty ∈ tables_1) {z : Int32} (hz : ¬ z < 0) (cap : Nat) (hcap : z.toNatClampNeg ≤ cap) (hb8 : cap * 8 ≤ 536870912) (hc : cells + 1 ≤ R.cells) (hs : slots + cap ≤ R.slots) (vs : List Value) (hvs : ∀ i, vs.getD i (defaultValue ty) = ([] : List Value).getD i (defaultValue ty)) {dv : Value} (hdv : defaultValue ty = dv) (c' s' : Nat) (hc' : c' = cells + 1) (hs' : s' = slots + cap) (pc' : Nat) (hp : pc' = pc + 2) (q : ∀ a k T', J l Z a0 EL LT own bytes maxL ret nm R p e s m args below meth c T' c' s' ((a, true, .inr (k, ty, z, vs, dv)) :: W) → Run p.tables e below Pq (T'.setTop (mkF m pc' Ls (.ref a :: S)))) : Run p.tables e below Pq (T.setTop (mkF m pc Ls (.int z :: S))) := by
  obtain ⟨vm0, locs, k0, X, hS, hk0, hZ, hown, hN, w, hT, hx, hby, hr⟩ := j
  subst hty
  obtain ⟨T', h', cA, X', e', E, A, st⟩ := newP X hx hZ (hr.2.2.2.2.1 _ w1) rfl (g := mkF m pc Ls (.int z :: S)) rfl (hb hby hd) rfl hz hcap hb8 hc hs
  subst hp hc' hs' e' hdv
  exact Run.of st (q _ cA T' ⟨vm0, locs, k0, X', hS, Nat.le_trans hk0 E.1, hZ, hown, hN, w.fresh E rfl ⟨(Arv.new A hz).pad hvs, fun C hC => absurd hC (hno C)⟩, hT, hx, hby, hr⟩)
theorem i_newR (j : J l Z a0 EL LT own bytes maxL ret nm R p e s m args below meth c T cells slots W) {pc : Nat} {Ls : Array Slot} {S : List Value} {Pq : Outcome → State → Prop} {idx : Nat} {C : String} (hd : decode bytes pc = .ok (.anewarray idx, 3)) (wl : Jvm.Cond.classLink own idx C ∈ tables_1) (w1 : Jvm.Cond.arrayOver (.object C) ∈ tables_1) {z : Int32} (hz : ¬ z < 0) (cap : Nat) (hcap : z.toNatClampNeg ≤ cap) (hb8 : cap * 8 ≤ 536870912) (hc : cells + 1 ≤ R.cells) (hs : slots + cap ≤ R.slots) (vs : List Value) (hvs : ∀ i, vs.getD i .null = ([] : List Value).getD i .null) (c' s' : Nat) (hc' : c' = cells + 1) (hs' : s' = slots + cap) (pc' : Nat) (hp : pc' = pc + 3) (q : ∀ a k T', J l Z a0 EL LT own bytes maxL ret nm R p e s m args below meth c T' c' s' ((a, true, .inr (k, .object C, z, vs, .null)) :: W) → Run p.tables e below Pq (T'.setTop (mkF m pc' Ls (.ref a :: S)))) : Run p.tables e below Pq (T.setTop (mkF m pc Ls (.int z :: S))) := by
  obtain ⟨vm0, locs, k0, X, hS, hk0, hZ, hown, hN, w, hT, hx, hby, hr⟩ := j
  obtain ⟨T', h', cA, X', e', E, A, O, st⟩ := newR X hx hZ hown (hr.2.2.2.2.1 _ wl) (hr.2.2.2.2.1 _ w1) rfl (g := mkF m pc Ls (.int z :: S)) rfl (hb hby hd) rfl hz hcap hb8 hc hs
  subst hp hc' hs' e'
  refine Run.of st (q _ cA T' ⟨vm0, locs, k0, X', hS, Nat.le_trans hk0 E.1, hZ, hown, hN, w.fresh E rfl ⟨(Arv.new A hz).pad hvs, fun D hD => ?_⟩, hT, hx, hby, hr⟩)
  cases hD
  exact O
theorem i_len (j : J l Z a0 EL LT own bytes maxL ret nm R p e s m args below meth c T cells slots W) {pc : Nat} {Ls : Array Slot} {S : List Value} {Pq : Outcome → State → Prop} {a : Addr} {b : Bool} {k : ClassId} {ty : FieldType} {z : Int32} {vs : List Value} {dv : Value} (hd : decode bytes pc = .ok (.arraylength, 1)) (i : Nat) (hi : W[i]? = some (a, b, .inr (k, ty, z, vs, dv))) (pc' : Nat) (hp : pc' = pc + 1) (q : Run p.tables e below Pq (T.setTop (mkF m pc' Ls (.int z :: S)))) : Run p.tables e below Pq (T.setTop (mkF m pc Ls (.ref a :: S))) := by
  obtain ⟨vm0, locs, k0, X, hS, hk0, hZ, hown, hN, w, hT, hx, hby, hr⟩ := j
  obtain ⟨cl, A, -, q2, q3, -⟩ := (w.2.2.1 _ (List.mem_of_getElem? hi)).1.1
  subst hp
  refine Run.of (fun t kt => X.arraylength hx A.1 (State.isArrayOf_alike hZ.alike A.2.1) (g := mkF m pc Ls (.ref a :: S)) rfl rfl (hb hby hd) t ?_) q
  rw [len_of q2 q3]
  exact kt
theorem i_aaload (j : J l Z a0 EL LT own bytes maxL ret nm R p e s m args below meth c T cells slots W) {pc : Nat} {Ls : Array Slot} {S : List Value} {Pq : Outcome → State → Prop} {a : Addr} {b : Bool} {k : ClassId} {ty : FieldType} {z x : Int32} {vs : List Value} {dv v : Value} (hd : decode bytes pc = .ok (.aaload, 1)) (i : Nat) (hi : W[i]? = some (a, b, .inr (k, ty, z, vs, dv))) (hty : ty.isReference = true) (hx1 : ¬ x < 0) (hx2 : x < z) (hv : vs.getD x.toNatClampNeg dv = v) (pc' : Nat) (hp : pc' = pc + 1) (q : Run p.tables e below Pq (T.setTop (mkF m pc' Ls (v :: S)))) : Run p.tables e below Pq (T.setTop (mkF m pc Ls (.int x :: .ref a :: S))) := by
  obtain ⟨vm0, locs, k0, X, hS, hk0, hZ, hown, hN, w, hT, hx, hby, hr⟩ := j
  obtain ⟨cl, A, -, q2, q3, H, -⟩ := (w.2.2.1 _ (List.mem_of_getElem? hi)).1.1
  subst hp
  have hin := inb_of q2 ⟨hx1, hx2⟩
  exact Run.of (fun t kt => X.aaload hx A.1 (State.isArrayOf_alike hZ.alike A.2.1) hty A.2.2 hin (H.at hin hv) (g := mkF m pc Ls (.int x :: .ref a :: S)) rfl rfl (hb hby hd) t kt) q
theorem i_caload (j : J l Z a0 EL LT own bytes maxL ret nm R p e s m args below meth c T cells slots W) {pc : Nat} {Ls : Array Slot} {S : List Value} {Pq : Outcome → State → Prop} {a : Addr} {b : Bool} {k : ClassId} {z x v : Int32} {vs : List Value} {dv : Value} (hd : decode bytes pc = .ok (.caload, 1)) (i : Nat) (hi : W[i]? = some (a, b, .inr (k, .char, z, vs, dv))) (hx1 : ¬ x < 0) (hx2 : x < z) (hv : vs.getD x.toNatClampNeg dv = .int v) (pc' : Nat) (hp : pc' = pc + 1) (q : Run p.tables e below Pq (T.setTop (mkF m pc' Ls (.int v :: S)))) : Run p.tables e below Pq (T.setTop (mkF m pc Ls (.int x :: .ref a :: S))) := by
  obtain ⟨vm0, locs, k0, X, hS, hk0, hZ, hown, hN, w, hT, hx, hby, hr⟩ := j
  obtain ⟨cl, A, -, q2, q3, H, -⟩ := (w.2.2.1 _ (List.mem_of_getElem? hi)).1.1
  subst hp
  have hin := inb_of q2 ⟨hx1, hx2⟩
  exact Run.of (fun t kt => X.caload hx A.1 (State.isArrayOf_alike hZ.alike A.2.1) A.2.2 hin (H.at hin hv) (g := mkF m pc Ls (.int x :: .ref a :: S)) rfl rfl (hb hby hd) t kt) q
theorem arr_upd {Z : State} {EL : List (String × Nat)} {vm : Vm} {h h' : Heap} {W : List OB} (w : WL Z EL vm h W) {i u : Nat} {a : Addr} {k : ClassId} {ty : FieldType} {z x : Int32} {vs : List Value} {dv v : Value} (hi : W[i]? = some (a, true, .inr (k, ty, z, vs, dv))) (K : Wr h h' a x.toNatClampNeg v) (hv : fits ty v = true) (hj : x.toNatClampNeg = u) (hu : u < vs.length) : WL Z EL vm h' (W.set i (a, true, .inr (k, ty, z, vs.set u v, dv))) := by
  have mo := (w.2.2.1 _ (List.mem_of_getElem? hi)).1
  obtain ⟨cl, A, q1, q2, q3, H, G⟩ := mo.1
  exact w.upd (b := true) hi K ⟨Arv.set A q1 q2 q3 H G hv K u hj hu, mo.2⟩
theorem i_aastore (j : J l Z a0 EL LT own bytes maxL ret nm R p e s m args below meth c T cells slots W) {pc : Nat} {Ls : Array Slot} {S : List Value} {Pq : Outcome → State → Prop} {a y : Addr} {by' : Bool} {k : ClassId} {C D : String} {fs : FS} {z x : Int32} {vs : List Value} {dv : Value} (hd : decode bytes pc = .ok (.aastore, 1)) (i iy u : Nat) (hi : W[i]? = some (a, true, .inr (k, .object C, z, vs, dv))) (hy : W[iy]? = some (y, by', .inl (D, fs))) (hca : Jvm.Cond.castable D C ∈ tables_1) (hx1 : ¬ x < 0) (hx2 : x < z) (hj : x.toNatClampNeg = u) (hu : u < vs.length) (pc' : Nat) (hp : pc' = pc + 1) (W' : List OB) (hW : W.set i (a, true, .inr (k, .object C, z, vs.set u (.ref y), dv)) = W') (q : ∀ T', J l Z a0 EL LT own bytes maxL ret nm R p e s m args below meth c T' cells slots W' → Run p.tables e below Pq (T'.setTop (mkF m pc' Ls S))) : Run p.tables e below Pq (T.setTop (mkF m pc Ls (.ref y :: .int x :: .ref a :: S))) := by
  obtain ⟨vm0, locs, k0, X, hS, hk0, hZ, hown, hN, w, hT, hx, hby, hr⟩ := j
  have mo := w.2.2.1 _ (List.mem_of_getElem? hi)
  have my := (w.2.2.1 _ (List.mem_of_getElem? hy)).1.1
  obtain ⟨cl, A, q1, q2, q3, H, G⟩ := mo.1.1
  have hin := inb_of q2 ⟨hx1, hx2⟩
  have hI : Ins Z T.heap y C true := by
    obtain ⟨cell, kc, e1, e2, e3, e4, -⟩ := my
    obtain ⟨c1, t1, g1, g2, g3⟩ := Cond.castable_spec (hr.2.2.2.2.1 _ hca)
    cases e2.symm.trans g1
    exact ⟨cell, t1, e1, g2, by simp [e4, g3]⟩
  obtain ⟨T', h', X', e', K, st⟩ := stR X hx hZ rfl A hin rfl (Sto.ofV A q1 (mo.1.2 C rfl) hI) (g := mkF m pc Ls (.ref y :: .int x :: .ref a :: S)) rfl rfl (hb hby hd)
  subst hp e' hW
  exact Run.of st (q T' ⟨vm0, _, k0, X', hS, by rw [K.size]; exact hk0, hZ, hown, Fr.snoc X' hN (mo.2 rfl).1, arr_upd w hi K rfl hj hu, hT, hx, hby, hr⟩)
theorem i_aastoreN (j : J l Z a0 EL LT own bytes maxL ret nm R p e s m args below meth c T cells slots W) {pc : Nat} {Ls : Array Slot} {S : List Value} {Pq : Outcome → State → Prop} {a : Addr} {k : ClassId} {C : String} {z x : Int32} {vs : List Value} {dv : Value} (hd : decode bytes pc = .ok (.aastore, 1)) (i u : Nat) (hi : W[i]? = some (a, true, .inr (k, .object C, z, vs, dv))) (hx1 : ¬ x < 0) (hx2 : x < z) (hj : x.toNatClampNeg = u) (hu : u < vs.length) (pc' : Nat) (hp : pc' = pc + 1) (W' : List OB) (hW : W.set i (a, true, .inr (k, .object C, z, vs.set u .null, dv)) = W') (q : ∀ T', J l Z a0 EL LT own bytes maxL ret nm R p e s m args below meth c T' cells slots W' → Run p.tables e below Pq (T'.setTop (mkF m pc' Ls S))) : Run p.tables e below Pq (T.setTop (mkF m pc Ls (.null :: .int x :: .ref a :: S))) := by
  obtain ⟨vm0, locs, k0, X, hS, hk0, hZ, hown, hN, w, hT, hx, hby, hr⟩ := j
  have mo := w.2.2.1 _ (List.mem_of_getElem? hi)
  obtain ⟨cl, A, q1, q2, q3, H, G⟩ := mo.1.1
  have hin := inb_of q2 ⟨hx1, hx2⟩
  obtain ⟨T', h', X', e', K, st⟩ := stR X hx hZ rfl A hin rfl (Or.inl rfl) (g := mkF m pc Ls (.null :: .int x :: .ref a :: S)) rfl rfl (hb hby hd)
  subst hp e' hW
  exact Run.of st (q T' ⟨vm0, _, k0, X', hS, by rw [K.size]; exact hk0, hZ, hown, Fr.snoc X' hN (mo.2 rfl).1, arr_upd w hi K rfl hj hu, hT, hx, hby, hr⟩)
theorem i_iastore (j : J l Z a0 EL LT own bytes maxL ret nm R p e s m args below meth c T cells slots W) {pc : Nat} {Ls : Array Slot} {S : List Value} {Pq : Outcome → State → Prop} {a : Addr} {k : ClassId} {z x y : Int32} {vs : List Value} {dv : Value} (hd : decode bytes pc = .ok (.iastore, 1)) (i u : Nat) (hi : W[i]? = some (a, true, .inr (k, .int, z, vs, dv))) (hx1 : ¬ x < 0) (hx2 : x < z) (hj : x.toNatClampNeg = u) (hu : u < vs.length) (pc' : Nat) (hp : pc' = pc + 1) (W' : List OB) (hW : W.set i (a, true, .inr (k, .int, z, vs.set u (.int y), dv)) = W') (q : ∀ T', J l Z a0 EL LT own bytes maxL ret nm R p e s m args below meth c T' cells slots W' → Run p.tables e below Pq (T'.setTop (mkF m pc' Ls S))) : Run p.tables e below Pq (T.setTop (mkF m pc Ls (.int y :: .int x :: .ref a :: S))) := by
  obtain ⟨vm0, locs, k0, X, hS, hk0, hZ, hown, hN, w, hT, hx, hby, hr⟩ := j
  have mo := w.2.2.1 _ (List.mem_of_getElem? hi)
  obtain ⟨cl, A, q1, q2, q3, H, G⟩ := mo.1.1
  have hin := inb_of q2 ⟨hx1, hx2⟩
  obtain ⟨T', h', X', e', K, st⟩ := stI X hx hZ rfl A hin (g := mkF m pc Ls (.int y :: .int x :: .ref a :: S)) rfl rfl (hb hby hd)
  subst hp e' hW
  exact Run.of st (q T' ⟨vm0, _, k0, X', hS, by rw [K.size]; exact hk0, hZ, hown, Fr.snoc X' hN (mo.2 rfl).1, arr_upd w hi K rfl hj hu, hT, hx, hby, hr⟩)
theorem i_castore (j : J l Z a0 EL LT own bytes maxL ret nm R p e s m args below meth c T cells slots W) {pc : Nat} {Ls : Array Slot} {S : List Value} {Pq : Outcome → State → Prop} {a : Addr} {k : ClassId} {z x y y' : Int32} {vs : List Value} {dv : Value} (hd : decode bytes pc = .ok (.castore, 1)) (i u : Nat) (hi : W[i]? = some (a, true, .inr (k, .char, z, vs, dv))) (hx1 : ¬ x < 0) (hx2 : x < z) (hj : x.toNatClampNeg = u) (hu : u < vs.length) (hy : nar .char y = y') (pc' : Nat) (hp : pc' = pc + 1) (W' : List OB) (hW : W.set i (a, true, .inr (k, .char, z, vs.set u (.int y'), dv)) = W') (q : ∀ T', J l Z a0 EL LT own bytes maxL ret nm R p e s m args below meth c T' cells slots W' → Run p.tables e below Pq (T'.setTop (mkF m pc' Ls S))) : Run p.tables e below Pq (T.setTop (mkF m pc Ls (.int y :: .int x :: .ref a :: S))) := by
  obtain ⟨vm0, locs, k0, X, hS, hk0, hZ, hown, hN, w, hT, hx, hby, hr⟩ := j
  have mo := w.2.2.1 _ (List.mem_of_getElem? hi)
  obtain ⟨cl, A, q1, q2, q3, H, G⟩ := mo.1.1
  have hin := inb_of q2 ⟨hx1, hx2⟩
  obtain ⟨T', h', X', e', K, st⟩ := stC X hx hZ rfl A hin (g := mkF m pc Ls (.int y :: .int x :: .ref a :: S)) rfl rfl (hb hby hd)
  subst hp e' hW hy
  exact Run.of st (q T' ⟨vm0, _, k0, X', hS, by rw [K.size]; exact hk0, hZ, hown, Fr.snoc X' hN (mo.2 rfl).1, arr_upd w hi K (fits_nar_char y) hj hu, hT, hx, hby, hr⟩)
theorem i_bastore (j : J l Z a0 EL LT own bytes maxL ret nm R p e s m args below meth c T cells slots W) {pc : Nat} {Ls : Array Slot} {S : List Value} {Pq : Outcome → State → Prop} {a : Addr} {k : ClassId} {z x y y' : Int32} {vs : List Value} {dv : Value} (hd : decode bytes pc = .ok (.bastore, 1)) (i u : Nat) (hi : W[i]? = some (a, true, .inr (k, .byte, z, vs, dv))) (hx1 : ¬ x < 0) (hx2 : x < z) (hj : x.toNatClampNeg = u) (hu : u < vs.length) (hy : y.toInt8.toInt32 = y') (pc' : Nat) (hp : pc' = pc + 1) (W' : List OB) (hW : W.set i (a, true, .inr (k, .byte, z, vs.set u (.int y'), dv)) = W') (q : ∀ T', J l Z a0 EL LT own bytes maxL ret nm R p e s m args below meth c T' cells slots W' → Run p.tables e below Pq (T'.setTop (mkF m pc' Ls S))) : Run p.tables e below Pq (T.setTop (mkF m pc Ls (.int y :: .int x :: .ref a :: S))) := by
  obtain ⟨vm0, locs, k0, X, hS, hk0, hZ, hown, hN, w, hT, hx, hby, hr⟩ := j
  have mo := w.2.2.1 _ (List.mem_of_getElem? hi)
  obtain ⟨cl, A, q1, q2, q3, H, G⟩ := mo.1.1
  have hin := inb_of q2 ⟨hx1, hx2⟩
  obtain ⟨T', h', X', e', K, st⟩ := stB X hx hZ rfl A hin (g := mkF m pc Ls (.int y :: .int x :: .ref a :: S)) rfl rfl (hb hby hd)
  subst hp e' hW hy
  exact Run.of st (q T' ⟨vm0, _, k0, X', hS, by rw [K.size]; exact hk0, hZ, hown, Fr.snoc X' hN (mo.2 rfl).1, arr_upd w hi K (fits_nar_byte y) hj hu, hT, hx, hby, hr⟩)
theorem i_initO (j : J l Z a0 EL LT own bytes maxL ret nm R p e s m args below meth c T cells slots W) {pc : Nat} {Ls : Array Slot} {S : List Value} {Pq : Outcome → State → Prop} {idx : Nat} {a : Addr} (hd : decode bytes pc = .ok (.invokespecial idx, 3)) (w1 : Jvm.Cond.methodLink own idx Lib.objectInit ∈ tables_1) (w2 : Jvm.Cond.instanceMethod Lib.objectInit ∈ tables_1) (w3 : Jvm.Cond.code Lib.objectInit ⟨#[0xb1]⟩ 1 none ∈ tables_1) (hL : Ls.size = maxL) (hf : 1 ≤ R.frames) (hl : (S.map fun v => v.category).sum + 12 ≤ R.locals) (pc' : Nat) (hp : pc' = pc + 3) (q : ∀ T', J l Z a0 EL LT own bytes maxL ret nm R p e s m args below meth c T' cells slots W → Run p.tables e below Pq (T'.setTop (mkF m pc' Ls S))) : Run p.tables e below Pq (T.setTop (mkF m pc Ls (.ref a :: S))) := by
  obtain ⟨vm0, locs, k0, X, hS, hk0, hZ, hown, hN, w, hT, hx, hby, hr⟩ := j
  obtain ⟨T', X', e', st⟩ := initO X hx hZ hown (hr.2.2.2.2.1 _ w1) (hr.2.2.2.2.1 _ w2) (hr.2.2.2.2.1 _ w3) rfl (g := mkF m pc Ls (.ref a :: S)) rfl (by rw [hr.1]; exact hL) rfl (hb hby hd) hf (W := (S.map fun v => v.category).sum) (by show 2 * 0 + _ ≤ _; omega) hl
  subst hp
  exact Run.of st (q T' ⟨vm0, locs, k0, X', hS, by rw [e']; exact hk0, hZ, hown, hN, by rw [e']; exact w, hT, hx, hby, hr⟩)
theorem i_cast (j : J l Z a0 EL LT own bytes maxL ret nm R p e s m args below meth c T cells slots W) {pc : Nat} {Ls : Array Slot} {S : List Value} {Pq : Outcome → State → Prop} {idx : Nat} {a : Addr} {b : Bool} {C K : String} {fs : FS} (hd : decode bytes pc = .ok (.checkcast idx, 3)) (wl : Jvm.Cond.classLink own idx K ∈ tables_1) (hca : Jvm.Cond.castable C K ∈ tables_1) (i : Nat) (hi : W[i]? = some (a, b, .inl (C, fs))) (pc' : Nat) (hp : pc' = pc + 3) (q : ∀ T', J l Z a0 EL LT own bytes maxL ret nm R p e s m args below meth c T' cells slots W → Run p.tables e below Pq (T'.setTop (mkF m pc' Ls (.ref a :: S)))) : Run p.tables e below Pq (T.setTop (mkF m pc Ls (.ref a :: S))) := by
  obtain ⟨vm0, locs, k0, X, hS, hk0, hZ, hown, hN, w, hT, hx, hby, hr⟩ := j
  have my := (w.2.2.1 _ (List.mem_of_getElem? hi)).1.1
  have hI : Ins Z T.heap a K true := by
    obtain ⟨cell, kc, e1, e2, e3, e4, -⟩ := my
    obtain ⟨c1, t1, g1, g2, g3⟩ := Cond.castable_spec (hr.2.2.2.2.1 _ hca)
    cases e2.symm.trans g1
    exact ⟨cell, t1, e1, g2, by simp [e4, g3]⟩
  obtain ⟨T', X', e', st⟩ := castY X hx hZ hown (hr.2.2.2.2.1 _ wl) rfl hI (g := mkF m pc Ls (.ref a :: S)) rfl rfl (hb hby hd)
  subst hp
  exact Run.of st (q T' ⟨vm0, locs, k0, X', hS, by rw [e']; exact hk0, hZ, hown, hN, by rw [e']; exact w, hT, hx, hby, hr⟩)
theorem i_ldcI (j : J l Z a0 EL LT own bytes maxL ret nm R p e s m args below meth c T cells slots W) {pc : Nat} {Ls : Array Slot} {S : List Value} {Pq : Outcome → State → Prop} {idx : Nat} {z : Int32} (hd : decode bytes pc = .ok (.ldc idx, 2)) (wl : Jvm.Cond.constant own idx z ∈ tables_1) (pc' : Nat) (hp : pc' = pc + 2) (q : Run p.tables e below Pq (T.setTop (mkF m pc' Ls (.int z :: S)))) : Run p.tables e below Pq (T.setTop (mkF m pc Ls S)) := by
  obtain ⟨vm0, locs, k0, X, hS, hk0, hZ, hown, hN, w, hT, hx, hby, hr⟩ := j
  subst hp
  exact Run.of (X.ldcInt hx hown (mvT (s := s.setVm vm0) hZ (hr.2.2.2.2.1 _ wl)) (g := mkF m pc Ls S) rfl (hb hby hd)) q
theorem i_ldcF (j : J l Z a0 EL LT own bytes maxL ret nm R p e s m args below meth c T cells slots W) {pc : Nat} {Ls : Array Slot} {S : List Value} {Pq : Outcome → State → Prop} {idx : Nat} {z : UInt32} (hd : decode bytes pc = .ok (.ldc idx, 2)) (wl : Jvm.Cond.constantFloat own idx z ∈ tables_1) (pc' : Nat) (hp : pc' = pc + 2) (q : Run p.tables e below Pq (T.setTop (mkF m pc' Ls (.float z :: S)))) : Run p.tables e below Pq (T.setTop (mkF m pc Ls S)) := by
  obtain ⟨vm0, locs, k0, X, hS, hk0, hZ, hown, hN, w, hT, hx, hby, hr⟩ := j
  subst hp
  exact Run.of (X.ldcFloatC hx hown (mvT (s := s.setVm vm0) hZ (hr.2.2.2.2.1 _ wl)) (g := mkF m pc Ls S) rfl (hb hby hd)) q
/-- a String constant whose text is read: its String and its bytes come into the world, not to be written -/
theorem i_ldcS (j : J l Z a0 EL LT own bytes maxL ret nm R p e s m args below meth c T cells slots W) {pc : Nat} {Ls : Array Slot} {S : List Value} {Pq : Outcome → State → Prop} {idx : Nat} {text : String} (hd : decode bytes pc = .ok (.ldc idx, 2)) (wl : Jvm.Cond.stringLink own idx text ∈ tables_1) (hmem : (own, idx) ∈ EL) {vs : List Value} {z : Int32} (ht : (∀ c ∈ text.toList, c.toNat < 256) ∧ text.toList.map (fun c => Value.int (Jvm.Lit.byteI c.toNat.toUInt16)) = vs) (hz : ¬ z < 0) (hl : z.toNatClampNeg = vs.length) (n : Nat) (hn : 4 * text.toList.length ≤ n) (hbig : n ≤ 536870912) (hc : cells + 2 ≤ R.cells) (hs : slots + (n + 4) ≤ R.slots) (c' s' : Nat) (hc' : c' = cells + 2) (hs' : s' = slots + (n + 4)) (pc' : Nat) (hp : pc' = pc + 2)
    (q : ∀ a b k T', J l Z a0 EL [(own, idx, a)] own bytes maxL ret nm R p e s m args below meth c T' c' s' ((a, false, .inl ("java/lang/String", [("java/lang/String", "value", "[B", .ref b), ("java/lang/String", "coder", "B", .int 0)])) :: (b, false, .inr (k, .byte, z, vs, .int 0)) :: W) → Run p.tables e below Pq (T'.setTop (mkF m pc' Ls (.ref a :: S)))) : Run p.tables e below Pq (T.setTop (mkF m pc Ls S)) := by
  obtain ⟨vm0, locs, k0, X, hS, hk0, hZ, hown, hN, w, hT, hx, hby, hr⟩ := j
  obtain ⟨a, T', h', k1, b, k, X', e', E, hS', hk1, hZ', hown', Ea, Fc, Fv, Ab, la, lb, CR, hLit, ns, st⟩ := ldcCH X hx hZ hown (hr.2.2.2.2.1 _ wl) hr.2.2.2.2.2.2 rfl hS hk0 hr.2.2.2.2.2.1 hmem w.2.1 ht hz hl (g := mkF m pc Ls S) rfl (hb hby hd) hn hbig hc hs
  subst hp hc' hs' e'
  have w' := w.later CR E
  refine Run.of st (q a b k T' ⟨T'.vm, locs, k1, X', hS', hk1, hZ', hown', hN, ?_, fun t ht => by cases List.mem_singleton.mp ht; exact hLit, hx, hby, hr⟩)
  have w2 : WL Z EL T'.vm T'.heap ((b, false, .inr (k, .byte, z, vs, .int 0)) :: W) := w'.cons (o := (b, false, .inr (k, .byte, z, vs, .int 0))) ⟨Ab, fun C hC => by cases hC⟩ (fun hq => by cases hq) fun o' ho' hq => by
    rcases hq with hq | hq
    · cases hq
    · exact ((ns o'.1 ((w'.2.2.1 o' ho').2 hq).2).2).symm
  refine w2.cons (o := (a, false, .inl ("java/lang/String", [("java/lang/String", "value", "[B", .ref b), ("java/lang/String", "coder", "B", .int 0)]))) ⟨Ea, fun f hf => ?_, by obtain ⟨cl, _, _, _, _, u1, -, -, u2, -⟩ := Fv; exact ⟨cl, u1, u2⟩⟩ (fun hq => by cases hq) fun o' ho' hq => ?_
  · rcases List.mem_cons.mp hf with rfl | hf
    · exact Fv
    · rcases List.mem_cons.mp hf with rfl | hf
      · exact Fc
      · cases hf
  · rcases hq with hq | hq
    · cases hq
    · exact ((ns o'.1 ((w2.2.2.1 o' ho').2 hq).2).1).symm
/-- a String constant of which only its reference is used -/
theorem i_ldcO (j : J l Z a0 EL LT own bytes maxL ret nm R p e s m args below meth c T cells slots W) {pc : Nat} {Ls : Array Slot} {S : List Value} {Pq : Outcome → State → Prop} {idx : Nat} {text : String} (hd : decode bytes pc = .ok (.ldc idx, 2)) (wl : Jvm.Cond.stringLink own idx text ∈ tables_1) (n : Nat) (hn : 4 * text.toList.length ≤ n) (hbig : n ≤ 536870912) (hc : cells + 2 ≤ R.cells) (hs : slots + (n + 4) ≤ R.slots) (c' s' : Nat) (hc' : c' = cells + 2) (hs' : s' = slots + (n + 4)) (pc' : Nat) (hp : pc' = pc + 2)
    (q : ∀ a T', J l Z a0 EL [(own, idx, a)] own bytes maxL ret nm R p e s m args below meth c T' c' s' W → Run p.tables e below Pq (T'.setTop (mkF m pc' Ls (.ref a :: S)))) : Run p.tables e below Pq (T.setTop (mkF m pc Ls S)) := by
  obtain ⟨vm0, locs, k0, X, hS, hk0, hZ, hown, hN, w, hT, hx, hby, hr⟩ := j
  obtain ⟨a, T', h', k1, X', e', E, hS', hk1, hZ', hown', CR, hLit, st⟩ := ldcOH X hx hZ hown (hr.2.2.2.2.1 _ wl) hr.2.2.2.2.2.2 rfl hS hk0 hr.2.2.2.2.2.1 w.2.1 (g := mkF m pc Ls S) rfl (hb hby hd) hn hbig hc hs
  subst hp hc' hs' e'
  exact Run.of st (q a T' ⟨T'.vm, locs, k1, X', hS', hk1, hZ', hown', hN, w.later CR E, fun t ht => by cases List.mem_singleton.mp ht; exact hLit, hx, hby, hr⟩)
/-- a constant that this walk has loaded before -/
theorem i_ldcA (j : J l Z a0 EL LT own bytes maxL ret nm R p e s m args below meth c T cells slots W) {pc : Nat} {Ls : Array Slot} {S : List Value} {Pq : Outcome → State → Prop} {idx : Nat} {text : String} {a : Addr} (hd : decode bytes pc = .ok (.ldc idx, 2)) (wl : Jvm.Cond.stringLink own idx text ∈ tables_1) (hm : (own, idx, a) ∈ LT) (pc' : Nat) (hp : pc' = pc + 2) (q : Run p.tables e below Pq (T.setTop (mkF m pc' Ls (.ref a :: S)))) : Run p.tables e below Pq (T.setTop (mkF m pc Ls S)) := by
  obtain ⟨vm0, locs, k0, X, hS, hk0, hZ, hown, hN, w, hT, hx, hby, hr⟩ := j
  subst hp
  exact Run.of (ldcAgain X hx hZ hown (hr.2.2.2.2.1 _ wl) (hT _ hm) (g := mkF m pc Ls S) rfl (hb hby hd)) q
/-! ### Contracts -/
def PostW (Z : State) (EL : List (String × Nat)) (rm : Room) (s : State) (F : List OB) (Q : Option Value → List OB → Prop) (o : Outcome) (U' : State) : Prop :=
  ∃ v L W', o = .returned v ∧ Q v W' ∧ Fr Z.heap.size L ∧ WL Z EL U'.vm U'.heap (W' ++ F) ∧ ReturnedEndW s o U' L rm.cells rm.slots
def Con (l : Launch) (Z : State) (EL : List (String × Nat)) (y : MethodName) (bytes : ByteArray) (maxL : Nat) (ret : Option FieldType) (rm : Room) (A : List Value) (W : List OB) (Q : Option Value → List OB → Prop) : Prop :=
  ∀ (ws : List Jvm.Cond) (F : List OB) (h0 : Heap), MetFree l y (head1 (Jvm.Cond.code y bytes maxL ret :: ws) rm) (fun a U => a = A.toArray ∧ Z.Warmed39 U.vm ∧ U.heap = h0 ∧ WL Z EL U.vm h0 (W ++ F)) (fun _ _ _ _ _ => True) (fun _ U o U' => PostW Z EL rm U F Q o U')
theorem Con.mk {y : MethodName} {rm : Room} {A : List Value} {Q : Option Value → List OB → Prop} (g : GC Z a0 EL) (hpl : plainFor y = true) {Ls : Array Slot} (hef : ∀ m, entryFrame m A.toArray maxL = mkF m 0 Ls [])
    (body : ∀ (p : Program) (e : Env) (s : State) (m : MethodId) (below : List Frame) (meth : Method) (c : Code) (T : State) (F : List OB), J l Z a0 EL [] y.cls bytes maxL ret y.name rm p e s m A.toArray below meth c T 0 0 (W ++ F) → Run p.tables e below (PostW Z EL rm s F Q) (T.setTop (mkF m 0 Ls []))) : Con l Z EL y bytes maxL ret rm A W Q := by
  intro ws F h0
  refine MetFree.of_bodySF hpl hisR ?_
  intro p e s m args below meth c s₁ Bd hml hP hK
  obtain ⟨rfl, hZ, hh, w⟩ := hP
  have X0 : Stand p l e rm s m A.toArray below meth c s₁ [] 0 0 := Stand.of_body Bd
  have e0 : s₁.heap = h0 := by rw [← hh, Bd.state]; rfl
  have r := body p e s m below meth c s₁ F ⟨s.vm, [], 0, X0, (State.WarmedH.refl s).since 0, Nat.zero_le _, hZ, findClass_of_methodNamed Bd.named, Fr.nil _, by rw [e0]; exact w, nofun, Bd.exec, Bd.bytes, hml, Bd.returns, (name_of_methodNamed Bd.named Bd.method).1, BodyLoose.notSynchronized Bd, g⟩
  rw [← hef m] at r
  exact r
theorem Con.back {y : MethodName} {rm : Room} {A : List Value} {Q : Option Value → List OB → Prop} {vm0 : Vm} {h : Heap} {F : List OB} {len Wd : Nat} (hC : Con l Z EL y bytes maxL ret rm A W Q) (g : GC Z a0 EL) (hZ : Z.Warmed39 vm0) (wc : Jvm.Cond.code y bytes maxL ret ∈ tables_1) (wz : Jvm.Cond.initialized y.cls ∈ tables_1) (hf : rm.frames + 1 ≤ R.frames) (hl : Wd + (maxL + 11) + rm.locals ≤ R.locals) (w : WL Z EL vm0 h (W ++ F)) :
    BackS l R p e below (s.setVm vm0) args y len Wd (fun A' a => a = A.toArray ∧ A'.U.heap = h ∧ A'.cells + rm.cells ≤ R.cells ∧ A'.slots + rm.slots ≤ R.slots)
      (fun A' _ v B => ∃ L W', Q v W' ∧ Fr Z.heap.size L ∧ WL Z EL B.U.vm B.U.heap (W' ++ F) ∧ B.locs = A'.locs ++ L ∧ B.cells = A'.cells + rm.cells ∧ B.slots = A'.slots + rm.slots) :=
  BackS.of_freeW (bytes := bytes) (maxL := maxL) (ret := ret) (E := fun _ first o t L k n => k = rm.cells ∧ n = rm.slots ∧ ∃ v W', o = .returned v ∧ Q v W' ∧ Fr Z.heap.size L ∧ WL Z EL t.vm t.heap (W' ++ F)) (hC [] F h) hf hl
    (fun m meth c A a Y hp => have hU : Z.Warmed39 A.U.vm := wtrans (s := s.setVm vm0) hZ Y.warmed
      ⟨by show (Jvm.Cond.and _ .tt).before a A.U = true; rw [Cond.before_and, mv hU (g.1 _ wc)]; rfl, mv hU (g.1 _ wc), mv hU (g.1 _ wz), hp.2.2.1, hp.2.2.2⟩)
    (fun m meth c A a g' mk Y hp => ⟨hp.1, wtrans (s := s.setVm vm0) hZ Y.warmed, hp.2.1, show WL Z EL A.U.vm h (W ++ F) from w.atVm (CHv.at Y hZ g.2.1 w.2.1)⟩) (fun _ _ _ _ _ _ _ _ _ => trivial)
    (fun _ _ _ _ ⟨v, L, W', h1, h2, h3, h4, h5⟩ => ⟨L, _, _, h5, rfl, rfl, v, W', h1, h2, h3, h4⟩)
    (fun m meth c A a g' mk v t L k n Y hp _ _ ⟨e1, e2, v', W', e3, e4, e5, e6⟩ => by
      cases e3; subst e1 e2
      exact ⟨L, W', e4, e5, e6, rfl, rfl, rfl⟩)
/-! ### Calls -/
/-- which of the n first objects the callee sees (li), which not (lo) -/
def pickOk (li lo : List Nat) (n : Nat) : Bool := decide (li ++ lo).Nodup && (li ++ lo).all (· < n)
theorem pick_app (W : List OB) : ∀ l l' : List Nat, pick W (l ++ l') = pick W l ++ pick W l'
  | [], _ => rfl
  | i :: l, l' => by show _ :: pick W (l ++ l') = _ :: (pick W l ++ pick W l'); rw [pick_app W l l']
theorem WL.split {vm : Vm} {h : Heap} (w : WL Z EL vm h W) {li lo : List Nat} {n : Nat} (ok : pickOk li lo n = true) (hn : n ≤ W.length) : WL Z EL vm h (pick W li ++ (pick W lo ++ W.drop n)) := by
  simp only [pickOk, Bool.and_eq_true, decide_eq_true_eq, List.all_eq_true] at ok
  have r := w.picked n (li ++ lo) ok.1 (fun i hi => ok.2 i hi) hn
  rw [pick_app, List.append_assoc] at r
  exact r
theorem lenLe {W : List OB} (L : List OB) (n : Nat) (h : W.length = L.length + n) : n ≤ W.length := by rw [h]; exact Nat.le_add_left _ _
theorem catR {x : Value} (h : x.isRef = true) : x.category = 1 := by rcases ref_cases h with rfl | ⟨a, rfl⟩ <;> rfl
theorem J.weak (j : J l Z a0 EL LT own bytes maxL ret nm R p e s m args below meth c T cells slots W) (li : List Nat) (n : Nat) (ok : pickOk li [] n = true) (hn : n ≤ W.length) {W' : List OB} (hW : pick W li ++ W.drop n = W') : J l Z a0 EL LT own bytes maxL ret nm R p e s m args below meth c T cells slots W' := by
  obtain ⟨vm0, locs, k0, X, hS, hk0, hZ, hown, hN, w, hr⟩ := j
  have w' := w.split ok hn
  subst hW
  exact ⟨vm0, locs, k0, X, hS, hk0, hZ, hown, hN, w', hr⟩
theorem i_static (j : J l Z a0 EL LT own bytes maxL ret nm R p e s m args below meth c T cells slots W) {pc : Nat} {Ls : Array Slot} {S : List Value} {Pq : Outcome → State → Prop} {idx : Nat} {y : MethodName} {bytes' : ByteArray} {maxL' : Nat} {ret' : Option FieldType} {rm : Room} {A : List Value} {Wc : List OB} {Q : Option Value → List OB → Prop} (hd : decode bytes pc = .ok (.invokestatic idx, 3)) (wl : Jvm.Cond.methodLink own idx y ∈ tables_1) (ws : Jvm.Cond.static y ∈ tables_1) (wz : Jvm.Cond.initialized y.cls ∈ tables_1) (wc : Jvm.Cond.code y bytes' maxL' ret' ∈ tables_1) (hy : y.cls ≠ "java/lang/invoke/MethodHandle" ∧ y.cls ≠ "java/lang/invoke/VarHandle") (hlen : ∀ sig, parseMethodDescriptor y.desc = some sig → A.length = sig.parameters.length)
    (hC : Con l Z EL y bytes' maxL' ret' rm A Wc Q) (li lo : List Nat) (n : Nat) (ok : pickOk li lo n = true) (hn : n ≤ W.length) (hW : pick W li = Wc) (Wd : Nat) (hf : rm.frames + 1 ≤ R.frames) (hl : Wd + (maxL' + 11) + rm.locals ≤ R.locals) (hc : cells + rm.cells ≤ R.cells) (hs : slots + rm.slots ≤ R.slots) (hLs : Ls.size = maxL) (hWd : (S.map fun v => v.category).sum ≤ Wd) (st : List Value) (hst : st = A.reverse ++ S) (c' s' : Nat) (hc' : c' = cells + rm.cells) (hs' : s' = slots + rm.slots) (pc' : Nat) (hp : pc' = pc + 3)
    (q : ∀ v W' T', Q v W' → J l Z a0 EL LT own bytes maxL ret nm R p e s m args below meth c T' c' s' (W' ++ (pick W lo ++ W.drop n)) → Run p.tables e below Pq (T'.setTop (mkF m pc' Ls (v.toList ++ S)))) : Run p.tables e below Pq (T.setTop (mkF m pc Ls st)) := by
  obtain ⟨vm0, locs, k0, X, hS, hk0, hZ, hown, hN, w, hT, hx, hby, hr⟩ := j
  subst hst hW
  obtain ⟨v, _, ⟨T', L', k', n'⟩, -, X', hS2, hgr, ⟨L, W', hQ, hF, w', e1, e2, e3⟩, st'⟩ := callSS X hx hown (mvT (s := s.setVm vm0) hZ (hr.2.2.2.2.1 _ wl)) (mvT (s := s.setVm vm0) hZ (hr.2.2.2.2.1 _ ws)) (mvT (s := s.setVm vm0) hZ (hr.2.2.2.2.1 _ wz)) (mvT (s := s.setVm vm0) hZ (hr.2.2.2.2.1 _ wc)) hy (Con.back (R := R) hC hr.2.2.2.2 hZ wc wz hf hl (w.split ok hn)) (g := mkF m pc Ls (A.reverse ++ S)) rfl (by rw [hr.1]; exact hLs) (argsL := A) (rest := S) hlen rfl (by show 2 * 0 + _ ≤ _; omega) (hb hby hd) (fun _ _ => ⟨rfl, rfl, hc, hs⟩)
  dsimp only [Pt.U, Pt.locs, Pt.cells, Pt.slots] at X' hS2 hgr w' e1 e2 e3 st'
  subst e1 e2 e3 hp hc' hs'
  obtain ⟨X2, hS3, hZ2, hown2⟩ := rebS hS hk0 X' hS2 hgr hZ hown
  exact Run.tr st' (q v W' T' hQ ⟨T'.vm, _, _, X2, hS3, Nat.le_refl _, hZ2, hown2, hN.app hF, w', fun t ht => (hT t ht).stays hS2.1, hx, hby, hr⟩)
theorem i_special (j : J l Z a0 EL LT own bytes maxL ret nm R p e s m args below meth c T cells slots W) {pc : Nat} {Ls : Array Slot} {S : List Value} {Pq : Outcome → State → Prop} {idx : Nat} {y : MethodName} {bytes' : ByteArray} {maxL' : Nat} {rm : Room} {a : Addr} {A : List Value} {Wc : List OB} {Q : Option Value → List OB → Prop} (hd : decode bytes pc = .ok (.invokespecial idx, 3)) (hnm : y.name = "<init>") (wl : Jvm.Cond.methodLink own idx y ∈ tables_1) (wi : Jvm.Cond.instanceMethod y ∈ tables_1) (wz : Jvm.Cond.initialized y.cls ∈ tables_1) (wc : Jvm.Cond.code y bytes' maxL' none ∈ tables_1) (hy : y.cls ≠ "java/lang/invoke/MethodHandle" ∧ y.cls ≠ "java/lang/invoke/VarHandle") (hlen : ∀ sig, parseMethodDescriptor y.desc = some sig → A.length = sig.parameters.length)
    (hC : Con l Z EL y bytes' maxL' none rm (.ref a :: A) Wc Q) (li lo : List Nat) (n : Nat) (ok : pickOk li lo n = true) (hn : n ≤ W.length) (hW : pick W li = Wc) (Wd : Nat) (hf : rm.frames + 1 ≤ R.frames) (hl : Wd + (maxL' + 11) + rm.locals ≤ R.locals) (hc : cells + rm.cells ≤ R.cells) (hs : slots + rm.slots ≤ R.slots) (hLs : Ls.size = maxL) (hWd : (S.map fun v => v.category).sum ≤ Wd) (st : List Value) (hst : st = A.reverse ++ .ref a :: S) (c' s' : Nat) (hc' : c' = cells + rm.cells) (hs' : s' = slots + rm.slots) (pc' : Nat) (hp : pc' = pc + 3)
    (q : ∀ v W' T', Q v W' → J l Z a0 EL LT own bytes maxL ret nm R p e s m args below meth c T' c' s' (W' ++ (pick W lo ++ W.drop n)) → Run p.tables e below Pq (T'.setTop (mkF m pc' Ls (v.toList ++ S)))) : Run p.tables e below Pq (T.setTop (mkF m pc Ls st)) := by
  obtain ⟨vm0, locs, k0, X, hS, hk0, hZ, hown, hN, w, hT, hx, hby, hr⟩ := j
  subst hst hW
  obtain ⟨v, _, ⟨T', L', k', n'⟩, -, X', hS2, hgr, ⟨L, W', hQ, hF, w', e1, e2, e3⟩, st'⟩ := X.specialBackS hx (y := y) hnm hown (mvT (s := s.setVm vm0) hZ (hr.2.2.2.2.1 _ wl)) (mvT (s := s.setVm vm0) hZ (hr.2.2.2.2.1 _ wi)) (mvT (s := s.setVm vm0) hZ (hr.2.2.2.2.1 _ wc)) hy (Con.back (R := R) hC hr.2.2.2.2 hZ wc wz hf hl (w.split ok hn)) (g := mkF m pc Ls (A.reverse ++ .ref a :: S)) rfl (by rw [hr.1]; exact hLs) (Steps.refl _) (a := a) (argsL := A) (rest := S) hlen rfl (by show 2 * 0 + _ ≤ _; omega) (hb hby hd) (fun _ _ => ⟨rfl, rfl, hc, hs⟩)
  dsimp only [Pt.U, Pt.locs, Pt.cells, Pt.slots] at X' hS2 hgr w' e1 e2 e3 st'
  subst e1 e2 e3 hp hc' hs'
  obtain ⟨X2, hS3, hZ2, hown2⟩ := rebS hS hk0 X' hS2 hgr hZ hown
  exact Run.tr st' (q v W' T' hQ ⟨T'.vm, _, _, X2, hS3, Nat.le_refl _, hZ2, hown2, hN.app hF, w', fun t ht => (hT t ht).stays hS2.1, hx, hby, hr⟩)
theorem nfSel {C : String} {y : MethodName} (w : Jvm.Cond.selects C y y ∈ tables_1) : GC Z a0 EL → ∀ U : State, Z.Warmed39 U.vm → NotFace U y := fun g U hU => notFace_of_selects (args := #[]) (mvT hU (g.1 _ w))
theorem i_virtual (j : J l Z a0 EL LT own bytes maxL ret nm R p e s m args below meth c T cells slots W) {pc : Nat} {Ls : Array Slot} {S : List Value} {Pq : Outcome → State → Prop} {idx : Nat} {C : String} {y z : MethodName} {bytes' : ByteArray} {maxL' : Nat} {ret' : Option FieldType} {rm : Room} {a : Addr} {b : Bool} {fs : FS} {A : List Value} {Wc : List OB} {Q : Option Value → List OB → Prop} (hd : decode bytes pc = .ok (.invokevirtual idx, 3)) (wl : Jvm.Cond.methodLink own idx y ∈ tables_1) (wd : Jvm.Cond.declares y ∈ tables_1) (hnf : GC Z a0 EL → ∀ U : State, Z.Warmed39 U.vm → NotFace U y) (wsel : Jvm.Cond.selects C y z ∈ tables_1) (wi : Jvm.Cond.instanceMethod z ∈ tables_1) (wz : Jvm.Cond.initialized z.cls ∈ tables_1) (wc : Jvm.Cond.code z bytes' maxL' ret' ∈ tables_1) (hy : y.cls ≠ "java/lang/invoke/MethodHandle" ∧ y.cls ≠ "java/lang/invoke/VarHandle") (hlen : ∀ sig, parseMethodDescriptor y.desc = some sig → A.length = sig.parameters.length) (ir : Nat) (hir : W[ir]? = some (a, b, .inl (C, fs)))
    (hC : Con l Z EL z bytes' maxL' ret' rm (.ref a :: A) Wc Q) (li lo : List Nat) (n : Nat) (ok : pickOk li lo n = true) (hn : n ≤ W.length) (hW : pick W li = Wc) (Wd : Nat) (hf : rm.frames + 1 ≤ R.frames) (hl : Wd + (maxL' + 11) + rm.locals ≤ R.locals) (hc : cells + rm.cells ≤ R.cells) (hs : slots + rm.slots ≤ R.slots) (hLs : Ls.size = maxL) (hWd : (S.map fun v => v.category).sum ≤ Wd) (st : List Value) (hst : st = A.reverse ++ .ref a :: S) (c' s' : Nat) (hc' : c' = cells + rm.cells) (hs' : s' = slots + rm.slots) (pc' : Nat) (hp : pc' = pc + 3)
    (q : ∀ v W' T', Q v W' → J l Z a0 EL LT own bytes maxL ret nm R p e s m args below meth c T' c' s' (W' ++ (pick W lo ++ W.drop n)) → Run p.tables e below Pq (T'.setTop (mkF m pc' Ls (v.toList ++ S)))) : Run p.tables e below Pq (T.setTop (mkF m pc Ls st)) := by
  obtain ⟨vm0, locs, k0, X, hS, hk0, hZ, hown, hN, w, hT, hx, hby, hr⟩ := j
  subst hst hW
  obtain ⟨cq, kq, qa, qb, qc⟩ := isOf (s := s.setVm vm0) hZ rfl (w.2.2.1 _ (List.mem_of_getElem? hir)).1.1
  obtain ⟨v, _, ⟨T', L', k', n'⟩, -, X', hS2, hgr, ⟨L, W', hQ, hF, w', e1, e2, e3⟩, st'⟩ := X.virtualBackS hx (y := y) (z := z) hown (mvT (s := s.setVm vm0) hZ (hr.2.2.2.2.1 _ wl)) (mvT (s := s.setVm vm0) hZ (hr.2.2.2.2.1 _ wd)) (hnf hr.2.2.2.2 (s.setVm vm0) hZ) (mvT (s := s.setVm vm0) hZ (hr.2.2.2.2.1 _ wsel)) (mvT (s := s.setVm vm0) hZ (hr.2.2.2.2.1 _ wi)) hy (Con.back (R := R) hC hr.2.2.2.2 hZ wc wz hf hl (w.split ok hn)) qa qc (g := mkF m pc Ls (A.reverse ++ .ref a :: S)) rfl (by rw [hr.1]; exact hLs) (Steps.refl _) (argsL := A) (rest := S) hlen rfl (by show 2 * 0 + _ ≤ _; omega) (hb hby hd) (fun _ _ => ⟨rfl, rfl, hc, hs⟩)
  dsimp only [Pt.U, Pt.locs, Pt.cells, Pt.slots] at X' hS2 hgr w' e1 e2 e3 st'
  subst e1 e2 e3 hp hc' hs'
  obtain ⟨X2, hS3, hZ2, hown2⟩ := rebS hS hk0 X' hS2 hgr hZ hown
  exact Run.tr st' (q v W' T' hQ ⟨T'.vm, _, _, X2, hS3, Nat.le_refl _, hZ2, hown2, hN.app hF, w', fun t ht => (hT t ht).stays hS2.1, hx, hby, hr⟩)
/-! ### Ends -/
theorem r_void (j : J l Z a0 EL LT own bytes maxL ret nm R p e s m args below meth c T cells slots W) {pc : Nat} {Ls : Array Slot} {F Wf : List OB} {Q : Option Value → List OB → Prop} (hd : decode bytes pc = .ok (.return_, 1)) (hret : ret = none) (hc : cells ≤ R.cells) (hs : slots ≤ R.slots) (hW : W = Wf ++ F) (hQ : Q none Wf) : Run p.tables e below (PostW Z EL R s F Q) (T.setTop (mkF m pc Ls [])) := by
  obtain ⟨vm0, locs, k0, X, hS, hk0, hZ, hown, hN, w, hT, hx, hby, hr⟩ := j
  have hlk := hr.2.2.2.1
  have hrt : meth.sig.returnType = none := hr.2.1.trans hret
  obtain ⟨fs, h1, h2, h3, h4⟩ := X.leaveW hS hk0 (v := none) (fun _ => rfl) hlk
  have w' : WL Z EL T.vm T.heap W := w.atVm (CHv.at X hZ hr.2.2.2.2.2.1 w.2.1)
  subst hW
  exact ⟨_, _, X.returnOut hx hrt (hb hby hd) h1, h2, h3, none, locs, Wf, rfl, hQ, hN, w', ⟨h4.1, h4.2.1, h4.2.2.1, h4.2.2.2.mono hc hs⟩⟩
theorem r_val (j : J l Z a0 EL LT own bytes maxL ret nm R p e s m args below meth c T cells slots W) {pc : Nat} {Ls : Array Slot} {S : List Value} {F Wf : List OB} {Q : Option Value → List OB → Prop} {x : Value} {t : FieldType} {i : Instr} (hd : decode bytes pc = .ok (i, 1)) (hret : ret = some t) (hn : narrow t x = x)
    (hi : (i = .ireturn ∧ (t = .int ∨ t = .boolean ∨ t = .byte ∨ t = .char ∨ t = .short) ∧ ∃ z, x = .int z) ∨ (i = .lreturn ∧ t = .long ∧ ∃ z, x = .long z) ∨ (i = .dreturn ∧ t = .double ∧ ∃ z, x = .double z) ∨ (i = .freturn ∧ t = .float ∧ ∃ z, x = .float z) ∨ (i = .areturn ∧ t.isReference = true ∧ x.isRef = true))
    (hc : cells ≤ R.cells) (hs : slots ≤ R.slots) (hW : W = Wf ++ F) (hQ : Q (some x) Wf) : Run p.tables e below (PostW Z EL R s F Q) (T.setTop (mkF m pc Ls (x :: S))) := by
  obtain ⟨vm0, locs, k0, X, hS, hk0, hZ, hown, hN, w, hT, hx, hby, hr⟩ := j
  have hlk := hr.2.2.2.1
  have hrt : meth.sig.returnType = some t := hr.2.1.trans hret
  obtain ⟨fs, h1, h2, h3, h4⟩ := X.leaveW hS hk0 (v := some x) (fun h => by rw [hrt] at h; cases h) hlk
  have w' : WL Z EL T.vm T.heap W := w.atVm (CHv.at X hZ hr.2.2.2.2.2.1 w.2.1)
  subst hW
  exact ⟨_, _, retOut X hx hrt hn hi (hb hby hd) h1, h2, h3, some x, locs, Wf, rfl, hQ, hN, w', ⟨h4.1, h4.2.1, h4.2.2.1, h4.2.2.2.mono hc hs⟩⟩
end Steps

abbrev o_Str (a : Addr) (x0 : Value) (x1 : Value) : OB := (a, true, .inl ("java/lang/String", [("java/lang/String", "value", "[B", x0), ("java/lang/String", "coder", "B", x1)]))
theorem df_Str {Z : State} {a0 : Array Value} {EL : List (String × Nat)} (g : GC Z a0 EL) : FD Z a0 "java/lang/String" [("java/lang/String", "value", "[B", .null), ("java/lang/String", "coder", "B", (.int (0 : Int32)))] :=
  FD.cons (Or.inr (g.1 _ (mt (i := 33) rfl))) (ty := (.array .byte)) (by decide) rfl <| FD.cons (Or.inr (g.1 _ (mt (i := 31) rfl))) (ty := .byte) (by decide) rfl <| FD.nil
theorem sd_Str {Z : State} {a0 : Array Value} {EL : List (String × Nat)} (g : GC Z a0 EL) : SD Z [("java/lang/String", "value", "[B"), ("java/lang/String", "coder", "B")] := SD.of (df_Str g) (by decide)
theorem kd_Str {Z : State} {a0 : Array Value} {EL : List (String × Nat)} (g : GC Z a0 EL) : KD Z a0 "java/lang/String" [("java/lang/String", "value", "[B"), ("java/lang/String", "coder", "B")] := FD.keys (df_Str g)
abbrev o_Sf (a : Addr) (x0 : Value) : OB := (a, true, .inl ("com/example/ubic/ubic/service/Shortfall", [("com/example/ubic/ubic/service/Shortfall", "reason", "Ljava/lang/String;", x0)]))
theorem df_Sf {Z : State} {a0 : Array Value} {EL : List (String × Nat)} (g : GC Z a0 EL) : FD Z a0 "com/example/ubic/ubic/service/Shortfall" [("com/example/ubic/ubic/service/Shortfall", "reason", "Ljava/lang/String;", .null)] :=
  FD.cons (Or.inl (g.1 _ (mt (i := 47) rfl))) (ty := (.object "java/lang/String")) (by decide) rfl <| FD.nil
theorem sd_Sf {Z : State} {a0 : Array Value} {EL : List (String × Nat)} (g : GC Z a0 EL) : SD Z [("com/example/ubic/ubic/service/Shortfall", "reason", "Ljava/lang/String;")] := SD.of (df_Sf g) (by decide)
theorem kd_Sf {Z : State} {a0 : Array Value} {EL : List (String × Nat)} (g : GC Z a0 EL) : KD Z a0 "com/example/ubic/ubic/service/Shortfall" [("com/example/ubic/ubic/service/Shortfall", "reason", "Ljava/lang/String;")] := FD.keys (df_Sf g)
theorem fitR {C : String} {x : Value} (h : x.isRef = true) : fits (.object C) x = true := by rcases ref_cases h with rfl | ⟨a, rfl⟩ <;> rfl
theorem narR {C : String} {x : Value} (h : x.isRef = true) : narrow (.object C) x = x := by rcases ref_cases h with rfl | ⟨a, rfl⟩ <;> rfl
theorem d0_0 : decode jdk_52_method_15_code 0 = .ok (.iload_n 1, 1) := by decide +kernel
theorem d0_1 : decode jdk_52_method_15_code 1 = .ok (.aload_n 0, 1) := by decide +kernel
theorem d0_2 : decode jdk_52_method_15_code 2 = .ok (.arraylength, 1) := by decide +kernel
theorem d0_3 : decode jdk_52_method_15_code 3 = .ok (.isub, 1) := by decide +kernel
theorem d0_4 : decode jdk_52_method_15_code 4 = .ok (.bipush 31, 2) := by decide +kernel
theorem d0_6 : decode jdk_52_method_15_code 6 = .ok (.iushr, 1) := by decide +kernel
theorem d0_7 : decode jdk_52_method_15_code 7 = .ok (.i2b, 1) := by decide +kernel
theorem d0_8 : decode jdk_52_method_15_code 8 = .ok (.ireturn, 1) := by decide +kernel
theorem pn_coder : plainFor (⟨"java/lang/StringUTF16", "coderFromArrayLen", "([BI)B"⟩ : MethodName) = true := by first | exact plainFor_of_name (by first | (simp [plainName, overriddenIn]; done) | decide +kernel) | decide +kernel
set_option maxRecDepth 65536 in
set_option maxHeartbeats 40000000 in
theorem c_coder {l : Launch} {Z : State} {a0 : Array Value} {EL : List (String × Nat)} (g : GC Z a0 EL) (b : Addr) (k : ClassId) (x : Int32) : Con l Z EL (⟨"java/lang/StringUTF16", "coderFromArrayLen", "([BI)B"⟩ : MethodName) jdk_52_method_15_code 2 (some .byte) { frames := 0, cells := 0, slots := 0, locals := 0 } [(.ref b), (.int (1 : Int32))] [(b, true, .inr (k, .byte, (1 : Int32), [(.int x)], (.int (0 : Int32))))] (fun v W' => v = some (.int 0) ∧ W' = [(b, true, .inr (k, .byte, (1 : Int32), [(.int x)], (.int (0 : Int32))))]) := by
  refine Con.mk g pn_coder (Ls := #[.val (.ref b), .val (.int (1 : Int32))]) (fun m => by first | (simp [entryFrame, mkF, argsToLocals, Value.category]; done) | rfl) ?_
  intro p e s m below meth c T0 F J0
  refine p_iload_n J0 d0_0 rfl 1 rfl ?_
  refine p_aload_n J0 d0_1 rfl rfl 2 rfl ?_
  refine i_len J0 d0_2 0 rfl 3 rfl ?_
  refine p_isub J0 d0_3 (z := (0 : Int32)) (by decide) 4 rfl ?_
  refine p_bipush J0 d0_4 (z := (31 : Int32)) rfl 6 rfl ?_
  refine p_iushr J0 d0_6 (z := (0 : Int32)) (by decide) 7 rfl ?_
  refine p_i2b J0 d0_7 (z := (0 : Int32)) (by decide) 8 rfl ?_
  exact r_val J0 d0_8 (t := .byte) rfl rfl (Or.inl ⟨rfl, by simp, _, rfl⟩) (by decide) (by decide) (Wf := [(b, true, .inr (k, .byte, (1 : Int32), [(.int x)], (.int (0 : Int32))))]) rfl ⟨rfl, rfl⟩
theorem d1_0 : decode jdk_52_method_21_code 0 = .ok (.iconst 0, 1) := by decide +kernel
theorem d1_1 : decode jdk_52_method_21_code 1 = .ok (.istore 5, 2) := by decide +kernel
theorem d1_3 : decode jdk_52_method_21_code 3 = .ok (.iload 5, 2) := by decide +kernel
theorem d1_5 : decode jdk_52_method_21_code 5 = .ok (.iload 4, 2) := by decide +kernel
theorem d1_7 : decode jdk_52_method_21_code 7 = .ok (.if_icmp .ge 37, 3) := by decide +kernel
theorem d1_10 : decode jdk_52_method_21_code 10 = .ok (.aload_n 0, 1) := by decide +kernel
theorem d1_11 : decode jdk_52_method_21_code 11 = .ok (.iload_n 1, 1) := by decide +kernel
theorem d1_12 : decode jdk_52_method_21_code 12 = .ok (.caload, 1) := by decide +kernel
theorem d1_13 : decode jdk_52_method_21_code 13 = .ok (.istore 6, 2) := by decide +kernel
theorem d1_15 : decode jdk_52_method_21_code 15 = .ok (.iload 6, 2) := by decide +kernel
theorem d1_17 : decode jdk_52_method_21_code 17 = .ok (.sipush 255, 3) := by decide +kernel
theorem d1_20 : decode jdk_52_method_21_code 20 = .ok (.if_icmp .le 6, 3) := by decide +kernel
theorem d1_26 : decode jdk_52_method_21_code 26 = .ok (.aload_n 2, 1) := by decide +kernel
theorem d1_27 : decode jdk_52_method_21_code 27 = .ok (.iload_n 3, 1) := by decide +kernel
theorem d1_28 : decode jdk_52_method_21_code 28 = .ok (.iload 6, 2) := by decide +kernel
theorem d1_30 : decode jdk_52_method_21_code 30 = .ok (.i2b, 1) := by decide +kernel
theorem d1_31 : decode jdk_52_method_21_code 31 = .ok (.bastore, 1) := by decide +kernel
theorem d1_32 : decode jdk_52_method_21_code 32 = .ok (.iinc 1 1, 3) := by decide +kernel
theorem d1_35 : decode jdk_52_method_21_code 35 = .ok (.iinc 3 1, 3) := by decide +kernel
theorem d1_38 : decode jdk_52_method_21_code 38 = .ok (.iinc 5 1, 3) := by decide +kernel
theorem d1_41 : decode jdk_52_method_21_code 41 = .ok (.goto (-38), 3) := by decide +kernel
theorem d1_44 : decode jdk_52_method_21_code 44 = .ok (.iload 4, 2) := by decide +kernel
theorem d1_46 : decode jdk_52_method_21_code 46 = .ok (.ireturn, 1) := by decide +kernel
theorem pn_comp5 : plainFor (⟨"java/lang/StringUTF16", "compress", "([CI[BII)I"⟩ : MethodName) = true := by first | exact plainFor_of_name (by first | (simp [plainName, overriddenIn]; done) | decide +kernel) | decide +kernel
set_option maxRecDepth 65536 in
set_option maxHeartbeats 40000000 in
theorem c_comp5 {l : Launch} {Z : State} {a0 : Array Value} {EL : List (String × Nat)} (g : GC Z a0 EL) (sa d : Addr) (ks kd : ClassId) (ch : Int32) (hch : ¬ (255 : Int32) < ch) : Con l Z EL (⟨"java/lang/StringUTF16", "compress", "([CI[BII)I"⟩ : MethodName) jdk_52_method_21_code 7 (some .int) { frames := 0, cells := 0, slots := 0, locals := 0 } [(.ref sa), (.int (0 : Int32)), (.ref d), (.int (0 : Int32)), (.int (1 : Int32))] [(sa, true, .inr (ks, .char, (1 : Int32), [(.int ch)], (.int (0 : Int32)))), (d, true, .inr (kd, .byte, (1 : Int32), [(.int (0 : Int32))], (.int (0 : Int32))))] (fun v W' => v = some (.int 1) ∧ W' = [(sa, true, .inr (ks, .char, (1 : Int32), [(.int ch)], (.int (0 : Int32)))), (d, true, .inr (kd, .byte, (1 : Int32), [(.int (ch.toInt8.toInt32.toInt8.toInt32))], (.int (0 : Int32))))]) := by
  refine Con.mk g pn_comp5 (Ls := #[.val (.ref sa), .val (.int (0 : Int32)), .val (.ref d), .val (.int (0 : Int32)), .val (.int (1 : Int32)), .unset, .unset]) (fun m => by first | (simp [entryFrame, mkF, argsToLocals, Value.category]; done) | rfl) ?_
  intro p e s m below meth c T0 F J0
  refine p_iconst J0 d1_0 (z := (0 : Int32)) rfl 1 rfl ?_
  refine p_istore J0 #[.val (.ref sa), .val (.int (0 : Int32)), .val (.ref d), .val (.int (0 : Int32)), .val (.int (1 : Int32)), .val (.int (0 : Int32)), .unset] d1_1 rfl 3 rfl ?_
  refine p_iload J0 d1_3 rfl 5 rfl ?_
  refine p_iload J0 d1_5 rfl 7 rfl ?_
  refine p_icmp_n J0 d1_7 (by decide) 10 rfl ?_
  refine p_aload_n J0 d1_10 rfl rfl 11 rfl ?_
  refine p_iload_n J0 d1_11 rfl 12 rfl ?_
  refine i_caload J0 d1_12 0 rfl (by decide) (by decide) rfl 13 rfl ?_
  refine p_istore J0 #[.val (.ref sa), .val (.int (0 : Int32)), .val (.ref d), .val (.int (0 : Int32)), .val (.int (1 : Int32)), .val (.int (0 : Int32)), .val (.int ch)] d1_13 rfl 15 rfl ?_
  refine p_iload J0 d1_15 rfl 17 rfl ?_
  refine p_sipush J0 d1_17 (z := (255 : Int32)) rfl 20 rfl ?_
  refine p_icmp_y J0 d1_20 (flt hch).2.2.2 26 (by decide) (by decide) ?_
  refine p_aload_n J0 d1_26 rfl rfl 27 rfl ?_
  refine p_iload_n J0 d1_27 rfl 28 rfl ?_
  refine p_iload J0 d1_28 rfl 30 rfl ?_
  refine p_i2b J0 d1_30 (z := (ch.toInt8.toInt32)) rfl 31 rfl ?_
  refine i_bastore J0 d1_31 1 0 rfl (by decide) (by decide) rfl (by decide) rfl 32 rfl ((sa, true, .inr (ks, .char, (1 : Int32), [(.int ch)], (.int (0 : Int32)))) :: (d, true, .inr (kd, .byte, (1 : Int32), [(.int (ch.toInt8.toInt32.toInt8.toInt32))], (.int (0 : Int32)))) :: F) rfl fun T1 J2 => ?_
  refine p_iinc J2 #[.val (.ref sa), .val (.int (1 : Int32)), .val (.ref d), .val (.int (0 : Int32)), .val (.int (1 : Int32)), .val (.int (0 : Int32)), .val (.int ch)] d1_32 rfl rfl 35 rfl ?_
  refine p_iinc J2 #[.val (.ref sa), .val (.int (1 : Int32)), .val (.ref d), .val (.int (1 : Int32)), .val (.int (1 : Int32)), .val (.int (0 : Int32)), .val (.int ch)] d1_35 rfl rfl 38 rfl ?_
  refine p_iinc J2 #[.val (.ref sa), .val (.int (1 : Int32)), .val (.ref d), .val (.int (1 : Int32)), .val (.int (1 : Int32)), .val (.int (1 : Int32)), .val (.int ch)] d1_38 rfl rfl 41 rfl ?_
  refine p_goto J2 d1_41 3 (by decide) (by decide) ?_
  refine p_iload J2 d1_3 rfl 5 rfl ?_
  refine p_iload J2 d1_5 rfl 7 rfl ?_
  refine p_icmp_y J2 d1_7 (by decide) 44 (by decide) (by decide) ?_
  refine p_iload J2 d1_44 rfl 46 rfl ?_
  exact r_val J2 d1_46 (t := .int) rfl rfl (Or.inl ⟨rfl, by simp, _, rfl⟩) (by decide) (by decide) (Wf := [(sa, true, .inr (ks, .char, (1 : Int32), [(.int ch)], (.int (0 : Int32)))), (d, true, .inr (kd, .byte, (1 : Int32), [(.int (ch.toInt8.toInt32.toInt8.toInt32))], (.int (0 : Int32))))]) rfl ⟨rfl, rfl⟩
theorem d2_0 : decode jdk_52_method_16_code 0 = .ok (.iload_n 2, 1) := by decide +kernel
theorem d2_1 : decode jdk_52_method_16_code 1 = .ok (.newarray .byte, 2) := by decide +kernel
theorem d2_3 : decode jdk_52_method_16_code 3 = .ok (.astore_n 3, 1) := by decide +kernel
theorem d2_4 : decode jdk_52_method_16_code 4 = .ok (.aload_n 0, 1) := by decide +kernel
theorem d2_5 : decode jdk_52_method_16_code 5 = .ok (.iload_n 1, 1) := by decide +kernel
theorem d2_6 : decode jdk_52_method_16_code 6 = .ok (.aload_n 3, 1) := by decide +kernel
theorem d2_7 : decode jdk_52_method_16_code 7 = .ok (.iconst 0, 1) := by decide +kernel
theorem d2_8 : decode jdk_52_method_16_code 8 = .ok (.iload_n 2, 1) := by decide +kernel
theorem d2_9 : decode jdk_52_method_16_code 9 = .ok (.invokestatic 115, 3) := by decide +kernel
theorem pd_0 : parseMethodDescriptor "([CI[BII)I" = some ⟨[(.array .char), .int, (.array .byte), .int, .int], some .int⟩ := by decide +kernel
theorem d2_12 : decode jdk_52_method_16_code 12 = .ok (.istore 4, 2) := by decide +kernel
theorem d2_14 : decode jdk_52_method_16_code 14 = .ok (.iload 4, 2) := by decide +kernel
theorem d2_16 : decode jdk_52_method_16_code 16 = .ok (.iload_n 2, 1) := by decide +kernel
theorem d2_17 : decode jdk_52_method_16_code 17 = .ok (.if_icmp .eq 40, 3) := by decide +kernel
theorem d2_57 : decode jdk_52_method_16_code 57 = .ok (.aload_n 3, 1) := by decide +kernel
theorem d2_58 : decode jdk_52_method_16_code 58 = .ok (.areturn, 1) := by decide +kernel
theorem pn_comp3 : plainFor (⟨"java/lang/StringUTF16", "compress", "([CII)[B"⟩ : MethodName) = true := by first | exact plainFor_of_name (by first | (simp [plainName, overriddenIn]; done) | decide +kernel) | decide +kernel
set_option maxRecDepth 65536 in
set_option maxHeartbeats 40000000 in
theorem c_comp3 {l : Launch} {Z : State} {a0 : Array Value} {EL : List (String × Nat)} (g : GC Z a0 EL) (sa : Addr) (ks : ClassId) (ch : Int32) (hch : ¬ (255 : Int32) < ch) : Con l Z EL (⟨"java/lang/StringUTF16", "compress", "([CII)[B"⟩ : MethodName) jdk_52_method_16_code 6 (some (.array .byte)) { frames := 1, cells := 1, slots := 1, locals := 18 } [(.ref sa), (.int (0 : Int32)), (.int (1 : Int32))] [(sa, true, .inr (ks, .char, (1 : Int32), [(.int ch)], (.int (0 : Int32))))] (fun v W' => ∃ (d : Addr) (kd : ClassId) (x : Int32), v = some (.ref d) ∧ W' = [(sa, true, .inr (ks, .char, (1 : Int32), [(.int ch)], (.int (0 : Int32)))), (d, true, .inr (kd, .byte, (1 : Int32), [(.int x)], (.int (0 : Int32))))]) := by
  refine Con.mk g pn_comp3 (Ls := #[.val (.ref sa), .val (.int (0 : Int32)), .val (.int (1 : Int32)), .unset, .unset, .unset]) (fun m => by first | (simp [entryFrame, mkF, argsToLocals, Value.category]; done) | rfl) ?_
  intro p e s m below meth c T0 F J0
  refine p_iload_n J0 d2_0 rfl 1 rfl ?_
  refine i_newP J0 d2_1 (ty := .byte) rfl nofun (mt (i := 23) rfl) (by decide) 1 (by decide) (by decide) (by decide) (by decide) [(.int (0 : Int32))] (pad_rep [] (.int (0 : Int32)) 1) (dv := (.int (0 : Int32))) rfl 1 1 rfl rfl 3 rfl fun a3 k4 T5 J6 => ?_
  refine p_astore_n J6 #[.val (.ref sa), .val (.int (0 : Int32)), .val (.int (1 : Int32)), .val (.ref a3), .unset, .unset] d2_3 rfl rfl 4 rfl ?_
  refine p_aload_n J6 d2_4 rfl rfl 5 rfl ?_
  refine p_iload_n J6 d2_5 rfl 6 rfl ?_
  refine p_aload_n J6 d2_6 rfl rfl 7 rfl ?_
  refine p_iconst J6 d2_7 (z := (0 : Int32)) rfl 8 rfl ?_
  refine p_iload_n J6 d2_8 rfl 9 rfl ?_
  refine i_static J6 d2_9 (mt (i := 24) rfl) (mt (i := 25) rfl) (mt (i := 21) rfl) (mt (i := 26) rfl) (by decide) (lenOf pd_0 rfl) (c_comp5 g sa a3 ks k4 ch hch) [1, 0] [] 2 (by decide) (lenLe F 2 rfl) rfl 0 (by decide) (by decide) (by decide) (by decide) rfl (by show (0 : Nat) ≤ _; decide) _ rfl 1 1 rfl rfl 12 rfl fun v10 W11 T7 hQ9 J8 => ?_
  obtain ⟨rfl, rfl⟩ := hQ9
  have J12 := J8.norm (W' := (sa, true, .inr (ks, .char, (1 : Int32), [(.int ch)], (.int (0 : Int32)))) :: (a3, true, .inr (k4, .byte, (1 : Int32), [(.int (ch.toInt8.toInt32.toInt8.toInt32))], (.int (0 : Int32)))) :: F) rfl
  show Run _ _ _ _ (State.setTop _ (mkF m 12 #[.val (.ref sa), .val (.int (0 : Int32)), .val (.int (1 : Int32)), .val (.ref a3), .unset, .unset] [(.int (1 : Int32))]))
  refine p_istore J12 #[.val (.ref sa), .val (.int (0 : Int32)), .val (.int (1 : Int32)), .val (.ref a3), .val (.int (1 : Int32)), .unset] d2_12 rfl 14 rfl ?_
  refine p_iload J12 d2_14 rfl 16 rfl ?_
  refine p_iload_n J12 d2_16 rfl 17 rfl ?_
  refine p_icmp_y J12 d2_17 (by decide) 57 (by decide) (by decide) ?_
  refine p_aload_n J12 d2_57 rfl rfl 58 rfl ?_
  exact r_val J12 d2_58 (t := (.array .byte)) rfl rfl (Or.inr (Or.inr (Or.inr (Or.inr ⟨rfl, rfl, rfl⟩)))) (by decide) (by decide) (Wf := [(sa, true, .inr (ks, .char, (1 : Int32), [(.int ch)], (.int (0 : Int32)))), (a3, true, .inr (k4, .byte, (1 : Int32), [(.int (ch.toInt8.toInt32.toInt8.toInt32))], (.int (0 : Int32))))]) rfl ⟨a3, k4, _, rfl, rfl⟩
theorem d3_0 : decode jdk_42_method_149_code 0 = .ok (.aload_n 0, 1) := by decide +kernel
theorem d3_1 : decode jdk_42_method_149_code 1 = .ok (.invokespecial 1, 3) := by decide +kernel
theorem d3_4 : decode jdk_42_method_149_code 4 = .ok (.iload_n 3, 1) := by decide +kernel
theorem d3_5 : decode jdk_42_method_149_code 5 = .ok (.ifCond .ne 22, 3) := by decide +kernel
theorem d3_27 : decode jdk_42_method_149_code 27 = .ok (.getstatic 38, 3) := by decide +kernel
theorem d3_30 : decode jdk_42_method_149_code 30 = .ok (.ifCond .eq 28, 3) := by decide +kernel
theorem d3_33 : decode jdk_42_method_149_code 33 = .ok (.aload_n 1, 1) := by decide +kernel
theorem d3_34 : decode jdk_42_method_149_code 34 = .ok (.iload_n 2, 1) := by decide +kernel
theorem d3_35 : decode jdk_42_method_149_code 35 = .ok (.iload_n 3, 1) := by decide +kernel
theorem d3_36 : decode jdk_42_method_149_code 36 = .ok (.invokestatic 177, 3) := by decide +kernel
theorem pd_1 : parseMethodDescriptor "([CII)[B" = some ⟨[(.array .char), .int, .int], some (.array .byte)⟩ := by decide +kernel
theorem d3_39 : decode jdk_42_method_149_code 39 = .ok (.astore 5, 2) := by decide +kernel
theorem d3_41 : decode jdk_42_method_149_code 41 = .ok (.aload_n 0, 1) := by decide +kernel
theorem d3_42 : decode jdk_42_method_149_code 42 = .ok (.aload 5, 2) := by decide +kernel
theorem d3_44 : decode jdk_42_method_149_code 44 = .ok (.iload_n 3, 1) := by decide +kernel
theorem d3_45 : decode jdk_42_method_149_code 45 = .ok (.invokestatic 47, 3) := by decide +kernel
theorem pd_2 : parseMethodDescriptor "([BI)B" = some ⟨[(.array .byte), .int], some .byte⟩ := by decide +kernel
theorem d3_48 : decode jdk_42_method_149_code 48 = .ok (.putfield 15, 3) := by decide +kernel
theorem d3_51 : decode jdk_42_method_149_code 51 = .ok (.aload_n 0, 1) := by decide +kernel
theorem d3_52 : decode jdk_42_method_149_code 52 = .ok (.aload 5, 2) := by decide +kernel
theorem d3_54 : decode jdk_42_method_149_code 54 = .ok (.putfield 9, 3) := by decide +kernel
theorem d3_57 : decode jdk_42_method_149_code 57 = .ok (.return_, 1) := by decide +kernel
theorem pn_init4 : plainFor (⟨"java/lang/String", "<init>", "([CIILjava/lang/Void;)V"⟩ : MethodName) = true := by first | exact plainFor_of_name (by first | (simp [plainName, overriddenIn]; done) | decide +kernel) | decide +kernel
set_option maxRecDepth 65536 in
set_option maxHeartbeats 40000000 in
theorem c_init4 {l : Launch} {Z : State} {a0 : Array Value} {EL : List (String × Nat)} (g : GC Z a0 EL) (a sa : Addr) (ks : ClassId) (ch : Int32) (hch : ¬ (255 : Int32) < ch) (cs : Int32) (hcs : ¬ cs = 0) (hS : Sta Z Z.heap "java/lang/String" "COMPACT_STRINGS" "Z" (.int cs)) : Con l Z EL (⟨"java/lang/String", "<init>", "([CIILjava/lang/Void;)V"⟩ : MethodName) jdk_42_method_149_code 6 none { frames := 2, cells := 1, slots := 1, locals := 35 } [(.ref a), (.ref sa), (.int (0 : Int32)), (.int (1 : Int32)), .null] [o_Str a .null (.int (0 : Int32)), (sa, true, .inr (ks, .char, (1 : Int32), [(.int ch)], (.int (0 : Int32))))] (fun v W' => v = none ∧ W' = []) := by
  refine Con.mk g pn_init4 (Ls := #[.val (.ref a), .val (.ref sa), .val (.int (0 : Int32)), .val (.int (1 : Int32)), .val .null, .unset]) (fun m => by first | (simp [entryFrame, mkF, argsToLocals, Value.category]; done) | rfl) ?_
  intro p e s m below meth c T0 F J0
  refine p_aload_n J0 d3_0 rfl rfl 1 rfl ?_
  refine i_initO J0 d3_1 (mt (i := 15) rfl) (mt (i := 16) rfl) (mt (i := 17) rfl) rfl (by decide) (by show (12 : Nat) ≤ _; decide) 4 rfl fun T13 J14 => ?_
  refine p_iload_n J14 d3_4 rfl 5 rfl ?_
  refine p_if_y J14 d3_5 (by decide) 27 (by decide) (by decide) ?_
  refine i_getS J14 d3_27 (mt (i := 18) rfl) Via.refl hS 30 rfl fun T15 J16 => ?_
  refine p_if_n J16 d3_30 ((if0 _ _).trans (feq hcs).1) 33 rfl ?_
  refine p_aload_n J16 d3_33 rfl rfl 34 rfl ?_
  refine p_iload_n J16 d3_34 rfl 35 rfl ?_
  refine p_iload_n J16 d3_35 rfl 36 rfl ?_
  refine i_static J16 d3_36 (mt (i := 19) rfl) (mt (i := 20) rfl) (mt (i := 21) rfl) (mt (i := 22) rfl) (by decide) (lenOf pd_1 rfl) (c_comp3 g sa ks ch hch) [1] [0] 2 (by decide) (lenLe F 2 rfl) rfl 0 (by decide) (by decide) (by decide) (by decide) rfl (by show (0 : Nat) ≤ _; decide) _ rfl 1 1 rfl rfl 39 rfl fun v20 W21 T17 hQ19 J18 => ?_
  obtain ⟨d, kd, x, rfl, rfl⟩ := hQ19
  have J22 := J18.norm (W' := (sa, true, .inr (ks, .char, (1 : Int32), [(.int ch)], (.int (0 : Int32)))) :: (d, true, .inr (kd, .byte, (1 : Int32), [(.int x)], (.int (0 : Int32)))) :: o_Str a .null (.int (0 : Int32)) :: F) rfl
  show Run _ _ _ _ (State.setTop _ (mkF m 39 #[.val (.ref a), .val (.ref sa), .val (.int (0 : Int32)), .val (.int (1 : Int32)), .val .null, .unset] [(.ref d)]))
  refine p_astore J22 #[.val (.ref a), .val (.ref sa), .val (.int (0 : Int32)), .val (.int (1 : Int32)), .val .null, .val (.ref d)] d3_39 rfl rfl 41 rfl ?_
  refine p_aload_n J22 d3_41 rfl rfl 42 rfl ?_
  refine p_aload J22 d3_42 rfl rfl 44 rfl ?_
  refine p_iload_n J22 d3_44 rfl 45 rfl ?_
  refine i_static J22 d3_45 (mt (i := 27) rfl) (mt (i := 28) rfl) (mt (i := 21) rfl) (mt (i := 29) rfl) (by decide) (lenOf pd_2 rfl) (c_coder g d kd x) [1] [0, 2] 3 (by decide) (lenLe F 3 rfl) rfl 1 (by decide) (by decide) (by decide) (by decide) rfl (by show (1 : Nat) ≤ _; decide) _ rfl 1 1 rfl rfl 48 rfl fun v26 W27 T23 hQ25 J24 => ?_
  obtain ⟨rfl, rfl⟩ := hQ25
  have J28 := J24.norm (W' := (d, true, .inr (kd, .byte, (1 : Int32), [(.int x)], (.int (0 : Int32)))) :: (sa, true, .inr (ks, .char, (1 : Int32), [(.int ch)], (.int (0 : Int32)))) :: o_Str a .null (.int (0 : Int32)) :: F) rfl
  show Run _ _ _ _ (State.setTop _ (mkF m 48 #[.val (.ref a), .val (.ref sa), .val (.int (0 : Int32)), .val (.int (1 : Int32)), .val .null, .val (.ref d)] [(.int (0 : Int32)), (.ref a)]))
  refine i_put J28 d3_48 (mt (i := 30) rfl) Via.refl 2 1 rfl rfl sd_Str (Or.inr ⟨(mt (i := 31) rfl), rfl, rfl⟩) (mt (i := 6) rfl) (ty := .byte) (by decide) rfl rfl 51 rfl ((d, true, .inr (kd, .byte, (1 : Int32), [(.int x)], (.int (0 : Int32)))) :: (sa, true, .inr (ks, .char, (1 : Int32), [(.int ch)], (.int (0 : Int32)))) :: o_Str a .null (.int (0 : Int32)) :: F) rfl fun T29 J30 => ?_
  refine p_aload_n J30 d3_51 rfl rfl 52 rfl ?_
  refine p_aload J30 d3_52 rfl rfl 54 rfl ?_
  refine i_put J30 d3_54 (mt (i := 32) rfl) Via.refl 2 0 rfl rfl sd_Str (Or.inr ⟨(mt (i := 33) rfl), rfl, rfl⟩) (mt (i := 6) rfl) (ty := (.array .byte)) (by decide) rfl rfl 57 rfl ((d, true, .inr (kd, .byte, (1 : Int32), [(.int x)], (.int (0 : Int32)))) :: (sa, true, .inr (ks, .char, (1 : Int32), [(.int ch)], (.int (0 : Int32)))) :: o_Str a (.ref d) (.int (0 : Int32)) :: F) rfl fun T31 J32 => ?_
  have J33 := J32.weak [] 3 (by decide) (lenLe F 3 rfl) (W' := F) rfl
  exact r_void J33 d3_57 rfl (by decide) (by decide) (Wf := []) rfl ⟨rfl, rfl⟩
theorem d3_8 : decode jdk_42_method_149_code 8 = .ok (.aload_n 0, 1) := by decide +kernel
theorem d3_9 : decode jdk_42_method_149_code 9 = .ok (.ldc 7, 2) := by decide +kernel
theorem d3_11 : decode jdk_42_method_149_code 11 = .ok (.getfield 9, 3) := by decide +kernel
theorem d3_14 : decode jdk_42_method_149_code 14 = .ok (.putfield 9, 3) := by decide +kernel
theorem d3_17 : decode jdk_42_method_149_code 17 = .ok (.aload_n 0, 1) := by decide +kernel
theorem d3_18 : decode jdk_42_method_149_code 18 = .ok (.ldc 7, 2) := by decide +kernel
theorem d3_20 : decode jdk_42_method_149_code 20 = .ok (.getfield 15, 3) := by decide +kernel
theorem d3_23 : decode jdk_42_method_149_code 23 = .ok (.putfield 15, 3) := by decide +kernel
theorem d3_26 : decode jdk_42_method_149_code 26 = .ok (.return_, 1) := by decide +kernel
theorem pn_init4e : plainFor (⟨"java/lang/String", "<init>", "([CIILjava/lang/Void;)V"⟩ : MethodName) = true := by first | exact plainFor_of_name (by first | (simp [plainName, overriddenIn]; done) | decide +kernel) | decide +kernel
set_option maxRecDepth 65536 in
set_option maxHeartbeats 40000000 in
theorem c_init4e {l : Launch} {Z : State} {a0 : Array Value} {EL : List (String × Nat)} (g : GC Z a0 EL) (hEL : EL = [("java/lang/String", 7)]) (a sa : Addr) (ks : ClassId) : Con l Z EL (⟨"java/lang/String", "<init>", "([CIILjava/lang/Void;)V"⟩ : MethodName) jdk_42_method_149_code 6 none { frames := 1, cells := 4, slots := 8, locals := 12 } [(.ref a), (.ref sa), (.int (0 : Int32)), (.int (0 : Int32)), .null] [o_Str a .null (.int (0 : Int32)), (sa, true, .inr (ks, .char, (0 : Int32), [], (.int (0 : Int32))))] (fun v W' => v = none ∧ W' = []) := by
  refine Con.mk g pn_init4e (Ls := #[.val (.ref a), .val (.ref sa), .val (.int (0 : Int32)), .val (.int (0 : Int32)), .val .null, .unset]) (fun m => by first | (simp [entryFrame, mkF, argsToLocals, Value.category]; done) | rfl) ?_
  intro p e s m below meth c T0 F J0
  refine p_aload_n J0 d3_0 rfl rfl 1 rfl ?_
  refine i_initO J0 d3_1 (mt (i := 15) rfl) (mt (i := 16) rfl) (mt (i := 17) rfl) rfl (by decide) (by show (12 : Nat) ≤ _; decide) 4 rfl fun T34 J35 => ?_
  refine p_iload_n J35 d3_4 rfl 5 rfl ?_
  refine p_if_n J35 d3_5 (by decide) 8 rfl ?_
  refine p_aload_n J35 d3_8 rfl rfl 9 rfl ?_
  refine i_ldcS J35 d3_9 (mt (i := 53) rfl) (by rw [hEL]; exact List.mem_of_getElem? (i := 0) rfl) (vs := []) (z := (0 : Int32)) (by decide) (by decide) (by decide) 0 (by decide) (by decide) (by decide) (by decide) 2 4 rfl rfl 11 rfl fun a36 a39 k40 T37 J38 => ?_
  refine i_get J38 d3_11 (mt (i := 32) rfl) Via.refl 0 0 rfl rfl 14 rfl fun T41 J42 => ?_
  refine i_put J42 d3_14 (mt (i := 32) rfl) Via.refl 2 0 rfl rfl sd_Str (Or.inr ⟨(mt (i := 33) rfl), rfl, rfl⟩) (mt (i := 6) rfl) (ty := (.array .byte)) (by decide) rfl rfl 17 rfl ((a36, false, (o_Str a36 (.ref a39) (.int (0 : Int32))).2.2) :: (a39, false, .inr (k40, .byte, (0 : Int32), [], (.int (0 : Int32)))) :: o_Str a (.ref a39) (.int (0 : Int32)) :: (sa, true, .inr (ks, .char, (0 : Int32), [], (.int (0 : Int32)))) :: F) rfl fun T43 J44 => ?_
  refine p_aload_n J44 d3_17 rfl rfl 18 rfl ?_
  refine i_ldcS J44 d3_18 (mt (i := 53) rfl) (by rw [hEL]; exact List.mem_of_getElem? (i := 0) rfl) (vs := []) (z := (0 : Int32)) (by decide) (by decide) (by decide) 0 (by decide) (by decide) (by decide) (by decide) 4 8 rfl rfl 20 rfl fun a45 a48 k49 T46 J47 => ?_
  refine i_get J47 d3_20 (mt (i := 30) rfl) Via.refl 0 1 rfl rfl 23 rfl fun T50 J51 => ?_
  refine i_put J51 d3_23 (mt (i := 30) rfl) Via.refl 4 1 rfl rfl sd_Str (Or.inr ⟨(mt (i := 31) rfl), rfl, rfl⟩) (mt (i := 6) rfl) (ty := .byte) (by decide) rfl rfl 26 rfl ((a45, false, (o_Str a45 (.ref a48) (.int (0 : Int32))).2.2) :: (a48, false, .inr (k49, .byte, (0 : Int32), [], (.int (0 : Int32)))) :: (a36, false, (o_Str a36 (.ref a39) (.int (0 : Int32))).2.2) :: (a39, false, .inr (k40, .byte, (0 : Int32), [], (.int (0 : Int32)))) :: o_Str a (.ref a39) (.int (0 : Int32)) :: (sa, true, .inr (ks, .char, (0 : Int32), [], (.int (0 : Int32)))) :: F) rfl fun T52 J53 => ?_
  have J54 := J53.weak [] 6 (by decide) (lenLe F 6 rfl) (W' := F) rfl
  exact r_void J54 d3_26 rfl (by decide) (by decide) (Wf := []) rfl ⟨rfl, rfl⟩
theorem d4_0 : decode jdk_42_method_3_code 0 = .ok (.aload_n 0, 1) := by decide +kernel
theorem d4_1 : decode jdk_42_method_3_code 1 = .ok (.aload_n 1, 1) := by decide +kernel
theorem d4_2 : decode jdk_42_method_3_code 2 = .ok (.iconst 0, 1) := by decide +kernel
theorem d4_3 : decode jdk_42_method_3_code 3 = .ok (.aload_n 1, 1) := by decide +kernel
theorem d4_4 : decode jdk_42_method_3_code 4 = .ok (.arraylength, 1) := by decide +kernel
theorem d4_5 : decode jdk_42_method_3_code 5 = .ok (.aconst_null, 1) := by decide +kernel
theorem d4_6 : decode jdk_42_method_3_code 6 = .ok (.invokespecial 27, 3) := by decide +kernel
theorem pd_3 : parseMethodDescriptor "([CIILjava/lang/Void;)V" = some ⟨[(.array .char), .int, .int, (.object "java/lang/Void")], none⟩ := by decide +kernel
theorem d4_9 : decode jdk_42_method_3_code 9 = .ok (.return_, 1) := by decide +kernel
theorem pn_init1 : plainFor (⟨"java/lang/String", "<init>", "([C)V"⟩ : MethodName) = true := by first | exact plainFor_of_name (by first | (simp [plainName, overriddenIn]; done) | decide +kernel) | decide +kernel
set_option maxRecDepth 65536 in
set_option maxHeartbeats 40000000 in
theorem c_init1 {l : Launch} {Z : State} {a0 : Array Value} {EL : List (String × Nat)} (g : GC Z a0 EL) (a sa : Addr) (ks : ClassId) (ch : Int32) (hch : ¬ (255 : Int32) < ch) (cs : Int32) (hcs : ¬ cs = 0) (hS : Sta Z Z.heap "java/lang/String" "COMPACT_STRINGS" "Z" (.int cs)) : Con l Z EL (⟨"java/lang/String", "<init>", "([C)V"⟩ : MethodName) jdk_42_method_3_code 2 none { frames := 3, cells := 1, slots := 1, locals := 52 } [(.ref a), (.ref sa)] [o_Str a .null (.int (0 : Int32)), (sa, true, .inr (ks, .char, (1 : Int32), [(.int ch)], (.int (0 : Int32))))] (fun v W' => v = none ∧ W' = []) := by
  refine Con.mk g pn_init1 (Ls := #[.val (.ref a), .val (.ref sa)]) (fun m => by first | (simp [entryFrame, mkF, argsToLocals, Value.category]; done) | rfl) ?_
  intro p e s m below meth c T0 F J0
  refine p_aload_n J0 d4_0 rfl rfl 1 rfl ?_
  refine p_aload_n J0 d4_1 rfl rfl 2 rfl ?_
  refine p_iconst J0 d4_2 (z := (0 : Int32)) rfl 3 rfl ?_
  refine p_aload_n J0 d4_3 rfl rfl 4 rfl ?_
  refine i_len J0 d4_4 1 rfl 5 rfl ?_
  refine p_aconst_null J0 d4_5 6 rfl ?_
  refine i_special J0 d4_6 rfl (mt (i := 11) rfl) (mt (i := 12) rfl) (mt (i := 7) rfl) (mt (i := 14) rfl) (by decide) (lenOf pd_3 rfl) (c_init4 g a sa ks ch hch cs hcs hS) [0, 1] [] 2 (by decide) (lenLe F 2 rfl) rfl 0 (by decide) (by decide) (by decide) (by decide) rfl (by show (0 : Nat) ≤ _; decide) _ rfl 1 1 rfl rfl 9 rfl fun v58 W59 T55 hQ57 J56 => ?_
  obtain ⟨rfl, rfl⟩ := hQ57
  have J60 := J56.norm (W' := F) rfl
  show Run _ _ _ _ (State.setTop _ (mkF m 9 #[.val (.ref a), .val (.ref sa)] []))
  exact r_void J60 d4_9 rfl (by decide) (by decide) (Wf := []) rfl ⟨rfl, rfl⟩
theorem pn_init1e : plainFor (⟨"java/lang/String", "<init>", "([C)V"⟩ : MethodName) = true := by first | exact plainFor_of_name (by first | (simp [plainName, overriddenIn]; done) | decide +kernel) | decide +kernel
set_option maxRecDepth 65536 in
set_option maxHeartbeats 40000000 in
theorem c_init1e {l : Launch} {Z : State} {a0 : Array Value} {EL : List (String × Nat)} (g : GC Z a0 EL) (hEL : EL = [("java/lang/String", 7)]) (a sa : Addr) (ks : ClassId) : Con l Z EL (⟨"java/lang/String", "<init>", "([C)V"⟩ : MethodName) jdk_42_method_3_code 2 none { frames := 2, cells := 4, slots := 8, locals := 29 } [(.ref a), (.ref sa)] [o_Str a .null (.int (0 : Int32)), (sa, true, .inr (ks, .char, (0 : Int32), [], (.int (0 : Int32))))] (fun v W' => v = none ∧ W' = []) := by
  refine Con.mk g pn_init1e (Ls := #[.val (.ref a), .val (.ref sa)]) (fun m => by first | (simp [entryFrame, mkF, argsToLocals, Value.category]; done) | rfl) ?_
  intro p e s m below meth c T0 F J0
  refine p_aload_n J0 d4_0 rfl rfl 1 rfl ?_
  refine p_aload_n J0 d4_1 rfl rfl 2 rfl ?_
  refine p_iconst J0 d4_2 (z := (0 : Int32)) rfl 3 rfl ?_
  refine p_aload_n J0 d4_3 rfl rfl 4 rfl ?_
  refine i_len J0 d4_4 1 rfl 5 rfl ?_
  refine p_aconst_null J0 d4_5 6 rfl ?_
  refine i_special J0 d4_6 rfl (mt (i := 11) rfl) (mt (i := 12) rfl) (mt (i := 7) rfl) (mt (i := 14) rfl) (by decide) (lenOf pd_3 rfl) (c_init4e g hEL a sa ks) [0, 1] [] 2 (by decide) (lenLe F 2 rfl) rfl 0 (by decide) (by decide) (by decide) (by decide) rfl (by show (0 : Nat) ≤ _; decide) _ rfl 4 8 rfl rfl 9 rfl fun v64 W65 T61 hQ63 J62 => ?_
  obtain ⟨rfl, rfl⟩ := hQ63
  have J66 := J62.norm (W' := F) rfl
  show Run _ _ _ _ (State.setTop _ (mkF m 9 #[.val (.ref a), .val (.ref sa)] []))
  exact r_void J66 d4_9 rfl (by decide) (by decide) (Wf := []) rfl ⟨rfl, rfl⟩
theorem le255 (x : Int32) : ¬ (255 : Int32) < (x &&& 255) := by
  have := c_and x 255 (by decide)
  rw [Int32.lt_iff_toInt_lt]
  have e : (255 : Int32).toInt = 255 := by decide
  omega
theorem d5_0 : decode method_2_code 0 = .ok (.iload_n 1, 1) := by decide +kernel
theorem d5_1 : decode method_2_code 1 = .ok (.ifCond .eq 5, 3) := by decide +kernel
theorem d5_6 : decode method_2_code 6 = .ok (.iload_n 0, 1) := by decide +kernel
theorem d5_7 : decode method_2_code 7 = .ok (.bipush 8, 2) := by decide +kernel
theorem d5_9 : decode method_2_code 9 = .ok (.iushr, 1) := by decide +kernel
theorem d5_10 : decode method_2_code 10 = .ok (.iconst 1, 1) := by decide +kernel
theorem d5_11 : decode method_2_code 11 = .ok (.iand, 1) := by decide +kernel
theorem d5_12 : decode method_2_code 12 = .ok (.ifCond .eq 14, 3) := by decide +kernel
theorem d5_26 : decode method_2_code 26 = .ok (.iconst 1, 1) := by decide +kernel
theorem d5_27 : decode method_2_code 27 = .ok (.newarray .char, 2) := by decide +kernel
theorem d5_29 : decode method_2_code 29 = .ok (.astore_n 2, 1) := by decide +kernel
theorem d5_30 : decode method_2_code 30 = .ok (.aload_n 2, 1) := by decide +kernel
theorem d5_31 : decode method_2_code 31 = .ok (.iconst 0, 1) := by decide +kernel
theorem d5_32 : decode method_2_code 32 = .ok (.iload_n 0, 1) := by decide +kernel
theorem d5_33 : decode method_2_code 33 = .ok (.sipush 255, 3) := by decide +kernel
theorem d5_36 : decode method_2_code 36 = .ok (.iand, 1) := by decide +kernel
theorem d5_37 : decode method_2_code 37 = .ok (.i2c, 1) := by decide +kernel
theorem d5_38 : decode method_2_code 38 = .ok (.castore, 1) := by decide +kernel
theorem d5_39 : decode method_2_code 39 = .ok (.new 7, 3) := by decide +kernel
theorem d5_42 : decode method_2_code 42 = .ok (.dup, 1) := by decide +kernel
theorem d5_43 : decode method_2_code 43 = .ok (.aload_n 2, 1) := by decide +kernel
theorem d5_44 : decode method_2_code 44 = .ok (.invokespecial 9, 3) := by decide +kernel
theorem pd_4 : parseMethodDescriptor "([C)V" = some ⟨[(.array .char)], none⟩ := by decide +kernel
theorem d5_47 : decode method_2_code 47 = .ok (.areturn, 1) := by decide +kernel
theorem d5_15 : decode method_2_code 15 = .ok (.new 7, 3) := by decide +kernel
theorem d5_18 : decode method_2_code 18 = .ok (.dup, 1) := by decide +kernel
theorem d5_19 : decode method_2_code 19 = .ok (.iconst 0, 1) := by decide +kernel
theorem d5_20 : decode method_2_code 20 = .ok (.newarray .char, 2) := by decide +kernel
theorem d5_22 : decode method_2_code 22 = .ok (.invokespecial 9, 3) := by decide +kernel
theorem d5_25 : decode method_2_code 25 = .ok (.areturn, 1) := by decide +kernel
theorem d5_4 : decode method_2_code 4 = .ok (.aconst_null, 1) := by decide +kernel
theorem d5_5 : decode method_2_code 5 = .ok (.areturn, 1) := by decide +kernel
theorem pn_mk : plainFor (⟨"com/example/ubic/ubic/service/ShortfallNotePinLaw", "mk", "(IZ)Ljava/lang/String;"⟩ : MethodName) = true := by first | exact plainFor_of_name (by first | (simp [plainName, overriddenIn]; done) | decide +kernel) | decide +kernel
set_option maxRecDepth 65536 in
set_option maxHeartbeats 40000000 in
theorem c_mk {l : Launch} {Z : State} {a0 : Array Value} {EL : List (String × Nat)} (g : GC Z a0 EL) (hEL : EL = [("java/lang/String", 7)]) (ch f : Int32) (cs : Int32) (hcs : ¬ cs = 0) (hS : Sta Z Z.heap "java/lang/String" "COMPACT_STRINGS" "Z" (.int cs)) : Con l Z EL (⟨"com/example/ubic/ubic/service/ShortfallNotePinLaw", "mk", "(IZ)Ljava/lang/String;"⟩ : MethodName) method_2_code 3 (some (.object "java/lang/String")) { frames := 4, cells := 6, slots := 12, locals := 66 } [(.int ch), (.int f)] [] (fun v W' => ∃ r : Value, v = some r ∧ r.isRef = true ∧ W' = []) := by
  refine Con.mk g pn_mk (Ls := #[.val (.int ch), .val (.int f), .unset]) (fun m => by first | (simp [entryFrame, mkF, argsToLocals, Value.category]; done) | rfl) ?_
  intro p e s m below meth c T0 F J0
  refine p_iload_n J0 d5_0 rfl 1 rfl ?_
  by_cases hf : f = 0
  · refine p_if_y J0 d5_1 ((if0 _ _).trans (teq hf).1) 6 (by decide) (by decide) ?_
    refine p_iload_n J0 d5_6 rfl 7 rfl ?_
    refine p_bipush J0 d5_7 (z := (8 : Int32)) rfl 9 rfl ?_
    refine p_iushr J0 d5_9 (z := ((ch.toUInt32 >>> ((8 : Int32) &&& 31).toUInt32).toInt32)) rfl 10 rfl ?_
    refine p_iconst J0 d5_10 (z := (1 : Int32)) rfl 11 rfl ?_
    refine p_iand J0 d5_11 (z := (((ch.toUInt32 >>> ((8 : Int32) &&& 31).toUInt32).toInt32) &&& (1 : Int32))) rfl 12 rfl ?_
    by_cases ht : (((ch.toUInt32 >>> ((8 : Int32) &&& 31).toUInt32).toInt32) &&& (1 : Int32)) = 0
    · refine p_if_y J0 d5_12 ((if0 _ _).trans (teq ht).1) 26 (by decide) (by decide) ?_
      refine p_iconst J0 d5_26 (z := (1 : Int32)) rfl 27 rfl ?_
      refine i_newP J0 d5_27 (ty := .char) rfl nofun (mt (i := 4) rfl) (by decide) 1 (by decide) (by decide) (by decide) (by decide) [(.int (0 : Int32))] (pad_rep [] (.int (0 : Int32)) 1) (dv := (.int (0 : Int32))) rfl 1 1 rfl rfl 29 rfl fun a67 k68 T69 J70 => ?_
      refine p_astore_n J70 #[.val (.int ch), .val (.int f), .val (.ref a67)] d5_29 rfl rfl 30 rfl ?_
      refine p_aload_n J70 d5_30 rfl rfl 31 rfl ?_
      refine p_iconst J70 d5_31 (z := (0 : Int32)) rfl 32 rfl ?_
      refine p_iload_n J70 d5_32 rfl 33 rfl ?_
      refine p_sipush J70 d5_33 (z := (255 : Int32)) rfl 36 rfl ?_
      refine p_iand J70 d5_36 (z := (ch &&& (255 : Int32))) rfl 37 rfl ?_
      refine p_i2c J70 d5_37 (z := (ch &&& 255)) (i2c_mask ch) 38 rfl ?_
      refine i_castore J70 d5_38 0 0 rfl (by decide) (by decide) rfl (by decide) (i2c_mask ch) 39 rfl ((a67, true, .inr (k68, .char, (1 : Int32), [(.int (ch &&& 255))], (.int (0 : Int32)))) :: F) rfl fun T71 J72 => ?_
      refine i_new J72 d5_39 (mt (i := 5) rfl) (mt (i := 6) rfl) (mt (i := 7) rfl) (by decide) (by decide) df_Str 2 5 rfl rfl 42 rfl fun a73 T74 J75 => ?_
      refine p_dup J75 d5_42 rfl 43 rfl ?_
      refine p_aload_n J75 d5_43 rfl rfl 44 rfl ?_
      refine i_special J75 d5_44 rfl (mt (i := 8) rfl) (mt (i := 9) rfl) (mt (i := 7) rfl) (mt (i := 10) rfl) (by decide) (lenOf pd_4 rfl) (c_init1 g a73 a67 k68 (ch &&& 255) (le255 ch) cs hcs hS) [0, 1] [] 2 (by decide) (lenLe F 2 rfl) rfl 1 (by decide) (by decide) (by decide) (by decide) rfl (by show (1 : Nat) ≤ _; decide) _ rfl 3 6 rfl rfl 47 rfl fun v79 W80 T76 hQ78 J77 => ?_
      obtain ⟨rfl, rfl⟩ := hQ78
      have J81 := J77.norm (W' := F) rfl
      show Run _ _ _ _ (State.setTop _ (mkF m 47 #[.val (.int ch), .val (.int f), .val (.ref a67)] [(.ref a73)]))
      exact r_val J81 d5_47 (t := (.object "java/lang/String")) rfl rfl (Or.inr (Or.inr (Or.inr (Or.inr ⟨rfl, rfl, rfl⟩)))) (by decide) (by decide) (Wf := []) rfl ⟨_, rfl, rfl, rfl⟩
    · refine p_if_n J0 d5_12 ((if0 _ _).trans (feq ht).1) 15 rfl ?_
      refine i_new J0 d5_15 (mt (i := 5) rfl) (mt (i := 6) rfl) (mt (i := 7) rfl) (by decide) (by decide) df_Str 1 4 rfl rfl 18 rfl fun a82 T83 J84 => ?_
      refine p_dup J84 d5_18 rfl 19 rfl ?_
      refine p_iconst J84 d5_19 (z := (0 : Int32)) rfl 20 rfl ?_
      refine i_newP J84 d5_20 (ty := .char) rfl nofun (mt (i := 4) rfl) (by decide) 0 (by decide) (by decide) (by decide) (by decide) [] (pad_rep [] (.int (0 : Int32)) 0) (dv := (.int (0 : Int32))) rfl 2 4 rfl rfl 22 rfl fun a85 k86 T87 J88 => ?_
      refine i_special J88 d5_22 rfl (mt (i := 8) rfl) (mt (i := 9) rfl) (mt (i := 7) rfl) (mt (i := 10) rfl) (by decide) (lenOf pd_4 rfl) (c_init1e g hEL a82 a85 k86) [1, 0] [] 2 (by decide) (lenLe F 2 rfl) rfl 1 (by decide) (by decide) (by decide) (by decide) rfl (by show (1 : Nat) ≤ _; decide) _ rfl 6 12 rfl rfl 25 rfl fun v92 W93 T89 hQ91 J90 => ?_
      obtain ⟨rfl, rfl⟩ := hQ91
      have J94 := J90.norm (W' := F) rfl
      show Run _ _ _ _ (State.setTop _ (mkF m 25 #[.val (.int ch), .val (.int f), .unset] [(.ref a82)]))
      exact r_val J94 d5_25 (t := (.object "java/lang/String")) rfl rfl (Or.inr (Or.inr (Or.inr (Or.inr ⟨rfl, rfl, rfl⟩)))) (by decide) (by decide) (Wf := []) rfl ⟨_, rfl, rfl, rfl⟩
  · refine p_if_n J0 d5_1 ((if0 _ _).trans (feq hf).1) 4 rfl ?_
    refine p_aconst_null J0 d5_4 5 rfl ?_
    exact r_val J0 d5_5 (t := (.object "java/lang/String")) rfl rfl (Or.inr (Or.inr (Or.inr (Or.inr ⟨rfl, rfl, rfl⟩)))) (by decide) (by decide) (Wf := []) rfl ⟨_, rfl, rfl, rfl⟩
theorem d6_0 : decode prog_171_method_1_code 0 = .ok (.aload_n 0, 1) := by decide +kernel
theorem d6_1 : decode prog_171_method_1_code 1 = .ok (.invokespecial 1, 3) := by decide +kernel
theorem d6_4 : decode prog_171_method_1_code 4 = .ok (.return_, 1) := by decide +kernel
theorem pn_sfinit : plainFor (⟨"com/example/ubic/ubic/service/Shortfall", "<init>", "()V"⟩ : MethodName) = true := by first | exact plainFor_of_name (by first | (simp [plainName, overriddenIn]; done) | decide +kernel) | decide +kernel
set_option maxRecDepth 65536 in
set_option maxHeartbeats 40000000 in
theorem c_sfinit {l : Launch} {Z : State} {a0 : Array Value} {EL : List (String × Nat)} (g : GC Z a0 EL) (sf : Addr) : Con l Z EL (⟨"com/example/ubic/ubic/service/Shortfall", "<init>", "()V"⟩ : MethodName) prog_171_method_1_code 1 none { frames := 1, cells := 0, slots := 0, locals := 12 } [(.ref sf)] [] (fun v W' => v = none ∧ W' = []) := by
  refine Con.mk g pn_sfinit (Ls := #[.val (.ref sf)]) (fun m => by first | (simp [entryFrame, mkF, argsToLocals, Value.category]; done) | rfl) ?_
  intro p e s m below meth c T0 F J0
  refine p_aload_n J0 d6_0 rfl rfl 1 rfl ?_
  refine i_initO J0 d6_1 (mt (i := 40) rfl) (mt (i := 16) rfl) (mt (i := 17) rfl) rfl (by decide) (by show (12 : Nat) ≤ _; decide) 4 rfl fun T95 J96 => ?_
  exact r_void J96 d6_4 rfl (by decide) (by decide) (Wf := []) rfl ⟨rfl, rfl⟩
theorem d7_0 : decode prog_171_method_4_code 0 = .ok (.aload_n 0, 1) := by decide +kernel
theorem d7_1 : decode prog_171_method_4_code 1 = .ok (.getfield 7, 3) := by decide +kernel
theorem d7_4 : decode prog_171_method_4_code 4 = .ok (.areturn, 1) := by decide +kernel
theorem pn_reason : plainFor (⟨"com/example/ubic/ubic/service/Shortfall", "reason", "()Ljava/lang/String;"⟩ : MethodName) = true := by first | exact plainFor_of_name (by first | (simp [plainName, overriddenIn]; done) | decide +kernel) | decide +kernel
set_option maxRecDepth 65536 in
set_option maxHeartbeats 40000000 in
theorem c_reason {l : Launch} {Z : State} {a0 : Array Value} {EL : List (String × Nat)} (g : GC Z a0 EL) (sf : Addr) (r : Value) (hr : r.isRef = true) : Con l Z EL (⟨"com/example/ubic/ubic/service/Shortfall", "reason", "()Ljava/lang/String;"⟩ : MethodName) prog_171_method_4_code 1 (some (.object "java/lang/String")) { frames := 0, cells := 0, slots := 0, locals := 0 } [(.ref sf)] [o_Sf sf r] (fun v W' => v = some r ∧ W' = [o_Sf sf r]) := by
  refine Con.mk g pn_reason (Ls := #[.val (.ref sf)]) (fun m => by first | (simp [entryFrame, mkF, argsToLocals, Value.category]; done) | rfl) ?_
  intro p e s m below meth c T0 F J0
  refine p_aload_n J0 d7_0 rfl rfl 1 rfl ?_
  refine i_get J0 d7_1 (mt (i := 46) rfl) Via.refl 0 0 rfl rfl 4 rfl fun T97 J98 => ?_
  exact r_val J98 d7_4 (t := (.object "java/lang/String")) rfl (narR hr) (Or.inr (Or.inr (Or.inr (Or.inr ⟨rfl, rfl, hr⟩)))) (by decide) (by decide) (Wf := [o_Sf sf r]) rfl ⟨rfl, rfl⟩
def nt (r x : Value) : Value := match r with | .null => x | _ => r
theorem nt_ref {r x : Value} (h1 : r.isRef = true) (h2 : x.isRef = true) : (nt r x).isRef = true := by rcases ref_cases h1 with rfl | ⟨a, rfl⟩ <;> assumption
theorem d8_0 : decode prog_171_method_2_code 0 = .ok (.aload_n 0, 1) := by decide +kernel
theorem d8_1 : decode prog_171_method_2_code 1 = .ok (.getfield 7, 3) := by decide +kernel
theorem d8_4 : decode prog_171_method_2_code 4 = .ok (.ifnonnull 8, 3) := by decide +kernel
theorem d8_7 : decode prog_171_method_2_code 7 = .ok (.aload_n 0, 1) := by decide +kernel
theorem d8_8 : decode prog_171_method_2_code 8 = .ok (.aload_n 1, 1) := by decide +kernel
theorem d8_9 : decode prog_171_method_2_code 9 = .ok (.putfield 7, 3) := by decide +kernel
theorem d8_12 : decode prog_171_method_2_code 12 = .ok (.return_, 1) := by decide +kernel
theorem pn_note : plainFor (⟨"com/example/ubic/ubic/service/Shortfall", "note", "(Ljava/lang/String;)V"⟩ : MethodName) = true := by first | exact plainFor_of_name (by first | (simp [plainName, overriddenIn]; done) | decide +kernel) | decide +kernel
set_option maxRecDepth 65536 in
set_option maxHeartbeats 40000000 in
theorem c_note {l : Launch} {Z : State} {a0 : Array Value} {EL : List (String × Nat)} (g : GC Z a0 EL) (sf : Addr) (r q : Value) (hr : r.isRef = true) (hq : q.isRef = true) : Con l Z EL (⟨"com/example/ubic/ubic/service/Shortfall", "note", "(Ljava/lang/String;)V"⟩ : MethodName) prog_171_method_2_code 2 none { frames := 0, cells := 0, slots := 0, locals := 0 } [(.ref sf), q] [o_Sf sf r] (fun v W' => v = none ∧ W' = [o_Sf sf (nt r q)]) := by
  refine Con.mk g pn_note (Ls := #[.val (.ref sf), .val q]) (fun m => by rcases ref_cases hq with rfl | ⟨_, rfl⟩ <;> first | (simp [entryFrame, mkF, argsToLocals, Value.category]; done) | rfl) ?_
  intro p e s m below meth c T0 F J0
  refine p_aload_n J0 d8_0 rfl rfl 1 rfl ?_
  refine i_get J0 d8_1 (mt (i := 46) rfl) Via.refl 0 0 rfl rfl 4 rfl fun T99 J100 => ?_
  rcases ref_cases hr with rfl | ⟨ra, rfl⟩
  · refine p_ifnonnull_n J100 d8_4 7 rfl ?_
    refine p_aload_n J100 d8_7 rfl rfl 8 rfl ?_
    refine p_aload_n J100 d8_8 rfl hq 9 rfl ?_
    refine i_put J100 d8_9 (mt (i := 46) rfl) Via.refl 0 0 rfl rfl sd_Sf (Or.inl (mt (i := 47) rfl)) (mt (i := 35) rfl) (ty := (.object "java/lang/String")) (by decide) (narR hq) (fitR hq) 12 rfl (o_Sf sf q :: F) rfl fun T101 J102 => ?_
    exact r_void J102 d8_12 rfl (by decide) (by decide) (Wf := [o_Sf sf q]) rfl ⟨rfl, rfl⟩
  · refine p_ifnonnull_y J100 d8_4 12 (by decide) (by decide) ?_
    exact r_void J100 d8_12 rfl (by decide) (by decide) (Wf := [o_Sf sf (.ref ra)]) rfl ⟨rfl, rfl⟩
theorem pd_5 : parseMethodDescriptor "(Ljava/lang/String;)V" = some ⟨[(.object "java/lang/String")], none⟩ := by decide +kernel
theorem pd_6 : parseMethodDescriptor "()Ljava/lang/String;" = some ⟨[], some (.object "java/lang/String")⟩ := by decide +kernel
set_option maxRecDepth 65536 in
set_option maxHeartbeats 40000000 in
theorem sec_0 {l : Launch} {Z : State} {a0 : Array Value} {EL : List (String × Nat)} {LT : List (String × Nat × Addr)} {p : Program} {e : Env} {s : State} {m : MethodId} {args : Array Value} {below : List Frame} {meth : Method} {c : Code} {T : State} {cells slots : Nat} {F : List OB} {Pq : Outcome → State → Prop} (g : GC Z a0 EL) {f0 c1 c2 c3 kk : Int32} {ra rb rc r : Value} (ha : ra.isRef = true) (hb' : rb.isRef = true) (hc' : rc.isRef = true) (hr : r.isRef = true) {sf : Addr} (j : J l Z a0 EL LT x.cls code maxLocals ret x.name room_1 p e s m args below meth c T cells slots (o_Sf sf r :: F)) (hcl : cells ≤ room_1.cells) (hsl : slots ≤ room_1.slots)
    (k : ∀ r' T', r'.isRef = true → J l Z a0 EL LT x.cls code maxLocals ret x.name room_1 p e s m args below meth c T' cells slots (o_Sf sf r' :: F) → Run p.tables e below Pq (T'.setTop (mkF m 129 #[.val (.int f0), .val (.int c1), .val (.int c2), .val (.int c3), .val (.int kk), .val ra, .val rb, .val rc, .val (.ref sf), .val (.int (1 : Int32)), .val r'] []))) : Run p.tables e below Pq (T.setTop (mkF m 85 #[.val (.int f0), .val (.int c1), .val (.int c2), .val (.int c3), .val (.int kk), .val ra, .val rb, .val rc, .val (.ref sf), .val (.int (1 : Int32)), .val r] [])) := by
  refine p_iload j at_85 rfl 87 rfl ?_
  refine p_iconst j at_87 (z := (1 : Int32)) rfl 88 rfl ?_
  by_cases hk : kk < (1 : Int32)
  · refine p_icmp_y j at_88 (tlt hk).1 129 (by decide) (by decide) ?_
    exact k r _ hr j
  · refine p_icmp_n j at_88 (flt hk).1 91 rfl ?_
    refine p_aload j at_91 rfl rfl 93 rfl ?_
    refine p_aload j at_93 rfl ha 95 rfl ?_
    refine i_virtual j at_95 (mt (i := 48) rfl) (mt (i := 49) rfl) (nfSel (mt (i := 51) rfl)) (mt (i := 51) rfl) (mt (i := 50) rfl) (mt (i := 36) rfl) (mt (i := 52) rfl) (by decide) (lenOf pd_5 rfl) 0 rfl (c_note g sf r ra hr ha) [0] [] 1 (by decide) (lenLe F 1 rfl) rfl 0 (by decide) (by decide) hcl hsl rfl (by show (0 : Nat) ≤ _; decide) _ rfl cells slots rfl rfl 98 rfl fun v106 W107 T103 hQ105 J104 => ?_
    obtain ⟨rfl, rfl⟩ := hQ105
    have J108 := J104.norm (W' := o_Sf sf (nt r ra) :: F) rfl
    show Run _ _ _ _ (State.setTop _ (mkF m 98 #[.val (.int f0), .val (.int c1), .val (.int c2), .val (.int c3), .val (.int kk), .val ra, .val rb, .val rc, .val (.ref sf), .val (.int (1 : Int32)), .val r] []))
    refine p_aload J108 at_98 rfl hr 100 rfl ?_
    have hn := nt_ref hr ha
    rcases ref_cases hr with rfl | ⟨rr, rfl⟩
    · have j2 := J108.norm (W' := o_Sf sf ra :: F) rfl
      show Run _ _ _ _ (State.setTop _ (mkF m 100 #[.val (.int f0), .val (.int c1), .val (.int c2), .val (.int c3), .val (.int kk), .val ra, .val rb, .val rc, .val (.ref sf), .val (.int (1 : Int32)), .val .null] [.null]))
      refine p_ifnonnull_n j2 at_100 103 rfl ?_
      refine p_aload j2 at_103 rfl ha 105 rfl ?_
      refine p_astore j2 #[.val (.int f0), .val (.int c1), .val (.int c2), .val (.int c3), .val (.int kk), .val ra, .val rb, .val rc, .val (.ref sf), .val (.int (1 : Int32)), .val ra] at_105 ha (by rcases ref_cases ha with rfl | ⟨_, rfl⟩ <;> rfl) 107 rfl ?_
      refine p_iload j2 at_107 rfl 109 rfl ?_
      refine p_if_n j2 at_109 (by decide) 112 rfl ?_
      refine p_aload j2 at_112 rfl rfl 114 rfl ?_
      refine i_virtual j2 at_114 (mt (i := 41) rfl) (mt (i := 42) rfl) (nfSel (mt (i := 44) rfl)) (mt (i := 44) rfl) (mt (i := 43) rfl) (mt (i := 36) rfl) (mt (i := 45) rfl) (by decide) (lenOf pd_6 rfl) 0 rfl (c_reason g sf ra ha) [0] [] 1 (by decide) (lenLe F 1 rfl) rfl 0 (by decide) (by decide) hcl hsl rfl (by show (0 : Nat) ≤ _; decide) _ rfl cells slots rfl rfl 117 rfl fun v112 W113 T109 hQ111 J110 => ?_
      obtain ⟨rfl, rfl⟩ := hQ111
      have J114 := J110.norm (W' := o_Sf sf ra :: F) rfl
      show Run _ _ _ _ (State.setTop _ (mkF m 117 #[.val (.int f0), .val (.int c1), .val (.int c2), .val (.int c3), .val (.int kk), .val ra, .val rb, .val rc, .val (.ref sf), .val (.int (1 : Int32)), .val ra] [ra]))
      refine p_aload J114 at_117 rfl ha 119 rfl ?_
      refine p_acmp J114 ha ha at_119 (same := true) (decide_eq_true rfl) 122 (by decide) (by decide) ?_
      refine p_iconst J114 at_122 (z := (1 : Int32)) rfl 123 rfl ?_
      refine p_goto J114 at_123 127 (by decide) (by decide) ?_
      refine p_istore J114 #[.val (.int f0), .val (.int c1), .val (.int c2), .val (.int c3), .val (.int kk), .val ra, .val rb, .val rc, .val (.ref sf), .val (.int (1 : Int32)), .val ra] at_127 rfl 129 rfl ?_
      exact k ra _ ha J114
    · have j2 := J108.norm (W' := o_Sf sf (.ref rr) :: F) rfl
      show Run _ _ _ _ (State.setTop _ (mkF m 100 #[.val (.int f0), .val (.int c1), .val (.int c2), .val (.int c3), .val (.int kk), .val ra, .val rb, .val rc, .val (.ref sf), .val (.int (1 : Int32)), .val (.ref rr)] [(.ref rr)]))
      refine p_ifnonnull_y j2 at_100 107 (by decide) (by decide) ?_
      refine p_iload j2 at_107 rfl 109 rfl ?_
      refine p_if_n j2 at_109 (by decide) 112 rfl ?_
      refine p_aload j2 at_112 rfl rfl 114 rfl ?_
      refine i_virtual j2 at_114 (mt (i := 41) rfl) (mt (i := 42) rfl) (nfSel (mt (i := 44) rfl)) (mt (i := 44) rfl) (mt (i := 43) rfl) (mt (i := 36) rfl) (mt (i := 45) rfl) (by decide) (lenOf pd_6 rfl) 0 rfl (c_reason g sf (.ref rr) rfl) [0] [] 1 (by decide) (lenLe F 1 rfl) rfl 0 (by decide) (by decide) hcl hsl rfl (by show (0 : Nat) ≤ _; decide) _ rfl cells slots rfl rfl 117 rfl fun v118 W119 T115 hQ117 J116 => ?_
      obtain ⟨rfl, rfl⟩ := hQ117
      have J120 := J116.norm (W' := o_Sf sf (.ref rr) :: F) rfl
      show Run _ _ _ _ (State.setTop _ (mkF m 117 #[.val (.int f0), .val (.int c1), .val (.int c2), .val (.int c3), .val (.int kk), .val ra, .val rb, .val rc, .val (.ref sf), .val (.int (1 : Int32)), .val (.ref rr)] [(.ref rr)]))
      refine p_aload J120 at_117 rfl rfl 119 rfl ?_
      refine p_acmp J120 rfl rfl at_119 (same := true) (decide_eq_true rfl) 122 (by decide) (by decide) ?_
      refine p_iconst J120 at_122 (z := (1 : Int32)) rfl 123 rfl ?_
      refine p_goto J120 at_123 127 (by decide) (by decide) ?_
      refine p_istore J120 #[.val (.int f0), .val (.int c1), .val (.int c2), .val (.int c3), .val (.int kk), .val ra, .val rb, .val rc, .val (.ref sf), .val (.int (1 : Int32)), .val (.ref rr)] at_127 rfl 129 rfl ?_
      exact k (.ref rr) _ rfl J120
set_option maxRecDepth 65536 in
set_option maxHeartbeats 40000000 in
theorem sec_1 {l : Launch} {Z : State} {a0 : Array Value} {EL : List (String × Nat)} {LT : List (String × Nat × Addr)} {p : Program} {e : Env} {s : State} {m : MethodId} {args : Array Value} {below : List Frame} {meth : Method} {c : Code} {T : State} {cells slots : Nat} {F : List OB} {Pq : Outcome → State → Prop} (g : GC Z a0 EL) {f0 c1 c2 c3 kk : Int32} {ra rb rc r : Value} (ha : ra.isRef = true) (hb' : rb.isRef = true) (hc' : rc.isRef = true) (hr : r.isRef = true) {sf : Addr} (j : J l Z a0 EL LT x.cls code maxLocals ret x.name room_1 p e s m args below meth c T cells slots (o_Sf sf r :: F)) (hcl : cells ≤ room_1.cells) (hsl : slots ≤ room_1.slots)
    (k : ∀ r' T', r'.isRef = true → J l Z a0 EL LT x.cls code maxLocals ret x.name room_1 p e s m args below meth c T' cells slots (o_Sf sf r' :: F) → Run p.tables e below Pq (T'.setTop (mkF m 173 #[.val (.int f0), .val (.int c1), .val (.int c2), .val (.int c3), .val (.int kk), .val ra, .val rb, .val rc, .val (.ref sf), .val (.int (1 : Int32)), .val r'] []))) : Run p.tables e below Pq (T.setTop (mkF m 129 #[.val (.int f0), .val (.int c1), .val (.int c2), .val (.int c3), .val (.int kk), .val ra, .val rb, .val rc, .val (.ref sf), .val (.int (1 : Int32)), .val r] [])) := by
  refine p_iload j at_129 rfl 131 rfl ?_
  refine p_iconst j at_131 (z := (2 : Int32)) rfl 132 rfl ?_
  by_cases hk : kk < (2 : Int32)
  · refine p_icmp_y j at_132 (tlt hk).1 173 (by decide) (by decide) ?_
    exact k r _ hr j
  · refine p_icmp_n j at_132 (flt hk).1 135 rfl ?_
    refine p_aload j at_135 rfl rfl 137 rfl ?_
    refine p_aload j at_137 rfl hb' 139 rfl ?_
    refine i_virtual j at_139 (mt (i := 48) rfl) (mt (i := 49) rfl) (nfSel (mt (i := 51) rfl)) (mt (i := 51) rfl) (mt (i := 50) rfl) (mt (i := 36) rfl) (mt (i := 52) rfl) (by decide) (lenOf pd_5 rfl) 0 rfl (c_note g sf r rb hr hb') [0] [] 1 (by decide) (lenLe F 1 rfl) rfl 0 (by decide) (by decide) hcl hsl rfl (by show (0 : Nat) ≤ _; decide) _ rfl cells slots rfl rfl 142 rfl fun v124 W125 T121 hQ123 J122 => ?_
    obtain ⟨rfl, rfl⟩ := hQ123
    have J126 := J122.norm (W' := o_Sf sf (nt r rb) :: F) rfl
    show Run _ _ _ _ (State.setTop _ (mkF m 142 #[.val (.int f0), .val (.int c1), .val (.int c2), .val (.int c3), .val (.int kk), .val ra, .val rb, .val rc, .val (.ref sf), .val (.int (1 : Int32)), .val r] []))
    refine p_aload J126 at_142 rfl hr 144 rfl ?_
    have hn := nt_ref hr hb'
    rcases ref_cases hr with rfl | ⟨rr, rfl⟩
    · have j2 := J126.norm (W' := o_Sf sf rb :: F) rfl
      show Run _ _ _ _ (State.setTop _ (mkF m 144 #[.val (.int f0), .val (.int c1), .val (.int c2), .val (.int c3), .val (.int kk), .val ra, .val rb, .val rc, .val (.ref sf), .val (.int (1 : Int32)), .val .null] [.null]))
      refine p_ifnonnull_n j2 at_144 147 rfl ?_
      refine p_aload j2 at_147 rfl hb' 149 rfl ?_
      refine p_astore j2 #[.val (.int f0), .val (.int c1), .val (.int c2), .val (.int c3), .val (.int kk), .val ra, .val rb, .val rc, .val (.ref sf), .val (.int (1 : Int32)), .val rb] at_149 hb' (by rcases ref_cases hb' with rfl | ⟨_, rfl⟩ <;> rfl) 151 rfl ?_
      refine p_iload j2 at_151 rfl 153 rfl ?_
      refine p_if_n j2 at_153 (by decide) 156 rfl ?_
      refine p_aload j2 at_156 rfl rfl 158 rfl ?_
      refine i_virtual j2 at_158 (mt (i := 41) rfl) (mt (i := 42) rfl) (nfSel (mt (i := 44) rfl)) (mt (i := 44) rfl) (mt (i := 43) rfl) (mt (i := 36) rfl) (mt (i := 45) rfl) (by decide) (lenOf pd_6 rfl) 0 rfl (c_reason g sf rb hb') [0] [] 1 (by decide) (lenLe F 1 rfl) rfl 0 (by decide) (by decide) hcl hsl rfl (by show (0 : Nat) ≤ _; decide) _ rfl cells slots rfl rfl 161 rfl fun v130 W131 T127 hQ129 J128 => ?_
      obtain ⟨rfl, rfl⟩ := hQ129
      have J132 := J128.norm (W' := o_Sf sf rb :: F) rfl
      show Run _ _ _ _ (State.setTop _ (mkF m 161 #[.val (.int f0), .val (.int c1), .val (.int c2), .val (.int c3), .val (.int kk), .val ra, .val rb, .val rc, .val (.ref sf), .val (.int (1 : Int32)), .val rb] [rb]))
      refine p_aload J132 at_161 rfl hb' 163 rfl ?_
      refine p_acmp J132 hb' hb' at_163 (same := true) (decide_eq_true rfl) 166 (by decide) (by decide) ?_
      refine p_iconst J132 at_166 (z := (1 : Int32)) rfl 167 rfl ?_
      refine p_goto J132 at_167 171 (by decide) (by decide) ?_
      refine p_istore J132 #[.val (.int f0), .val (.int c1), .val (.int c2), .val (.int c3), .val (.int kk), .val ra, .val rb, .val rc, .val (.ref sf), .val (.int (1 : Int32)), .val rb] at_171 rfl 173 rfl ?_
      exact k rb _ hb' J132
    · have j2 := J126.norm (W' := o_Sf sf (.ref rr) :: F) rfl
      show Run _ _ _ _ (State.setTop _ (mkF m 144 #[.val (.int f0), .val (.int c1), .val (.int c2), .val (.int c3), .val (.int kk), .val ra, .val rb, .val rc, .val (.ref sf), .val (.int (1 : Int32)), .val (.ref rr)] [(.ref rr)]))
      refine p_ifnonnull_y j2 at_144 151 (by decide) (by decide) ?_
      refine p_iload j2 at_151 rfl 153 rfl ?_
      refine p_if_n j2 at_153 (by decide) 156 rfl ?_
      refine p_aload j2 at_156 rfl rfl 158 rfl ?_
      refine i_virtual j2 at_158 (mt (i := 41) rfl) (mt (i := 42) rfl) (nfSel (mt (i := 44) rfl)) (mt (i := 44) rfl) (mt (i := 43) rfl) (mt (i := 36) rfl) (mt (i := 45) rfl) (by decide) (lenOf pd_6 rfl) 0 rfl (c_reason g sf (.ref rr) rfl) [0] [] 1 (by decide) (lenLe F 1 rfl) rfl 0 (by decide) (by decide) hcl hsl rfl (by show (0 : Nat) ≤ _; decide) _ rfl cells slots rfl rfl 161 rfl fun v136 W137 T133 hQ135 J134 => ?_
      obtain ⟨rfl, rfl⟩ := hQ135
      have J138 := J134.norm (W' := o_Sf sf (.ref rr) :: F) rfl
      show Run _ _ _ _ (State.setTop _ (mkF m 161 #[.val (.int f0), .val (.int c1), .val (.int c2), .val (.int c3), .val (.int kk), .val ra, .val rb, .val rc, .val (.ref sf), .val (.int (1 : Int32)), .val (.ref rr)] [(.ref rr)]))
      refine p_aload J138 at_161 rfl rfl 163 rfl ?_
      refine p_acmp J138 rfl rfl at_163 (same := true) (decide_eq_true rfl) 166 (by decide) (by decide) ?_
      refine p_iconst J138 at_166 (z := (1 : Int32)) rfl 167 rfl ?_
      refine p_goto J138 at_167 171 (by decide) (by decide) ?_
      refine p_istore J138 #[.val (.int f0), .val (.int c1), .val (.int c2), .val (.int c3), .val (.int kk), .val ra, .val rb, .val rc, .val (.ref sf), .val (.int (1 : Int32)), .val (.ref rr)] at_171 rfl 173 rfl ?_
      exact k (.ref rr) _ rfl J138
set_option maxRecDepth 65536 in
set_option maxHeartbeats 40000000 in
theorem sec_2 {l : Launch} {Z : State} {a0 : Array Value} {EL : List (String × Nat)} {LT : List (String × Nat × Addr)} {p : Program} {e : Env} {s : State} {m : MethodId} {args : Array Value} {below : List Frame} {meth : Method} {c : Code} {T : State} {cells slots : Nat} {F : List OB} {Pq : Outcome → State → Prop} (g : GC Z a0 EL) {f0 c1 c2 c3 kk : Int32} {ra rb rc r : Value} (ha : ra.isRef = true) (hb' : rb.isRef = true) (hc' : rc.isRef = true) (hr : r.isRef = true) {sf : Addr} (j : J l Z a0 EL LT x.cls code maxLocals ret x.name room_1 p e s m args below meth c T cells slots (o_Sf sf r :: F)) (hcl : cells ≤ room_1.cells) (hsl : slots ≤ room_1.slots)
    (k : ∀ r' T', r'.isRef = true → J l Z a0 EL LT x.cls code maxLocals ret x.name room_1 p e s m args below meth c T' cells slots (o_Sf sf r' :: F) → Run p.tables e below Pq (T'.setTop (mkF m 217 #[.val (.int f0), .val (.int c1), .val (.int c2), .val (.int c3), .val (.int kk), .val ra, .val rb, .val rc, .val (.ref sf), .val (.int (1 : Int32)), .val r'] []))) : Run p.tables e below Pq (T.setTop (mkF m 173 #[.val (.int f0), .val (.int c1), .val (.int c2), .val (.int c3), .val (.int kk), .val ra, .val rb, .val rc, .val (.ref sf), .val (.int (1 : Int32)), .val r] [])) := by
  refine p_iload j at_173 rfl 175 rfl ?_
  refine p_iconst j at_175 (z := (3 : Int32)) rfl 176 rfl ?_
  by_cases hk : kk < (3 : Int32)
  · refine p_icmp_y j at_176 (tlt hk).1 217 (by decide) (by decide) ?_
    exact k r _ hr j
  · refine p_icmp_n j at_176 (flt hk).1 179 rfl ?_
    refine p_aload j at_179 rfl rfl 181 rfl ?_
    refine p_aload j at_181 rfl hc' 183 rfl ?_
    refine i_virtual j at_183 (mt (i := 48) rfl) (mt (i := 49) rfl) (nfSel (mt (i := 51) rfl)) (mt (i := 51) rfl) (mt (i := 50) rfl) (mt (i := 36) rfl) (mt (i := 52) rfl) (by decide) (lenOf pd_5 rfl) 0 rfl (c_note g sf r rc hr hc') [0] [] 1 (by decide) (lenLe F 1 rfl) rfl 0 (by decide) (by decide) hcl hsl rfl (by show (0 : Nat) ≤ _; decide) _ rfl cells slots rfl rfl 186 rfl fun v142 W143 T139 hQ141 J140 => ?_
    obtain ⟨rfl, rfl⟩ := hQ141
    have J144 := J140.norm (W' := o_Sf sf (nt r rc) :: F) rfl
    show Run _ _ _ _ (State.setTop _ (mkF m 186 #[.val (.int f0), .val (.int c1), .val (.int c2), .val (.int c3), .val (.int kk), .val ra, .val rb, .val rc, .val (.ref sf), .val (.int (1 : Int32)), .val r] []))
    refine p_aload J144 at_186 rfl hr 188 rfl ?_
    have hn := nt_ref hr hc'
    rcases ref_cases hr with rfl | ⟨rr, rfl⟩
    · have j2 := J144.norm (W' := o_Sf sf rc :: F) rfl
      show Run _ _ _ _ (State.setTop _ (mkF m 188 #[.val (.int f0), .val (.int c1), .val (.int c2), .val (.int c3), .val (.int kk), .val ra, .val rb, .val rc, .val (.ref sf), .val (.int (1 : Int32)), .val .null] [.null]))
      refine p_ifnonnull_n j2 at_188 191 rfl ?_
      refine p_aload j2 at_191 rfl hc' 193 rfl ?_
      refine p_astore j2 #[.val (.int f0), .val (.int c1), .val (.int c2), .val (.int c3), .val (.int kk), .val ra, .val rb, .val rc, .val (.ref sf), .val (.int (1 : Int32)), .val rc] at_193 hc' (by rcases ref_cases hc' with rfl | ⟨_, rfl⟩ <;> rfl) 195 rfl ?_
      refine p_iload j2 at_195 rfl 197 rfl ?_
      refine p_if_n j2 at_197 (by decide) 200 rfl ?_
      refine p_aload j2 at_200 rfl rfl 202 rfl ?_
      refine i_virtual j2 at_202 (mt (i := 41) rfl) (mt (i := 42) rfl) (nfSel (mt (i := 44) rfl)) (mt (i := 44) rfl) (mt (i := 43) rfl) (mt (i := 36) rfl) (mt (i := 45) rfl) (by decide) (lenOf pd_6 rfl) 0 rfl (c_reason g sf rc hc') [0] [] 1 (by decide) (lenLe F 1 rfl) rfl 0 (by decide) (by decide) hcl hsl rfl (by show (0 : Nat) ≤ _; decide) _ rfl cells slots rfl rfl 205 rfl fun v148 W149 T145 hQ147 J146 => ?_
      obtain ⟨rfl, rfl⟩ := hQ147
      have J150 := J146.norm (W' := o_Sf sf rc :: F) rfl
      show Run _ _ _ _ (State.setTop _ (mkF m 205 #[.val (.int f0), .val (.int c1), .val (.int c2), .val (.int c3), .val (.int kk), .val ra, .val rb, .val rc, .val (.ref sf), .val (.int (1 : Int32)), .val rc] [rc]))
      refine p_aload J150 at_205 rfl hc' 207 rfl ?_
      refine p_acmp J150 hc' hc' at_207 (same := true) (decide_eq_true rfl) 210 (by decide) (by decide) ?_
      refine p_iconst J150 at_210 (z := (1 : Int32)) rfl 211 rfl ?_
      refine p_goto J150 at_211 215 (by decide) (by decide) ?_
      refine p_istore J150 #[.val (.int f0), .val (.int c1), .val (.int c2), .val (.int c3), .val (.int kk), .val ra, .val rb, .val rc, .val (.ref sf), .val (.int (1 : Int32)), .val rc] at_215 rfl 217 rfl ?_
      exact k rc _ hc' J150
    · have j2 := J144.norm (W' := o_Sf sf (.ref rr) :: F) rfl
      show Run _ _ _ _ (State.setTop _ (mkF m 188 #[.val (.int f0), .val (.int c1), .val (.int c2), .val (.int c3), .val (.int kk), .val ra, .val rb, .val rc, .val (.ref sf), .val (.int (1 : Int32)), .val (.ref rr)] [(.ref rr)]))
      refine p_ifnonnull_y j2 at_188 195 (by decide) (by decide) ?_
      refine p_iload j2 at_195 rfl 197 rfl ?_
      refine p_if_n j2 at_197 (by decide) 200 rfl ?_
      refine p_aload j2 at_200 rfl rfl 202 rfl ?_
      refine i_virtual j2 at_202 (mt (i := 41) rfl) (mt (i := 42) rfl) (nfSel (mt (i := 44) rfl)) (mt (i := 44) rfl) (mt (i := 43) rfl) (mt (i := 36) rfl) (mt (i := 45) rfl) (by decide) (lenOf pd_6 rfl) 0 rfl (c_reason g sf (.ref rr) rfl) [0] [] 1 (by decide) (lenLe F 1 rfl) rfl 0 (by decide) (by decide) hcl hsl rfl (by show (0 : Nat) ≤ _; decide) _ rfl cells slots rfl rfl 205 rfl fun v154 W155 T151 hQ153 J152 => ?_
      obtain ⟨rfl, rfl⟩ := hQ153
      have J156 := J152.norm (W' := o_Sf sf (.ref rr) :: F) rfl
      show Run _ _ _ _ (State.setTop _ (mkF m 205 #[.val (.int f0), .val (.int c1), .val (.int c2), .val (.int c3), .val (.int kk), .val ra, .val rb, .val rc, .val (.ref sf), .val (.int (1 : Int32)), .val (.ref rr)] [(.ref rr)]))
      refine p_aload J156 at_205 rfl rfl 207 rfl ?_
      refine p_acmp J156 rfl rfl at_207 (same := true) (decide_eq_true rfl) 210 (by decide) (by decide) ?_
      refine p_iconst J156 at_210 (z := (1 : Int32)) rfl 211 rfl ?_
      refine p_goto J156 at_211 215 (by decide) (by decide) ?_
      refine p_istore J156 #[.val (.int f0), .val (.int c1), .val (.int c2), .val (.int c3), .val (.int kk), .val ra, .val rb, .val rc, .val (.ref sf), .val (.int (1 : Int32)), .val (.ref rr)] at_215 rfl 217 rfl ?_
      exact k (.ref rr) _ rfl J156
theorem bool_11 {l : Launch} {Z : State} {a0 : Array Value} {EL : List (String × Nat)} {LT : List (String × Nat × Addr)} {p : Program} {e : Env} {s : State} {m : MethodId} {args : Array Value} {below : List Frame} {meth : Method} {c : Code} {T : State} {cells slots : Nat} {Pq : Outcome → State → Prop} {W : List OB} {Ls : Array Slot} {y z : Int32} (j : J l Z a0 EL LT x.cls code maxLocals ret x.name room_1 p e s m args below meth c T cells slots (W)) (k : ∀ b : Int32, Run p.tables e below Pq (T.setTop (mkF m 19 Ls [.int b, .int z]))) : Run p.tables e below Pq (T.setTop (mkF m 11 Ls [.int y, .int z])) := by
  by_cases h : y = 0
  · refine p_if_y j at_11 ((if0 _ _).trans (teq h).1) 18 (by decide) (by decide) ?_
    refine p_iconst j at_18 (z := (0 : Int32)) rfl 19 rfl ?_
    exact k 0
  · refine p_if_n j at_11 ((if0 _ _).trans (feq h).1) 14 rfl ?_
    refine p_iconst j at_14 (z := (1 : Int32)) rfl 15 rfl ?_
    refine p_goto j at_15 19 (by decide) (by decide) ?_
    exact k 1
theorem bool_28 {l : Launch} {Z : State} {a0 : Array Value} {EL : List (String × Nat)} {LT : List (String × Nat × Addr)} {p : Program} {e : Env} {s : State} {m : MethodId} {args : Array Value} {below : List Frame} {meth : Method} {c : Code} {T : State} {cells slots : Nat} {Pq : Outcome → State → Prop} {W : List OB} {Ls : Array Slot} {y z : Int32} (j : J l Z a0 EL LT x.cls code maxLocals ret x.name room_1 p e s m args below meth c T cells slots (W)) (k : ∀ b : Int32, Run p.tables e below Pq (T.setTop (mkF m 36 Ls [.int b, .int z]))) : Run p.tables e below Pq (T.setTop (mkF m 28 Ls [.int y, .int z])) := by
  by_cases h : y = 0
  · refine p_if_y j at_28 ((if0 _ _).trans (teq h).1) 35 (by decide) (by decide) ?_
    refine p_iconst j at_35 (z := (0 : Int32)) rfl 36 rfl ?_
    exact k 0
  · refine p_if_n j at_28 ((if0 _ _).trans (feq h).1) 31 rfl ?_
    refine p_iconst j at_31 (z := (1 : Int32)) rfl 32 rfl ?_
    refine p_goto j at_32 36 (by decide) (by decide) ?_
    exact k 1
theorem bool_45 {l : Launch} {Z : State} {a0 : Array Value} {EL : List (String × Nat)} {LT : List (String × Nat × Addr)} {p : Program} {e : Env} {s : State} {m : MethodId} {args : Array Value} {below : List Frame} {meth : Method} {c : Code} {T : State} {cells slots : Nat} {Pq : Outcome → State → Prop} {W : List OB} {Ls : Array Slot} {y z : Int32} (j : J l Z a0 EL LT x.cls code maxLocals ret x.name room_1 p e s m args below meth c T cells slots (W)) (k : ∀ b : Int32, Run p.tables e below Pq (T.setTop (mkF m 53 Ls [.int b, .int z]))) : Run p.tables e below Pq (T.setTop (mkF m 45 Ls [.int y, .int z])) := by
  by_cases h : y = 0
  · refine p_if_y j at_45 ((if0 _ _).trans (teq h).1) 52 (by decide) (by decide) ?_
    refine p_iconst j at_52 (z := (0 : Int32)) rfl 53 rfl ?_
    exact k 0
  · refine p_if_n j at_45 ((if0 _ _).trans (feq h).1) 48 rfl ?_
    refine p_iconst j at_48 (z := (1 : Int32)) rfl 49 rfl ?_
    refine p_goto j at_49 53 (by decide) (by decide) ?_
    exact k 1
theorem pd_7 : parseMethodDescriptor "(IZ)Ljava/lang/String;" = some ⟨[.int, .boolean], some (.object "java/lang/String")⟩ := by decide +kernel
theorem pd_8 : parseMethodDescriptor "()V" = some ⟨[], none⟩ := by decide +kernel
theorem pn_law : plainFor (⟨"com/example/ubic/ubic/service/ShortfallNotePinLaw", "law", "(IIII)Z"⟩ : MethodName) = true := by first | exact plainFor_of_name (by first | (simp [plainName, overriddenIn]; done) | decide +kernel) | decide +kernel
set_option maxRecDepth 65536 in
set_option maxHeartbeats 40000000 in
theorem c_law {l : Launch} {Z : State} {a0 : Array Value} {EL : List (String × Nat)} (g : GC Z a0 EL) (hEL : EL = [("java/lang/String", 7)]) (f0 c1 c2 c3 : Int32) (cs : Int32) (hcs : ¬ cs = 0) (hS : Sta Z Z.heap "java/lang/String" "COMPACT_STRINGS" "Z" (.int cs)) : Con l Z EL x code maxLocals ret room_1 [(.int f0), (.int c1), (.int c2), (.int c3)] [] (fun v W' => v = some (.int 1) ∧ W' = []) := by
  refine Con.mk g pn_law (Ls := #[.val (.int f0), .val (.int c1), .val (.int c2), .val (.int c3), .unset, .unset, .unset, .unset, .unset, .unset, .unset]) (fun m => by first | (simp [entryFrame, mkF, argsToLocals, Value.category, maxLocals]; done) | rfl) ?_
  intro p e s m below meth c T0 F J0
  refine p_iload_n J0 at_0 rfl 1 rfl ?_
  refine p_iconst J0 at_1 (z := (3 : Int32)) rfl 2 rfl ?_
  refine p_iushr J0 at_2 (z := ((f0.toUInt32 >>> ((3 : Int32) &&& 31).toUInt32).toInt32)) rfl 3 rfl ?_
  refine p_iconst J0 at_3 (z := (3 : Int32)) rfl 4 rfl ?_
  refine p_iand J0 at_4 (z := (((f0.toUInt32 >>> ((3 : Int32) &&& 31).toUInt32).toInt32) &&& (3 : Int32))) rfl 5 rfl ?_
  refine p_istore J0 #[.val (.int f0), .val (.int c1), .val (.int c2), .val (.int c3), .val (.int (((f0.toUInt32 >>> ((3 : Int32) &&& 31).toUInt32).toInt32) &&& (3 : Int32))), .unset, .unset, .unset, .unset, .unset, .unset] at_5 rfl 7 rfl ?_
  refine p_iload_n J0 at_7 rfl 8 rfl ?_
  refine p_iload_n J0 at_8 rfl 9 rfl ?_
  refine p_iconst J0 at_9 (z := (1 : Int32)) rfl 10 rfl ?_
  refine p_iand J0 at_10 (z := (f0 &&& (1 : Int32))) rfl 11 rfl ?_
  refine bool_11 J0 fun b_ra => ?_
  show Run _ _ _ _ (State.setTop _ (mkF m 19 #[.val (.int f0), .val (.int c1), .val (.int c2), .val (.int c3), .val (.int (((f0.toUInt32 >>> ((3 : Int32) &&& 31).toUInt32).toInt32) &&& (3 : Int32))), .unset, .unset, .unset, .unset, .unset, .unset] [(.int b_ra), (.int c1)]))
  refine i_static J0 at_19 (mt (i := 0) rfl) (mt (i := 1) rfl) (mt (i := 2) rfl) (mt (i := 3) rfl) (by decide) (lenOf pd_7 rfl) (c_mk g hEL c1 b_ra cs hcs hS) [] [] 0 (by decide) (lenLe F 0 rfl) rfl 0 (by decide) (by decide) (by decide) (by decide) rfl (by show (0 : Nat) ≤ _; decide) _ rfl 6 12 rfl rfl 22 rfl fun v160 W161 T157 hQ159 J158 => ?_
  obtain ⟨ra, rfl, hra, rfl⟩ := hQ159
  have J162 := J158.norm (W' := F) rfl
  show Run _ _ _ _ (State.setTop _ (mkF m 22 #[.val (.int f0), .val (.int c1), .val (.int c2), .val (.int c3), .val (.int (((f0.toUInt32 >>> ((3 : Int32) &&& 31).toUInt32).toInt32) &&& (3 : Int32))), .unset, .unset, .unset, .unset, .unset, .unset] [ra]))
  refine p_astore J162 #[.val (.int f0), .val (.int c1), .val (.int c2), .val (.int c3), .val (.int (((f0.toUInt32 >>> ((3 : Int32) &&& 31).toUInt32).toInt32) &&& (3 : Int32))), .val ra, .unset, .unset, .unset, .unset, .unset] at_22 hra (by rcases ref_cases hra with rfl | ⟨_, rfl⟩ <;> rfl) 24 rfl ?_
  refine p_iload_n J162 at_24 rfl 25 rfl ?_
  refine p_iload_n J162 at_25 rfl 26 rfl ?_
  refine p_iconst J162 at_26 (z := (2 : Int32)) rfl 27 rfl ?_
  refine p_iand J162 at_27 (z := (f0 &&& (2 : Int32))) rfl 28 rfl ?_
  refine bool_28 J162 fun b_rb => ?_
  show Run _ _ _ _ (State.setTop _ (mkF m 36 #[.val (.int f0), .val (.int c1), .val (.int c2), .val (.int c3), .val (.int (((f0.toUInt32 >>> ((3 : Int32) &&& 31).toUInt32).toInt32) &&& (3 : Int32))), .val ra, .unset, .unset, .unset, .unset, .unset] [(.int b_rb), (.int c2)]))
  refine i_static J162 at_36 (mt (i := 0) rfl) (mt (i := 1) rfl) (mt (i := 2) rfl) (mt (i := 3) rfl) (by decide) (lenOf pd_7 rfl) (c_mk g hEL c2 b_rb cs hcs hS) [] [] 0 (by decide) (lenLe F 0 rfl) rfl 0 (by decide) (by decide) (by decide) (by decide) rfl (by show (0 : Nat) ≤ _; decide) _ rfl 12 24 rfl rfl 39 rfl fun v166 W167 T163 hQ165 J164 => ?_
  obtain ⟨rb, rfl, hrb, rfl⟩ := hQ165
  have J168 := J164.norm (W' := F) rfl
  show Run _ _ _ _ (State.setTop _ (mkF m 39 #[.val (.int f0), .val (.int c1), .val (.int c2), .val (.int c3), .val (.int (((f0.toUInt32 >>> ((3 : Int32) &&& 31).toUInt32).toInt32) &&& (3 : Int32))), .val ra, .unset, .unset, .unset, .unset, .unset] [rb]))
  refine p_astore J168 #[.val (.int f0), .val (.int c1), .val (.int c2), .val (.int c3), .val (.int (((f0.toUInt32 >>> ((3 : Int32) &&& 31).toUInt32).toInt32) &&& (3 : Int32))), .val ra, .val rb, .unset, .unset, .unset, .unset] at_39 hrb (by rcases ref_cases hrb with rfl | ⟨_, rfl⟩ <;> rfl) 41 rfl ?_
  refine p_iload_n J168 at_41 rfl 42 rfl ?_
  refine p_iload_n J168 at_42 rfl 43 rfl ?_
  refine p_iconst J168 at_43 (z := (4 : Int32)) rfl 44 rfl ?_
  refine p_iand J168 at_44 (z := (f0 &&& (4 : Int32))) rfl 45 rfl ?_
  refine bool_45 J168 fun b_rc => ?_
  show Run _ _ _ _ (State.setTop _ (mkF m 53 #[.val (.int f0), .val (.int c1), .val (.int c2), .val (.int c3), .val (.int (((f0.toUInt32 >>> ((3 : Int32) &&& 31).toUInt32).toInt32) &&& (3 : Int32))), .val ra, .val rb, .unset, .unset, .unset, .unset] [(.int b_rc), (.int c3)]))
  refine i_static J168 at_53 (mt (i := 0) rfl) (mt (i := 1) rfl) (mt (i := 2) rfl) (mt (i := 3) rfl) (by decide) (lenOf pd_7 rfl) (c_mk g hEL c3 b_rc cs hcs hS) [] [] 0 (by decide) (lenLe F 0 rfl) rfl 0 (by decide) (by decide) (by decide) (by decide) rfl (by show (0 : Nat) ≤ _; decide) _ rfl 18 36 rfl rfl 56 rfl fun v172 W173 T169 hQ171 J170 => ?_
  obtain ⟨rc, rfl, hrc, rfl⟩ := hQ171
  have J174 := J170.norm (W' := F) rfl
  show Run _ _ _ _ (State.setTop _ (mkF m 56 #[.val (.int f0), .val (.int c1), .val (.int c2), .val (.int c3), .val (.int (((f0.toUInt32 >>> ((3 : Int32) &&& 31).toUInt32).toInt32) &&& (3 : Int32))), .val ra, .val rb, .unset, .unset, .unset, .unset] [rc]))
  refine p_astore J174 #[.val (.int f0), .val (.int c1), .val (.int c2), .val (.int c3), .val (.int (((f0.toUInt32 >>> ((3 : Int32) &&& 31).toUInt32).toInt32) &&& (3 : Int32))), .val ra, .val rb, .val rc, .unset, .unset, .unset] at_56 hrc (by rcases ref_cases hrc with rfl | ⟨_, rfl⟩ <;> rfl) 58 rfl ?_
  refine i_new J174 at_58 (mt (i := 34) rfl) (mt (i := 35) rfl) (mt (i := 36) rfl) (by decide) (by decide) df_Sf 19 37 rfl rfl 61 rfl fun a175 T176 J177 => ?_
  refine p_dup J177 at_61 rfl 62 rfl ?_
  refine i_special J177 at_62 rfl (mt (i := 37) rfl) (mt (i := 38) rfl) (mt (i := 36) rfl) (mt (i := 39) rfl) (by decide) (lenOf pd_8 rfl) (c_sfinit g a175) [] [0] 1 (by decide) (lenLe F 1 rfl) rfl 1 (by decide) (by decide) (by decide) (by decide) rfl (by show (1 : Nat) ≤ _; decide) _ rfl 19 37 rfl rfl 65 rfl fun v181 W182 T178 hQ180 J179 => ?_
  obtain ⟨rfl, rfl⟩ := hQ180
  have J183 := J179.norm (W' := o_Sf a175 .null :: F) rfl
  show Run _ _ _ _ (State.setTop _ (mkF m 65 #[.val (.int f0), .val (.int c1), .val (.int c2), .val (.int c3), .val (.int (((f0.toUInt32 >>> ((3 : Int32) &&& 31).toUInt32).toInt32) &&& (3 : Int32))), .val ra, .val rb, .val rc, .unset, .unset, .unset] [(.ref a175)]))
  refine p_astore J183 #[.val (.int f0), .val (.int c1), .val (.int c2), .val (.int c3), .val (.int (((f0.toUInt32 >>> ((3 : Int32) &&& 31).toUInt32).toInt32) &&& (3 : Int32))), .val ra, .val rb, .val rc, .val (.ref a175), .unset, .unset] at_65 rfl rfl 67 rfl ?_
  refine p_aload J183 at_67 rfl rfl 69 rfl ?_
  refine i_virtual J183 at_69 (mt (i := 41) rfl) (mt (i := 42) rfl) (nfSel (mt (i := 44) rfl)) (mt (i := 44) rfl) (mt (i := 43) rfl) (mt (i := 36) rfl) (mt (i := 45) rfl) (by decide) (lenOf pd_6 rfl) 0 rfl (c_reason g a175 .null rfl) [0] [] 1 (by decide) (lenLe F 1 rfl) rfl 0 (by decide) (by decide) (by decide) (by decide) rfl (by show (0 : Nat) ≤ _; decide) _ rfl 19 37 rfl rfl 72 rfl fun v187 W188 T184 hQ186 J185 => ?_
  obtain ⟨rfl, rfl⟩ := hQ186
  have J189 := J185.norm (W' := o_Sf a175 .null :: F) rfl
  show Run _ _ _ _ (State.setTop _ (mkF m 72 #[.val (.int f0), .val (.int c1), .val (.int c2), .val (.int c3), .val (.int (((f0.toUInt32 >>> ((3 : Int32) &&& 31).toUInt32).toInt32) &&& (3 : Int32))), .val ra, .val rb, .val rc, .val (.ref a175), .unset, .unset] [.null]))
  refine p_ifnonnull_n J189 at_72 75 rfl ?_
  refine p_iconst J189 at_75 (z := (1 : Int32)) rfl 76 rfl ?_
  refine p_goto J189 at_76 80 (by decide) (by decide) ?_
  refine p_istore J189 #[.val (.int f0), .val (.int c1), .val (.int c2), .val (.int c3), .val (.int (((f0.toUInt32 >>> ((3 : Int32) &&& 31).toUInt32).toInt32) &&& (3 : Int32))), .val ra, .val rb, .val rc, .val (.ref a175), .val (.int (1 : Int32)), .unset] at_80 rfl 82 rfl ?_
  refine p_aconst_null J189 at_82 83 rfl ?_
  refine p_astore J189 #[.val (.int f0), .val (.int c1), .val (.int c2), .val (.int c3), .val (.int (((f0.toUInt32 >>> ((3 : Int32) &&& 31).toUInt32).toInt32) &&& (3 : Int32))), .val ra, .val rb, .val rc, .val (.ref a175), .val (.int (1 : Int32)), .val .null] at_83 rfl rfl 85 rfl ?_
  refine sec_0 g hra hrb hrc rfl J189 (by decide) (by decide) fun r1 T1 h1 j1 => ?_
  refine sec_1 g hra hrb hrc h1 j1 (by decide) (by decide) fun r2 T2 h2 j2 => ?_
  refine sec_2 g hra hrb hrc h2 j2 (by decide) (by decide) fun r3 T3 h3 j3 => ?_
  refine p_iload j3 at_217 rfl 219 rfl ?_
  have J190 := j3.weak [] 1 (by decide) (lenLe F 1 rfl) (W' := F) rfl
  exact r_val J190 at_219 (t := .boolean) rfl rfl (Or.inl ⟨rfl, by simp, _, rfl⟩) (by decide) (by decide) (Wf := []) rfl ⟨rfl, rfl⟩
theorem sAtoms {a : Array Value} {s : State} (hw : ∀ d ∈ tables_1, d.before a s = true) : ∀ d ∈ Bundle.stringAtoms, d.before a s = true := by
  intro d hd
  simp only [Bundle.stringAtoms, List.mem_cons, List.not_mem_nil, or_false] at hd
  rcases hd with rfl | rfl | rfl | rfl | rfl | rfl | rfl
  · exact hw _ (mt (i := 7) rfl)
  · exact hw _ (mt (i := 6) rfl)
  · exact hw _ (mt (i := 23) rfl)
  · exact hw _ (mt (i := 33) rfl)
  · exact hw _ (mt (i := 31) rfl)
  · exact hw _ (mt (i := 54) rfl)
  · exact hw _ (mt (i := 55) rfl)
set_option maxRecDepth 65536 in
set_option maxHeartbeats 40000000 in
theorem comes_1 {Post : Tables → Env → Array Value → State → Outcome → State → Prop} (hpost : ∀ tb e args s v u, (limb_1_1.after args s (.returned v) u = true ∧ limb_1_2.after args s (.returned v) u = true ∧ True) → FramedW s (.returned v) u (Jvm.fieldLocs frame_1_writes args s ++ Jvm.arrayLocs frame_1_arrays args s ++ Jvm.staticLocs frame_1_statics s) 32 1152 → Post tb e args s (.returned v) u) :
    ArmFor flags0 classFile x code maxLocals ret World_1 tables_1 room_1 Calls_1 rest_1 Pre_1 Post := by
  intro l hfl _ _ p e ha hc hk s m args below hf hA hF happ hP
  obtain ⟨hcalls, hrest, hpre⟩ := hP
  obtain ⟨-, -, -, hnamed, -, -, -, hat⟩ := (Spec.applies_iff hf).mp happ
  obtain ⟨hg, hn⟩ := and_e (Cond.before_iff.mp (show (Jvm.Cond.and given_1 narrow_1).before args s = true from hpre))
  obtain ⟨g1, g2⟩ := and_e hg
  obtain ⟨g3, g4⟩ := and_e g2
  obtain ⟨g5, g6⟩ := and_e g4
  obtain ⟨g7, g8⟩ := and_e g6
  obtain ⟨w0, w1, w2, w3, rfl⟩ : ∃ w0 w1 w2 w3 : Value, args = #[w0, w1, w2, w3] := by
    have hs : args.size = 4 := by simpa [Cond.value, given_1] using g1
    obtain ⟨L⟩ := args
    match L, hs with
    | [w0, w1, w2, w3], _ => exact ⟨w0, w1, w2, w3, rfl⟩
  have hw := fun d (hd : d ∈ tables_1) => atoms_spec (ws := Jvm.Cond.code x code maxLocals ret :: tables_1) hat d (List.mem_cons_of_mem _ hd)
  obtain ⟨hsets, -⟩ := atoms_of _ (rest_1_c_eq ▸ (show rest_1_c.before _ s = true from hrest))
  obtain ⟨i0, ei0⟩ := is_v g3
  obtain rfl : w0 = (.int i0) := Option.some.inj ei0
  obtain ⟨i1, ei1⟩ := is_v g5
  obtain rfl : w1 = (.int i1) := Option.some.inj ei1
  obtain ⟨i2, ei2⟩ := is_v g7
  obtain rfl : w2 = (.int i2) := Option.some.inj ei2
  obtain ⟨i3, ei3⟩ := is_v g8
  obtain rfl : w3 = (.int i3) := Option.some.inj ei3
  obtain ⟨cs, ecs⟩ := is_v (Cond.before_iff.mp (hsets _ (List.mem_of_getElem? (i := 1) rfl)))
  have q2 := hsets _ (List.mem_of_getElem? (i := 2) rfl)
  have hcs : ¬ cs = 0 := fun z => by
    have q3 := not_v (Cond.before_iff.mp q2)
    rw [eq_i ecs (Term.int_eval (0)) (by rw [z])] at q3
    exact absurd (Option.some.inj q3) (by decide)
  have hS := Sta.start ecs (Or.inl (hsets _ (List.mem_of_getElem? (i := 0) rfl)))
  have hE : EW s _ [("java/lang/String", 7)] := EW.cons (hw _ (mt (i := 53) rfl)) (by decide) EW.nil
  have g : GC s _ [("java/lang/String", 7)] := ⟨hw, hE, sAtoms hw⟩
  have hH : CHv s [("java/lang/String", 7)] s.vm s.heap := CHv.start hE (fun q hq => hcalls.1 q hq) q2 (hw _ (mt (i := 23) rfl)) (hw _ (mt (i := 6) rfl))
  obtain ⟨n, o, h1, h2, h3, v, L, W', rfl, ⟨rfl, rfl⟩, N, -, hq⟩ := c_law (l := l) g rfl i0 i1 i2 i3 cs hcs hS tables_1 [] s.heap p e ha hc hk s m _ below hf ((Spec.applies_iff_loose hf).mp happ).1 ⟨rfl, State.Warmed39.refl s, rfl, ⟨Nat.le_refl _, fun _ _ q => q⟩, hH, nofun, List.Pairwise.nil⟩ trivial
  exact ⟨n, _, h1, h2, h3, hpost _ _ _ _ _ _ ⟨Cond.after_iff.mpr rfl, Cond.after_iff.mpr (eq_i res_at (Term.int_eval (1)) rfl), trivial⟩ ⟨hq.1, hq.2.1, hq.2.2.1, (hq.2.2.2.sift fun y hy => Or.inr (N y hy)).mono (by decide) (by decide)⟩⟩
theorem main_1_1 : Claimed_1_1 := comes_1 fun _ _ _ _ _ _ h hF => ⟨h.1, hF⟩
theorem main_1_2 : Claimed_1_2 := comes_1 fun _ _ _ _ _ _ h hF => ⟨h.2.1, hF⟩
end Jvm.Pilot.@@N@@
namespace Jvm.Pilot.@@N@@
open Jvm Jvm.ClassFile Sem Op Lib Jvm.Free Jvm.Stand Jvm.Pilot.@@N@@.Jvm.D
/-! MADE BY PROGRAM (witnessworld.py) out of the Statement's table words and the real class files: 18 classes; the members and pool entries that the words name. The judged class is class 1, her method 2. -/
namespace start1
open Jvm.ClassFile
def u (s : String) : CpInfo := .utf8 (stringToUtf16 s)
/-- a pool by its gaps: so many unusable entries, then the entry; so many at the end -/
def gap : Nat → List CpInfo → List CpInfo
  | 0, r => r
  | n + 1, r => .unusable :: gap n r
def poolList (es : List (Nat × CpInfo)) (last : Nat) : List CpInfo := es.foldr (fun e r => gap e.1 (e.2 :: r)) (gap last [])
def pool (es : List (Nat × CpInfo)) (last : Nat) : Array CpInfo := ⟨poolList es last⟩
def fileOf (pool : Array CpInfo) (this : Nat) (attrs : Array Attribute := #[]) (ms : Array MethodInfo := #[]) (fl : Nat := 33) (sup : Nat := 0) (ifs : Array Nat := #[]) (fds : Array FieldInfo := #[]) : ClassFile where
  minorVersion := 0
  majorVersion := 65
  constantPool := pool
  accessFlags := fl
  thisClass := this
  superClass := sup
  interfaces := ifs
  fields := fds
  methods := ms
  attributes := attrs
def plain (name : String) (sup : Option ClassId) : Class where
  name := name
  kind := .ordinary
  loader := none
  accessFlags := 33
  super := sup
  interfaces := #[]
  cf := none
  fields := #[]
  methods := #[]
  instanceTypes := #[]
  staticTypes := #[]
  resolved := #[]
  callSites := []
  init := .initialized
  statics := none
  mirror := none

def pool0 : Array CpInfo := pool [(5, u "<init>"), (0, u "()V"), (1, .class_ 10), (1, u "java/lang/Object")] 113

def k0c0 : Code := { maxStack := 0, maxLocals := 1, code := object_method_1_code, exceptionTable := #[], attributes := #[] }
def k0m0 : Method := { name := "<init>", desc := "()V", sig := { parameters := [], returnType := none }, accessFlags := 1, code := some k0c0 }
/-- java/lang/Object -/
def k0 : Class := { plain "java/lang/Object" none with
  accessFlags := 33
  interfaces := #[]
  cf := some (fileOf pool0 8 #[] #[{ accessFlags := 1, nameIndex := 5, descriptorIndex := 6, attributes := #[] }] 33 0 #[] #[])
  fields := #[]
  methods := #[k0m0]
  instanceTypes := #[]
  staticTypes := #[]
  resolved := Array.replicate 124 none
  statics := none }

def pool1 : Array CpInfo := pool [(2, .class_ 4), (0, .nameAndType 5 6), (0, u "java/lang/Object"), (0, u "<init>"), (0, u "()V"), (0, .class_ 8), (0, u "java/lang/String"), (0, .methodref 7 10), (0, .nameAndType 5 11), (0, u "([C)V"), (0, .methodref 13 14), (0, .class_ 15), (0, .nameAndType 16 17), (0, u "com/example/ubic/ubic/service/ShortfallNotePinLaw"), (0, u "mk"), (0, u "(IZ)Ljava/lang/String;"), (0, .class_ 19), (0, u "com/example/ubic/ubic/service/Shortfall"), (0, .methodref 18 3), (0, .methodref 18 22), (0, .nameAndType 23 24), (0, u "reason"), (0, u "()Ljava/lang/String;"), (0, .methodref 18 26), (0, .nameAndType 27 28), (0, u "note"), (0, u "(Ljava/lang/String;)V"), (3, u "law"), (0, u "(IIII)Z")] 2

def k1m0 : Method := { name := "<init>", desc := "()V", sig := { parameters := [], returnType := none }, accessFlags := 1, code := none }
def k1c1 : Code := { maxStack := 4, maxLocals := 3, code := method_2_code, exceptionTable := #[], attributes := #[] }
def k1m1 : Method := { name := "mk", desc := "(IZ)Ljava/lang/String;", sig := { parameters := [.int, .boolean], returnType := some (.object "java/lang/String") }, accessFlags := 10, code := some k1c1 }
def k1c2 : Code := { maxStack := 3, maxLocals := 11, code := code, exceptionTable := #[], attributes := #[] }
def k1m2 : Method := { name := "law", desc := "(IIII)Z", sig := { parameters := [.int, .int, .int, .int], returnType := some .boolean }, accessFlags := 9, code := some k1c2 }
/-- com/example/ubic/ubic/service/ShortfallNotePinLaw -/
def k1 : Class := { plain "com/example/ubic/ubic/service/ShortfallNotePinLaw" (some 0) with
  accessFlags := 49
  interfaces := #[]
  cf := some (fileOf pool1 13 #[] #[{ accessFlags := 1, nameIndex := 5, descriptorIndex := 6, attributes := #[] }, { accessFlags := 10, nameIndex := 16, descriptorIndex := 17, attributes := #[] }, { accessFlags := 9, nameIndex := 32, descriptorIndex := 33, attributes := #[] }] 49 2 #[] #[])
  fields := #[]
  methods := #[k1m0, k1m1, k1m2]
  instanceTypes := #[]
  staticTypes := #[]
  resolved := Array.replicate 36 none
  statics := none }

def pool2 : Array CpInfo := pool [(1, .class_ 2), (0, u "java/io/Serializable"), (0, .class_ 4), (0, u "java/lang/Object")] 2

/-- java/io/Serializable -/
def k2 : Class := { plain "java/io/Serializable" (some 0) with
  accessFlags := 1537
  interfaces := #[]
  cf := some (fileOf pool2 1 #[] #[] 1537 3 #[] #[])
  fields := #[]
  methods := #[]
  instanceTypes := #[]
  staticTypes := #[]
  resolved := Array.replicate 7 none
  statics := none }

def pool3 : Array CpInfo := pool [(1, .class_ 2), (0, u "java/lang/Comparable"), (0, .class_ 4), (0, u "java/lang/Object")] 7

/-- java/lang/Comparable -/
def k3 : Class := { plain "java/lang/Comparable" (some 0) with
  accessFlags := 1537
  interfaces := #[]
  cf := some (fileOf pool3 1 #[] #[] 1537 3 #[] #[])
  fields := #[]
  methods := #[]
  instanceTypes := #[]
  staticTypes := #[]
  resolved := Array.replicate 12 none
  statics := none }

def pool4 : Array CpInfo := pool [(2, .class_ 4), (1, u "java/lang/CharSequence"), (42, .class_ 48), (0, u "java/lang/CharSequence$1CodePointIterator"), (10, .class_ 60), (0, u "java/lang/CharSequence$1CharIterator"), (5, .class_ 67), (0, u "java/lang/Object")] 63

/-- java/lang/CharSequence -/
def k4 : Class := { plain "java/lang/CharSequence" (some 0) with
  accessFlags := 1537
  interfaces := #[]
  cf := some (fileOf pool4 2 #[.nestMembers #[47, 59]] #[] 1537 66 #[] #[])
  fields := #[]
  methods := #[]
  instanceTypes := #[]
  staticTypes := #[]
  resolved := Array.replicate 131 none
  statics := none }

def pool5 : Array CpInfo := pool [(1, .class_ 2), (0, u "java/lang/constant/Constable"), (0, .class_ 4), (0, u "java/lang/Object")] 6

/-- java/lang/constant/Constable -/
def k5 : Class := { plain "java/lang/constant/Constable" (some 0) with
  accessFlags := 1537
  interfaces := #[]
  cf := some (fileOf pool5 1 #[] #[] 1537 3 #[] #[])
  fields := #[]
  methods := #[]
  instanceTypes := #[]
  staticTypes := #[]
  resolved := Array.replicate 11 none
  statics := none }

def pool6 : Array CpInfo := pool [(1, .class_ 2), (0, u "java/lang/constant/ConstantDesc"), (0, .class_ 4), (0, u "java/lang/Object")] 32

/-- java/lang/constant/ConstantDesc -/
def k6 : Class := { plain "java/lang/constant/ConstantDesc" (some 0) with
  accessFlags := 1537
  interfaces := #[]
  cf := some (fileOf pool6 1 #[] #[] 1537 3 #[] #[])
  fields := #[]
  methods := #[]
  instanceTypes := #[]
  staticTypes := #[]
  resolved := Array.replicate 37 none
  statics := none }

def pool7 : Array CpInfo := pool [(1, .methodref 2 3), (0, .class_ 4), (0, .nameAndType 5 6), (0, u "java/lang/Object"), (0, u "<init>"), (0, u "()V"), (0, .string 8), (0, u ""), (0, .fieldref 10 11), (0, .class_ 12), (0, .nameAndType 13 14), (0, u "java/lang/String"), (0, u "value"), (0, u "[B"), (0, .fieldref 10 16), (0, .nameAndType 17 18), (0, u "coder"), (0, u "B"), (2, u "hash"), (0, u "I"), (2, u "hashIsZero"), (0, u "Z"), (0, .methodref 10 28), (0, .nameAndType 5 29), (0, u "([CIILjava/lang/Void;)V"), (8, .fieldref 10 39), (0, .nameAndType 40 26), (0, u "COMPACT_STRINGS"), (1, .class_ 44), (1, u "java/lang/StringUTF16"), (0, u "compress"), (1, .methodref 42 48), (0, .nameAndType 49 50), (0, u "coderFromArrayLen"), (0, u "([BI)B"), (126, .methodref 42 178), (0, .nameAndType 45 179), (0, u "([CII)[B"), (395, .class_ 576), (0, u "java/lang/CharSequence"), (22, u "CASE_INSENSITIVE_ORDER"), (0, u "Ljava/util/Comparator;"), (409, u "([C)V"), (90, u "serialPersistentFields"), (0, u "[Ljava/io/ObjectStreamField;"), (0, .class_ 1104), (0, u "java/lang/String$CaseInsensitiveComparator"), (1, .class_ 1107), (0, u "java/io/Serializable"), (0, .class_ 1109), (0, u "java/lang/Comparable"), (0, .class_ 1111), (0, u "java/lang/constant/Constable"), (0, .class_ 1113), (0, u "java/lang/constant/ConstantDesc"), (2, u "serialVersionUID"), (0, u "J"), (3, u "REPL"), (0, u "C"), (2, u "LATIN1"), (1, u "UTF16")] 323

def k7m0 : Method := { name := "<init>", desc := "()V", sig := { parameters := [], returnType := none }, accessFlags := 1, code := none }
def k7c1 : Code := { maxStack := 5, maxLocals := 2, code := jdk_42_method_3_code, exceptionTable := #[], attributes := #[] }
def k7m1 : Method := { name := "<init>", desc := "([C)V", sig := { parameters := [(.array .char)], returnType := none }, accessFlags := 1, code := some k7c1 }
def k7c2 : Code := { maxStack := 4, maxLocals := 6, code := jdk_42_method_149_code, exceptionTable := #[], attributes := #[] }
def k7m2 : Method := { name := "<init>", desc := "([CIILjava/lang/Void;)V", sig := { parameters := [(.array .char), .int, .int, (.object "java/lang/Void")], returnType := none }, accessFlags := 2, code := some k7c2 }
/-- java/lang/String -/
def k7 : Class := { plain "java/lang/String" (some 0) with
  accessFlags := 49
  interfaces := #[2, 3, 4, 5, 6]
  cf := some (fileOf pool7 10 #[.nestMembers #[1103]] #[{ accessFlags := 1, nameIndex := 5, descriptorIndex := 6, attributes := #[] }, { accessFlags := 1, nameIndex := 5, descriptorIndex := 1010, attributes := #[] }, { accessFlags := 2, nameIndex := 5, descriptorIndex := 29, attributes := #[] }] 49 2 #[1106, 1108, 575, 1110, 1112] #[{ accessFlags := 18, nameIndex := 13, descriptorIndex := 14, attributes := #[] }, { accessFlags := 18, nameIndex := 17, descriptorIndex := 18, attributes := #[] }, { accessFlags := 2, nameIndex := 21, descriptorIndex := 22, attributes := #[] }, { accessFlags := 2, nameIndex := 25, descriptorIndex := 26, attributes := #[] }, { accessFlags := 26, nameIndex := 1116, descriptorIndex := 1117, attributes := #[] }, { accessFlags := 24, nameIndex := 40, descriptorIndex := 26, attributes := #[] }, { accessFlags := 26, nameIndex := 1101, descriptorIndex := 1102, attributes := #[] }, { accessFlags := 26, nameIndex := 1121, descriptorIndex := 1122, attributes := #[] }, { accessFlags := 25, nameIndex := 599, descriptorIndex := 600, attributes := #[] }, { accessFlags := 24, nameIndex := 1125, descriptorIndex := 18, attributes := #[] }, { accessFlags := 24, nameIndex := 1127, descriptorIndex := 18, attributes := #[] }])
  fields := #[{ name := "value", type := (.array .byte), accessFlags := 18, slot := 0, constantValue := 0 }, { name := "coder", type := .byte, accessFlags := 18, slot := 1, constantValue := 0 }, { name := "hash", type := .int, accessFlags := 2, slot := 2, constantValue := 0 }, { name := "hashIsZero", type := .boolean, accessFlags := 2, slot := 3, constantValue := 0 }, { name := "serialVersionUID", type := .long, accessFlags := 26, slot := 0, constantValue := 0 }, { name := "COMPACT_STRINGS", type := .boolean, accessFlags := 24, slot := 1, constantValue := 0 }, { name := "serialPersistentFields", type := (.array (.object "java/io/ObjectStreamField")), accessFlags := 26, slot := 2, constantValue := 0 }, { name := "REPL", type := .char, accessFlags := 26, slot := 3, constantValue := 0 }, { name := "CASE_INSENSITIVE_ORDER", type := (.object "java/util/Comparator"), accessFlags := 25, slot := 4, constantValue := 0 }, { name := "LATIN1", type := .byte, accessFlags := 24, slot := 5, constantValue := 0 }, { name := "UTF16", type := .byte, accessFlags := 24, slot := 6, constantValue := 0 }]
  methods := #[k7m0, k7m1, k7m2]
  instanceTypes := #[(.array .byte), .byte, .int, .boolean]
  staticTypes := #[.long, .boolean, (.array (.object "java/io/ObjectStreamField")), .char, (.object "java/util/Comparator"), .byte, .byte]
  resolved := Array.replicate 1451 none
  statics := some 0 }

def pool8 : Array CpInfo := pool [(6, .class_ 8), (1, u "java/lang/Object"), (0, u "<init>"), (0, u "()V"), (1, .class_ 14), (1, u "java/lang/StringUTF16"), (31, u "$assertionsDisabled"), (0, u "Z"), (13, u "HI_BYTE_SHIFT"), (0, u "I"), (2, u "LO_BYTE_SHIFT"), (49, .methodref 12 116), (0, .nameAndType 117 118), (0, u "compress"), (0, u "([CI[BII)I"), (3, u "([CII)[B"), (138, u "coderFromArrayLen"), (0, u "([BI)B"), (106, .class_ 371), (1, u "java/lang/StringUTF16$LinesSpliterator"), (58, u "MAX_LENGTH"), (196, .class_ 628), (0, u "java/lang/StringUTF16$CodePointsSpliterator"), (0, .class_ 630), (0, u "java/lang/StringUTF16$CharsSpliterator")] 4

def k8m0 : Method := { name := "<init>", desc := "()V", sig := { parameters := [], returnType := none }, accessFlags := 0, code := none }
def k8c1 : Code := { maxStack := 2, maxLocals := 2, code := jdk_52_method_15_code, exceptionTable := #[], attributes := #[] }
def k8m1 : Method := { name := "coderFromArrayLen", desc := "([BI)B", sig := { parameters := [(.array .byte), .int], returnType := some .byte }, accessFlags := 8, code := some k8c1 }
def k8c2 : Code := { maxStack := 5, maxLocals := 6, code := jdk_52_method_16_code, exceptionTable := #[], attributes := #[] }
def k8m2 : Method := { name := "compress", desc := "([CII)[B", sig := { parameters := [(.array .char), .int, .int], returnType := some (.array .byte) }, accessFlags := 9, code := some k8c2 }
def k8c3 : Code := { maxStack := 3, maxLocals := 7, code := jdk_52_method_21_code, exceptionTable := #[], attributes := #[] }
def k8m3 : Method := { name := "compress", desc := "([CI[BII)I", sig := { parameters := [(.array .char), .int, (.array .byte), .int, .int], returnType := some .int }, accessFlags := 9, code := some k8c3 }
/-- java/lang/StringUTF16 -/
def k8 : Class := { plain "java/lang/StringUTF16" (some 0) with
  accessFlags := 48
  interfaces := #[]
  cf := some (fileOf pool8 12 #[.nestMembers #[627, 629, 369]] #[{ accessFlags := 0, nameIndex := 9, descriptorIndex := 10, attributes := #[] }, { accessFlags := 8, nameIndex := 261, descriptorIndex := 262, attributes := #[] }, { accessFlags := 9, nameIndex := 117, descriptorIndex := 122, attributes := #[] }, { accessFlags := 9, nameIndex := 117, descriptorIndex := 118, attributes := #[] }] 48 6 #[] #[{ accessFlags := 26, nameIndex := 61, descriptorIndex := 62, attributes := #[] }, { accessFlags := 26, nameIndex := 65, descriptorIndex := 62, attributes := #[] }, { accessFlags := 24, nameIndex := 430, descriptorIndex := 62, attributes := #[] }, { accessFlags := 4120, nameIndex := 46, descriptorIndex := 47, attributes := #[] }])
  fields := #[{ name := "HI_BYTE_SHIFT", type := .int, accessFlags := 26, slot := 0, constantValue := 0 }, { name := "LO_BYTE_SHIFT", type := .int, accessFlags := 26, slot := 1, constantValue := 0 }, { name := "MAX_LENGTH", type := .int, accessFlags := 24, slot := 2, constantValue := 0 }, { name := "$assertionsDisabled", type := .boolean, accessFlags := 4120, slot := 3, constantValue := 0 }]
  methods := #[k8m0, k8m1, k8m2, k8m3]
  instanceTypes := #[]
  staticTypes := #[.int, .int, .int, .boolean]
  resolved := Array.replicate 635 none
  statics := none }

def pool9 : Array CpInfo := pool [(1, .methodref 2 3), (0, .class_ 4), (0, .nameAndType 5 6), (0, u "java/lang/Object"), (0, u "<init>"), (0, u "()V"), (0, .fieldref 8 9), (0, .class_ 10), (0, .nameAndType 11 12), (0, u "com/example/ubic/ubic/service/Shortfall"), (0, u "reason"), (0, u "Ljava/lang/String;"), (6, u "note"), (0, u "(Ljava/lang/String;)V"), (5, u "()Ljava/lang/String;")] 17

def k9c0 : Code := { maxStack := 1, maxLocals := 1, code := prog_171_method_1_code, exceptionTable := #[], attributes := #[] }
def k9m0 : Method := { name := "<init>", desc := "()V", sig := { parameters := [], returnType := none }, accessFlags := 0, code := some k9c0 }
def k9c1 : Code := { maxStack := 2, maxLocals := 2, code := prog_171_method_2_code, exceptionTable := #[], attributes := #[] }
def k9m1 : Method := { name := "note", desc := "(Ljava/lang/String;)V", sig := { parameters := [(.object "java/lang/String")], returnType := none }, accessFlags := 0, code := some k9c1 }
def k9c2 : Code := { maxStack := 1, maxLocals := 1, code := prog_171_method_4_code, exceptionTable := #[], attributes := #[] }
def k9m2 : Method := { name := "reason", desc := "()Ljava/lang/String;", sig := { parameters := [], returnType := some (.object "java/lang/String") }, accessFlags := 0, code := some k9c2 }
/-- com/example/ubic/ubic/service/Shortfall -/
def k9 : Class := { plain "com/example/ubic/ubic/service/Shortfall" (some 0) with
  accessFlags := 48
  interfaces := #[]
  cf := some (fileOf pool9 8 #[] #[{ accessFlags := 0, nameIndex := 5, descriptorIndex := 6, attributes := #[] }, { accessFlags := 0, nameIndex := 19, descriptorIndex := 20, attributes := #[] }, { accessFlags := 0, nameIndex := 11, descriptorIndex := 26, attributes := #[] }] 48 2 #[] #[{ accessFlags := 2, nameIndex := 11, descriptorIndex := 12, attributes := #[] }])
  fields := #[{ name := "reason", type := (.object "java/lang/String"), accessFlags := 2, slot := 0, constantValue := 0 }]
  methods := #[k9m0, k9m1, k9m2]
  instanceTypes := #[(.object "java/lang/String")]
  staticTypes := #[]
  resolved := Array.replicate 44 none
  statics := none }

def pool10 : Array CpInfo := pool [(4, .class_ 6), (1, u "java/lang/Object"), (0, u "<init>"), (0, u "()V"), (5, .class_ 16), (1, u "java/lang/StringLatin1"), (104, u "$assertionsDisabled"), (0, u "Z"), (98, .class_ 223), (1, u "java/lang/StringLatin1$LinesSpliterator"), (166, .class_ 391), (0, u "java/lang/StringLatin1$CharsSpliterator")] 3

def k10m0 : Method := { name := "<init>", desc := "()V", sig := { parameters := [], returnType := none }, accessFlags := 0, code := none }
/-- java/lang/StringLatin1 -/
def k10 : Class := { plain "java/lang/StringLatin1" (some 0) with
  accessFlags := 48
  interfaces := #[]
  cf := some (fileOf pool10 14 #[.nestMembers #[390, 221]] #[{ accessFlags := 0, nameIndex := 7, descriptorIndex := 8, attributes := #[] }] 48 4 #[] #[{ accessFlags := 4120, nameIndex := 121, descriptorIndex := 122, attributes := #[] }])
  fields := #[{ name := "$assertionsDisabled", type := .boolean, accessFlags := 4120, slot := 0, constantValue := 0 }]
  methods := #[k10m0]
  instanceTypes := #[]
  staticTypes := #[.boolean]
  resolved := Array.replicate 395 none
  statics := none }

def pool11 : Array CpInfo := pool [(2, .class_ 4), (1, u "java/lang/Object"), (0, u "<init>"), (0, u "()V"), (17, .class_ 26), (1, u "jdk/internal/util/Preconditions"), (28, .class_ 56), (0, u "jdk/internal/util/Preconditions$4"), (57, .class_ 115), (0, u "jdk/internal/util/Preconditions$1"), (7, u "SIOOBE_FORMATTER"), (0, u "Ljava/util/function/BiFunction;"), (0, .class_ 126), (0, u "jdk/internal/util/Preconditions$2"), (3, u "AIOOBE_FORMATTER"), (0, .class_ 132), (0, u "jdk/internal/util/Preconditions$3"), (3, u "IOOBE_FORMATTER")] 57

def k11m0 : Method := { name := "<init>", desc := "()V", sig := { parameters := [], returnType := none }, accessFlags := 1, code := none }
/-- jdk/internal/util/Preconditions -/
def k11 : Class := { plain "jdk/internal/util/Preconditions" (some 0) with
  accessFlags := 33
  interfaces := #[]
  cf := some (fileOf pool11 24 #[.nestMembers #[55, 131, 125, 114]] #[{ accessFlags := 1, nameIndex := 5, descriptorIndex := 6, attributes := #[] }] 33 2 #[] #[{ accessFlags := 25, nameIndex := 123, descriptorIndex := 124, attributes := #[] }, { accessFlags := 25, nameIndex := 130, descriptorIndex := 124, attributes := #[] }, { accessFlags := 25, nameIndex := 136, descriptorIndex := 124, attributes := #[] }])
  fields := #[{ name := "SIOOBE_FORMATTER", type := (.object "java/util/function/BiFunction"), accessFlags := 25, slot := 0, constantValue := 0 }, { name := "AIOOBE_FORMATTER", type := (.object "java/util/function/BiFunction"), accessFlags := 25, slot := 1, constantValue := 0 }, { name := "IOOBE_FORMATTER", type := (.object "java/util/function/BiFunction"), accessFlags := 25, slot := 2, constantValue := 0 }]
  methods := #[k11m0]
  instanceTypes := #[]
  staticTypes := #[(.object "java/util/function/BiFunction"), (.object "java/util/function/BiFunction"), (.object "java/util/function/BiFunction")]
  resolved := Array.replicate 194 none
  statics := some 1 }

def pool12 : Array CpInfo := pool [(9, u "<init>"), (6, .class_ 18), (1, u "java/lang/Object"), (0, u "()V"), (1, .class_ 23), (1, u "jdk/internal/util/ArraysSupport"), (0, u "LOG2_ARRAY_LONG_INDEX_SCALE"), (0, u "I"), (2, u "U"), (0, u "Ljdk/internal/misc/Unsafe;"), (8, u "BIG_ENDIAN"), (0, u "Z"), (8, u "LOG2_BYTE_BIT_SIZE"), (4, u "LOG2_ARRAY_INT_INDEX_SCALE"), (54, u "JLA"), (0, u "Ljdk/internal/access/JavaLangAccess;"), (11, u "LOG2_ARRAY_BOOLEAN_INDEX_SCALE"), (9, u "LOG2_ARRAY_BYTE_INDEX_SCALE"), (5, u "LOG2_ARRAY_CHAR_INDEX_SCALE"), (5, u "LOG2_ARRAY_SHORT_INDEX_SCALE"), (18, u "LOG2_ARRAY_FLOAT_INDEX_SCALE"), (24, u "LOG2_ARRAY_DOUBLE_INDEX_SCALE"), (89, u "T_BOOLEAN"), (2, u "T_CHAR"), (1, u "T_FLOAT"), (1, u "T_DOUBLE"), (1, u "T_BYTE"), (1, u "T_SHORT"), (1, u "T_INT"), (1, u "T_LONG"), (1, u "SOFT_MAX_ARRAY_LENGTH")] 83

def k12m0 : Method := { name := "<init>", desc := "()V", sig := { parameters := [], returnType := none }, accessFlags := 2, code := none }
/-- jdk/internal/util/ArraysSupport -/
def k12 : Class := { plain "jdk/internal/util/ArraysSupport" (some 0) with
  accessFlags := 33
  interfaces := #[]
  cf := some (fileOf pool12 21 #[] #[{ accessFlags := 2, nameIndex := 9, descriptorIndex := 19, attributes := #[] }] 33 16 #[] #[{ accessFlags := 24, nameIndex := 28, descriptorIndex := 29, attributes := #[] }, { accessFlags := 26, nameIndex := 38, descriptorIndex := 39, attributes := #[] }, { accessFlags := 25, nameIndex := 121, descriptorIndex := 25, attributes := #[] }, { accessFlags := 25, nameIndex := 131, descriptorIndex := 25, attributes := #[] }, { accessFlags := 25, nameIndex := 137, descriptorIndex := 25, attributes := #[] }, { accessFlags := 25, nameIndex := 143, descriptorIndex := 25, attributes := #[] }, { accessFlags := 25, nameIndex := 53, descriptorIndex := 25, attributes := #[] }, { accessFlags := 25, nameIndex := 24, descriptorIndex := 25, attributes := #[] }, { accessFlags := 25, nameIndex := 162, descriptorIndex := 25, attributes := #[] }, { accessFlags := 25, nameIndex := 187, descriptorIndex := 25, attributes := #[] }, { accessFlags := 26, nameIndex := 48, descriptorIndex := 25, attributes := #[] }, { accessFlags := 25, nameIndex := 277, descriptorIndex := 25, attributes := #[] }, { accessFlags := 25, nameIndex := 280, descriptorIndex := 25, attributes := #[] }, { accessFlags := 25, nameIndex := 282, descriptorIndex := 25, attributes := #[] }, { accessFlags := 25, nameIndex := 284, descriptorIndex := 25, attributes := #[] }, { accessFlags := 25, nameIndex := 286, descriptorIndex := 25, attributes := #[] }, { accessFlags := 25, nameIndex := 288, descriptorIndex := 25, attributes := #[] }, { accessFlags := 25, nameIndex := 290, descriptorIndex := 25, attributes := #[] }, { accessFlags := 25, nameIndex := 292, descriptorIndex := 25, attributes := #[] }, { accessFlags := 26, nameIndex := 108, descriptorIndex := 109, attributes := #[] }, { accessFlags := 25, nameIndex := 294, descriptorIndex := 25, attributes := #[] }])
  fields := #[{ name := "U", type := (.object "jdk/internal/misc/Unsafe"), accessFlags := 24, slot := 0, constantValue := 0 }, { name := "BIG_ENDIAN", type := .boolean, accessFlags := 26, slot := 1, constantValue := 0 }, { name := "LOG2_ARRAY_BOOLEAN_INDEX_SCALE", type := .int, accessFlags := 25, slot := 2, constantValue := 0 }, { name := "LOG2_ARRAY_BYTE_INDEX_SCALE", type := .int, accessFlags := 25, slot := 3, constantValue := 0 }, { name := "LOG2_ARRAY_CHAR_INDEX_SCALE", type := .int, accessFlags := 25, slot := 4, constantValue := 0 }, { name := "LOG2_ARRAY_SHORT_INDEX_SCALE", type := .int, accessFlags := 25, slot := 5, constantValue := 0 }, { name := "LOG2_ARRAY_INT_INDEX_SCALE", type := .int, accessFlags := 25, slot := 6, constantValue := 0 }, { name := "LOG2_ARRAY_LONG_INDEX_SCALE", type := .int, accessFlags := 25, slot := 7, constantValue := 0 }, { name := "LOG2_ARRAY_FLOAT_INDEX_SCALE", type := .int, accessFlags := 25, slot := 8, constantValue := 0 }, { name := "LOG2_ARRAY_DOUBLE_INDEX_SCALE", type := .int, accessFlags := 25, slot := 9, constantValue := 0 }, { name := "LOG2_BYTE_BIT_SIZE", type := .int, accessFlags := 26, slot := 10, constantValue := 0 }, { name := "T_BOOLEAN", type := .int, accessFlags := 25, slot := 11, constantValue := 0 }, { name := "T_CHAR", type := .int, accessFlags := 25, slot := 12, constantValue := 0 }, { name := "T_FLOAT", type := .int, accessFlags := 25, slot := 13, constantValue := 0 }, { name := "T_DOUBLE", type := .int, accessFlags := 25, slot := 14, constantValue := 0 }, { name := "T_BYTE", type := .int, accessFlags := 25, slot := 15, constantValue := 0 }, { name := "T_SHORT", type := .int, accessFlags := 25, slot := 16, constantValue := 0 }, { name := "T_INT", type := .int, accessFlags := 25, slot := 17, constantValue := 0 }, { name := "T_LONG", type := .int, accessFlags := 25, slot := 18, constantValue := 0 }, { name := "JLA", type := (.object "jdk/internal/access/JavaLangAccess"), accessFlags := 26, slot := 19, constantValue := 0 }, { name := "SOFT_MAX_ARRAY_LENGTH", type := .int, accessFlags := 25, slot := 20, constantValue := 0 }]
  methods := #[k12m0]
  instanceTypes := #[]
  staticTypes := #[(.object "jdk/internal/misc/Unsafe"), .boolean, .int, .int, .int, .int, .int, .int, .int, .int, .int, .int, .int, .int, .int, .int, .int, .int, .int, (.object "jdk/internal/access/JavaLangAccess"), .int]
  resolved := Array.replicate 378 none
  statics := none }

def pool13 : Array CpInfo := pool [(1, u "java/lang/Cloneable"), (0, .class_ 1), (0, u "java/lang/Object"), (0, .class_ 3)] 3

/-- java/lang/Cloneable -/
def k13 : Class := { plain "java/lang/Cloneable" (some 0) with
  accessFlags := 1537
  interfaces := #[]
  cf := some (fileOf pool13 2 #[] #[] 1537 4 #[] #[])
  fields := #[]
  methods := #[]
  instanceTypes := #[]
  staticTypes := #[]
  resolved := Array.replicate 8 none
  statics := none }

/-- the primitive byte -/
def k14 : Class := { plain "byte" none with kind := .primitive 'B', accessFlags := 0x411 }
/-- [B -/
def k15 : Class := { plain "[B" (some 0) with kind := .array 14 .byte, interfaces := #[13, 2], accessFlags := 1041 }

/-- the primitive char -/
def k16 : Class := { plain "char" none with kind := .primitive 'C', accessFlags := 0x411 }
/-- [C -/
def k17 : Class := { plain "[C" (some 0) with kind := .array 16 .char, interfaces := #[13, 2], accessFlags := 1041 }

def heap : Heap := #[{ cls := 7, slots := #[.long 0, .int 1, .null, .int 0, .null, .int 0, .int 0], vm := .statics 7 },
  { cls := 11, slots := #[.null, .null, .null], vm := .statics 11 }]
def classes : Array Class := #[k0, k1, k2, k3, k4, k5, k6, k7, k8, k9, k10, k11, k12, k13, k14, k15, k16, k17]
def interned : List (Array UInt16 × Addr) := []
def slotsUsed : Nat := 10
def theMethod : MethodId := ⟨1, 2⟩
def args0 : Array Value := #[.int 5, .int 65, .int 66, .int 67]
def aboutOver (below : List Frame) : State where
  vm := { classes := classes, interned := interned.toArray }
  heap := heap
  slotsUsed := slotsUsed
  threads := #[{ frames := .invoking theMethod args0 :: below }]
def below0 : List Frame := [.native { method := ⟨0, 0⟩, args := #[] }]
def about1 : State := aboutOver below0
def p0 : Program := .bare "" "" ""
def e0 : Env := launch0.env 0 0 0
theorem w_frames : about1.frames = Frame.invoking theMethod args0 :: below0 := rfl
set_option maxRecDepth 65536 in
theorem w_args : argsFit about1.vm theMethod args0 = true := by decide +kernel
set_option maxRecDepth 65536 in
theorem w_heap : heapFits about1 = true := by decide +kernel
set_option maxRecDepth 65536 in
theorem w_runnable : about1.curStatus? = some .runnable := by decide +kernel
set_option maxRecDepth 65536 in
theorem w_alone : about1.alone = true := by decide +kernel
set_option maxRecDepth 65536 in
theorem w_named : about1.methodNamed? x = some theMethod := by decide +kernel
set_option maxRecDepth 65536 in
theorem w_hears : about1.hears theMethod below0 = true := by decide +kernel
set_option maxRecDepth 65536 in
theorem w_ripe : about1.ripe theMethod args0 below0 = true := by decide +kernel
theorem w_running : about1.status = .running := rfl
set_option maxRecDepth 65536 in
theorem w_room : about1.hasRoom e0.platform room_1 = true :=
  launch0.hasRoom_least _ room_1 (by decide +kernel) (by decide +kernel) (by decide +kernel) (by decide +kernel) (by decide +kernel) (by decide +kernel)
theorem allAtoms_all (ts : List Jvm.Cond) (a : Array Jvm.Value) (st : Jvm.State) : (allAtoms ts).before a st = ts.all (fun c => c.before a st) := by
  induction ts with
  | nil => rfl
  | cons c t ih =>
    show (Jvm.Cond.and c (allAtoms t)).before a st = _
    rw [Jvm.Cond.before_and, ih, List.all_cons]
def words1 : List Jvm.Cond := Jvm.Cond.code x code maxLocals ret :: tables_1
/-- a 'code' word, met by the world's own term for the bytes: nothing is compared byte by byte -/
theorem code_word {y : MethodName} {bytes : ByteArray} {mx : Nat} {rt : Option FieldType} {a : Array Value} {s : State} {m : MethodId} {meth : Method} {c : Code} (h1 : s.methodNamed? y = some m) (h2 : s.vm.method? m = some meth) (h3 : meth.code = some c) (h4 : c.code = bytes)
    (h5 : (c.maxLocals == mx && c.exceptionTable.isEmpty && decide (c.maxStack ≤ mostOperands) && decide (meth.sig.returnType = rt) && !meth.locks && decide (parseMethodDescriptor y.desc = some meth.sig)) = true) : (Jvm.Cond.code y bytes mx rt).before a s = true := by
  simp only [Bool.and_eq_true, beq_iff_eq, Bool.not_eq_true', decide_eq_true_eq] at h5
  obtain ⟨⟨⟨⟨⟨g1, g2⟩, g3⟩, g4⟩, g5⟩, g6⟩ := h5
  simp [Cond.before, Cond.holds, Cond.value, h1, h2, h3, h4, g1, g2, g3, g4, g5, g6]
def isCode : Jvm.Cond → Bool
  | .code _ _ _ _ => true
  | _ => false
theorem all_split {L : List Jvm.Cond} {P : Jvm.Cond → Bool} (h1 : L.all (fun c => isCode c || P c) = true) (h2 : ∀ c ∈ L.filter isCode, P c = true) : L.all P = true := by
  refine List.all_eq_true.mpr fun c hc => ?_
  have h := List.all_eq_true.mp h1 c hc
  rcases Bool.eq_false_or_eq_true (isCode c) with hi | hi
  · exact h2 c (List.mem_filter.mpr ⟨hc, hi⟩)
  · simpa [hi] using h
set_option maxRecDepth 65536 in
theorem w_c0 : (Jvm.Cond.code x code maxLocals ret).before args0 about1 = true := code_word (m := ⟨1, 2⟩) (meth := k1m2) (c := k1c2) (by decide +kernel) rfl rfl rfl (by decide +kernel)
set_option maxRecDepth 65536 in
theorem w_c1 : (Jvm.Cond.code ({ cls := "com/example/ubic/ubic/service/ShortfallNotePinLaw", name := "mk", desc := "(IZ)Ljava/lang/String;" } : Jvm.MethodName) method_2_code (3 : Nat) (Option.some (Jvm.ClassFile.FieldType.object "java/lang/String"))).before args0 about1 = true := code_word (m := ⟨1, 1⟩) (meth := k1m1) (c := k1c1) (by decide +kernel) rfl rfl rfl (by decide +kernel)
set_option maxRecDepth 65536 in
theorem w_c2 : (Jvm.Cond.code ({ cls := "java/lang/String", name := "<init>", desc := "([C)V" } : Jvm.MethodName) jdk_42_method_3_code (2 : Nat) (Option.none : Option Jvm.ClassFile.FieldType)).before args0 about1 = true := code_word (m := ⟨7, 1⟩) (meth := k7m1) (c := k7c1) (by decide +kernel) rfl rfl rfl (by decide +kernel)
set_option maxRecDepth 65536 in
theorem w_c3 : (Jvm.Cond.code ({ cls := "java/lang/String", name := "<init>", desc := "([CIILjava/lang/Void;)V" } : Jvm.MethodName) jdk_42_method_149_code (6 : Nat) (Option.none : Option Jvm.ClassFile.FieldType)).before args0 about1 = true := code_word (m := ⟨7, 2⟩) (meth := k7m2) (c := k7c2) (by decide +kernel) rfl rfl rfl (by decide +kernel)
set_option maxRecDepth 65536 in
theorem w_c4 : (Jvm.Cond.code ({ cls := "java/lang/Object", name := "<init>", desc := "()V" } : Jvm.MethodName) object_method_1_code (1 : Nat) (Option.none : Option Jvm.ClassFile.FieldType)).before args0 about1 = true := code_word (m := ⟨0, 0⟩) (meth := k0m0) (c := k0c0) (by decide +kernel) rfl rfl rfl (by decide +kernel)
set_option maxRecDepth 65536 in
theorem w_c5 : (Jvm.Cond.code ({ cls := "java/lang/StringUTF16", name := "compress", desc := "([CII)[B" } : Jvm.MethodName) jdk_52_method_16_code (6 : Nat) (Option.some (Jvm.ClassFile.FieldType.array Jvm.ClassFile.FieldType.byte))).before args0 about1 = true := code_word (m := ⟨8, 2⟩) (meth := k8m2) (c := k8c2) (by decide +kernel) rfl rfl rfl (by decide +kernel)
set_option maxRecDepth 65536 in
theorem w_c6 : (Jvm.Cond.code ({ cls := "java/lang/StringUTF16", name := "compress", desc := "([CI[BII)I" } : Jvm.MethodName) jdk_52_method_21_code (7 : Nat) (Option.some Jvm.ClassFile.FieldType.int)).before args0 about1 = true := code_word (m := ⟨8, 3⟩) (meth := k8m3) (c := k8c3) (by decide +kernel) rfl rfl rfl (by decide +kernel)
set_option maxRecDepth 65536 in
theorem w_c7 : (Jvm.Cond.code ({ cls := "java/lang/StringUTF16", name := "coderFromArrayLen", desc := "([BI)B" } : Jvm.MethodName) jdk_52_method_15_code (2 : Nat) (Option.some Jvm.ClassFile.FieldType.byte)).before args0 about1 = true := code_word (m := ⟨8, 1⟩) (meth := k8m1) (c := k8c1) (by decide +kernel) rfl rfl rfl (by decide +kernel)
set_option maxRecDepth 65536 in
theorem w_c8 : (Jvm.Cond.code ({ cls := "com/example/ubic/ubic/service/Shortfall", name := "<init>", desc := "()V" } : Jvm.MethodName) prog_171_method_1_code (1 : Nat) (Option.none : Option Jvm.ClassFile.FieldType)).before args0 about1 = true := code_word (m := ⟨9, 0⟩) (meth := k9m0) (c := k9c0) (by decide +kernel) rfl rfl rfl (by decide +kernel)
set_option maxRecDepth 65536 in
theorem w_c9 : (Jvm.Cond.code ({ cls := "com/example/ubic/ubic/service/Shortfall", name := "reason", desc := "()Ljava/lang/String;" } : Jvm.MethodName) prog_171_method_4_code (1 : Nat) (Option.some (Jvm.ClassFile.FieldType.object "java/lang/String"))).before args0 about1 = true := code_word (m := ⟨9, 2⟩) (meth := k9m2) (c := k9c2) (by decide +kernel) rfl rfl rfl (by decide +kernel)
set_option maxRecDepth 65536 in
theorem w_c10 : (Jvm.Cond.code ({ cls := "com/example/ubic/ubic/service/Shortfall", name := "note", desc := "(Ljava/lang/String;)V" } : Jvm.MethodName) prog_171_method_2_code (2 : Nat) (Option.none : Option Jvm.ClassFile.FieldType)).before args0 about1 = true := code_word (m := ⟨9, 1⟩) (meth := k9m1) (c := k9c1) (by decide +kernel) rfl rfl rfl (by decide +kernel)
def codes1 : List Jvm.Cond := [Jvm.Cond.code x code maxLocals ret, Jvm.Cond.code ({ cls := "com/example/ubic/ubic/service/ShortfallNotePinLaw", name := "mk", desc := "(IZ)Ljava/lang/String;" } : Jvm.MethodName) method_2_code (3 : Nat) (Option.some (Jvm.ClassFile.FieldType.object "java/lang/String")), Jvm.Cond.code ({ cls := "java/lang/String", name := "<init>", desc := "([C)V" } : Jvm.MethodName) jdk_42_method_3_code (2 : Nat) (Option.none : Option Jvm.ClassFile.FieldType), Jvm.Cond.code ({ cls := "java/lang/String", name := "<init>", desc := "([CIILjava/lang/Void;)V" } : Jvm.MethodName) jdk_42_method_149_code (6 : Nat) (Option.none : Option Jvm.ClassFile.FieldType), Jvm.Cond.code ({ cls := "java/lang/Object", name := "<init>", desc := "()V" } : Jvm.MethodName) object_method_1_code (1 : Nat) (Option.none : Option Jvm.ClassFile.FieldType), Jvm.Cond.code ({ cls := "java/lang/StringUTF16", name := "compress", desc := "([CII)[B" } : Jvm.MethodName) jdk_52_method_16_code (6 : Nat) (Option.some (Jvm.ClassFile.FieldType.array Jvm.ClassFile.FieldType.byte)), Jvm.Cond.code ({ cls := "java/lang/StringUTF16", name := "compress", desc := "([CI[BII)I" } : Jvm.MethodName) jdk_52_method_21_code (7 : Nat) (Option.some Jvm.ClassFile.FieldType.int), Jvm.Cond.code ({ cls := "java/lang/StringUTF16", name := "coderFromArrayLen", desc := "([BI)B" } : Jvm.MethodName) jdk_52_method_15_code (2 : Nat) (Option.some Jvm.ClassFile.FieldType.byte), Jvm.Cond.code ({ cls := "com/example/ubic/ubic/service/Shortfall", name := "<init>", desc := "()V" } : Jvm.MethodName) prog_171_method_1_code (1 : Nat) (Option.none : Option Jvm.ClassFile.FieldType), Jvm.Cond.code ({ cls := "com/example/ubic/ubic/service/Shortfall", name := "reason", desc := "()Ljava/lang/String;" } : Jvm.MethodName) prog_171_method_4_code (1 : Nat) (Option.some (Jvm.ClassFile.FieldType.object "java/lang/String")), Jvm.Cond.code ({ cls := "com/example/ubic/ubic/service/Shortfall", name := "note", desc := "(Ljava/lang/String;)V" } : Jvm.MethodName) prog_171_method_2_code (2 : Nat) (Option.none : Option Jvm.ClassFile.FieldType)]
set_option maxRecDepth 65536 in
theorem codes_eq : words1.filter isCode = codes1 := rfl
theorem w_codes : ∀ c ∈ words1.filter isCode, c.before args0 about1 = true := by
  rw [codes_eq]
  intro c hc
  simp only [codes1, List.mem_cons, List.not_mem_nil, or_false] at hc
  rcases hc with rfl | rfl | rfl | rfl | rfl | rfl | rfl | rfl | rfl | rfl | rfl
  · exact w_c0
  · exact w_c1
  · exact w_c2
  · exact w_c3
  · exact w_c4
  · exact w_c5
  · exact w_c6
  · exact w_c7
  · exact w_c8
  · exact w_c9
  · exact w_c10
set_option maxRecDepth 65536 in
theorem w_t1 : (words1.take 24).all (fun c => isCode c || c.before args0 about1) = true := by decide +kernel
set_option maxRecDepth 65536 in
theorem w_t2 : ((words1.drop 24).take 24).all (fun c => isCode c || c.before args0 about1) = true := by decide +kernel
set_option maxRecDepth 65536 in
theorem w_t3 : ((words1.drop 24).drop 24).all (fun c => isCode c || c.before args0 about1) = true := by decide +kernel
theorem w_tables : (allAtoms (Jvm.Cond.code x code maxLocals ret :: tables_1)).before args0 about1 = true := by
  rw [allAtoms_all]
  show words1.all (fun c => c.before args0 about1) = true
  refine all_split ?_ w_codes
  rw [← List.take_append_drop 24 words1, List.all_append, w_t1, ← List.take_append_drop 24 (words1.drop 24), List.all_append, w_t2, w_t3]
  rfl
set_option maxRecDepth 65536 in
theorem w_rest : rest_1_c.before args0 about1 = true := by decide +kernel
set_option maxRecDepth 65536 in
theorem w_case : (Jvm.Cond.and given_1 narrow_1).before args0 about1 = true := by decide +kernel
set_option maxRecDepth 65536 in
theorem w_consts : constsHeld consts_1 about1 := Jvm.Lit.constsHeldB_iff.mp (by decide +kernel)
theorem w_applies : (headSpec (Jvm.Cond.code x code maxLocals ret :: tables_1) room_1).applies x e0.platform about1 = true :=
  (Spec.applies_iff w_frames).mpr ⟨w_running, w_runnable, w_alone, w_named, w_hears, w_ripe, w_room, w_tables⟩
theorem atStart : AtStart classFile x code maxLocals ret World_1 tables_1 room_1 Calls_1 rest_1 Pre_1 launch0 p0 e0 about1 theMethod args0 below0 :=
  ⟨lists_1, trivial, launch0.admits_env _ _ _, launch0.least_env, fairChoices_fair.cas, fairChoices_fair.clock, w_frames, w_args, w_heap, w_applies, ⟨w_consts, trivial⟩, w_rest, w_case⟩
end start1
theorem witness_1 : WitnessClaimed_1 := ⟨start1.p0, start1.e0, start1.about1, start1.theMethod, start1.args0, start1.below0, start1.atStart⟩
end Jvm.Pilot.@@N@@
