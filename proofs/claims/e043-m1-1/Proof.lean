import JvmDerived
import JvmDerived.Pilot.@@N@@Statement
import JvmDerived.Pilot.@@N@@Code
set_option linter.unusedVariables false
set_option linter.unusedSimpArgs false
namespace Jvm.Pilot.@@N@@
open Jvm Jvm.ClassFile Sem Op Lib Jvm.Free Jvm.Stand Jvm.LawKit Jvm.RoadKit Bundle Jvm.Pilot.@@N@@.Jvm.D
/-- from U the run comes to an end of which P holds -/
def Run (tb : Tables) (e : Env) (below : List Frame) (P : Outcome → State → Prop) (U : State) : Prop :=
  ∃ s₂ o, Steps tb e below U s₂ ∧ s₂.status = .running ∧ Ended s₂ below o ∧ P o s₂
theorem Run.of {tb : Tables} {e : Env} {below : List Frame} {P : Outcome → State → Prop} {U U' : State} (st : ∀ t, Steps tb e below U' t → Steps tb e below U t) (k : Run tb e below P U') : Run tb e below P U := by
  obtain ⟨s₂, o, h, r⟩ := k
  exact ⟨s₂, o, st _ h, r⟩
theorem Run.tr {tb : Tables} {e : Env} {below : List Frame} {P : Outcome → State → Prop} {U U' : State} (st : Steps tb e below U U') (k : Run tb e below P U') : Run tb e below P U := by
  obtain ⟨s₂, o, h, r⟩ := k
  exact ⟨s₂, o, st.trans h, r⟩
section Ret
variable {p : Program} {l : Launch} {e : Env} {R : Room} {s : State} {m : MethodId} {args : Array Value} {below : List Frame} {meth : Method} {c : Code} {T : State} {locs : List Loc} {cells slots : Nat}
theorem Run.lret (X : Stand p l e R s m args below meth c T locs cells slots) (hx : p.tables.exec = Jvm.exec) (hlk : meth.locks = false) {pc : Nat} {Ls : Array Slot} {w : Int64} (hret : meth.sig.returnType = some .long) (hd : decode c.code pc = .ok (.lreturn, 1))
    {Qc : Option Value → Heap → List Loc → Prop} {C S : Nat} (hc : cells ≤ C) (hs : slots ≤ S) (q : Qc (some (.long w)) T.heap locs) :
    Run p.tables e below (fun o U' => ∃ v L, o = .returned v ∧ Qc v U'.heap L ∧ FrameEnd s o U' L C S) (T.setTop (mkF m pc Ls [.long w])) := by
  obtain ⟨fs, hr, hrun, hended, hW, hsame⟩ := X.leave (v := some (.long w)) (fun h => by rw [hret] at h; cases h)
  exact ⟨_, _, X.lreturnOut hx hret hd hr, hrun, hended, _, _, rfl, q, ⟨_, rfl⟩, hW, hsame.mono hc hs⟩
theorem Run.zret (X : Stand p l e R s m args below meth c T locs cells slots) (hx : p.tables.exec = Jvm.exec) (hlk : meth.locks = false) {pc : Nat} {Ls : Array Slot} {rest : List Value} (hret : meth.sig.returnType = some .boolean) (hd : decode c.code pc = .ok (.ireturn, 1))
    {Qc : Option Value → Heap → List Loc → Prop} {C S : Nat} (hc : cells ≤ C) (hs : slots ≤ S) (q : Qc (some (.int 1)) T.heap locs) :
    Run p.tables e below (fun o U' => ∃ v L, o = .returned v ∧ Qc v U'.heap L ∧ FrameEnd s o U' L C S) (T.setTop (mkF m pc Ls (.int (1 : Int32) :: rest))) := by
  obtain ⟨fs, hr, hrun, hended, hW, hsame⟩ := X.leave (v := some (.int 1)) (fun h => by rw [hret] at h; cases h)
  exact ⟨_, _, retN X hx (t := .boolean) hret (by simp) hd hr, hrun, hended, _, _, rfl, q, ⟨_, rfl⟩, hW, hsame.mono hc hs⟩
end Ret

theorem d1_0 : decode prog_357_method_26_code 0 = .ok (.aload_n 0, 1) := by decide +kernel
theorem d1_1 : decode prog_357_method_26_code 1 = .ok (.getfield 75, 3) := by decide +kernel
theorem d1_4 : decode prog_357_method_26_code 4 = .ok (.lookupswitch 95 #[(8, 36), (16, 56), (32, 76)], 36) := by decide +kernel
theorem d1_40 : decode prog_357_method_26_code 40 = .ok (.aload_n 0, 1) := by decide +kernel
theorem d1_41 : decode prog_357_method_26_code 41 = .ok (.getfield 79, 3) := by decide +kernel
theorem d1_44 : decode prog_357_method_26_code 44 = .ok (.ifCond .eq 10, 3) := by decide +kernel
theorem d1_47 : decode prog_357_method_26_code 47 = .ok (.lload_n 1, 1) := by decide +kernel
theorem d1_48 : decode prog_357_method_26_code 48 = .ok (.l2i, 1) := by decide +kernel
theorem d1_49 : decode prog_357_method_26_code 49 = .ok (.i2b, 1) := by decide +kernel
theorem d1_50 : decode prog_357_method_26_code 50 = .ok (.i2l, 1) := by decide +kernel
theorem d1_51 : decode prog_357_method_26_code 51 = .ok (.goto 8, 3) := by decide +kernel
theorem d1_54 : decode prog_357_method_26_code 54 = .ok (.lload_n 1, 1) := by decide +kernel
theorem d1_55 : decode prog_357_method_26_code 55 = .ok (.ldc2_w 104, 3) := by decide +kernel
theorem d1_58 : decode prog_357_method_26_code 58 = .ok (.land, 1) := by decide +kernel
theorem d1_59 : decode prog_357_method_26_code 59 = .ok (.lreturn, 1) := by decide +kernel
theorem d1_60 : decode prog_357_method_26_code 60 = .ok (.aload_n 0, 1) := by decide +kernel
theorem d1_61 : decode prog_357_method_26_code 61 = .ok (.getfield 79, 3) := by decide +kernel
theorem d1_64 : decode prog_357_method_26_code 64 = .ok (.ifCond .eq 10, 3) := by decide +kernel
theorem d1_67 : decode prog_357_method_26_code 67 = .ok (.lload_n 1, 1) := by decide +kernel
theorem d1_68 : decode prog_357_method_26_code 68 = .ok (.l2i, 1) := by decide +kernel
theorem d1_69 : decode prog_357_method_26_code 69 = .ok (.i2s, 1) := by decide +kernel
theorem d1_70 : decode prog_357_method_26_code 70 = .ok (.i2l, 1) := by decide +kernel
theorem d1_71 : decode prog_357_method_26_code 71 = .ok (.goto 8, 3) := by decide +kernel
theorem d1_74 : decode prog_357_method_26_code 74 = .ok (.lload_n 1, 1) := by decide +kernel
theorem d1_75 : decode prog_357_method_26_code 75 = .ok (.ldc2_w 169, 3) := by decide +kernel
theorem d1_78 : decode prog_357_method_26_code 78 = .ok (.land, 1) := by decide +kernel
theorem d1_79 : decode prog_357_method_26_code 79 = .ok (.lreturn, 1) := by decide +kernel
theorem d1_80 : decode prog_357_method_26_code 80 = .ok (.aload_n 0, 1) := by decide +kernel
theorem d1_81 : decode prog_357_method_26_code 81 = .ok (.getfield 79, 3) := by decide +kernel
theorem d1_84 : decode prog_357_method_26_code 84 = .ok (.ifCond .eq 9, 3) := by decide +kernel
theorem d1_87 : decode prog_357_method_26_code 87 = .ok (.lload_n 1, 1) := by decide +kernel
theorem d1_88 : decode prog_357_method_26_code 88 = .ok (.l2i, 1) := by decide +kernel
theorem d1_89 : decode prog_357_method_26_code 89 = .ok (.i2l, 1) := by decide +kernel
theorem d1_90 : decode prog_357_method_26_code 90 = .ok (.goto 8, 3) := by decide +kernel
theorem d1_93 : decode prog_357_method_26_code 93 = .ok (.lload_n 1, 1) := by decide +kernel
theorem d1_94 : decode prog_357_method_26_code 94 = .ok (.ldc2_w 171, 3) := by decide +kernel
theorem d1_97 : decode prog_357_method_26_code 97 = .ok (.land, 1) := by decide +kernel
theorem d1_98 : decode prog_357_method_26_code 98 = .ok (.lreturn, 1) := by decide +kernel
theorem d1_99 : decode prog_357_method_26_code 99 = .ok (.lload_n 1, 1) := by decide +kernel
theorem d1_100 : decode prog_357_method_26_code 100 = .ok (.lreturn, 1) := by decide +kernel
theorem pn_1 : plainName "com/example/lockstep/lockstep/core/value/ScalarType" = true := by first | (simp [plainName, overriddenIn]; done) | decide +kernel
theorem pn_0 : plainName "com/example/lockstep/lockstep/core/value/ScalarTypeWrapPinLaw" = true := by first | (simp [plainName, overriddenIn]; done) | decide +kernel
theorem pd_1 : parseMethodDescriptor "(J)J" = some ⟨[.long], some .long⟩ := by decide +kernel
theorem ef_1 (m : MethodId) (x0 : Addr) (x1 : Int64) : entryFrame m #[(.ref x0), (.long x1)] 3 = mkF m 0 #[.val (.ref x0), .val (.long x1), .second] [] := by first | (simp [entryFrame, mkF, argsToLocals, Value.category]; done) | rfl
theorem ef_0 (m : MethodId) (x0 : Int32) (x1 : Int64) : entryFrame m #[(.int x0), (.long x1)] maxLocals = mkF m 0 #[.val (.int x0), .val (.long x1), .second, .unset, .unset, .unset, .unset, .unset, .unset, .unset] [] := by first | (simp [entryFrame, mkF, argsToLocals, Value.category, maxLocals]; done) | rfl
/-- what wrap computes -/
def wrapV (b sg : Int32) (v : Int64) : Int64 :=
  if b = 8 then (if sg = 0 then v &&& 255 else v.toInt32.toInt8.toInt32.toInt64)
  else if b = 16 then (if sg = 0 then v &&& 65535 else v.toInt32.toInt16.toInt32.toInt64)
  else if b = 32 then (if sg = 0 then v &&& 4294967295 else v.toInt32.toInt64)
  else v
/-- what the law expects -/
def expV (w sg : Int32) (v : Int64) : Int64 :=
  if sg = 0 then ((v <<< (((64 : Int32) - w) &&& 0x3f).toInt64).toUInt64 >>> (((64 : Int32) - w) &&& 0x3f).toInt64.toUInt64).toInt64
  else (v <<< (((64 : Int32) - w) &&& 0x3f).toInt64) >>> (((64 : Int32) - w) &&& 0x3f).toInt64

def QW (Z : State) (a1 : Addr) (q2 : Int64) (b sg : Int32) (h0 : Heap) (n0 : Nat) (v : Option Value) (h : Heap) (L : List Loc) : Prop := v = some (.long (wrapV b sg q2)) ∧ Fr n0 L ∧ h = h0
set_option maxRecDepth 65536 in
set_option maxHeartbeats 40000000 in
theorem rmW (l : Launch) (Z : State) (a0 : Array Value) (hw : ∀ d ∈ tables_1, d.before a0 Z = true) (ws : List Jvm.Cond) (a1 : Addr) (q2 : Int64) (b sg : Int32) (h0 : Heap) (n0 : Nat) (FB : Fld Z h0 a1 "com/example/lockstep/lockstep/core/value/ScalarType" "bits" "I" (.int b)) (FS : Fld Z h0 a1 "com/example/lockstep/lockstep/core/value/ScalarType" "signed" "Z" (.int sg)) :
    MetFree l (⟨"com/example/lockstep/lockstep/core/value/ScalarType", "wrap", "(J)J"⟩ : MethodName) (head1 (Jvm.Cond.code (⟨"com/example/lockstep/lockstep/core/value/ScalarType", "wrap", "(J)J"⟩ : MethodName) prog_357_method_26_code 3 (some .long) :: ws) ({ frames := 0, cells := 0, slots := 0, locals := 0 } : Room)) (fun a U => a = #[(.ref a1), (.long q2)] ∧ Z.Warmed39 U.vm ∧ U.heap = h0) (fun _ _ _ _ _ => True) (fun _ U o U' => ∃ v L, o = .returned v ∧ QW Z a1 q2 b sg h0 n0 v U'.heap L ∧ FrameEnd U o U' L ({ frames := 0, cells := 0, slots := 0, locals := 0 } : Room).cells ({ frames := 0, cells := 0, slots := 0, locals := 0 } : Room).slots) := by
  refine MetFree.of_bodySF (plainFor_of_name pn_1) hisR ?_
  intro p e s m args below meth c s₁ Bd hml0 hP hK
  obtain ⟨rfl, hZ, hh⟩ := hP
  have hx := Bd.exec
  have hby := Bd.bytes
  have hml : c.maxLocals = 3 := hml0
  have hown : s.vm.findClass "com/example/lockstep/lockstep/core/value/ScalarType" = some m.cls := findClass_of_methodNamed Bd.named
  have X0 : Stand p l e ({ frames := 0, cells := 0, slots := 0, locals := 0 } : Room) s m #[(.ref a1), (.long q2)] below meth c s₁ [] 0 0 := Stand.of_body Bd
  have e0 : s₁.heap = h0 := by rw [← hh, Bd.state]; rfl
  have N0 := Fr.nil n0
  show Run p.tables e below _ (s₁.setTop (entryFrame m #[(.ref a1), (.long q2)] 3))
  rw [ef_1 m a1 q2]
  show Run _ _ _ _ (s₁.setTop (mkF m 0 #[.val (.ref a1), .val (.long q2), .second] []))
  refine Run.of (fun tz kz => XS.aloadN X0.here hx rfl (hb hby d1_0) rfl rfl kz) ?_
  show Run _ _ _ _ (s₁.setTop (mkF m 1 #[.val (.ref a1), .val (.long q2), .second] [(.ref a1)]))
  obtain ⟨T1, X1, e1, st1⟩ := getF X0 hx hZ hown (host := "") (Or.inl (hw _ (List.mem_of_getElem? (i := 9) rfl))) Via.refl e0 FB (g := (mkF m 1 #[.val (.ref a1), .val (.long q2), .second] [(.ref a1)])) rfl rfl (hb hby d1_1)
  refine Run.of st1 ?_
  show Run _ _ _ _ (T1.setTop (mkF m 4 #[.val (.ref a1), .val (.long q2), .second] [(.int b)]))
  by_cases hb8 : b = 8
  · subst hb8
    show Run _ _ _ _ (T1.setTop (mkF m 4 #[.val (.ref a1), .val (.long q2), .second] [(.int (8 : Int32))]))
    refine Run.of (fun tz kz => X1.lookupswitchHit hx (g := (mkF m 4 #[.val (.ref a1), .val (.long q2), .second] [(.int (8 : Int32))])) rfl (k := (8 : Int32)) (rest := []) rfl (hb hby d1_4) (by decide) (a := 8) (off := 36) (by decide) (show (0 : Int) ≤ 4 + 36 by decide) tz kz) ?_
    show Run _ _ _ _ (T1.setTop (mkF m 40 #[.val (.ref a1), .val (.long q2), .second] []))
    refine Run.of (fun tz kz => XS.aloadN X1.here hx rfl (hb hby d1_40) rfl rfl kz) ?_
    show Run _ _ _ _ (T1.setTop (mkF m 41 #[.val (.ref a1), .val (.long q2), .second] [(.ref a1)]))
    obtain ⟨T2, X2, e2, st2⟩ := getF X1 hx hZ hown (host := "") (Or.inl (hw _ (List.mem_of_getElem? (i := 11) rfl))) Via.refl e1 FS (g := (mkF m 41 #[.val (.ref a1), .val (.long q2), .second] [(.ref a1)])) rfl rfl (hb hby d1_41)
    refine Run.of st2 ?_
    show Run _ _ _ _ (T2.setTop (mkF m 44 #[.val (.ref a1), .val (.long q2), .second] [(.int sg)]))
    by_cases hs : sg = 0
    · show Run _ _ _ _ (T2.setTop (mkF m 44 #[.val (.ref a1), .val (.long q2), .second] [(.int sg)]))
      refine Run.of (fun tz kz => XS.ifYes X2.here hx rfl (pc0 := 44) (pc' := 54) rfl (hb hby d1_44) rfl ((if0 _ _).trans (teq hs).1) (by decide) (by decide) kz) ?_
      show Run _ _ _ _ (T2.setTop (mkF m 54 #[.val (.ref a1), .val (.long q2), .second] []))
      refine Run.of (fun tz kz => XS.lloadN X2.here hx rfl (hb hby d1_54) rfl kz) ?_
      show Run _ _ _ _ (T2.setTop (mkF m 55 #[.val (.ref a1), .val (.long q2), .second] [(.long q2)]))
      refine Run.of (X2.ldc2Long hx hown (mvT hZ (hw _ (List.mem_of_getElem? (i := 28) rfl))) (g := (mkF m 55 #[.val (.ref a1), .val (.long q2), .second] [(.long q2)])) rfl (hb hby d1_55)) ?_
      show Run _ _ _ _ (T2.setTop (mkF m 58 #[.val (.ref a1), .val (.long q2), .second] [(.long (255 : Int64)), (.long q2)]))
      refine Run.of (fun tz kz => XS.land X2.here hx rfl (hb hby d1_58) rfl kz) ?_
      show Run _ _ _ _ (T2.setTop (mkF m 59 #[.val (.ref a1), .val (.long q2), .second] [(.long (q2 &&& (255 : Int64)))]))
      exact Run.lret X2 hx (BodyLoose.notSynchronized Bd) Bd.returns (hb hby d1_59) (Nat.le_refl _) (Nat.le_refl _) ⟨by simp [wrapV, hs], N0, e2⟩
    · show Run _ _ _ _ (T2.setTop (mkF m 44 #[.val (.ref a1), .val (.long q2), .second] [(.int sg)]))
      refine Run.of (fun tz kz => XS.ifNo X2.here hx rfl (hb hby d1_44) rfl ((if0 _ _).trans (feq hs).1) kz) ?_
      show Run _ _ _ _ (T2.setTop (mkF m 47 #[.val (.ref a1), .val (.long q2), .second] []))
      refine Run.of (fun tz kz => XS.lloadN X2.here hx rfl (hb hby d1_47) rfl kz) ?_
      show Run _ _ _ _ (T2.setTop (mkF m 48 #[.val (.ref a1), .val (.long q2), .second] [(.long q2)]))
      refine Run.of (fun tz kz => XS.l2i X2.here hx rfl (hb hby d1_48) rfl kz) ?_
      show Run _ _ _ _ (T2.setTop (mkF m 49 #[.val (.ref a1), .val (.long q2), .second] [(.int (q2.toInt32))]))
      refine Run.of (fun tz kz => XS.i2b X2.here hx rfl (hb hby d1_49) rfl kz) ?_
      show Run _ _ _ _ (T2.setTop (mkF m 50 #[.val (.ref a1), .val (.long q2), .second] [(.int (q2.toInt32.toInt8.toInt32))]))
      refine Run.of (fun tz kz => XS.i2l X2.here hx rfl (hb hby d1_50) rfl kz) ?_
      show Run _ _ _ _ (T2.setTop (mkF m 51 #[.val (.ref a1), .val (.long q2), .second] [(.long (q2.toInt32.toInt8.toInt32.toInt64))]))
      refine Run.of (fun tz kz => XS.goto X2.here hx rfl (pc0 := 51) (pc' := 59) rfl (hb hby d1_51) (by decide) (by decide) kz) ?_
      show Run _ _ _ _ (T2.setTop (mkF m 59 #[.val (.ref a1), .val (.long q2), .second] [(.long (q2.toInt32.toInt8.toInt32.toInt64))]))
      exact Run.lret X2 hx (BodyLoose.notSynchronized Bd) Bd.returns (hb hby d1_59) (Nat.le_refl _) (Nat.le_refl _) ⟨by simp [wrapV, hs], N0, e2⟩
  by_cases hb16 : b = 16
  · subst hb16
    show Run _ _ _ _ (T1.setTop (mkF m 4 #[.val (.ref a1), .val (.long q2), .second] [(.int (16 : Int32))]))
    refine Run.of (fun tz kz => X1.lookupswitchHit hx (g := (mkF m 4 #[.val (.ref a1), .val (.long q2), .second] [(.int (16 : Int32))])) rfl (k := (16 : Int32)) (rest := []) rfl (hb hby d1_4) (by decide) (a := 16) (off := 56) (by decide) (show (0 : Int) ≤ 4 + 56 by decide) tz kz) ?_
    show Run _ _ _ _ (T1.setTop (mkF m 60 #[.val (.ref a1), .val (.long q2), .second] []))
    refine Run.of (fun tz kz => XS.aloadN X1.here hx rfl (hb hby d1_60) rfl rfl kz) ?_
    show Run _ _ _ _ (T1.setTop (mkF m 61 #[.val (.ref a1), .val (.long q2), .second] [(.ref a1)]))
    obtain ⟨T2, X2, e2, st2⟩ := getF X1 hx hZ hown (host := "") (Or.inl (hw _ (List.mem_of_getElem? (i := 11) rfl))) Via.refl e1 FS (g := (mkF m 61 #[.val (.ref a1), .val (.long q2), .second] [(.ref a1)])) rfl rfl (hb hby d1_61)
    refine Run.of st2 ?_
    show Run _ _ _ _ (T2.setTop (mkF m 64 #[.val (.ref a1), .val (.long q2), .second] [(.int sg)]))
    by_cases hs : sg = 0
    · show Run _ _ _ _ (T2.setTop (mkF m 64 #[.val (.ref a1), .val (.long q2), .second] [(.int sg)]))
      refine Run.of (fun tz kz => XS.ifYes X2.here hx rfl (pc0 := 64) (pc' := 74) rfl (hb hby d1_64) rfl ((if0 _ _).trans (teq hs).1) (by decide) (by decide) kz) ?_
      show Run _ _ _ _ (T2.setTop (mkF m 74 #[.val (.ref a1), .val (.long q2), .second] []))
      refine Run.of (fun tz kz => XS.lloadN X2.here hx rfl (hb hby d1_74) rfl kz) ?_
      show Run _ _ _ _ (T2.setTop (mkF m 75 #[.val (.ref a1), .val (.long q2), .second] [(.long q2)]))
      refine Run.of (X2.ldc2Long hx hown (mvT hZ (hw _ (List.mem_of_getElem? (i := 25) rfl))) (g := (mkF m 75 #[.val (.ref a1), .val (.long q2), .second] [(.long q2)])) rfl (hb hby d1_75)) ?_
      show Run _ _ _ _ (T2.setTop (mkF m 78 #[.val (.ref a1), .val (.long q2), .second] [(.long (65535 : Int64)), (.long q2)]))
      refine Run.of (fun tz kz => XS.land X2.here hx rfl (hb hby d1_78) rfl kz) ?_
      show Run _ _ _ _ (T2.setTop (mkF m 79 #[.val (.ref a1), .val (.long q2), .second] [(.long (q2 &&& (65535 : Int64)))]))
      exact Run.lret X2 hx (BodyLoose.notSynchronized Bd) Bd.returns (hb hby d1_79) (Nat.le_refl _) (Nat.le_refl _) ⟨by simp [wrapV, hs], N0, e2⟩
    · show Run _ _ _ _ (T2.setTop (mkF m 64 #[.val (.ref a1), .val (.long q2), .second] [(.int sg)]))
      refine Run.of (fun tz kz => XS.ifNo X2.here hx rfl (hb hby d1_64) rfl ((if0 _ _).trans (feq hs).1) kz) ?_
      show Run _ _ _ _ (T2.setTop (mkF m 67 #[.val (.ref a1), .val (.long q2), .second] []))
      refine Run.of (fun tz kz => XS.lloadN X2.here hx rfl (hb hby d1_67) rfl kz) ?_
      show Run _ _ _ _ (T2.setTop (mkF m 68 #[.val (.ref a1), .val (.long q2), .second] [(.long q2)]))
      refine Run.of (fun tz kz => XS.l2i X2.here hx rfl (hb hby d1_68) rfl kz) ?_
      show Run _ _ _ _ (T2.setTop (mkF m 69 #[.val (.ref a1), .val (.long q2), .second] [(.int (q2.toInt32))]))
      refine Run.of (fun tz kz => XS.i2s X2.here hx rfl (hb hby d1_69) rfl kz) ?_
      show Run _ _ _ _ (T2.setTop (mkF m 70 #[.val (.ref a1), .val (.long q2), .second] [(.int (q2.toInt32.toInt16.toInt32))]))
      refine Run.of (fun tz kz => XS.i2l X2.here hx rfl (hb hby d1_70) rfl kz) ?_
      show Run _ _ _ _ (T2.setTop (mkF m 71 #[.val (.ref a1), .val (.long q2), .second] [(.long (q2.toInt32.toInt16.toInt32.toInt64))]))
      refine Run.of (fun tz kz => XS.goto X2.here hx rfl (pc0 := 71) (pc' := 79) rfl (hb hby d1_71) (by decide) (by decide) kz) ?_
      show Run _ _ _ _ (T2.setTop (mkF m 79 #[.val (.ref a1), .val (.long q2), .second] [(.long (q2.toInt32.toInt16.toInt32.toInt64))]))
      exact Run.lret X2 hx (BodyLoose.notSynchronized Bd) Bd.returns (hb hby d1_79) (Nat.le_refl _) (Nat.le_refl _) ⟨by simp [wrapV, hs], N0, e2⟩
  by_cases hb32 : b = 32
  · subst hb32
    show Run _ _ _ _ (T1.setTop (mkF m 4 #[.val (.ref a1), .val (.long q2), .second] [(.int (32 : Int32))]))
    refine Run.of (fun tz kz => X1.lookupswitchHit hx (g := (mkF m 4 #[.val (.ref a1), .val (.long q2), .second] [(.int (32 : Int32))])) rfl (k := (32 : Int32)) (rest := []) rfl (hb hby d1_4) (by decide) (a := 32) (off := 76) (by decide) (show (0 : Int) ≤ 4 + 76 by decide) tz kz) ?_
    show Run _ _ _ _ (T1.setTop (mkF m 80 #[.val (.ref a1), .val (.long q2), .second] []))
    refine Run.of (fun tz kz => XS.aloadN X1.here hx rfl (hb hby d1_80) rfl rfl kz) ?_
    show Run _ _ _ _ (T1.setTop (mkF m 81 #[.val (.ref a1), .val (.long q2), .second] [(.ref a1)]))
    obtain ⟨T2, X2, e2, st2⟩ := getF X1 hx hZ hown (host := "") (Or.inl (hw _ (List.mem_of_getElem? (i := 11) rfl))) Via.refl e1 FS (g := (mkF m 81 #[.val (.ref a1), .val (.long q2), .second] [(.ref a1)])) rfl rfl (hb hby d1_81)
    refine Run.of st2 ?_
    show Run _ _ _ _ (T2.setTop (mkF m 84 #[.val (.ref a1), .val (.long q2), .second] [(.int sg)]))
    by_cases hs : sg = 0
    · show Run _ _ _ _ (T2.setTop (mkF m 84 #[.val (.ref a1), .val (.long q2), .second] [(.int sg)]))
      refine Run.of (fun tz kz => XS.ifYes X2.here hx rfl (pc0 := 84) (pc' := 93) rfl (hb hby d1_84) rfl ((if0 _ _).trans (teq hs).1) (by decide) (by decide) kz) ?_
      show Run _ _ _ _ (T2.setTop (mkF m 93 #[.val (.ref a1), .val (.long q2), .second] []))
      refine Run.of (fun tz kz => XS.lloadN X2.here hx rfl (hb hby d1_93) rfl kz) ?_
      show Run _ _ _ _ (T2.setTop (mkF m 94 #[.val (.ref a1), .val (.long q2), .second] [(.long q2)]))
      refine Run.of (X2.ldc2Long hx hown (mvT hZ (hw _ (List.mem_of_getElem? (i := 31) rfl))) (g := (mkF m 94 #[.val (.ref a1), .val (.long q2), .second] [(.long q2)])) rfl (hb hby d1_94)) ?_
      show Run _ _ _ _ (T2.setTop (mkF m 97 #[.val (.ref a1), .val (.long q2), .second] [(.long (4294967295 : Int64)), (.long q2)]))
      refine Run.of (fun tz kz => XS.land X2.here hx rfl (hb hby d1_97) rfl kz) ?_
      show Run _ _ _ _ (T2.setTop (mkF m 98 #[.val (.ref a1), .val (.long q2), .second] [(.long (q2 &&& (4294967295 : Int64)))]))
      exact Run.lret X2 hx (BodyLoose.notSynchronized Bd) Bd.returns (hb hby d1_98) (Nat.le_refl _) (Nat.le_refl _) ⟨by simp [wrapV, hs], N0, e2⟩
    · show Run _ _ _ _ (T2.setTop (mkF m 84 #[.val (.ref a1), .val (.long q2), .second] [(.int sg)]))
      refine Run.of (fun tz kz => XS.ifNo X2.here hx rfl (hb hby d1_84) rfl ((if0 _ _).trans (feq hs).1) kz) ?_
      show Run _ _ _ _ (T2.setTop (mkF m 87 #[.val (.ref a1), .val (.long q2), .second] []))
      refine Run.of (fun tz kz => XS.lloadN X2.here hx rfl (hb hby d1_87) rfl kz) ?_
      show Run _ _ _ _ (T2.setTop (mkF m 88 #[.val (.ref a1), .val (.long q2), .second] [(.long q2)]))
      refine Run.of (fun tz kz => XS.l2i X2.here hx rfl (hb hby d1_88) rfl kz) ?_
      show Run _ _ _ _ (T2.setTop (mkF m 89 #[.val (.ref a1), .val (.long q2), .second] [(.int (q2.toInt32))]))
      refine Run.of (fun tz kz => XS.i2l X2.here hx rfl (hb hby d1_89) rfl kz) ?_
      show Run _ _ _ _ (T2.setTop (mkF m 90 #[.val (.ref a1), .val (.long q2), .second] [(.long (q2.toInt32.toInt64))]))
      refine Run.of (fun tz kz => XS.goto X2.here hx rfl (pc0 := 90) (pc' := 98) rfl (hb hby d1_90) (by decide) (by decide) kz) ?_
      show Run _ _ _ _ (T2.setTop (mkF m 98 #[.val (.ref a1), .val (.long q2), .second] [(.long (q2.toInt32.toInt64))]))
      exact Run.lret X2 hx (BodyLoose.notSynchronized Bd) Bd.returns (hb hby d1_98) (Nat.le_refl _) (Nat.le_refl _) ⟨by simp [wrapV, hs], N0, e2⟩
  refine Run.of (fun tz kz => X1.lookupswitchMiss hx (g := (mkF m 4 #[.val (.ref a1), .val (.long q2), .second] [(.int b)])) rfl (k := b) (rest := []) rfl (hb hby d1_4) (by decide) (find_miss (by intro q hq; simp only [List.mem_cons, List.not_mem_nil, or_false] at hq; rcases hq with rfl | rfl | rfl <;> (intro hc; first | exact hb8 (Int32.toInt_inj.mp hc.symm) | exact hb16 (Int32.toInt_inj.mp hc.symm) | exact hb32 (Int32.toInt_inj.mp hc.symm)))) (show (0 : Int) ≤ 4 + 95 by decide) tz kz) ?_
  show Run _ _ _ _ (T1.setTop (mkF m 99 #[.val (.ref a1), .val (.long q2), .second] []))
  refine Run.of (fun tz kz => XS.lloadN X1.here hx rfl (hb hby d1_99) rfl kz) ?_
  show Run _ _ _ _ (T1.setTop (mkF m 100 #[.val (.ref a1), .val (.long q2), .second] [(.long q2)]))
  exact Run.lret X1 hx (BodyLoose.notSynchronized Bd) Bd.returns (hb hby d1_100) (Nat.le_refl _) (Nat.le_refl _) ⟨by simp [wrapV, hb8, hb16, hb32], N0, e1⟩
def TY (Z : State) (h : Heap) (t : Addr) (w sg : Int32) : Prop := Exa Z h t "com/example/lockstep/lockstep/core/value/ScalarType" ∧ Fld Z h t "com/example/lockstep/lockstep/core/value/ScalarType" "bits" "I" (.int w) ∧ Fld Z h t "com/example/lockstep/lockstep/core/value/ScalarType" "signed" "Z" (.int sg)
def Q0 (n0 : Nat) (v : Option Value) (h : Heap) (L : List Loc) : Prop := v = some (.int 1) ∧ Fr n0 L
set_option maxRecDepth 65536 in
set_option maxHeartbeats 40000000 in
theorem tail {p : Program} {l : Launch} {e : Env} {s : State} {m : MethodId} {below : List Frame} {meth : Method} {c : Code} {T : State} {Z : State} {a0 : Array Value} {h0 : Heap} {n0 : Nat} {p1 kk : Int32} {q2 : Int64} (X : Stand p l e room_1 s m #[(.int p1), (.long q2)] below meth c T [] 0 0) (hx : p.tables.exec = Jvm.exec) (hlk : meth.locks = false) (hZ : Z.Warmed39 s.vm) (hw : ∀ d ∈ tables_1, d.before a0 Z = true) (hby : c.code = code) (hml : c.maxLocals = 10) (hret : meth.sig.returnType = some .boolean) (hown : s.vm.findClass "com/example/lockstep/lockstep/core/value/ScalarTypeWrapPinLaw" = some m.cls) (eT : T.heap = h0) (t : Addr) (w sg : Int32) (G : TY Z h0 t w sg) (hv : wrapV w sg q2 = expV w sg q2) :
    Run p.tables e below (fun o U' => ∃ v L, o = .returned v ∧ Q0 n0 v U'.heap L ∧ FrameEnd s o U' L room_1.cells room_1.slots) (T.setTop (mkF m 223 #[.val (.int p1), .val (.long q2), .second, .val (.int kk), .val (.ref t), .val (.int w), .val (.int sg), .unset, .unset, .unset] [])) := by
  have N0 := Fr.nil n0
  refine Run.of (fun tz kz => XS.bipush X.here hx rfl (hb hby at_223) kz) ?_
  show Run _ _ _ _ (T.setTop (mkF m 225 #[.val (.int p1), .val (.long q2), .second, .val (.int kk), .val (.ref t), .val (.int w), .val (.int sg), .unset, .unset, .unset] [(.int (64 : Int32))]))
  refine Run.of (fun tz kz => XS.iload X.here hx rfl (hb hby at_225) rfl kz) ?_
  show Run _ _ _ _ (T.setTop (mkF m 227 #[.val (.int p1), .val (.long q2), .second, .val (.int kk), .val (.ref t), .val (.int w), .val (.int sg), .unset, .unset, .unset] [(.int w), (.int (64 : Int32))]))
  refine Run.of (fun tz kz => XS.isub X.here hx rfl (hb hby at_227) rfl kz) ?_
  show Run _ _ _ _ (T.setTop (mkF m 228 #[.val (.int p1), .val (.long q2), .second, .val (.int kk), .val (.ref t), .val (.int w), .val (.int sg), .unset, .unset, .unset] [(.int ((64 : Int32) - w))]))
  refine Run.of (fun tz kz => XS.istore X.here hx rfl (hb hby at_228) rfl (l' := #[.val (.int p1), .val (.long q2), .second, .val (.int kk), .val (.ref t), .val (.int w), .val (.int sg), .val (.int ((64 : Int32) - w)), .unset, .unset]) rfl kz) ?_
  show Run _ _ _ _ (T.setTop (mkF m 230 #[.val (.int p1), .val (.long q2), .second, .val (.int kk), .val (.ref t), .val (.int w), .val (.int sg), .val (.int ((64 : Int32) - w)), .unset, .unset] []))
  refine Run.of (fun tz kz => XS.iload X.here hx rfl (hb hby at_230) rfl kz) ?_
  show Run _ _ _ _ (T.setTop (mkF m 232 #[.val (.int p1), .val (.long q2), .second, .val (.int kk), .val (.ref t), .val (.int w), .val (.int sg), .val (.int ((64 : Int32) - w)), .unset, .unset] [(.int sg)]))
  by_cases hs : sg = 0
  · have hE : wrapV w sg q2 = ((q2 <<< (((64 : Int32) - w) &&& 0x3f).toInt64).toUInt64 >>> (((64 : Int32) - w) &&& 0x3f).toInt64.toUInt64).toInt64 := by rw [hv, expV, if_pos hs]
    refine Run.of (fun tz kz => XS.ifYes X.here hx rfl (pc0 := 232) (pc' := 245) rfl (hb hby at_232) rfl ((if0 _ _).trans (teq hs).1) (by decide) (by decide) kz) ?_
    show Run _ _ _ _ (T.setTop (mkF m 245 #[.val (.int p1), .val (.long q2), .second, .val (.int kk), .val (.ref t), .val (.int w), .val (.int sg), .val (.int ((64 : Int32) - w)), .unset, .unset] []))
    refine Run.of (fun tz kz => XS.lloadN X.here hx rfl (hb hby at_245) rfl kz) ?_
    show Run _ _ _ _ (T.setTop (mkF m 246 #[.val (.int p1), .val (.long q2), .second, .val (.int kk), .val (.ref t), .val (.int w), .val (.int sg), .val (.int ((64 : Int32) - w)), .unset, .unset] [(.long q2)]))
    refine Run.of (fun tz kz => XS.iload X.here hx rfl (hb hby at_246) rfl kz) ?_
    show Run _ _ _ _ (T.setTop (mkF m 248 #[.val (.int p1), .val (.long q2), .second, .val (.int kk), .val (.ref t), .val (.int w), .val (.int sg), .val (.int ((64 : Int32) - w)), .unset, .unset] [(.int ((64 : Int32) - w)), (.long q2)]))
    refine Run.of (fun tz kz => XS.lshl X.here hx rfl (hb hby at_248) rfl kz) ?_
    show Run _ _ _ _ (T.setTop (mkF m 249 #[.val (.int p1), .val (.long q2), .second, .val (.int kk), .val (.ref t), .val (.int w), .val (.int sg), .val (.int ((64 : Int32) - w)), .unset, .unset] [(.long (q2 <<< (((64 : Int32) - w) &&& 0x3f).toInt64))]))
    refine Run.of (fun tz kz => XS.iload X.here hx rfl (hb hby at_249) rfl kz) ?_
    show Run _ _ _ _ (T.setTop (mkF m 251 #[.val (.int p1), .val (.long q2), .second, .val (.int kk), .val (.ref t), .val (.int w), .val (.int sg), .val (.int ((64 : Int32) - w)), .unset, .unset] [(.int ((64 : Int32) - w)), (.long (q2 <<< (((64 : Int32) - w) &&& 0x3f).toInt64))]))
    refine Run.of (fun tz kz => XS.lushr X.here hx rfl (hb hby at_251) rfl kz) ?_
    show Run _ _ _ _ (T.setTop (mkF m 252 #[.val (.int p1), .val (.long q2), .second, .val (.int kk), .val (.ref t), .val (.int w), .val (.int sg), .val (.int ((64 : Int32) - w)), .unset, .unset] [(.long (((q2 <<< (((64 : Int32) - w) &&& 0x3f).toInt64).toUInt64 >>> (((64 : Int32) - w) &&& 0x3f).toInt64.toUInt64).toInt64))]))
    refine Run.of (fun tz kz => XS.lstore X.here hx rfl (hb hby at_252) rfl (l' := #[.val (.int p1), .val (.long q2), .second, .val (.int kk), .val (.ref t), .val (.int w), .val (.int sg), .val (.int ((64 : Int32) - w)), .val (.long (((q2 <<< (((64 : Int32) - w) &&& 0x3f).toInt64).toUInt64 >>> (((64 : Int32) - w) &&& 0x3f).toInt64.toUInt64).toInt64)), .second]) rfl kz) ?_
    show Run _ _ _ _ (T.setTop (mkF m 254 #[.val (.int p1), .val (.long q2), .second, .val (.int kk), .val (.ref t), .val (.int w), .val (.int sg), .val (.int ((64 : Int32) - w)), .val (.long (((q2 <<< (((64 : Int32) - w) &&& 0x3f).toInt64).toUInt64 >>> (((64 : Int32) - w) &&& 0x3f).toInt64.toUInt64).toInt64)), .second] []))
    refine Run.of (fun tz kz => XS.aload X.here hx rfl (hb hby at_254) rfl rfl kz) ?_
    show Run _ _ _ _ (T.setTop (mkF m 256 #[.val (.int p1), .val (.long q2), .second, .val (.int kk), .val (.ref t), .val (.int w), .val (.int sg), .val (.int ((64 : Int32) - w)), .val (.long (((q2 <<< (((64 : Int32) - w) &&& 0x3f).toInt64).toUInt64 >>> (((64 : Int32) - w) &&& 0x3f).toInt64.toUInt64).toInt64)), .second] [(.ref t)]))
    refine Run.of (fun tz kz => XS.lloadN X.here hx rfl (hb hby at_256) rfl kz) ?_
    show Run _ _ _ _ (T.setTop (mkF m 257 #[.val (.int p1), .val (.long q2), .second, .val (.int kk), .val (.ref t), .val (.int w), .val (.int sg), .val (.int ((64 : Int32) - w)), .val (.long (((q2 <<< (((64 : Int32) - w) &&& 0x3f).toInt64).toUInt64 >>> (((64 : Int32) - w) &&& 0x3f).toInt64.toUInt64).toInt64)), .second] [(.long q2), (.ref t)]))
    obtain ⟨cq, kq, qa, qb, qc⟩ := isOf hZ eT G.1
    obtain ⟨_, _, ⟨T3, L3, k3, n3⟩, -, X3, ⟨Lc3, hQ3, l3, y3, z3⟩, st3⟩ := X.virtualBack hx (y := (⟨"com/example/lockstep/lockstep/core/value/ScalarType", "wrap", "(J)J"⟩ : MethodName)) (z := (⟨"com/example/lockstep/lockstep/core/value/ScalarType", "wrap", "(J)J"⟩ : MethodName)) hown (mvT hZ (hw _ (List.mem_of_getElem? (i := 4) rfl))) (mvT hZ (hw _ (List.mem_of_getElem? (i := 5) rfl))) (notFace_of_selects (args := #[]) (mvT hZ (hw _ (List.mem_of_getElem? (i := 7) rfl)))) (mvT hZ (hw _ (List.mem_of_getElem? (i := 7) rfl))) (mvT hZ (hw _ (List.mem_of_getElem? (i := 6) rfl))) (by decide) (backOf (W := 0) (rmW l Z a0 hw [] t q2 w sg h0 n0 G.2.1 G.2.2) hZ (hw _ (List.mem_of_getElem? (i := 8) rfl)) (hw _ (List.mem_of_getElem? (i := 2) rfl)) (by decide) (by decide)) qa qc (g := (mkF m 257 #[.val (.int p1), .val (.long q2), .second, .val (.int kk), .val (.ref t), .val (.int w), .val (.int sg), .val (.int ((64 : Int32) - w)), .val (.long (((q2 <<< (((64 : Int32) - w) &&& 0x3f).toInt64).toUInt64 >>> (((64 : Int32) - w) &&& 0x3f).toInt64.toUInt64).toInt64)), .second] [(.long q2), (.ref t)])) rfl (by rw [hml]; rfl) (Steps.refl _) (argsL := [(.long q2)]) (rest := []) (lenOf pd_1 rfl) rfl (by show 2 * 0 + _ ≤ _; exact Nat.le_of_eq rfl) (hb hby at_257) (fun _ _ => ⟨rfl, eT, (by decide : 0 + 0 ≤ _), (by decide : 0 + 0 ≤ _)⟩)
    dsimp only [Pt.U, Pt.locs, Pt.cells, Pt.slots] at X3 l3 y3 z3 st3 hQ3
    subst l3 y3 z3
    obtain ⟨rfl, N3, e3⟩ := hQ3
    refine Run.tr st3 ?_
    show Run _ _ _ _ (T3.setTop (mkF m 260 #[.val (.int p1), .val (.long q2), .second, .val (.int kk), .val (.ref t), .val (.int w), .val (.int sg), .val (.int ((64 : Int32) - w)), .val (.long (((q2 <<< (((64 : Int32) - w) &&& 0x3f).toInt64).toUInt64 >>> (((64 : Int32) - w) &&& 0x3f).toInt64.toUInt64).toInt64)), .second] [(.long (wrapV w sg q2))]))
    refine Run.of (fun tz kz => XS.lload X3.here hx rfl (hb hby at_260) rfl kz) ?_
    show Run _ _ _ _ (T3.setTop (mkF m 262 #[.val (.int p1), .val (.long q2), .second, .val (.int kk), .val (.ref t), .val (.int w), .val (.int sg), .val (.int ((64 : Int32) - w)), .val (.long (((q2 <<< (((64 : Int32) - w) &&& 0x3f).toInt64).toUInt64 >>> (((64 : Int32) - w) &&& 0x3f).toInt64.toUInt64).toInt64)), .second] [(.long (((q2 <<< (((64 : Int32) - w) &&& 0x3f).toInt64).toUInt64 >>> (((64 : Int32) - w) &&& 0x3f).toInt64.toUInt64).toInt64)), (.long (wrapV w sg q2))]))
    refine Run.of (fun tz kz => XS.lcmp X3.here hx rfl (hb hby at_262) rfl kz) ?_
    show Run _ _ _ _ (T3.setTop (mkF m 263 #[.val (.int p1), .val (.long q2), .second, .val (.int kk), .val (.ref t), .val (.int w), .val (.int sg), .val (.int ((64 : Int32) - w)), .val (.long (((q2 <<< (((64 : Int32) - w) &&& 0x3f).toInt64).toUInt64 >>> (((64 : Int32) - w) &&& 0x3f).toInt64.toUInt64).toInt64)), .second] [(.int (lcmpW (wrapV w sg q2) (((q2 <<< (((64 : Int32) - w) &&& 0x3f).toInt64).toUInt64 >>> (((64 : Int32) - w) &&& 0x3f).toInt64.toUInt64).toInt64)))]))
    refine Run.of (fun tz kz => XS.ifNo X3.here hx rfl (hb hby at_263) rfl ((if0 _ _).trans (teq ((by rw [lcW]; exact (lc_eq _ _).mpr hE) : lcmpW (wrapV w sg q2) (((q2 <<< (((64 : Int32) - w) &&& 0x3f).toInt64).toUInt64 >>> (((64 : Int32) - w) &&& 0x3f).toInt64.toUInt64).toInt64) = 0)).2) kz) ?_
    show Run _ _ _ _ (T3.setTop (mkF m 266 #[.val (.int p1), .val (.long q2), .second, .val (.int kk), .val (.ref t), .val (.int w), .val (.int sg), .val (.int ((64 : Int32) - w)), .val (.long (((q2 <<< (((64 : Int32) - w) &&& 0x3f).toInt64).toUInt64 >>> (((64 : Int32) - w) &&& 0x3f).toInt64.toUInt64).toInt64)), .second] []))
    refine Run.of (fun tz kz => XS.iconst X3.here hx rfl (hb hby at_266) kz) ?_
    show Run _ _ _ _ (T3.setTop (mkF m 267 #[.val (.int p1), .val (.long q2), .second, .val (.int kk), .val (.ref t), .val (.int w), .val (.int sg), .val (.int ((64 : Int32) - w)), .val (.long (((q2 <<< (((64 : Int32) - w) &&& 0x3f).toInt64).toUInt64 >>> (((64 : Int32) - w) &&& 0x3f).toInt64.toUInt64).toInt64)), .second] [(.int (1 : Int32))]))
    refine Run.of (fun tz kz => XS.goto X3.here hx rfl (pc0 := 267) (pc' := 271) rfl (hb hby at_267) (by decide) (by decide) kz) ?_
    show Run _ _ _ _ (T3.setTop (mkF m 271 #[.val (.int p1), .val (.long q2), .second, .val (.int kk), .val (.ref t), .val (.int w), .val (.int sg), .val (.int ((64 : Int32) - w)), .val (.long (((q2 <<< (((64 : Int32) - w) &&& 0x3f).toInt64).toUInt64 >>> (((64 : Int32) - w) &&& 0x3f).toInt64.toUInt64).toInt64)), .second] [(.int (1 : Int32))]))
    exact Run.zret X3 hx hlk hret (hb hby at_271) (by decide) (by decide) ⟨rfl, Fr.app N0 N3⟩
  · have hE : wrapV w sg q2 = (q2 <<< (((64 : Int32) - w) &&& 0x3f).toInt64) >>> (((64 : Int32) - w) &&& 0x3f).toInt64 := by rw [hv, expV, if_neg hs]
    refine Run.of (fun tz kz => XS.ifNo X.here hx rfl (hb hby at_232) rfl ((if0 _ _).trans (feq hs).1) kz) ?_
    show Run _ _ _ _ (T.setTop (mkF m 235 #[.val (.int p1), .val (.long q2), .second, .val (.int kk), .val (.ref t), .val (.int w), .val (.int sg), .val (.int ((64 : Int32) - w)), .unset, .unset] []))
    refine Run.of (fun tz kz => XS.lloadN X.here hx rfl (hb hby at_235) rfl kz) ?_
    show Run _ _ _ _ (T.setTop (mkF m 236 #[.val (.int p1), .val (.long q2), .second, .val (.int kk), .val (.ref t), .val (.int w), .val (.int sg), .val (.int ((64 : Int32) - w)), .unset, .unset] [(.long q2)]))
    refine Run.of (fun tz kz => XS.iload X.here hx rfl (hb hby at_236) rfl kz) ?_
    show Run _ _ _ _ (T.setTop (mkF m 238 #[.val (.int p1), .val (.long q2), .second, .val (.int kk), .val (.ref t), .val (.int w), .val (.int sg), .val (.int ((64 : Int32) - w)), .unset, .unset] [(.int ((64 : Int32) - w)), (.long q2)]))
    refine Run.of (fun tz kz => XS.lshl X.here hx rfl (hb hby at_238) rfl kz) ?_
    show Run _ _ _ _ (T.setTop (mkF m 239 #[.val (.int p1), .val (.long q2), .second, .val (.int kk), .val (.ref t), .val (.int w), .val (.int sg), .val (.int ((64 : Int32) - w)), .unset, .unset] [(.long (q2 <<< (((64 : Int32) - w) &&& 0x3f).toInt64))]))
    refine Run.of (fun tz kz => XS.iload X.here hx rfl (hb hby at_239) rfl kz) ?_
    show Run _ _ _ _ (T.setTop (mkF m 241 #[.val (.int p1), .val (.long q2), .second, .val (.int kk), .val (.ref t), .val (.int w), .val (.int sg), .val (.int ((64 : Int32) - w)), .unset, .unset] [(.int ((64 : Int32) - w)), (.long (q2 <<< (((64 : Int32) - w) &&& 0x3f).toInt64))]))
    refine Run.of (fun tz kz => XS.lshr X.here hx rfl (hb hby at_241) rfl kz) ?_
    show Run _ _ _ _ (T.setTop (mkF m 242 #[.val (.int p1), .val (.long q2), .second, .val (.int kk), .val (.ref t), .val (.int w), .val (.int sg), .val (.int ((64 : Int32) - w)), .unset, .unset] [(.long ((q2 <<< (((64 : Int32) - w) &&& 0x3f).toInt64) >>> (((64 : Int32) - w) &&& 0x3f).toInt64))]))
    refine Run.of (fun tz kz => XS.goto X.here hx rfl (pc0 := 242) (pc' := 252) rfl (hb hby at_242) (by decide) (by decide) kz) ?_
    show Run _ _ _ _ (T.setTop (mkF m 252 #[.val (.int p1), .val (.long q2), .second, .val (.int kk), .val (.ref t), .val (.int w), .val (.int sg), .val (.int ((64 : Int32) - w)), .unset, .unset] [(.long ((q2 <<< (((64 : Int32) - w) &&& 0x3f).toInt64) >>> (((64 : Int32) - w) &&& 0x3f).toInt64))]))
    refine Run.of (fun tz kz => XS.lstore X.here hx rfl (hb hby at_252) rfl (l' := #[.val (.int p1), .val (.long q2), .second, .val (.int kk), .val (.ref t), .val (.int w), .val (.int sg), .val (.int ((64 : Int32) - w)), .val (.long ((q2 <<< (((64 : Int32) - w) &&& 0x3f).toInt64) >>> (((64 : Int32) - w) &&& 0x3f).toInt64)), .second]) rfl kz) ?_
    show Run _ _ _ _ (T.setTop (mkF m 254 #[.val (.int p1), .val (.long q2), .second, .val (.int kk), .val (.ref t), .val (.int w), .val (.int sg), .val (.int ((64 : Int32) - w)), .val (.long ((q2 <<< (((64 : Int32) - w) &&& 0x3f).toInt64) >>> (((64 : Int32) - w) &&& 0x3f).toInt64)), .second] []))
    refine Run.of (fun tz kz => XS.aload X.here hx rfl (hb hby at_254) rfl rfl kz) ?_
    show Run _ _ _ _ (T.setTop (mkF m 256 #[.val (.int p1), .val (.long q2), .second, .val (.int kk), .val (.ref t), .val (.int w), .val (.int sg), .val (.int ((64 : Int32) - w)), .val (.long ((q2 <<< (((64 : Int32) - w) &&& 0x3f).toInt64) >>> (((64 : Int32) - w) &&& 0x3f).toInt64)), .second] [(.ref t)]))
    refine Run.of (fun tz kz => XS.lloadN X.here hx rfl (hb hby at_256) rfl kz) ?_
    show Run _ _ _ _ (T.setTop (mkF m 257 #[.val (.int p1), .val (.long q2), .second, .val (.int kk), .val (.ref t), .val (.int w), .val (.int sg), .val (.int ((64 : Int32) - w)), .val (.long ((q2 <<< (((64 : Int32) - w) &&& 0x3f).toInt64) >>> (((64 : Int32) - w) &&& 0x3f).toInt64)), .second] [(.long q2), (.ref t)]))
    obtain ⟨cq, kq, qa, qb, qc⟩ := isOf hZ eT G.1
    obtain ⟨_, _, ⟨T3, L3, k3, n3⟩, -, X3, ⟨Lc3, hQ3, l3, y3, z3⟩, st3⟩ := X.virtualBack hx (y := (⟨"com/example/lockstep/lockstep/core/value/ScalarType", "wrap", "(J)J"⟩ : MethodName)) (z := (⟨"com/example/lockstep/lockstep/core/value/ScalarType", "wrap", "(J)J"⟩ : MethodName)) hown (mvT hZ (hw _ (List.mem_of_getElem? (i := 4) rfl))) (mvT hZ (hw _ (List.mem_of_getElem? (i := 5) rfl))) (notFace_of_selects (args := #[]) (mvT hZ (hw _ (List.mem_of_getElem? (i := 7) rfl)))) (mvT hZ (hw _ (List.mem_of_getElem? (i := 7) rfl))) (mvT hZ (hw _ (List.mem_of_getElem? (i := 6) rfl))) (by decide) (backOf (W := 0) (rmW l Z a0 hw [] t q2 w sg h0 n0 G.2.1 G.2.2) hZ (hw _ (List.mem_of_getElem? (i := 8) rfl)) (hw _ (List.mem_of_getElem? (i := 2) rfl)) (by decide) (by decide)) qa qc (g := (mkF m 257 #[.val (.int p1), .val (.long q2), .second, .val (.int kk), .val (.ref t), .val (.int w), .val (.int sg), .val (.int ((64 : Int32) - w)), .val (.long ((q2 <<< (((64 : Int32) - w) &&& 0x3f).toInt64) >>> (((64 : Int32) - w) &&& 0x3f).toInt64)), .second] [(.long q2), (.ref t)])) rfl (by rw [hml]; rfl) (Steps.refl _) (argsL := [(.long q2)]) (rest := []) (lenOf pd_1 rfl) rfl (by show 2 * 0 + _ ≤ _; exact Nat.le_of_eq rfl) (hb hby at_257) (fun _ _ => ⟨rfl, eT, (by decide : 0 + 0 ≤ _), (by decide : 0 + 0 ≤ _)⟩)
    dsimp only [Pt.U, Pt.locs, Pt.cells, Pt.slots] at X3 l3 y3 z3 st3 hQ3
    subst l3 y3 z3
    obtain ⟨rfl, N3, e3⟩ := hQ3
    refine Run.tr st3 ?_
    show Run _ _ _ _ (T3.setTop (mkF m 260 #[.val (.int p1), .val (.long q2), .second, .val (.int kk), .val (.ref t), .val (.int w), .val (.int sg), .val (.int ((64 : Int32) - w)), .val (.long ((q2 <<< (((64 : Int32) - w) &&& 0x3f).toInt64) >>> (((64 : Int32) - w) &&& 0x3f).toInt64)), .second] [(.long (wrapV w sg q2))]))
    refine Run.of (fun tz kz => XS.lload X3.here hx rfl (hb hby at_260) rfl kz) ?_
    show Run _ _ _ _ (T3.setTop (mkF m 262 #[.val (.int p1), .val (.long q2), .second, .val (.int kk), .val (.ref t), .val (.int w), .val (.int sg), .val (.int ((64 : Int32) - w)), .val (.long ((q2 <<< (((64 : Int32) - w) &&& 0x3f).toInt64) >>> (((64 : Int32) - w) &&& 0x3f).toInt64)), .second] [(.long ((q2 <<< (((64 : Int32) - w) &&& 0x3f).toInt64) >>> (((64 : Int32) - w) &&& 0x3f).toInt64)), (.long (wrapV w sg q2))]))
    refine Run.of (fun tz kz => XS.lcmp X3.here hx rfl (hb hby at_262) rfl kz) ?_
    show Run _ _ _ _ (T3.setTop (mkF m 263 #[.val (.int p1), .val (.long q2), .second, .val (.int kk), .val (.ref t), .val (.int w), .val (.int sg), .val (.int ((64 : Int32) - w)), .val (.long ((q2 <<< (((64 : Int32) - w) &&& 0x3f).toInt64) >>> (((64 : Int32) - w) &&& 0x3f).toInt64)), .second] [(.int (lcmpW (wrapV w sg q2) ((q2 <<< (((64 : Int32) - w) &&& 0x3f).toInt64) >>> (((64 : Int32) - w) &&& 0x3f).toInt64)))]))
    refine Run.of (fun tz kz => XS.ifNo X3.here hx rfl (hb hby at_263) rfl ((if0 _ _).trans (teq ((by rw [lcW]; exact (lc_eq _ _).mpr hE) : lcmpW (wrapV w sg q2) ((q2 <<< (((64 : Int32) - w) &&& 0x3f).toInt64) >>> (((64 : Int32) - w) &&& 0x3f).toInt64) = 0)).2) kz) ?_
    show Run _ _ _ _ (T3.setTop (mkF m 266 #[.val (.int p1), .val (.long q2), .second, .val (.int kk), .val (.ref t), .val (.int w), .val (.int sg), .val (.int ((64 : Int32) - w)), .val (.long ((q2 <<< (((64 : Int32) - w) &&& 0x3f).toInt64) >>> (((64 : Int32) - w) &&& 0x3f).toInt64)), .second] []))
    refine Run.of (fun tz kz => XS.iconst X3.here hx rfl (hb hby at_266) kz) ?_
    show Run _ _ _ _ (T3.setTop (mkF m 267 #[.val (.int p1), .val (.long q2), .second, .val (.int kk), .val (.ref t), .val (.int w), .val (.int sg), .val (.int ((64 : Int32) - w)), .val (.long ((q2 <<< (((64 : Int32) - w) &&& 0x3f).toInt64) >>> (((64 : Int32) - w) &&& 0x3f).toInt64)), .second] [(.int (1 : Int32))]))
    refine Run.of (fun tz kz => XS.goto X3.here hx rfl (pc0 := 267) (pc' := 271) rfl (hb hby at_267) (by decide) (by decide) kz) ?_
    show Run _ _ _ _ (T3.setTop (mkF m 271 #[.val (.int p1), .val (.long q2), .second, .val (.int kk), .val (.ref t), .val (.int w), .val (.int sg), .val (.int ((64 : Int32) - w)), .val (.long ((q2 <<< (((64 : Int32) - w) &&& 0x3f).toInt64) >>> (((64 : Int32) - w) &&& 0x3f).toInt64)), .second] [(.int (1 : Int32))]))
    exact Run.zret X3 hx hlk hret (hb hby at_271) (by decide) (by decide) ⟨rfl, Fr.app N0 N3⟩
theorem wv_8_1 (v : Int64) : wrapV 8 1 v = expV 8 1 v := by
  show v.toInt32.toInt8.toInt32.toInt64 = (v <<< (((64 : Int32) - 8) &&& 0x3f).toInt64) >>> (((64 : Int32) - 8) &&& 0x3f).toInt64
  apply Int64.toInt_inj.mp
  have a := c_lshl v ((64 : Int32) - 8) 56 (by decide)
  have r := rng64 v
  have r' := rng64 (v <<< (((64 : Int32) - 8) &&& 0x3f).toInt64)
  have p : ((2 ^ 56 : Nat) : Int) = 72057594037927936 := by decide
  rw [c_lshr _ ((64 : Int32) - 8) 56 (by decide)]
  rw [c_i2l]
  have c := c_l2i v
  have d := rng32 v.toInt32
  have b := c_i2b v.toInt32
  rw [p] at *
  generalize (v <<< (((64 : Int32) - 8) &&& 0x3f).toInt64).toInt = y at *
  generalize v.toInt = z at *
  omega
theorem wv_8_0 (v : Int64) : wrapV 8 0 v = expV 8 0 v := by
  show v &&& 255 = ((v <<< (((64 : Int32) - 8) &&& 0x3f).toInt64).toUInt64 >>> (((64 : Int32) - 8) &&& 0x3f).toInt64.toUInt64).toInt64
  apply Int64.toInt_inj.mp
  have a := c_lshl v ((64 : Int32) - 8) 56 (by decide)
  have r := rng64 v
  have r' := rng64 (v <<< (((64 : Int32) - 8) &&& 0x3f).toInt64)
  have p : ((2 ^ 56 : Nat) : Int) = 72057594037927936 := by decide
  rw [c_lushr _ ((64 : Int32) - 8) 56 (by decide) (by decide), c_maskL v 255 8 (by decide) (by decide)]
  have p' : ((2 ^ 8 : Nat) : Int) = 256 := by decide
  rw [p']
  rw [p] at *
  generalize (v <<< (((64 : Int32) - 8) &&& 0x3f).toInt64).toInt = y at *
  generalize v.toInt = z at *
  omega
theorem wv_16_1 (v : Int64) : wrapV 16 1 v = expV 16 1 v := by
  show v.toInt32.toInt16.toInt32.toInt64 = (v <<< (((64 : Int32) - 16) &&& 0x3f).toInt64) >>> (((64 : Int32) - 16) &&& 0x3f).toInt64
  apply Int64.toInt_inj.mp
  have a := c_lshl v ((64 : Int32) - 16) 48 (by decide)
  have r := rng64 v
  have r' := rng64 (v <<< (((64 : Int32) - 16) &&& 0x3f).toInt64)
  have p : ((2 ^ 48 : Nat) : Int) = 281474976710656 := by decide
  rw [c_lshr _ ((64 : Int32) - 16) 48 (by decide)]
  rw [c_i2l]
  have c := c_l2i v
  have d := rng32 v.toInt32
  have b := c_i2s v.toInt32
  rw [p] at *
  generalize (v <<< (((64 : Int32) - 16) &&& 0x3f).toInt64).toInt = y at *
  generalize v.toInt = z at *
  omega
theorem wv_16_0 (v : Int64) : wrapV 16 0 v = expV 16 0 v := by
  show v &&& 65535 = ((v <<< (((64 : Int32) - 16) &&& 0x3f).toInt64).toUInt64 >>> (((64 : Int32) - 16) &&& 0x3f).toInt64.toUInt64).toInt64
  apply Int64.toInt_inj.mp
  have a := c_lshl v ((64 : Int32) - 16) 48 (by decide)
  have r := rng64 v
  have r' := rng64 (v <<< (((64 : Int32) - 16) &&& 0x3f).toInt64)
  have p : ((2 ^ 48 : Nat) : Int) = 281474976710656 := by decide
  rw [c_lushr _ ((64 : Int32) - 16) 48 (by decide) (by decide), c_maskL v 65535 16 (by decide) (by decide)]
  have p' : ((2 ^ 16 : Nat) : Int) = 65536 := by decide
  rw [p']
  rw [p] at *
  generalize (v <<< (((64 : Int32) - 16) &&& 0x3f).toInt64).toInt = y at *
  generalize v.toInt = z at *
  omega
theorem wv_32_1 (v : Int64) : wrapV 32 1 v = expV 32 1 v := by
  show v.toInt32.toInt64 = (v <<< (((64 : Int32) - 32) &&& 0x3f).toInt64) >>> (((64 : Int32) - 32) &&& 0x3f).toInt64
  apply Int64.toInt_inj.mp
  have a := c_lshl v ((64 : Int32) - 32) 32 (by decide)
  have r := rng64 v
  have r' := rng64 (v <<< (((64 : Int32) - 32) &&& 0x3f).toInt64)
  have p : ((2 ^ 32 : Nat) : Int) = 4294967296 := by decide
  rw [c_lshr _ ((64 : Int32) - 32) 32 (by decide)]
  rw [c_i2l]
  have c := c_l2i v
  have d := rng32 v.toInt32
  rw [p] at *
  generalize (v <<< (((64 : Int32) - 32) &&& 0x3f).toInt64).toInt = y at *
  generalize v.toInt = z at *
  omega
theorem wv_32_0 (v : Int64) : wrapV 32 0 v = expV 32 0 v := by
  show v &&& 4294967295 = ((v <<< (((64 : Int32) - 32) &&& 0x3f).toInt64).toUInt64 >>> (((64 : Int32) - 32) &&& 0x3f).toInt64.toUInt64).toInt64
  apply Int64.toInt_inj.mp
  have a := c_lshl v ((64 : Int32) - 32) 32 (by decide)
  have r := rng64 v
  have r' := rng64 (v <<< (((64 : Int32) - 32) &&& 0x3f).toInt64)
  have p : ((2 ^ 32 : Nat) : Int) = 4294967296 := by decide
  rw [c_lushr _ ((64 : Int32) - 32) 32 (by decide) (by decide), c_maskL v 4294967295 32 (by decide) (by decide)]
  have p' : ((2 ^ 32 : Nat) : Int) = 4294967296 := by decide
  rw [p']
  rw [p] at *
  generalize (v <<< (((64 : Int32) - 32) &&& 0x3f).toInt64).toInt = y at *
  generalize v.toInt = z at *
  omega
theorem wv_64_1 (v : Int64) : wrapV 64 1 v = expV 64 1 v := by
  show v = (v <<< (((64 : Int32) - 64) &&& 0x3f).toInt64) >>> (((64 : Int32) - 64) &&& 0x3f).toInt64
  apply Int64.toInt_inj.mp
  have a := c_lshl v ((64 : Int32) - 64) 0 (by decide)
  have r := rng64 v
  have r' := rng64 (v <<< (((64 : Int32) - 64) &&& 0x3f).toInt64)
  have p : ((2 ^ 0 : Nat) : Int) = 1 := by decide
  rw [c_lshr _ ((64 : Int32) - 64) 0 (by decide)]
  rw [p] at *
  generalize (v <<< (((64 : Int32) - 64) &&& 0x3f).toInt64).toInt = y at *
  generalize v.toInt = z at *
  omega
theorem wv_64_0 (v : Int64) : wrapV 64 0 v = expV 64 0 v := by
  show v = ((v <<< (0 : Int64)).toUInt64 >>> (0 : UInt64)).toInt64
  simp
def Stat (Z : State) (h : Heap) (nm : String) (w sg : Int32) : Prop := ∃ t, Sta Z h "com/example/lockstep/lockstep/core/value/ScalarType" nm "Lcom/example/lockstep/lockstep/core/value/ScalarType;" (.ref t) ∧ TY Z h t w sg
set_option maxRecDepth 65536 in
set_option maxHeartbeats 40000000 in
theorem rm0 (l : Launch) (Z : State) (a0 : Array Value) (hw : ∀ d ∈ tables_1, d.before a0 Z = true) (ws : List Jvm.Cond) (p1 : Int32) (q2 : Int64) (h0 : Heap) (n0 : Nat) (G0 : Stat Z h0 "CHAR" 8 1) (G1 : Stat Z h0 "SIGNED_CHAR" 8 1) (G2 : Stat Z h0 "UNSIGNED_CHAR" 8 0) (G3 : Stat Z h0 "SHORT" 16 1) (G4 : Stat Z h0 "UNSIGNED_SHORT" 16 0) (G5 : Stat Z h0 "INT" 32 1) (G6 : Stat Z h0 "UNSIGNED_INT" 32 0) (G7 : Stat Z h0 "LONG" 64 1) (G8 : Stat Z h0 "UNSIGNED_LONG" 64 0) (G9 : Stat Z h0 "LONG_LONG" 64 1) (G10 : Stat Z h0 "UNSIGNED_LONG_LONG" 64 0) :
    MetFree l x (head1 (Jvm.Cond.code x code maxLocals ret :: ws) room_1) (fun a U => a = #[(.int p1), (.long q2)] ∧ Z.Warmed39 U.vm ∧ U.heap = h0) (fun _ _ _ _ _ => True) (fun _ U o U' => ∃ v L, o = .returned v ∧ Q0 n0 v U'.heap L ∧ FrameEnd U o U' L room_1.cells room_1.slots) := by
  refine MetFree.of_bodySF (plainFor_of_name pn_0) hisR ?_
  intro p e s m args below meth c s₁ Bd hml0 hP hK
  obtain ⟨rfl, hZ, hh⟩ := hP
  have hx := Bd.exec
  have hby := Bd.bytes
  have hml : c.maxLocals = 10 := hml0
  have hown : s.vm.findClass "com/example/lockstep/lockstep/core/value/ScalarTypeWrapPinLaw" = some m.cls := findClass_of_methodNamed Bd.named
  have X0 : Stand p l e room_1 s m #[(.int p1), (.long q2)] below meth c s₁ [] 0 0 := Stand.of_body Bd
  have e0 : s₁.heap = h0 := by rw [← hh, Bd.state]; rfl
  have N0 := Fr.nil n0
  show Run p.tables e below _ (s₁.setTop (entryFrame m #[(.int p1), (.long q2)] maxLocals))
  rw [ef_0 m p1 q2]
  show Run _ _ _ _ (s₁.setTop (mkF m 0 #[.val (.int p1), .val (.long q2), .second, .unset, .unset, .unset, .unset, .unset, .unset, .unset] []))
  refine Run.of (fun tz kz => XS.iloadN X0.here hx rfl (hb hby at_0) rfl kz) ?_
  show Run _ _ _ _ (s₁.setTop (mkF m 1 #[.val (.int p1), .val (.long q2), .second, .unset, .unset, .unset, .unset, .unset, .unset, .unset] [(.int p1)]))
  refine Run.of (X0.ldcInt hx hown (mvT hZ (hw _ (List.mem_of_getElem? (i := 0) rfl))) (g := (mkF m 1 #[.val (.int p1), .val (.long q2), .second, .unset, .unset, .unset, .unset, .unset, .unset, .unset] [(.int p1)])) rfl (hb hby at_1)) ?_
  show Run _ _ _ _ (s₁.setTop (mkF m 3 #[.val (.int p1), .val (.long q2), .second, .unset, .unset, .unset, .unset, .unset, .unset, .unset] [(.int (2147483647 : Int32)), (.int p1)]))
  refine Run.of (fun tz kz => XS.iand X0.here hx rfl (hb hby at_3) rfl kz) ?_
  show Run _ _ _ _ (s₁.setTop (mkF m 4 #[.val (.int p1), .val (.long q2), .second, .unset, .unset, .unset, .unset, .unset, .unset, .unset] [(.int (p1 &&& (2147483647 : Int32)))]))
  refine Run.of (fun tz kz => XS.bipush X0.here hx rfl (hb hby at_4) kz) ?_
  show Run _ _ _ _ (s₁.setTop (mkF m 6 #[.val (.int p1), .val (.long q2), .second, .unset, .unset, .unset, .unset, .unset, .unset, .unset] [(.int (11 : Int32)), (.int (p1 &&& (2147483647 : Int32)))]))
  refine Run.of (fun tz kz => iremM (g := (mkF m 6 #[.val (.int p1), .val (.long q2), .second, .unset, .unset, .unset, .unset, .unset, .unset, .unset] [(.int (11 : Int32)), (.int (p1 &&& (2147483647 : Int32)))])) X0 hx rfl (hb hby at_6) rfl (by decide) kz) ?_
  show Run _ _ _ _ (s₁.setTop (mkF m 7 #[.val (.int p1), .val (.long q2), .second, .unset, .unset, .unset, .unset, .unset, .unset, .unset] [(.int ((p1 &&& (2147483647 : Int32)) % (11 : Int32)))]))
  generalize (p1 &&& (2147483647 : Int32)) % (11 : Int32) = kk
  show Run _ _ _ _ (s₁.setTop (mkF m 7 #[.val (.int p1), .val (.long q2), .second, .unset, .unset, .unset, .unset, .unset, .unset, .unset] [(.int kk)]))
  refine Run.of (fun tz kz => XS.istoreN X0.here hx rfl (hb hby at_7) rfl (l' := #[.val (.int p1), .val (.long q2), .second, .val (.int kk), .unset, .unset, .unset, .unset, .unset, .unset]) rfl kz) ?_
  show Run _ _ _ _ (s₁.setTop (mkF m 8 #[.val (.int p1), .val (.long q2), .second, .val (.int kk), .unset, .unset, .unset, .unset, .unset, .unset] []))
  refine Run.of (fun tz kz => XS.iloadN X0.here hx rfl (hb hby at_8) rfl kz) ?_
  show Run _ _ _ _ (s₁.setTop (mkF m 9 #[.val (.int p1), .val (.long q2), .second, .val (.int kk), .unset, .unset, .unset, .unset, .unset, .unset] [(.int kk)]))
  by_cases hk0 : kk = (0 : Int32)
  · show Run _ _ _ _ (s₁.setTop (mkF m 9 #[.val (.int p1), .val (.long q2), .second, .val (.int kk), .unset, .unset, .unset, .unset, .unset, .unset] [(.int kk)]))
    refine Run.of (fun tz kz => XS.ifNo X0.here hx rfl (hb hby at_9) rfl ((if0 _ _).trans (teq hk0).2) kz) ?_
    obtain ⟨t, hS, hT⟩ := G0
    show Run _ _ _ _ (s₁.setTop (mkF m 12 #[.val (.int p1), .val (.long q2), .second, .val (.int kk), .unset, .unset, .unset, .unset, .unset, .unset] []))
    obtain ⟨T1, X1, e1, st1⟩ := getS X0 hx hZ hown (host := "") (hw _ (List.mem_of_getElem? (i := 1) rfl)) Via.refl e0 hS (g := (mkF m 12 #[.val (.int p1), .val (.long q2), .second, .val (.int kk), .unset, .unset, .unset, .unset, .unset, .unset] [])) rfl (hb hby at_12)
    refine Run.of st1 ?_
    show Run _ _ _ _ (T1.setTop (mkF m 15 #[.val (.int p1), .val (.long q2), .second, .val (.int kk), .unset, .unset, .unset, .unset, .unset, .unset] [(.ref t)]))
    refine Run.of (fun tz kz => XS.astore X1.here hx rfl (hb hby at_15) rfl rfl (l' := #[.val (.int p1), .val (.long q2), .second, .val (.int kk), .val (.ref t), .unset, .unset, .unset, .unset, .unset]) rfl kz) ?_
    show Run _ _ _ _ (T1.setTop (mkF m 17 #[.val (.int p1), .val (.long q2), .second, .val (.int kk), .val (.ref t), .unset, .unset, .unset, .unset, .unset] []))
    refine Run.of (fun tz kz => XS.bipush X1.here hx rfl (hb hby at_17) kz) ?_
    show Run _ _ _ _ (T1.setTop (mkF m 19 #[.val (.int p1), .val (.long q2), .second, .val (.int kk), .val (.ref t), .unset, .unset, .unset, .unset, .unset] [(.int (8 : Int32))]))
    refine Run.of (fun tz kz => XS.istore X1.here hx rfl (hb hby at_19) rfl (l' := #[.val (.int p1), .val (.long q2), .second, .val (.int kk), .val (.ref t), .val (.int (8 : Int32)), .unset, .unset, .unset, .unset]) rfl kz) ?_
    show Run _ _ _ _ (T1.setTop (mkF m 21 #[.val (.int p1), .val (.long q2), .second, .val (.int kk), .val (.ref t), .val (.int (8 : Int32)), .unset, .unset, .unset, .unset] []))
    refine Run.of (fun tz kz => XS.iconst X1.here hx rfl (hb hby at_21) kz) ?_
    show Run _ _ _ _ (T1.setTop (mkF m 22 #[.val (.int p1), .val (.long q2), .second, .val (.int kk), .val (.ref t), .val (.int (8 : Int32)), .unset, .unset, .unset, .unset] [(.int (1 : Int32))]))
    refine Run.of (fun tz kz => XS.istore X1.here hx rfl (hb hby at_22) rfl (l' := #[.val (.int p1), .val (.long q2), .second, .val (.int kk), .val (.ref t), .val (.int (8 : Int32)), .val (.int (1 : Int32)), .unset, .unset, .unset]) rfl kz) ?_
    show Run _ _ _ _ (T1.setTop (mkF m 24 #[.val (.int p1), .val (.long q2), .second, .val (.int kk), .val (.ref t), .val (.int (8 : Int32)), .val (.int (1 : Int32)), .unset, .unset, .unset] []))
    refine Run.of (fun tz kz => XS.goto X1.here hx rfl (pc0 := 24) (pc' := 223) rfl (hb hby at_24) (by decide) (by decide) kz) ?_
    show Run _ _ _ _ (T1.setTop (mkF m 223 #[.val (.int p1), .val (.long q2), .second, .val (.int kk), .val (.ref t), .val (.int (8 : Int32)), .val (.int (1 : Int32)), .unset, .unset, .unset] []))
    exact tail X1 hx (BodyLoose.notSynchronized Bd) hZ hw hby hml Bd.returns hown e1 t 8 1 hT (wv_8_1 q2)
  refine Run.of (fun tz kz => XS.ifYes X0.here hx rfl (pc0 := 9) (pc' := 27) rfl (hb hby at_9) rfl ((if0 _ _).trans (feq hk0).2) (by decide) (by decide) kz) ?_
  show Run _ _ _ _ (s₁.setTop (mkF m 27 #[.val (.int p1), .val (.long q2), .second, .val (.int kk), .unset, .unset, .unset, .unset, .unset, .unset] []))
  refine Run.of (fun tz kz => XS.iloadN X0.here hx rfl (hb hby at_27) rfl kz) ?_
  show Run _ _ _ _ (s₁.setTop (mkF m 28 #[.val (.int p1), .val (.long q2), .second, .val (.int kk), .unset, .unset, .unset, .unset, .unset, .unset] [(.int kk)]))
  refine Run.of (fun tz kz => XS.iconst X0.here hx rfl (hb hby at_28) kz) ?_
  show Run _ _ _ _ (s₁.setTop (mkF m 29 #[.val (.int p1), .val (.long q2), .second, .val (.int kk), .unset, .unset, .unset, .unset, .unset, .unset] [(.int (1 : Int32)), (.int kk)]))
  by_cases hk1 : kk = (1 : Int32)
  · show Run _ _ _ _ (s₁.setTop (mkF m 29 #[.val (.int p1), .val (.long q2), .second, .val (.int kk), .unset, .unset, .unset, .unset, .unset, .unset] [(.int (1 : Int32)), (.int kk)]))
    refine Run.of (fun tz kz => XS.icmpNo X0.here hx rfl (hb hby at_29) rfl (teq hk1).2 kz) ?_
    obtain ⟨t, hS, hT⟩ := G1
    show Run _ _ _ _ (s₁.setTop (mkF m 32 #[.val (.int p1), .val (.long q2), .second, .val (.int kk), .unset, .unset, .unset, .unset, .unset, .unset] []))
    obtain ⟨T1, X1, e1, st1⟩ := getS X0 hx hZ hown (host := "") (hw _ (List.mem_of_getElem? (i := 13) rfl)) Via.refl e0 hS (g := (mkF m 32 #[.val (.int p1), .val (.long q2), .second, .val (.int kk), .unset, .unset, .unset, .unset, .unset, .unset] [])) rfl (hb hby at_32)
    refine Run.of st1 ?_
    show Run _ _ _ _ (T1.setTop (mkF m 35 #[.val (.int p1), .val (.long q2), .second, .val (.int kk), .unset, .unset, .unset, .unset, .unset, .unset] [(.ref t)]))
    refine Run.of (fun tz kz => XS.astore X1.here hx rfl (hb hby at_35) rfl rfl (l' := #[.val (.int p1), .val (.long q2), .second, .val (.int kk), .val (.ref t), .unset, .unset, .unset, .unset, .unset]) rfl kz) ?_
    show Run _ _ _ _ (T1.setTop (mkF m 37 #[.val (.int p1), .val (.long q2), .second, .val (.int kk), .val (.ref t), .unset, .unset, .unset, .unset, .unset] []))
    refine Run.of (fun tz kz => XS.bipush X1.here hx rfl (hb hby at_37) kz) ?_
    show Run _ _ _ _ (T1.setTop (mkF m 39 #[.val (.int p1), .val (.long q2), .second, .val (.int kk), .val (.ref t), .unset, .unset, .unset, .unset, .unset] [(.int (8 : Int32))]))
    refine Run.of (fun tz kz => XS.istore X1.here hx rfl (hb hby at_39) rfl (l' := #[.val (.int p1), .val (.long q2), .second, .val (.int kk), .val (.ref t), .val (.int (8 : Int32)), .unset, .unset, .unset, .unset]) rfl kz) ?_
    show Run _ _ _ _ (T1.setTop (mkF m 41 #[.val (.int p1), .val (.long q2), .second, .val (.int kk), .val (.ref t), .val (.int (8 : Int32)), .unset, .unset, .unset, .unset] []))
    refine Run.of (fun tz kz => XS.iconst X1.here hx rfl (hb hby at_41) kz) ?_
    show Run _ _ _ _ (T1.setTop (mkF m 42 #[.val (.int p1), .val (.long q2), .second, .val (.int kk), .val (.ref t), .val (.int (8 : Int32)), .unset, .unset, .unset, .unset] [(.int (1 : Int32))]))
    refine Run.of (fun tz kz => XS.istore X1.here hx rfl (hb hby at_42) rfl (l' := #[.val (.int p1), .val (.long q2), .second, .val (.int kk), .val (.ref t), .val (.int (8 : Int32)), .val (.int (1 : Int32)), .unset, .unset, .unset]) rfl kz) ?_
    show Run _ _ _ _ (T1.setTop (mkF m 44 #[.val (.int p1), .val (.long q2), .second, .val (.int kk), .val (.ref t), .val (.int (8 : Int32)), .val (.int (1 : Int32)), .unset, .unset, .unset] []))
    refine Run.of (fun tz kz => XS.goto X1.here hx rfl (pc0 := 44) (pc' := 223) rfl (hb hby at_44) (by decide) (by decide) kz) ?_
    show Run _ _ _ _ (T1.setTop (mkF m 223 #[.val (.int p1), .val (.long q2), .second, .val (.int kk), .val (.ref t), .val (.int (8 : Int32)), .val (.int (1 : Int32)), .unset, .unset, .unset] []))
    exact tail X1 hx (BodyLoose.notSynchronized Bd) hZ hw hby hml Bd.returns hown e1 t 8 1 hT (wv_8_1 q2)
  refine Run.of (fun tz kz => XS.icmpYes X0.here hx rfl (pc0 := 29) (pc' := 47) rfl (hb hby at_29) rfl (feq hk1).2 (by decide) (by decide) kz) ?_
  show Run _ _ _ _ (s₁.setTop (mkF m 47 #[.val (.int p1), .val (.long q2), .second, .val (.int kk), .unset, .unset, .unset, .unset, .unset, .unset] []))
  refine Run.of (fun tz kz => XS.iloadN X0.here hx rfl (hb hby at_47) rfl kz) ?_
  show Run _ _ _ _ (s₁.setTop (mkF m 48 #[.val (.int p1), .val (.long q2), .second, .val (.int kk), .unset, .unset, .unset, .unset, .unset, .unset] [(.int kk)]))
  refine Run.of (fun tz kz => XS.iconst X0.here hx rfl (hb hby at_48) kz) ?_
  show Run _ _ _ _ (s₁.setTop (mkF m 49 #[.val (.int p1), .val (.long q2), .second, .val (.int kk), .unset, .unset, .unset, .unset, .unset, .unset] [(.int (2 : Int32)), (.int kk)]))
  by_cases hk2 : kk = (2 : Int32)
  · show Run _ _ _ _ (s₁.setTop (mkF m 49 #[.val (.int p1), .val (.long q2), .second, .val (.int kk), .unset, .unset, .unset, .unset, .unset, .unset] [(.int (2 : Int32)), (.int kk)]))
    refine Run.of (fun tz kz => XS.icmpNo X0.here hx rfl (hb hby at_49) rfl (teq hk2).2 kz) ?_
    obtain ⟨t, hS, hT⟩ := G2
    show Run _ _ _ _ (s₁.setTop (mkF m 52 #[.val (.int p1), .val (.long q2), .second, .val (.int kk), .unset, .unset, .unset, .unset, .unset, .unset] []))
    obtain ⟨T1, X1, e1, st1⟩ := getS X0 hx hZ hown (host := "") (hw _ (List.mem_of_getElem? (i := 26) rfl)) Via.refl e0 hS (g := (mkF m 52 #[.val (.int p1), .val (.long q2), .second, .val (.int kk), .unset, .unset, .unset, .unset, .unset, .unset] [])) rfl (hb hby at_52)
    refine Run.of st1 ?_
    show Run _ _ _ _ (T1.setTop (mkF m 55 #[.val (.int p1), .val (.long q2), .second, .val (.int kk), .unset, .unset, .unset, .unset, .unset, .unset] [(.ref t)]))
    refine Run.of (fun tz kz => XS.astore X1.here hx rfl (hb hby at_55) rfl rfl (l' := #[.val (.int p1), .val (.long q2), .second, .val (.int kk), .val (.ref t), .unset, .unset, .unset, .unset, .unset]) rfl kz) ?_
    show Run _ _ _ _ (T1.setTop (mkF m 57 #[.val (.int p1), .val (.long q2), .second, .val (.int kk), .val (.ref t), .unset, .unset, .unset, .unset, .unset] []))
    refine Run.of (fun tz kz => XS.bipush X1.here hx rfl (hb hby at_57) kz) ?_
    show Run _ _ _ _ (T1.setTop (mkF m 59 #[.val (.int p1), .val (.long q2), .second, .val (.int kk), .val (.ref t), .unset, .unset, .unset, .unset, .unset] [(.int (8 : Int32))]))
    refine Run.of (fun tz kz => XS.istore X1.here hx rfl (hb hby at_59) rfl (l' := #[.val (.int p1), .val (.long q2), .second, .val (.int kk), .val (.ref t), .val (.int (8 : Int32)), .unset, .unset, .unset, .unset]) rfl kz) ?_
    show Run _ _ _ _ (T1.setTop (mkF m 61 #[.val (.int p1), .val (.long q2), .second, .val (.int kk), .val (.ref t), .val (.int (8 : Int32)), .unset, .unset, .unset, .unset] []))
    refine Run.of (fun tz kz => XS.iconst X1.here hx rfl (hb hby at_61) kz) ?_
    show Run _ _ _ _ (T1.setTop (mkF m 62 #[.val (.int p1), .val (.long q2), .second, .val (.int kk), .val (.ref t), .val (.int (8 : Int32)), .unset, .unset, .unset, .unset] [(.int (0 : Int32))]))
    refine Run.of (fun tz kz => XS.istore X1.here hx rfl (hb hby at_62) rfl (l' := #[.val (.int p1), .val (.long q2), .second, .val (.int kk), .val (.ref t), .val (.int (8 : Int32)), .val (.int (0 : Int32)), .unset, .unset, .unset]) rfl kz) ?_
    show Run _ _ _ _ (T1.setTop (mkF m 64 #[.val (.int p1), .val (.long q2), .second, .val (.int kk), .val (.ref t), .val (.int (8 : Int32)), .val (.int (0 : Int32)), .unset, .unset, .unset] []))
    refine Run.of (fun tz kz => XS.goto X1.here hx rfl (pc0 := 64) (pc' := 223) rfl (hb hby at_64) (by decide) (by decide) kz) ?_
    show Run _ _ _ _ (T1.setTop (mkF m 223 #[.val (.int p1), .val (.long q2), .second, .val (.int kk), .val (.ref t), .val (.int (8 : Int32)), .val (.int (0 : Int32)), .unset, .unset, .unset] []))
    exact tail X1 hx (BodyLoose.notSynchronized Bd) hZ hw hby hml Bd.returns hown e1 t 8 0 hT (wv_8_0 q2)
  refine Run.of (fun tz kz => XS.icmpYes X0.here hx rfl (pc0 := 49) (pc' := 67) rfl (hb hby at_49) rfl (feq hk2).2 (by decide) (by decide) kz) ?_
  show Run _ _ _ _ (s₁.setTop (mkF m 67 #[.val (.int p1), .val (.long q2), .second, .val (.int kk), .unset, .unset, .unset, .unset, .unset, .unset] []))
  refine Run.of (fun tz kz => XS.iloadN X0.here hx rfl (hb hby at_67) rfl kz) ?_
  show Run _ _ _ _ (s₁.setTop (mkF m 68 #[.val (.int p1), .val (.long q2), .second, .val (.int kk), .unset, .unset, .unset, .unset, .unset, .unset] [(.int kk)]))
  refine Run.of (fun tz kz => XS.iconst X0.here hx rfl (hb hby at_68) kz) ?_
  show Run _ _ _ _ (s₁.setTop (mkF m 69 #[.val (.int p1), .val (.long q2), .second, .val (.int kk), .unset, .unset, .unset, .unset, .unset, .unset] [(.int (3 : Int32)), (.int kk)]))
  by_cases hk3 : kk = (3 : Int32)
  · show Run _ _ _ _ (s₁.setTop (mkF m 69 #[.val (.int p1), .val (.long q2), .second, .val (.int kk), .unset, .unset, .unset, .unset, .unset, .unset] [(.int (3 : Int32)), (.int kk)]))
    refine Run.of (fun tz kz => XS.icmpNo X0.here hx rfl (hb hby at_69) rfl (teq hk3).2 kz) ?_
    obtain ⟨t, hS, hT⟩ := G3
    show Run _ _ _ _ (s₁.setTop (mkF m 72 #[.val (.int p1), .val (.long q2), .second, .val (.int kk), .unset, .unset, .unset, .unset, .unset, .unset] []))
    obtain ⟨T1, X1, e1, st1⟩ := getS X0 hx hZ hown (host := "") (hw _ (List.mem_of_getElem? (i := 21) rfl)) Via.refl e0 hS (g := (mkF m 72 #[.val (.int p1), .val (.long q2), .second, .val (.int kk), .unset, .unset, .unset, .unset, .unset, .unset] [])) rfl (hb hby at_72)
    refine Run.of st1 ?_
    show Run _ _ _ _ (T1.setTop (mkF m 75 #[.val (.int p1), .val (.long q2), .second, .val (.int kk), .unset, .unset, .unset, .unset, .unset, .unset] [(.ref t)]))
    refine Run.of (fun tz kz => XS.astore X1.here hx rfl (hb hby at_75) rfl rfl (l' := #[.val (.int p1), .val (.long q2), .second, .val (.int kk), .val (.ref t), .unset, .unset, .unset, .unset, .unset]) rfl kz) ?_
    show Run _ _ _ _ (T1.setTop (mkF m 77 #[.val (.int p1), .val (.long q2), .second, .val (.int kk), .val (.ref t), .unset, .unset, .unset, .unset, .unset] []))
    refine Run.of (fun tz kz => XS.bipush X1.here hx rfl (hb hby at_77) kz) ?_
    show Run _ _ _ _ (T1.setTop (mkF m 79 #[.val (.int p1), .val (.long q2), .second, .val (.int kk), .val (.ref t), .unset, .unset, .unset, .unset, .unset] [(.int (16 : Int32))]))
    refine Run.of (fun tz kz => XS.istore X1.here hx rfl (hb hby at_79) rfl (l' := #[.val (.int p1), .val (.long q2), .second, .val (.int kk), .val (.ref t), .val (.int (16 : Int32)), .unset, .unset, .unset, .unset]) rfl kz) ?_
    show Run _ _ _ _ (T1.setTop (mkF m 81 #[.val (.int p1), .val (.long q2), .second, .val (.int kk), .val (.ref t), .val (.int (16 : Int32)), .unset, .unset, .unset, .unset] []))
    refine Run.of (fun tz kz => XS.iconst X1.here hx rfl (hb hby at_81) kz) ?_
    show Run _ _ _ _ (T1.setTop (mkF m 82 #[.val (.int p1), .val (.long q2), .second, .val (.int kk), .val (.ref t), .val (.int (16 : Int32)), .unset, .unset, .unset, .unset] [(.int (1 : Int32))]))
    refine Run.of (fun tz kz => XS.istore X1.here hx rfl (hb hby at_82) rfl (l' := #[.val (.int p1), .val (.long q2), .second, .val (.int kk), .val (.ref t), .val (.int (16 : Int32)), .val (.int (1 : Int32)), .unset, .unset, .unset]) rfl kz) ?_
    show Run _ _ _ _ (T1.setTop (mkF m 84 #[.val (.int p1), .val (.long q2), .second, .val (.int kk), .val (.ref t), .val (.int (16 : Int32)), .val (.int (1 : Int32)), .unset, .unset, .unset] []))
    refine Run.of (fun tz kz => XS.goto X1.here hx rfl (pc0 := 84) (pc' := 223) rfl (hb hby at_84) (by decide) (by decide) kz) ?_
    show Run _ _ _ _ (T1.setTop (mkF m 223 #[.val (.int p1), .val (.long q2), .second, .val (.int kk), .val (.ref t), .val (.int (16 : Int32)), .val (.int (1 : Int32)), .unset, .unset, .unset] []))
    exact tail X1 hx (BodyLoose.notSynchronized Bd) hZ hw hby hml Bd.returns hown e1 t 16 1 hT (wv_16_1 q2)
  refine Run.of (fun tz kz => XS.icmpYes X0.here hx rfl (pc0 := 69) (pc' := 87) rfl (hb hby at_69) rfl (feq hk3).2 (by decide) (by decide) kz) ?_
  show Run _ _ _ _ (s₁.setTop (mkF m 87 #[.val (.int p1), .val (.long q2), .second, .val (.int kk), .unset, .unset, .unset, .unset, .unset, .unset] []))
  refine Run.of (fun tz kz => XS.iloadN X0.here hx rfl (hb hby at_87) rfl kz) ?_
  show Run _ _ _ _ (s₁.setTop (mkF m 88 #[.val (.int p1), .val (.long q2), .second, .val (.int kk), .unset, .unset, .unset, .unset, .unset, .unset] [(.int kk)]))
  refine Run.of (fun tz kz => XS.iconst X0.here hx rfl (hb hby at_88) kz) ?_
  show Run _ _ _ _ (s₁.setTop (mkF m 89 #[.val (.int p1), .val (.long q2), .second, .val (.int kk), .unset, .unset, .unset, .unset, .unset, .unset] [(.int (4 : Int32)), (.int kk)]))
  by_cases hk4 : kk = (4 : Int32)
  · show Run _ _ _ _ (s₁.setTop (mkF m 89 #[.val (.int p1), .val (.long q2), .second, .val (.int kk), .unset, .unset, .unset, .unset, .unset, .unset] [(.int (4 : Int32)), (.int kk)]))
    refine Run.of (fun tz kz => XS.icmpNo X0.here hx rfl (hb hby at_89) rfl (teq hk4).2 kz) ?_
    obtain ⟨t, hS, hT⟩ := G4
    show Run _ _ _ _ (s₁.setTop (mkF m 92 #[.val (.int p1), .val (.long q2), .second, .val (.int kk), .unset, .unset, .unset, .unset, .unset, .unset] []))
    obtain ⟨T1, X1, e1, st1⟩ := getS X0 hx hZ hown (host := "") (hw _ (List.mem_of_getElem? (i := 23) rfl)) Via.refl e0 hS (g := (mkF m 92 #[.val (.int p1), .val (.long q2), .second, .val (.int kk), .unset, .unset, .unset, .unset, .unset, .unset] [])) rfl (hb hby at_92)
    refine Run.of st1 ?_
    show Run _ _ _ _ (T1.setTop (mkF m 95 #[.val (.int p1), .val (.long q2), .second, .val (.int kk), .unset, .unset, .unset, .unset, .unset, .unset] [(.ref t)]))
    refine Run.of (fun tz kz => XS.astore X1.here hx rfl (hb hby at_95) rfl rfl (l' := #[.val (.int p1), .val (.long q2), .second, .val (.int kk), .val (.ref t), .unset, .unset, .unset, .unset, .unset]) rfl kz) ?_
    show Run _ _ _ _ (T1.setTop (mkF m 97 #[.val (.int p1), .val (.long q2), .second, .val (.int kk), .val (.ref t), .unset, .unset, .unset, .unset, .unset] []))
    refine Run.of (fun tz kz => XS.bipush X1.here hx rfl (hb hby at_97) kz) ?_
    show Run _ _ _ _ (T1.setTop (mkF m 99 #[.val (.int p1), .val (.long q2), .second, .val (.int kk), .val (.ref t), .unset, .unset, .unset, .unset, .unset] [(.int (16 : Int32))]))
    refine Run.of (fun tz kz => XS.istore X1.here hx rfl (hb hby at_99) rfl (l' := #[.val (.int p1), .val (.long q2), .second, .val (.int kk), .val (.ref t), .val (.int (16 : Int32)), .unset, .unset, .unset, .unset]) rfl kz) ?_
    show Run _ _ _ _ (T1.setTop (mkF m 101 #[.val (.int p1), .val (.long q2), .second, .val (.int kk), .val (.ref t), .val (.int (16 : Int32)), .unset, .unset, .unset, .unset] []))
    refine Run.of (fun tz kz => XS.iconst X1.here hx rfl (hb hby at_101) kz) ?_
    show Run _ _ _ _ (T1.setTop (mkF m 102 #[.val (.int p1), .val (.long q2), .second, .val (.int kk), .val (.ref t), .val (.int (16 : Int32)), .unset, .unset, .unset, .unset] [(.int (0 : Int32))]))
    refine Run.of (fun tz kz => XS.istore X1.here hx rfl (hb hby at_102) rfl (l' := #[.val (.int p1), .val (.long q2), .second, .val (.int kk), .val (.ref t), .val (.int (16 : Int32)), .val (.int (0 : Int32)), .unset, .unset, .unset]) rfl kz) ?_
    show Run _ _ _ _ (T1.setTop (mkF m 104 #[.val (.int p1), .val (.long q2), .second, .val (.int kk), .val (.ref t), .val (.int (16 : Int32)), .val (.int (0 : Int32)), .unset, .unset, .unset] []))
    refine Run.of (fun tz kz => XS.goto X1.here hx rfl (pc0 := 104) (pc' := 223) rfl (hb hby at_104) (by decide) (by decide) kz) ?_
    show Run _ _ _ _ (T1.setTop (mkF m 223 #[.val (.int p1), .val (.long q2), .second, .val (.int kk), .val (.ref t), .val (.int (16 : Int32)), .val (.int (0 : Int32)), .unset, .unset, .unset] []))
    exact tail X1 hx (BodyLoose.notSynchronized Bd) hZ hw hby hml Bd.returns hown e1 t 16 0 hT (wv_16_0 q2)
  refine Run.of (fun tz kz => XS.icmpYes X0.here hx rfl (pc0 := 89) (pc' := 107) rfl (hb hby at_89) rfl (feq hk4).2 (by decide) (by decide) kz) ?_
  show Run _ _ _ _ (s₁.setTop (mkF m 107 #[.val (.int p1), .val (.long q2), .second, .val (.int kk), .unset, .unset, .unset, .unset, .unset, .unset] []))
  refine Run.of (fun tz kz => XS.iloadN X0.here hx rfl (hb hby at_107) rfl kz) ?_
  show Run _ _ _ _ (s₁.setTop (mkF m 108 #[.val (.int p1), .val (.long q2), .second, .val (.int kk), .unset, .unset, .unset, .unset, .unset, .unset] [(.int kk)]))
  refine Run.of (fun tz kz => XS.iconst X0.here hx rfl (hb hby at_108) kz) ?_
  show Run _ _ _ _ (s₁.setTop (mkF m 109 #[.val (.int p1), .val (.long q2), .second, .val (.int kk), .unset, .unset, .unset, .unset, .unset, .unset] [(.int (5 : Int32)), (.int kk)]))
  by_cases hk5 : kk = (5 : Int32)
  · show Run _ _ _ _ (s₁.setTop (mkF m 109 #[.val (.int p1), .val (.long q2), .second, .val (.int kk), .unset, .unset, .unset, .unset, .unset, .unset] [(.int (5 : Int32)), (.int kk)]))
    refine Run.of (fun tz kz => XS.icmpNo X0.here hx rfl (hb hby at_109) rfl (teq hk5).2 kz) ?_
    obtain ⟨t, hS, hT⟩ := G5
    show Run _ _ _ _ (s₁.setTop (mkF m 112 #[.val (.int p1), .val (.long q2), .second, .val (.int kk), .unset, .unset, .unset, .unset, .unset, .unset] []))
    obtain ⟨T1, X1, e1, st1⟩ := getS X0 hx hZ hown (host := "") (hw _ (List.mem_of_getElem? (i := 19) rfl)) Via.refl e0 hS (g := (mkF m 112 #[.val (.int p1), .val (.long q2), .second, .val (.int kk), .unset, .unset, .unset, .unset, .unset, .unset] [])) rfl (hb hby at_112)
    refine Run.of st1 ?_
    show Run _ _ _ _ (T1.setTop (mkF m 115 #[.val (.int p1), .val (.long q2), .second, .val (.int kk), .unset, .unset, .unset, .unset, .unset, .unset] [(.ref t)]))
    refine Run.of (fun tz kz => XS.astore X1.here hx rfl (hb hby at_115) rfl rfl (l' := #[.val (.int p1), .val (.long q2), .second, .val (.int kk), .val (.ref t), .unset, .unset, .unset, .unset, .unset]) rfl kz) ?_
    show Run _ _ _ _ (T1.setTop (mkF m 117 #[.val (.int p1), .val (.long q2), .second, .val (.int kk), .val (.ref t), .unset, .unset, .unset, .unset, .unset] []))
    refine Run.of (fun tz kz => XS.bipush X1.here hx rfl (hb hby at_117) kz) ?_
    show Run _ _ _ _ (T1.setTop (mkF m 119 #[.val (.int p1), .val (.long q2), .second, .val (.int kk), .val (.ref t), .unset, .unset, .unset, .unset, .unset] [(.int (32 : Int32))]))
    refine Run.of (fun tz kz => XS.istore X1.here hx rfl (hb hby at_119) rfl (l' := #[.val (.int p1), .val (.long q2), .second, .val (.int kk), .val (.ref t), .val (.int (32 : Int32)), .unset, .unset, .unset, .unset]) rfl kz) ?_
    show Run _ _ _ _ (T1.setTop (mkF m 121 #[.val (.int p1), .val (.long q2), .second, .val (.int kk), .val (.ref t), .val (.int (32 : Int32)), .unset, .unset, .unset, .unset] []))
    refine Run.of (fun tz kz => XS.iconst X1.here hx rfl (hb hby at_121) kz) ?_
    show Run _ _ _ _ (T1.setTop (mkF m 122 #[.val (.int p1), .val (.long q2), .second, .val (.int kk), .val (.ref t), .val (.int (32 : Int32)), .unset, .unset, .unset, .unset] [(.int (1 : Int32))]))
    refine Run.of (fun tz kz => XS.istore X1.here hx rfl (hb hby at_122) rfl (l' := #[.val (.int p1), .val (.long q2), .second, .val (.int kk), .val (.ref t), .val (.int (32 : Int32)), .val (.int (1 : Int32)), .unset, .unset, .unset]) rfl kz) ?_
    show Run _ _ _ _ (T1.setTop (mkF m 124 #[.val (.int p1), .val (.long q2), .second, .val (.int kk), .val (.ref t), .val (.int (32 : Int32)), .val (.int (1 : Int32)), .unset, .unset, .unset] []))
    refine Run.of (fun tz kz => XS.goto X1.here hx rfl (pc0 := 124) (pc' := 223) rfl (hb hby at_124) (by decide) (by decide) kz) ?_
    show Run _ _ _ _ (T1.setTop (mkF m 223 #[.val (.int p1), .val (.long q2), .second, .val (.int kk), .val (.ref t), .val (.int (32 : Int32)), .val (.int (1 : Int32)), .unset, .unset, .unset] []))
    exact tail X1 hx (BodyLoose.notSynchronized Bd) hZ hw hby hml Bd.returns hown e1 t 32 1 hT (wv_32_1 q2)
  refine Run.of (fun tz kz => XS.icmpYes X0.here hx rfl (pc0 := 109) (pc' := 127) rfl (hb hby at_109) rfl (feq hk5).2 (by decide) (by decide) kz) ?_
  show Run _ _ _ _ (s₁.setTop (mkF m 127 #[.val (.int p1), .val (.long q2), .second, .val (.int kk), .unset, .unset, .unset, .unset, .unset, .unset] []))
  refine Run.of (fun tz kz => XS.iloadN X0.here hx rfl (hb hby at_127) rfl kz) ?_
  show Run _ _ _ _ (s₁.setTop (mkF m 128 #[.val (.int p1), .val (.long q2), .second, .val (.int kk), .unset, .unset, .unset, .unset, .unset, .unset] [(.int kk)]))
  refine Run.of (fun tz kz => XS.bipush X0.here hx rfl (hb hby at_128) kz) ?_
  show Run _ _ _ _ (s₁.setTop (mkF m 130 #[.val (.int p1), .val (.long q2), .second, .val (.int kk), .unset, .unset, .unset, .unset, .unset, .unset] [(.int (6 : Int32)), (.int kk)]))
  by_cases hk6 : kk = (6 : Int32)
  · show Run _ _ _ _ (s₁.setTop (mkF m 130 #[.val (.int p1), .val (.long q2), .second, .val (.int kk), .unset, .unset, .unset, .unset, .unset, .unset] [(.int (6 : Int32)), (.int kk)]))
    refine Run.of (fun tz kz => XS.icmpNo X0.here hx rfl (hb hby at_130) rfl (teq hk6).2 kz) ?_
    obtain ⟨t, hS, hT⟩ := G6
    show Run _ _ _ _ (s₁.setTop (mkF m 133 #[.val (.int p1), .val (.long q2), .second, .val (.int kk), .unset, .unset, .unset, .unset, .unset, .unset] []))
    obtain ⟨T1, X1, e1, st1⟩ := getS X0 hx hZ hown (host := "") (hw _ (List.mem_of_getElem? (i := 29) rfl)) Via.refl e0 hS (g := (mkF m 133 #[.val (.int p1), .val (.long q2), .second, .val (.int kk), .unset, .unset, .unset, .unset, .unset, .unset] [])) rfl (hb hby at_133)
    refine Run.of st1 ?_
    show Run _ _ _ _ (T1.setTop (mkF m 136 #[.val (.int p1), .val (.long q2), .second, .val (.int kk), .unset, .unset, .unset, .unset, .unset, .unset] [(.ref t)]))
    refine Run.of (fun tz kz => XS.astore X1.here hx rfl (hb hby at_136) rfl rfl (l' := #[.val (.int p1), .val (.long q2), .second, .val (.int kk), .val (.ref t), .unset, .unset, .unset, .unset, .unset]) rfl kz) ?_
    show Run _ _ _ _ (T1.setTop (mkF m 138 #[.val (.int p1), .val (.long q2), .second, .val (.int kk), .val (.ref t), .unset, .unset, .unset, .unset, .unset] []))
    refine Run.of (fun tz kz => XS.bipush X1.here hx rfl (hb hby at_138) kz) ?_
    show Run _ _ _ _ (T1.setTop (mkF m 140 #[.val (.int p1), .val (.long q2), .second, .val (.int kk), .val (.ref t), .unset, .unset, .unset, .unset, .unset] [(.int (32 : Int32))]))
    refine Run.of (fun tz kz => XS.istore X1.here hx rfl (hb hby at_140) rfl (l' := #[.val (.int p1), .val (.long q2), .second, .val (.int kk), .val (.ref t), .val (.int (32 : Int32)), .unset, .unset, .unset, .unset]) rfl kz) ?_
    show Run _ _ _ _ (T1.setTop (mkF m 142 #[.val (.int p1), .val (.long q2), .second, .val (.int kk), .val (.ref t), .val (.int (32 : Int32)), .unset, .unset, .unset, .unset] []))
    refine Run.of (fun tz kz => XS.iconst X1.here hx rfl (hb hby at_142) kz) ?_
    show Run _ _ _ _ (T1.setTop (mkF m 143 #[.val (.int p1), .val (.long q2), .second, .val (.int kk), .val (.ref t), .val (.int (32 : Int32)), .unset, .unset, .unset, .unset] [(.int (0 : Int32))]))
    refine Run.of (fun tz kz => XS.istore X1.here hx rfl (hb hby at_143) rfl (l' := #[.val (.int p1), .val (.long q2), .second, .val (.int kk), .val (.ref t), .val (.int (32 : Int32)), .val (.int (0 : Int32)), .unset, .unset, .unset]) rfl kz) ?_
    show Run _ _ _ _ (T1.setTop (mkF m 145 #[.val (.int p1), .val (.long q2), .second, .val (.int kk), .val (.ref t), .val (.int (32 : Int32)), .val (.int (0 : Int32)), .unset, .unset, .unset] []))
    refine Run.of (fun tz kz => XS.goto X1.here hx rfl (pc0 := 145) (pc' := 223) rfl (hb hby at_145) (by decide) (by decide) kz) ?_
    show Run _ _ _ _ (T1.setTop (mkF m 223 #[.val (.int p1), .val (.long q2), .second, .val (.int kk), .val (.ref t), .val (.int (32 : Int32)), .val (.int (0 : Int32)), .unset, .unset, .unset] []))
    exact tail X1 hx (BodyLoose.notSynchronized Bd) hZ hw hby hml Bd.returns hown e1 t 32 0 hT (wv_32_0 q2)
  refine Run.of (fun tz kz => XS.icmpYes X0.here hx rfl (pc0 := 130) (pc' := 148) rfl (hb hby at_130) rfl (feq hk6).2 (by decide) (by decide) kz) ?_
  show Run _ _ _ _ (s₁.setTop (mkF m 148 #[.val (.int p1), .val (.long q2), .second, .val (.int kk), .unset, .unset, .unset, .unset, .unset, .unset] []))
  refine Run.of (fun tz kz => XS.iloadN X0.here hx rfl (hb hby at_148) rfl kz) ?_
  show Run _ _ _ _ (s₁.setTop (mkF m 149 #[.val (.int p1), .val (.long q2), .second, .val (.int kk), .unset, .unset, .unset, .unset, .unset, .unset] [(.int kk)]))
  refine Run.of (fun tz kz => XS.bipush X0.here hx rfl (hb hby at_149) kz) ?_
  show Run _ _ _ _ (s₁.setTop (mkF m 151 #[.val (.int p1), .val (.long q2), .second, .val (.int kk), .unset, .unset, .unset, .unset, .unset, .unset] [(.int (7 : Int32)), (.int kk)]))
  by_cases hk7 : kk = (7 : Int32)
  · show Run _ _ _ _ (s₁.setTop (mkF m 151 #[.val (.int p1), .val (.long q2), .second, .val (.int kk), .unset, .unset, .unset, .unset, .unset, .unset] [(.int (7 : Int32)), (.int kk)]))
    refine Run.of (fun tz kz => XS.icmpNo X0.here hx rfl (hb hby at_151) rfl (teq hk7).2 kz) ?_
    obtain ⟨t, hS, hT⟩ := G7
    show Run _ _ _ _ (s₁.setTop (mkF m 154 #[.val (.int p1), .val (.long q2), .second, .val (.int kk), .unset, .unset, .unset, .unset, .unset, .unset] []))
    obtain ⟨T1, X1, e1, st1⟩ := getS X0 hx hZ hown (host := "") (hw _ (List.mem_of_getElem? (i := 32) rfl)) Via.refl e0 hS (g := (mkF m 154 #[.val (.int p1), .val (.long q2), .second, .val (.int kk), .unset, .unset, .unset, .unset, .unset, .unset] [])) rfl (hb hby at_154)
    refine Run.of st1 ?_
    show Run _ _ _ _ (T1.setTop (mkF m 157 #[.val (.int p1), .val (.long q2), .second, .val (.int kk), .unset, .unset, .unset, .unset, .unset, .unset] [(.ref t)]))
    refine Run.of (fun tz kz => XS.astore X1.here hx rfl (hb hby at_157) rfl rfl (l' := #[.val (.int p1), .val (.long q2), .second, .val (.int kk), .val (.ref t), .unset, .unset, .unset, .unset, .unset]) rfl kz) ?_
    show Run _ _ _ _ (T1.setTop (mkF m 159 #[.val (.int p1), .val (.long q2), .second, .val (.int kk), .val (.ref t), .unset, .unset, .unset, .unset, .unset] []))
    refine Run.of (fun tz kz => XS.bipush X1.here hx rfl (hb hby at_159) kz) ?_
    show Run _ _ _ _ (T1.setTop (mkF m 161 #[.val (.int p1), .val (.long q2), .second, .val (.int kk), .val (.ref t), .unset, .unset, .unset, .unset, .unset] [(.int (64 : Int32))]))
    refine Run.of (fun tz kz => XS.istore X1.here hx rfl (hb hby at_161) rfl (l' := #[.val (.int p1), .val (.long q2), .second, .val (.int kk), .val (.ref t), .val (.int (64 : Int32)), .unset, .unset, .unset, .unset]) rfl kz) ?_
    show Run _ _ _ _ (T1.setTop (mkF m 163 #[.val (.int p1), .val (.long q2), .second, .val (.int kk), .val (.ref t), .val (.int (64 : Int32)), .unset, .unset, .unset, .unset] []))
    refine Run.of (fun tz kz => XS.iconst X1.here hx rfl (hb hby at_163) kz) ?_
    show Run _ _ _ _ (T1.setTop (mkF m 164 #[.val (.int p1), .val (.long q2), .second, .val (.int kk), .val (.ref t), .val (.int (64 : Int32)), .unset, .unset, .unset, .unset] [(.int (1 : Int32))]))
    refine Run.of (fun tz kz => XS.istore X1.here hx rfl (hb hby at_164) rfl (l' := #[.val (.int p1), .val (.long q2), .second, .val (.int kk), .val (.ref t), .val (.int (64 : Int32)), .val (.int (1 : Int32)), .unset, .unset, .unset]) rfl kz) ?_
    show Run _ _ _ _ (T1.setTop (mkF m 166 #[.val (.int p1), .val (.long q2), .second, .val (.int kk), .val (.ref t), .val (.int (64 : Int32)), .val (.int (1 : Int32)), .unset, .unset, .unset] []))
    refine Run.of (fun tz kz => XS.goto X1.here hx rfl (pc0 := 166) (pc' := 223) rfl (hb hby at_166) (by decide) (by decide) kz) ?_
    show Run _ _ _ _ (T1.setTop (mkF m 223 #[.val (.int p1), .val (.long q2), .second, .val (.int kk), .val (.ref t), .val (.int (64 : Int32)), .val (.int (1 : Int32)), .unset, .unset, .unset] []))
    exact tail X1 hx (BodyLoose.notSynchronized Bd) hZ hw hby hml Bd.returns hown e1 t 64 1 hT (wv_64_1 q2)
  refine Run.of (fun tz kz => XS.icmpYes X0.here hx rfl (pc0 := 151) (pc' := 169) rfl (hb hby at_151) rfl (feq hk7).2 (by decide) (by decide) kz) ?_
  show Run _ _ _ _ (s₁.setTop (mkF m 169 #[.val (.int p1), .val (.long q2), .second, .val (.int kk), .unset, .unset, .unset, .unset, .unset, .unset] []))
  refine Run.of (fun tz kz => XS.iloadN X0.here hx rfl (hb hby at_169) rfl kz) ?_
  show Run _ _ _ _ (s₁.setTop (mkF m 170 #[.val (.int p1), .val (.long q2), .second, .val (.int kk), .unset, .unset, .unset, .unset, .unset, .unset] [(.int kk)]))
  refine Run.of (fun tz kz => XS.bipush X0.here hx rfl (hb hby at_170) kz) ?_
  show Run _ _ _ _ (s₁.setTop (mkF m 172 #[.val (.int p1), .val (.long q2), .second, .val (.int kk), .unset, .unset, .unset, .unset, .unset, .unset] [(.int (8 : Int32)), (.int kk)]))
  by_cases hk8 : kk = (8 : Int32)
  · show Run _ _ _ _ (s₁.setTop (mkF m 172 #[.val (.int p1), .val (.long q2), .second, .val (.int kk), .unset, .unset, .unset, .unset, .unset, .unset] [(.int (8 : Int32)), (.int kk)]))
    refine Run.of (fun tz kz => XS.icmpNo X0.here hx rfl (hb hby at_172) rfl (teq hk8).2 kz) ?_
    obtain ⟨t, hS, hT⟩ := G8
    show Run _ _ _ _ (s₁.setTop (mkF m 175 #[.val (.int p1), .val (.long q2), .second, .val (.int kk), .unset, .unset, .unset, .unset, .unset, .unset] []))
    obtain ⟨T1, X1, e1, st1⟩ := getS X0 hx hZ hown (host := "") (hw _ (List.mem_of_getElem? (i := 15) rfl)) Via.refl e0 hS (g := (mkF m 175 #[.val (.int p1), .val (.long q2), .second, .val (.int kk), .unset, .unset, .unset, .unset, .unset, .unset] [])) rfl (hb hby at_175)
    refine Run.of st1 ?_
    show Run _ _ _ _ (T1.setTop (mkF m 178 #[.val (.int p1), .val (.long q2), .second, .val (.int kk), .unset, .unset, .unset, .unset, .unset, .unset] [(.ref t)]))
    refine Run.of (fun tz kz => XS.astore X1.here hx rfl (hb hby at_178) rfl rfl (l' := #[.val (.int p1), .val (.long q2), .second, .val (.int kk), .val (.ref t), .unset, .unset, .unset, .unset, .unset]) rfl kz) ?_
    show Run _ _ _ _ (T1.setTop (mkF m 180 #[.val (.int p1), .val (.long q2), .second, .val (.int kk), .val (.ref t), .unset, .unset, .unset, .unset, .unset] []))
    refine Run.of (fun tz kz => XS.bipush X1.here hx rfl (hb hby at_180) kz) ?_
    show Run _ _ _ _ (T1.setTop (mkF m 182 #[.val (.int p1), .val (.long q2), .second, .val (.int kk), .val (.ref t), .unset, .unset, .unset, .unset, .unset] [(.int (64 : Int32))]))
    refine Run.of (fun tz kz => XS.istore X1.here hx rfl (hb hby at_182) rfl (l' := #[.val (.int p1), .val (.long q2), .second, .val (.int kk), .val (.ref t), .val (.int (64 : Int32)), .unset, .unset, .unset, .unset]) rfl kz) ?_
    show Run _ _ _ _ (T1.setTop (mkF m 184 #[.val (.int p1), .val (.long q2), .second, .val (.int kk), .val (.ref t), .val (.int (64 : Int32)), .unset, .unset, .unset, .unset] []))
    refine Run.of (fun tz kz => XS.iconst X1.here hx rfl (hb hby at_184) kz) ?_
    show Run _ _ _ _ (T1.setTop (mkF m 185 #[.val (.int p1), .val (.long q2), .second, .val (.int kk), .val (.ref t), .val (.int (64 : Int32)), .unset, .unset, .unset, .unset] [(.int (0 : Int32))]))
    refine Run.of (fun tz kz => XS.istore X1.here hx rfl (hb hby at_185) rfl (l' := #[.val (.int p1), .val (.long q2), .second, .val (.int kk), .val (.ref t), .val (.int (64 : Int32)), .val (.int (0 : Int32)), .unset, .unset, .unset]) rfl kz) ?_
    show Run _ _ _ _ (T1.setTop (mkF m 187 #[.val (.int p1), .val (.long q2), .second, .val (.int kk), .val (.ref t), .val (.int (64 : Int32)), .val (.int (0 : Int32)), .unset, .unset, .unset] []))
    refine Run.of (fun tz kz => XS.goto X1.here hx rfl (pc0 := 187) (pc' := 223) rfl (hb hby at_187) (by decide) (by decide) kz) ?_
    show Run _ _ _ _ (T1.setTop (mkF m 223 #[.val (.int p1), .val (.long q2), .second, .val (.int kk), .val (.ref t), .val (.int (64 : Int32)), .val (.int (0 : Int32)), .unset, .unset, .unset] []))
    exact tail X1 hx (BodyLoose.notSynchronized Bd) hZ hw hby hml Bd.returns hown e1 t 64 0 hT (wv_64_0 q2)
  refine Run.of (fun tz kz => XS.icmpYes X0.here hx rfl (pc0 := 172) (pc' := 190) rfl (hb hby at_172) rfl (feq hk8).2 (by decide) (by decide) kz) ?_
  show Run _ _ _ _ (s₁.setTop (mkF m 190 #[.val (.int p1), .val (.long q2), .second, .val (.int kk), .unset, .unset, .unset, .unset, .unset, .unset] []))
  refine Run.of (fun tz kz => XS.iloadN X0.here hx rfl (hb hby at_190) rfl kz) ?_
  show Run _ _ _ _ (s₁.setTop (mkF m 191 #[.val (.int p1), .val (.long q2), .second, .val (.int kk), .unset, .unset, .unset, .unset, .unset, .unset] [(.int kk)]))
  refine Run.of (fun tz kz => XS.bipush X0.here hx rfl (hb hby at_191) kz) ?_
  show Run _ _ _ _ (s₁.setTop (mkF m 193 #[.val (.int p1), .val (.long q2), .second, .val (.int kk), .unset, .unset, .unset, .unset, .unset, .unset] [(.int (9 : Int32)), (.int kk)]))
  by_cases hk9 : kk = (9 : Int32)
  · show Run _ _ _ _ (s₁.setTop (mkF m 193 #[.val (.int p1), .val (.long q2), .second, .val (.int kk), .unset, .unset, .unset, .unset, .unset, .unset] [(.int (9 : Int32)), (.int kk)]))
    refine Run.of (fun tz kz => XS.icmpNo X0.here hx rfl (hb hby at_193) rfl (teq hk9).2 kz) ?_
    obtain ⟨t, hS, hT⟩ := G9
    show Run _ _ _ _ (s₁.setTop (mkF m 196 #[.val (.int p1), .val (.long q2), .second, .val (.int kk), .unset, .unset, .unset, .unset, .unset, .unset] []))
    obtain ⟨T1, X1, e1, st1⟩ := getS X0 hx hZ hown (host := "") (hw _ (List.mem_of_getElem? (i := 34) rfl)) Via.refl e0 hS (g := (mkF m 196 #[.val (.int p1), .val (.long q2), .second, .val (.int kk), .unset, .unset, .unset, .unset, .unset, .unset] [])) rfl (hb hby at_196)
    refine Run.of st1 ?_
    show Run _ _ _ _ (T1.setTop (mkF m 199 #[.val (.int p1), .val (.long q2), .second, .val (.int kk), .unset, .unset, .unset, .unset, .unset, .unset] [(.ref t)]))
    refine Run.of (fun tz kz => XS.astore X1.here hx rfl (hb hby at_199) rfl rfl (l' := #[.val (.int p1), .val (.long q2), .second, .val (.int kk), .val (.ref t), .unset, .unset, .unset, .unset, .unset]) rfl kz) ?_
    show Run _ _ _ _ (T1.setTop (mkF m 201 #[.val (.int p1), .val (.long q2), .second, .val (.int kk), .val (.ref t), .unset, .unset, .unset, .unset, .unset] []))
    refine Run.of (fun tz kz => XS.bipush X1.here hx rfl (hb hby at_201) kz) ?_
    show Run _ _ _ _ (T1.setTop (mkF m 203 #[.val (.int p1), .val (.long q2), .second, .val (.int kk), .val (.ref t), .unset, .unset, .unset, .unset, .unset] [(.int (64 : Int32))]))
    refine Run.of (fun tz kz => XS.istore X1.here hx rfl (hb hby at_203) rfl (l' := #[.val (.int p1), .val (.long q2), .second, .val (.int kk), .val (.ref t), .val (.int (64 : Int32)), .unset, .unset, .unset, .unset]) rfl kz) ?_
    show Run _ _ _ _ (T1.setTop (mkF m 205 #[.val (.int p1), .val (.long q2), .second, .val (.int kk), .val (.ref t), .val (.int (64 : Int32)), .unset, .unset, .unset, .unset] []))
    refine Run.of (fun tz kz => XS.iconst X1.here hx rfl (hb hby at_205) kz) ?_
    show Run _ _ _ _ (T1.setTop (mkF m 206 #[.val (.int p1), .val (.long q2), .second, .val (.int kk), .val (.ref t), .val (.int (64 : Int32)), .unset, .unset, .unset, .unset] [(.int (1 : Int32))]))
    refine Run.of (fun tz kz => XS.istore X1.here hx rfl (hb hby at_206) rfl (l' := #[.val (.int p1), .val (.long q2), .second, .val (.int kk), .val (.ref t), .val (.int (64 : Int32)), .val (.int (1 : Int32)), .unset, .unset, .unset]) rfl kz) ?_
    show Run _ _ _ _ (T1.setTop (mkF m 208 #[.val (.int p1), .val (.long q2), .second, .val (.int kk), .val (.ref t), .val (.int (64 : Int32)), .val (.int (1 : Int32)), .unset, .unset, .unset] []))
    refine Run.of (fun tz kz => XS.goto X1.here hx rfl (pc0 := 208) (pc' := 223) rfl (hb hby at_208) (by decide) (by decide) kz) ?_
    show Run _ _ _ _ (T1.setTop (mkF m 223 #[.val (.int p1), .val (.long q2), .second, .val (.int kk), .val (.ref t), .val (.int (64 : Int32)), .val (.int (1 : Int32)), .unset, .unset, .unset] []))
    exact tail X1 hx (BodyLoose.notSynchronized Bd) hZ hw hby hml Bd.returns hown e1 t 64 1 hT (wv_64_1 q2)
  refine Run.of (fun tz kz => XS.icmpYes X0.here hx rfl (pc0 := 193) (pc' := 211) rfl (hb hby at_193) rfl (feq hk9).2 (by decide) (by decide) kz) ?_
  show Run _ _ _ _ (s₁.setTop (mkF m 211 #[.val (.int p1), .val (.long q2), .second, .val (.int kk), .unset, .unset, .unset, .unset, .unset, .unset] []))
  obtain ⟨t, hS, hT⟩ := G10
  show Run _ _ _ _ (s₁.setTop (mkF m 211 #[.val (.int p1), .val (.long q2), .second, .val (.int kk), .unset, .unset, .unset, .unset, .unset, .unset] []))
  obtain ⟨T1, X1, e1, st1⟩ := getS X0 hx hZ hown (host := "") (hw _ (List.mem_of_getElem? (i := 17) rfl)) Via.refl e0 hS (g := (mkF m 211 #[.val (.int p1), .val (.long q2), .second, .val (.int kk), .unset, .unset, .unset, .unset, .unset, .unset] [])) rfl (hb hby at_211)
  refine Run.of st1 ?_
  show Run _ _ _ _ (T1.setTop (mkF m 214 #[.val (.int p1), .val (.long q2), .second, .val (.int kk), .unset, .unset, .unset, .unset, .unset, .unset] [(.ref t)]))
  refine Run.of (fun tz kz => XS.astore X1.here hx rfl (hb hby at_214) rfl rfl (l' := #[.val (.int p1), .val (.long q2), .second, .val (.int kk), .val (.ref t), .unset, .unset, .unset, .unset, .unset]) rfl kz) ?_
  show Run _ _ _ _ (T1.setTop (mkF m 216 #[.val (.int p1), .val (.long q2), .second, .val (.int kk), .val (.ref t), .unset, .unset, .unset, .unset, .unset] []))
  refine Run.of (fun tz kz => XS.bipush X1.here hx rfl (hb hby at_216) kz) ?_
  show Run _ _ _ _ (T1.setTop (mkF m 218 #[.val (.int p1), .val (.long q2), .second, .val (.int kk), .val (.ref t), .unset, .unset, .unset, .unset, .unset] [(.int (64 : Int32))]))
  refine Run.of (fun tz kz => XS.istore X1.here hx rfl (hb hby at_218) rfl (l' := #[.val (.int p1), .val (.long q2), .second, .val (.int kk), .val (.ref t), .val (.int (64 : Int32)), .unset, .unset, .unset, .unset]) rfl kz) ?_
  show Run _ _ _ _ (T1.setTop (mkF m 220 #[.val (.int p1), .val (.long q2), .second, .val (.int kk), .val (.ref t), .val (.int (64 : Int32)), .unset, .unset, .unset, .unset] []))
  refine Run.of (fun tz kz => XS.iconst X1.here hx rfl (hb hby at_220) kz) ?_
  show Run _ _ _ _ (T1.setTop (mkF m 221 #[.val (.int p1), .val (.long q2), .second, .val (.int kk), .val (.ref t), .val (.int (64 : Int32)), .unset, .unset, .unset, .unset] [(.int (0 : Int32))]))
  refine Run.of (fun tz kz => XS.istore X1.here hx rfl (hb hby at_221) rfl (l' := #[.val (.int p1), .val (.long q2), .second, .val (.int kk), .val (.ref t), .val (.int (64 : Int32)), .val (.int (0 : Int32)), .unset, .unset, .unset]) rfl kz) ?_
  show Run _ _ _ _ (T1.setTop (mkF m 223 #[.val (.int p1), .val (.long q2), .second, .val (.int kk), .val (.ref t), .val (.int (64 : Int32)), .val (.int (0 : Int32)), .unset, .unset, .unset] []))
  exact tail X1 hx (BodyLoose.notSynchronized Bd) hZ hw hby hml Bd.returns hown e1 t 64 0 hT (wv_64_0 q2)
theorem fldOf {args : Array Value} {s : State} {t : Term} {a : Addr} {C n d : String} {k : Int32} (ht : t.eval args s none [] s = some (.ref a)) (h : (Jvm.Cond.eq (.field t C n d) (.int k)).value args s none s [] = some true) : Fld s s.heap a C n d (.int k) := by
  refine Fld.start ?_
  have e := fld_at (C := C) (n := n) (dd := d) (o := none) (idx := []) (first := s) (args := args) (s := s) (t := t) ht
  obtain ⟨x, y, hx, hy, k1, k2⟩ := cmp_v (Or.inl h)
  have ey : y = .int k := Option.some.inj (hy.symm.trans (Term.int_eval k))
  subst ey
  obtain ⟨z, rfl⟩ : ∃ z, x = .int z := k2
  rw [← e, hx]
  simp [Cond.value, hx, hy] at h
  rw [h]
theorem statOf {args : Array Value} {s : State} {nm : String} {w sg : Int32} (h1 : (Jvm.Cond.exactly (.static "com/example/lockstep/lockstep/core/value/ScalarType" nm "Lcom/example/lockstep/lockstep/core/value/ScalarType;") "com/example/lockstep/lockstep/core/value/ScalarType").value args s none s [] = some true) (h2 : (Jvm.Cond.eq (.field (.static "com/example/lockstep/lockstep/core/value/ScalarType" nm "Lcom/example/lockstep/lockstep/core/value/ScalarType;") "com/example/lockstep/lockstep/core/value/ScalarType" "bits" "I") (.int w)).value args s none s [] = some true) (h3 : (Jvm.Cond.eq (.field (.static "com/example/lockstep/lockstep/core/value/ScalarType" nm "Lcom/example/lockstep/lockstep/core/value/ScalarType;") "com/example/lockstep/lockstep/core/value/ScalarType" "signed" "Z") (.int sg)).value args s none s [] = some true)
    (wi : (Jvm.Cond.initialized "com/example/lockstep/lockstep/core/value/ScalarType").before args s = true) (wl : (Jvm.Cond.laysStatic "com/example/lockstep/lockstep/core/value/ScalarType" nm "Lcom/example/lockstep/lockstep/core/value/ScalarType;").before args s = true) : Stat s s.heap nm w sg := by
  obtain ⟨t, ev⟩ := exa_v h1
  exact ⟨t, Sta.start ev (Or.inr ⟨wi, wl⟩), exa_at ev h1, fldOf ev h2, fldOf ev h3⟩
set_option maxRecDepth 65536 in
set_option maxHeartbeats 40000000 in
theorem comes_1 {Post : Tables → Env → Array Value → State → Outcome → State → Prop} (hpost : ∀ tb e args s v u, (limb_1_1.after args s (.returned v) u = true ∧ limb_1_2.after args s (.returned v) u = true ∧ True) → FrameEnd s (.returned v) u (Jvm.fieldLocs frame_1_writes args s ++ Jvm.arrayLocs frame_1_arrays args s ++ Jvm.staticLocs frame_1_statics s) 0 0 → Post tb e args s (.returned v) u) :
    ArmFor flags0 classFile x code maxLocals ret World_1 tables_1 room_1 Calls_1 rest_1 Pre_1 Post := by
  intro l hfl _ _ p e ha hc hk s m args below hf hA hF happ hP
  obtain ⟨hcalls, hrest, hpre⟩ := hP
  obtain ⟨-, -, -, hnamed, -, -, -, hat⟩ := (Spec.applies_iff hf).mp happ
  obtain ⟨hg, hn⟩ := and_e (Cond.before_iff.mp (show (Jvm.Cond.and given_1 narrow_1).before args s = true from hpre))
  obtain ⟨g1, g2⟩ := and_e hg
  obtain ⟨g3, g4⟩ := and_e g2
  obtain ⟨w0, w1, rfl⟩ : ∃ w0 w1 : Value, args = #[w0, w1] := by
    have hs : args.size = 2 := by simpa [Cond.value, given_1] using g1
    obtain ⟨L⟩ := args
    match L, hs with
    | [w0, w1], _ => exact ⟨w0, w1, rfl⟩
  have hw := fun d (hd : d ∈ tables_1) => atoms_spec (ws := Jvm.Cond.code x code maxLocals ret :: tables_1) hat d (List.mem_cons_of_mem _ hd)
  obtain ⟨i0, ei0⟩ := is_v g3
  obtain rfl : w0 = (.int i0) := Option.some.inj ei0
  obtain ⟨i1, ei1⟩ := isL_v g4
  obtain rfl : w1 = (.long i1) := Option.some.inj ei1
  obtain ⟨b1, r1⟩ := and_e hn
  obtain ⟨b2, r2⟩ := and_e r1
  obtain ⟨b3, r3⟩ := and_e r2
  obtain ⟨b4, r4⟩ := and_e r3
  obtain ⟨b5, r5⟩ := and_e r4
  obtain ⟨b6, r6⟩ := and_e r5
  obtain ⟨b7, r7⟩ := and_e r6
  obtain ⟨b8, r8⟩ := and_e r7
  obtain ⟨b9, r9⟩ := and_e r8
  obtain ⟨b10, r10⟩ := and_e r9
  obtain ⟨b11, r11⟩ := and_e r10
  obtain ⟨b12, r12⟩ := and_e r11
  obtain ⟨b13, r13⟩ := and_e r12
  obtain ⟨b14, r14⟩ := and_e r13
  obtain ⟨b15, r15⟩ := and_e r14
  obtain ⟨b16, r16⟩ := and_e r15
  obtain ⟨b17, r17⟩ := and_e r16
  obtain ⟨b18, r18⟩ := and_e r17
  obtain ⟨b19, r19⟩ := and_e r18
  obtain ⟨b20, r20⟩ := and_e r19
  obtain ⟨b21, r21⟩ := and_e r20
  obtain ⟨b22, r22⟩ := and_e r21
  obtain ⟨b23, r23⟩ := and_e r22
  obtain ⟨b24, r24⟩ := and_e r23
  obtain ⟨b25, r25⟩ := and_e r24
  obtain ⟨b26, r26⟩ := and_e r25
  obtain ⟨b27, r27⟩ := and_e r26
  obtain ⟨b28, r28⟩ := and_e r27
  obtain ⟨b29, r29⟩ := and_e r28
  obtain ⟨b30, r30⟩ := and_e r29
  obtain ⟨b31, r31⟩ := and_e r30
  obtain ⟨b32, b33⟩ := and_e r31
  obtain ⟨n, o, h1, h2, h3, _, L, rfl, ⟨rfl, N⟩, hq⟩ := rm0 l s _ hw tables_1 i0 i1 s.heap s.heap.size (statOf b1 b2 b3 (hw _ (List.mem_of_getElem? (i := 2) rfl)) (hw _ (List.mem_of_getElem? (i := 3) rfl))) (statOf b4 b5 b6 (hw _ (List.mem_of_getElem? (i := 2) rfl)) (hw _ (List.mem_of_getElem? (i := 14) rfl))) (statOf b20 b21 b22 (hw _ (List.mem_of_getElem? (i := 2) rfl)) (hw _ (List.mem_of_getElem? (i := 27) rfl))) (statOf b14 b15 b16 (hw _ (List.mem_of_getElem? (i := 2) rfl)) (hw _ (List.mem_of_getElem? (i := 22) rfl))) (statOf b17 b18 b19 (hw _ (List.mem_of_getElem? (i := 2) rfl)) (hw _ (List.mem_of_getElem? (i := 24) rfl))) (statOf b11 b12 b13 (hw _ (List.mem_of_getElem? (i := 2) rfl)) (hw _ (List.mem_of_getElem? (i := 20) rfl))) (statOf b23 b24 b25 (hw _ (List.mem_of_getElem? (i := 2) rfl)) (hw _ (List.mem_of_getElem? (i := 30) rfl))) (statOf b26 b27 b32 (hw _ (List.mem_of_getElem? (i := 2) rfl)) (hw _ (List.mem_of_getElem? (i := 33) rfl))) (statOf b7 b8 b30 (hw _ (List.mem_of_getElem? (i := 2) rfl)) (hw _ (List.mem_of_getElem? (i := 16) rfl))) (statOf b28 b29 b33 (hw _ (List.mem_of_getElem? (i := 2) rfl)) (hw _ (List.mem_of_getElem? (i := 35) rfl))) (statOf b9 b10 b31 (hw _ (List.mem_of_getElem? (i := 2) rfl)) (hw _ (List.mem_of_getElem? (i := 18) rfl))) p e ha hc hk s m _ below hf ((Spec.applies_iff_loose hf).mp happ).1 ⟨rfl, State.Warmed39.refl s, rfl⟩ trivial
  refine ⟨n, _, h1, h2, h3, hpost _ _ _ _ _ _ ⟨Cond.after_iff.mpr rfl, Cond.after_iff.mpr (eq_i res_at (Term.int_eval (1)) rfl), trivial⟩ ⟨hq.1, hq.2.1, (hq.2.2.sift fun y hy => Or.inr (N y hy)).mono (by decide) (by decide)⟩⟩
theorem main_1_1 : Claimed_1_1 := comes_1 fun _ _ _ _ _ _ h hF => ⟨h.1, hF⟩
theorem main_1_2 : Claimed_1_2 := comes_1 fun _ _ _ _ _ _ h hF => ⟨h.2.1, hF⟩
end Jvm.Pilot.@@N@@
namespace Jvm.Pilot.@@N@@
open Jvm Jvm.ClassFile Sem Op Lib Jvm.Free Jvm.Stand Jvm.Pilot.@@N@@.Jvm.D
/-! MADE BY PROGRAM (witnessworld.py) out of the Statement's table words and the real class files: 11 classes; the members and pool entries that the words name. The judged class is class 1, her method 1. -/
namespace start1
open Jvm.ClassFile
def u (s : String) : CpInfo := .utf8 (stringToUtf16 s)
/-- a pool by its gaps: so many unusable entries, then the entry; so many at the end -/
def gap : Nat → List CpInfo → List CpInfo
  | 0, r => r
  | n + 1, r => .unusable :: gap n r
def poolList (es : List (Nat × CpInfo)) (last : Nat) : List CpInfo := es.foldr (fun e r => gap e.1 (e.2 :: r)) (gap last [])
def pool (es : List (Nat × CpInfo)) (last : Nat) : Array CpInfo := ⟨poolList es last⟩
def fileOf (pool : Array CpInfo) (this : Nat) (attrs : Array Attribute := #[]) (ms : Array MethodInfo := #[]) (fl : Nat := 33) (sup : Nat := 0) (ifs : Array Nat := #[]) (fds : Array FieldInfo := #[]) : ClassFile where
  minorVersion := 0
  majorVersion := 65
  constantPool := pool
  accessFlags := fl
  thisClass := this
  superClass := sup
  interfaces := ifs
  fields := fds
  methods := ms
  attributes := attrs
def plain (name : String) (sup : Option ClassId) : Class where
  name := name
  kind := .ordinary
  loader := none
  accessFlags := 33
  super := sup
  interfaces := #[]
  cf := none
  fields := #[]
  methods := #[]
  instanceTypes := #[]
  staticTypes := #[]
  resolved := #[]
  callSites := []
  init := .initialized
  statics := none
  mirror := none

def pool0 : Array CpInfo := pool [(5, u "<init>"), (0, u "()V"), (1, .class_ 10), (1, u "java/lang/Object")] 113

def k0m0 : Method := { name := "<init>", desc := "()V", sig := { parameters := [], returnType := none }, accessFlags := 1, code := none }
/-- java/lang/Object -/
def k0 : Class := { plain "java/lang/Object" none with
  accessFlags := 33
  interfaces := #[]
  cf := some (fileOf pool0 8 #[] #[{ accessFlags := 1, nameIndex := 5, descriptorIndex := 6, attributes := #[] }] 33 0 #[] #[])
  fields := #[]
  methods := #[k0m0]
  instanceTypes := #[]
  staticTypes := #[]
  resolved := Array.replicate 124 none
  statics := none }

def pool1 : Array CpInfo := pool [(2, .class_ 4), (1, u "java/lang/Object"), (0, u "<init>"), (0, u "()V"), (0, .integer 2147483647), (0, .fieldref 9 10), (0, .class_ 11), (0, .nameAndType 12 13), (0, u "com/example/lockstep/lockstep/core/value/ScalarType"), (0, u "CHAR"), (0, u "Lcom/example/lockstep/lockstep/core/value/ScalarType;"), (0, .fieldref 9 15), (0, .nameAndType 16 13), (0, u "SIGNED_CHAR"), (0, .fieldref 9 18), (0, .nameAndType 19 13), (0, u "UNSIGNED_CHAR"), (0, .fieldref 9 21), (0, .nameAndType 22 13), (0, u "SHORT"), (0, .fieldref 9 24), (0, .nameAndType 25 13), (0, u "UNSIGNED_SHORT"), (0, .fieldref 9 27), (0, .nameAndType 28 13), (0, u "INT"), (0, .fieldref 9 30), (0, .nameAndType 31 13), (0, u "UNSIGNED_INT"), (0, .fieldref 9 33), (0, .nameAndType 34 13), (0, u "LONG"), (0, .fieldref 9 36), (0, .nameAndType 37 13), (0, u "UNSIGNED_LONG"), (0, .fieldref 9 39), (0, .nameAndType 40 13), (0, u "LONG_LONG"), (0, .fieldref 9 42), (0, .nameAndType 43 13), (0, u "UNSIGNED_LONG_LONG"), (0, .methodref 9 45), (0, .nameAndType 46 47), (0, u "wrap"), (0, u "(J)J"), (0, .class_ 49), (0, u "com/example/lockstep/lockstep/core/value/ScalarTypeWrapPinLaw"), (2, u "law"), (0, u "(IJ)Z")] 3

def k1m0 : Method := { name := "<init>", desc := "()V", sig := { parameters := [], returnType := none }, accessFlags := 1, code := none }
def k1c1 : Code := { maxStack := 4, maxLocals := 10, code := code, exceptionTable := #[], attributes := #[] }
def k1m1 : Method := { name := "law", desc := "(IJ)Z", sig := { parameters := [.int, .long], returnType := some .boolean }, accessFlags := 9, code := some k1c1 }
/-- com/example/lockstep/lockstep/core/value/ScalarTypeWrapPinLaw -/
def k1 : Class := { plain "com/example/lockstep/lockstep/core/value/ScalarTypeWrapPinLaw" (some 0) with
  accessFlags := 49
  interfaces := #[]
  cf := some (fileOf pool1 48 #[] #[{ accessFlags := 1, nameIndex := 5, descriptorIndex := 6, attributes := #[] }, { accessFlags := 9, nameIndex := 52, descriptorIndex := 53, attributes := #[] }] 49 2 #[] #[])
  fields := #[]
  methods := #[k1m0, k1m1]
  instanceTypes := #[]
  staticTypes := #[]
  resolved := Array.replicate 57 none
  statics := none }

def pool2 : Array CpInfo := pool [(1, .class_ 2), (0, u "java/lang/constant/Constable"), (0, .class_ 4), (0, u "java/lang/Object")] 6

/-- java/lang/constant/Constable -/
def k2 : Class := { plain "java/lang/constant/Constable" (some 0) with
  accessFlags := 1537
  interfaces := #[]
  cf := some (fileOf pool2 1 #[] #[] 1537 3 #[] #[])
  fields := #[]
  methods := #[]
  instanceTypes := #[]
  staticTypes := #[]
  resolved := Array.replicate 11 none
  statics := none }

def pool3 : Array CpInfo := pool [(1, .class_ 2), (0, u "java/lang/Comparable"), (0, .class_ 4), (0, u "java/lang/Object")] 7

/-- java/lang/Comparable -/
def k3 : Class := { plain "java/lang/Comparable" (some 0) with
  accessFlags := 1537
  interfaces := #[]
  cf := some (fileOf pool3 1 #[] #[] 1537 3 #[] #[])
  fields := #[]
  methods := #[]
  instanceTypes := #[]
  staticTypes := #[]
  resolved := Array.replicate 12 none
  statics := none }

def pool4 : Array CpInfo := pool [(1, .class_ 2), (0, u "java/io/Serializable"), (0, .class_ 4), (0, u "java/lang/Object")] 2

/-- java/io/Serializable -/
def k4 : Class := { plain "java/io/Serializable" (some 0) with
  accessFlags := 1537
  interfaces := #[]
  cf := some (fileOf pool4 1 #[] #[] 1537 3 #[] #[])
  fields := #[]
  methods := #[]
  instanceTypes := #[]
  staticTypes := #[]
  resolved := Array.replicate 7 none
  statics := none }

def pool5 : Array CpInfo := pool [(2, .class_ 4), (1, u "java/lang/Enum"), (0, u "name"), (0, u "Ljava/lang/String;"), (2, u "ordinal"), (0, u "I"), (1, .class_ 14), (1, u "java/lang/Object"), (4, u "hash"), (86, .class_ 108), (1, u "java/lang/Enum$EnumDesc"), (2, .class_ 112), (0, u "java/lang/constant/Constable"), (0, .class_ 114), (0, u "java/lang/Comparable"), (0, .class_ 116), (0, u "java/io/Serializable")] 87

/-- java/lang/Enum -/
def k5 : Class := { plain "java/lang/Enum" (some 0) with
  accessFlags := 1057
  interfaces := #[2, 3, 4]
  cf := some (fileOf pool5 2 #[.nestMembers #[106]] #[] 1057 12 #[111, 113, 115] #[{ accessFlags := 18, nameIndex := 5, descriptorIndex := 6, attributes := #[] }, { accessFlags := 18, nameIndex := 9, descriptorIndex := 10, attributes := #[] }, { accessFlags := 2, nameIndex := 19, descriptorIndex := 10, attributes := #[] }])
  fields := #[{ name := "name", type := (.object "java/lang/String"), accessFlags := 18, slot := 0, constantValue := 0 }, { name := "ordinal", type := .int, accessFlags := 18, slot := 1, constantValue := 0 }, { name := "hash", type := .int, accessFlags := 2, slot := 2, constantValue := 0 }]
  methods := #[]
  instanceTypes := #[(.object "java/lang/String"), .int, .int]
  staticTypes := #[]
  resolved := Array.replicate 204 none
  statics := none }

def pool6 : Array CpInfo := pool [(1, .class_ 2), (0, u "com/example/lockstep/lockstep/core/value/ObjectType"), (0, .class_ 4), (0, u "java/lang/Object")] 13

/-- com/example/lockstep/lockstep/core/value/ObjectType -/
def k6 : Class := { plain "com/example/lockstep/lockstep/core/value/ObjectType" (some 0) with
  accessFlags := 1537
  interfaces := #[]
  cf := some (fileOf pool6 1 #[] #[] 1537 3 #[] #[])
  fields := #[]
  methods := #[]
  instanceTypes := #[]
  staticTypes := #[]
  resolved := Array.replicate 18 none
  statics := none }

def pool7 : Array CpInfo := pool [(1, .class_ 2), (0, u "com/example/lockstep/lockstep/core/value/ScalarType"), (2, u "BOOL"), (0, u "Lcom/example/lockstep/lockstep/core/value/ScalarType;"), (2, u "CHAR"), (2, u "SIGNED_CHAR"), (2, u "UNSIGNED_CHAR"), (2, u "SHORT"), (2, u "UNSIGNED_SHORT"), (2, u "INT"), (2, u "UNSIGNED_INT"), (2, u "LONG"), (2, u "UNSIGNED_LONG"), (2, u "LONG_LONG"), (2, u "UNSIGNED_LONG_LONG"), (2, u "FLOAT"), (2, u "DOUBLE"), (2, u "POINTER"), (2, u "STREAM"), (2, u "$VALUES"), (0, u "[Lcom/example/lockstep/lockstep/core/value/ScalarType;"), (6, .class_ 64), (1, u "java/lang/Enum"), (8, u "spelling"), (0, u "Ljava/lang/String;"), (0, .fieldref 1 76), (0, .nameAndType 77 78), (0, u "bits"), (0, u "I"), (0, .fieldref 1 80), (0, .nameAndType 81 82), (0, u "signed"), (0, u "Z"), (2, u "floating"), (18, .long 255), (35, u "wrap"), (0, u "(J)J"), (27, .long 65535), (1, .long 4294967295), (85, .class_ 258), (0, u "com/example/lockstep/lockstep/core/value/ObjectType"), (0, u "TWO_TO_THE_63"), (0, u "D"), (1, u "TWO_TO_THE_64")] 57

def k7c0 : Code := { maxStack := 4, maxLocals := 3, code := prog_357_method_26_code, exceptionTable := #[], attributes := #[] }
def k7m0 : Method := { name := "wrap", desc := "(J)J", sig := { parameters := [.long], returnType := some .long }, accessFlags := 1, code := some k7c0 }
/-- com/example/lockstep/lockstep/core/value/ScalarType -/
def k7 : Class := { plain "com/example/lockstep/lockstep/core/value/ScalarType" (some 5) with
  accessFlags := 16433
  interfaces := #[6]
  cf := some (fileOf pool7 1 #[] #[{ accessFlags := 1, nameIndex := 140, descriptorIndex := 141, attributes := #[] }] 16433 62 #[257] #[{ accessFlags := 16409, nameIndex := 5, descriptorIndex := 6, attributes := #[] }, { accessFlags := 16409, nameIndex := 9, descriptorIndex := 6, attributes := #[] }, { accessFlags := 16409, nameIndex := 12, descriptorIndex := 6, attributes := #[] }, { accessFlags := 16409, nameIndex := 15, descriptorIndex := 6, attributes := #[] }, { accessFlags := 16409, nameIndex := 18, descriptorIndex := 6, attributes := #[] }, { accessFlags := 16409, nameIndex := 21, descriptorIndex := 6, attributes := #[] }, { accessFlags := 16409, nameIndex := 24, descriptorIndex := 6, attributes := #[] }, { accessFlags := 16409, nameIndex := 27, descriptorIndex := 6, attributes := #[] }, { accessFlags := 16409, nameIndex := 30, descriptorIndex := 6, attributes := #[] }, { accessFlags := 16409, nameIndex := 33, descriptorIndex := 6, attributes := #[] }, { accessFlags := 16409, nameIndex := 36, descriptorIndex := 6, attributes := #[] }, { accessFlags := 16409, nameIndex := 39, descriptorIndex := 6, attributes := #[] }, { accessFlags := 16409, nameIndex := 42, descriptorIndex := 6, attributes := #[] }, { accessFlags := 16409, nameIndex := 45, descriptorIndex := 6, attributes := #[] }, { accessFlags := 16409, nameIndex := 48, descriptorIndex := 6, attributes := #[] }, { accessFlags := 16409, nameIndex := 51, descriptorIndex := 6, attributes := #[] }, { accessFlags := 26, nameIndex := 259, descriptorIndex := 260, attributes := #[] }, { accessFlags := 26, nameIndex := 262, descriptorIndex := 260, attributes := #[] }, { accessFlags := 18, nameIndex := 73, descriptorIndex := 74, attributes := #[] }, { accessFlags := 18, nameIndex := 77, descriptorIndex := 78, attributes := #[] }, { accessFlags := 18, nameIndex := 81, descriptorIndex := 82, attributes := #[] }, { accessFlags := 18, nameIndex := 85, descriptorIndex := 82, attributes := #[] }, { accessFlags := 4122, nameIndex := 54, descriptorIndex := 55, attributes := #[] }])
  fields := #[{ name := "BOOL", type := (.object "com/example/lockstep/lockstep/core/value/ScalarType"), accessFlags := 16409, slot := 0, constantValue := 0 }, { name := "CHAR", type := (.object "com/example/lockstep/lockstep/core/value/ScalarType"), accessFlags := 16409, slot := 1, constantValue := 0 }, { name := "SIGNED_CHAR", type := (.object "com/example/lockstep/lockstep/core/value/ScalarType"), accessFlags := 16409, slot := 2, constantValue := 0 }, { name := "UNSIGNED_CHAR", type := (.object "com/example/lockstep/lockstep/core/value/ScalarType"), accessFlags := 16409, slot := 3, constantValue := 0 }, { name := "SHORT", type := (.object "com/example/lockstep/lockstep/core/value/ScalarType"), accessFlags := 16409, slot := 4, constantValue := 0 }, { name := "UNSIGNED_SHORT", type := (.object "com/example/lockstep/lockstep/core/value/ScalarType"), accessFlags := 16409, slot := 5, constantValue := 0 }, { name := "INT", type := (.object "com/example/lockstep/lockstep/core/value/ScalarType"), accessFlags := 16409, slot := 6, constantValue := 0 }, { name := "UNSIGNED_INT", type := (.object "com/example/lockstep/lockstep/core/value/ScalarType"), accessFlags := 16409, slot := 7, constantValue := 0 }, { name := "LONG", type := (.object "com/example/lockstep/lockstep/core/value/ScalarType"), accessFlags := 16409, slot := 8, constantValue := 0 }, { name := "UNSIGNED_LONG", type := (.object "com/example/lockstep/lockstep/core/value/ScalarType"), accessFlags := 16409, slot := 9, constantValue := 0 }, { name := "LONG_LONG", type := (.object "com/example/lockstep/lockstep/core/value/ScalarType"), accessFlags := 16409, slot := 10, constantValue := 0 }, { name := "UNSIGNED_LONG_LONG", type := (.object "com/example/lockstep/lockstep/core/value/ScalarType"), accessFlags := 16409, slot := 11, constantValue := 0 }, { name := "FLOAT", type := (.object "com/example/lockstep/lockstep/core/value/ScalarType"), accessFlags := 16409, slot := 12, constantValue := 0 }, { name := "DOUBLE", type := (.object "com/example/lockstep/lockstep/core/value/ScalarType"), accessFlags := 16409, slot := 13, constantValue := 0 }, { name := "POINTER", type := (.object "com/example/lockstep/lockstep/core/value/ScalarType"), accessFlags := 16409, slot := 14, constantValue := 0 }, { name := "STREAM", type := (.object "com/example/lockstep/lockstep/core/value/ScalarType"), accessFlags := 16409, slot := 15, constantValue := 0 }, { name := "TWO_TO_THE_63", type := .double, accessFlags := 26, slot := 16, constantValue := 0 }, { name := "TWO_TO_THE_64", type := .double, accessFlags := 26, slot := 17, constantValue := 0 }, { name := "spelling", type := (.object "java/lang/String"), accessFlags := 18, slot := 3, constantValue := 0 }, { name := "bits", type := .int, accessFlags := 18, slot := 4, constantValue := 0 }, { name := "signed", type := .boolean, accessFlags := 18, slot := 5, constantValue := 0 }, { name := "floating", type := .boolean, accessFlags := 18, slot := 6, constantValue := 0 }, { name := "$VALUES", type := (.array (.object "com/example/lockstep/lockstep/core/value/ScalarType")), accessFlags := 4122, slot := 18, constantValue := 0 }]
  methods := #[k7m0]
  instanceTypes := #[(.object "java/lang/String"), .int, .int, (.object "java/lang/String"), .int, .boolean, .boolean]
  staticTypes := #[(.object "com/example/lockstep/lockstep/core/value/ScalarType"), (.object "com/example/lockstep/lockstep/core/value/ScalarType"), (.object "com/example/lockstep/lockstep/core/value/ScalarType"), (.object "com/example/lockstep/lockstep/core/value/ScalarType"), (.object "com/example/lockstep/lockstep/core/value/ScalarType"), (.object "com/example/lockstep/lockstep/core/value/ScalarType"), (.object "com/example/lockstep/lockstep/core/value/ScalarType"), (.object "com/example/lockstep/lockstep/core/value/ScalarType"), (.object "com/example/lockstep/lockstep/core/value/ScalarType"), (.object "com/example/lockstep/lockstep/core/value/ScalarType"), (.object "com/example/lockstep/lockstep/core/value/ScalarType"), (.object "com/example/lockstep/lockstep/core/value/ScalarType"), (.object "com/example/lockstep/lockstep/core/value/ScalarType"), (.object "com/example/lockstep/lockstep/core/value/ScalarType"), (.object "com/example/lockstep/lockstep/core/value/ScalarType"), (.object "com/example/lockstep/lockstep/core/value/ScalarType"), .double, .double, (.array (.object "com/example/lockstep/lockstep/core/value/ScalarType"))]
  resolved := Array.replicate 320 none
  statics := some 0 }

def pool8 : Array CpInfo := pool [(1, u "java/lang/Cloneable"), (0, .class_ 1), (0, u "java/lang/Object"), (0, .class_ 3)] 3

/-- java/lang/Cloneable -/
def k8 : Class := { plain "java/lang/Cloneable" (some 0) with
  accessFlags := 1537
  interfaces := #[]
  cf := some (fileOf pool8 2 #[] #[] 1537 4 #[] #[])
  fields := #[]
  methods := #[]
  instanceTypes := #[]
  staticTypes := #[]
  resolved := Array.replicate 8 none
  statics := none }

/-- the primitive byte -/
def k9 : Class := { plain "byte" none with kind := .primitive 'B', accessFlags := 0x411 }
/-- [B -/
def k10 : Class := { plain "[B" (some 0) with kind := .array 9 .byte, interfaces := #[8, 4], accessFlags := 1041 }

def heap : Heap := #[{ cls := 7, slots := #[.null, .ref 1, .ref 2, .ref 3, .ref 4, .ref 5, .ref 6, .ref 7, .ref 8, .ref 9, .ref 10, .ref 11, .null, .null, .null, .null, .double 0, .double 0, .null], vm := .statics 7 },
  { cls := 7, slots := #[.null, .int 0, .int 0, .null, .int 8, .int 1, .int 0], vm := .none },
  { cls := 7, slots := #[.null, .int 1, .int 0, .null, .int 8, .int 1, .int 0], vm := .none },
  { cls := 7, slots := #[.null, .int 2, .int 0, .null, .int 8, .int 0, .int 0], vm := .none },
  { cls := 7, slots := #[.null, .int 3, .int 0, .null, .int 16, .int 1, .int 0], vm := .none },
  { cls := 7, slots := #[.null, .int 4, .int 0, .null, .int 16, .int 0, .int 0], vm := .none },
  { cls := 7, slots := #[.null, .int 5, .int 0, .null, .int 32, .int 1, .int 0], vm := .none },
  { cls := 7, slots := #[.null, .int 6, .int 0, .null, .int 32, .int 0, .int 0], vm := .none },
  { cls := 7, slots := #[.null, .int 7, .int 0, .null, .int 64, .int 1, .int 0], vm := .none },
  { cls := 7, slots := #[.null, .int 8, .int 0, .null, .int 64, .int 0, .int 0], vm := .none },
  { cls := 7, slots := #[.null, .int 9, .int 0, .null, .int 64, .int 1, .int 0], vm := .none },
  { cls := 7, slots := #[.null, .int 10, .int 0, .null, .int 64, .int 0, .int 0], vm := .none }]
def classes : Array Class := #[k0, k1, k2, k3, k4, k5, k6, k7, k8, k9, k10]
def interned : List (Array UInt16 × Addr) := []
def slotsUsed : Nat := 96
def theMethod : MethodId := ⟨1, 1⟩
def args0 : Array Value := #[.int 5, .long 7]
def aboutOver (below : List Frame) : State where
  vm := { classes := classes, interned := interned.toArray }
  heap := heap
  slotsUsed := slotsUsed
  threads := #[{ frames := .invoking theMethod args0 :: below }]
def below0 : List Frame := [.native { method := ⟨0, 0⟩, args := #[] }]
def about1 : State := aboutOver below0
def p0 : Program := .bare "" "" ""
def e0 : Env := launch0.env 0 0 0
theorem w_frames : about1.frames = Frame.invoking theMethod args0 :: below0 := rfl
set_option maxRecDepth 65536 in
theorem w_args : argsFit about1.vm theMethod args0 = true := by decide +kernel
set_option maxRecDepth 65536 in
theorem w_heap : heapFits about1 = true := by decide +kernel
set_option maxRecDepth 65536 in
theorem w_runnable : about1.curStatus? = some .runnable := by decide +kernel
set_option maxRecDepth 65536 in
theorem w_alone : about1.alone = true := by decide +kernel
set_option maxRecDepth 65536 in
theorem w_named : about1.methodNamed? x = some theMethod := by decide +kernel
set_option maxRecDepth 65536 in
theorem w_hears : about1.hears theMethod below0 = true := by decide +kernel
set_option maxRecDepth 65536 in
theorem w_ripe : about1.ripe theMethod args0 below0 = true := by decide +kernel
theorem w_running : about1.status = .running := rfl
set_option maxRecDepth 65536 in
theorem w_room : about1.hasRoom e0.platform room_1 = true :=
  launch0.hasRoom_least _ room_1 (by decide +kernel) (by decide +kernel) (by decide +kernel) (by decide +kernel) (by decide +kernel) (by decide +kernel)
theorem allAtoms_all (ts : List Jvm.Cond) (a : Array Jvm.Value) (st : Jvm.State) : (allAtoms ts).before a st = ts.all (fun c => c.before a st) := by
  induction ts with
  | nil => rfl
  | cons c t ih =>
    show (Jvm.Cond.and c (allAtoms t)).before a st = _
    rw [Jvm.Cond.before_and, ih, List.all_cons]
def words1 : List Jvm.Cond := Jvm.Cond.code x code maxLocals ret :: tables_1
/-- a 'code' word, met by the world's own term for the bytes: nothing is compared byte by byte -/
theorem code_word {y : MethodName} {bytes : ByteArray} {mx : Nat} {rt : Option FieldType} {a : Array Value} {s : State} {m : MethodId} {meth : Method} {c : Code} (h1 : s.methodNamed? y = some m) (h2 : s.vm.method? m = some meth) (h3 : meth.code = some c) (h4 : c.code = bytes)
    (h5 : (c.maxLocals == mx && c.exceptionTable.isEmpty && decide (c.maxStack ≤ mostOperands) && decide (meth.sig.returnType = rt) && !meth.locks && decide (parseMethodDescriptor y.desc = some meth.sig)) = true) : (Jvm.Cond.code y bytes mx rt).before a s = true := by
  simp only [Bool.and_eq_true, beq_iff_eq, Bool.not_eq_true', decide_eq_true_eq] at h5
  obtain ⟨⟨⟨⟨⟨g1, g2⟩, g3⟩, g4⟩, g5⟩, g6⟩ := h5
  simp [Cond.before, Cond.holds, Cond.value, h1, h2, h3, h4, g1, g2, g3, g4, g5, g6]
def isCode : Jvm.Cond → Bool
  | .code _ _ _ _ => true
  | _ => false
theorem all_split {L : List Jvm.Cond} {P : Jvm.Cond → Bool} (h1 : L.all (fun c => isCode c || P c) = true) (h2 : ∀ c ∈ L.filter isCode, P c = true) : L.all P = true := by
  refine List.all_eq_true.mpr fun c hc => ?_
  have h := List.all_eq_true.mp h1 c hc
  rcases Bool.eq_false_or_eq_true (isCode c) with hi | hi
  · exact h2 c (List.mem_filter.mpr ⟨hc, hi⟩)
  · simpa [hi] using h
set_option maxRecDepth 65536 in
theorem w_c0 : (Jvm.Cond.code x code maxLocals ret).before args0 about1 = true := code_word (m := ⟨1, 1⟩) (meth := k1m1) (c := k1c1) (by decide +kernel) rfl rfl rfl (by decide +kernel)
set_option maxRecDepth 65536 in
theorem w_c1 : (Jvm.Cond.code ({ cls := "com/example/lockstep/lockstep/core/value/ScalarType", name := "wrap", desc := "(J)J" } : Jvm.MethodName) prog_357_method_26_code (3 : Nat) (Option.some Jvm.ClassFile.FieldType.long)).before args0 about1 = true := code_word (m := ⟨7, 0⟩) (meth := k7m0) (c := k7c0) (by decide +kernel) rfl rfl rfl (by decide +kernel)
def codes1 : List Jvm.Cond := [Jvm.Cond.code x code maxLocals ret, Jvm.Cond.code ({ cls := "com/example/lockstep/lockstep/core/value/ScalarType", name := "wrap", desc := "(J)J" } : Jvm.MethodName) prog_357_method_26_code (3 : Nat) (Option.some Jvm.ClassFile.FieldType.long)]
set_option maxRecDepth 65536 in
theorem codes_eq : words1.filter isCode = codes1 := rfl
theorem w_codes : ∀ c ∈ words1.filter isCode, c.before args0 about1 = true := by
  rw [codes_eq]
  intro c hc
  simp only [codes1, List.mem_cons, List.not_mem_nil, or_false] at hc
  rcases hc with rfl | rfl
  · exact w_c0
  · exact w_c1
set_option maxRecDepth 65536 in
theorem w_t1 : (words1.take 24).all (fun c => isCode c || c.before args0 about1) = true := by decide +kernel
set_option maxRecDepth 65536 in
theorem w_t2 : (words1.drop 24).all (fun c => isCode c || c.before args0 about1) = true := by decide +kernel
theorem w_tables : (allAtoms (Jvm.Cond.code x code maxLocals ret :: tables_1)).before args0 about1 = true := by
  rw [allAtoms_all]
  show words1.all (fun c => c.before args0 about1) = true
  refine all_split ?_ w_codes
  rw [← List.take_append_drop 24 words1, List.all_append, w_t1, w_t2]
  rfl
set_option maxRecDepth 65536 in
theorem w_case : (Jvm.Cond.and given_1 narrow_1).before args0 about1 = true := by decide +kernel
theorem w_applies : (headSpec (Jvm.Cond.code x code maxLocals ret :: tables_1) room_1).applies x e0.platform about1 = true :=
  (Spec.applies_iff w_frames).mpr ⟨w_running, w_runnable, w_alone, w_named, w_hears, w_ripe, w_room, w_tables⟩
theorem atStart : AtStart classFile x code maxLocals ret World_1 tables_1 room_1 Calls_1 rest_1 Pre_1 launch0 p0 e0 about1 theMethod args0 below0 :=
  ⟨lists_1, trivial, launch0.admits_env _ _ _, launch0.least_env, fairChoices_fair.cas, fairChoices_fair.clock, w_frames, w_args, w_heap, w_applies, trivial, trivial, w_case⟩
end start1
theorem witness_1 : WitnessClaimed_1 := ⟨start1.p0, start1.e0, start1.about1, start1.theMethod, start1.args0, start1.below0, start1.atStart⟩
end Jvm.Pilot.@@N@@
