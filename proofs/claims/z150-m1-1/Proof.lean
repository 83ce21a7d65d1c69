import JvmDerived
import JvmDerived.Pilot.@@N@@Statement
import JvmDerived.Pilot.@@N@@Code
set_option linter.unusedVariables false
set_option linter.unusedSimpArgs false
namespace Jvm.RoadKit
open Sem ClassFile Op Lib Jvm.Stand Jvm.Free Jvm.LawKit
section New
variable {p : Program} {l : Launch} {e : Env} {R : Room} {s : State} {m : MethodId} {args : Array Value} {below : List Frame} {meth : Method} {c : Code} {T : State} {locs : List Loc} {cells slots : Nat}
theorem retI (X : Stand p l e R s m args below meth c T locs cells slots) (hx : p.tables.exec = Jvm.exec) {pc : Nat} {Ls : Array Slot} {z : Int32} {rest : List Value} (hret : meth.sig.returnType = some .int) (hd : decode c.code pc = .ok (.ireturn, 1)) {fs : List Frame}
    (hl : ∀ (f : JFrame) (acts : List Action), f.method = m → f.locked = none → f.entered = [] → (doReturn e (T.setTop f) acts (some (.int z))).1 = T.setFrames fs) : Steps p.tables e below (T.setTop (mkF m pc Ls (.int z :: rest))) (T.setFrames fs) := by
  have hm' : T.vm.method? m = some meth := X.method'
  have hn : narrow .int (.int z) = .int z := rfl
  show Steps p.tables e below (T.setTop { method := m, pc := pc, locals := Ls, stack := _ :: rest, locked := none }) _
  jvm_step X.here [X.here.top, hx, hd, hm', hret, hn]
  first | (intro acts; rw [hl _ acts rfl rfl rfl]) | rw [hl _ _ rfl rfl rfl]
  exact Steps.refl _
end New
end Jvm.RoadKit
namespace Jvm.Pilot.@@N@@
open Jvm Jvm.ClassFile Sem Op Lib Jvm.Free Jvm.Stand Jvm.LawKit Jvm.RoadKit Bundle Jvm.Pilot.@@N@@.Jvm.D
/-- the contract of one body, as this text says it: from the heap h0 over the tables of Z it returns as Q says -/
abbrev Met (l : Launch) (Z : State) (ws : List Jvm.Cond) (y : MethodName) (bytes : ByteArray) (ml : Nat) (rt : Option FieldType) (rm : Room) (as' : Array Value) (h0 : Heap) (Q : Option Value → Heap → List Loc → Prop) : Prop :=
  MetFree l y (head1 (Jvm.Cond.code y bytes ml rt :: ws) rm) (fun a U => a = as' ∧ Z.Warmed39 U.vm ∧ U.heap = h0) (fun _ _ _ _ _ => True) (fun _ U o U' => ∃ v L, o = .returned v ∧ Q v U'.heap L ∧ FrameEnd U o U' L rm.cells rm.slots)
/-- it returns r and leaves the heap as it was -/
def QP (r : Option Value) (h0 : Heap) (n0 : Nat) (v : Option Value) (h : Heap) (L : List Loc) : Prop := v = r ∧ Fr n0 L ∧ h = h0
theorem own_d_m2_0 : decode method_2_code 0 = .ok (.iload_n 0, 1) := by decide +kernel
theorem own_d_m2_1 : decode method_2_code 1 = .ok (.ifCond .ne 7, 3) := by decide +kernel
theorem own_d_m2_4 : decode method_2_code 4 = .ok (.getstatic 7, 3) := by decide +kernel
theorem own_d_m2_7 : decode method_2_code 7 = .ok (.areturn, 1) := by decide +kernel
theorem own_ef_0 (m : MethodId) (x0 : Int32) : entryFrame m #[(.int x0)] 1 = mkF m 0 #[.val (.int x0)] [] := by first | (simp [entryFrame, mkF, argsToLocals, Value.category]; done) | rfl
theorem own_pn_0 : plainName "com/example/boolgrove/boolgrove/TruthAndPinLaw" = true := by first | (simp [plainName, overriddenIn]; done) | decide +kernel
set_option maxRecDepth 65536 in
set_option maxHeartbeats 40000000 in
theorem own_pick_0 (l : Launch) (Z : State) (a0 : Array Value) (hw : ∀ d ∈ tables_1, d.before a0 Z = true)  (uF : Addr) (uU : Addr) (uT : Addr) (h0 : Heap) (n0 : Nat) (Z0 : n0 ≤ h0.size) (SuF : Sta Z h0 "com/example/boolgrove/boolgrove/Truth" "FALSE" "Lcom/example/boolgrove/boolgrove/Truth;" (.ref uF)) (SuU : Sta Z h0 "com/example/boolgrove/boolgrove/Truth" "UNDEFINED" "Lcom/example/boolgrove/boolgrove/Truth;" (.ref uU)) (SuT : Sta Z h0 "com/example/boolgrove/boolgrove/Truth" "TRUE" "Lcom/example/boolgrove/boolgrove/Truth;" (.ref uT)) (nFU : uF ≠ uU) (nFT : uF ≠ uT) (nUT : uU ≠ uT) :
    Met l Z [] (⟨"com/example/boolgrove/boolgrove/TruthAndPinLaw", "pick", "(I)Lcom/example/boolgrove/boolgrove/Truth;"⟩ : MethodName) method_2_code 1 (some (.object "com/example/boolgrove/boolgrove/Truth")) ({ frames := 0, cells := 0, slots := 0, locals := 0 } : Room) #[(.int (0 : Int32))] h0 (QP (some (.ref uF)) h0 n0) := by
  refine MetFree.of_bodySF (plainFor_of_name own_pn_0) hisR ?_
  intro p e s m args below meth c s₁ Bd hml0 hP hK
  obtain ⟨rfl, hZ, hh⟩ := hP
  have hx := Bd.exec
  have hby := Bd.bytes
  have hml : c.maxLocals = 1 := hml0
  have hown : s.vm.findClass "com/example/boolgrove/boolgrove/TruthAndPinLaw" = some m.cls := findClass_of_methodNamed Bd.named
  have hnm := (name_of_methodNamed Bd.named Bd.method).1
  have X0 : Stand p l e ({ frames := 0, cells := 0, slots := 0, locals := 0 } : Room) s m #[(.int (0 : Int32))] below meth c s₁ [] 0 0 := Stand.of_body Bd
  have e0 : s₁.heap = h0 := by rw [← hh, Bd.state]; rfl
  have N0 := Fr.nil n0
  have pre0 : ∀ t, Steps p.tables e below (s₁.setTop (mkF m 0 #[.val (.int (0 : Int32))] [])) t → Steps p.tables e below (s₁.setTop (entryFrame m #[(.int (0 : Int32))] 1)) t := fun t k => castTop (own_ef_0 m (0 : Int32)) k
  obtain ⟨T1, X1, e1, st1⟩ := getS2 X0 hx hZ hown (host := "") (Or.inl (hw _ (List.mem_of_getElem? (i := 5) rfl))) Via.refl e0 SuF (g := (mkF m 4 #[.val (.int (0 : Int32))] [])) rfl (hb hby own_d_m2_4)
  obtain ⟨fs, hr, hrun, hended, hW, hsame⟩ := X1.leave (v := some (.ref uF)) (fun h => by rw [Bd.returns] at h; cases h)
  refine ⟨_, _, pre0 _ ?_, hrun, hended, _, _, rfl, ?_, ⟨_, rfl⟩, hW, hsame.mono (by decide) (by decide)⟩
  · show Steps p.tables e below (s₁.setTop (mkF m 0 #[.val (.int (0 : Int32))] [])) _
    refine XS.iloadN X0.here hx rfl (hb hby own_d_m2_0) rfl ?_
    show Steps p.tables e below (s₁.setTop (mkF m 1 #[.val (.int (0 : Int32))] [(.int (0 : Int32))])) _
    refine XS.ifNo X0.here hx rfl (hb hby own_d_m2_1) rfl ((if0 _ _).trans (teq (rfl : (0 : Int32) = (0 : Int32))).2) ?_
    show Steps p.tables e below (s₁.setTop (mkF m 4 #[.val (.int (0 : Int32))] [])) _
    refine st1 _ ?_
    show Steps p.tables e below (T1.setTop (mkF m 7 #[.val (.int (0 : Int32))] [(.ref uF)])) _
    jvm_step X1.here [X1.here.top, hx, (hb hby own_d_m2_7), X1.method', Bd.returns, Value.isRef, FieldType.isReference]
    first | (intro acts; rw [hr _ acts rfl rfl rfl]) | rw [hr _ _ rfl rfl rfl]
    exact Steps.refl _
  · show (QP (some (.ref uF)) h0 n0) _ T1.heap _
    rw [e1]
    exact ⟨rfl, N0, rfl⟩
theorem own_d_m3_0 : decode method_3_code 0 = .ok (.aload_n 0, 1) := by decide +kernel
theorem own_d_m3_1 : decode method_3_code 1 = .ok (.getstatic 7, 3) := by decide +kernel
theorem own_d_m3_4 : decode method_3_code 4 = .ok (.if_acmp .ne 5, 3) := by decide +kernel
theorem own_d_m3_7 : decode method_3_code 7 = .ok (.iconst 0, 1) := by decide +kernel
theorem own_d_m3_8 : decode method_3_code 8 = .ok (.ireturn, 1) := by decide +kernel
theorem own_ef_1 (m : MethodId) (x0 : Addr) : entryFrame m #[(.ref x0)] 1 = mkF m 0 #[.val (.ref x0)] [] := by first | (simp [entryFrame, mkF, argsToLocals, Value.category]; done) | rfl
set_option maxRecDepth 65536 in
set_option maxHeartbeats 40000000 in
theorem own_rank_0 (l : Launch) (Z : State) (a0 : Array Value) (hw : ∀ d ∈ tables_1, d.before a0 Z = true)  (uF : Addr) (uU : Addr) (uT : Addr) (h0 : Heap) (n0 : Nat) (Z0 : n0 ≤ h0.size) (SuF : Sta Z h0 "com/example/boolgrove/boolgrove/Truth" "FALSE" "Lcom/example/boolgrove/boolgrove/Truth;" (.ref uF)) (SuU : Sta Z h0 "com/example/boolgrove/boolgrove/Truth" "UNDEFINED" "Lcom/example/boolgrove/boolgrove/Truth;" (.ref uU)) (SuT : Sta Z h0 "com/example/boolgrove/boolgrove/Truth" "TRUE" "Lcom/example/boolgrove/boolgrove/Truth;" (.ref uT)) (nFU : uF ≠ uU) (nFT : uF ≠ uT) (nUT : uU ≠ uT) :
    Met l Z [] (⟨"com/example/boolgrove/boolgrove/TruthAndPinLaw", "rank", "(Lcom/example/boolgrove/boolgrove/Truth;)I"⟩ : MethodName) method_3_code 1 (some .int) ({ frames := 0, cells := 0, slots := 0, locals := 0 } : Room) #[(.ref uF)] h0 (QP (some (.int (0 : Int32))) h0 n0) := by
  refine MetFree.of_bodySF (plainFor_of_name own_pn_0) hisR ?_
  intro p e s m args below meth c s₁ Bd hml0 hP hK
  obtain ⟨rfl, hZ, hh⟩ := hP
  have hx := Bd.exec
  have hby := Bd.bytes
  have hml : c.maxLocals = 1 := hml0
  have hown : s.vm.findClass "com/example/boolgrove/boolgrove/TruthAndPinLaw" = some m.cls := findClass_of_methodNamed Bd.named
  have hnm := (name_of_methodNamed Bd.named Bd.method).1
  have X0 : Stand p l e ({ frames := 0, cells := 0, slots := 0, locals := 0 } : Room) s m #[(.ref uF)] below meth c s₁ [] 0 0 := Stand.of_body Bd
  have e0 : s₁.heap = h0 := by rw [← hh, Bd.state]; rfl
  have N0 := Fr.nil n0
  have pre0 : ∀ t, Steps p.tables e below (s₁.setTop (mkF m 0 #[.val (.ref uF)] [])) t → Steps p.tables e below (s₁.setTop (entryFrame m #[(.ref uF)] 1)) t := fun t k => castTop (own_ef_1 m uF) k
  obtain ⟨T2, X2, e2, st2⟩ := getS2 X0 hx hZ hown (host := "") (Or.inl (hw _ (List.mem_of_getElem? (i := 5) rfl))) Via.refl e0 SuF (g := (mkF m 1 #[.val (.ref uF)] [(.ref uF)])) rfl (hb hby own_d_m3_1)
  obtain ⟨fs, hr, hrun, hended, hW, hsame⟩ := X2.leave (v := some (.int (0 : Int32))) (fun h => by rw [Bd.returns] at h; cases h)
  refine ⟨_, _, pre0 _ ?_, hrun, hended, _, _, rfl, ?_, ⟨_, rfl⟩, hW, hsame.mono (by decide) (by decide)⟩
  · show Steps p.tables e below (s₁.setTop (mkF m 0 #[.val (.ref uF)] [])) _
    refine XS.aloadN X0.here hx rfl (hb hby own_d_m3_0) rfl rfl ?_
    show Steps p.tables e below (s₁.setTop (mkF m 1 #[.val (.ref uF)] [(.ref uF)])) _
    refine st2 _ ?_
    show Steps p.tables e below (T2.setTop (mkF m 4 #[.val (.ref uF)] [(.ref uF), (.ref uF)])) _
    refine Jvm.RoadKit.acmp (g := (mkF m 4 #[.val (.ref uF)] [(.ref uF), (.ref uF)])) X2 hx rfl rfl rfl (pc0 := 4) (pc' := 7) (same := true) rfl (hb hby own_d_m3_4) rfl (decide_eq_true rfl) (by decide) (by decide) ?_
    show Steps p.tables e below (T2.setTop (mkF m 7 #[.val (.ref uF)] [])) _
    refine XS.iconst X2.here hx rfl (hb hby own_d_m3_7) ?_
    show Steps p.tables e below (T2.setTop (mkF m 8 #[.val (.ref uF)] [(.int (0 : Int32))])) _
    exact retI X2 hx Bd.returns (hb hby own_d_m3_8) hr
  · show (QP (some (.int (0 : Int32))) h0 n0) _ T2.heap _
    rw [e2]
    exact ⟨rfl, N0, rfl⟩
theorem own_d_prog_49_m6_0 : decode prog_49_method_6_code 0 = .ok (.aload_n 0, 1) := by decide +kernel
theorem own_d_prog_49_m6_1 : decode prog_49_method_6_code 1 = .ok (.getstatic 7, 3) := by decide +kernel
theorem own_d_prog_49_m6_4 : decode prog_49_method_6_code 4 = .ok (.if_acmp .eq 10, 3) := by decide +kernel
theorem own_d_prog_49_m6_14 : decode prog_49_method_6_code 14 = .ok (.getstatic 7, 3) := by decide +kernel
theorem own_d_prog_49_m6_17 : decode prog_49_method_6_code 17 = .ok (.areturn, 1) := by decide +kernel
theorem own_ef_2 (m : MethodId) (x0 : Addr) (x1 : Addr) : entryFrame m #[(.ref x0), (.ref x1)] 2 = mkF m 0 #[.val (.ref x0), .val (.ref x1)] [] := by first | (simp [entryFrame, mkF, argsToLocals, Value.category]; done) | rfl
theorem own_pn_1 : plainName "com/example/boolgrove/boolgrove/Truth" = true := by first | (simp [plainName, overriddenIn]; done) | decide +kernel
set_option maxRecDepth 65536 in
set_option maxHeartbeats 40000000 in
theorem own_and_00 (l : Launch) (Z : State) (a0 : Array Value) (hw : ∀ d ∈ tables_1, d.before a0 Z = true)  (uF : Addr) (uU : Addr) (uT : Addr) (h0 : Heap) (n0 : Nat) (Z0 : n0 ≤ h0.size) (SuF : Sta Z h0 "com/example/boolgrove/boolgrove/Truth" "FALSE" "Lcom/example/boolgrove/boolgrove/Truth;" (.ref uF)) (SuU : Sta Z h0 "com/example/boolgrove/boolgrove/Truth" "UNDEFINED" "Lcom/example/boolgrove/boolgrove/Truth;" (.ref uU)) (SuT : Sta Z h0 "com/example/boolgrove/boolgrove/Truth" "TRUE" "Lcom/example/boolgrove/boolgrove/Truth;" (.ref uT)) (nFU : uF ≠ uU) (nFT : uF ≠ uT) (nUT : uU ≠ uT) :
    Met l Z [] (⟨"com/example/boolgrove/boolgrove/Truth", "and", "(Lcom/example/boolgrove/boolgrove/Truth;)Lcom/example/boolgrove/boolgrove/Truth;"⟩ : MethodName) prog_49_method_6_code 2 (some (.object "com/example/boolgrove/boolgrove/Truth")) ({ frames := 0, cells := 0, slots := 0, locals := 0 } : Room) #[(.ref uF), (.ref uF)] h0 (QP (some (.ref uF)) h0 n0) := by
  refine MetFree.of_bodySF (plainFor_of_name own_pn_1) hisR ?_
  intro p e s m args below meth c s₁ Bd hml0 hP hK
  obtain ⟨rfl, hZ, hh⟩ := hP
  have hx := Bd.exec
  have hby := Bd.bytes
  have hml : c.maxLocals = 2 := hml0
  have hown : s.vm.findClass "com/example/boolgrove/boolgrove/Truth" = some m.cls := findClass_of_methodNamed Bd.named
  have hnm := (name_of_methodNamed Bd.named Bd.method).1
  have X0 : Stand p l e ({ frames := 0, cells := 0, slots := 0, locals := 0 } : Room) s m #[(.ref uF), (.ref uF)] below meth c s₁ [] 0 0 := Stand.of_body Bd
  have e0 : s₁.heap = h0 := by rw [← hh, Bd.state]; rfl
  have N0 := Fr.nil n0
  have pre0 : ∀ t, Steps p.tables e below (s₁.setTop (mkF m 0 #[.val (.ref uF), .val (.ref uF)] [])) t → Steps p.tables e below (s₁.setTop (entryFrame m #[(.ref uF), (.ref uF)] 2)) t := fun t k => castTop (own_ef_2 m uF uF) k
  obtain ⟨T3, X3, e3, st3⟩ := getS2 X0 hx hZ hown (host := "") (Or.inl (hw _ (List.mem_of_getElem? (i := 13) rfl))) Via.refl e0 SuF (g := (mkF m 1 #[.val (.ref uF), .val (.ref uF)] [(.ref uF)])) rfl (hb hby own_d_prog_49_m6_1)
  obtain ⟨T4, X4, e4, st4⟩ := getS2 X3 hx hZ hown (host := "") (Or.inl (hw _ (List.mem_of_getElem? (i := 13) rfl))) Via.refl e3 SuF (g := (mkF m 14 #[.val (.ref uF), .val (.ref uF)] [])) rfl (hb hby own_d_prog_49_m6_14)
  obtain ⟨fs, hr, hrun, hended, hW, hsame⟩ := X4.leave (v := some (.ref uF)) (fun h => by rw [Bd.returns] at h; cases h)
  refine ⟨_, _, pre0 _ ?_, hrun, hended, _, _, rfl, ?_, ⟨_, rfl⟩, hW, hsame.mono (by decide) (by decide)⟩
  · show Steps p.tables e below (s₁.setTop (mkF m 0 #[.val (.ref uF), .val (.ref uF)] [])) _
    refine XS.aloadN X0.here hx rfl (hb hby own_d_prog_49_m6_0) rfl rfl ?_
    show Steps p.tables e below (s₁.setTop (mkF m 1 #[.val (.ref uF), .val (.ref uF)] [(.ref uF)])) _
    refine st3 _ ?_
    show Steps p.tables e below (T3.setTop (mkF m 4 #[.val (.ref uF), .val (.ref uF)] [(.ref uF), (.ref uF)])) _
    refine Jvm.RoadKit.acmp (g := (mkF m 4 #[.val (.ref uF), .val (.ref uF)] [(.ref uF), (.ref uF)])) X3 hx rfl rfl rfl (pc0 := 4) (pc' := 14) (same := true) rfl (hb hby own_d_prog_49_m6_4) rfl (decide_eq_true rfl) (by decide) (by decide) ?_
    show Steps p.tables e below (T3.setTop (mkF m 14 #[.val (.ref uF), .val (.ref uF)] [])) _
    refine st4 _ ?_
    show Steps p.tables e below (T4.setTop (mkF m 17 #[.val (.ref uF), .val (.ref uF)] [(.ref uF)])) _
    jvm_step X4.here [X4.here.top, hx, (hb hby own_d_prog_49_m6_17), X4.method', Bd.returns, Value.isRef, FieldType.isReference]
    first | (intro acts; rw [hr _ acts rfl rfl rfl]) | rw [hr _ _ rfl rfl rfl]
    exact Steps.refl _
  · show (QP (some (.ref uF)) h0 n0) _ T4.heap _
    rw [e4]
    exact ⟨rfl, N0, rfl⟩
set_option maxRecDepth 65536 in
set_option maxHeartbeats 40000000 in
theorem own_and_01 (l : Launch) (Z : State) (a0 : Array Value) (hw : ∀ d ∈ tables_1, d.before a0 Z = true)  (uF : Addr) (uU : Addr) (uT : Addr) (h0 : Heap) (n0 : Nat) (Z0 : n0 ≤ h0.size) (SuF : Sta Z h0 "com/example/boolgrove/boolgrove/Truth" "FALSE" "Lcom/example/boolgrove/boolgrove/Truth;" (.ref uF)) (SuU : Sta Z h0 "com/example/boolgrove/boolgrove/Truth" "UNDEFINED" "Lcom/example/boolgrove/boolgrove/Truth;" (.ref uU)) (SuT : Sta Z h0 "com/example/boolgrove/boolgrove/Truth" "TRUE" "Lcom/example/boolgrove/boolgrove/Truth;" (.ref uT)) (nFU : uF ≠ uU) (nFT : uF ≠ uT) (nUT : uU ≠ uT) :
    Met l Z [] (⟨"com/example/boolgrove/boolgrove/Truth", "and", "(Lcom/example/boolgrove/boolgrove/Truth;)Lcom/example/boolgrove/boolgrove/Truth;"⟩ : MethodName) prog_49_method_6_code 2 (some (.object "com/example/boolgrove/boolgrove/Truth")) ({ frames := 0, cells := 0, slots := 0, locals := 0 } : Room) #[(.ref uF), (.ref uU)] h0 (QP (some (.ref uF)) h0 n0) := by
  refine MetFree.of_bodySF (plainFor_of_name own_pn_1) hisR ?_
  intro p e s m args below meth c s₁ Bd hml0 hP hK
  obtain ⟨rfl, hZ, hh⟩ := hP
  have hx := Bd.exec
  have hby := Bd.bytes
  have hml : c.maxLocals = 2 := hml0
  have hown : s.vm.findClass "com/example/boolgrove/boolgrove/Truth" = some m.cls := findClass_of_methodNamed Bd.named
  have hnm := (name_of_methodNamed Bd.named Bd.method).1
  have X0 : Stand p l e ({ frames := 0, cells := 0, slots := 0, locals := 0 } : Room) s m #[(.ref uF), (.ref uU)] below meth c s₁ [] 0 0 := Stand.of_body Bd
  have e0 : s₁.heap = h0 := by rw [← hh, Bd.state]; rfl
  have N0 := Fr.nil n0
  have pre0 : ∀ t, Steps p.tables e below (s₁.setTop (mkF m 0 #[.val (.ref uF), .val (.ref uU)] [])) t → Steps p.tables e below (s₁.setTop (entryFrame m #[(.ref uF), (.ref uU)] 2)) t := fun t k => castTop (own_ef_2 m uF uU) k
  obtain ⟨T5, X5, e5, st5⟩ := getS2 X0 hx hZ hown (host := "") (Or.inl (hw _ (List.mem_of_getElem? (i := 13) rfl))) Via.refl e0 SuF (g := (mkF m 1 #[.val (.ref uF), .val (.ref uU)] [(.ref uF)])) rfl (hb hby own_d_prog_49_m6_1)
  obtain ⟨T6, X6, e6, st6⟩ := getS2 X5 hx hZ hown (host := "") (Or.inl (hw _ (List.mem_of_getElem? (i := 13) rfl))) Via.refl e5 SuF (g := (mkF m 14 #[.val (.ref uF), .val (.ref uU)] [])) rfl (hb hby own_d_prog_49_m6_14)
  obtain ⟨fs, hr, hrun, hended, hW, hsame⟩ := X6.leave (v := some (.ref uF)) (fun h => by rw [Bd.returns] at h; cases h)
  refine ⟨_, _, pre0 _ ?_, hrun, hended, _, _, rfl, ?_, ⟨_, rfl⟩, hW, hsame.mono (by decide) (by decide)⟩
  · show Steps p.tables e below (s₁.setTop (mkF m 0 #[.val (.ref uF), .val (.ref uU)] [])) _
    refine XS.aloadN X0.here hx rfl (hb hby own_d_prog_49_m6_0) rfl rfl ?_
    show Steps p.tables e below (s₁.setTop (mkF m 1 #[.val (.ref uF), .val (.ref uU)] [(.ref uF)])) _
    refine st5 _ ?_
    show Steps p.tables e below (T5.setTop (mkF m 4 #[.val (.ref uF), .val (.ref uU)] [(.ref uF), (.ref uF)])) _
    refine Jvm.RoadKit.acmp (g := (mkF m 4 #[.val (.ref uF), .val (.ref uU)] [(.ref uF), (.ref uF)])) X5 hx rfl rfl rfl (pc0 := 4) (pc' := 14) (same := true) rfl (hb hby own_d_prog_49_m6_4) rfl (decide_eq_true rfl) (by decide) (by decide) ?_
    show Steps p.tables e below (T5.setTop (mkF m 14 #[.val (.ref uF), .val (.ref uU)] [])) _
    refine st6 _ ?_
    show Steps p.tables e below (T6.setTop (mkF m 17 #[.val (.ref uF), .val (.ref uU)] [(.ref uF)])) _
    jvm_step X6.here [X6.here.top, hx, (hb hby own_d_prog_49_m6_17), X6.method', Bd.returns, Value.isRef, FieldType.isReference]
    first | (intro acts; rw [hr _ acts rfl rfl rfl]) | rw [hr _ _ rfl rfl rfl]
    exact Steps.refl _
  · show (QP (some (.ref uF)) h0 n0) _ T6.heap _
    rw [e6]
    exact ⟨rfl, N0, rfl⟩
set_option maxRecDepth 65536 in
set_option maxHeartbeats 40000000 in
theorem own_and_02 (l : Launch) (Z : State) (a0 : Array Value) (hw : ∀ d ∈ tables_1, d.before a0 Z = true)  (uF : Addr) (uU : Addr) (uT : Addr) (h0 : Heap) (n0 : Nat) (Z0 : n0 ≤ h0.size) (SuF : Sta Z h0 "com/example/boolgrove/boolgrove/Truth" "FALSE" "Lcom/example/boolgrove/boolgrove/Truth;" (.ref uF)) (SuU : Sta Z h0 "com/example/boolgrove/boolgrove/Truth" "UNDEFINED" "Lcom/example/boolgrove/boolgrove/Truth;" (.ref uU)) (SuT : Sta Z h0 "com/example/boolgrove/boolgrove/Truth" "TRUE" "Lcom/example/boolgrove/boolgrove/Truth;" (.ref uT)) (nFU : uF ≠ uU) (nFT : uF ≠ uT) (nUT : uU ≠ uT) :
    Met l Z [] (⟨"com/example/boolgrove/boolgrove/Truth", "and", "(Lcom/example/boolgrove/boolgrove/Truth;)Lcom/example/boolgrove/boolgrove/Truth;"⟩ : MethodName) prog_49_method_6_code 2 (some (.object "com/example/boolgrove/boolgrove/Truth")) ({ frames := 0, cells := 0, slots := 0, locals := 0 } : Room) #[(.ref uF), (.ref uT)] h0 (QP (some (.ref uF)) h0 n0) := by
  refine MetFree.of_bodySF (plainFor_of_name own_pn_1) hisR ?_
  intro p e s m args below meth c s₁ Bd hml0 hP hK
  obtain ⟨rfl, hZ, hh⟩ := hP
  have hx := Bd.exec
  have hby := Bd.bytes
  have hml : c.maxLocals = 2 := hml0
  have hown : s.vm.findClass "com/example/boolgrove/boolgrove/Truth" = some m.cls := findClass_of_methodNamed Bd.named
  have hnm := (name_of_methodNamed Bd.named Bd.method).1
  have X0 : Stand p l e ({ frames := 0, cells := 0, slots := 0, locals := 0 } : Room) s m #[(.ref uF), (.ref uT)] below meth c s₁ [] 0 0 := Stand.of_body Bd
  have e0 : s₁.heap = h0 := by rw [← hh, Bd.state]; rfl
  have N0 := Fr.nil n0
  have pre0 : ∀ t, Steps p.tables e below (s₁.setTop (mkF m 0 #[.val (.ref uF), .val (.ref uT)] [])) t → Steps p.tables e below (s₁.setTop (entryFrame m #[(.ref uF), (.ref uT)] 2)) t := fun t k => castTop (own_ef_2 m uF uT) k
  obtain ⟨T7, X7, e7, st7⟩ := getS2 X0 hx hZ hown (host := "") (Or.inl (hw _ (List.mem_of_getElem? (i := 13) rfl))) Via.refl e0 SuF (g := (mkF m 1 #[.val (.ref uF), .val (.ref uT)] [(.ref uF)])) rfl (hb hby own_d_prog_49_m6_1)
  obtain ⟨T8, X8, e8, st8⟩ := getS2 X7 hx hZ hown (host := "") (Or.inl (hw _ (List.mem_of_getElem? (i := 13) rfl))) Via.refl e7 SuF (g := (mkF m 14 #[.val (.ref uF), .val (.ref uT)] [])) rfl (hb hby own_d_prog_49_m6_14)
  obtain ⟨fs, hr, hrun, hended, hW, hsame⟩ := X8.leave (v := some (.ref uF)) (fun h => by rw [Bd.returns] at h; cases h)
  refine ⟨_, _, pre0 _ ?_, hrun, hended, _, _, rfl, ?_, ⟨_, rfl⟩, hW, hsame.mono (by decide) (by decide)⟩
  · show Steps p.tables e below (s₁.setTop (mkF m 0 #[.val (.ref uF), .val (.ref uT)] [])) _
    refine XS.aloadN X0.here hx rfl (hb hby own_d_prog_49_m6_0) rfl rfl ?_
    show Steps p.tables e below (s₁.setTop (mkF m 1 #[.val (.ref uF), .val (.ref uT)] [(.ref uF)])) _
    refine st7 _ ?_
    show Steps p.tables e below (T7.setTop (mkF m 4 #[.val (.ref uF), .val (.ref uT)] [(.ref uF), (.ref uF)])) _
    refine Jvm.RoadKit.acmp (g := (mkF m 4 #[.val (.ref uF), .val (.ref uT)] [(.ref uF), (.ref uF)])) X7 hx rfl rfl rfl (pc0 := 4) (pc' := 14) (same := true) rfl (hb hby own_d_prog_49_m6_4) rfl (decide_eq_true rfl) (by decide) (by decide) ?_
    show Steps p.tables e below (T7.setTop (mkF m 14 #[.val (.ref uF), .val (.ref uT)] [])) _
    refine st8 _ ?_
    show Steps p.tables e below (T8.setTop (mkF m 17 #[.val (.ref uF), .val (.ref uT)] [(.ref uF)])) _
    jvm_step X8.here [X8.here.top, hx, (hb hby own_d_prog_49_m6_17), X8.method', Bd.returns, Value.isRef, FieldType.isReference]
    first | (intro acts; rw [hr _ acts rfl rfl rfl]) | rw [hr _ _ rfl rfl rfl]
    exact Steps.refl _
  · show (QP (some (.ref uF)) h0 n0) _ T8.heap _
    rw [e8]
    exact ⟨rfl, N0, rfl⟩
theorem own_d_m2_8 : decode method_2_code 8 = .ok (.iload_n 0, 1) := by decide +kernel
theorem own_d_m2_9 : decode method_2_code 9 = .ok (.iconst 1, 1) := by decide +kernel
theorem own_d_m2_10 : decode method_2_code 10 = .ok (.if_icmp .ne 7, 3) := by decide +kernel
theorem own_d_m2_13 : decode method_2_code 13 = .ok (.getstatic 13, 3) := by decide +kernel
theorem own_d_m2_16 : decode method_2_code 16 = .ok (.areturn, 1) := by decide +kernel
set_option maxRecDepth 65536 in
set_option maxHeartbeats 40000000 in
theorem own_pick_1 (l : Launch) (Z : State) (a0 : Array Value) (hw : ∀ d ∈ tables_1, d.before a0 Z = true)  (uF : Addr) (uU : Addr) (uT : Addr) (h0 : Heap) (n0 : Nat) (Z0 : n0 ≤ h0.size) (SuF : Sta Z h0 "com/example/boolgrove/boolgrove/Truth" "FALSE" "Lcom/example/boolgrove/boolgrove/Truth;" (.ref uF)) (SuU : Sta Z h0 "com/example/boolgrove/boolgrove/Truth" "UNDEFINED" "Lcom/example/boolgrove/boolgrove/Truth;" (.ref uU)) (SuT : Sta Z h0 "com/example/boolgrove/boolgrove/Truth" "TRUE" "Lcom/example/boolgrove/boolgrove/Truth;" (.ref uT)) (nFU : uF ≠ uU) (nFT : uF ≠ uT) (nUT : uU ≠ uT) :
    Met l Z [] (⟨"com/example/boolgrove/boolgrove/TruthAndPinLaw", "pick", "(I)Lcom/example/boolgrove/boolgrove/Truth;"⟩ : MethodName) method_2_code 1 (some (.object "com/example/boolgrove/boolgrove/Truth")) ({ frames := 0, cells := 0, slots := 0, locals := 0 } : Room) #[(.int (1 : Int32))] h0 (QP (some (.ref uU)) h0 n0) := by
  refine MetFree.of_bodySF (plainFor_of_name own_pn_0) hisR ?_
  intro p e s m args below meth c s₁ Bd hml0 hP hK
  obtain ⟨rfl, hZ, hh⟩ := hP
  have hx := Bd.exec
  have hby := Bd.bytes
  have hml : c.maxLocals = 1 := hml0
  have hown : s.vm.findClass "com/example/boolgrove/boolgrove/TruthAndPinLaw" = some m.cls := findClass_of_methodNamed Bd.named
  have hnm := (name_of_methodNamed Bd.named Bd.method).1
  have X0 : Stand p l e ({ frames := 0, cells := 0, slots := 0, locals := 0 } : Room) s m #[(.int (1 : Int32))] below meth c s₁ [] 0 0 := Stand.of_body Bd
  have e0 : s₁.heap = h0 := by rw [← hh, Bd.state]; rfl
  have N0 := Fr.nil n0
  have pre0 : ∀ t, Steps p.tables e below (s₁.setTop (mkF m 0 #[.val (.int (1 : Int32))] [])) t → Steps p.tables e below (s₁.setTop (entryFrame m #[(.int (1 : Int32))] 1)) t := fun t k => castTop (own_ef_0 m (1 : Int32)) k
  obtain ⟨T9, X9, e9, st9⟩ := getS2 X0 hx hZ hown (host := "") (Or.inl (hw _ (List.mem_of_getElem? (i := 23) rfl))) Via.refl e0 SuU (g := (mkF m 13 #[.val (.int (1 : Int32))] [])) rfl (hb hby own_d_m2_13)
  obtain ⟨fs, hr, hrun, hended, hW, hsame⟩ := X9.leave (v := some (.ref uU)) (fun h => by rw [Bd.returns] at h; cases h)
  refine ⟨_, _, pre0 _ ?_, hrun, hended, _, _, rfl, ?_, ⟨_, rfl⟩, hW, hsame.mono (by decide) (by decide)⟩
  · show Steps p.tables e below (s₁.setTop (mkF m 0 #[.val (.int (1 : Int32))] [])) _
    refine XS.iloadN X0.here hx rfl (hb hby own_d_m2_0) rfl ?_
    show Steps p.tables e below (s₁.setTop (mkF m 1 #[.val (.int (1 : Int32))] [(.int (1 : Int32))])) _
    refine XS.ifYes X0.here hx rfl (pc0 := 1) (pc' := 8) rfl (hb hby own_d_m2_1) rfl ((if0 _ _).trans (feq (by decide : ¬ ((1 : Int32) = (0 : Int32)))).2) (by decide) (by decide) ?_
    show Steps p.tables e below (s₁.setTop (mkF m 8 #[.val (.int (1 : Int32))] [])) _
    refine XS.iloadN X0.here hx rfl (hb hby own_d_m2_8) rfl ?_
    show Steps p.tables e below (s₁.setTop (mkF m 9 #[.val (.int (1 : Int32))] [(.int (1 : Int32))])) _
    refine XS.iconst X0.here hx rfl (hb hby own_d_m2_9) ?_
    show Steps p.tables e below (s₁.setTop (mkF m 10 #[.val (.int (1 : Int32))] [(.int (1 : Int32)), (.int (1 : Int32))])) _
    refine XS.icmpNo X0.here hx rfl (hb hby own_d_m2_10) rfl (teq (rfl : (1 : Int32) = (1 : Int32))).2 ?_
    show Steps p.tables e below (s₁.setTop (mkF m 13 #[.val (.int (1 : Int32))] [])) _
    refine st9 _ ?_
    show Steps p.tables e below (T9.setTop (mkF m 16 #[.val (.int (1 : Int32))] [(.ref uU)])) _
    jvm_step X9.here [X9.here.top, hx, (hb hby own_d_m2_16), X9.method', Bd.returns, Value.isRef, FieldType.isReference]
    first | (intro acts; rw [hr _ acts rfl rfl rfl]) | rw [hr _ _ rfl rfl rfl]
    exact Steps.refl _
  · show (QP (some (.ref uU)) h0 n0) _ T9.heap _
    rw [e9]
    exact ⟨rfl, N0, rfl⟩
theorem own_d_m3_9 : decode method_3_code 9 = .ok (.aload_n 0, 1) := by decide +kernel
theorem own_d_m3_10 : decode method_3_code 10 = .ok (.getstatic 13, 3) := by decide +kernel
theorem own_d_m3_13 : decode method_3_code 13 = .ok (.if_acmp .ne 5, 3) := by decide +kernel
theorem own_d_m3_16 : decode method_3_code 16 = .ok (.iconst 1, 1) := by decide +kernel
theorem own_d_m3_17 : decode method_3_code 17 = .ok (.ireturn, 1) := by decide +kernel
set_option maxRecDepth 65536 in
set_option maxHeartbeats 40000000 in
theorem own_rank_1 (l : Launch) (Z : State) (a0 : Array Value) (hw : ∀ d ∈ tables_1, d.before a0 Z = true)  (uF : Addr) (uU : Addr) (uT : Addr) (h0 : Heap) (n0 : Nat) (Z0 : n0 ≤ h0.size) (SuF : Sta Z h0 "com/example/boolgrove/boolgrove/Truth" "FALSE" "Lcom/example/boolgrove/boolgrove/Truth;" (.ref uF)) (SuU : Sta Z h0 "com/example/boolgrove/boolgrove/Truth" "UNDEFINED" "Lcom/example/boolgrove/boolgrove/Truth;" (.ref uU)) (SuT : Sta Z h0 "com/example/boolgrove/boolgrove/Truth" "TRUE" "Lcom/example/boolgrove/boolgrove/Truth;" (.ref uT)) (nFU : uF ≠ uU) (nFT : uF ≠ uT) (nUT : uU ≠ uT) :
    Met l Z [] (⟨"com/example/boolgrove/boolgrove/TruthAndPinLaw", "rank", "(Lcom/example/boolgrove/boolgrove/Truth;)I"⟩ : MethodName) method_3_code 1 (some .int) ({ frames := 0, cells := 0, slots := 0, locals := 0 } : Room) #[(.ref uU)] h0 (QP (some (.int (1 : Int32))) h0 n0) := by
  refine MetFree.of_bodySF (plainFor_of_name own_pn_0) hisR ?_
  intro p e s m args below meth c s₁ Bd hml0 hP hK
  obtain ⟨rfl, hZ, hh⟩ := hP
  have hx := Bd.exec
  have hby := Bd.bytes
  have hml : c.maxLocals = 1 := hml0
  have hown : s.vm.findClass "com/example/boolgrove/boolgrove/TruthAndPinLaw" = some m.cls := findClass_of_methodNamed Bd.named
  have hnm := (name_of_methodNamed Bd.named Bd.method).1
  have X0 : Stand p l e ({ frames := 0, cells := 0, slots := 0, locals := 0 } : Room) s m #[(.ref uU)] below meth c s₁ [] 0 0 := Stand.of_body Bd
  have e0 : s₁.heap = h0 := by rw [← hh, Bd.state]; rfl
  have N0 := Fr.nil n0
  have pre0 : ∀ t, Steps p.tables e below (s₁.setTop (mkF m 0 #[.val (.ref uU)] [])) t → Steps p.tables e below (s₁.setTop (entryFrame m #[(.ref uU)] 1)) t := fun t k => castTop (own_ef_1 m uU) k
  obtain ⟨T10, X10, e10, st10⟩ := getS2 X0 hx hZ hown (host := "") (Or.inl (hw _ (List.mem_of_getElem? (i := 5) rfl))) Via.refl e0 SuF (g := (mkF m 1 #[.val (.ref uU)] [(.ref uU)])) rfl (hb hby own_d_m3_1)
  obtain ⟨T11, X11, e11, st11⟩ := getS2 X10 hx hZ hown (host := "") (Or.inl (hw _ (List.mem_of_getElem? (i := 23) rfl))) Via.refl e10 SuU (g := (mkF m 10 #[.val (.ref uU)] [(.ref uU)])) rfl (hb hby own_d_m3_10)
  obtain ⟨fs, hr, hrun, hended, hW, hsame⟩ := X11.leave (v := some (.int (1 : Int32))) (fun h => by rw [Bd.returns] at h; cases h)
  refine ⟨_, _, pre0 _ ?_, hrun, hended, _, _, rfl, ?_, ⟨_, rfl⟩, hW, hsame.mono (by decide) (by decide)⟩
  · show Steps p.tables e below (s₁.setTop (mkF m 0 #[.val (.ref uU)] [])) _
    refine XS.aloadN X0.here hx rfl (hb hby own_d_m3_0) rfl rfl ?_
    show Steps p.tables e below (s₁.setTop (mkF m 1 #[.val (.ref uU)] [(.ref uU)])) _
    refine st10 _ ?_
    show Steps p.tables e below (T10.setTop (mkF m 4 #[.val (.ref uU)] [(.ref uF), (.ref uU)])) _
    refine Jvm.RoadKit.acmp (g := (mkF m 4 #[.val (.ref uU)] [(.ref uF), (.ref uU)])) X10 hx rfl rfl rfl (pc0 := 4) (pc' := 9) (same := false) rfl (hb hby own_d_m3_4) rfl (decide_eq_false fun q => (Ne.symm nFU) (Value.ref.inj q)) (by decide) (by decide) ?_
    show Steps p.tables e below (T10.setTop (mkF m 9 #[.val (.ref uU)] [])) _
    refine XS.aloadN X10.here hx rfl (hb hby own_d_m3_9) rfl rfl ?_
    show Steps p.tables e below (T10.setTop (mkF m 10 #[.val (.ref uU)] [(.ref uU)])) _
    refine st11 _ ?_
    show Steps p.tables e below (T11.setTop (mkF m 13 #[.val (.ref uU)] [(.ref uU), (.ref uU)])) _
    refine Jvm.RoadKit.acmp (g := (mkF m 13 #[.val (.ref uU)] [(.ref uU), (.ref uU)])) X11 hx rfl rfl rfl (pc0 := 13) (pc' := 16) (same := true) rfl (hb hby own_d_m3_13) rfl (decide_eq_true rfl) (by decide) (by decide) ?_
    show Steps p.tables e below (T11.setTop (mkF m 16 #[.val (.ref uU)] [])) _
    refine XS.iconst X11.here hx rfl (hb hby own_d_m3_16) ?_
    show Steps p.tables e below (T11.setTop (mkF m 17 #[.val (.ref uU)] [(.int (1 : Int32))])) _
    exact retI X11 hx Bd.returns (hb hby own_d_m3_17) hr
  · show (QP (some (.int (1 : Int32))) h0 n0) _ T11.heap _
    rw [e11]
    exact ⟨rfl, N0, rfl⟩
theorem own_d_prog_49_m6_7 : decode prog_49_method_6_code 7 = .ok (.aload_n 1, 1) := by decide +kernel
theorem own_d_prog_49_m6_8 : decode prog_49_method_6_code 8 = .ok (.getstatic 7, 3) := by decide +kernel
theorem own_d_prog_49_m6_11 : decode prog_49_method_6_code 11 = .ok (.if_acmp .ne 7, 3) := by decide +kernel
set_option maxRecDepth 65536 in
set_option maxHeartbeats 40000000 in
theorem own_and_10 (l : Launch) (Z : State) (a0 : Array Value) (hw : ∀ d ∈ tables_1, d.before a0 Z = true)  (uF : Addr) (uU : Addr) (uT : Addr) (h0 : Heap) (n0 : Nat) (Z0 : n0 ≤ h0.size) (SuF : Sta Z h0 "com/example/boolgrove/boolgrove/Truth" "FALSE" "Lcom/example/boolgrove/boolgrove/Truth;" (.ref uF)) (SuU : Sta Z h0 "com/example/boolgrove/boolgrove/Truth" "UNDEFINED" "Lcom/example/boolgrove/boolgrove/Truth;" (.ref uU)) (SuT : Sta Z h0 "com/example/boolgrove/boolgrove/Truth" "TRUE" "Lcom/example/boolgrove/boolgrove/Truth;" (.ref uT)) (nFU : uF ≠ uU) (nFT : uF ≠ uT) (nUT : uU ≠ uT) :
    Met l Z [] (⟨"com/example/boolgrove/boolgrove/Truth", "and", "(Lcom/example/boolgrove/boolgrove/Truth;)Lcom/example/boolgrove/boolgrove/Truth;"⟩ : MethodName) prog_49_method_6_code 2 (some (.object "com/example/boolgrove/boolgrove/Truth")) ({ frames := 0, cells := 0, slots := 0, locals := 0 } : Room) #[(.ref uU), (.ref uF)] h0 (QP (some (.ref uF)) h0 n0) := by
  refine MetFree.of_bodySF (plainFor_of_name own_pn_1) hisR ?_
  intro p e s m args below meth c s₁ Bd hml0 hP hK
  obtain ⟨rfl, hZ, hh⟩ := hP
  have hx := Bd.exec
  have hby := Bd.bytes
  have hml : c.maxLocals = 2 := hml0
  have hown : s.vm.findClass "com/example/boolgrove/boolgrove/Truth" = some m.cls := findClass_of_methodNamed Bd.named
  have hnm := (name_of_methodNamed Bd.named Bd.method).1
  have X0 : Stand p l e ({ frames := 0, cells := 0, slots := 0, locals := 0 } : Room) s m #[(.ref uU), (.ref uF)] below meth c s₁ [] 0 0 := Stand.of_body Bd
  have e0 : s₁.heap = h0 := by rw [← hh, Bd.state]; rfl
  have N0 := Fr.nil n0
  have pre0 : ∀ t, Steps p.tables e below (s₁.setTop (mkF m 0 #[.val (.ref uU), .val (.ref uF)] [])) t → Steps p.tables e below (s₁.setTop (entryFrame m #[(.ref uU), (.ref uF)] 2)) t := fun t k => castTop (own_ef_2 m uU uF) k
  obtain ⟨T12, X12, e12, st12⟩ := getS2 X0 hx hZ hown (host := "") (Or.inl (hw _ (List.mem_of_getElem? (i := 13) rfl))) Via.refl e0 SuF (g := (mkF m 1 #[.val (.ref uU), .val (.ref uF)] [(.ref uU)])) rfl (hb hby own_d_prog_49_m6_1)
  obtain ⟨T13, X13, e13, st13⟩ := getS2 X12 hx hZ hown (host := "") (Or.inl (hw _ (List.mem_of_getElem? (i := 13) rfl))) Via.refl e12 SuF (g := (mkF m 8 #[.val (.ref uU), .val (.ref uF)] [(.ref uF)])) rfl (hb hby own_d_prog_49_m6_8)
  obtain ⟨T14, X14, e14, st14⟩ := getS2 X13 hx hZ hown (host := "") (Or.inl (hw _ (List.mem_of_getElem? (i := 13) rfl))) Via.refl e13 SuF (g := (mkF m 14 #[.val (.ref uU), .val (.ref uF)] [])) rfl (hb hby own_d_prog_49_m6_14)
  obtain ⟨fs, hr, hrun, hended, hW, hsame⟩ := X14.leave (v := some (.ref uF)) (fun h => by rw [Bd.returns] at h; cases h)
  refine ⟨_, _, pre0 _ ?_, hrun, hended, _, _, rfl, ?_, ⟨_, rfl⟩, hW, hsame.mono (by decide) (by decide)⟩
  · show Steps p.tables e below (s₁.setTop (mkF m 0 #[.val (.ref uU), .val (.ref uF)] [])) _
    refine XS.aloadN X0.here hx rfl (hb hby own_d_prog_49_m6_0) rfl rfl ?_
    show Steps p.tables e below (s₁.setTop (mkF m 1 #[.val (.ref uU), .val (.ref uF)] [(.ref uU)])) _
    refine st12 _ ?_
    show Steps p.tables e below (T12.setTop (mkF m 4 #[.val (.ref uU), .val (.ref uF)] [(.ref uF), (.ref uU)])) _
    refine Jvm.RoadKit.acmp (g := (mkF m 4 #[.val (.ref uU), .val (.ref uF)] [(.ref uF), (.ref uU)])) X12 hx rfl rfl rfl (pc0 := 4) (pc' := 7) (same := false) rfl (hb hby own_d_prog_49_m6_4) rfl (decide_eq_false fun q => (Ne.symm nFU) (Value.ref.inj q)) (by decide) (by decide) ?_
    show Steps p.tables e below (T12.setTop (mkF m 7 #[.val (.ref uU), .val (.ref uF)] [])) _
    refine XS.aloadN X12.here hx rfl (hb hby own_d_prog_49_m6_7) rfl rfl ?_
    show Steps p.tables e below (T12.setTop (mkF m 8 #[.val (.ref uU), .val (.ref uF)] [(.ref uF)])) _
    refine st13 _ ?_
    show Steps p.tables e below (T13.setTop (mkF m 11 #[.val (.ref uU), .val (.ref uF)] [(.ref uF), (.ref uF)])) _
    refine Jvm.RoadKit.acmp (g := (mkF m 11 #[.val (.ref uU), .val (.ref uF)] [(.ref uF), (.ref uF)])) X13 hx rfl rfl rfl (pc0 := 11) (pc' := 14) (same := true) rfl (hb hby own_d_prog_49_m6_11) rfl (decide_eq_true rfl) (by decide) (by decide) ?_
    show Steps p.tables e below (T13.setTop (mkF m 14 #[.val (.ref uU), .val (.ref uF)] [])) _
    refine st14 _ ?_
    show Steps p.tables e below (T14.setTop (mkF m 17 #[.val (.ref uU), .val (.ref uF)] [(.ref uF)])) _
    jvm_step X14.here [X14.here.top, hx, (hb hby own_d_prog_49_m6_17), X14.method', Bd.returns, Value.isRef, FieldType.isReference]
    first | (intro acts; rw [hr _ acts rfl rfl rfl]) | rw [hr _ _ rfl rfl rfl]
    exact Steps.refl _
  · show (QP (some (.ref uF)) h0 n0) _ T14.heap _
    rw [e14]
    exact ⟨rfl, N0, rfl⟩
theorem own_d_prog_49_m6_18 : decode prog_49_method_6_code 18 = .ok (.aload_n 0, 1) := by decide +kernel
theorem own_d_prog_49_m6_19 : decode prog_49_method_6_code 19 = .ok (.getstatic 10, 3) := by decide +kernel
theorem own_d_prog_49_m6_22 : decode prog_49_method_6_code 22 = .ok (.if_acmp .eq 10, 3) := by decide +kernel
theorem own_d_prog_49_m6_32 : decode prog_49_method_6_code 32 = .ok (.getstatic 10, 3) := by decide +kernel
theorem own_d_prog_49_m6_35 : decode prog_49_method_6_code 35 = .ok (.goto 6, 3) := by decide +kernel
theorem own_d_prog_49_m6_41 : decode prog_49_method_6_code 41 = .ok (.areturn, 1) := by decide +kernel
set_option maxRecDepth 65536 in
set_option maxHeartbeats 40000000 in
theorem own_and_11 (l : Launch) (Z : State) (a0 : Array Value) (hw : ∀ d ∈ tables_1, d.before a0 Z = true)  (uF : Addr) (uU : Addr) (uT : Addr) (h0 : Heap) (n0 : Nat) (Z0 : n0 ≤ h0.size) (SuF : Sta Z h0 "com/example/boolgrove/boolgrove/Truth" "FALSE" "Lcom/example/boolgrove/boolgrove/Truth;" (.ref uF)) (SuU : Sta Z h0 "com/example/boolgrove/boolgrove/Truth" "UNDEFINED" "Lcom/example/boolgrove/boolgrove/Truth;" (.ref uU)) (SuT : Sta Z h0 "com/example/boolgrove/boolgrove/Truth" "TRUE" "Lcom/example/boolgrove/boolgrove/Truth;" (.ref uT)) (nFU : uF ≠ uU) (nFT : uF ≠ uT) (nUT : uU ≠ uT) :
    Met l Z [] (⟨"com/example/boolgrove/boolgrove/Truth", "and", "(Lcom/example/boolgrove/boolgrove/Truth;)Lcom/example/boolgrove/boolgrove/Truth;"⟩ : MethodName) prog_49_method_6_code 2 (some (.object "com/example/boolgrove/boolgrove/Truth")) ({ frames := 0, cells := 0, slots := 0, locals := 0 } : Room) #[(.ref uU), (.ref uU)] h0 (QP (some (.ref uU)) h0 n0) := by
  refine MetFree.of_bodySF (plainFor_of_name own_pn_1) hisR ?_
  intro p e s m args below meth c s₁ Bd hml0 hP hK
  obtain ⟨rfl, hZ, hh⟩ := hP
  have hx := Bd.exec
  have hby := Bd.bytes
  have hml : c.maxLocals = 2 := hml0
  have hown : s.vm.findClass "com/example/boolgrove/boolgrove/Truth" = some m.cls := findClass_of_methodNamed Bd.named
  have hnm := (name_of_methodNamed Bd.named Bd.method).1
  have X0 : Stand p l e ({ frames := 0, cells := 0, slots := 0, locals := 0 } : Room) s m #[(.ref uU), (.ref uU)] below meth c s₁ [] 0 0 := Stand.of_body Bd
  have e0 : s₁.heap = h0 := by rw [← hh, Bd.state]; rfl
  have N0 := Fr.nil n0
  have pre0 : ∀ t, Steps p.tables e below (s₁.setTop (mkF m 0 #[.val (.ref uU), .val (.ref uU)] [])) t → Steps p.tables e below (s₁.setTop (entryFrame m #[(.ref uU), (.ref uU)] 2)) t := fun t k => castTop (own_ef_2 m uU uU) k
  obtain ⟨T15, X15, e15, st15⟩ := getS2 X0 hx hZ hown (host := "") (Or.inl (hw _ (List.mem_of_getElem? (i := 13) rfl))) Via.refl e0 SuF (g := (mkF m 1 #[.val (.ref uU), .val (.ref uU)] [(.ref uU)])) rfl (hb hby own_d_prog_49_m6_1)
  obtain ⟨T16, X16, e16, st16⟩ := getS2 X15 hx hZ hown (host := "") (Or.inl (hw _ (List.mem_of_getElem? (i := 13) rfl))) Via.refl e15 SuF (g := (mkF m 8 #[.val (.ref uU), .val (.ref uU)] [(.ref uU)])) rfl (hb hby own_d_prog_49_m6_8)
  obtain ⟨T17, X17, e17, st17⟩ := getS2 X16 hx hZ hown (host := "") (Or.inl (hw _ (List.mem_of_getElem? (i := 25) rfl))) Via.refl e16 SuU (g := (mkF m 19 #[.val (.ref uU), .val (.ref uU)] [(.ref uU)])) rfl (hb hby own_d_prog_49_m6_19)
  obtain ⟨T18, X18, e18, st18⟩ := getS2 X17 hx hZ hown (host := "") (Or.inl (hw _ (List.mem_of_getElem? (i := 25) rfl))) Via.refl e17 SuU (g := (mkF m 32 #[.val (.ref uU), .val (.ref uU)] [])) rfl (hb hby own_d_prog_49_m6_32)
  obtain ⟨fs, hr, hrun, hended, hW, hsame⟩ := X18.leave (v := some (.ref uU)) (fun h => by rw [Bd.returns] at h; cases h)
  refine ⟨_, _, pre0 _ ?_, hrun, hended, _, _, rfl, ?_, ⟨_, rfl⟩, hW, hsame.mono (by decide) (by decide)⟩
  · show Steps p.tables e below (s₁.setTop (mkF m 0 #[.val (.ref uU), .val (.ref uU)] [])) _
    refine XS.aloadN X0.here hx rfl (hb hby own_d_prog_49_m6_0) rfl rfl ?_
    show Steps p.tables e below (s₁.setTop (mkF m 1 #[.val (.ref uU), .val (.ref uU)] [(.ref uU)])) _
    refine st15 _ ?_
    show Steps p.tables e below (T15.setTop (mkF m 4 #[.val (.ref uU), .val (.ref uU)] [(.ref uF), (.ref uU)])) _
    refine Jvm.RoadKit.acmp (g := (mkF m 4 #[.val (.ref uU), .val (.ref uU)] [(.ref uF), (.ref uU)])) X15 hx rfl rfl rfl (pc0 := 4) (pc' := 7) (same := false) rfl (hb hby own_d_prog_49_m6_4) rfl (decide_eq_false fun q => (Ne.symm nFU) (Value.ref.inj q)) (by decide) (by decide) ?_
    show Steps p.tables e below (T15.setTop (mkF m 7 #[.val (.ref uU), .val (.ref uU)] [])) _
    refine XS.aloadN X15.here hx rfl (hb hby own_d_prog_49_m6_7) rfl rfl ?_
    show Steps p.tables e below (T15.setTop (mkF m 8 #[.val (.ref uU), .val (.ref uU)] [(.ref uU)])) _
    refine st16 _ ?_
    show Steps p.tables e below (T16.setTop (mkF m 11 #[.val (.ref uU), .val (.ref uU)] [(.ref uF), (.ref uU)])) _
    refine Jvm.RoadKit.acmp (g := (mkF m 11 #[.val (.ref uU), .val (.ref uU)] [(.ref uF), (.ref uU)])) X16 hx rfl rfl rfl (pc0 := 11) (pc' := 18) (same := false) rfl (hb hby own_d_prog_49_m6_11) rfl (decide_eq_false fun q => (Ne.symm nFU) (Value.ref.inj q)) (by decide) (by decide) ?_
    show Steps p.tables e below (T16.setTop (mkF m 18 #[.val (.ref uU), .val (.ref uU)] [])) _
    refine XS.aloadN X16.here hx rfl (hb hby own_d_prog_49_m6_18) rfl rfl ?_
    show Steps p.tables e below (T16.setTop (mkF m 19 #[.val (.ref uU), .val (.ref uU)] [(.ref uU)])) _
    refine st17 _ ?_
    show Steps p.tables e below (T17.setTop (mkF m 22 #[.val (.ref uU), .val (.ref uU)] [(.ref uU), (.ref uU)])) _
    refine Jvm.RoadKit.acmp (g := (mkF m 22 #[.val (.ref uU), .val (.ref uU)] [(.ref uU), (.ref uU)])) X17 hx rfl rfl rfl (pc0 := 22) (pc' := 32) (same := true) rfl (hb hby own_d_prog_49_m6_22) rfl (decide_eq_true rfl) (by decide) (by decide) ?_
    show Steps p.tables e below (T17.setTop (mkF m 32 #[.val (.ref uU), .val (.ref uU)] [])) _
    refine st18 _ ?_
    show Steps p.tables e below (T18.setTop (mkF m 35 #[.val (.ref uU), .val (.ref uU)] [(.ref uU)])) _
    refine XS.goto X18.here hx rfl (pc0 := 35) (pc' := 41) rfl (hb hby own_d_prog_49_m6_35) (by decide) (by decide) ?_
    show Steps p.tables e below (T18.setTop (mkF m 41 #[.val (.ref uU), .val (.ref uU)] [(.ref uU)])) _
    jvm_step X18.here [X18.here.top, hx, (hb hby own_d_prog_49_m6_41), X18.method', Bd.returns, Value.isRef, FieldType.isReference]
    first | (intro acts; rw [hr _ acts rfl rfl rfl]) | rw [hr _ _ rfl rfl rfl]
    exact Steps.refl _
  · show (QP (some (.ref uU)) h0 n0) _ T18.heap _
    rw [e18]
    exact ⟨rfl, N0, rfl⟩
set_option maxRecDepth 65536 in
set_option maxHeartbeats 40000000 in
theorem own_and_12 (l : Launch) (Z : State) (a0 : Array Value) (hw : ∀ d ∈ tables_1, d.before a0 Z = true)  (uF : Addr) (uU : Addr) (uT : Addr) (h0 : Heap) (n0 : Nat) (Z0 : n0 ≤ h0.size) (SuF : Sta Z h0 "com/example/boolgrove/boolgrove/Truth" "FALSE" "Lcom/example/boolgrove/boolgrove/Truth;" (.ref uF)) (SuU : Sta Z h0 "com/example/boolgrove/boolgrove/Truth" "UNDEFINED" "Lcom/example/boolgrove/boolgrove/Truth;" (.ref uU)) (SuT : Sta Z h0 "com/example/boolgrove/boolgrove/Truth" "TRUE" "Lcom/example/boolgrove/boolgrove/Truth;" (.ref uT)) (nFU : uF ≠ uU) (nFT : uF ≠ uT) (nUT : uU ≠ uT) :
    Met l Z [] (⟨"com/example/boolgrove/boolgrove/Truth", "and", "(Lcom/example/boolgrove/boolgrove/Truth;)Lcom/example/boolgrove/boolgrove/Truth;"⟩ : MethodName) prog_49_method_6_code 2 (some (.object "com/example/boolgrove/boolgrove/Truth")) ({ frames := 0, cells := 0, slots := 0, locals := 0 } : Room) #[(.ref uU), (.ref uT)] h0 (QP (some (.ref uU)) h0 n0) := by
  refine MetFree.of_bodySF (plainFor_of_name own_pn_1) hisR ?_
  intro p e s m args below meth c s₁ Bd hml0 hP hK
  obtain ⟨rfl, hZ, hh⟩ := hP
  have hx := Bd.exec
  have hby := Bd.bytes
  have hml : c.maxLocals = 2 := hml0
  have hown : s.vm.findClass "com/example/boolgrove/boolgrove/Truth" = some m.cls := findClass_of_methodNamed Bd.named
  have hnm := (name_of_methodNamed Bd.named Bd.method).1
  have X0 : Stand p l e ({ frames := 0, cells := 0, slots := 0, locals := 0 } : Room) s m #[(.ref uU), (.ref uT)] below meth c s₁ [] 0 0 := Stand.of_body Bd
  have e0 : s₁.heap = h0 := by rw [← hh, Bd.state]; rfl
  have N0 := Fr.nil n0
  have pre0 : ∀ t, Steps p.tables e below (s₁.setTop (mkF m 0 #[.val (.ref uU), .val (.ref uT)] [])) t → Steps p.tables e below (s₁.setTop (entryFrame m #[(.ref uU), (.ref uT)] 2)) t := fun t k => castTop (own_ef_2 m uU uT) k
  obtain ⟨T19, X19, e19, st19⟩ := getS2 X0 hx hZ hown (host := "") (Or.inl (hw _ (List.mem_of_getElem? (i := 13) rfl))) Via.refl e0 SuF (g := (mkF m 1 #[.val (.ref uU), .val (.ref uT)] [(.ref uU)])) rfl (hb hby own_d_prog_49_m6_1)
  obtain ⟨T20, X20, e20, st20⟩ := getS2 X19 hx hZ hown (host := "") (Or.inl (hw _ (List.mem_of_getElem? (i := 13) rfl))) Via.refl e19 SuF (g := (mkF m 8 #[.val (.ref uU), .val (.ref uT)] [(.ref uT)])) rfl (hb hby own_d_prog_49_m6_8)
  obtain ⟨T21, X21, e21, st21⟩ := getS2 X20 hx hZ hown (host := "") (Or.inl (hw _ (List.mem_of_getElem? (i := 25) rfl))) Via.refl e20 SuU (g := (mkF m 19 #[.val (.ref uU), .val (.ref uT)] [(.ref uU)])) rfl (hb hby own_d_prog_49_m6_19)
  obtain ⟨T22, X22, e22, st22⟩ := getS2 X21 hx hZ hown (host := "") (Or.inl (hw _ (List.mem_of_getElem? (i := 25) rfl))) Via.refl e21 SuU (g := (mkF m 32 #[.val (.ref uU), .val (.ref uT)] [])) rfl (hb hby own_d_prog_49_m6_32)
  obtain ⟨fs, hr, hrun, hended, hW, hsame⟩ := X22.leave (v := some (.ref uU)) (fun h => by rw [Bd.returns] at h; cases h)
  refine ⟨_, _, pre0 _ ?_, hrun, hended, _, _, rfl, ?_, ⟨_, rfl⟩, hW, hsame.mono (by decide) (by decide)⟩
  · show Steps p.tables e below (s₁.setTop (mkF m 0 #[.val (.ref uU), .val (.ref uT)] [])) _
    refine XS.aloadN X0.here hx rfl (hb hby own_d_prog_49_m6_0) rfl rfl ?_
    show Steps p.tables e below (s₁.setTop (mkF m 1 #[.val (.ref uU), .val (.ref uT)] [(.ref uU)])) _
    refine st19 _ ?_
    show Steps p.tables e below (T19.setTop (mkF m 4 #[.val (.ref uU), .val (.ref uT)] [(.ref uF), (.ref uU)])) _
    refine Jvm.RoadKit.acmp (g := (mkF m 4 #[.val (.ref uU), .val (.ref uT)] [(.ref uF), (.ref uU)])) X19 hx rfl rfl rfl (pc0 := 4) (pc' := 7) (same := false) rfl (hb hby own_d_prog_49_m6_4) rfl (decide_eq_false fun q => (Ne.symm nFU) (Value.ref.inj q)) (by decide) (by decide) ?_
    show Steps p.tables e below (T19.setTop (mkF m 7 #[.val (.ref uU), .val (.ref uT)] [])) _
    refine XS.aloadN X19.here hx rfl (hb hby own_d_prog_49_m6_7) rfl rfl ?_
    show Steps p.tables e below (T19.setTop (mkF m 8 #[.val (.ref uU), .val (.ref uT)] [(.ref uT)])) _
    refine st20 _ ?_
    show Steps p.tables e below (T20.setTop (mkF m 11 #[.val (.ref uU), .val (.ref uT)] [(.ref uF), (.ref uT)])) _
    refine Jvm.RoadKit.acmp (g := (mkF m 11 #[.val (.ref uU), .val (.ref uT)] [(.ref uF), (.ref uT)])) X20 hx rfl rfl rfl (pc0 := 11) (pc' := 18) (same := false) rfl (hb hby own_d_prog_49_m6_11) rfl (decide_eq_false fun q => (Ne.symm nFT) (Value.ref.inj q)) (by decide) (by decide) ?_
    show Steps p.tables e below (T20.setTop (mkF m 18 #[.val (.ref uU), .val (.ref uT)] [])) _
    refine XS.aloadN X20.here hx rfl (hb hby own_d_prog_49_m6_18) rfl rfl ?_
    show Steps p.tables e below (T20.setTop (mkF m 19 #[.val (.ref uU), .val (.ref uT)] [(.ref uU)])) _
    refine st21 _ ?_
    show Steps p.tables e below (T21.setTop (mkF m 22 #[.val (.ref uU), .val (.ref uT)] [(.ref uU), (.ref uU)])) _
    refine Jvm.RoadKit.acmp (g := (mkF m 22 #[.val (.ref uU), .val (.ref uT)] [(.ref uU), (.ref uU)])) X21 hx rfl rfl rfl (pc0 := 22) (pc' := 32) (same := true) rfl (hb hby own_d_prog_49_m6_22) rfl (decide_eq_true rfl) (by decide) (by decide) ?_
    show Steps p.tables e below (T21.setTop (mkF m 32 #[.val (.ref uU), .val (.ref uT)] [])) _
    refine st22 _ ?_
    show Steps p.tables e below (T22.setTop (mkF m 35 #[.val (.ref uU), .val (.ref uT)] [(.ref uU)])) _
    refine XS.goto X22.here hx rfl (pc0 := 35) (pc' := 41) rfl (hb hby own_d_prog_49_m6_35) (by decide) (by decide) ?_
    show Steps p.tables e below (T22.setTop (mkF m 41 #[.val (.ref uU), .val (.ref uT)] [(.ref uU)])) _
    jvm_step X22.here [X22.here.top, hx, (hb hby own_d_prog_49_m6_41), X22.method', Bd.returns, Value.isRef, FieldType.isReference]
    first | (intro acts; rw [hr _ acts rfl rfl rfl]) | rw [hr _ _ rfl rfl rfl]
    exact Steps.refl _
  · show (QP (some (.ref uU)) h0 n0) _ T22.heap _
    rw [e22]
    exact ⟨rfl, N0, rfl⟩
theorem own_d_m2_17 : decode method_2_code 17 = .ok (.getstatic 16, 3) := by decide +kernel
theorem own_d_m2_20 : decode method_2_code 20 = .ok (.areturn, 1) := by decide +kernel
set_option maxRecDepth 65536 in
set_option maxHeartbeats 40000000 in
theorem own_pick_2 (l : Launch) (Z : State) (a0 : Array Value) (hw : ∀ d ∈ tables_1, d.before a0 Z = true)  (uF : Addr) (uU : Addr) (uT : Addr) (h0 : Heap) (n0 : Nat) (Z0 : n0 ≤ h0.size) (SuF : Sta Z h0 "com/example/boolgrove/boolgrove/Truth" "FALSE" "Lcom/example/boolgrove/boolgrove/Truth;" (.ref uF)) (SuU : Sta Z h0 "com/example/boolgrove/boolgrove/Truth" "UNDEFINED" "Lcom/example/boolgrove/boolgrove/Truth;" (.ref uU)) (SuT : Sta Z h0 "com/example/boolgrove/boolgrove/Truth" "TRUE" "Lcom/example/boolgrove/boolgrove/Truth;" (.ref uT)) (nFU : uF ≠ uU) (nFT : uF ≠ uT) (nUT : uU ≠ uT) :
    Met l Z [] (⟨"com/example/boolgrove/boolgrove/TruthAndPinLaw", "pick", "(I)Lcom/example/boolgrove/boolgrove/Truth;"⟩ : MethodName) method_2_code 1 (some (.object "com/example/boolgrove/boolgrove/Truth")) ({ frames := 0, cells := 0, slots := 0, locals := 0 } : Room) #[(.int (2 : Int32))] h0 (QP (some (.ref uT)) h0 n0) := by
  refine MetFree.of_bodySF (plainFor_of_name own_pn_0) hisR ?_
  intro p e s m args below meth c s₁ Bd hml0 hP hK
  obtain ⟨rfl, hZ, hh⟩ := hP
  have hx := Bd.exec
  have hby := Bd.bytes
  have hml : c.maxLocals = 1 := hml0
  have hown : s.vm.findClass "com/example/boolgrove/boolgrove/TruthAndPinLaw" = some m.cls := findClass_of_methodNamed Bd.named
  have hnm := (name_of_methodNamed Bd.named Bd.method).1
  have X0 : Stand p l e ({ frames := 0, cells := 0, slots := 0, locals := 0 } : Room) s m #[(.int (2 : Int32))] below meth c s₁ [] 0 0 := Stand.of_body Bd
  have e0 : s₁.heap = h0 := by rw [← hh, Bd.state]; rfl
  have N0 := Fr.nil n0
  have pre0 : ∀ t, Steps p.tables e below (s₁.setTop (mkF m 0 #[.val (.int (2 : Int32))] [])) t → Steps p.tables e below (s₁.setTop (entryFrame m #[(.int (2 : Int32))] 1)) t := fun t k => castTop (own_ef_0 m (2 : Int32)) k
  obtain ⟨T23, X23, e23, st23⟩ := getS2 X0 hx hZ hown (host := "") (Or.inl (hw _ (List.mem_of_getElem? (i := 21) rfl))) Via.refl e0 SuT (g := (mkF m 17 #[.val (.int (2 : Int32))] [])) rfl (hb hby own_d_m2_17)
  obtain ⟨fs, hr, hrun, hended, hW, hsame⟩ := X23.leave (v := some (.ref uT)) (fun h => by rw [Bd.returns] at h; cases h)
  refine ⟨_, _, pre0 _ ?_, hrun, hended, _, _, rfl, ?_, ⟨_, rfl⟩, hW, hsame.mono (by decide) (by decide)⟩
  · show Steps p.tables e below (s₁.setTop (mkF m 0 #[.val (.int (2 : Int32))] [])) _
    refine XS.iloadN X0.here hx rfl (hb hby own_d_m2_0) rfl ?_
    show Steps p.tables e below (s₁.setTop (mkF m 1 #[.val (.int (2 : Int32))] [(.int (2 : Int32))])) _
    refine XS.ifYes X0.here hx rfl (pc0 := 1) (pc' := 8) rfl (hb hby own_d_m2_1) rfl ((if0 _ _).trans (feq (by decide : ¬ ((2 : Int32) = (0 : Int32)))).2) (by decide) (by decide) ?_
    show Steps p.tables e below (s₁.setTop (mkF m 8 #[.val (.int (2 : Int32))] [])) _
    refine XS.iloadN X0.here hx rfl (hb hby own_d_m2_8) rfl ?_
    show Steps p.tables e below (s₁.setTop (mkF m 9 #[.val (.int (2 : Int32))] [(.int (2 : Int32))])) _
    refine XS.iconst X0.here hx rfl (hb hby own_d_m2_9) ?_
    show Steps p.tables e below (s₁.setTop (mkF m 10 #[.val (.int (2 : Int32))] [(.int (1 : Int32)), (.int (2 : Int32))])) _
    refine XS.icmpYes X0.here hx rfl (pc0 := 10) (pc' := 17) rfl (hb hby own_d_m2_10) rfl (feq (by decide : ¬ ((2 : Int32) = (1 : Int32)))).2 (by decide) (by decide) ?_
    show Steps p.tables e below (s₁.setTop (mkF m 17 #[.val (.int (2 : Int32))] [])) _
    refine st23 _ ?_
    show Steps p.tables e below (T23.setTop (mkF m 20 #[.val (.int (2 : Int32))] [(.ref uT)])) _
    jvm_step X23.here [X23.here.top, hx, (hb hby own_d_m2_20), X23.method', Bd.returns, Value.isRef, FieldType.isReference]
    first | (intro acts; rw [hr _ acts rfl rfl rfl]) | rw [hr _ _ rfl rfl rfl]
    exact Steps.refl _
  · show (QP (some (.ref uT)) h0 n0) _ T23.heap _
    rw [e23]
    exact ⟨rfl, N0, rfl⟩
theorem own_d_m3_18 : decode method_3_code 18 = .ok (.aload_n 0, 1) := by decide +kernel
theorem own_d_m3_19 : decode method_3_code 19 = .ok (.getstatic 16, 3) := by decide +kernel
theorem own_d_m3_22 : decode method_3_code 22 = .ok (.if_acmp .ne 5, 3) := by decide +kernel
theorem own_d_m3_25 : decode method_3_code 25 = .ok (.iconst 2, 1) := by decide +kernel
theorem own_d_m3_26 : decode method_3_code 26 = .ok (.ireturn, 1) := by decide +kernel
set_option maxRecDepth 65536 in
set_option maxHeartbeats 40000000 in
theorem own_rank_2 (l : Launch) (Z : State) (a0 : Array Value) (hw : ∀ d ∈ tables_1, d.before a0 Z = true)  (uF : Addr) (uU : Addr) (uT : Addr) (h0 : Heap) (n0 : Nat) (Z0 : n0 ≤ h0.size) (SuF : Sta Z h0 "com/example/boolgrove/boolgrove/Truth" "FALSE" "Lcom/example/boolgrove/boolgrove/Truth;" (.ref uF)) (SuU : Sta Z h0 "com/example/boolgrove/boolgrove/Truth" "UNDEFINED" "Lcom/example/boolgrove/boolgrove/Truth;" (.ref uU)) (SuT : Sta Z h0 "com/example/boolgrove/boolgrove/Truth" "TRUE" "Lcom/example/boolgrove/boolgrove/Truth;" (.ref uT)) (nFU : uF ≠ uU) (nFT : uF ≠ uT) (nUT : uU ≠ uT) :
    Met l Z [] (⟨"com/example/boolgrove/boolgrove/TruthAndPinLaw", "rank", "(Lcom/example/boolgrove/boolgrove/Truth;)I"⟩ : MethodName) method_3_code 1 (some .int) ({ frames := 0, cells := 0, slots := 0, locals := 0 } : Room) #[(.ref uT)] h0 (QP (some (.int (2 : Int32))) h0 n0) := by
  refine MetFree.of_bodySF (plainFor_of_name own_pn_0) hisR ?_
  intro p e s m args below meth c s₁ Bd hml0 hP hK
  obtain ⟨rfl, hZ, hh⟩ := hP
  have hx := Bd.exec
  have hby := Bd.bytes
  have hml : c.maxLocals = 1 := hml0
  have hown : s.vm.findClass "com/example/boolgrove/boolgrove/TruthAndPinLaw" = some m.cls := findClass_of_methodNamed Bd.named
  have hnm := (name_of_methodNamed Bd.named Bd.method).1
  have X0 : Stand p l e ({ frames := 0, cells := 0, slots := 0, locals := 0 } : Room) s m #[(.ref uT)] below meth c s₁ [] 0 0 := Stand.of_body Bd
  have e0 : s₁.heap = h0 := by rw [← hh, Bd.state]; rfl
  have N0 := Fr.nil n0
  have pre0 : ∀ t, Steps p.tables e below (s₁.setTop (mkF m 0 #[.val (.ref uT)] [])) t → Steps p.tables e below (s₁.setTop (entryFrame m #[(.ref uT)] 1)) t := fun t k => castTop (own_ef_1 m uT) k
  obtain ⟨T24, X24, e24, st24⟩ := getS2 X0 hx hZ hown (host := "") (Or.inl (hw _ (List.mem_of_getElem? (i := 5) rfl))) Via.refl e0 SuF (g := (mkF m 1 #[.val (.ref uT)] [(.ref uT)])) rfl (hb hby own_d_m3_1)
  obtain ⟨T25, X25, e25, st25⟩ := getS2 X24 hx hZ hown (host := "") (Or.inl (hw _ (List.mem_of_getElem? (i := 23) rfl))) Via.refl e24 SuU (g := (mkF m 10 #[.val (.ref uT)] [(.ref uT)])) rfl (hb hby own_d_m3_10)
  obtain ⟨T26, X26, e26, st26⟩ := getS2 X25 hx hZ hown (host := "") (Or.inl (hw _ (List.mem_of_getElem? (i := 21) rfl))) Via.refl e25 SuT (g := (mkF m 19 #[.val (.ref uT)] [(.ref uT)])) rfl (hb hby own_d_m3_19)
  obtain ⟨fs, hr, hrun, hended, hW, hsame⟩ := X26.leave (v := some (.int (2 : Int32))) (fun h => by rw [Bd.returns] at h; cases h)
  refine ⟨_, _, pre0 _ ?_, hrun, hended, _, _, rfl, ?_, ⟨_, rfl⟩, hW, hsame.mono (by decide) (by decide)⟩
  · show Steps p.tables e below (s₁.setTop (mkF m 0 #[.val (.ref uT)] [])) _
    refine XS.aloadN X0.here hx rfl (hb hby own_d_m3_0) rfl rfl ?_
    show Steps p.tables e below (s₁.setTop (mkF m 1 #[.val (.ref uT)] [(.ref uT)])) _
    refine st24 _ ?_
    show Steps p.tables e below (T24.setTop (mkF m 4 #[.val (.ref uT)] [(.ref uF), (.ref uT)])) _
    refine Jvm.RoadKit.acmp (g := (mkF m 4 #[.val (.ref uT)] [(.ref uF), (.ref uT)])) X24 hx rfl rfl rfl (pc0 := 4) (pc' := 9) (same := false) rfl (hb hby own_d_m3_4) rfl (decide_eq_false fun q => (Ne.symm nFT) (Value.ref.inj q)) (by decide) (by decide) ?_
    show Steps p.tables e below (T24.setTop (mkF m 9 #[.val (.ref uT)] [])) _
    refine XS.aloadN X24.here hx rfl (hb hby own_d_m3_9) rfl rfl ?_
    show Steps p.tables e below (T24.setTop (mkF m 10 #[.val (.ref uT)] [(.ref uT)])) _
    refine st25 _ ?_
    show Steps p.tables e below (T25.setTop (mkF m 13 #[.val (.ref uT)] [(.ref uU), (.ref uT)])) _
    refine Jvm.RoadKit.acmp (g := (mkF m 13 #[.val (.ref uT)] [(.ref uU), (.ref uT)])) X25 hx rfl rfl rfl (pc0 := 13) (pc' := 18) (same := false) rfl (hb hby own_d_m3_13) rfl (decide_eq_false fun q => (Ne.symm nUT) (Value.ref.inj q)) (by decide) (by decide) ?_
    show Steps p.tables e below (T25.setTop (mkF m 18 #[.val (.ref uT)] [])) _
    refine XS.aloadN X25.here hx rfl (hb hby own_d_m3_18) rfl rfl ?_
    show Steps p.tables e below (T25.setTop (mkF m 19 #[.val (.ref uT)] [(.ref uT)])) _
    refine st26 _ ?_
    show Steps p.tables e below (T26.setTop (mkF m 22 #[.val (.ref uT)] [(.ref uT), (.ref uT)])) _
    refine Jvm.RoadKit.acmp (g := (mkF m 22 #[.val (.ref uT)] [(.ref uT), (.ref uT)])) X26 hx rfl rfl rfl (pc0 := 22) (pc' := 25) (same := true) rfl (hb hby own_d_m3_22) rfl (decide_eq_true rfl) (by decide) (by decide) ?_
    show Steps p.tables e below (T26.setTop (mkF m 25 #[.val (.ref uT)] [])) _
    refine XS.iconst X26.here hx rfl (hb hby own_d_m3_25) ?_
    show Steps p.tables e below (T26.setTop (mkF m 26 #[.val (.ref uT)] [(.int (2 : Int32))])) _
    exact retI X26 hx Bd.returns (hb hby own_d_m3_26) hr
  · show (QP (some (.int (2 : Int32))) h0 n0) _ T26.heap _
    rw [e26]
    exact ⟨rfl, N0, rfl⟩
set_option maxRecDepth 65536 in
set_option maxHeartbeats 40000000 in
theorem own_and_20 (l : Launch) (Z : State) (a0 : Array Value) (hw : ∀ d ∈ tables_1, d.before a0 Z = true)  (uF : Addr) (uU : Addr) (uT : Addr) (h0 : Heap) (n0 : Nat) (Z0 : n0 ≤ h0.size) (SuF : Sta Z h0 "com/example/boolgrove/boolgrove/Truth" "FALSE" "Lcom/example/boolgrove/boolgrove/Truth;" (.ref uF)) (SuU : Sta Z h0 "com/example/boolgrove/boolgrove/Truth" "UNDEFINED" "Lcom/example/boolgrove/boolgrove/Truth;" (.ref uU)) (SuT : Sta Z h0 "com/example/boolgrove/boolgrove/Truth" "TRUE" "Lcom/example/boolgrove/boolgrove/Truth;" (.ref uT)) (nFU : uF ≠ uU) (nFT : uF ≠ uT) (nUT : uU ≠ uT) :
    Met l Z [] (⟨"com/example/boolgrove/boolgrove/Truth", "and", "(Lcom/example/boolgrove/boolgrove/Truth;)Lcom/example/boolgrove/boolgrove/Truth;"⟩ : MethodName) prog_49_method_6_code 2 (some (.object "com/example/boolgrove/boolgrove/Truth")) ({ frames := 0, cells := 0, slots := 0, locals := 0 } : Room) #[(.ref uT), (.ref uF)] h0 (QP (some (.ref uF)) h0 n0) := by
  refine MetFree.of_bodySF (plainFor_of_name own_pn_1) hisR ?_
  intro p e s m args below meth c s₁ Bd hml0 hP hK
  obtain ⟨rfl, hZ, hh⟩ := hP
  have hx := Bd.exec
  have hby := Bd.bytes
  have hml : c.maxLocals = 2 := hml0
  have hown : s.vm.findClass "com/example/boolgrove/boolgrove/Truth" = some m.cls := findClass_of_methodNamed Bd.named
  have hnm := (name_of_methodNamed Bd.named Bd.method).1
  have X0 : Stand p l e ({ frames := 0, cells := 0, slots := 0, locals := 0 } : Room) s m #[(.ref uT), (.ref uF)] below meth c s₁ [] 0 0 := Stand.of_body Bd
  have e0 : s₁.heap = h0 := by rw [← hh, Bd.state]; rfl
  have N0 := Fr.nil n0
  have pre0 : ∀ t, Steps p.tables e below (s₁.setTop (mkF m 0 #[.val (.ref uT), .val (.ref uF)] [])) t → Steps p.tables e below (s₁.setTop (entryFrame m #[(.ref uT), (.ref uF)] 2)) t := fun t k => castTop (own_ef_2 m uT uF) k
  obtain ⟨T27, X27, e27, st27⟩ := getS2 X0 hx hZ hown (host := "") (Or.inl (hw _ (List.mem_of_getElem? (i := 13) rfl))) Via.refl e0 SuF (g := (mkF m 1 #[.val (.ref uT), .val (.ref uF)] [(.ref uT)])) rfl (hb hby own_d_prog_49_m6_1)
  obtain ⟨T28, X28, e28, st28⟩ := getS2 X27 hx hZ hown (host := "") (Or.inl (hw _ (List.mem_of_getElem? (i := 13) rfl))) Via.refl e27 SuF (g := (mkF m 8 #[.val (.ref uT), .val (.ref uF)] [(.ref uF)])) rfl (hb hby own_d_prog_49_m6_8)
  obtain ⟨T29, X29, e29, st29⟩ := getS2 X28 hx hZ hown (host := "") (Or.inl (hw _ (List.mem_of_getElem? (i := 13) rfl))) Via.refl e28 SuF (g := (mkF m 14 #[.val (.ref uT), .val (.ref uF)] [])) rfl (hb hby own_d_prog_49_m6_14)
  obtain ⟨fs, hr, hrun, hended, hW, hsame⟩ := X29.leave (v := some (.ref uF)) (fun h => by rw [Bd.returns] at h; cases h)
  refine ⟨_, _, pre0 _ ?_, hrun, hended, _, _, rfl, ?_, ⟨_, rfl⟩, hW, hsame.mono (by decide) (by decide)⟩
  · show Steps p.tables e below (s₁.setTop (mkF m 0 #[.val (.ref uT), .val (.ref uF)] [])) _
    refine XS.aloadN X0.here hx rfl (hb hby own_d_prog_49_m6_0) rfl rfl ?_
    show Steps p.tables e below (s₁.setTop (mkF m 1 #[.val (.ref uT), .val (.ref uF)] [(.ref uT)])) _
    refine st27 _ ?_
    show Steps p.tables e below (T27.setTop (mkF m 4 #[.val (.ref uT), .val (.ref uF)] [(.ref uF), (.ref uT)])) _
    refine Jvm.RoadKit.acmp (g := (mkF m 4 #[.val (.ref uT), .val (.ref uF)] [(.ref uF), (.ref uT)])) X27 hx rfl rfl rfl (pc0 := 4) (pc' := 7) (same := false) rfl (hb hby own_d_prog_49_m6_4) rfl (decide_eq_false fun q => (Ne.symm nFT) (Value.ref.inj q)) (by decide) (by decide) ?_
    show Steps p.tables e below (T27.setTop (mkF m 7 #[.val (.ref uT), .val (.ref uF)] [])) _
    refine XS.aloadN X27.here hx rfl (hb hby own_d_prog_49_m6_7) rfl rfl ?_
    show Steps p.tables e below (T27.setTop (mkF m 8 #[.val (.ref uT), .val (.ref uF)] [(.ref uF)])) _
    refine st28 _ ?_
    show Steps p.tables e below (T28.setTop (mkF m 11 #[.val (.ref uT), .val (.ref uF)] [(.ref uF), (.ref uF)])) _
    refine Jvm.RoadKit.acmp (g := (mkF m 11 #[.val (.ref uT), .val (.ref uF)] [(.ref uF), (.ref uF)])) X28 hx rfl rfl rfl (pc0 := 11) (pc' := 14) (same := true) rfl (hb hby own_d_prog_49_m6_11) rfl (decide_eq_true rfl) (by decide) (by decide) ?_
    show Steps p.tables e below (T28.setTop (mkF m 14 #[.val (.ref uT), .val (.ref uF)] [])) _
    refine st29 _ ?_
    show Steps p.tables e below (T29.setTop (mkF m 17 #[.val (.ref uT), .val (.ref uF)] [(.ref uF)])) _
    jvm_step X29.here [X29.here.top, hx, (hb hby own_d_prog_49_m6_17), X29.method', Bd.returns, Value.isRef, FieldType.isReference]
    first | (intro acts; rw [hr _ acts rfl rfl rfl]) | rw [hr _ _ rfl rfl rfl]
    exact Steps.refl _
  · show (QP (some (.ref uF)) h0 n0) _ T29.heap _
    rw [e29]
    exact ⟨rfl, N0, rfl⟩
theorem own_d_prog_49_m6_25 : decode prog_49_method_6_code 25 = .ok (.aload_n 1, 1) := by decide +kernel
theorem own_d_prog_49_m6_26 : decode prog_49_method_6_code 26 = .ok (.getstatic 10, 3) := by decide +kernel
theorem own_d_prog_49_m6_29 : decode prog_49_method_6_code 29 = .ok (.if_acmp .ne 9, 3) := by decide +kernel
set_option maxRecDepth 65536 in
set_option maxHeartbeats 40000000 in
theorem own_and_21 (l : Launch) (Z : State) (a0 : Array Value) (hw : ∀ d ∈ tables_1, d.before a0 Z = true)  (uF : Addr) (uU : Addr) (uT : Addr) (h0 : Heap) (n0 : Nat) (Z0 : n0 ≤ h0.size) (SuF : Sta Z h0 "com/example/boolgrove/boolgrove/Truth" "FALSE" "Lcom/example/boolgrove/boolgrove/Truth;" (.ref uF)) (SuU : Sta Z h0 "com/example/boolgrove/boolgrove/Truth" "UNDEFINED" "Lcom/example/boolgrove/boolgrove/Truth;" (.ref uU)) (SuT : Sta Z h0 "com/example/boolgrove/boolgrove/Truth" "TRUE" "Lcom/example/boolgrove/boolgrove/Truth;" (.ref uT)) (nFU : uF ≠ uU) (nFT : uF ≠ uT) (nUT : uU ≠ uT) :
    Met l Z [] (⟨"com/example/boolgrove/boolgrove/Truth", "and", "(Lcom/example/boolgrove/boolgrove/Truth;)Lcom/example/boolgrove/boolgrove/Truth;"⟩ : MethodName) prog_49_method_6_code 2 (some (.object "com/example/boolgrove/boolgrove/Truth")) ({ frames := 0, cells := 0, slots := 0, locals := 0 } : Room) #[(.ref uT), (.ref uU)] h0 (QP (some (.ref uU)) h0 n0) := by
  refine MetFree.of_bodySF (plainFor_of_name own_pn_1) hisR ?_
  intro p e s m args below meth c s₁ Bd hml0 hP hK
  obtain ⟨rfl, hZ, hh⟩ := hP
  have hx := Bd.exec
  have hby := Bd.bytes
  have hml : c.maxLocals = 2 := hml0
  have hown : s.vm.findClass "com/example/boolgrove/boolgrove/Truth" = some m.cls := findClass_of_methodNamed Bd.named
  have hnm := (name_of_methodNamed Bd.named Bd.method).1
  have X0 : Stand p l e ({ frames := 0, cells := 0, slots := 0, locals := 0 } : Room) s m #[(.ref uT), (.ref uU)] below meth c s₁ [] 0 0 := Stand.of_body Bd
  have e0 : s₁.heap = h0 := by rw [← hh, Bd.state]; rfl
  have N0 := Fr.nil n0
  have pre0 : ∀ t, Steps p.tables e below (s₁.setTop (mkF m 0 #[.val (.ref uT), .val (.ref uU)] [])) t → Steps p.tables e below (s₁.setTop (entryFrame m #[(.ref uT), (.ref uU)] 2)) t := fun t k => castTop (own_ef_2 m uT uU) k
  obtain ⟨T30, X30, e30, st30⟩ := getS2 X0 hx hZ hown (host := "") (Or.inl (hw _ (List.mem_of_getElem? (i := 13) rfl))) Via.refl e0 SuF (g := (mkF m 1 #[.val (.ref uT), .val (.ref uU)] [(.ref uT)])) rfl (hb hby own_d_prog_49_m6_1)
  obtain ⟨T31, X31, e31, st31⟩ := getS2 X30 hx hZ hown (host := "") (Or.inl (hw _ (List.mem_of_getElem? (i := 13) rfl))) Via.refl e30 SuF (g := (mkF m 8 #[.val (.ref uT), .val (.ref uU)] [(.ref uU)])) rfl (hb hby own_d_prog_49_m6_8)
  obtain ⟨T32, X32, e32, st32⟩ := getS2 X31 hx hZ hown (host := "") (Or.inl (hw _ (List.mem_of_getElem? (i := 25) rfl))) Via.refl e31 SuU (g := (mkF m 19 #[.val (.ref uT), .val (.ref uU)] [(.ref uT)])) rfl (hb hby own_d_prog_49_m6_19)
  obtain ⟨T33, X33, e33, st33⟩ := getS2 X32 hx hZ hown (host := "") (Or.inl (hw _ (List.mem_of_getElem? (i := 25) rfl))) Via.refl e32 SuU (g := (mkF m 26 #[.val (.ref uT), .val (.ref uU)] [(.ref uU)])) rfl (hb hby own_d_prog_49_m6_26)
  obtain ⟨T34, X34, e34, st34⟩ := getS2 X33 hx hZ hown (host := "") (Or.inl (hw _ (List.mem_of_getElem? (i := 25) rfl))) Via.refl e33 SuU (g := (mkF m 32 #[.val (.ref uT), .val (.ref uU)] [])) rfl (hb hby own_d_prog_49_m6_32)
  obtain ⟨fs, hr, hrun, hended, hW, hsame⟩ := X34.leave (v := some (.ref uU)) (fun h => by rw [Bd.returns] at h; cases h)
  refine ⟨_, _, pre0 _ ?_, hrun, hended, _, _, rfl, ?_, ⟨_, rfl⟩, hW, hsame.mono (by decide) (by decide)⟩
  · show Steps p.tables e below (s₁.setTop (mkF m 0 #[.val (.ref uT), .val (.ref uU)] [])) _
    refine XS.aloadN X0.here hx rfl (hb hby own_d_prog_49_m6_0) rfl rfl ?_
    show Steps p.tables e below (s₁.setTop (mkF m 1 #[.val (.ref uT), .val (.ref uU)] [(.ref uT)])) _
    refine st30 _ ?_
    show Steps p.tables e below (T30.setTop (mkF m 4 #[.val (.ref uT), .val (.ref uU)] [(.ref uF), (.ref uT)])) _
    refine Jvm.RoadKit.acmp (g := (mkF m 4 #[.val (.ref uT), .val (.ref uU)] [(.ref uF), (.ref uT)])) X30 hx rfl rfl rfl (pc0 := 4) (pc' := 7) (same := false) rfl (hb hby own_d_prog_49_m6_4) rfl (decide_eq_false fun q => (Ne.symm nFT) (Value.ref.inj q)) (by decide) (by decide) ?_
    show Steps p.tables e below (T30.setTop (mkF m 7 #[.val (.ref uT), .val (.ref uU)] [])) _
    refine XS.aloadN X30.here hx rfl (hb hby own_d_prog_49_m6_7) rfl rfl ?_
    show Steps p.tables e below (T30.setTop (mkF m 8 #[.val (.ref uT), .val (.ref uU)] [(.ref uU)])) _
    refine st31 _ ?_
    show Steps p.tables e below (T31.setTop (mkF m 11 #[.val (.ref uT), .val (.ref uU)] [(.ref uF), (.ref uU)])) _
    refine Jvm.RoadKit.acmp (g := (mkF m 11 #[.val (.ref uT), .val (.ref uU)] [(.ref uF), (.ref uU)])) X31 hx rfl rfl rfl (pc0 := 11) (pc' := 18) (same := false) rfl (hb hby own_d_prog_49_m6_11) rfl (decide_eq_false fun q => (Ne.symm nFU) (Value.ref.inj q)) (by decide) (by decide) ?_
    show Steps p.tables e below (T31.setTop (mkF m 18 #[.val (.ref uT), .val (.ref uU)] [])) _
    refine XS.aloadN X31.here hx rfl (hb hby own_d_prog_49_m6_18) rfl rfl ?_
    show Steps p.tables e below (T31.setTop (mkF m 19 #[.val (.ref uT), .val (.ref uU)] [(.ref uT)])) _
    refine st32 _ ?_
    show Steps p.tables e below (T32.setTop (mkF m 22 #[.val (.ref uT), .val (.ref uU)] [(.ref uU), (.ref uT)])) _
    refine Jvm.RoadKit.acmp (g := (mkF m 22 #[.val (.ref uT), .val (.ref uU)] [(.ref uU), (.ref uT)])) X32 hx rfl rfl rfl (pc0 := 22) (pc' := 25) (same := false) rfl (hb hby own_d_prog_49_m6_22) rfl (decide_eq_false fun q => (Ne.symm nUT) (Value.ref.inj q)) (by decide) (by decide) ?_
    show Steps p.tables e below (T32.setTop (mkF m 25 #[.val (.ref uT), .val (.ref uU)] [])) _
    refine XS.aloadN X32.here hx rfl (hb hby own_d_prog_49_m6_25) rfl rfl ?_
    show Steps p.tables e below (T32.setTop (mkF m 26 #[.val (.ref uT), .val (.ref uU)] [(.ref uU)])) _
    refine st33 _ ?_
    show Steps p.tables e below (T33.setTop (mkF m 29 #[.val (.ref uT), .val (.ref uU)] [(.ref uU), (.ref uU)])) _
    refine Jvm.RoadKit.acmp (g := (mkF m 29 #[.val (.ref uT), .val (.ref uU)] [(.ref uU), (.ref uU)])) X33 hx rfl rfl rfl (pc0 := 29) (pc' := 32) (same := true) rfl (hb hby own_d_prog_49_m6_29) rfl (decide_eq_true rfl) (by decide) (by decide) ?_
    show Steps p.tables e below (T33.setTop (mkF m 32 #[.val (.ref uT), .val (.ref uU)] [])) _
    refine st34 _ ?_
    show Steps p.tables e below (T34.setTop (mkF m 35 #[.val (.ref uT), .val (.ref uU)] [(.ref uU)])) _
    refine XS.goto X34.here hx rfl (pc0 := 35) (pc' := 41) rfl (hb hby own_d_prog_49_m6_35) (by decide) (by decide) ?_
    show Steps p.tables e below (T34.setTop (mkF m 41 #[.val (.ref uT), .val (.ref uU)] [(.ref uU)])) _
    jvm_step X34.here [X34.here.top, hx, (hb hby own_d_prog_49_m6_41), X34.method', Bd.returns, Value.isRef, FieldType.isReference]
    first | (intro acts; rw [hr _ acts rfl rfl rfl]) | rw [hr _ _ rfl rfl rfl]
    exact Steps.refl _
  · show (QP (some (.ref uU)) h0 n0) _ T34.heap _
    rw [e34]
    exact ⟨rfl, N0, rfl⟩
theorem own_d_prog_49_m6_38 : decode prog_49_method_6_code 38 = .ok (.getstatic 3, 3) := by decide +kernel
set_option maxRecDepth 65536 in
set_option maxHeartbeats 40000000 in
theorem own_and_22 (l : Launch) (Z : State) (a0 : Array Value) (hw : ∀ d ∈ tables_1, d.before a0 Z = true)  (uF : Addr) (uU : Addr) (uT : Addr) (h0 : Heap) (n0 : Nat) (Z0 : n0 ≤ h0.size) (SuF : Sta Z h0 "com/example/boolgrove/boolgrove/Truth" "FALSE" "Lcom/example/boolgrove/boolgrove/Truth;" (.ref uF)) (SuU : Sta Z h0 "com/example/boolgrove/boolgrove/Truth" "UNDEFINED" "Lcom/example/boolgrove/boolgrove/Truth;" (.ref uU)) (SuT : Sta Z h0 "com/example/boolgrove/boolgrove/Truth" "TRUE" "Lcom/example/boolgrove/boolgrove/Truth;" (.ref uT)) (nFU : uF ≠ uU) (nFT : uF ≠ uT) (nUT : uU ≠ uT) :
    Met l Z [] (⟨"com/example/boolgrove/boolgrove/Truth", "and", "(Lcom/example/boolgrove/boolgrove/Truth;)Lcom/example/boolgrove/boolgrove/Truth;"⟩ : MethodName) prog_49_method_6_code 2 (some (.object "com/example/boolgrove/boolgrove/Truth")) ({ frames := 0, cells := 0, slots := 0, locals := 0 } : Room) #[(.ref uT), (.ref uT)] h0 (QP (some (.ref uT)) h0 n0) := by
  refine MetFree.of_bodySF (plainFor_of_name own_pn_1) hisR ?_
  intro p e s m args below meth c s₁ Bd hml0 hP hK
  obtain ⟨rfl, hZ, hh⟩ := hP
  have hx := Bd.exec
  have hby := Bd.bytes
  have hml : c.maxLocals = 2 := hml0
  have hown : s.vm.findClass "com/example/boolgrove/boolgrove/Truth" = some m.cls := findClass_of_methodNamed Bd.named
  have hnm := (name_of_methodNamed Bd.named Bd.method).1
  have X0 : Stand p l e ({ frames := 0, cells := 0, slots := 0, locals := 0 } : Room) s m #[(.ref uT), (.ref uT)] below meth c s₁ [] 0 0 := Stand.of_body Bd
  have e0 : s₁.heap = h0 := by rw [← hh, Bd.state]; rfl
  have N0 := Fr.nil n0
  have pre0 : ∀ t, Steps p.tables e below (s₁.setTop (mkF m 0 #[.val (.ref uT), .val (.ref uT)] [])) t → Steps p.tables e below (s₁.setTop (entryFrame m #[(.ref uT), (.ref uT)] 2)) t := fun t k => castTop (own_ef_2 m uT uT) k
  obtain ⟨T35, X35, e35, st35⟩ := getS2 X0 hx hZ hown (host := "") (Or.inl (hw _ (List.mem_of_getElem? (i := 13) rfl))) Via.refl e0 SuF (g := (mkF m 1 #[.val (.ref uT), .val (.ref uT)] [(.ref uT)])) rfl (hb hby own_d_prog_49_m6_1)
  obtain ⟨T36, X36, e36, st36⟩ := getS2 X35 hx hZ hown (host := "") (Or.inl (hw _ (List.mem_of_getElem? (i := 13) rfl))) Via.refl e35 SuF (g := (mkF m 8 #[.val (.ref uT), .val (.ref uT)] [(.ref uT)])) rfl (hb hby own_d_prog_49_m6_8)
  obtain ⟨T37, X37, e37, st37⟩ := getS2 X36 hx hZ hown (host := "") (Or.inl (hw _ (List.mem_of_getElem? (i := 25) rfl))) Via.refl e36 SuU (g := (mkF m 19 #[.val (.ref uT), .val (.ref uT)] [(.ref uT)])) rfl (hb hby own_d_prog_49_m6_19)
  obtain ⟨T38, X38, e38, st38⟩ := getS2 X37 hx hZ hown (host := "") (Or.inl (hw _ (List.mem_of_getElem? (i := 25) rfl))) Via.refl e37 SuU (g := (mkF m 26 #[.val (.ref uT), .val (.ref uT)] [(.ref uT)])) rfl (hb hby own_d_prog_49_m6_26)
  obtain ⟨T39, X39, e39, st39⟩ := getS2 X38 hx hZ hown (host := "") (Or.inl (hw _ (List.mem_of_getElem? (i := 26) rfl))) Via.refl e38 SuT (g := (mkF m 38 #[.val (.ref uT), .val (.ref uT)] [])) rfl (hb hby own_d_prog_49_m6_38)
  obtain ⟨fs, hr, hrun, hended, hW, hsame⟩ := X39.leave (v := some (.ref uT)) (fun h => by rw [Bd.returns] at h; cases h)
  refine ⟨_, _, pre0 _ ?_, hrun, hended, _, _, rfl, ?_, ⟨_, rfl⟩, hW, hsame.mono (by decide) (by decide)⟩
  · show Steps p.tables e below (s₁.setTop (mkF m 0 #[.val (.ref uT), .val (.ref uT)] [])) _
    refine XS.aloadN X0.here hx rfl (hb hby own_d_prog_49_m6_0) rfl rfl ?_
    show Steps p.tables e below (s₁.setTop (mkF m 1 #[.val (.ref uT), .val (.ref uT)] [(.ref uT)])) _
    refine st35 _ ?_
    show Steps p.tables e below (T35.setTop (mkF m 4 #[.val (.ref uT), .val (.ref uT)] [(.ref uF), (.ref uT)])) _
    refine Jvm.RoadKit.acmp (g := (mkF m 4 #[.val (.ref uT), .val (.ref uT)] [(.ref uF), (.ref uT)])) X35 hx rfl rfl rfl (pc0 := 4) (pc' := 7) (same := false) rfl (hb hby own_d_prog_49_m6_4) rfl (decide_eq_false fun q => (Ne.symm nFT) (Value.ref.inj q)) (by decide) (by decide) ?_
    show Steps p.tables e below (T35.setTop (mkF m 7 #[.val (.ref uT), .val (.ref uT)] [])) _
    refine XS.aloadN X35.here hx rfl (hb hby own_d_prog_49_m6_7) rfl rfl ?_
    show Steps p.tables e below (T35.setTop (mkF m 8 #[.val (.ref uT), .val (.ref uT)] [(.ref uT)])) _
    refine st36 _ ?_
    show Steps p.tables e below (T36.setTop (mkF m 11 #[.val (.ref uT), .val (.ref uT)] [(.ref uF), (.ref uT)])) _
    refine Jvm.RoadKit.acmp (g := (mkF m 11 #[.val (.ref uT), .val (.ref uT)] [(.ref uF), (.ref uT)])) X36 hx rfl rfl rfl (pc0 := 11) (pc' := 18) (same := false) rfl (hb hby own_d_prog_49_m6_11) rfl (decide_eq_false fun q => (Ne.symm nFT) (Value.ref.inj q)) (by decide) (by decide) ?_
    show Steps p.tables e below (T36.setTop (mkF m 18 #[.val (.ref uT), .val (.ref uT)] [])) _
    refine XS.aloadN X36.here hx rfl (hb hby own_d_prog_49_m6_18) rfl rfl ?_
    show Steps p.tables e below (T36.setTop (mkF m 19 #[.val (.ref uT), .val (.ref uT)] [(.ref uT)])) _
    refine st37 _ ?_
    show Steps p.tables e below (T37.setTop (mkF m 22 #[.val (.ref uT), .val (.ref uT)] [(.ref uU), (.ref uT)])) _
    refine Jvm.RoadKit.acmp (g := (mkF m 22 #[.val (.ref uT), .val (.ref uT)] [(.ref uU), (.ref uT)])) X37 hx rfl rfl rfl (pc0 := 22) (pc' := 25) (same := false) rfl (hb hby own_d_prog_49_m6_22) rfl (decide_eq_false fun q => (Ne.symm nUT) (Value.ref.inj q)) (by decide) (by decide) ?_
    show Steps p.tables e below (T37.setTop (mkF m 25 #[.val (.ref uT), .val (.ref uT)] [])) _
    refine XS.aloadN X37.here hx rfl (hb hby own_d_prog_49_m6_25) rfl rfl ?_
    show Steps p.tables e below (T37.setTop (mkF m 26 #[.val (.ref uT), .val (.ref uT)] [(.ref uT)])) _
    refine st38 _ ?_
    show Steps p.tables e below (T38.setTop (mkF m 29 #[.val (.ref uT), .val (.ref uT)] [(.ref uU), (.ref uT)])) _
    refine Jvm.RoadKit.acmp (g := (mkF m 29 #[.val (.ref uT), .val (.ref uT)] [(.ref uU), (.ref uT)])) X38 hx rfl rfl rfl (pc0 := 29) (pc' := 38) (same := false) rfl (hb hby own_d_prog_49_m6_29) rfl (decide_eq_false fun q => (Ne.symm nUT) (Value.ref.inj q)) (by decide) (by decide) ?_
    show Steps p.tables e below (T38.setTop (mkF m 38 #[.val (.ref uT), .val (.ref uT)] [])) _
    refine st39 _ ?_
    show Steps p.tables e below (T39.setTop (mkF m 41 #[.val (.ref uT), .val (.ref uT)] [(.ref uT)])) _
    jvm_step X39.here [X39.here.top, hx, (hb hby own_d_prog_49_m6_41), X39.method', Bd.returns, Value.isRef, FieldType.isReference]
    first | (intro acts; rw [hr _ acts rfl rfl rfl]) | rw [hr _ _ rfl rfl rfl]
    exact Steps.refl _
  · show (QP (some (.ref uT)) h0 n0) _ T39.heap _
    rw [e39]
    exact ⟨rfl, N0, rfl⟩
theorem own_d_jdk_29_m69_0 : decode jdk_29_method_69_code 0 = .ok (.iload_n 0, 1) := by decide +kernel
theorem own_d_jdk_29_m69_1 : decode jdk_29_method_69_code 1 = .ok (.iload_n 1, 1) := by decide +kernel
theorem own_d_jdk_29_m69_2 : decode jdk_29_method_69_code 2 = .ok (.if_icmp .gt 7, 3) := by decide +kernel
theorem own_d_jdk_29_m69_5 : decode jdk_29_method_69_code 5 = .ok (.iload_n 0, 1) := by decide +kernel
theorem own_d_jdk_29_m69_6 : decode jdk_29_method_69_code 6 = .ok (.goto 4, 3) := by decide +kernel
theorem own_d_jdk_29_m69_10 : decode jdk_29_method_69_code 10 = .ok (.ireturn, 1) := by decide +kernel
theorem own_ef_3 (m : MethodId) (x0 : Int32) (x1 : Int32) : entryFrame m #[(.int x0), (.int x1)] 2 = mkF m 0 #[.val (.int x0), .val (.int x1)] [] := by first | (simp [entryFrame, mkF, argsToLocals, Value.category]; done) | rfl
set_option maxRecDepth 65536 in
set_option maxHeartbeats 40000000 in
theorem own_min_l (l : Launch) (Z : State) (a0 : Array Value) (hw : ∀ d ∈ tables_1, d.before a0 Z = true) (x : Int32) (y : Int32)  (h0 : Heap) (n0 : Nat) (Z0 : n0 ≤ h0.size) (hc2 : ¬ (y < x)) :
    Met l Z [] (⟨"java/lang/Math", "min", "(II)I"⟩ : MethodName) jdk_29_method_69_code 2 (some .int) ({ frames := 0, cells := 0, slots := 0, locals := 0 } : Room) #[(.int x), (.int y)] h0 (QP (some (.int x)) h0 n0) := by
  refine MetFree.of_bodySF (Jvm.Free.JP.mathPlain rfl (by decide +kernel)) hisR ?_
  intro p e s m args below meth c s₁ Bd hml0 hP hK
  obtain ⟨rfl, hZ, hh⟩ := hP
  have hx := Bd.exec
  have hby := Bd.bytes
  have hml : c.maxLocals = 2 := hml0
  have hown : s.vm.findClass "java/lang/Math" = some m.cls := findClass_of_methodNamed Bd.named
  have hnm := (name_of_methodNamed Bd.named Bd.method).1
  have X0 : Stand p l e ({ frames := 0, cells := 0, slots := 0, locals := 0 } : Room) s m #[(.int x), (.int y)] below meth c s₁ [] 0 0 := Stand.of_body Bd
  have e0 : s₁.heap = h0 := by rw [← hh, Bd.state]; rfl
  have N0 := Fr.nil n0
  have pre0 : ∀ t, Steps p.tables e below (s₁.setTop (mkF m 0 #[.val (.int x), .val (.int y)] [])) t → Steps p.tables e below (s₁.setTop (entryFrame m #[(.int x), (.int y)] 2)) t := fun t k => castTop (own_ef_3 m x y) k
  obtain ⟨fs, hr, hrun, hended, hW, hsame⟩ := X0.leave (v := some (.int x)) (fun h => by rw [Bd.returns] at h; cases h)
  refine ⟨_, _, pre0 _ ?_, hrun, hended, _, _, rfl, ?_, ⟨_, rfl⟩, hW, hsame.mono (by decide) (by decide)⟩
  · show Steps p.tables e below (s₁.setTop (mkF m 0 #[.val (.int x), .val (.int y)] [])) _
    refine XS.iloadN X0.here hx rfl (hb hby own_d_jdk_29_m69_0) rfl ?_
    show Steps p.tables e below (s₁.setTop (mkF m 1 #[.val (.int x), .val (.int y)] [(.int x)])) _
    refine XS.iloadN X0.here hx rfl (hb hby own_d_jdk_29_m69_1) rfl ?_
    show Steps p.tables e below (s₁.setTop (mkF m 2 #[.val (.int x), .val (.int y)] [(.int y), (.int x)])) _
    refine XS.icmpNo X0.here hx rfl (hb hby own_d_jdk_29_m69_2) rfl (flt hc2).2.2.1 ?_
    show Steps p.tables e below (s₁.setTop (mkF m 5 #[.val (.int x), .val (.int y)] [])) _
    refine XS.iloadN X0.here hx rfl (hb hby own_d_jdk_29_m69_5) rfl ?_
    show Steps p.tables e below (s₁.setTop (mkF m 6 #[.val (.int x), .val (.int y)] [(.int x)])) _
    refine XS.goto X0.here hx rfl (pc0 := 6) (pc' := 10) rfl (hb hby own_d_jdk_29_m69_6) (by decide) (by decide) ?_
    show Steps p.tables e below (s₁.setTop (mkF m 10 #[.val (.int x), .val (.int y)] [(.int x)])) _
    exact retI X0 hx Bd.returns (hb hby own_d_jdk_29_m69_10) hr
  · show (QP (some (.int x)) h0 n0) _ s₁.heap _
    rw [e0]
    exact ⟨rfl, N0, rfl⟩
theorem own_d_jdk_29_m69_9 : decode jdk_29_method_69_code 9 = .ok (.iload_n 1, 1) := by decide +kernel
set_option maxRecDepth 65536 in
set_option maxHeartbeats 40000000 in
theorem own_min_r (l : Launch) (Z : State) (a0 : Array Value) (hw : ∀ d ∈ tables_1, d.before a0 Z = true) (x : Int32) (y : Int32)  (h0 : Heap) (n0 : Nat) (Z0 : n0 ≤ h0.size) (hc2 : y < x) :
    Met l Z [] (⟨"java/lang/Math", "min", "(II)I"⟩ : MethodName) jdk_29_method_69_code 2 (some .int) ({ frames := 0, cells := 0, slots := 0, locals := 0 } : Room) #[(.int x), (.int y)] h0 (QP (some (.int y)) h0 n0) := by
  refine MetFree.of_bodySF (Jvm.Free.JP.mathPlain rfl (by decide +kernel)) hisR ?_
  intro p e s m args below meth c s₁ Bd hml0 hP hK
  obtain ⟨rfl, hZ, hh⟩ := hP
  have hx := Bd.exec
  have hby := Bd.bytes
  have hml : c.maxLocals = 2 := hml0
  have hown : s.vm.findClass "java/lang/Math" = some m.cls := findClass_of_methodNamed Bd.named
  have hnm := (name_of_methodNamed Bd.named Bd.method).1
  have X0 : Stand p l e ({ frames := 0, cells := 0, slots := 0, locals := 0 } : Room) s m #[(.int x), (.int y)] below meth c s₁ [] 0 0 := Stand.of_body Bd
  have e0 : s₁.heap = h0 := by rw [← hh, Bd.state]; rfl
  have N0 := Fr.nil n0
  have pre0 : ∀ t, Steps p.tables e below (s₁.setTop (mkF m 0 #[.val (.int x), .val (.int y)] [])) t → Steps p.tables e below (s₁.setTop (entryFrame m #[(.int x), (.int y)] 2)) t := fun t k => castTop (own_ef_3 m x y) k
  obtain ⟨fs, hr, hrun, hended, hW, hsame⟩ := X0.leave (v := some (.int y)) (fun h => by rw [Bd.returns] at h; cases h)
  refine ⟨_, _, pre0 _ ?_, hrun, hended, _, _, rfl, ?_, ⟨_, rfl⟩, hW, hsame.mono (by decide) (by decide)⟩
  · show Steps p.tables e below (s₁.setTop (mkF m 0 #[.val (.int x), .val (.int y)] [])) _
    refine XS.iloadN X0.here hx rfl (hb hby own_d_jdk_29_m69_0) rfl ?_
    show Steps p.tables e below (s₁.setTop (mkF m 1 #[.val (.int x), .val (.int y)] [(.int x)])) _
    refine XS.iloadN X0.here hx rfl (hb hby own_d_jdk_29_m69_1) rfl ?_
    show Steps p.tables e below (s₁.setTop (mkF m 2 #[.val (.int x), .val (.int y)] [(.int y), (.int x)])) _
    refine XS.icmpYes X0.here hx rfl (pc0 := 2) (pc' := 9) rfl (hb hby own_d_jdk_29_m69_2) rfl (tlt hc2).2.2.1 (by decide) (by decide) ?_
    show Steps p.tables e below (s₁.setTop (mkF m 9 #[.val (.int x), .val (.int y)] [])) _
    refine XS.iloadN X0.here hx rfl (hb hby own_d_jdk_29_m69_9) rfl ?_
    show Steps p.tables e below (s₁.setTop (mkF m 10 #[.val (.int x), .val (.int y)] [(.int y)])) _
    exact retI X0 hx Bd.returns (hb hby own_d_jdk_29_m69_10) hr
  · show (QP (some (.int y)) h0 n0) _ s₁.heap _
    rw [e0]
    exact ⟨rfl, N0, rfl⟩
theorem own_pd_0 : parseMethodDescriptor "(I)Lcom/example/boolgrove/boolgrove/Truth;" = some ⟨[.int], some (.object "com/example/boolgrove/boolgrove/Truth")⟩ := by decide +kernel
theorem own_pd_1 : parseMethodDescriptor "(Lcom/example/boolgrove/boolgrove/Truth;)Lcom/example/boolgrove/boolgrove/Truth;" = some ⟨[(.object "com/example/boolgrove/boolgrove/Truth")], some (.object "com/example/boolgrove/boolgrove/Truth")⟩ := by decide +kernel
theorem own_pd_2 : parseMethodDescriptor "(Lcom/example/boolgrove/boolgrove/Truth;)I" = some ⟨[(.object "com/example/boolgrove/boolgrove/Truth")], some .int⟩ := by decide +kernel
theorem own_pd_3 : parseMethodDescriptor "(II)I" = some ⟨[.int, .int], some .int⟩ := by decide +kernel
theorem own_ef_4 (m : MethodId) (x0 : Int32) (x1 : Int32) : entryFrame m #[(.int x0), (.int x1)] maxLocals = mkF m 0 #[.val (.int x0), .val (.int x1), .unset, .unset, .unset, .unset, .unset] [] := by first | (simp [entryFrame, mkF, argsToLocals, Value.category, maxLocals]; done) | rfl
set_option maxRecDepth 65536 in
set_option maxHeartbeats 40000000 in
theorem own_law (l : Launch) (Z : State) (a0 : Array Value) (hw : ∀ d ∈ tables_1, d.before a0 Z = true) (pp : Int32) (qq : Int32) (i : Int32) (j : Int32) (x1 : Addr) (x2 : Addr) (x3 : Addr) (r : Int32) (h0 : Heap) (n0 : Nat) (Z0 : n0 ≤ h0.size) (hi : (pp &&& (2147483647 : Int32)) % (3 : Int32) = i) (hj : (qq &&& (2147483647 : Int32)) % (3 : Int32) = j) (EU : Exa Z h0 x1 "com/example/boolgrove/boolgrove/Truth") (HP1 : Met l Z [] (⟨"com/example/boolgrove/boolgrove/TruthAndPinLaw", "pick", "(I)Lcom/example/boolgrove/boolgrove/Truth;"⟩ : MethodName) method_2_code 1 (some (.object "com/example/boolgrove/boolgrove/Truth")) ({ frames := 0, cells := 0, slots := 0, locals := 0 } : Room) #[(.int i)] h0 (QP (some (.ref x1)) h0 n0)) (HP2 : Met l Z [] (⟨"com/example/boolgrove/boolgrove/TruthAndPinLaw", "pick", "(I)Lcom/example/boolgrove/boolgrove/Truth;"⟩ : MethodName) method_2_code 1 (some (.object "com/example/boolgrove/boolgrove/Truth")) ({ frames := 0, cells := 0, slots := 0, locals := 0 } : Room) #[(.int j)] h0 (QP (some (.ref x2)) h0 n0)) (HA : Met l Z [] (⟨"com/example/boolgrove/boolgrove/Truth", "and", "(Lcom/example/boolgrove/boolgrove/Truth;)Lcom/example/boolgrove/boolgrove/Truth;"⟩ : MethodName) prog_49_method_6_code 2 (some (.object "com/example/boolgrove/boolgrove/Truth")) ({ frames := 0, cells := 0, slots := 0, locals := 0 } : Room) #[(.ref x1), (.ref x2)] h0 (QP (some (.ref x3)) h0 n0)) (HR : Met l Z [] (⟨"com/example/boolgrove/boolgrove/TruthAndPinLaw", "rank", "(Lcom/example/boolgrove/boolgrove/Truth;)I"⟩ : MethodName) method_3_code 1 (some .int) ({ frames := 0, cells := 0, slots := 0, locals := 0 } : Room) #[(.ref x3)] h0 (QP (some (.int r)) h0 n0)) (HM : Met l Z [] (⟨"java/lang/Math", "min", "(II)I"⟩ : MethodName) jdk_29_method_69_code 2 (some .int) ({ frames := 0, cells := 0, slots := 0, locals := 0 } : Room) #[(.int i), (.int j)] h0 (QP (some (.int r)) h0 n0)) :
    Met l Z tables_1 x code maxLocals ret room_1 #[(.int pp), (.int qq)] h0 (QP (some (.int 1)) h0 n0) := by
  refine MetFree.of_bodySF (plainFor_of_name own_pn_0) hisR ?_
  intro p e s m args below meth c s₁ Bd hml0 hP hK
  obtain ⟨rfl, hZ, hh⟩ := hP
  have hx := Bd.exec
  have hby := Bd.bytes
  have hml : c.maxLocals = 7 := hml0
  have hown : s.vm.findClass "com/example/boolgrove/boolgrove/TruthAndPinLaw" = some m.cls := findClass_of_methodNamed Bd.named
  have hnm := (name_of_methodNamed Bd.named Bd.method).1
  have X0 : Stand p l e room_1 s m #[(.int pp), (.int qq)] below meth c s₁ [] 0 0 := Stand.of_body Bd
  have e0 : s₁.heap = h0 := by rw [← hh, Bd.state]; rfl
  have N0 := Fr.nil n0
  have pre0 : ∀ t, Steps p.tables e below (s₁.setTop (mkF m 0 #[.val (.int pp), .val (.int qq), .unset, .unset, .unset, .unset, .unset] [])) t → Steps p.tables e below (s₁.setTop (entryFrame m #[(.int pp), (.int qq)] maxLocals)) t := fun t k => castTop (own_ef_4 m pp qq) k
  obtain ⟨_, _, ⟨T40, L40, k40, n40⟩, -, X40, ⟨Lc40, hQ40, l40, y40, z40⟩, st40⟩ := Jvm.LawKit.callS X0 hx (y := (⟨"com/example/boolgrove/boolgrove/TruthAndPinLaw", "pick", "(I)Lcom/example/boolgrove/boolgrove/Truth;"⟩ : MethodName)) hown (mvT hZ (hw _ (List.mem_of_getElem? (i := 1) rfl))) (mvT hZ (hw _ (List.mem_of_getElem? (i := 2) rfl))) (mvT hZ (hw _ (List.mem_of_getElem? (i := 3) rfl))) (mvT hZ (hw _ (List.mem_of_getElem? (i := 4) rfl))) (by decide) (backOf (W := 0) (HP1) hZ (hw _ (List.mem_of_getElem? (i := 4) rfl)) (hw _ (List.mem_of_getElem? (i := 3) rfl)) (by decide) (by decide)) (g := (mkF m 15 #[.val (.int pp), .val (.int qq), .val (.int i), .val (.int j), .unset, .unset, .unset] [(.int i)])) rfl (by rw [hml]; rfl) (argsL := [(.int i)]) (rest := []) (lenOf own_pd_0 rfl) rfl (by show 2 * 0 + _ ≤ _; exact Nat.le_of_eq rfl) (hb hby at_15) (fun _ _ => ⟨rfl, e0, (by decide : 0 + 0 ≤ _), (by decide : 0 + 0 ≤ _)⟩)
  dsimp only [Pt.U, Pt.locs, Pt.cells, Pt.slots] at X40 l40 y40 z40 st40 hQ40
  subst l40 y40 z40
  obtain ⟨rfl, Nq40, eh40⟩ := hQ40
  have N40 := Fr.app N0 Nq40
  have e40 : T40.heap = h0 := eh40
  obtain ⟨_, _, ⟨T41, L41, k41, n41⟩, -, X41, ⟨Lc41, hQ41, l41, y41, z41⟩, st41⟩ := Jvm.LawKit.callS X40 hx (y := (⟨"com/example/boolgrove/boolgrove/TruthAndPinLaw", "pick", "(I)Lcom/example/boolgrove/boolgrove/Truth;"⟩ : MethodName)) hown (mvT hZ (hw _ (List.mem_of_getElem? (i := 1) rfl))) (mvT hZ (hw _ (List.mem_of_getElem? (i := 2) rfl))) (mvT hZ (hw _ (List.mem_of_getElem? (i := 3) rfl))) (mvT hZ (hw _ (List.mem_of_getElem? (i := 4) rfl))) (by decide) (backOf (W := 0) (HP2) hZ (hw _ (List.mem_of_getElem? (i := 4) rfl)) (hw _ (List.mem_of_getElem? (i := 3) rfl)) (by decide) (by decide)) (g := (mkF m 21 #[.val (.int pp), .val (.int qq), .val (.int i), .val (.int j), .val (.ref x1), .unset, .unset] [(.int j)])) rfl (by rw [hml]; rfl) (argsL := [(.int j)]) (rest := []) (lenOf own_pd_0 rfl) rfl (by show 2 * 0 + _ ≤ _; exact Nat.le_of_eq rfl) (hb hby at_21) (fun _ _ => ⟨rfl, e40, (by decide : 0 + 0 ≤ _), (by decide : 0 + 0 ≤ _)⟩)
  dsimp only [Pt.U, Pt.locs, Pt.cells, Pt.slots] at X41 l41 y41 z41 st41 hQ41
  subst l41 y41 z41
  obtain ⟨rfl, Nq41, eh41⟩ := hQ41
  have N41 := Fr.app N40 Nq41
  have e41 : T41.heap = h0 := eh41
  obtain ⟨cq42, kq42, q42a, q42b, q42c⟩ := isOf hZ e41 EU
  obtain ⟨_, _, ⟨T42, L42, k42, n42⟩, -, X42, ⟨Lc42, hQ42, l42, y42, z42⟩, st42⟩ := X41.virtualBack hx (y := (⟨"com/example/boolgrove/boolgrove/Truth", "and", "(Lcom/example/boolgrove/boolgrove/Truth;)Lcom/example/boolgrove/boolgrove/Truth;"⟩ : MethodName)) (z := (⟨"com/example/boolgrove/boolgrove/Truth", "and", "(Lcom/example/boolgrove/boolgrove/Truth;)Lcom/example/boolgrove/boolgrove/Truth;"⟩ : MethodName)) hown (mvT hZ (hw _ (List.mem_of_getElem? (i := 8) rfl))) (mvT hZ (hw _ (List.mem_of_getElem? (i := 9) rfl))) (notFace_of_selects (args := #[]) (mvT hZ (hw _ (List.mem_of_getElem? (i := 11) rfl)))) (mvT hZ (hw _ (List.mem_of_getElem? (i := 11) rfl))) (mvT hZ (hw _ (List.mem_of_getElem? (i := 10) rfl))) (by decide) (backOf (W := 0) (HA) hZ (hw _ (List.mem_of_getElem? (i := 12) rfl)) (hw _ (List.mem_of_getElem? (i := 6) rfl)) (by decide) (by decide)) q42a q42c (g := (mkF m 30 #[.val (.int pp), .val (.int qq), .val (.int i), .val (.int j), .val (.ref x1), .val (.ref x2), .unset] [(.ref x2), (.ref x1)])) rfl (by rw [hml]; rfl) (Steps.refl _) (argsL := [(.ref x2)]) (rest := []) (lenOf own_pd_1 rfl) rfl (by show 2 * 0 + _ ≤ _; exact Nat.le_of_eq rfl) (hb hby at_30) (fun _ _ => ⟨rfl, e41, (by decide : 0 + 0 ≤ _), (by decide : 0 + 0 ≤ _)⟩)
  dsimp only [Pt.U, Pt.locs, Pt.cells, Pt.slots] at X42 l42 y42 z42 st42 hQ42
  subst l42 y42 z42
  obtain ⟨rfl, Nq42, eh42⟩ := hQ42
  have N42 := Fr.app N41 Nq42
  have e42 : T42.heap = h0 := eh42
  obtain ⟨_, _, ⟨T43, L43, k43, n43⟩, -, X43, ⟨Lc43, hQ43, l43, y43, z43⟩, st43⟩ := Jvm.LawKit.callS X42 hx (y := (⟨"com/example/boolgrove/boolgrove/TruthAndPinLaw", "rank", "(Lcom/example/boolgrove/boolgrove/Truth;)I"⟩ : MethodName)) hown (mvT hZ (hw _ (List.mem_of_getElem? (i := 14) rfl))) (mvT hZ (hw _ (List.mem_of_getElem? (i := 15) rfl))) (mvT hZ (hw _ (List.mem_of_getElem? (i := 3) rfl))) (mvT hZ (hw _ (List.mem_of_getElem? (i := 16) rfl))) (by decide) (backOf (W := 0) (HR) hZ (hw _ (List.mem_of_getElem? (i := 16) rfl)) (hw _ (List.mem_of_getElem? (i := 3) rfl)) (by decide) (by decide)) (g := (mkF m 37 #[.val (.int pp), .val (.int qq), .val (.int i), .val (.int j), .val (.ref x1), .val (.ref x2), .val (.ref x3)] [(.ref x3)])) rfl (by rw [hml]; rfl) (argsL := [(.ref x3)]) (rest := []) (lenOf own_pd_2 rfl) rfl (by show 2 * 0 + _ ≤ _; exact Nat.le_of_eq rfl) (hb hby at_37) (fun _ _ => ⟨rfl, e42, (by decide : 0 + 0 ≤ _), (by decide : 0 + 0 ≤ _)⟩)
  dsimp only [Pt.U, Pt.locs, Pt.cells, Pt.slots] at X43 l43 y43 z43 st43 hQ43
  subst l43 y43 z43
  obtain ⟨rfl, Nq43, eh43⟩ := hQ43
  have N43 := Fr.app N42 Nq43
  have e43 : T43.heap = h0 := eh43
  obtain ⟨_, _, ⟨T44, L44, k44, n44⟩, -, X44, ⟨Lc44, hQ44, l44, y44, z44⟩, st44⟩ := Jvm.LawKit.callS X43 hx (y := (⟨"java/lang/Math", "min", "(II)I"⟩ : MethodName)) hown (mvT hZ (hw _ (List.mem_of_getElem? (i := 17) rfl))) (mvT hZ (hw _ (List.mem_of_getElem? (i := 18) rfl))) (mvT hZ (hw _ (List.mem_of_getElem? (i := 19) rfl))) (mvT hZ (hw _ (List.mem_of_getElem? (i := 20) rfl))) (by decide) (backOf (W := 1) (HM) hZ (hw _ (List.mem_of_getElem? (i := 20) rfl)) (hw _ (List.mem_of_getElem? (i := 19) rfl)) (by decide) (by decide)) (g := (mkF m 42 #[.val (.int pp), .val (.int qq), .val (.int i), .val (.int j), .val (.ref x1), .val (.ref x2), .val (.ref x3)] [(.int j), (.int i), (.int r)])) rfl (by rw [hml]; rfl) (argsL := [(.int i), (.int j)]) (rest := [(.int r)]) (lenOf own_pd_3 rfl) rfl (by show 2 * 0 + _ ≤ _; exact Nat.le_of_eq rfl) (hb hby at_42) (fun _ _ => ⟨rfl, e43, (by decide : 0 + 0 ≤ _), (by decide : 0 + 0 ≤ _)⟩)
  dsimp only [Pt.U, Pt.locs, Pt.cells, Pt.slots] at X44 l44 y44 z44 st44 hQ44
  subst l44 y44 z44
  obtain ⟨rfl, Nq44, eh44⟩ := hQ44
  have N44 := Fr.app N43 Nq44
  have e44 : T44.heap = h0 := eh44
  obtain ⟨fs, hr, hrun, hended, hW, hsame⟩ := X44.leave (v := some (.int (1 : Int32))) (fun h => by rw [Bd.returns] at h; cases h)
  refine ⟨_, _, pre0 _ ?_, hrun, hended, _, _, rfl, ?_, ⟨_, rfl⟩, hW, hsame.mono (by decide) (by decide)⟩
  · show Steps p.tables e below (s₁.setTop (mkF m 0 #[.val (.int pp), .val (.int qq), .unset, .unset, .unset, .unset, .unset] [])) _
    refine XS.iloadN X0.here hx rfl (hb hby at_0) rfl ?_
    show Steps p.tables e below (s₁.setTop (mkF m 1 #[.val (.int pp), .val (.int qq), .unset, .unset, .unset, .unset, .unset] [(.int pp)])) _
    refine X0.ldcInt hx hown (mvT hZ (hw _ (List.mem_of_getElem? (i := 0) rfl))) (g := (mkF m 1 #[.val (.int pp), .val (.int qq), .unset, .unset, .unset, .unset, .unset] [(.int pp)])) rfl (hb hby at_1) _ ?_
    show Steps p.tables e below (s₁.setTop (mkF m 3 #[.val (.int pp), .val (.int qq), .unset, .unset, .unset, .unset, .unset] [(.int (2147483647 : Int32)), (.int pp)])) _
    refine XS.iand X0.here hx rfl (hb hby at_3) rfl ?_
    show Steps p.tables e below (s₁.setTop (mkF m 4 #[.val (.int pp), .val (.int qq), .unset, .unset, .unset, .unset, .unset] [(.int (pp &&& (2147483647 : Int32)))])) _
    refine XS.iconst X0.here hx rfl (hb hby at_4) ?_
    show Steps p.tables e below (s₁.setTop (mkF m 5 #[.val (.int pp), .val (.int qq), .unset, .unset, .unset, .unset, .unset] [(.int (3 : Int32)), (.int (pp &&& (2147483647 : Int32)))])) _
    refine iremM X0 hx rfl (hb hby at_5) rfl (by decide) ?_
    rw [hi]
    show Steps p.tables e below (s₁.setTop (mkF m 6 #[.val (.int pp), .val (.int qq), .unset, .unset, .unset, .unset, .unset] [(.int i)])) _
    refine XS.istoreN X0.here hx rfl (hb hby at_6) rfl (l' := #[.val (.int pp), .val (.int qq), .val (.int i), .unset, .unset, .unset, .unset]) rfl ?_
    show Steps p.tables e below (s₁.setTop (mkF m 7 #[.val (.int pp), .val (.int qq), .val (.int i), .unset, .unset, .unset, .unset] [])) _
    refine XS.iloadN X0.here hx rfl (hb hby at_7) rfl ?_
    show Steps p.tables e below (s₁.setTop (mkF m 8 #[.val (.int pp), .val (.int qq), .val (.int i), .unset, .unset, .unset, .unset] [(.int qq)])) _
    refine X0.ldcInt hx hown (mvT hZ (hw _ (List.mem_of_getElem? (i := 0) rfl))) (g := (mkF m 8 #[.val (.int pp), .val (.int qq), .val (.int i), .unset, .unset, .unset, .unset] [(.int qq)])) rfl (hb hby at_8) _ ?_
    show Steps p.tables e below (s₁.setTop (mkF m 10 #[.val (.int pp), .val (.int qq), .val (.int i), .unset, .unset, .unset, .unset] [(.int (2147483647 : Int32)), (.int qq)])) _
    refine XS.iand X0.here hx rfl (hb hby at_10) rfl ?_
    show Steps p.tables e below (s₁.setTop (mkF m 11 #[.val (.int pp), .val (.int qq), .val (.int i), .unset, .unset, .unset, .unset] [(.int (qq &&& (2147483647 : Int32)))])) _
    refine XS.iconst X0.here hx rfl (hb hby at_11) ?_
    show Steps p.tables e below (s₁.setTop (mkF m 12 #[.val (.int pp), .val (.int qq), .val (.int i), .unset, .unset, .unset, .unset] [(.int (3 : Int32)), (.int (qq &&& (2147483647 : Int32)))])) _
    refine iremM X0 hx rfl (hb hby at_12) rfl (by decide) ?_
    rw [hj]
    show Steps p.tables e below (s₁.setTop (mkF m 13 #[.val (.int pp), .val (.int qq), .val (.int i), .unset, .unset, .unset, .unset] [(.int j)])) _
    refine XS.istoreN X0.here hx rfl (hb hby at_13) rfl (l' := #[.val (.int pp), .val (.int qq), .val (.int i), .val (.int j), .unset, .unset, .unset]) rfl ?_
    show Steps p.tables e below (s₁.setTop (mkF m 14 #[.val (.int pp), .val (.int qq), .val (.int i), .val (.int j), .unset, .unset, .unset] [])) _
    refine XS.iloadN X0.here hx rfl (hb hby at_14) rfl ?_
    show Steps p.tables e below (s₁.setTop (mkF m 15 #[.val (.int pp), .val (.int qq), .val (.int i), .val (.int j), .unset, .unset, .unset] [(.int i)])) _
    refine st40 _ ?_
    show Steps p.tables e below (T40.setTop (mkF m 18 #[.val (.int pp), .val (.int qq), .val (.int i), .val (.int j), .unset, .unset, .unset] [(.ref x1)])) _
    refine XS.astore X40.here hx rfl (hb hby at_18) rfl rfl (l' := #[.val (.int pp), .val (.int qq), .val (.int i), .val (.int j), .val (.ref x1), .unset, .unset]) rfl ?_
    show Steps p.tables e below (T40.setTop (mkF m 20 #[.val (.int pp), .val (.int qq), .val (.int i), .val (.int j), .val (.ref x1), .unset, .unset] [])) _
    refine XS.iloadN X40.here hx rfl (hb hby at_20) rfl ?_
    show Steps p.tables e below (T40.setTop (mkF m 21 #[.val (.int pp), .val (.int qq), .val (.int i), .val (.int j), .val (.ref x1), .unset, .unset] [(.int j)])) _
    refine st41 _ ?_
    show Steps p.tables e below (T41.setTop (mkF m 24 #[.val (.int pp), .val (.int qq), .val (.int i), .val (.int j), .val (.ref x1), .unset, .unset] [(.ref x2)])) _
    refine XS.astore X41.here hx rfl (hb hby at_24) rfl rfl (l' := #[.val (.int pp), .val (.int qq), .val (.int i), .val (.int j), .val (.ref x1), .val (.ref x2), .unset]) rfl ?_
    show Steps p.tables e below (T41.setTop (mkF m 26 #[.val (.int pp), .val (.int qq), .val (.int i), .val (.int j), .val (.ref x1), .val (.ref x2), .unset] [])) _
    refine XS.aload X41.here hx rfl (hb hby at_26) rfl rfl ?_
    show Steps p.tables e below (T41.setTop (mkF m 28 #[.val (.int pp), .val (.int qq), .val (.int i), .val (.int j), .val (.ref x1), .val (.ref x2), .unset] [(.ref x1)])) _
    refine XS.aload X41.here hx rfl (hb hby at_28) rfl rfl ?_
    show Steps p.tables e below (T41.setTop (mkF m 30 #[.val (.int pp), .val (.int qq), .val (.int i), .val (.int j), .val (.ref x1), .val (.ref x2), .unset] [(.ref x2), (.ref x1)])) _
    refine st42.trans ?_
    show Steps p.tables e below (T42.setTop (mkF m 33 #[.val (.int pp), .val (.int qq), .val (.int i), .val (.int j), .val (.ref x1), .val (.ref x2), .unset] [(.ref x3)])) _
    refine XS.astore X42.here hx rfl (hb hby at_33) rfl rfl (l' := #[.val (.int pp), .val (.int qq), .val (.int i), .val (.int j), .val (.ref x1), .val (.ref x2), .val (.ref x3)]) rfl ?_
    show Steps p.tables e below (T42.setTop (mkF m 35 #[.val (.int pp), .val (.int qq), .val (.int i), .val (.int j), .val (.ref x1), .val (.ref x2), .val (.ref x3)] [])) _
    refine XS.aload X42.here hx rfl (hb hby at_35) rfl rfl ?_
    show Steps p.tables e below (T42.setTop (mkF m 37 #[.val (.int pp), .val (.int qq), .val (.int i), .val (.int j), .val (.ref x1), .val (.ref x2), .val (.ref x3)] [(.ref x3)])) _
    refine st43 _ ?_
    show Steps p.tables e below (T43.setTop (mkF m 40 #[.val (.int pp), .val (.int qq), .val (.int i), .val (.int j), .val (.ref x1), .val (.ref x2), .val (.ref x3)] [(.int r)])) _
    refine XS.iloadN X43.here hx rfl (hb hby at_40) rfl ?_
    show Steps p.tables e below (T43.setTop (mkF m 41 #[.val (.int pp), .val (.int qq), .val (.int i), .val (.int j), .val (.ref x1), .val (.ref x2), .val (.ref x3)] [(.int i), (.int r)])) _
    refine XS.iloadN X43.here hx rfl (hb hby at_41) rfl ?_
    show Steps p.tables e below (T43.setTop (mkF m 42 #[.val (.int pp), .val (.int qq), .val (.int i), .val (.int j), .val (.ref x1), .val (.ref x2), .val (.ref x3)] [(.int j), (.int i), (.int r)])) _
    refine st44 _ ?_
    show Steps p.tables e below (T44.setTop (mkF m 45 #[.val (.int pp), .val (.int qq), .val (.int i), .val (.int j), .val (.ref x1), .val (.ref x2), .val (.ref x3)] [(.int r), (.int r)])) _
    refine XS.icmpNo X44.here hx rfl (hb hby at_45) rfl (teq (rfl : r = r)).2 ?_
    show Steps p.tables e below (T44.setTop (mkF m 48 #[.val (.int pp), .val (.int qq), .val (.int i), .val (.int j), .val (.ref x1), .val (.ref x2), .val (.ref x3)] [])) _
    refine XS.iconst X44.here hx rfl (hb hby at_48) ?_
    show Steps p.tables e below (T44.setTop (mkF m 49 #[.val (.int pp), .val (.int qq), .val (.int i), .val (.int j), .val (.ref x1), .val (.ref x2), .val (.ref x3)] [(.int (1 : Int32))])) _
    refine XS.goto X44.here hx rfl (pc0 := 49) (pc' := 53) rfl (hb hby at_49) (by decide) (by decide) ?_
    show Steps p.tables e below (T44.setTop (mkF m 53 #[.val (.int pp), .val (.int qq), .val (.int i), .val (.int j), .val (.ref x1), .val (.ref x2), .val (.ref x3)] [(.int (1 : Int32))])) _
    exact retN X44 hx (t := .boolean) Bd.returns (by simp) (hb hby at_53) hr
  · show (QP (some (.int 1)) h0 n0) _ T44.heap _
    rw [e44]
    exact ⟨rfl, N44, rfl⟩
theorem own_eqI {args : Array Value} {s : State} {t : Term} {k : Int32} {idx : List Nat} (h : (Jvm.Cond.eq t (.int k)).value args s none s idx = some true) : t.eval args s none idx s = some (.int k) := by
  simp only [Cond.value, Term.eval] at h
  cases ht : t.eval args s none idx s with
  | none => simp [ht] at h
  | some x => cases x <;> simp [ht] at h ⊢; exact h
theorem own_eqL {args : Array Value} {s : State} {t : Term} {k : Int64} {idx : List Nat} (h : (Jvm.Cond.eq t (.long k)).value args s none s idx = some true) : t.eval args s none idx s = some (.long k) := by
  simp only [Cond.value, Term.eval] at h
  cases ht : t.eval args s none idx s with
  | none => simp [ht] at h
  | some x => cases x <;> simp [ht] at h ⊢; exact h
theorem own_rem (p : Int32) : ∃ k : Nat, k < 3 ∧ (p &&& (2147483647 : Int32)) % (3 : Int32) = Int32.ofNat k := by
  have h1 := (c_and p 2147483647 (by decide)).1
  have h2 := (c_iremV (p &&& (2147483647 : Int32)) 3).1 h1 (by decide)
  have h7 : (3 : Int32).toInt = 3 := by decide
  rw [h7] at h2
  refine ⟨((p &&& (2147483647 : Int32)) % (3 : Int32)).toInt.toNat, by omega, ?_⟩
  apply Int32.toInt_inj.mp
  rw [Int32.toInt_ofNat_of_lt (by omega)]
  omega
set_option maxRecDepth 65536 in
set_option maxHeartbeats 40000000 in
theorem comes_1 {Post : Tables → Env → Array Value → State → Outcome → State → Prop} (hpost : ∀ tb e args s v u, (limb_1_1.after args s (.returned v) u = true ∧ limb_1_2.after args s (.returned v) u = true ∧ True) → FrameEnd s (.returned v) u (Jvm.fieldLocs frame_1_writes args s ++ Jvm.arrayLocs frame_1_arrays args s ++ Jvm.staticLocs frame_1_statics s) 0 0 → Post tb e args s (.returned v) u) :
    ArmFor flags0 classFile x code maxLocals ret World_1 tables_1 room_1 Calls_1 rest_1 Pre_1 Post := by
  intro l hfl _ _ p e ha hc hk s m args below hf hA hF happ hP
  obtain ⟨hcalls, hrest, hpre⟩ := hP
  obtain ⟨-, -, -, hnamed, -, -, -, hat⟩ := (Spec.applies_iff hf).mp happ
  obtain ⟨hg, hn⟩ := and_e (Cond.before_iff.mp (show (Jvm.Cond.and given_1 narrow_1).before args s = true from hpre))
  obtain ⟨hgc, hg0⟩ := and_e hg
  obtain ⟨ga0, hg1⟩ := and_e hg0
  have ga1 := hg1
  obtain ⟨w0, w1, rfl⟩ : ∃ w0 w1 : Value, args = #[w0, w1] := by
    have hs : args.size = 2 := by simpa [Cond.value, given_1] using hgc
    obtain ⟨L⟩ := args
    match L, hs with
    | [w0, w1], _ => exact ⟨w0, w1, rfl⟩
  have hw := fun d (hd : d ∈ tables_1) => atoms_spec (ws := Jvm.Cond.code x code maxLocals ret :: tables_1) hat d (List.mem_cons_of_mem _ hd)
  have hfit : Fit s := fun {y c} hc i hi => by
    obtain ⟨ha, rfl⟩ := Array.getElem?_eq_some_iff.mp hc
    have q := List.all_eq_true.mp ((Array.all_eq_true_iff_forall_mem.mp hF) _ (Array.getElem_mem ha)) i (List.mem_range.mpr hi)
    simpa [Array.getElem?_eq_getElem hi] using q
  obtain ⟨i0, ei0⟩ := is_v ga0
  obtain rfl : w0 = (.int i0) := Option.some.inj ei0
  obtain ⟨i1, ei1⟩ := is_v ga1
  obtain rfl : w1 = (.int i1) := Option.some.inj ei1
  obtain ⟨na0, nb0⟩ := and_e hn
  obtain ⟨na1, nb1⟩ := and_e nb0
  obtain ⟨na2, nb2⟩ := and_e nb1
  obtain ⟨na3, nb3⟩ := and_e nb2
  obtain ⟨na4, nb4⟩ := and_e nb3
  obtain ⟨uF, ev0⟩ := exa_v na0
  have EU0 := Exa.start ev0 na0
  have SU0 := Sta.start ev0 (Or.inr ⟨(hw _ (List.mem_of_getElem? (i := 6) rfl)), (hw _ (List.mem_of_getElem? (i := 7) rfl))⟩)
  have FO0 := Fld.start ((fld_at ev0).symm.trans (own_eqI na4))
  obtain ⟨uU, ev1⟩ := exa_v na2
  have EU1 := Exa.start ev1 na2
  have SU1 := Sta.start ev1 (Or.inr ⟨(hw _ (List.mem_of_getElem? (i := 6) rfl)), (hw _ (List.mem_of_getElem? (i := 24) rfl))⟩)
  have FO1 := Fld.start ((fld_at ev1).symm.trans (own_eqI nb4))
  obtain ⟨uT, ev2⟩ := exa_v na1
  have EU2 := Exa.start ev2 na1
  have SU2 := Sta.start ev2 (Or.inr ⟨(hw _ (List.mem_of_getElem? (i := 6) rfl)), (hw _ (List.mem_of_getElem? (i := 22) rfl))⟩)
  have FO2 := Fld.start ((fld_at ev2).symm.trans (own_eqI na3))
  have nFU : uF ≠ uU := FO0.ne FO1 (by decide)
  have nFT : uF ≠ uT := FO0.ne FO2 (by decide)
  have nUT : uU ≠ uT := FO1.ne FO2 (by decide)
  have hmet : Met l s tables_1 x code maxLocals ret room_1 #[(.int i0), (.int i1)] s.heap (QP (some (.int 1)) s.heap s.heap.size) := by
    obtain ⟨k, hk3, hk⟩ := own_rem i0
    obtain ⟨k', hk3', hk'⟩ := own_rem i1
    match k, hk3, hk, k', hk3', hk' with
    | 0, _, hk, 0, _, hk' => exact own_law l s _ hw i0 i1 (0 : Int32) (0 : Int32) uF uF uF (0 : Int32) s.heap s.heap.size (Nat.le_refl _) hk hk' EU0 (own_pick_0 l s _ hw uF uU uT s.heap s.heap.size (Nat.le_refl _) SU0 SU1 SU2 nFU nFT nUT) (own_pick_0 l s _ hw uF uU uT s.heap s.heap.size (Nat.le_refl _) SU0 SU1 SU2 nFU nFT nUT) (own_and_00 l s _ hw uF uU uT s.heap s.heap.size (Nat.le_refl _) SU0 SU1 SU2 nFU nFT nUT) (own_rank_0 l s _ hw uF uU uT s.heap s.heap.size (Nat.le_refl _) SU0 SU1 SU2 nFU nFT nUT) (own_min_l l s _ hw (0 : Int32) (0 : Int32) s.heap s.heap.size (Nat.le_refl _) (by decide))
    | 0, _, hk, 1, _, hk' => exact own_law l s _ hw i0 i1 (0 : Int32) (1 : Int32) uF uU uF (0 : Int32) s.heap s.heap.size (Nat.le_refl _) hk hk' EU0 (own_pick_0 l s _ hw uF uU uT s.heap s.heap.size (Nat.le_refl _) SU0 SU1 SU2 nFU nFT nUT) (own_pick_1 l s _ hw uF uU uT s.heap s.heap.size (Nat.le_refl _) SU0 SU1 SU2 nFU nFT nUT) (own_and_01 l s _ hw uF uU uT s.heap s.heap.size (Nat.le_refl _) SU0 SU1 SU2 nFU nFT nUT) (own_rank_0 l s _ hw uF uU uT s.heap s.heap.size (Nat.le_refl _) SU0 SU1 SU2 nFU nFT nUT) (own_min_l l s _ hw (0 : Int32) (1 : Int32) s.heap s.heap.size (Nat.le_refl _) (by decide))
    | 0, _, hk, 2, _, hk' => exact own_law l s _ hw i0 i1 (0 : Int32) (2 : Int32) uF uT uF (0 : Int32) s.heap s.heap.size (Nat.le_refl _) hk hk' EU0 (own_pick_0 l s _ hw uF uU uT s.heap s.heap.size (Nat.le_refl _) SU0 SU1 SU2 nFU nFT nUT) (own_pick_2 l s _ hw uF uU uT s.heap s.heap.size (Nat.le_refl _) SU0 SU1 SU2 nFU nFT nUT) (own_and_02 l s _ hw uF uU uT s.heap s.heap.size (Nat.le_refl _) SU0 SU1 SU2 nFU nFT nUT) (own_rank_0 l s _ hw uF uU uT s.heap s.heap.size (Nat.le_refl _) SU0 SU1 SU2 nFU nFT nUT) (own_min_l l s _ hw (0 : Int32) (2 : Int32) s.heap s.heap.size (Nat.le_refl _) (by decide))
    | 1, _, hk, 0, _, hk' => exact own_law l s _ hw i0 i1 (1 : Int32) (0 : Int32) uU uF uF (0 : Int32) s.heap s.heap.size (Nat.le_refl _) hk hk' EU1 (own_pick_1 l s _ hw uF uU uT s.heap s.heap.size (Nat.le_refl _) SU0 SU1 SU2 nFU nFT nUT) (own_pick_0 l s _ hw uF uU uT s.heap s.heap.size (Nat.le_refl _) SU0 SU1 SU2 nFU nFT nUT) (own_and_10 l s _ hw uF uU uT s.heap s.heap.size (Nat.le_refl _) SU0 SU1 SU2 nFU nFT nUT) (own_rank_0 l s _ hw uF uU uT s.heap s.heap.size (Nat.le_refl _) SU0 SU1 SU2 nFU nFT nUT) (own_min_r l s _ hw (1 : Int32) (0 : Int32) s.heap s.heap.size (Nat.le_refl _) (by decide))
    | 1, _, hk, 1, _, hk' => exact own_law l s _ hw i0 i1 (1 : Int32) (1 : Int32) uU uU uU (1 : Int32) s.heap s.heap.size (Nat.le_refl _) hk hk' EU1 (own_pick_1 l s _ hw uF uU uT s.heap s.heap.size (Nat.le_refl _) SU0 SU1 SU2 nFU nFT nUT) (own_pick_1 l s _ hw uF uU uT s.heap s.heap.size (Nat.le_refl _) SU0 SU1 SU2 nFU nFT nUT) (own_and_11 l s _ hw uF uU uT s.heap s.heap.size (Nat.le_refl _) SU0 SU1 SU2 nFU nFT nUT) (own_rank_1 l s _ hw uF uU uT s.heap s.heap.size (Nat.le_refl _) SU0 SU1 SU2 nFU nFT nUT) (own_min_l l s _ hw (1 : Int32) (1 : Int32) s.heap s.heap.size (Nat.le_refl _) (by decide))
    | 1, _, hk, 2, _, hk' => exact own_law l s _ hw i0 i1 (1 : Int32) (2 : Int32) uU uT uU (1 : Int32) s.heap s.heap.size (Nat.le_refl _) hk hk' EU1 (own_pick_1 l s _ hw uF uU uT s.heap s.heap.size (Nat.le_refl _) SU0 SU1 SU2 nFU nFT nUT) (own_pick_2 l s _ hw uF uU uT s.heap s.heap.size (Nat.le_refl _) SU0 SU1 SU2 nFU nFT nUT) (own_and_12 l s _ hw uF uU uT s.heap s.heap.size (Nat.le_refl _) SU0 SU1 SU2 nFU nFT nUT) (own_rank_1 l s _ hw uF uU uT s.heap s.heap.size (Nat.le_refl _) SU0 SU1 SU2 nFU nFT nUT) (own_min_l l s _ hw (1 : Int32) (2 : Int32) s.heap s.heap.size (Nat.le_refl _) (by decide))
    | 2, _, hk, 0, _, hk' => exact own_law l s _ hw i0 i1 (2 : Int32) (0 : Int32) uT uF uF (0 : Int32) s.heap s.heap.size (Nat.le_refl _) hk hk' EU2 (own_pick_2 l s _ hw uF uU uT s.heap s.heap.size (Nat.le_refl _) SU0 SU1 SU2 nFU nFT nUT) (own_pick_0 l s _ hw uF uU uT s.heap s.heap.size (Nat.le_refl _) SU0 SU1 SU2 nFU nFT nUT) (own_and_20 l s _ hw uF uU uT s.heap s.heap.size (Nat.le_refl _) SU0 SU1 SU2 nFU nFT nUT) (own_rank_0 l s _ hw uF uU uT s.heap s.heap.size (Nat.le_refl _) SU0 SU1 SU2 nFU nFT nUT) (own_min_r l s _ hw (2 : Int32) (0 : Int32) s.heap s.heap.size (Nat.le_refl _) (by decide))
    | 2, _, hk, 1, _, hk' => exact own_law l s _ hw i0 i1 (2 : Int32) (1 : Int32) uT uU uU (1 : Int32) s.heap s.heap.size (Nat.le_refl _) hk hk' EU2 (own_pick_2 l s _ hw uF uU uT s.heap s.heap.size (Nat.le_refl _) SU0 SU1 SU2 nFU nFT nUT) (own_pick_1 l s _ hw uF uU uT s.heap s.heap.size (Nat.le_refl _) SU0 SU1 SU2 nFU nFT nUT) (own_and_21 l s _ hw uF uU uT s.heap s.heap.size (Nat.le_refl _) SU0 SU1 SU2 nFU nFT nUT) (own_rank_1 l s _ hw uF uU uT s.heap s.heap.size (Nat.le_refl _) SU0 SU1 SU2 nFU nFT nUT) (own_min_r l s _ hw (2 : Int32) (1 : Int32) s.heap s.heap.size (Nat.le_refl _) (by decide))
    | 2, _, hk, 2, _, hk' => exact own_law l s _ hw i0 i1 (2 : Int32) (2 : Int32) uT uT uT (2 : Int32) s.heap s.heap.size (Nat.le_refl _) hk hk' EU2 (own_pick_2 l s _ hw uF uU uT s.heap s.heap.size (Nat.le_refl _) SU0 SU1 SU2 nFU nFT nUT) (own_pick_2 l s _ hw uF uU uT s.heap s.heap.size (Nat.le_refl _) SU0 SU1 SU2 nFU nFT nUT) (own_and_22 l s _ hw uF uU uT s.heap s.heap.size (Nat.le_refl _) SU0 SU1 SU2 nFU nFT nUT) (own_rank_2 l s _ hw uF uU uT s.heap s.heap.size (Nat.le_refl _) SU0 SU1 SU2 nFU nFT nUT) (own_min_l l s _ hw (2 : Int32) (2 : Int32) s.heap s.heap.size (Nat.le_refl _) (by decide))
    | k + 3, hk3, _, _, _, _ => exact absurd hk3 (by omega)
    | _, _, _, k + 3, hk3, _ => exact absurd hk3 (by omega)
  obtain ⟨n, o, h1, h2, h3, _, L, rfl, ⟨rfl, N, -⟩, hq⟩ := hmet p e ha hc hk s m _ below hf ((Spec.applies_iff_loose hf).mp happ).1 ⟨rfl, State.Warmed39.refl s, rfl⟩ trivial
  refine ⟨n, _, h1, h2, h3, hpost _ _ _ _ _ _ ⟨Cond.after_iff.mpr rfl, Cond.after_iff.mpr (eq_i res_at (Term.int_eval (1)) rfl), trivial⟩ ⟨hq.1, hq.2.1, (hq.2.2.sift fun y hy => Or.inr (N y hy)).mono (by decide) (by decide)⟩⟩
theorem main_1_1 : Claimed_1_1 := comes_1 fun _ _ _ _ _ _ h hF => ⟨h.1, hF⟩
theorem main_1_2 : Claimed_1_2 := comes_1 fun _ _ _ _ _ _ h hF => ⟨h.2.1, hF⟩
end Jvm.Pilot.@@N@@
namespace Jvm.Pilot.@@N@@
open Jvm Jvm.ClassFile Sem Op Lib Jvm.Free Jvm.Stand Jvm.Pilot.@@N@@.Jvm.D
/-! MADE BY PROGRAM (witnessworld.py) out of the Statement's table words and the real class files: 13 classes; the members and pool entries that the words name. The judged class is class 1, her method 3. -/
namespace start1
open Jvm.ClassFile
def u (s : String) : CpInfo := .utf8 (stringToUtf16 s)
/-- a pool by its gaps: so many unusable entries, then the entry; so many at the end -/
def gap : Nat → List CpInfo → List CpInfo
  | 0, r => r
  | n + 1, r => .unusable :: gap n r
def poolList (es : List (Nat × CpInfo)) (last : Nat) : List CpInfo := es.foldr (fun e r => gap e.1 (e.2 :: r)) (gap last [])
def pool (es : List (Nat × CpInfo)) (last : Nat) : Array CpInfo := ⟨poolList es last⟩
def fileOf (pool : Array CpInfo) (this : Nat) (attrs : Array Attribute := #[]) (ms : Array MethodInfo := #[]) (fl : Nat := 33) (sup : Nat := 0) (ifs : Array Nat := #[]) (fds : Array FieldInfo := #[]) : ClassFile where
  minorVersion := 0
  majorVersion := 65
  constantPool := pool
  accessFlags := fl
  thisClass := this
  superClass := sup
  interfaces := ifs
  fields := fds
  methods := ms
  attributes := attrs
def plain (name : String) (sup : Option ClassId) : Class where
  name := name
  kind := .ordinary
  loader := none
  accessFlags := 33
  super := sup
  interfaces := #[]
  cf := none
  fields := #[]
  methods := #[]
  instanceTypes := #[]
  staticTypes := #[]
  resolved := #[]
  callSites := []
  init := .initialized
  statics := none
  mirror := none

def pool0 : Array CpInfo := pool [(5, u "<init>"), (0, u "()V"), (1, .class_ 10), (1, u "java/lang/Object")] 113

def k0m0 : Method := { name := "<init>", desc := "()V", sig := { parameters := [], returnType := none }, accessFlags := 1, code := none }
/-- java/lang/Object -/
def k0 : Class := { plain "java/lang/Object" none with
  accessFlags := 33
  interfaces := #[]
  cf := some (fileOf pool0 8 #[] #[{ accessFlags := 1, nameIndex := 5, descriptorIndex := 6, attributes := #[] }] 33 0 #[] #[])
  fields := #[]
  methods := #[k0m0]
  instanceTypes := #[]
  staticTypes := #[]
  resolved := Array.replicate 124 none
  statics := none }

def pool1 : Array CpInfo := pool [(2, .class_ 4), (1, u "java/lang/Object"), (0, u "<init>"), (0, u "()V"), (0, .fieldref 8 9), (0, .class_ 10), (0, .nameAndType 11 12), (0, u "com/example/boolgrove/boolgrove/Truth"), (0, u "FALSE"), (0, u "Lcom/example/boolgrove/boolgrove/Truth;"), (0, .fieldref 8 14), (0, .nameAndType 15 12), (0, u "UNDEFINED"), (0, .fieldref 8 17), (0, .nameAndType 18 12), (0, u "TRUE"), (0, .integer 2147483647), (0, .methodref 21 22), (0, .class_ 23), (0, .nameAndType 24 25), (0, u "com/example/boolgrove/boolgrove/TruthAndPinLaw"), (0, u "pick"), (0, u "(I)Lcom/example/boolgrove/boolgrove/Truth;"), (0, .methodref 8 27), (0, .nameAndType 28 29), (0, u "and"), (0, u "(Lcom/example/boolgrove/boolgrove/Truth;)Lcom/example/boolgrove/boolgrove/Truth;"), (0, .methodref 21 31), (0, .nameAndType 32 33), (0, u "rank"), (0, u "(Lcom/example/boolgrove/boolgrove/Truth;)I"), (0, .methodref 35 36), (0, .class_ 37), (0, .nameAndType 38 39), (0, u "java/lang/Math"), (0, u "min"), (0, u "(II)I"), (3, u "law"), (0, u "(II)Z")] 2

def k1m0 : Method := { name := "<init>", desc := "()V", sig := { parameters := [], returnType := none }, accessFlags := 1, code := none }
def k1c1 : Code := { maxStack := 2, maxLocals := 1, code := method_2_code, exceptionTable := #[], attributes := #[] }
def k1m1 : Method := { name := "pick", desc := "(I)Lcom/example/boolgrove/boolgrove/Truth;", sig := { parameters := [.int], returnType := some (.object "com/example/boolgrove/boolgrove/Truth") }, accessFlags := 10, code := some k1c1 }
def k1c2 : Code := { maxStack := 2, maxLocals := 1, code := method_3_code, exceptionTable := #[], attributes := #[] }
def k1m2 : Method := { name := "rank", desc := "(Lcom/example/boolgrove/boolgrove/Truth;)I", sig := { parameters := [(.object "com/example/boolgrove/boolgrove/Truth")], returnType := some .int }, accessFlags := 10, code := some k1c2 }
def k1c3 : Code := { maxStack := 3, maxLocals := 7, code := code, exceptionTable := #[], attributes := #[] }
def k1m3 : Method := { name := "law", desc := "(II)Z", sig := { parameters := [.int, .int], returnType := some .boolean }, accessFlags := 9, code := some k1c3 }
/-- com/example/boolgrove/boolgrove/TruthAndPinLaw -/
def k1 : Class := { plain "com/example/boolgrove/boolgrove/TruthAndPinLaw" (some 0) with
  accessFlags := 49
  interfaces := #[]
  cf := some (fileOf pool1 21 #[] #[{ accessFlags := 1, nameIndex := 5, descriptorIndex := 6, attributes := #[] }, { accessFlags := 10, nameIndex := 24, descriptorIndex := 25, attributes := #[] }, { accessFlags := 10, nameIndex := 32, descriptorIndex := 33, attributes := #[] }, { accessFlags := 9, nameIndex := 43, descriptorIndex := 44, attributes := #[] }] 49 2 #[] #[])
  fields := #[]
  methods := #[k1m0, k1m1, k1m2, k1m3]
  instanceTypes := #[]
  staticTypes := #[]
  resolved := Array.replicate 47 none
  statics := none }

def pool2 : Array CpInfo := pool [(1, .class_ 2), (0, u "java/lang/constant/Constable"), (0, .class_ 4), (0, u "java/lang/Object")] 6

/-- java/lang/constant/Constable -/
def k2 : Class := { plain "java/lang/constant/Constable" (some 0) with
  accessFlags := 1537
  interfaces := #[]
  cf := some (fileOf pool2 1 #[] #[] 1537 3 #[] #[])
  fields := #[]
  methods := #[]
  instanceTypes := #[]
  staticTypes := #[]
  resolved := Array.replicate 11 none
  statics := none }

def pool3 : Array CpInfo := pool [(1, .class_ 2), (0, u "java/lang/Comparable"), (0, .class_ 4), (0, u "java/lang/Object")] 7

/-- java/lang/Comparable -/
def k3 : Class := { plain "java/lang/Comparable" (some 0) with
  accessFlags := 1537
  interfaces := #[]
  cf := some (fileOf pool3 1 #[] #[] 1537 3 #[] #[])
  fields := #[]
  methods := #[]
  instanceTypes := #[]
  staticTypes := #[]
  resolved := Array.replicate 12 none
  statics := none }

def pool4 : Array CpInfo := pool [(1, .class_ 2), (0, u "java/io/Serializable"), (0, .class_ 4), (0, u "java/lang/Object")] 2

/-- java/io/Serializable -/
def k4 : Class := { plain "java/io/Serializable" (some 0) with
  accessFlags := 1537
  interfaces := #[]
  cf := some (fileOf pool4 1 #[] #[] 1537 3 #[] #[])
  fields := #[]
  methods := #[]
  instanceTypes := #[]
  staticTypes := #[]
  resolved := Array.replicate 7 none
  statics := none }

def pool5 : Array CpInfo := pool [(2, .class_ 4), (1, u "java/lang/Enum"), (0, u "name"), (0, u "Ljava/lang/String;"), (2, u "ordinal"), (0, u "I"), (1, .class_ 14), (1, u "java/lang/Object"), (4, u "hash"), (86, .class_ 108), (1, u "java/lang/Enum$EnumDesc"), (2, .class_ 112), (0, u "java/lang/constant/Constable"), (0, .class_ 114), (0, u "java/lang/Comparable"), (0, .class_ 116), (0, u "java/io/Serializable")] 87

/-- java/lang/Enum -/
def k5 : Class := { plain "java/lang/Enum" (some 0) with
  accessFlags := 1057
  interfaces := #[2, 3, 4]
  cf := some (fileOf pool5 2 #[.nestMembers #[106]] #[] 1057 12 #[111, 113, 115] #[{ accessFlags := 18, nameIndex := 5, descriptorIndex := 6, attributes := #[] }, { accessFlags := 18, nameIndex := 9, descriptorIndex := 10, attributes := #[] }, { accessFlags := 2, nameIndex := 19, descriptorIndex := 10, attributes := #[] }])
  fields := #[{ name := "name", type := (.object "java/lang/String"), accessFlags := 18, slot := 0, constantValue := 0 }, { name := "ordinal", type := .int, accessFlags := 18, slot := 1, constantValue := 0 }, { name := "hash", type := .int, accessFlags := 2, slot := 2, constantValue := 0 }]
  methods := #[]
  instanceTypes := #[(.object "java/lang/String"), .int, .int]
  staticTypes := #[]
  resolved := Array.replicate 204 none
  statics := none }

def pool6 : Array CpInfo := pool [(1, .class_ 2), (0, u "com/example/boolgrove/boolgrove/Truth"), (0, .fieldref 1 4), (0, .nameAndType 5 6), (0, u "TRUE"), (0, u "Lcom/example/boolgrove/boolgrove/Truth;"), (0, .fieldref 1 8), (0, .nameAndType 9 6), (0, u "FALSE"), (0, .fieldref 1 11), (0, .nameAndType 12 6), (0, u "UNDEFINED"), (2, u "$VALUES"), (0, u "[Lcom/example/boolgrove/boolgrove/Truth;"), (6, .class_ 25), (1, u "java/lang/Enum"), (22, u "(Lcom/example/boolgrove/boolgrove/Truth;)Lcom/example/boolgrove/boolgrove/Truth;"), (20, u "and")] 6

def k6c0 : Code := { maxStack := 2, maxLocals := 2, code := prog_49_method_6_code, exceptionTable := #[], attributes := #[] }
def k6m0 : Method := { name := "and", desc := "(Lcom/example/boolgrove/boolgrove/Truth;)Lcom/example/boolgrove/boolgrove/Truth;", sig := { parameters := [(.object "com/example/boolgrove/boolgrove/Truth")], returnType := some (.object "com/example/boolgrove/boolgrove/Truth") }, accessFlags := 0, code := some k6c0 }
/-- com/example/boolgrove/boolgrove/Truth -/
def k6 : Class := { plain "com/example/boolgrove/boolgrove/Truth" (some 5) with
  accessFlags := 16432
  interfaces := #[]
  cf := some (fileOf pool6 1 #[] #[{ accessFlags := 0, nameIndex := 69, descriptorIndex := 48, attributes := #[] }] 16432 23 #[] #[{ accessFlags := 16409, nameIndex := 5, descriptorIndex := 6, attributes := #[] }, { accessFlags := 16409, nameIndex := 9, descriptorIndex := 6, attributes := #[] }, { accessFlags := 16409, nameIndex := 12, descriptorIndex := 6, attributes := #[] }, { accessFlags := 4122, nameIndex := 15, descriptorIndex := 16, attributes := #[] }])
  fields := #[{ name := "TRUE", type := (.object "com/example/boolgrove/boolgrove/Truth"), accessFlags := 16409, slot := 0, constantValue := 0 }, { name := "FALSE", type := (.object "com/example/boolgrove/boolgrove/Truth"), accessFlags := 16409, slot := 1, constantValue := 0 }, { name := "UNDEFINED", type := (.object "com/example/boolgrove/boolgrove/Truth"), accessFlags := 16409, slot := 2, constantValue := 0 }, { name := "$VALUES", type := (.array (.object "com/example/boolgrove/boolgrove/Truth")), accessFlags := 4122, slot := 3, constantValue := 0 }]
  methods := #[k6m0]
  instanceTypes := #[(.object "java/lang/String"), .int, .int]
  staticTypes := #[(.object "com/example/boolgrove/boolgrove/Truth"), (.object "com/example/boolgrove/boolgrove/Truth"), (.object "com/example/boolgrove/boolgrove/Truth"), (.array (.object "com/example/boolgrove/boolgrove/Truth"))]
  resolved := Array.replicate 76 none
  statics := some 0 }

def pool7 : Array CpInfo := pool [(1, .class_ 2), (0, u "java/lang/Math"), (1, .class_ 6), (1, u "java/lang/Object"), (0, u "<init>"), (0, u "()V"), (89, .class_ 100), (1, u "java/lang/Math$RandomNumberGeneratorHolder"), (71, u "negativeZeroFloatBits"), (0, u "J"), (2, u "negativeZeroDoubleBits"), (24, u "min"), (43, u "$assertionsDisabled"), (0, u "Z"), (88, u "(II)I"), (2, u "twoToTheDoubleScaleDown"), (0, u "D"), (4, u "twoToTheDoubleScaleUp"), (9, u "E"), (3, u "PI"), (2, u "TAU"), (2, u "DEGREES_TO_RADIANS"), (0, u "RADIANS_TO_DEGREES")] 94

def k7m0 : Method := { name := "<init>", desc := "()V", sig := { parameters := [], returnType := none }, accessFlags := 2, code := none }
def k7c1 : Code := { maxStack := 2, maxLocals := 2, code := jdk_29_method_69_code, exceptionTable := #[], attributes := #[] }
def k7m1 : Method := { name := "min", desc := "(II)I", sig := { parameters := [.int, .int], returnType := some .int }, accessFlags := 9, code := some k7c1 }
/-- java/lang/Math -/
def k7 : Class := { plain "java/lang/Math" (some 0) with
  accessFlags := 49
  interfaces := #[]
  cf := some (fileOf pool7 1 #[.nestMembers #[98]] #[{ accessFlags := 2, nameIndex := 7, descriptorIndex := 8, attributes := #[] }, { accessFlags := 9, nameIndex := 201, descriptorIndex := 335, attributes := #[] }] 49 4 #[] #[{ accessFlags := 25, nameIndex := 354, descriptorIndex := 339, attributes := #[] }, { accessFlags := 25, nameIndex := 358, descriptorIndex := 339, attributes := #[] }, { accessFlags := 25, nameIndex := 361, descriptorIndex := 339, attributes := #[] }, { accessFlags := 26, nameIndex := 364, descriptorIndex := 339, attributes := #[] }, { accessFlags := 26, nameIndex := 365, descriptorIndex := 339, attributes := #[] }, { accessFlags := 26, nameIndex := 172, descriptorIndex := 173, attributes := #[] }, { accessFlags := 26, nameIndex := 176, descriptorIndex := 173, attributes := #[] }, { accessFlags := 8, nameIndex := 344, descriptorIndex := 339, attributes := #[] }, { accessFlags := 8, nameIndex := 338, descriptorIndex := 339, attributes := #[] }, { accessFlags := 4120, nameIndex := 245, descriptorIndex := 246, attributes := #[] }])
  fields := #[{ name := "E", type := .double, accessFlags := 25, slot := 0, constantValue := 0 }, { name := "PI", type := .double, accessFlags := 25, slot := 1, constantValue := 0 }, { name := "TAU", type := .double, accessFlags := 25, slot := 2, constantValue := 0 }, { name := "DEGREES_TO_RADIANS", type := .double, accessFlags := 26, slot := 3, constantValue := 0 }, { name := "RADIANS_TO_DEGREES", type := .double, accessFlags := 26, slot := 4, constantValue := 0 }, { name := "negativeZeroFloatBits", type := .long, accessFlags := 26, slot := 5, constantValue := 0 }, { name := "negativeZeroDoubleBits", type := .long, accessFlags := 26, slot := 6, constantValue := 0 }, { name := "twoToTheDoubleScaleUp", type := .double, accessFlags := 8, slot := 7, constantValue := 0 }, { name := "twoToTheDoubleScaleDown", type := .double, accessFlags := 8, slot := 8, constantValue := 0 }, { name := "$assertionsDisabled", type := .boolean, accessFlags := 4120, slot := 9, constantValue := 0 }]
  methods := #[k7m0, k7m1]
  instanceTypes := #[]
  staticTypes := #[.double, .double, .double, .double, .double, .long, .long, .double, .double, .boolean]
  resolved := Array.replicate 460 none
  statics := none }

def pool8 : Array CpInfo := pool [(1, u "java/lang/Cloneable"), (0, .class_ 1), (0, u "java/lang/Object"), (0, .class_ 3)] 3

/-- java/lang/Cloneable -/
def k8 : Class := { plain "java/lang/Cloneable" (some 0) with
  accessFlags := 1537
  interfaces := #[]
  cf := some (fileOf pool8 2 #[] #[] 1537 4 #[] #[])
  fields := #[]
  methods := #[]
  instanceTypes := #[]
  staticTypes := #[]
  resolved := Array.replicate 8 none
  statics := none }

/-- the primitive byte -/
def k9 : Class := { plain "byte" none with kind := .primitive 'B', accessFlags := 0x411 }
/-- [B -/
def k10 : Class := { plain "[B" (some 0) with kind := .array 9 .byte, interfaces := #[8, 4], accessFlags := 1041 }

/-- the primitive int -/
def k11 : Class := { plain "int" none with kind := .primitive 'I', accessFlags := 0x411 }
/-- [I -/
def k12 : Class := { plain "[I" (some 0) with kind := .array 11 .int, interfaces := #[8, 4], accessFlags := 1041 }

def heap : Heap := #[{ cls := 6, slots := #[.ref 1, .ref 2, .ref 3, .null], vm := .statics 6 },
  { cls := 6, slots := #[.null, .int 0, .int 0], vm := .none },
  { cls := 6, slots := #[.null, .int 1, .int 0], vm := .none },
  { cls := 6, slots := #[.null, .int 2, .int 0], vm := .none }]
def classes : Array Class := #[k0, k1, k2, k3, k4, k5, k6, k7, k8, k9, k10, k11, k12]
def interned : List (Array UInt16 × Addr) := []
def slotsUsed : Nat := 13
def theMethod : MethodId := ⟨1, 3⟩
def args0 : Array Value := #[.int 5, .int 7]
def aboutOver (below : List Frame) : State where
  vm := { classes := classes, interned := interned.toArray }
  heap := heap
  slotsUsed := slotsUsed
  threads := #[{ frames := .invoking theMethod args0 :: below }]
def below0 : List Frame := [.native { method := ⟨0, 0⟩, args := #[] }]
def about1 : State := aboutOver below0
def p0 : Program := .bare "" "" ""
def e0 : Env := launch0.env 0 0 0
theorem w_frames : about1.frames = Frame.invoking theMethod args0 :: below0 := rfl
set_option maxRecDepth 65536 in
theorem w_args : argsFit about1.vm theMethod args0 = true := by decide +kernel
set_option maxRecDepth 65536 in
theorem w_heap : heapFits about1 = true := by decide +kernel
set_option maxRecDepth 65536 in
theorem w_runnable : about1.curStatus? = some .runnable := by decide +kernel
set_option maxRecDepth 65536 in
theorem w_alone : about1.alone = true := by decide +kernel
set_option maxRecDepth 65536 in
theorem w_named : about1.methodNamed? x = some theMethod := by decide +kernel
set_option maxRecDepth 65536 in
theorem w_hears : about1.hears theMethod below0 = true := by decide +kernel
set_option maxRecDepth 65536 in
theorem w_ripe : about1.ripe theMethod args0 below0 = true := by decide +kernel
theorem w_running : about1.status = .running := rfl
set_option maxRecDepth 65536 in
theorem w_room : about1.hasRoom e0.platform room_1 = true :=
  launch0.hasRoom_least _ room_1 (by decide +kernel) (by decide +kernel) (by decide +kernel) (by decide +kernel) (by decide +kernel) (by decide +kernel)
theorem allAtoms_all (ts : List Jvm.Cond) (a : Array Jvm.Value) (st : Jvm.State) : (allAtoms ts).before a st = ts.all (fun c => c.before a st) := by
  induction ts with
  | nil => rfl
  | cons c t ih =>
    show (Jvm.Cond.and c (allAtoms t)).before a st = _
    rw [Jvm.Cond.before_and, ih, List.all_cons]
def words1 : List Jvm.Cond := Jvm.Cond.code x code maxLocals ret :: tables_1
/-- a 'code' word, met by the world's own term for the bytes: nothing is compared byte by byte -/
theorem code_word {y : MethodName} {bytes : ByteArray} {mx : Nat} {rt : Option FieldType} {a : Array Value} {s : State} {m : MethodId} {meth : Method} {c : Code} (h1 : s.methodNamed? y = some m) (h2 : s.vm.method? m = some meth) (h3 : meth.code = some c) (h4 : c.code = bytes)
    (h5 : (c.maxLocals == mx && c.exceptionTable.isEmpty && decide (c.maxStack ≤ mostOperands) && decide (meth.sig.returnType = rt) && !meth.locks && decide (parseMethodDescriptor y.desc = some meth.sig)) = true) : (Jvm.Cond.code y bytes mx rt).before a s = true := by
  simp only [Bool.and_eq_true, beq_iff_eq, Bool.not_eq_true', decide_eq_true_eq] at h5
  obtain ⟨⟨⟨⟨⟨g1, g2⟩, g3⟩, g4⟩, g5⟩, g6⟩ := h5
  simp [Cond.before, Cond.holds, Cond.value, h1, h2, h3, h4, g1, g2, g3, g4, g5, g6]
def isCode : Jvm.Cond → Bool
  | .code _ _ _ _ => true
  | _ => false
theorem all_split {L : List Jvm.Cond} {P : Jvm.Cond → Bool} (h1 : L.all (fun c => isCode c || P c) = true) (h2 : ∀ c ∈ L.filter isCode, P c = true) : L.all P = true := by
  refine List.all_eq_true.mpr fun c hc => ?_
  have h := List.all_eq_true.mp h1 c hc
  rcases Bool.eq_false_or_eq_true (isCode c) with hi | hi
  · exact h2 c (List.mem_filter.mpr ⟨hc, hi⟩)
  · simpa [hi] using h
set_option maxRecDepth 65536 in
theorem w_c0 : (Jvm.Cond.code x code maxLocals ret).before args0 about1 = true := code_word (m := ⟨1, 3⟩) (meth := k1m3) (c := k1c3) (by decide +kernel) rfl rfl rfl (by decide +kernel)
set_option maxRecDepth 65536 in
theorem w_c1 : (Jvm.Cond.code ({ cls := "com/example/boolgrove/boolgrove/TruthAndPinLaw", name := "pick", desc := "(I)Lcom/example/boolgrove/boolgrove/Truth;" } : Jvm.MethodName) method_2_code (1 : Nat) (Option.some (Jvm.ClassFile.FieldType.object "com/example/boolgrove/boolgrove/Truth"))).before args0 about1 = true := code_word (m := ⟨1, 1⟩) (meth := k1m1) (c := k1c1) (by decide +kernel) rfl rfl rfl (by decide +kernel)
set_option maxRecDepth 65536 in
theorem w_c2 : (Jvm.Cond.code ({ cls := "com/example/boolgrove/boolgrove/Truth", name := "and", desc := "(Lcom/example/boolgrove/boolgrove/Truth;)Lcom/example/boolgrove/boolgrove/Truth;" } : Jvm.MethodName) prog_49_method_6_code (2 : Nat) (Option.some (Jvm.ClassFile.FieldType.object "com/example/boolgrove/boolgrove/Truth"))).before args0 about1 = true := code_word (m := ⟨6, 0⟩) (meth := k6m0) (c := k6c0) (by decide +kernel) rfl rfl rfl (by decide +kernel)
set_option maxRecDepth 65536 in
theorem w_c3 : (Jvm.Cond.code ({ cls := "com/example/boolgrove/boolgrove/TruthAndPinLaw", name := "rank", desc := "(Lcom/example/boolgrove/boolgrove/Truth;)I" } : Jvm.MethodName) method_3_code (1 : Nat) (Option.some Jvm.ClassFile.FieldType.int)).before args0 about1 = true := code_word (m := ⟨1, 2⟩) (meth := k1m2) (c := k1c2) (by decide +kernel) rfl rfl rfl (by decide +kernel)
set_option maxRecDepth 65536 in
theorem w_c4 : (Jvm.Cond.code ({ cls := "java/lang/Math", name := "min", desc := "(II)I" } : Jvm.MethodName) jdk_29_method_69_code (2 : Nat) (Option.some Jvm.ClassFile.FieldType.int)).before args0 about1 = true := code_word (m := ⟨7, 1⟩) (meth := k7m1) (c := k7c1) (by decide +kernel) rfl rfl rfl (by decide +kernel)
def codes1 : List Jvm.Cond := [Jvm.Cond.code x code maxLocals ret, Jvm.Cond.code ({ cls := "com/example/boolgrove/boolgrove/TruthAndPinLaw", name := "pick", desc := "(I)Lcom/example/boolgrove/boolgrove/Truth;" } : Jvm.MethodName) method_2_code (1 : Nat) (Option.some (Jvm.ClassFile.FieldType.object "com/example/boolgrove/boolgrove/Truth")), Jvm.Cond.code ({ cls := "com/example/boolgrove/boolgrove/Truth", name := "and", desc := "(Lcom/example/boolgrove/boolgrove/Truth;)Lcom/example/boolgrove/boolgrove/Truth;" } : Jvm.MethodName) prog_49_method_6_code (2 : Nat) (Option.some (Jvm.ClassFile.FieldType.object "com/example/boolgrove/boolgrove/Truth")), Jvm.Cond.code ({ cls := "com/example/boolgrove/boolgrove/TruthAndPinLaw", name := "rank", desc := "(Lcom/example/boolgrove/boolgrove/Truth;)I" } : Jvm.MethodName) method_3_code (1 : Nat) (Option.some Jvm.ClassFile.FieldType.int), Jvm.Cond.code ({ cls := "java/lang/Math", name := "min", desc := "(II)I" } : Jvm.MethodName) jdk_29_method_69_code (2 : Nat) (Option.some Jvm.ClassFile.FieldType.int)]
set_option maxRecDepth 65536 in
theorem codes_eq : words1.filter isCode = codes1 := rfl
theorem w_codes : ∀ c ∈ words1.filter isCode, c.before args0 about1 = true := by
  rw [codes_eq]
  intro c hc
  simp only [codes1, List.mem_cons, List.not_mem_nil, or_false] at hc
  rcases hc with rfl | rfl | rfl | rfl | rfl
  · exact w_c0
  · exact w_c1
  · exact w_c2
  · exact w_c3
  · exact w_c4
set_option maxRecDepth 65536 in
theorem w_t1 : (words1.take 24).all (fun c => isCode c || c.before args0 about1) = true := by decide +kernel
set_option maxRecDepth 65536 in
theorem w_t2 : (words1.drop 24).all (fun c => isCode c || c.before args0 about1) = true := by decide +kernel
theorem w_tables : (allAtoms (Jvm.Cond.code x code maxLocals ret :: tables_1)).before args0 about1 = true := by
  rw [allAtoms_all]
  show words1.all (fun c => c.before args0 about1) = true
  refine all_split ?_ w_codes
  rw [← List.take_append_drop 24 words1, List.all_append, w_t1, w_t2]
  rfl
set_option maxRecDepth 65536 in
theorem w_case : (Jvm.Cond.and given_1 narrow_1).before args0 about1 = true := by decide +kernel
theorem w_applies : (headSpec (Jvm.Cond.code x code maxLocals ret :: tables_1) room_1).applies x e0.platform about1 = true :=
  (Spec.applies_iff w_frames).mpr ⟨w_running, w_runnable, w_alone, w_named, w_hears, w_ripe, w_room, w_tables⟩
theorem atStart : AtStart classFile x code maxLocals ret World_1 tables_1 room_1 Calls_1 rest_1 Pre_1 launch0 p0 e0 about1 theMethod args0 below0 :=
  ⟨lists_1, trivial, launch0.admits_env _ _ _, launch0.least_env, fairChoices_fair.cas, fairChoices_fair.clock, w_frames, w_args, w_heap, w_applies, trivial, trivial, w_case⟩
end start1
theorem witness_1 : WitnessClaimed_1 := ⟨start1.p0, start1.e0, start1.about1, start1.theMethod, start1.args0, start1.below0, start1.atStart⟩
end Jvm.Pilot.@@N@@
