import JvmDerived
import JvmDerived.Pilot.@@N@@Statement
import JvmDerived.Pilot.@@N@@Code
set_option linter.unusedVariables false
set_option linter.unusedSimpArgs false
namespace Jvm.RoadKit
open Sem ClassFile Op Lib Jvm.Stand Jvm.Free Jvm.LawKit
section New
variable {p : Program} {l : Launch} {e : Env} {R : Room} {s : State} {m : MethodId} {args : Array Value} {below : List Frame} {meth : Method} {c : Code} {T : State} {locs : List Loc} {cells slots : Nat}
theorem retI (X : Stand p l e R s m args below meth c T locs cells slots) (hx : p.tables.exec = Jvm.exec) {pc : Nat} {Ls : Array Slot} {z : Int32} {rest : List Value} (hret : meth.sig.returnType = some .int) (hd : decode c.code pc = .ok (.ireturn, 1)) {fs : List Frame}
    (hl : ∀ (f : JFrame) (acts : List Action), f.method = m → f.locked = none → f.entered = [] → (doReturn e (T.setTop f) acts (some (.int z))).1 = T.setFrames fs) : Steps p.tables e below (T.setTop (mkF m pc Ls (.int z :: rest))) (T.setFrames fs) := by
  have hm' : T.vm.method? m = some meth := X.method'
  have hn : narrow .int (.int z) = .int z := rfl
  show Steps p.tables e below (T.setTop { method := m, pc := pc, locals := Ls, stack := _ :: rest, locked := none }) _
  jvm_step X.here [X.here.top, hx, hd, hm', hret, hn]
  first | (intro acts; rw [hl _ acts rfl rfl rfl]) | rw [hl _ _ rfl rfl rfl]
  exact Steps.refl _
end New
end Jvm.RoadKit
namespace Jvm.Pilot.@@N@@
open Jvm Jvm.ClassFile Sem Op Lib Jvm.Free Jvm.Stand Jvm.LawKit Jvm.RoadKit Bundle Jvm.Pilot.@@N@@.Jvm.D
/-- the contract of one body, as this text says it: from the heap h0 over the tables of Z it returns as Q says -/
abbrev Met (l : Launch) (Z : State) (ws : List Jvm.Cond) (y : MethodName) (bytes : ByteArray) (ml : Nat) (rt : Option FieldType) (rm : Room) (as' : Array Value) (h0 : Heap) (Q : Option Value → Heap → List Loc → Prop) : Prop :=
  MetFree l y (head1 (Jvm.Cond.code y bytes ml rt :: ws) rm) (fun a U => a = as' ∧ Z.Warmed39 U.vm ∧ U.heap = h0) (fun _ _ _ _ _ => True) (fun _ U o U' => ∃ v L, o = .returned v ∧ Q v U'.heap L ∧ FrameEnd U o U' L rm.cells rm.slots)
/-- it returns r and leaves the heap as it was -/
def QP (r : Option Value) (h0 : Heap) (n0 : Nat) (v : Option Value) (h : Heap) (L : List Loc) : Prop := v = r ∧ Fr n0 L ∧ h = h0
theorem own_d_prog_21_m3_0 : decode prog_21_method_3_code 0 = .ok (.aload_n 0, 1) := by decide +kernel
theorem own_d_prog_21_m3_1 : decode prog_21_method_3_code 1 = .ok (.getfield 7, 3) := by decide +kernel
theorem own_d_prog_21_m3_4 : decode prog_21_method_3_code 4 = .ok (.areturn, 1) := by decide +kernel
theorem own_ef_0 (m : MethodId) (x0 : Addr) : entryFrame m #[(.ref x0)] 1 = mkF m 0 #[.val (.ref x0)] [] := by first | (simp [entryFrame, mkF, argsToLocals, Value.category]; done) | rfl
theorem own_pn_0 : plainName "com/example/ledgermatch/ledgermatch/AsciiText$View" = true := by first | (simp [plainName, overriddenIn]; done) | decide +kernel
set_option maxRecDepth 65536 in
set_option maxHeartbeats 40000000 in
theorem own_by (l : Launch) (Z : State) (a0 : Array Value) (hw : ∀ d ∈ tables_1, d.before a0 Z = true) (a : Addr) (y : Addr) (h0 : Heap) (n0 : Nat) (Z0 : n0 ≤ h0.size) (FF : Fld Z h0 a "com/example/ledgermatch/ledgermatch/AsciiText$View" "bytes" "[B" (.ref y)) :
    Met l Z [] (⟨"com/example/ledgermatch/ledgermatch/AsciiText$View", "bytes", "()[B"⟩ : MethodName) prog_21_method_3_code 1 (some (.array .byte)) ({ frames := 0, cells := 0, slots := 0, locals := 0 } : Room) #[(.ref a)] h0 (QP (some (.ref y)) h0 n0) := by
  refine MetFree.of_bodySF (plainFor_of_name own_pn_0) hisR ?_
  intro p e s m args below meth c s₁ Bd hml0 hP hK
  obtain ⟨rfl, hZ, hh⟩ := hP
  have hx := Bd.exec
  have hby := Bd.bytes
  have hml : c.maxLocals = 1 := hml0
  have hown : s.vm.findClass "com/example/ledgermatch/ledgermatch/AsciiText$View" = some m.cls := findClass_of_methodNamed Bd.named
  have hnm := (name_of_methodNamed Bd.named Bd.method).1
  have X0 : Stand p l e ({ frames := 0, cells := 0, slots := 0, locals := 0 } : Room) s m #[(.ref a)] below meth c s₁ [] 0 0 := Stand.of_body Bd
  have e0 : s₁.heap = h0 := by rw [← hh, Bd.state]; rfl
  have N0 := Fr.nil n0
  have pre0 : ∀ t_, Steps p.tables e below (s₁.setTop (mkF m 0 #[.val (.ref a)] [])) t_ → Steps p.tables e below (s₁.setTop (entryFrame m #[(.ref a)] 1)) t_ := fun t_ k_ => castTop (own_ef_0 m a) k_
  obtain ⟨T1, X1, e1, st1⟩ := getF X0 hx hZ hown (host := "") (Or.inl (hw _ (List.mem_of_getElem? (i := 14) rfl))) Via.refl e0 FF (g := (mkF m 1 #[.val (.ref a)] [(.ref a)])) rfl rfl (hb hby own_d_prog_21_m3_1)
  obtain ⟨fs, hr, hrun, hended, hW, hsame⟩ := X1.leave (v := some (.ref y)) (fun h => by rw [Bd.returns] at h; cases h)
  refine ⟨_, _, pre0 _ ?_, hrun, hended, _, _, rfl, ?_, ⟨_, rfl⟩, hW, hsame.mono (by decide) (by decide)⟩
  · show Steps p.tables e below (s₁.setTop (mkF m 0 #[.val (.ref a)] [])) _
    refine XS.aloadN X0.here hx rfl (hb hby own_d_prog_21_m3_0) rfl rfl ?_
    show Steps p.tables e below (s₁.setTop (mkF m 1 #[.val (.ref a)] [(.ref a)])) _
    refine st1 _ ?_
    show Steps p.tables e below (T1.setTop (mkF m 4 #[.val (.ref a)] [(.ref y)])) _
    jvm_step X1.here [X1.here.top, hx, (hb hby own_d_prog_21_m3_4), X1.method', Bd.returns, Value.isRef, FieldType.isReference]
    first | (intro acts; rw [hr _ acts rfl rfl rfl]) | rw [hr _ _ rfl rfl rfl]
    exact Steps.refl _
  · show (QP (some (.ref y)) h0 n0) _ T1.heap _
    rw [e1]
    exact ⟨rfl, N0, rfl⟩
theorem own_d_prog_21_m4_0 : decode prog_21_method_4_code 0 = .ok (.aload_n 0, 1) := by decide +kernel
theorem own_d_prog_21_m4_1 : decode prog_21_method_4_code 1 = .ok (.getfield 13, 3) := by decide +kernel
theorem own_d_prog_21_m4_4 : decode prog_21_method_4_code 4 = .ok (.ireturn, 1) := by decide +kernel
set_option maxRecDepth 65536 in
set_option maxHeartbeats 40000000 in
theorem own_st (l : Launch) (Z : State) (a0 : Array Value) (hw : ∀ d ∈ tables_1, d.before a0 Z = true) (a : Addr) (x : Int32) (h0 : Heap) (n0 : Nat) (Z0 : n0 ≤ h0.size) (FF : Fld Z h0 a "com/example/ledgermatch/ledgermatch/AsciiText$View" "start" "I" (.int x)) :
    Met l Z [] (⟨"com/example/ledgermatch/ledgermatch/AsciiText$View", "start", "()I"⟩ : MethodName) prog_21_method_4_code 1 (some .int) ({ frames := 0, cells := 0, slots := 0, locals := 0 } : Room) #[(.ref a)] h0 (QP (some (.int x)) h0 n0) := by
  refine MetFree.of_bodySF (plainFor_of_name own_pn_0) hisR ?_
  intro p e s m args below meth c s₁ Bd hml0 hP hK
  obtain ⟨rfl, hZ, hh⟩ := hP
  have hx := Bd.exec
  have hby := Bd.bytes
  have hml : c.maxLocals = 1 := hml0
  have hown : s.vm.findClass "com/example/ledgermatch/ledgermatch/AsciiText$View" = some m.cls := findClass_of_methodNamed Bd.named
  have hnm := (name_of_methodNamed Bd.named Bd.method).1
  have X0 : Stand p l e ({ frames := 0, cells := 0, slots := 0, locals := 0 } : Room) s m #[(.ref a)] below meth c s₁ [] 0 0 := Stand.of_body Bd
  have e0 : s₁.heap = h0 := by rw [← hh, Bd.state]; rfl
  have N0 := Fr.nil n0
  have pre0 : ∀ t_, Steps p.tables e below (s₁.setTop (mkF m 0 #[.val (.ref a)] [])) t_ → Steps p.tables e below (s₁.setTop (entryFrame m #[(.ref a)] 1)) t_ := fun t_ k_ => castTop (own_ef_0 m a) k_
  obtain ⟨T2, X2, e2, st2⟩ := getF X0 hx hZ hown (host := "") (Or.inl (hw _ (List.mem_of_getElem? (i := 21) rfl))) Via.refl e0 FF (g := (mkF m 1 #[.val (.ref a)] [(.ref a)])) rfl rfl (hb hby own_d_prog_21_m4_1)
  obtain ⟨fs, hr, hrun, hended, hW, hsame⟩ := X2.leave (v := some (.int x)) (fun h => by rw [Bd.returns] at h; cases h)
  refine ⟨_, _, pre0 _ ?_, hrun, hended, _, _, rfl, ?_, ⟨_, rfl⟩, hW, hsame.mono (by decide) (by decide)⟩
  · show Steps p.tables e below (s₁.setTop (mkF m 0 #[.val (.ref a)] [])) _
    refine XS.aloadN X0.here hx rfl (hb hby own_d_prog_21_m4_0) rfl rfl ?_
    show Steps p.tables e below (s₁.setTop (mkF m 1 #[.val (.ref a)] [(.ref a)])) _
    refine st2 _ ?_
    show Steps p.tables e below (T2.setTop (mkF m 4 #[.val (.ref a)] [(.int x)])) _
    exact retI X2 hx Bd.returns (hb hby own_d_prog_21_m4_4) hr
  · show (QP (some (.int x)) h0 n0) _ T2.heap _
    rw [e2]
    exact ⟨rfl, N0, rfl⟩
theorem own_d_prog_21_m5_0 : decode prog_21_method_5_code 0 = .ok (.aload_n 0, 1) := by decide +kernel
theorem own_d_prog_21_m5_1 : decode prog_21_method_5_code 1 = .ok (.getfield 17, 3) := by decide +kernel
theorem own_d_prog_21_m5_4 : decode prog_21_method_5_code 4 = .ok (.ireturn, 1) := by decide +kernel
set_option maxRecDepth 65536 in
set_option maxHeartbeats 40000000 in
theorem own_en (l : Launch) (Z : State) (a0 : Array Value) (hw : ∀ d ∈ tables_1, d.before a0 Z = true) (a : Addr) (x : Int32) (h0 : Heap) (n0 : Nat) (Z0 : n0 ≤ h0.size) (FF : Fld Z h0 a "com/example/ledgermatch/ledgermatch/AsciiText$View" "end" "I" (.int x)) :
    Met l Z [] (⟨"com/example/ledgermatch/ledgermatch/AsciiText$View", "end", "()I"⟩ : MethodName) prog_21_method_5_code 1 (some .int) ({ frames := 0, cells := 0, slots := 0, locals := 0 } : Room) #[(.ref a)] h0 (QP (some (.int x)) h0 n0) := by
  refine MetFree.of_bodySF (plainFor_of_name own_pn_0) hisR ?_
  intro p e s m args below meth c s₁ Bd hml0 hP hK
  obtain ⟨rfl, hZ, hh⟩ := hP
  have hx := Bd.exec
  have hby := Bd.bytes
  have hml : c.maxLocals = 1 := hml0
  have hown : s.vm.findClass "com/example/ledgermatch/ledgermatch/AsciiText$View" = some m.cls := findClass_of_methodNamed Bd.named
  have hnm := (name_of_methodNamed Bd.named Bd.method).1
  have X0 : Stand p l e ({ frames := 0, cells := 0, slots := 0, locals := 0 } : Room) s m #[(.ref a)] below meth c s₁ [] 0 0 := Stand.of_body Bd
  have e0 : s₁.heap = h0 := by rw [← hh, Bd.state]; rfl
  have N0 := Fr.nil n0
  have pre0 : ∀ t_, Steps p.tables e below (s₁.setTop (mkF m 0 #[.val (.ref a)] [])) t_ → Steps p.tables e below (s₁.setTop (entryFrame m #[(.ref a)] 1)) t_ := fun t_ k_ => castTop (own_ef_0 m a) k_
  obtain ⟨T3, X3, e3, st3⟩ := getF X0 hx hZ hown (host := "") (Or.inl (hw _ (List.mem_of_getElem? (i := 23) rfl))) Via.refl e0 FF (g := (mkF m 1 #[.val (.ref a)] [(.ref a)])) rfl rfl (hb hby own_d_prog_21_m5_1)
  obtain ⟨fs, hr, hrun, hended, hW, hsame⟩ := X3.leave (v := some (.int x)) (fun h => by rw [Bd.returns] at h; cases h)
  refine ⟨_, _, pre0 _ ?_, hrun, hended, _, _, rfl, ?_, ⟨_, rfl⟩, hW, hsame.mono (by decide) (by decide)⟩
  · show Steps p.tables e below (s₁.setTop (mkF m 0 #[.val (.ref a)] [])) _
    refine XS.aloadN X0.here hx rfl (hb hby own_d_prog_21_m5_0) rfl rfl ?_
    show Steps p.tables e below (s₁.setTop (mkF m 1 #[.val (.ref a)] [(.ref a)])) _
    refine st3 _ ?_
    show Steps p.tables e below (T3.setTop (mkF m 4 #[.val (.ref a)] [(.int x)])) _
    exact retI X3 hx Bd.returns (hb hby own_d_prog_21_m5_4) hr
  · show (QP (some (.int x)) h0 n0) _ T3.heap _
    rw [e3]
    exact ⟨rfl, N0, rfl⟩
theorem own_d_jdk_41_m11_0 : decode jdk_41_method_11_code 0 = .ok (.iload_n 0, 1) := by decide +kernel
theorem own_d_jdk_41_m11_1 : decode jdk_41_method_11_code 1 = .ok (.ifCond .lt 8, 3) := by decide +kernel
theorem own_d_jdk_41_m11_4 : decode jdk_41_method_11_code 4 = .ok (.iload_n 0, 1) := by decide +kernel
theorem own_d_jdk_41_m11_5 : decode jdk_41_method_11_code 5 = .ok (.iload_n 1, 1) := by decide +kernel
theorem own_d_jdk_41_m11_6 : decode jdk_41_method_11_code 6 = .ok (.if_icmp .lt 10, 3) := by decide +kernel
theorem own_d_jdk_41_m11_16 : decode jdk_41_method_11_code 16 = .ok (.iload_n 0, 1) := by decide +kernel
theorem own_d_jdk_41_m11_17 : decode jdk_41_method_11_code 17 = .ok (.ireturn, 1) := by decide +kernel
theorem own_ef_1 (m : MethodId) (x0 : Int32) (x1 : Int32) : entryFrame m #[(.int x0), (.int x1), .null] 3 = mkF m 0 #[.val (.int x0), .val (.int x1), .val .null] [] := by first | (simp [entryFrame, mkF, argsToLocals, Value.category]; done) | rfl
theorem own_pn_1 : plainName "jdk/internal/util/Preconditions" = true := by first | (simp [plainName, overriddenIn]; done) | decide +kernel
set_option maxRecDepth 65536 in
set_option maxHeartbeats 40000000 in
theorem own_prc (l : Launch) (Z : State) (a0 : Array Value) (hw : ∀ d ∈ tables_1, d.before a0 Z = true) (i : Int32) (k : Int32)  (h0 : Heap) (n0 : Nat) (Z0 : n0 ≤ h0.size) (hc1 : ¬ (i < (0 : Int32))) (hc6 : i < k) :
    Met l Z [] (⟨"jdk/internal/util/Preconditions", "checkIndex", "(IILjava/util/function/BiFunction;)I"⟩ : MethodName) jdk_41_method_11_code 3 (some .int) ({ frames := 0, cells := 0, slots := 0, locals := 0 } : Room) #[(.int i), (.int k), .null] h0 (QP (some (.int i)) h0 n0) := by
  refine MetFree.of_bodySF (plainFor_of_name own_pn_1) hisR ?_
  intro p e s m args below meth c s₁ Bd hml0 hP hK
  obtain ⟨rfl, hZ, hh⟩ := hP
  have hx := Bd.exec
  have hby := Bd.bytes
  have hml : c.maxLocals = 3 := hml0
  have hown : s.vm.findClass "jdk/internal/util/Preconditions" = some m.cls := findClass_of_methodNamed Bd.named
  have hnm := (name_of_methodNamed Bd.named Bd.method).1
  have X0 : Stand p l e ({ frames := 0, cells := 0, slots := 0, locals := 0 } : Room) s m #[(.int i), (.int k), .null] below meth c s₁ [] 0 0 := Stand.of_body Bd
  have e0 : s₁.heap = h0 := by rw [← hh, Bd.state]; rfl
  have N0 := Fr.nil n0
  have pre0 : ∀ t_, Steps p.tables e below (s₁.setTop (mkF m 0 #[.val (.int i), .val (.int k), .val .null] [])) t_ → Steps p.tables e below (s₁.setTop (entryFrame m #[(.int i), (.int k), .null] 3)) t_ := fun t_ k_ => castTop (own_ef_1 m i k) k_
  obtain ⟨fs, hr, hrun, hended, hW, hsame⟩ := X0.leave (v := some (.int i)) (fun h => by rw [Bd.returns] at h; cases h)
  refine ⟨_, _, pre0 _ ?_, hrun, hended, _, _, rfl, ?_, ⟨_, rfl⟩, hW, hsame.mono (by decide) (by decide)⟩
  · show Steps p.tables e below (s₁.setTop (mkF m 0 #[.val (.int i), .val (.int k), .val .null] [])) _
    refine XS.iloadN X0.here hx rfl (hb hby own_d_jdk_41_m11_0) rfl ?_
    show Steps p.tables e below (s₁.setTop (mkF m 1 #[.val (.int i), .val (.int k), .val .null] [(.int i)])) _
    refine XS.ifNo X0.here hx rfl (hb hby own_d_jdk_41_m11_1) rfl ((if0 _ _).trans (flt hc1).1) ?_
    show Steps p.tables e below (s₁.setTop (mkF m 4 #[.val (.int i), .val (.int k), .val .null] [])) _
    refine XS.iloadN X0.here hx rfl (hb hby own_d_jdk_41_m11_4) rfl ?_
    show Steps p.tables e below (s₁.setTop (mkF m 5 #[.val (.int i), .val (.int k), .val .null] [(.int i)])) _
    refine XS.iloadN X0.here hx rfl (hb hby own_d_jdk_41_m11_5) rfl ?_
    show Steps p.tables e below (s₁.setTop (mkF m 6 #[.val (.int i), .val (.int k), .val .null] [(.int k), (.int i)])) _
    refine XS.icmpYes X0.here hx rfl (pc0 := 6) (pc' := 16) rfl (hb hby own_d_jdk_41_m11_6) rfl (tlt hc6).1 (by decide) (by decide) ?_
    show Steps p.tables e below (s₁.setTop (mkF m 16 #[.val (.int i), .val (.int k), .val .null] [])) _
    refine XS.iloadN X0.here hx rfl (hb hby own_d_jdk_41_m11_16) rfl ?_
    show Steps p.tables e below (s₁.setTop (mkF m 17 #[.val (.int i), .val (.int k), .val .null] [(.int i)])) _
    exact retI X0 hx Bd.returns (hb hby own_d_jdk_41_m11_17) hr
  · show (QP (some (.int i)) h0 n0) _ s₁.heap _
    rw [e0]
    exact ⟨rfl, N0, rfl⟩
theorem own_d_jdk_31_m17_0 : decode jdk_31_method_17_code 0 = .ok (.iload_n 0, 1) := by decide +kernel
theorem own_d_jdk_31_m17_1 : decode jdk_31_method_17_code 1 = .ok (.iload_n 1, 1) := by decide +kernel
theorem own_d_jdk_31_m17_2 : decode jdk_31_method_17_code 2 = .ok (.aconst_null, 1) := by decide +kernel
theorem own_d_jdk_31_m17_3 : decode jdk_31_method_17_code 3 = .ok (.invokestatic 105, 3) := by decide +kernel
theorem own_pd_0 : parseMethodDescriptor "(IILjava/util/function/BiFunction;)I" = some ⟨[.int, .int, (.object "java/util/function/BiFunction")], some .int⟩ := by decide +kernel
theorem own_d_jdk_31_m17_6 : decode jdk_31_method_17_code 6 = .ok (.ireturn, 1) := by decide +kernel
theorem own_ef_2 (m : MethodId) (x0 : Int32) (x1 : Int32) : entryFrame m #[(.int x0), (.int x1)] 2 = mkF m 0 #[.val (.int x0), .val (.int x1)] [] := by first | (simp [entryFrame, mkF, argsToLocals, Value.category]; done) | rfl
theorem own_pn_2 : plainName "java/util/Objects" = true := by first | (simp [plainName, overriddenIn]; done) | decide +kernel
set_option maxRecDepth 65536 in
set_option maxHeartbeats 40000000 in
theorem own_chk (l : Launch) (Z : State) (a0 : Array Value) (hw : ∀ d ∈ tables_1, d.before a0 Z = true) (i : Int32) (k : Int32)  (h0 : Heap) (n0 : Nat) (Z0 : n0 ≤ h0.size) (h1 : ¬ (i < (0 : Int32))) (h2 : i < k) :
    Met l Z [] (⟨"java/util/Objects", "checkIndex", "(II)I"⟩ : MethodName) jdk_31_method_17_code 2 (some .int) ({ frames := 1, cells := 0, slots := 0, locals := 14 } : Room) #[(.int i), (.int k)] h0 (QP (some (.int i)) h0 n0) := by
  refine MetFree.of_bodySF (plainFor_of_name own_pn_2) hisR ?_
  intro p e s m args below meth c s₁ Bd hml0 hP hK
  obtain ⟨rfl, hZ, hh⟩ := hP
  have hx := Bd.exec
  have hby := Bd.bytes
  have hml : c.maxLocals = 2 := hml0
  have hown : s.vm.findClass "java/util/Objects" = some m.cls := findClass_of_methodNamed Bd.named
  have hnm := (name_of_methodNamed Bd.named Bd.method).1
  have X0 : Stand p l e ({ frames := 1, cells := 0, slots := 0, locals := 14 } : Room) s m #[(.int i), (.int k)] below meth c s₁ [] 0 0 := Stand.of_body Bd
  have e0 : s₁.heap = h0 := by rw [← hh, Bd.state]; rfl
  have N0 := Fr.nil n0
  have pre0 : ∀ t_, Steps p.tables e below (s₁.setTop (mkF m 0 #[.val (.int i), .val (.int k)] [])) t_ → Steps p.tables e below (s₁.setTop (entryFrame m #[(.int i), (.int k)] 2)) t_ := fun t_ k_ => castTop (own_ef_2 m i k) k_
  obtain ⟨_, _, ⟨T4, L4, k4, n4⟩, -, X4, ⟨Lc4, hQ4, l4, y4, z4⟩, st4⟩ := Jvm.LawKit.callS X0 hx (y := (⟨"jdk/internal/util/Preconditions", "checkIndex", "(IILjava/util/function/BiFunction;)I"⟩ : MethodName)) hown (mvT hZ (hw _ (List.mem_of_getElem? (i := 78) rfl))) (mvT hZ (hw _ (List.mem_of_getElem? (i := 79) rfl))) (mvT hZ (hw _ (List.mem_of_getElem? (i := 80) rfl))) (mvT hZ (hw _ (List.mem_of_getElem? (i := 81) rfl))) (by decide) (backOf (W := 0) (own_prc l Z a0 hw i k h0 n0 Z0 h1 h2) hZ (hw _ (List.mem_of_getElem? (i := 81) rfl)) (hw _ (List.mem_of_getElem? (i := 80) rfl)) (by decide) (by decide)) (g := (mkF m 3 #[.val (.int i), .val (.int k)] [.null, (.int k), (.int i)])) rfl (by rw [hml]; rfl) (argsL := [(.int i), (.int k), .null]) (rest := []) (lenOf own_pd_0 rfl) rfl (by show 2 * 0 + _ ≤ _; exact Nat.le_of_eq rfl) (hb hby own_d_jdk_31_m17_3) (fun _ _ => ⟨rfl, e0, (by decide : 0 + 0 ≤ _), (by decide : 0 + 0 ≤ _)⟩)
  dsimp only [Pt.U, Pt.locs, Pt.cells, Pt.slots] at X4 l4 y4 z4 st4 hQ4
  subst l4 y4 z4
  obtain ⟨rfl, Nq4, eh4⟩ := hQ4
  have N4 := Fr.app N0 Nq4
  have e4 : T4.heap = h0 := eh4
  obtain ⟨fs, hr, hrun, hended, hW, hsame⟩ := X4.leave (v := some (.int i)) (fun h => by rw [Bd.returns] at h; cases h)
  refine ⟨_, _, pre0 _ ?_, hrun, hended, _, _, rfl, ?_, ⟨_, rfl⟩, hW, hsame.mono (by decide) (by decide)⟩
  · show Steps p.tables e below (s₁.setTop (mkF m 0 #[.val (.int i), .val (.int k)] [])) _
    refine XS.iloadN X0.here hx rfl (hb hby own_d_jdk_31_m17_0) rfl ?_
    show Steps p.tables e below (s₁.setTop (mkF m 1 #[.val (.int i), .val (.int k)] [(.int i)])) _
    refine XS.iloadN X0.here hx rfl (hb hby own_d_jdk_31_m17_1) rfl ?_
    show Steps p.tables e below (s₁.setTop (mkF m 2 #[.val (.int i), .val (.int k)] [(.int k), (.int i)])) _
    refine XS.aconstNull X0.here hx rfl (hb hby own_d_jdk_31_m17_2) ?_
    show Steps p.tables e below (s₁.setTop (mkF m 3 #[.val (.int i), .val (.int k)] [.null, (.int k), (.int i)])) _
    refine st4 _ ?_
    show Steps p.tables e below (T4.setTop (mkF m 6 #[.val (.int i), .val (.int k)] [(.int i)])) _
    exact retI X4 hx Bd.returns (hb hby own_d_jdk_31_m17_6) hr
  · show (QP (some (.int i)) h0 n0) _ T4.heap _
    rw [e4]
    exact ⟨rfl, N4, rfl⟩
/-- four: a fresh byte[4]; all that stood stands as it stood -/
def own_Q4 (Z : State) (vs : List Value) (h0 : Heap) (n0 : Nat) (v : Option Value) (h : Heap) (L : List Loc) : Prop := ∃ (b : Addr) (k : ClassId), v = some (.ref b) ∧ Fr n0 L ∧ Keep h0 h [] ∧ h0.size ≤ b ∧ Arv Z h b k .byte (4 : Int32) vs (.int (0 : Int32))
/-- the constructor, and 'point': the view's fields; all else is kept -/
def own_QI (Z : State) (a : Addr) (h0 : Heap) (n0 : Nat) (v : Option Value) (h : Heap) (L : List Loc) : Prop := v = none ∧ Fr n0 L ∧ Keep h0 h [a] ∧ (∃ u, Fld Z h a "com/example/ledgermatch/ledgermatch/AsciiText$View" "bytes" "[B" u) ∧ Fld Z h a "com/example/ledgermatch/ledgermatch/AsciiText$View" "start" "I" (.int (0 : Int32)) ∧ Fld Z h a "com/example/ledgermatch/ledgermatch/AsciiText$View" "end" "I" (.int (0 : Int32))
def own_QV (Z : State) (a x : Addr) (st en : Int32) (h0 : Heap) (n0 : Nat) (v : Option Value) (h : Heap) (L : List Loc) : Prop := v = none ∧ Fr n0 L ∧ Keep h0 h [a] ∧ Fld Z h a "com/example/ledgermatch/ledgermatch/AsciiText$View" "bytes" "[B" (.ref x) ∧ Fld Z h a "com/example/ledgermatch/ledgermatch/AsciiText$View" "start" "I" (.int st) ∧ Fld Z h a "com/example/ledgermatch/ledgermatch/AsciiText$View" "end" "I" (.int en)
/-- the law returns 1; all that it wrote is new -/
def own_Q1 (n0 : Nat) (v : Option Value) (h : Heap) (L : List Loc) : Prop := v = some (.int 1) ∧ Fr n0 L
theorem own_d_m2_0 : decode method_2_code 0 = .ok (.iconst 4, 1) := by decide +kernel
theorem own_d_m2_1 : decode method_2_code 1 = .ok (.newarray .byte, 2) := by decide +kernel
theorem own_d_m2_3 : decode method_2_code 3 = .ok (.astore_n 1, 1) := by decide +kernel
theorem own_d_m2_4 : decode method_2_code 4 = .ok (.aload_n 1, 1) := by decide +kernel
theorem own_d_m2_5 : decode method_2_code 5 = .ok (.iconst 0, 1) := by decide +kernel
theorem own_d_m2_6 : decode method_2_code 6 = .ok (.iload_n 0, 1) := by decide +kernel
theorem own_d_m2_7 : decode method_2_code 7 = .ok (.i2b, 1) := by decide +kernel
theorem own_d_m2_8 : decode method_2_code 8 = .ok (.bastore, 1) := by decide +kernel
theorem own_d_m2_9 : decode method_2_code 9 = .ok (.aload_n 1, 1) := by decide +kernel
theorem own_d_m2_10 : decode method_2_code 10 = .ok (.iconst 1, 1) := by decide +kernel
theorem own_d_m2_11 : decode method_2_code 11 = .ok (.iload_n 0, 1) := by decide +kernel
theorem own_d_m2_12 : decode method_2_code 12 = .ok (.bipush 8, 2) := by decide +kernel
theorem own_d_m2_14 : decode method_2_code 14 = .ok (.ishr, 1) := by decide +kernel
theorem own_d_m2_15 : decode method_2_code 15 = .ok (.i2b, 1) := by decide +kernel
theorem own_d_m2_16 : decode method_2_code 16 = .ok (.bastore, 1) := by decide +kernel
theorem own_d_m2_17 : decode method_2_code 17 = .ok (.aload_n 1, 1) := by decide +kernel
theorem own_d_m2_18 : decode method_2_code 18 = .ok (.iconst 2, 1) := by decide +kernel
theorem own_d_m2_19 : decode method_2_code 19 = .ok (.iload_n 0, 1) := by decide +kernel
theorem own_d_m2_20 : decode method_2_code 20 = .ok (.bipush 16, 2) := by decide +kernel
theorem own_d_m2_22 : decode method_2_code 22 = .ok (.ishr, 1) := by decide +kernel
theorem own_d_m2_23 : decode method_2_code 23 = .ok (.i2b, 1) := by decide +kernel
theorem own_d_m2_24 : decode method_2_code 24 = .ok (.bastore, 1) := by decide +kernel
theorem own_d_m2_25 : decode method_2_code 25 = .ok (.aload_n 1, 1) := by decide +kernel
theorem own_d_m2_26 : decode method_2_code 26 = .ok (.iconst 3, 1) := by decide +kernel
theorem own_d_m2_27 : decode method_2_code 27 = .ok (.iload_n 0, 1) := by decide +kernel
theorem own_d_m2_28 : decode method_2_code 28 = .ok (.bipush 24, 2) := by decide +kernel
theorem own_d_m2_30 : decode method_2_code 30 = .ok (.ishr, 1) := by decide +kernel
theorem own_d_m2_31 : decode method_2_code 31 = .ok (.i2b, 1) := by decide +kernel
theorem own_d_m2_32 : decode method_2_code 32 = .ok (.bastore, 1) := by decide +kernel
theorem own_d_m2_33 : decode method_2_code 33 = .ok (.aload_n 1, 1) := by decide +kernel
theorem own_d_m2_34 : decode method_2_code 34 = .ok (.areturn, 1) := by decide +kernel
theorem own_ef_3 (m : MethodId) (x0 : Int32) : entryFrame m #[(.int x0)] 2 = mkF m 0 #[.val (.int x0), .unset] [] := by first | (simp [entryFrame, mkF, argsToLocals, Value.category]; done) | rfl
theorem own_pn_3 : plainName "com/example/ledgermatch/ledgermatch/ViewPointPinLaw" = true := by first | (simp [plainName, overriddenIn]; done) | decide +kernel
set_option maxRecDepth 65536 in
set_option maxHeartbeats 40000000 in
theorem own_four (l : Launch) (Z : State) (a0 : Array Value) (hw : ∀ d ∈ tables_1, d.before a0 Z = true) (pp : Int32)  (h0 : Heap) (n0 : Nat) (Z0 : n0 ≤ h0.size) :
    Met l Z [] (⟨"com/example/ledgermatch/ledgermatch/ViewPointPinLaw", "four", "(I)[B"⟩ : MethodName) method_2_code 2 (some (.array .byte)) ({ frames := 0, cells := 1, slots := 4, locals := 0 } : Room) #[(.int pp)] h0 (own_Q4 Z [(.int (nar .byte (pp.toInt8.toInt32))), (.int (nar .byte ((pp >>> ((8 : Int32) &&& 31)).toInt8.toInt32))), (.int (nar .byte ((pp >>> ((16 : Int32) &&& 31)).toInt8.toInt32))), (.int (nar .byte ((pp >>> ((24 : Int32) &&& 31)).toInt8.toInt32)))] h0 n0) := by
  refine MetFree.of_bodySF (plainFor_of_name own_pn_3) hisR ?_
  intro p e s m args below meth c s₁ Bd hml0 hP hK
  obtain ⟨rfl, hZ, hh⟩ := hP
  have hx := Bd.exec
  have hby := Bd.bytes
  have hml : c.maxLocals = 2 := hml0
  have hown : s.vm.findClass "com/example/ledgermatch/ledgermatch/ViewPointPinLaw" = some m.cls := findClass_of_methodNamed Bd.named
  have hnm := (name_of_methodNamed Bd.named Bd.method).1
  have X0 : Stand p l e ({ frames := 0, cells := 1, slots := 4, locals := 0 } : Room) s m #[(.int pp)] below meth c s₁ [] 0 0 := Stand.of_body Bd
  have e0 : s₁.heap = h0 := by rw [← hh, Bd.state]; rfl
  have N0 := Fr.nil n0
  have pre0 : ∀ t_, Steps p.tables e below (s₁.setTop (mkF m 0 #[.val (.int pp), .unset] [])) t_ → Steps p.tables e below (s₁.setTop (entryFrame m #[(.int pp)] 2)) t_ := fun t_ k_ => castTop (own_ef_3 m pp) k_
  obtain ⟨T5, h5, k5, X5, e5, E5, A5, st5⟩ := newP X0 hx hZ (hw _ (List.mem_of_getElem? (i := 4) rfl)) e0 (g := (mkF m 1 #[.val (.int pp), .unset] [(.int (4 : Int32))])) rfl (hb hby own_d_m2_1) rfl (by decide) (cap := 4) (by decide) (by decide) (by decide) (by decide)
  obtain ⟨b5, g5⟩ : ∃ z, z = h0.size := ⟨_, rfl⟩
  rw [← g5] at A5 st5
  have g_b5 : n0 ≤ b5 := Nat.le_trans Z0 (Nat.le_of_eq g5.symm)
  have sz_b5 : h0.size ≤ b5 := Nat.le_trans (Nat.le_refl h0.size) (Nat.le_of_eq g5.symm)
  have KZ_5 : n0 ≤ h5.size := Nat.le_trans Z0 E5.1
  have KY_5 : h0.size ≤ h5.size := Nat.le_trans (Nat.le_refl h0.size) E5.1
  have KP_5 : Keep h0 h5 [] := (Keep.refl h0 []).ext E5
  have V_b5 : Arv Z h5 b5 k5 .byte (4 : Int32) [(.int (0 : Int32)), (.int (0 : Int32)), (.int (0 : Int32)), (.int (0 : Int32))] (.int (0 : Int32)) := (Arv.new A5 (by decide)).pad (pad_rep [] (.int (0 : Int32)) 4)
  obtain ⟨cl_b5_8, Ar_b5_8, q_b5_8, S_b5_8, N_b5_8, H_b5_8, G_b5_8⟩ := V_b5
  have hinb5_8 : ¬ ((0 : Int32) < 0 ∨ cl_b5_8.slots.size ≤ ((0 : Int32)).toNatClampNeg) := inb_of S_b5_8 ⟨by decide, by decide⟩
  obtain ⟨T6, h6, X6, e6, W6, st6⟩ := stB X5 hx hZ e5 Ar_b5_8 (j := (0 : Int32)) hinb5_8 (g := (mkF m 8 #[.val (.int pp), .val (.ref b5)] [(.int (pp.toInt8.toInt32)), (.int (0 : Int32)), (.ref b5)])) rfl rfl (hb hby own_d_m2_8)
  have V_b5_6 : Arv Z h6 b5 k5 .byte (4 : Int32) [(.int (nar .byte (pp.toInt8.toInt32))), (.int (0 : Int32)), (.int (0 : Int32)), (.int (0 : Int32))] (.int (0 : Int32)) := Arv.set Ar_b5_8 q_b5_8 S_b5_8 N_b5_8 H_b5_8 G_b5_8 (fits_nar_byte _) W6 0 rfl (Nat.le_of_ble_eq_true rfl)
  have KZ_6 : n0 ≤ h6.size := Nat.le_trans KZ_5 (Keep.of_wr W6).1
  have KY_6 : h0.size ≤ h6.size := Nat.le_trans KY_5 (Keep.of_wr W6).1
  have KP_6 : Keep h0 h6 [] := KP_5.wr W6 (Or.inr sz_b5)
  have N6 := Fr.snoc X6 N0 g_b5
  obtain ⟨cl_b5_16, Ar_b5_16, q_b5_16, S_b5_16, N_b5_16, H_b5_16, G_b5_16⟩ := V_b5_6
  have hinb5_16 : ¬ ((1 : Int32) < 0 ∨ cl_b5_16.slots.size ≤ ((1 : Int32)).toNatClampNeg) := inb_of S_b5_16 ⟨by decide, by decide⟩
  obtain ⟨T7, h7, X7, e7, W7, st7⟩ := stB X6 hx hZ e6 Ar_b5_16 (j := (1 : Int32)) hinb5_16 (g := (mkF m 16 #[.val (.int pp), .val (.ref b5)] [(.int ((pp >>> ((8 : Int32) &&& 31)).toInt8.toInt32)), (.int (1 : Int32)), (.ref b5)])) rfl rfl (hb hby own_d_m2_16)
  have V_b5_7 : Arv Z h7 b5 k5 .byte (4 : Int32) [(.int (nar .byte (pp.toInt8.toInt32))), (.int (nar .byte ((pp >>> ((8 : Int32) &&& 31)).toInt8.toInt32))), (.int (0 : Int32)), (.int (0 : Int32))] (.int (0 : Int32)) := Arv.set Ar_b5_16 q_b5_16 S_b5_16 N_b5_16 H_b5_16 G_b5_16 (fits_nar_byte _) W7 1 rfl (Nat.le_of_ble_eq_true rfl)
  have KZ_7 : n0 ≤ h7.size := Nat.le_trans KZ_6 (Keep.of_wr W7).1
  have KY_7 : h0.size ≤ h7.size := Nat.le_trans KY_6 (Keep.of_wr W7).1
  have KP_7 : Keep h0 h7 [] := KP_6.wr W7 (Or.inr sz_b5)
  have N7 := Fr.snoc X7 N6 g_b5
  obtain ⟨cl_b5_24, Ar_b5_24, q_b5_24, S_b5_24, N_b5_24, H_b5_24, G_b5_24⟩ := V_b5_7
  have hinb5_24 : ¬ ((2 : Int32) < 0 ∨ cl_b5_24.slots.size ≤ ((2 : Int32)).toNatClampNeg) := inb_of S_b5_24 ⟨by decide, by decide⟩
  obtain ⟨T8, h8, X8, e8, W8, st8⟩ := stB X7 hx hZ e7 Ar_b5_24 (j := (2 : Int32)) hinb5_24 (g := (mkF m 24 #[.val (.int pp), .val (.ref b5)] [(.int ((pp >>> ((16 : Int32) &&& 31)).toInt8.toInt32)), (.int (2 : Int32)), (.ref b5)])) rfl rfl (hb hby own_d_m2_24)
  have V_b5_8 : Arv Z h8 b5 k5 .byte (4 : Int32) [(.int (nar .byte (pp.toInt8.toInt32))), (.int (nar .byte ((pp >>> ((8 : Int32) &&& 31)).toInt8.toInt32))), (.int (nar .byte ((pp >>> ((16 : Int32) &&& 31)).toInt8.toInt32))), (.int (0 : Int32))] (.int (0 : Int32)) := Arv.set Ar_b5_24 q_b5_24 S_b5_24 N_b5_24 H_b5_24 G_b5_24 (fits_nar_byte _) W8 2 rfl (Nat.le_of_ble_eq_true rfl)
  have KZ_8 : n0 ≤ h8.size := Nat.le_trans KZ_7 (Keep.of_wr W8).1
  have KY_8 : h0.size ≤ h8.size := Nat.le_trans KY_7 (Keep.of_wr W8).1
  have KP_8 : Keep h0 h8 [] := KP_7.wr W8 (Or.inr sz_b5)
  have N8 := Fr.snoc X8 N7 g_b5
  obtain ⟨cl_b5_32, Ar_b5_32, q_b5_32, S_b5_32, N_b5_32, H_b5_32, G_b5_32⟩ := V_b5_8
  have hinb5_32 : ¬ ((3 : Int32) < 0 ∨ cl_b5_32.slots.size ≤ ((3 : Int32)).toNatClampNeg) := inb_of S_b5_32 ⟨by decide, by decide⟩
  obtain ⟨T9, h9, X9, e9, W9, st9⟩ := stB X8 hx hZ e8 Ar_b5_32 (j := (3 : Int32)) hinb5_32 (g := (mkF m 32 #[.val (.int pp), .val (.ref b5)] [(.int ((pp >>> ((24 : Int32) &&& 31)).toInt8.toInt32)), (.int (3 : Int32)), (.ref b5)])) rfl rfl (hb hby own_d_m2_32)
  have V_b5_9 : Arv Z h9 b5 k5 .byte (4 : Int32) [(.int (nar .byte (pp.toInt8.toInt32))), (.int (nar .byte ((pp >>> ((8 : Int32) &&& 31)).toInt8.toInt32))), (.int (nar .byte ((pp >>> ((16 : Int32) &&& 31)).toInt8.toInt32))), (.int (nar .byte ((pp >>> ((24 : Int32) &&& 31)).toInt8.toInt32)))] (.int (0 : Int32)) := Arv.set Ar_b5_32 q_b5_32 S_b5_32 N_b5_32 H_b5_32 G_b5_32 (fits_nar_byte _) W9 3 rfl (Nat.le_of_ble_eq_true rfl)
  have KZ_9 : n0 ≤ h9.size := Nat.le_trans KZ_8 (Keep.of_wr W9).1
  have KY_9 : h0.size ≤ h9.size := Nat.le_trans KY_8 (Keep.of_wr W9).1
  have KP_9 : Keep h0 h9 [] := KP_8.wr W9 (Or.inr sz_b5)
  have N9 := Fr.snoc X9 N8 g_b5
  obtain ⟨fs, hr, hrun, hended, hW, hsame⟩ := X9.leave (v := some (.ref b5)) (fun h => by rw [Bd.returns] at h; cases h)
  refine ⟨_, _, pre0 _ ?_, hrun, hended, _, _, rfl, ?_, ⟨_, rfl⟩, hW, hsame.mono (by decide) (by decide)⟩
  · show Steps p.tables e below (s₁.setTop (mkF m 0 #[.val (.int pp), .unset] [])) _
    refine XS.iconst X0.here hx rfl (hb hby own_d_m2_0) ?_
    show Steps p.tables e below (s₁.setTop (mkF m 1 #[.val (.int pp), .unset] [(.int (4 : Int32))])) _
    refine st5 _ ?_
    show Steps p.tables e below (T5.setTop (mkF m 3 #[.val (.int pp), .unset] [(.ref b5)])) _
    refine XS.astoreN X5.here hx rfl (hb hby own_d_m2_3) rfl rfl (l' := #[.val (.int pp), .val (.ref b5)]) rfl ?_
    show Steps p.tables e below (T5.setTop (mkF m 4 #[.val (.int pp), .val (.ref b5)] [])) _
    refine XS.aloadN X5.here hx rfl (hb hby own_d_m2_4) rfl rfl ?_
    show Steps p.tables e below (T5.setTop (mkF m 5 #[.val (.int pp), .val (.ref b5)] [(.ref b5)])) _
    refine XS.iconst X5.here hx rfl (hb hby own_d_m2_5) ?_
    show Steps p.tables e below (T5.setTop (mkF m 6 #[.val (.int pp), .val (.ref b5)] [(.int (0 : Int32)), (.ref b5)])) _
    refine XS.iloadN X5.here hx rfl (hb hby own_d_m2_6) rfl ?_
    show Steps p.tables e below (T5.setTop (mkF m 7 #[.val (.int pp), .val (.ref b5)] [(.int pp), (.int (0 : Int32)), (.ref b5)])) _
    refine XS.i2b X5.here hx rfl (hb hby own_d_m2_7) rfl ?_
    show Steps p.tables e below (T5.setTop (mkF m 8 #[.val (.int pp), .val (.ref b5)] [(.int (pp.toInt8.toInt32)), (.int (0 : Int32)), (.ref b5)])) _
    refine st6 _ ?_
    show Steps p.tables e below (T6.setTop (mkF m 9 #[.val (.int pp), .val (.ref b5)] [])) _
    refine XS.aloadN X6.here hx rfl (hb hby own_d_m2_9) rfl rfl ?_
    show Steps p.tables e below (T6.setTop (mkF m 10 #[.val (.int pp), .val (.ref b5)] [(.ref b5)])) _
    refine XS.iconst X6.here hx rfl (hb hby own_d_m2_10) ?_
    show Steps p.tables e below (T6.setTop (mkF m 11 #[.val (.int pp), .val (.ref b5)] [(.int (1 : Int32)), (.ref b5)])) _
    refine XS.iloadN X6.here hx rfl (hb hby own_d_m2_11) rfl ?_
    show Steps p.tables e below (T6.setTop (mkF m 12 #[.val (.int pp), .val (.ref b5)] [(.int pp), (.int (1 : Int32)), (.ref b5)])) _
    refine XS.bipush X6.here hx rfl (hb hby own_d_m2_12) ?_
    show Steps p.tables e below (T6.setTop (mkF m 14 #[.val (.int pp), .val (.ref b5)] [(.int (8 : Int32)), (.int pp), (.int (1 : Int32)), (.ref b5)])) _
    refine XS.ishr X6.here hx rfl (hb hby own_d_m2_14) rfl ?_
    show Steps p.tables e below (T6.setTop (mkF m 15 #[.val (.int pp), .val (.ref b5)] [(.int (pp >>> ((8 : Int32) &&& 31))), (.int (1 : Int32)), (.ref b5)])) _
    refine XS.i2b X6.here hx rfl (hb hby own_d_m2_15) rfl ?_
    show Steps p.tables e below (T6.setTop (mkF m 16 #[.val (.int pp), .val (.ref b5)] [(.int ((pp >>> ((8 : Int32) &&& 31)).toInt8.toInt32)), (.int (1 : Int32)), (.ref b5)])) _
    refine st7 _ ?_
    show Steps p.tables e below (T7.setTop (mkF m 17 #[.val (.int pp), .val (.ref b5)] [])) _
    refine XS.aloadN X7.here hx rfl (hb hby own_d_m2_17) rfl rfl ?_
    show Steps p.tables e below (T7.setTop (mkF m 18 #[.val (.int pp), .val (.ref b5)] [(.ref b5)])) _
    refine XS.iconst X7.here hx rfl (hb hby own_d_m2_18) ?_
    show Steps p.tables e below (T7.setTop (mkF m 19 #[.val (.int pp), .val (.ref b5)] [(.int (2 : Int32)), (.ref b5)])) _
    refine XS.iloadN X7.here hx rfl (hb hby own_d_m2_19) rfl ?_
    show Steps p.tables e below (T7.setTop (mkF m 20 #[.val (.int pp), .val (.ref b5)] [(.int pp), (.int (2 : Int32)), (.ref b5)])) _
    refine XS.bipush X7.here hx rfl (hb hby own_d_m2_20) ?_
    show Steps p.tables e below (T7.setTop (mkF m 22 #[.val (.int pp), .val (.ref b5)] [(.int (16 : Int32)), (.int pp), (.int (2 : Int32)), (.ref b5)])) _
    refine XS.ishr X7.here hx rfl (hb hby own_d_m2_22) rfl ?_
    show Steps p.tables e below (T7.setTop (mkF m 23 #[.val (.int pp), .val (.ref b5)] [(.int (pp >>> ((16 : Int32) &&& 31))), (.int (2 : Int32)), (.ref b5)])) _
    refine XS.i2b X7.here hx rfl (hb hby own_d_m2_23) rfl ?_
    show Steps p.tables e below (T7.setTop (mkF m 24 #[.val (.int pp), .val (.ref b5)] [(.int ((pp >>> ((16 : Int32) &&& 31)).toInt8.toInt32)), (.int (2 : Int32)), (.ref b5)])) _
    refine st8 _ ?_
    show Steps p.tables e below (T8.setTop (mkF m 25 #[.val (.int pp), .val (.ref b5)] [])) _
    refine XS.aloadN X8.here hx rfl (hb hby own_d_m2_25) rfl rfl ?_
    show Steps p.tables e below (T8.setTop (mkF m 26 #[.val (.int pp), .val (.ref b5)] [(.ref b5)])) _
    refine XS.iconst X8.here hx rfl (hb hby own_d_m2_26) ?_
    show Steps p.tables e below (T8.setTop (mkF m 27 #[.val (.int pp), .val (.ref b5)] [(.int (3 : Int32)), (.ref b5)])) _
    refine XS.iloadN X8.here hx rfl (hb hby own_d_m2_27) rfl ?_
    show Steps p.tables e below (T8.setTop (mkF m 28 #[.val (.int pp), .val (.ref b5)] [(.int pp), (.int (3 : Int32)), (.ref b5)])) _
    refine XS.bipush X8.here hx rfl (hb hby own_d_m2_28) ?_
    show Steps p.tables e below (T8.setTop (mkF m 30 #[.val (.int pp), .val (.ref b5)] [(.int (24 : Int32)), (.int pp), (.int (3 : Int32)), (.ref b5)])) _
    refine XS.ishr X8.here hx rfl (hb hby own_d_m2_30) rfl ?_
    show Steps p.tables e below (T8.setTop (mkF m 31 #[.val (.int pp), .val (.ref b5)] [(.int (pp >>> ((24 : Int32) &&& 31))), (.int (3 : Int32)), (.ref b5)])) _
    refine XS.i2b X8.here hx rfl (hb hby own_d_m2_31) rfl ?_
    show Steps p.tables e below (T8.setTop (mkF m 32 #[.val (.int pp), .val (.ref b5)] [(.int ((pp >>> ((24 : Int32) &&& 31)).toInt8.toInt32)), (.int (3 : Int32)), (.ref b5)])) _
    refine st9 _ ?_
    show Steps p.tables e below (T9.setTop (mkF m 33 #[.val (.int pp), .val (.ref b5)] [])) _
    refine XS.aloadN X9.here hx rfl (hb hby own_d_m2_33) rfl rfl ?_
    show Steps p.tables e below (T9.setTop (mkF m 34 #[.val (.int pp), .val (.ref b5)] [(.ref b5)])) _
    jvm_step X9.here [X9.here.top, hx, (hb hby own_d_m2_34), X9.method', Bd.returns, Value.isRef, FieldType.isReference]
    first | (intro acts; rw [hr _ acts rfl rfl rfl]) | rw [hr _ _ rfl rfl rfl]
    exact Steps.refl _
  · show (own_Q4 Z [(.int (nar .byte (pp.toInt8.toInt32))), (.int (nar .byte ((pp >>> ((8 : Int32) &&& 31)).toInt8.toInt32))), (.int (nar .byte ((pp >>> ((16 : Int32) &&& 31)).toInt8.toInt32))), (.int (nar .byte ((pp >>> ((24 : Int32) &&& 31)).toInt8.toInt32)))] h0 n0) _ T9.heap _
    rw [e9]
    exact ⟨_, _, rfl, N9, KP_9, sz_b5, V_b5_9⟩
theorem own_d_prog_21_m1_0 : decode prog_21_method_1_code 0 = .ok (.aload_n 0, 1) := by decide +kernel
theorem own_d_prog_21_m1_1 : decode prog_21_method_1_code 1 = .ok (.invokespecial 1, 3) := by decide +kernel
theorem own_d_prog_21_m1_4 : decode prog_21_method_1_code 4 = .ok (.aload_n 0, 1) := by decide +kernel
theorem own_d_prog_21_m1_5 : decode prog_21_method_1_code 5 = .ok (.iconst 0, 1) := by decide +kernel
theorem own_d_prog_21_m1_6 : decode prog_21_method_1_code 6 = .ok (.newarray .byte, 2) := by decide +kernel
theorem own_d_prog_21_m1_8 : decode prog_21_method_1_code 8 = .ok (.putfield 7, 3) := by decide +kernel
theorem own_d_prog_21_m1_11 : decode prog_21_method_1_code 11 = .ok (.return_, 1) := by decide +kernel
set_option maxRecDepth 65536 in
set_option maxHeartbeats 40000000 in
theorem own_init (l : Launch) (Z : State) (a0 : Array Value) (hw : ∀ d ∈ tables_1, d.before a0 Z = true) (a : Addr) (u0 : Value) (h0 : Heap) (n0 : Nat) (Z0 : n0 ≤ h0.size) (EV : Exa Z h0 a "com/example/ledgermatch/ledgermatch/AsciiText$View") (FB : Fld Z h0 a "com/example/ledgermatch/ledgermatch/AsciiText$View" "bytes" "[B" u0) (FS : Fld Z h0 a "com/example/ledgermatch/ledgermatch/AsciiText$View" "start" "I" (.int (0 : Int32))) (FE : Fld Z h0 a "com/example/ledgermatch/ledgermatch/AsciiText$View" "end" "I" (.int (0 : Int32))) (g_a : n0 ≤ a) :
    Met l Z [] (⟨"com/example/ledgermatch/ledgermatch/AsciiText$View", "<init>", "()V"⟩ : MethodName) prog_21_method_1_code 1 none ({ frames := 1, cells := 1, slots := 0, locals := 12 } : Room) #[(.ref a)] h0 (own_QI Z a h0 n0) := by
  refine MetFree.of_bodySF (plainFor_of_name own_pn_0) hisR ?_
  intro p e s m args below meth c s₁ Bd hml0 hP hK
  obtain ⟨rfl, hZ, hh⟩ := hP
  have hx := Bd.exec
  have hby := Bd.bytes
  have hml : c.maxLocals = 1 := hml0
  have hown : s.vm.findClass "com/example/ledgermatch/ledgermatch/AsciiText$View" = some m.cls := findClass_of_methodNamed Bd.named
  have hnm := (name_of_methodNamed Bd.named Bd.method).1
  have X0 : Stand p l e ({ frames := 1, cells := 1, slots := 0, locals := 12 } : Room) s m #[(.ref a)] below meth c s₁ [] 0 0 := Stand.of_body Bd
  have e0 : s₁.heap = h0 := by rw [← hh, Bd.state]; rfl
  have N0 := Fr.nil n0
  have pre0 : ∀ t_, Steps p.tables e below (s₁.setTop (mkF m 0 #[.val (.ref a)] [])) t_ → Steps p.tables e below (s₁.setTop (entryFrame m #[(.ref a)] 1)) t_ := fun t_ k_ => castTop (own_ef_0 m a) k_
  obtain ⟨T10, X10, e10, st10⟩ := initO X0 hx hZ hown (hw _ (List.mem_of_getElem? (i := 11) rfl)) (hw _ (List.mem_of_getElem? (i := 12) rfl)) (hw _ (List.mem_of_getElem? (i := 13) rfl)) e0 (g := (mkF m 1 #[.val (.ref a)] [(.ref a)])) rfl (by rw [hml]; rfl) rfl (hb hby own_d_prog_21_m1_1) (by decide) (W := 0) (by show 2 * 0 + _ ≤ _; exact Nat.le_of_eq rfl) (by decide)
  obtain ⟨T11, h11, k11, X11, e11, E11, A11, st11⟩ := newP X10 hx hZ (hw _ (List.mem_of_getElem? (i := 4) rfl)) e10 (g := (mkF m 6 #[.val (.ref a)] [(.int (0 : Int32)), (.ref a)])) rfl (hb hby own_d_prog_21_m1_6) rfl (by decide) (cap := 0) (by decide) (by decide) (by decide) (by decide)
  obtain ⟨b11, g11⟩ : ∃ z, z = h0.size := ⟨_, rfl⟩
  rw [← g11] at A11 st11
  have ne_a_b11 : a ≠ b11 := Nat.ne_of_lt (Nat.lt_of_lt_of_le EV.lt (Nat.le_of_eq g11.symm))
  have g_b11 : n0 ≤ b11 := Nat.le_trans Z0 (Nat.le_of_eq g11.symm)
  have sz_b11 : h0.size ≤ b11 := Nat.le_trans (Nat.le_refl h0.size) (Nat.le_of_eq g11.symm)
  have EV_11 : Exa Z h11 a "com/example/ledgermatch/ledgermatch/AsciiText$View" := EV.ext E11
  have FB_11 : Fld Z h11 a "com/example/ledgermatch/ledgermatch/AsciiText$View" "bytes" "[B" u0 := FB.ext E11
  have FS_11 : Fld Z h11 a "com/example/ledgermatch/ledgermatch/AsciiText$View" "start" "I" (.int (0 : Int32)) := FS.ext E11
  have FE_11 : Fld Z h11 a "com/example/ledgermatch/ledgermatch/AsciiText$View" "end" "I" (.int (0 : Int32)) := FE.ext E11
  have KZ_11 : n0 ≤ h11.size := Nat.le_trans Z0 E11.1
  have KY_11 : h0.size ≤ h11.size := Nat.le_trans (Nat.le_refl h0.size) E11.1
  have KP_11 : Keep h0 h11 [a] := (Keep.refl h0 [a]).ext E11
  have V_b11 : Arv Z h11 b11 k11 .byte (0 : Int32) [] (.int (0 : Int32)) := (Arv.new A11 (by decide)).pad (pad_rep [] (.int (0 : Int32)) 0)
  obtain ⟨T12, h12, X12, e12, W12, st12⟩ := putF X11 hx hZ hown (host := "") (Or.inl (hw _ (List.mem_of_getElem? (i := 14) rfl))) Via.refl e11 FB_11 EV_11 (Or.inl (hw _ (List.mem_of_getElem? (i := 15) rfl))) (hw _ (List.mem_of_getElem? (i := 6) rfl)) (ty := (.array .byte)) (by decide) rfl rfl (g := (mkF m 8 #[.val (.ref a)] [(.ref b11), (.ref a)])) rfl rfl (hb hby own_d_prog_21_m1_8)
  have EV_12 : Exa Z h12 a "com/example/ledgermatch/ledgermatch/AsciiText$View" := EV_11.wr W12
  have FB_12 : Fld Z h12 a "com/example/ledgermatch/ledgermatch/AsciiText$View" "bytes" "[B" (.ref b11) := FB_11.same W12
  have FS_12 : Fld Z h12 a "com/example/ledgermatch/ledgermatch/AsciiText$View" "start" "I" (.int (0 : Int32)) := FS_11.other W12 (Or.inr (slot_ne (Or.inl (hw _ (List.mem_of_getElem? (i := 22) rfl))) (Or.inl (hw _ (List.mem_of_getElem? (i := 15) rfl))) (by decide) (t := .int) (t' := (.array .byte)) (by decide) (by decide)))
  have FE_12 : Fld Z h12 a "com/example/ledgermatch/ledgermatch/AsciiText$View" "end" "I" (.int (0 : Int32)) := FE_11.other W12 (Or.inr (slot_ne (Or.inl (hw _ (List.mem_of_getElem? (i := 24) rfl))) (Or.inl (hw _ (List.mem_of_getElem? (i := 15) rfl))) (by decide) (t := .int) (t' := (.array .byte)) (by decide) (by decide)))
  have KZ_12 : n0 ≤ h12.size := Nat.le_trans KZ_11 (Keep.of_wr W12).1
  have KY_12 : h0.size ≤ h12.size := Nat.le_trans KY_11 (Keep.of_wr W12).1
  have KP_12 : Keep h0 h12 [a] := KP_11.wr W12 (Or.inl (List.mem_of_getElem? (i := 0) rfl))
  have V_b11_12 : Arv Z h12 b11 k11 .byte (0 : Int32) [] (.int (0 : Int32)) := V_b11.other W12 (Ne.symm ne_a_b11)
  have N12 := Fr.snoc X12 N0 g_a
  obtain ⟨fs, hr, hrun, hended, hW, hsame⟩ := X12.leave (v := none) (fun _ => rfl)
  refine ⟨_, _, pre0 _ ?_, hrun, hended, _, _, rfl, ?_, ⟨_, rfl⟩, hW, hsame.mono (by decide) (by decide)⟩
  · show Steps p.tables e below (s₁.setTop (mkF m 0 #[.val (.ref a)] [])) _
    refine XS.aloadN X0.here hx rfl (hb hby own_d_prog_21_m1_0) rfl rfl ?_
    show Steps p.tables e below (s₁.setTop (mkF m 1 #[.val (.ref a)] [(.ref a)])) _
    refine st10 _ ?_
    show Steps p.tables e below (T10.setTop (mkF m 4 #[.val (.ref a)] [])) _
    refine XS.aloadN X10.here hx rfl (hb hby own_d_prog_21_m1_4) rfl rfl ?_
    show Steps p.tables e below (T10.setTop (mkF m 5 #[.val (.ref a)] [(.ref a)])) _
    refine XS.iconst X10.here hx rfl (hb hby own_d_prog_21_m1_5) ?_
    show Steps p.tables e below (T10.setTop (mkF m 6 #[.val (.ref a)] [(.int (0 : Int32)), (.ref a)])) _
    refine st11 _ ?_
    show Steps p.tables e below (T11.setTop (mkF m 8 #[.val (.ref a)] [(.ref b11), (.ref a)])) _
    refine st12 _ ?_
    show Steps p.tables e below (T12.setTop (mkF m 11 #[.val (.ref a)] [])) _
    exact X12.returnOut hx Bd.returns (hb hby own_d_prog_21_m1_11) hr
  · show (own_QI Z a h0 n0) _ T12.heap _
    rw [e12]
    exact ⟨rfl, N12, KP_12, ⟨_, FB_12⟩, FS_12, FE_12⟩
theorem own_d_prog_21_m2_0 : decode prog_21_method_2_code 0 = .ok (.aload_n 0, 1) := by decide +kernel
theorem own_d_prog_21_m2_1 : decode prog_21_method_2_code 1 = .ok (.aload_n 1, 1) := by decide +kernel
theorem own_d_prog_21_m2_2 : decode prog_21_method_2_code 2 = .ok (.putfield 7, 3) := by decide +kernel
theorem own_d_prog_21_m2_5 : decode prog_21_method_2_code 5 = .ok (.aload_n 0, 1) := by decide +kernel
theorem own_d_prog_21_m2_6 : decode prog_21_method_2_code 6 = .ok (.iload_n 2, 1) := by decide +kernel
theorem own_d_prog_21_m2_7 : decode prog_21_method_2_code 7 = .ok (.putfield 13, 3) := by decide +kernel
theorem own_d_prog_21_m2_10 : decode prog_21_method_2_code 10 = .ok (.aload_n 0, 1) := by decide +kernel
theorem own_d_prog_21_m2_11 : decode prog_21_method_2_code 11 = .ok (.iload_n 3, 1) := by decide +kernel
theorem own_d_prog_21_m2_12 : decode prog_21_method_2_code 12 = .ok (.putfield 17, 3) := by decide +kernel
theorem own_d_prog_21_m2_15 : decode prog_21_method_2_code 15 = .ok (.return_, 1) := by decide +kernel
theorem own_ef_4 (m : MethodId) (x0 : Addr) (x1 : Addr) (x2 : Int32) (x3 : Int32) : entryFrame m #[(.ref x0), (.ref x1), (.int x2), (.int x3)] 4 = mkF m 0 #[.val (.ref x0), .val (.ref x1), .val (.int x2), .val (.int x3)] [] := by first | (simp [entryFrame, mkF, argsToLocals, Value.category]; done) | rfl
set_option maxRecDepth 65536 in
set_option maxHeartbeats 40000000 in
theorem own_point (l : Launch) (Z : State) (a0 : Array Value) (hw : ∀ d ∈ tables_1, d.before a0 Z = true) (a : Addr) (x : Addr) (st : Int32) (en : Int32) (u0 : Value) (u1 : Int32) (u2 : Int32) (h0 : Heap) (n0 : Nat) (Z0 : n0 ≤ h0.size) (EV : Exa Z h0 a "com/example/ledgermatch/ledgermatch/AsciiText$View") (FB : Fld Z h0 a "com/example/ledgermatch/ledgermatch/AsciiText$View" "bytes" "[B" u0) (FS : Fld Z h0 a "com/example/ledgermatch/ledgermatch/AsciiText$View" "start" "I" (.int u1)) (FE : Fld Z h0 a "com/example/ledgermatch/ledgermatch/AsciiText$View" "end" "I" (.int u2)) (g_a : n0 ≤ a) :
    Met l Z [] (⟨"com/example/ledgermatch/ledgermatch/AsciiText$View", "point", "([BII)V"⟩ : MethodName) prog_21_method_2_code 4 none ({ frames := 0, cells := 0, slots := 0, locals := 0 } : Room) #[(.ref a), (.ref x), (.int st), (.int en)] h0 (own_QV Z a x st en h0 n0) := by
  refine MetFree.of_bodySF (plainFor_of_name own_pn_0) hisR ?_
  intro p e s m args below meth c s₁ Bd hml0 hP hK
  obtain ⟨rfl, hZ, hh⟩ := hP
  have hx := Bd.exec
  have hby := Bd.bytes
  have hml : c.maxLocals = 4 := hml0
  have hown : s.vm.findClass "com/example/ledgermatch/ledgermatch/AsciiText$View" = some m.cls := findClass_of_methodNamed Bd.named
  have hnm := (name_of_methodNamed Bd.named Bd.method).1
  have X0 : Stand p l e ({ frames := 0, cells := 0, slots := 0, locals := 0 } : Room) s m #[(.ref a), (.ref x), (.int st), (.int en)] below meth c s₁ [] 0 0 := Stand.of_body Bd
  have e0 : s₁.heap = h0 := by rw [← hh, Bd.state]; rfl
  have N0 := Fr.nil n0
  have pre0 : ∀ t_, Steps p.tables e below (s₁.setTop (mkF m 0 #[.val (.ref a), .val (.ref x), .val (.int st), .val (.int en)] [])) t_ → Steps p.tables e below (s₁.setTop (entryFrame m #[(.ref a), (.ref x), (.int st), (.int en)] 4)) t_ := fun t_ k_ => castTop (own_ef_4 m a x st en) k_
  obtain ⟨T13, h13, X13, e13, W13, st13⟩ := putF X0 hx hZ hown (host := "") (Or.inl (hw _ (List.mem_of_getElem? (i := 14) rfl))) Via.refl e0 FB EV (Or.inl (hw _ (List.mem_of_getElem? (i := 15) rfl))) (hw _ (List.mem_of_getElem? (i := 6) rfl)) (ty := (.array .byte)) (by decide) rfl rfl (g := (mkF m 2 #[.val (.ref a), .val (.ref x), .val (.int st), .val (.int en)] [(.ref x), (.ref a)])) rfl rfl (hb hby own_d_prog_21_m2_2)
  have EV_13 : Exa Z h13 a "com/example/ledgermatch/ledgermatch/AsciiText$View" := EV.wr W13
  have FB_13 : Fld Z h13 a "com/example/ledgermatch/ledgermatch/AsciiText$View" "bytes" "[B" (.ref x) := FB.same W13
  have FS_13 : Fld Z h13 a "com/example/ledgermatch/ledgermatch/AsciiText$View" "start" "I" (.int u1) := FS.other W13 (Or.inr (slot_ne (Or.inl (hw _ (List.mem_of_getElem? (i := 22) rfl))) (Or.inl (hw _ (List.mem_of_getElem? (i := 15) rfl))) (by decide) (t := .int) (t' := (.array .byte)) (by decide) (by decide)))
  have FE_13 : Fld Z h13 a "com/example/ledgermatch/ledgermatch/AsciiText$View" "end" "I" (.int u2) := FE.other W13 (Or.inr (slot_ne (Or.inl (hw _ (List.mem_of_getElem? (i := 24) rfl))) (Or.inl (hw _ (List.mem_of_getElem? (i := 15) rfl))) (by decide) (t := .int) (t' := (.array .byte)) (by decide) (by decide)))
  have KP_13 : Keep h0 h13 [a] := (Keep.refl h0 [a]).wr W13 (Or.inl (List.mem_of_getElem? (i := 0) rfl))
  have N13 := Fr.snoc X13 N0 g_a
  obtain ⟨T14, h14, X14, e14, W14, st14⟩ := putF X13 hx hZ hown (host := "") (Or.inl (hw _ (List.mem_of_getElem? (i := 21) rfl))) Via.refl e13 FS_13 EV_13 (Or.inl (hw _ (List.mem_of_getElem? (i := 22) rfl))) (hw _ (List.mem_of_getElem? (i := 6) rfl)) (ty := .int) (by decide) rfl rfl (g := (mkF m 7 #[.val (.ref a), .val (.ref x), .val (.int st), .val (.int en)] [(.int st), (.ref a)])) rfl rfl (hb hby own_d_prog_21_m2_7)
  have EV_14 : Exa Z h14 a "com/example/ledgermatch/ledgermatch/AsciiText$View" := EV_13.wr W14
  have FB_14 : Fld Z h14 a "com/example/ledgermatch/ledgermatch/AsciiText$View" "bytes" "[B" (.ref x) := FB_13.other W14 (Or.inr (slot_ne (Or.inl (hw _ (List.mem_of_getElem? (i := 15) rfl))) (Or.inl (hw _ (List.mem_of_getElem? (i := 22) rfl))) (by decide) (t := (.array .byte)) (t' := .int) (by decide) (by decide)))
  have FS_14 : Fld Z h14 a "com/example/ledgermatch/ledgermatch/AsciiText$View" "start" "I" (.int st) := FS_13.same W14
  have FE_14 : Fld Z h14 a "com/example/ledgermatch/ledgermatch/AsciiText$View" "end" "I" (.int u2) := FE_13.other W14 (Or.inr (slot_ne (Or.inl (hw _ (List.mem_of_getElem? (i := 24) rfl))) (Or.inl (hw _ (List.mem_of_getElem? (i := 22) rfl))) (by decide) (t := .int) (t' := .int) (by decide) (by decide)))
  have KP_14 : Keep h0 h14 [a] := KP_13.wr W14 (Or.inl (List.mem_of_getElem? (i := 0) rfl))
  have N14 := Fr.snoc X14 N13 g_a
  obtain ⟨T15, h15, X15, e15, W15, st15⟩ := putF X14 hx hZ hown (host := "") (Or.inl (hw _ (List.mem_of_getElem? (i := 23) rfl))) Via.refl e14 FE_14 EV_14 (Or.inl (hw _ (List.mem_of_getElem? (i := 24) rfl))) (hw _ (List.mem_of_getElem? (i := 6) rfl)) (ty := .int) (by decide) rfl rfl (g := (mkF m 12 #[.val (.ref a), .val (.ref x), .val (.int st), .val (.int en)] [(.int en), (.ref a)])) rfl rfl (hb hby own_d_prog_21_m2_12)
  have EV_15 : Exa Z h15 a "com/example/ledgermatch/ledgermatch/AsciiText$View" := EV_14.wr W15
  have FB_15 : Fld Z h15 a "com/example/ledgermatch/ledgermatch/AsciiText$View" "bytes" "[B" (.ref x) := FB_14.other W15 (Or.inr (slot_ne (Or.inl (hw _ (List.mem_of_getElem? (i := 15) rfl))) (Or.inl (hw _ (List.mem_of_getElem? (i := 24) rfl))) (by decide) (t := (.array .byte)) (t' := .int) (by decide) (by decide)))
  have FS_15 : Fld Z h15 a "com/example/ledgermatch/ledgermatch/AsciiText$View" "start" "I" (.int st) := FS_14.other W15 (Or.inr (slot_ne (Or.inl (hw _ (List.mem_of_getElem? (i := 22) rfl))) (Or.inl (hw _ (List.mem_of_getElem? (i := 24) rfl))) (by decide) (t := .int) (t' := .int) (by decide) (by decide)))
  have FE_15 : Fld Z h15 a "com/example/ledgermatch/ledgermatch/AsciiText$View" "end" "I" (.int en) := FE_14.same W15
  have KP_15 : Keep h0 h15 [a] := KP_14.wr W15 (Or.inl (List.mem_of_getElem? (i := 0) rfl))
  have N15 := Fr.snoc X15 N14 g_a
  obtain ⟨fs, hr, hrun, hended, hW, hsame⟩ := X15.leave (v := none) (fun _ => rfl)
  refine ⟨_, _, pre0 _ ?_, hrun, hended, _, _, rfl, ?_, ⟨_, rfl⟩, hW, hsame.mono (by decide) (by decide)⟩
  · show Steps p.tables e below (s₁.setTop (mkF m 0 #[.val (.ref a), .val (.ref x), .val (.int st), .val (.int en)] [])) _
    refine XS.aloadN X0.here hx rfl (hb hby own_d_prog_21_m2_0) rfl rfl ?_
    show Steps p.tables e below (s₁.setTop (mkF m 1 #[.val (.ref a), .val (.ref x), .val (.int st), .val (.int en)] [(.ref a)])) _
    refine XS.aloadN X0.here hx rfl (hb hby own_d_prog_21_m2_1) rfl rfl ?_
    show Steps p.tables e below (s₁.setTop (mkF m 2 #[.val (.ref a), .val (.ref x), .val (.int st), .val (.int en)] [(.ref x), (.ref a)])) _
    refine st13 _ ?_
    show Steps p.tables e below (T13.setTop (mkF m 5 #[.val (.ref a), .val (.ref x), .val (.int st), .val (.int en)] [])) _
    refine XS.aloadN X13.here hx rfl (hb hby own_d_prog_21_m2_5) rfl rfl ?_
    show Steps p.tables e below (T13.setTop (mkF m 6 #[.val (.ref a), .val (.ref x), .val (.int st), .val (.int en)] [(.ref a)])) _
    refine XS.iloadN X13.here hx rfl (hb hby own_d_prog_21_m2_6) rfl ?_
    show Steps p.tables e below (T13.setTop (mkF m 7 #[.val (.ref a), .val (.ref x), .val (.int st), .val (.int en)] [(.int st), (.ref a)])) _
    refine st14 _ ?_
    show Steps p.tables e below (T14.setTop (mkF m 10 #[.val (.ref a), .val (.ref x), .val (.int st), .val (.int en)] [])) _
    refine XS.aloadN X14.here hx rfl (hb hby own_d_prog_21_m2_10) rfl rfl ?_
    show Steps p.tables e below (T14.setTop (mkF m 11 #[.val (.ref a), .val (.ref x), .val (.int st), .val (.int en)] [(.ref a)])) _
    refine XS.iloadN X14.here hx rfl (hb hby own_d_prog_21_m2_11) rfl ?_
    show Steps p.tables e below (T14.setTop (mkF m 12 #[.val (.ref a), .val (.ref x), .val (.int st), .val (.int en)] [(.int en), (.ref a)])) _
    refine st15 _ ?_
    show Steps p.tables e below (T15.setTop (mkF m 15 #[.val (.ref a), .val (.ref x), .val (.int st), .val (.int en)] [])) _
    exact X15.returnOut hx Bd.returns (hb hby own_d_prog_21_m2_15) hr
  · show (own_QV Z a x st en h0 n0) _ T15.heap _
    rw [e15]
    exact ⟨rfl, N15, KP_15, FB_15, FS_15, FE_15⟩
/-- a call of a callee that is walked within (Stand.through): nothing is asked of its class's state of preparation -/
theorem own_backU {l : Launch} {R : Room} {p : Program} {e : Env} {below : List Frame} {s : State} {sargs : Array Value} {Z : State} {a0 : Array Value} {h : Heap} {y : MethodName} {bytes : ByteArray} {maxL : Nat} {ret : Option FieldType} {rm : Room} {len W : Nat} {as' : Array Value} {Q : Option Value → Heap → List Loc → Prop}
    (hpl : plainFor y = true)
    (hM : ∀ (s' : State) (m' : MethodId) (below' : List Frame) (meth' : Method) (c' : Code) (s₁' : State), Stand p l e rm s' m' as' below' meth' c' s₁' [] 0 0 → Z.Warmed39 s'.vm → c'.code = bytes → c'.maxLocals = maxL → s'.vm.findClass y.cls = some m'.cls → meth'.sig.returnType = ret → s₁'.heap = h →
      ∃ v U₁ L₁, Stand p l e rm s' m' as' below' meth' c' U₁ L₁ rm.cells rm.slots ∧ (ret = none → v = none) ∧ Q v U₁.heap L₁ ∧ ∀ fs, (∀ (f : JFrame) (acts : List Action), f.method = m' → f.locked = none → f.entered = [] → (doReturn e (U₁.setTop f) acts v).1 = U₁.setFrames fs) → Steps p.tables e below' (s₁'.setTop (entryFrame m' as' maxL)) (U₁.setFrames fs))
    (hZ : Z.Warmed39 s.vm) (wc : (Jvm.Cond.code y bytes maxL ret).before a0 Z = true) (hf : rm.frames + 1 ≤ R.frames) (hl : W + (maxL + 11) + rm.locals ≤ R.locals) :
    Back l R p e below s sargs y len W (fun A a => a = as' ∧ A.U.heap = h ∧ A.cells + rm.cells ≤ R.cells ∧ A.slots + rm.slots ≤ R.slots)
      (fun A _ v B => ∃ L, Q v B.U.heap L ∧ B.locs = A.locs ++ L ∧ B.cells = A.cells + rm.cells ∧ B.slots = A.slots + rm.slots) := by
  intro m meth c A g ig mk a X hg hsize hdg hW hn hp
  obtain ⟨U, Ls, c0, s0⟩ := A
  dsimp only [Pt.U, Pt.locs, Pt.cells, Pt.slots] at X hn hp ⊢
  obtain ⟨rfl, hh, h4, h5⟩ := hp
  have hU : Z.Warmed39 U.vm := wtrans hZ X.warmed
  obtain ⟨mY, cY, q1, q2, q3, q4, q5, q6, -, -⟩ := Cond.code_spec hn (mv (args := a) hU wc)
  obtain ⟨v, T', U₁, L₁, c₁, n₁, X', ⟨r1, r2, r3⟩, hhe, -, -, hst⟩ := X.through hg hsize hdg (mk := mk) a (R' := rm) q1 q2 q6 (State.plainMethod.of_named hpl hn q1) hf (by rw [q4]; omega) h4 h5
    (Φ := fun v U₁ L₁ c₁ n₁ => Q v U₁.heap L₁ ∧ c₁ = rm.cells ∧ n₁ = rm.slots) (fun U₀ hU₀ Y₀ => by
      obtain ⟨v, U₁, L₁, Y₁, hv, hQ, hs⟩ := hM _ _ _ _ _ _ Y₀ hU q3 q4 (findClass_of_methodNamed hn) q5 (by rw [hU₀]; exact hh)
      exact ⟨v, U₁, L₁, _, _, Y₁, by rw [q5]; exact hv, ⟨hQ, rfl, rfl⟩, by rw [q4]; exact hs⟩)
  subst r2 r3
  exact ⟨v, ⟨T', Ls ++ L₁, c0 + rm.cells, s0 + rm.slots⟩, X', ⟨L₁, by show Q v T'.heap L₁; rw [hhe]; exact r1, rfl, rfl, rfl⟩, hst⟩
theorem own_d_prog_20_m4_0 : decode prog_20_method_4_code 0 = .ok (.aload_n 0, 1) := by decide +kernel
theorem own_d_prog_20_m4_1 : decode prog_20_method_4_code 1 = .ok (.invokeinterface 1 1, 5) := by decide +kernel
theorem own_pd_1 : parseMethodDescriptor "()I" = some ⟨[], some .int⟩ := by decide +kernel
theorem own_d_prog_20_m4_6 : decode prog_20_method_4_code 6 = .ok (.aload_n 0, 1) := by decide +kernel
theorem own_d_prog_20_m4_7 : decode prog_20_method_4_code 7 = .ok (.invokeinterface 7 1, 5) := by decide +kernel
theorem own_d_prog_20_m4_12 : decode prog_20_method_4_code 12 = .ok (.isub, 1) := by decide +kernel
theorem own_d_prog_20_m4_13 : decode prog_20_method_4_code 13 = .ok (.ireturn, 1) := by decide +kernel
set_option maxRecDepth 65536 in
set_option maxHeartbeats 40000000 in
theorem own_len_in {p : Program} {e : Env} (l : Launch) (hx : p.tables.exec = Jvm.exec) (Z : State) (a0 : Array Value) (hw : ∀ d ∈ tables_1, d.before a0 Z = true) (a : Addr) (y : Addr) (st : Int32) (en : Int32) (h0 : Heap) (n0 : Nat) (Z0 : n0 ≤ h0.size) (EV : Exa Z h0 a "com/example/ledgermatch/ledgermatch/AsciiText$View") (FB : Fld Z h0 a "com/example/ledgermatch/ledgermatch/AsciiText$View" "bytes" "[B" (.ref y)) (FS : Fld Z h0 a "com/example/ledgermatch/ledgermatch/AsciiText$View" "start" "I" (.int st)) (FE : Fld Z h0 a "com/example/ledgermatch/ledgermatch/AsciiText$View" "end" "I" (.int en)) :
    ∀ (s : State) (m : MethodId) (below : List Frame) (meth : Method) (c : Code) (s₁ : State), Stand p l e ({ frames := 1, cells := 0, slots := 0, locals := 13 } : Room) s m #[(.ref a)] below meth c s₁ [] 0 0 → Z.Warmed39 s.vm → c.code = prog_20_method_4_code → c.maxLocals = 1 → s.vm.findClass "com/example/ledgermatch/ledgermatch/AsciiText" = some m.cls → meth.sig.returnType = (some .int) → s₁.heap = h0 →
      ∃ v U₁ L₁, Stand p l e ({ frames := 1, cells := 0, slots := 0, locals := 13 } : Room) s m #[(.ref a)] below meth c U₁ L₁ ({ frames := 1, cells := 0, slots := 0, locals := 13 } : Room).cells ({ frames := 1, cells := 0, slots := 0, locals := 13 } : Room).slots ∧ (((some .int) : Option FieldType) = none → v = none) ∧ (QP (some (.int (en - st))) h0 n0) v U₁.heap L₁ ∧ ∀ fs, (∀ (f : JFrame) (acts : List Action), f.method = m → f.locked = none → f.entered = [] → (doReturn e (U₁.setTop f) acts v).1 = U₁.setFrames fs) → Steps p.tables e below (s₁.setTop (entryFrame m #[(.ref a)] 1)) (U₁.setFrames fs) := by
  intro s m below meth c s₁ X0 hZ hby hml hown hret e0
  have N0 := Fr.nil n0
  have pre0 : ∀ t_, Steps p.tables e below (s₁.setTop (mkF m 0 #[.val (.ref a)] [])) t_ → Steps p.tables e below (s₁.setTop (entryFrame m #[(.ref a)] 1)) t_ := fun t_ k_ => castTop (own_ef_0 m a) k_
  obtain ⟨cq16, kq16, q16a, q16b, q16c⟩ := isOf hZ e0 EV
  obtain ⟨_, _, ⟨T16, L16, k16, n16⟩, -, X16, ⟨Lc16, hQ16, l16, y16, z16⟩, st16⟩ := X0.interfaceBack hx (xi := (⟨"com/example/ledgermatch/ledgermatch/AsciiText", "end", "()I"⟩ : MethodName)) (y := (⟨"com/example/ledgermatch/ledgermatch/AsciiText$View", "end", "()I"⟩ : MethodName)) hown (mvT hZ (hw _ (List.mem_of_getElem? (i := 68) rfl))) (mvT hZ (hw _ (List.mem_of_getElem? (i := 69) rfl))) (mvT hZ (hw _ (List.mem_of_getElem? (i := 70) rfl))) (mvT hZ (hw _ (List.mem_of_getElem? (i := 71) rfl))) (mvT hZ (hw _ (List.mem_of_getElem? (i := 37) rfl))) (mvT hZ (hw _ (List.mem_of_getElem? (i := 72) rfl))) (mvT hZ (hw _ (List.mem_of_getElem? (i := 73) rfl))) (mvT hZ (hw _ (List.mem_of_getElem? (i := 47) rfl))) (by decide) (backOf (W := 0) (own_en l Z a0 hw a en h0 n0 Z0 FE) hZ (hw _ (List.mem_of_getElem? (i := 39) rfl)) (hw _ (List.mem_of_getElem? (i := 7) rfl)) (by decide) (by decide)) q16a q16b q16c (g := (mkF m 1 #[.val (.ref a)] [(.ref a)])) rfl (by rw [hml]; rfl) (Steps.refl _) (argsL := []) (rest := []) (lenOf own_pd_1 rfl) rfl (by show 2 * 0 + _ ≤ _; exact Nat.le_of_eq rfl) (hb hby own_d_prog_20_m4_1) (fun _ _ => ⟨rfl, e0, (by decide : 0 + 0 ≤ _), (by decide : 0 + 0 ≤ _)⟩)
  dsimp only [Pt.U, Pt.locs, Pt.cells, Pt.slots] at X16 l16 y16 z16 st16 hQ16
  subst l16 y16 z16
  obtain ⟨rfl, Nq16, eh16⟩ := hQ16
  have N16 := Fr.app N0 Nq16
  have e16 : T16.heap = h0 := eh16
  obtain ⟨cq17, kq17, q17a, q17b, q17c⟩ := isOf hZ e16 EV
  obtain ⟨_, _, ⟨T17, L17, k17, n17⟩, -, X17, ⟨Lc17, hQ17, l17, y17, z17⟩, st17⟩ := X16.interfaceBack hx (xi := (⟨"com/example/ledgermatch/ledgermatch/AsciiText", "start", "()I"⟩ : MethodName)) (y := (⟨"com/example/ledgermatch/ledgermatch/AsciiText$View", "start", "()I"⟩ : MethodName)) hown (mvT hZ (hw _ (List.mem_of_getElem? (i := 55) rfl))) (mvT hZ (hw _ (List.mem_of_getElem? (i := 56) rfl))) (mvT hZ (hw _ (List.mem_of_getElem? (i := 57) rfl))) (mvT hZ (hw _ (List.mem_of_getElem? (i := 58) rfl))) (mvT hZ (hw _ (List.mem_of_getElem? (i := 32) rfl))) (mvT hZ (hw _ (List.mem_of_getElem? (i := 59) rfl))) (mvT hZ (hw _ (List.mem_of_getElem? (i := 60) rfl))) (mvT hZ (hw _ (List.mem_of_getElem? (i := 47) rfl))) (by decide) (backOf (W := 1) (own_st l Z a0 hw a st h0 n0 Z0 FS) hZ (hw _ (List.mem_of_getElem? (i := 34) rfl)) (hw _ (List.mem_of_getElem? (i := 7) rfl)) (by decide) (by decide)) q17a q17b q17c (g := (mkF m 7 #[.val (.ref a)] [(.ref a), (.int en)])) rfl (by rw [hml]; rfl) (Steps.refl _) (argsL := []) (rest := [(.int en)]) (lenOf own_pd_1 rfl) rfl (by show 2 * 0 + _ ≤ _; exact Nat.le_of_eq rfl) (hb hby own_d_prog_20_m4_7) (fun _ _ => ⟨rfl, e16, (by decide : 0 + 0 ≤ _), (by decide : 0 + 0 ≤ _)⟩)
  dsimp only [Pt.U, Pt.locs, Pt.cells, Pt.slots] at X17 l17 y17 z17 st17 hQ17
  subst l17 y17 z17
  obtain ⟨rfl, Nq17, eh17⟩ := hQ17
  have N17 := Fr.app N16 Nq17
  have e17 : T17.heap = h0 := eh17
  refine ⟨some (.int (en - st)), T17, _, X17, (fun h => by cases h), ?_, fun fs hr => pre0 _ ?_⟩
  · show (QP (some (.int (en - st))) h0 n0) _ T17.heap _
    rw [e17]
    exact ⟨rfl, N17, rfl⟩
  · show Steps p.tables e below (s₁.setTop (mkF m 0 #[.val (.ref a)] [])) _
    refine XS.aloadN X0.here hx rfl (hb hby own_d_prog_20_m4_0) rfl rfl ?_
    show Steps p.tables e below (s₁.setTop (mkF m 1 #[.val (.ref a)] [(.ref a)])) _
    refine st16.trans ?_
    show Steps p.tables e below (T16.setTop (mkF m 6 #[.val (.ref a)] [(.int en)])) _
    refine XS.aloadN X16.here hx rfl (hb hby own_d_prog_20_m4_6) rfl rfl ?_
    show Steps p.tables e below (T16.setTop (mkF m 7 #[.val (.ref a)] [(.ref a), (.int en)])) _
    refine st17.trans ?_
    show Steps p.tables e below (T17.setTop (mkF m 12 #[.val (.ref a)] [(.int st), (.int en)])) _
    refine XS.isub X17.here hx rfl (hb hby own_d_prog_20_m4_12) rfl ?_
    show Steps p.tables e below (T17.setTop (mkF m 13 #[.val (.ref a)] [(.int (en - st))])) _
    exact retI X17 hx hret (hb hby own_d_prog_20_m4_13) hr
theorem own_pn_4 : plainName "com/example/ledgermatch/ledgermatch/AsciiText" = true := by first | (simp [plainName, overriddenIn]; done) | decide +kernel
theorem own_d_prog_20_m5_0 : decode prog_20_method_5_code 0 = .ok (.aload_n 0, 1) := by decide +kernel
theorem own_d_prog_20_m5_1 : decode prog_20_method_5_code 1 = .ok (.invokeinterface 10 1, 5) := by decide +kernel
theorem own_pd_2 : parseMethodDescriptor "()[B" = some ⟨[], some (.array .byte)⟩ := by decide +kernel
theorem own_d_prog_20_m5_6 : decode prog_20_method_5_code 6 = .ok (.aload_n 0, 1) := by decide +kernel
theorem own_d_prog_20_m5_7 : decode prog_20_method_5_code 7 = .ok (.invokeinterface 7 1, 5) := by decide +kernel
theorem own_d_prog_20_m5_12 : decode prog_20_method_5_code 12 = .ok (.iload_n 1, 1) := by decide +kernel
theorem own_d_prog_20_m5_13 : decode prog_20_method_5_code 13 = .ok (.aload_n 0, 1) := by decide +kernel
theorem own_d_prog_20_m5_14 : decode prog_20_method_5_code 14 = .ok (.invokeinterface 14 1, 5) := by decide +kernel
theorem own_d_prog_20_m5_19 : decode prog_20_method_5_code 19 = .ok (.invokestatic 17, 3) := by decide +kernel
theorem own_pd_3 : parseMethodDescriptor "(II)I" = some ⟨[.int, .int], some .int⟩ := by decide +kernel
theorem own_d_prog_20_m5_22 : decode prog_20_method_5_code 22 = .ok (.iadd, 1) := by decide +kernel
theorem own_d_prog_20_m5_23 : decode prog_20_method_5_code 23 = .ok (.baload, 1) := by decide +kernel
theorem own_d_prog_20_m5_24 : decode prog_20_method_5_code 24 = .ok (.i2c, 1) := by decide +kernel
theorem own_d_prog_20_m5_25 : decode prog_20_method_5_code 25 = .ok (.ireturn, 1) := by decide +kernel
theorem own_ef_5 (m : MethodId) (x0 : Addr) (x1 : Int32) : entryFrame m #[(.ref x0), (.int x1)] 2 = mkF m 0 #[.val (.ref x0), .val (.int x1)] [] := by first | (simp [entryFrame, mkF, argsToLocals, Value.category]; done) | rfl
set_option maxRecDepth 65536 in
set_option maxHeartbeats 40000000 in
theorem own_chA_in {p : Program} {e : Env} (l : Launch) (hx : p.tables.exec = Jvm.exec) (Z : State) (a0 : Array Value) (hw : ∀ d ∈ tables_1, d.before a0 Z = true) (a : Addr) (i : Int32) (y : Addr) (st : Int32) (en : Int32) (cl : Cell) (b : Int32) (h0 : Heap) (n0 : Nat) (Z0 : n0 ≤ h0.size) (EV : Exa Z h0 a "com/example/ledgermatch/ledgermatch/AsciiText$View") (FB : Fld Z h0 a "com/example/ledgermatch/ledgermatch/AsciiText$View" "bytes" "[B" (.ref y)) (FS : Fld Z h0 a "com/example/ledgermatch/ledgermatch/AsciiText$View" "start" "I" (.int st)) (FE : Fld Z h0 a "com/example/ledgermatch/ledgermatch/AsciiText$View" "end" "I" (.int en)) (AR : Arr Z h0 y cl .byte) (h1 : ¬ (i < (0 : Int32))) (h2 : i < (en - st)) (hin : ¬ ((st + i) < 0 ∨ cl.slots.size ≤ (st + i).toNatClampNeg)) (hat : cl.slots[(st + i).toNatClampNeg]? = some (.int b)) :
    ∀ (s : State) (m : MethodId) (below : List Frame) (meth : Method) (c : Code) (s₁ : State), Stand p l e ({ frames := 2, cells := 0, slots := 0, locals := 29 } : Room) s m #[(.ref a), (.int i)] below meth c s₁ [] 0 0 → Z.Warmed39 s.vm → c.code = prog_20_method_5_code → c.maxLocals = 2 → s.vm.findClass "com/example/ledgermatch/ledgermatch/AsciiText" = some m.cls → meth.sig.returnType = (some .char) → s₁.heap = h0 →
      ∃ v U₁ L₁, Stand p l e ({ frames := 2, cells := 0, slots := 0, locals := 29 } : Room) s m #[(.ref a), (.int i)] below meth c U₁ L₁ ({ frames := 2, cells := 0, slots := 0, locals := 29 } : Room).cells ({ frames := 2, cells := 0, slots := 0, locals := 29 } : Room).slots ∧ (((some .char) : Option FieldType) = none → v = none) ∧ (QP (some (.int (nar .char (b.toUInt32.toUInt16.toUInt32.toInt32)))) h0 n0) v U₁.heap L₁ ∧ ∀ fs, (∀ (f : JFrame) (acts : List Action), f.method = m → f.locked = none → f.entered = [] → (doReturn e (U₁.setTop f) acts v).1 = U₁.setFrames fs) → Steps p.tables e below (s₁.setTop (entryFrame m #[(.ref a), (.int i)] 2)) (U₁.setFrames fs) := by
  intro s m below meth c s₁ X0 hZ hby hml hown hret e0
  have N0 := Fr.nil n0
  have pre0 : ∀ t_, Steps p.tables e below (s₁.setTop (mkF m 0 #[.val (.ref a), .val (.int i)] [])) t_ → Steps p.tables e below (s₁.setTop (entryFrame m #[(.ref a), (.int i)] 2)) t_ := fun t_ k_ => castTop (own_ef_5 m a i) k_
  obtain ⟨cq18, kq18, q18a, q18b, q18c⟩ := isOf hZ e0 EV
  obtain ⟨_, _, ⟨T18, L18, k18, n18⟩, -, X18, ⟨Lc18, hQ18, l18, y18, z18⟩, st18⟩ := X0.interfaceBack hx (xi := (⟨"com/example/ledgermatch/ledgermatch/AsciiText", "bytes", "()[B"⟩ : MethodName)) (y := (⟨"com/example/ledgermatch/ledgermatch/AsciiText$View", "bytes", "()[B"⟩ : MethodName)) hown (mvT hZ (hw _ (List.mem_of_getElem? (i := 49) rfl))) (mvT hZ (hw _ (List.mem_of_getElem? (i := 50) rfl))) (mvT hZ (hw _ (List.mem_of_getElem? (i := 51) rfl))) (mvT hZ (hw _ (List.mem_of_getElem? (i := 52) rfl))) (mvT hZ (hw _ (List.mem_of_getElem? (i := 27) rfl))) (mvT hZ (hw _ (List.mem_of_getElem? (i := 53) rfl))) (mvT hZ (hw _ (List.mem_of_getElem? (i := 54) rfl))) (mvT hZ (hw _ (List.mem_of_getElem? (i := 47) rfl))) (by decide) (backOf (W := 0) (own_by l Z a0 hw a y h0 n0 Z0 FB) hZ (hw _ (List.mem_of_getElem? (i := 29) rfl)) (hw _ (List.mem_of_getElem? (i := 7) rfl)) (by decide) (by decide)) q18a q18b q18c (g := (mkF m 1 #[.val (.ref a), .val (.int i)] [(.ref a)])) rfl (by rw [hml]; rfl) (Steps.refl _) (argsL := []) (rest := []) (lenOf own_pd_2 rfl) rfl (by show 2 * 0 + _ ≤ _; exact Nat.le_of_eq rfl) (hb hby own_d_prog_20_m5_1) (fun _ _ => ⟨rfl, e0, (by decide : 0 + 0 ≤ _), (by decide : 0 + 0 ≤ _)⟩)
  dsimp only [Pt.U, Pt.locs, Pt.cells, Pt.slots] at X18 l18 y18 z18 st18 hQ18
  subst l18 y18 z18
  obtain ⟨rfl, Nq18, eh18⟩ := hQ18
  have N18 := Fr.app N0 Nq18
  have e18 : T18.heap = h0 := eh18
  obtain ⟨cq19, kq19, q19a, q19b, q19c⟩ := isOf hZ e18 EV
  obtain ⟨_, _, ⟨T19, L19, k19, n19⟩, -, X19, ⟨Lc19, hQ19, l19, y19, z19⟩, st19⟩ := X18.interfaceBack hx (xi := (⟨"com/example/ledgermatch/ledgermatch/AsciiText", "start", "()I"⟩ : MethodName)) (y := (⟨"com/example/ledgermatch/ledgermatch/AsciiText$View", "start", "()I"⟩ : MethodName)) hown (mvT hZ (hw _ (List.mem_of_getElem? (i := 55) rfl))) (mvT hZ (hw _ (List.mem_of_getElem? (i := 56) rfl))) (mvT hZ (hw _ (List.mem_of_getElem? (i := 57) rfl))) (mvT hZ (hw _ (List.mem_of_getElem? (i := 58) rfl))) (mvT hZ (hw _ (List.mem_of_getElem? (i := 32) rfl))) (mvT hZ (hw _ (List.mem_of_getElem? (i := 59) rfl))) (mvT hZ (hw _ (List.mem_of_getElem? (i := 60) rfl))) (mvT hZ (hw _ (List.mem_of_getElem? (i := 47) rfl))) (by decide) (backOf (W := 1) (own_st l Z a0 hw a st h0 n0 Z0 FS) hZ (hw _ (List.mem_of_getElem? (i := 34) rfl)) (hw _ (List.mem_of_getElem? (i := 7) rfl)) (by decide) (by decide)) q19a q19b q19c (g := (mkF m 7 #[.val (.ref a), .val (.int i)] [(.ref a), (.ref y)])) rfl (by rw [hml]; rfl) (Steps.refl _) (argsL := []) (rest := [(.ref y)]) (lenOf own_pd_1 rfl) rfl (by show 2 * 0 + _ ≤ _; exact Nat.le_of_eq rfl) (hb hby own_d_prog_20_m5_7) (fun _ _ => ⟨rfl, e18, (by decide : 0 + 0 ≤ _), (by decide : 0 + 0 ≤ _)⟩)
  dsimp only [Pt.U, Pt.locs, Pt.cells, Pt.slots] at X19 l19 y19 z19 st19 hQ19
  subst l19 y19 z19
  obtain ⟨rfl, Nq19, eh19⟩ := hQ19
  have N19 := Fr.app N18 Nq19
  have e19 : T19.heap = h0 := eh19
  obtain ⟨cq20, kq20, q20a, q20b, q20c⟩ := isOf hZ e19 EV
  obtain ⟨_, _, ⟨T20, L20, k20, n20⟩, -, X20, ⟨Lc20, hQ20, l20, y20, z20⟩, st20⟩ := X19.interfaceBackD hx (xi := (⟨"com/example/ledgermatch/ledgermatch/AsciiText", "length", "()I"⟩ : MethodName)) (y := (⟨"com/example/ledgermatch/ledgermatch/AsciiText", "length", "()I"⟩ : MethodName)) hown (mvT hZ (hw _ (List.mem_of_getElem? (i := 61) rfl))) (mvT hZ (hw _ (List.mem_of_getElem? (i := 62) rfl))) (mvT hZ (hw _ (List.mem_of_getElem? (i := 63) rfl))) (mvD hZ (hw _ (List.mem_of_getElem? (i := 64) rfl))) (mvT hZ (hw _ (List.mem_of_getElem? (i := 65) rfl))) (mvT hZ (hw _ (List.mem_of_getElem? (i := 66) rfl))) (mvT hZ (hw _ (List.mem_of_getElem? (i := 47) rfl))) (by decide) (own_backU (W := 3) (rm := ({ frames := 1, cells := 0, slots := 0, locals := 13 } : Room)) (plainFor_of_name own_pn_4) (own_len_in l hx Z a0 hw a y st en h0 n0 Z0 EV FB FS FE) hZ (hw _ (List.mem_of_getElem? (i := 67) rfl)) (by decide) (by decide)) q20a q20b q20c (g := (mkF m 14 #[.val (.ref a), .val (.int i)] [(.ref a), (.int i), (.int st), (.ref y)])) rfl (by rw [hml]; rfl) (Steps.refl _) (argsL := []) (rest := [(.int i), (.int st), (.ref y)]) (lenOf own_pd_1 rfl) rfl (by show 2 * 0 + _ ≤ _; exact Nat.le_of_eq rfl) (hb hby own_d_prog_20_m5_14) (fun _ _ => ⟨rfl, e19, (by decide : 0 + 0 ≤ _), (by decide : 0 + 0 ≤ _)⟩)
  dsimp only [Pt.U, Pt.locs, Pt.cells, Pt.slots] at X20 l20 y20 z20 st20 hQ20
  subst l20 y20 z20
  obtain ⟨rfl, Nq20, eh20⟩ := hQ20
  have N20 := Fr.app N19 Nq20
  have e20 : T20.heap = h0 := eh20
  obtain ⟨_, _, ⟨T21, L21, k21, n21⟩, -, X21, ⟨Lc21, hQ21, l21, y21, z21⟩, st21⟩ := Jvm.LawKit.callS X20 hx (y := (⟨"java/util/Objects", "checkIndex", "(II)I"⟩ : MethodName)) hown (mvT hZ (hw _ (List.mem_of_getElem? (i := 74) rfl))) (mvT hZ (hw _ (List.mem_of_getElem? (i := 75) rfl))) (mvT hZ (hw _ (List.mem_of_getElem? (i := 76) rfl))) (mvT hZ (hw _ (List.mem_of_getElem? (i := 77) rfl))) (by decide) (backOf (W := 2) (own_chk l Z a0 hw i (en - st) h0 n0 Z0 h1 h2) hZ (hw _ (List.mem_of_getElem? (i := 77) rfl)) (hw _ (List.mem_of_getElem? (i := 76) rfl)) (by decide) (by decide)) (g := (mkF m 19 #[.val (.ref a), .val (.int i)] [(.int (en - st)), (.int i), (.int st), (.ref y)])) rfl (by rw [hml]; rfl) (argsL := [(.int i), (.int (en - st))]) (rest := [(.int st), (.ref y)]) (lenOf own_pd_3 rfl) rfl (by show 2 * 0 + _ ≤ _; exact Nat.le_of_eq rfl) (hb hby own_d_prog_20_m5_19) (fun _ _ => ⟨rfl, e20, (by decide : 0 + 0 ≤ _), (by decide : 0 + 0 ≤ _)⟩)
  dsimp only [Pt.U, Pt.locs, Pt.cells, Pt.slots] at X21 l21 y21 z21 st21 hQ21
  subst l21 y21 z21
  obtain ⟨rfl, Nq21, eh21⟩ := hQ21
  have N21 := Fr.app N20 Nq21
  have e21 : T21.heap = h0 := eh21
  refine ⟨some (.int (nar .char (b.toUInt32.toUInt16.toUInt32.toInt32))), T21, _, X21, (fun h => by cases h), ?_, fun fs hr => pre0 _ ?_⟩
  · show (QP (some (.int (nar .char (b.toUInt32.toUInt16.toUInt32.toInt32)))) h0 n0) _ T21.heap _
    rw [e21]
    exact ⟨rfl, N21, rfl⟩
  · show Steps p.tables e below (s₁.setTop (mkF m 0 #[.val (.ref a), .val (.int i)] [])) _
    refine XS.aloadN X0.here hx rfl (hb hby own_d_prog_20_m5_0) rfl rfl ?_
    show Steps p.tables e below (s₁.setTop (mkF m 1 #[.val (.ref a), .val (.int i)] [(.ref a)])) _
    refine st18.trans ?_
    show Steps p.tables e below (T18.setTop (mkF m 6 #[.val (.ref a), .val (.int i)] [(.ref y)])) _
    refine XS.aloadN X18.here hx rfl (hb hby own_d_prog_20_m5_6) rfl rfl ?_
    show Steps p.tables e below (T18.setTop (mkF m 7 #[.val (.ref a), .val (.int i)] [(.ref a), (.ref y)])) _
    refine st19.trans ?_
    show Steps p.tables e below (T19.setTop (mkF m 12 #[.val (.ref a), .val (.int i)] [(.int st), (.ref y)])) _
    refine XS.iloadN X19.here hx rfl (hb hby own_d_prog_20_m5_12) rfl ?_
    show Steps p.tables e below (T19.setTop (mkF m 13 #[.val (.ref a), .val (.int i)] [(.int i), (.int st), (.ref y)])) _
    refine XS.aloadN X19.here hx rfl (hb hby own_d_prog_20_m5_13) rfl rfl ?_
    show Steps p.tables e below (T19.setTop (mkF m 14 #[.val (.ref a), .val (.int i)] [(.ref a), (.int i), (.int st), (.ref y)])) _
    refine st20.trans ?_
    show Steps p.tables e below (T20.setTop (mkF m 19 #[.val (.ref a), .val (.int i)] [(.int (en - st)), (.int i), (.int st), (.ref y)])) _
    refine st21 _ ?_
    show Steps p.tables e below (T21.setTop (mkF m 22 #[.val (.ref a), .val (.int i)] [(.int i), (.int st), (.ref y)])) _
    refine XS.iadd X21.here hx rfl (hb hby own_d_prog_20_m5_22) rfl ?_
    show Steps p.tables e below (T21.setTop (mkF m 23 #[.val (.ref a), .val (.int i)] [(.int (st + i)), (.ref y)])) _
    refine X21.baloadBytes hx (j := (st + i)) (v := (.int b)) (by rw [e21]; exact AR.1) (State.isArrayOf_alike hZ.alike AR.2.1) AR.2.2 hin hat (g := (mkF m 23 #[.val (.ref a), .val (.int i)] [(.int (st + i)), (.ref y)])) rfl rfl (hb hby own_d_prog_20_m5_23) _ ?_
    show Steps p.tables e below (T21.setTop (mkF m 24 #[.val (.ref a), .val (.int i)] [(.int b)])) _
    refine XS.i2c X21.here hx rfl (hb hby own_d_prog_20_m5_24) rfl ?_
    show Steps p.tables e below (T21.setTop (mkF m 25 #[.val (.ref a), .val (.int i)] [(.int (b.toUInt32.toUInt16.toUInt32.toInt32))])) _
    exact retN X21 hx (t := .char) hret (by simp) (hb hby own_d_prog_20_m5_25) hr
theorem own_at4 {c : Cell} {x0 x1 x2 x3 : Int32} {d : Value} (H : Has c [.int x0, .int x1, .int x2, .int x3] d) (S : c.slots.size = 4) {k : Nat} (hk : k < 4) : ∃ b, c.slots[k]? = some (.int b) := by
  have q := H k (by omega)
  match k, hk, q with
  | 0, _, q => exact ⟨_, q⟩
  | 1, _, q => exact ⟨_, q⟩
  | 2, _, q => exact ⟨_, q⟩
  | 3, _, q => exact ⟨_, q⟩
  | k + 4, hk, _ => exact absurd hk (by omega)
theorem own_narc (x : Int32) : nar .char (x.toUInt32.toUInt16.toUInt32.toInt32) = x.toUInt32.toUInt16.toUInt32.toInt32 := by simp only [nar, UInt32.toUInt32_toInt32, UInt16.toUInt16_toUInt32]
theorem own_pd_4 : parseMethodDescriptor "(I)[B" = some ⟨[.int], some (.array .byte)⟩ := by decide +kernel
theorem own_pd_5 : parseMethodDescriptor "()V" = some ⟨[], none⟩ := by decide +kernel
theorem own_pd_6 : parseMethodDescriptor "([BII)V" = some ⟨[(.array .byte), .int, .int], none⟩ := by decide +kernel
theorem own_ef_6 (m : MethodId) (x0 : Int32) (x1 : Int32) (x2 : Int32) (x3 : Int32) (x4 : Int32) : entryFrame m #[(.int x0), (.int x1), (.int x2), (.int x3), (.int x4)] maxLocals = mkF m 0 #[.val (.int x0), .val (.int x1), .val (.int x2), .val (.int x3), .val (.int x4), .unset, .unset, .unset, .unset, .unset, .unset, .unset] [] := by first | (simp [entryFrame, mkF, argsToLocals, Value.category, maxLocals]; done) | rfl
set_option maxRecDepth 65536 in
set_option maxHeartbeats 40000000 in
theorem own_law_a (l : Launch) (Z : State) (a0 : Array Value) (hw : ∀ d ∈ tables_1, d.before a0 Z = true) (p0 : Int32) (p1 : Int32) (p2 : Int32) (p3 : Int32) (p4 : Int32) (s2 : Int32) (e2 : Int32) (i3 : Int32) (h0 : Heap) (n0 : Nat) (Z0 : n0 ≤ h0.size) (hs2 : (p4 &&& (255 : Int32)) % (5 : Int32) = s2) (hnz : (5 : Int32) - s2 ≠ 0) (he2 : s2 + (((p4.toUInt32 >>> ((8 : Int32) &&& 31).toUInt32).toInt32) &&& (255 : Int32)) % ((5 : Int32) - s2) = e2) (hi3 : (((p4.toUInt32 >>> ((16 : Int32) &&& 31).toUInt32).toInt32) &&& (255 : Int32)) % (4 : Int32) = i3) (hc167 : ¬ (i3 < (e2 - s2))) :
    Met l Z tables_1 x code maxLocals ret room_1 #[(.int p0), (.int p1), (.int p2), (.int p3), (.int p4)] h0 (own_Q1 n0) := by
  refine MetFree.of_bodySF (plainFor_of_name own_pn_3) hisR ?_
  intro p e s m args below meth c s₁ Bd hml0 hP hK
  obtain ⟨rfl, hZ, hh⟩ := hP
  have hx := Bd.exec
  have hby := Bd.bytes
  have hml : c.maxLocals = 12 := hml0
  have hown : s.vm.findClass "com/example/ledgermatch/ledgermatch/ViewPointPinLaw" = some m.cls := findClass_of_methodNamed Bd.named
  have hnm := (name_of_methodNamed Bd.named Bd.method).1
  have X0 : Stand p l e room_1 s m #[(.int p0), (.int p1), (.int p2), (.int p3), (.int p4)] below meth c s₁ [] 0 0 := Stand.of_body Bd
  have e0 : s₁.heap = h0 := by rw [← hh, Bd.state]; rfl
  have N0 := Fr.nil n0
  have pre0 : ∀ t_, Steps p.tables e below (s₁.setTop (mkF m 0 #[.val (.int p0), .val (.int p1), .val (.int p2), .val (.int p3), .val (.int p4), .unset, .unset, .unset, .unset, .unset, .unset, .unset] [])) t_ → Steps p.tables e below (s₁.setTop (entryFrame m #[(.int p0), (.int p1), (.int p2), (.int p3), (.int p4)] maxLocals)) t_ := fun t_ k_ => castTop (own_ef_6 m p0 p1 p2 p3 p4) k_
  obtain ⟨_, _, ⟨T22, L22, k22, n22⟩, -, X22, ⟨Lc22, hQ22, l22, y22, z22⟩, st22⟩ := Jvm.LawKit.callS X0 hx (y := (⟨"com/example/ledgermatch/ledgermatch/ViewPointPinLaw", "four", "(I)[B"⟩ : MethodName)) hown (mvT hZ (hw _ (List.mem_of_getElem? (i := 0) rfl))) (mvT hZ (hw _ (List.mem_of_getElem? (i := 1) rfl))) (mvT hZ (hw _ (List.mem_of_getElem? (i := 2) rfl))) (mvT hZ (hw _ (List.mem_of_getElem? (i := 3) rfl))) (by decide) (backOf (W := 0) (own_four l Z a0 hw p0 h0 n0 Z0) hZ (hw _ (List.mem_of_getElem? (i := 3) rfl)) (hw _ (List.mem_of_getElem? (i := 2) rfl)) (by decide) (by decide)) (g := (mkF m 1 #[.val (.int p0), .val (.int p1), .val (.int p2), .val (.int p3), .val (.int p4), .unset, .unset, .unset, .unset, .unset, .unset, .unset] [(.int p0)])) rfl (by rw [hml]; rfl) (argsL := [(.int p0)]) (rest := []) (lenOf own_pd_4 rfl) rfl (by show 2 * 0 + _ ≤ _; exact Nat.le_of_eq rfl) (hb hby at_1) (fun _ _ => ⟨rfl, e0, (by decide : 0 + 1 ≤ _), (by decide : 0 + 4 ≤ _)⟩)
  dsimp only [Pt.U, Pt.locs, Pt.cells, Pt.slots] at X22 l22 y22 z22 st22 hQ22
  subst l22 y22 z22
  obtain ⟨b22, k22q, rfl, Nq22, K22, sz022, V22⟩ := hQ22
  have N22 := Fr.app N0 Nq22
  obtain ⟨h22, e22⟩ : ∃ z, T22.heap = z := ⟨_, rfl⟩
  rw [e22] at K22 V22
  have g_b22 : n0 ≤ b22 := Nat.le_trans Z0 sz022
  have KZ_22 : n0 ≤ h22.size := Nat.le_trans Z0 K22.1
  obtain ⟨_, _, ⟨T23, L23, k23, n23⟩, -, X23, ⟨Lc23, hQ23, l23, y23, z23⟩, st23⟩ := Jvm.LawKit.callS X22 hx (y := (⟨"com/example/ledgermatch/ledgermatch/ViewPointPinLaw", "four", "(I)[B"⟩ : MethodName)) hown (mvT hZ (hw _ (List.mem_of_getElem? (i := 0) rfl))) (mvT hZ (hw _ (List.mem_of_getElem? (i := 1) rfl))) (mvT hZ (hw _ (List.mem_of_getElem? (i := 2) rfl))) (mvT hZ (hw _ (List.mem_of_getElem? (i := 3) rfl))) (by decide) (backOf (W := 0) (own_four l Z a0 hw p1 h22 n0 KZ_22) hZ (hw _ (List.mem_of_getElem? (i := 3) rfl)) (hw _ (List.mem_of_getElem? (i := 2) rfl)) (by decide) (by decide)) (g := (mkF m 7 #[.val (.int p0), .val (.int p1), .val (.int p2), .val (.int p3), .val (.int p4), .val (.ref b22), .unset, .unset, .unset, .unset, .unset, .unset] [(.int p1)])) rfl (by rw [hml]; rfl) (argsL := [(.int p1)]) (rest := []) (lenOf own_pd_4 rfl) rfl (by show 2 * 0 + _ ≤ _; exact Nat.le_of_eq rfl) (hb hby at_7) (fun _ _ => ⟨rfl, e22, (by decide : 1 + 1 ≤ _), (by decide : 4 + 4 ≤ _)⟩)
  dsimp only [Pt.U, Pt.locs, Pt.cells, Pt.slots] at X23 l23 y23 z23 st23 hQ23
  subst l23 y23 z23
  obtain ⟨b23, k23q, rfl, Nq23, K23, sz023, V23⟩ := hQ23
  have N23 := Fr.app N22 Nq23
  obtain ⟨h23, e23⟩ : ∃ z, T23.heap = z := ⟨_, rfl⟩
  rw [e23] at K23 V23
  have ne_b22_b23 : b22 ≠ b23 := Nat.ne_of_lt (Nat.lt_of_lt_of_le V22.lt sz023)
  have g_b23 : n0 ≤ b23 := Nat.le_trans KZ_22 sz023
  have KZ_23 : n0 ≤ h23.size := Nat.le_trans KZ_22 K23.1
  have V_b22_23 : Arv Z h23 b22 k22q .byte (4 : Int32) [(.int (nar .byte (p0.toInt8.toInt32))), (.int (nar .byte ((p0 >>> ((8 : Int32) &&& 31)).toInt8.toInt32))), (.int (nar .byte ((p0 >>> ((16 : Int32) &&& 31)).toInt8.toInt32))), (.int (nar .byte ((p0 >>> ((24 : Int32) &&& 31)).toInt8.toInt32)))] (.int (0 : Int32)) := V22.keep K23 nin0
  obtain ⟨T24, h24, X24, e24, E24, A24, D24, U24, st24⟩ := newO X23 hx hZ hown (hw _ (List.mem_of_getElem? (i := 5) rfl)) (hw _ (List.mem_of_getElem? (i := 6) rfl)) (hw _ (List.mem_of_getElem? (i := 7) rfl)) e23 (g := (mkF m 12 #[.val (.int p0), .val (.int p1), .val (.int p2), .val (.int p3), .val (.int p4), .val (.ref b22), .val (.ref b23), .unset, .unset, .unset, .unset, .unset] [])) rfl (hb hby at_12) (by decide) (by decide)
  obtain ⟨b24, g24⟩ : ∃ z, z = h23.size := ⟨_, rfl⟩
  rw [← g24] at A24 D24 U24 st24
  have ne_b22_b24 : b22 ≠ b24 := Nat.ne_of_lt (Nat.lt_of_lt_of_le V_b22_23.lt (Nat.le_of_eq g24.symm))
  have ne_b23_b24 : b23 ≠ b24 := Nat.ne_of_lt (Nat.lt_of_lt_of_le V23.lt (Nat.le_of_eq g24.symm))
  have g_b24 : n0 ≤ b24 := Nat.le_trans KZ_23 (Nat.le_of_eq g24.symm)
  have KZ_24 : n0 ≤ h24.size := Nat.le_trans KZ_23 E24.1
  have V_b22_24 : Arv Z h24 b22 k22q .byte (4 : Int32) [(.int (nar .byte (p0.toInt8.toInt32))), (.int (nar .byte ((p0 >>> ((8 : Int32) &&& 31)).toInt8.toInt32))), (.int (nar .byte ((p0 >>> ((16 : Int32) &&& 31)).toInt8.toInt32))), (.int (nar .byte ((p0 >>> ((24 : Int32) &&& 31)).toInt8.toInt32)))] (.int (0 : Int32)) := V_b22_23.ext E24
  have V_b23_24 : Arv Z h24 b23 k23q .byte (4 : Int32) [(.int (nar .byte (p1.toInt8.toInt32))), (.int (nar .byte ((p1 >>> ((8 : Int32) &&& 31)).toInt8.toInt32))), (.int (nar .byte ((p1 >>> ((16 : Int32) &&& 31)).toInt8.toInt32))), (.int (nar .byte ((p1 >>> ((24 : Int32) &&& 31)).toInt8.toInt32)))] (.int (0 : Int32)) := V23.ext E24
  have F_bytes_b24 : Fld Z h24 b24 "com/example/ledgermatch/ledgermatch/AsciiText$View" "bytes" "[B" .null := D24 (Or.inl (hw _ (List.mem_of_getElem? (i := 15) rfl))) (ty := (.array .byte)) (by decide)
  have F_start_b24 : Fld Z h24 b24 "com/example/ledgermatch/ledgermatch/AsciiText$View" "start" "I" (.int (0 : Int32)) := D24 (Or.inl (hw _ (List.mem_of_getElem? (i := 22) rfl))) (ty := .int) (by decide)
  have F_end_b24 : Fld Z h24 b24 "com/example/ledgermatch/ledgermatch/AsciiText$View" "end" "I" (.int (0 : Int32)) := D24 (Or.inl (hw _ (List.mem_of_getElem? (i := 24) rfl))) (ty := .int) (by decide)
  obtain ⟨_, _, ⟨T25, L25, k25, n25⟩, -, X25, ⟨Lc25, hQ25, l25, y25, z25⟩, st25⟩ := X24.specialBack hx (y := (⟨"com/example/ledgermatch/ledgermatch/AsciiText$View", "<init>", "()V"⟩ : MethodName)) rfl hown (mvT hZ (hw _ (List.mem_of_getElem? (i := 8) rfl))) (mvT hZ (hw _ (List.mem_of_getElem? (i := 9) rfl))) (mvT hZ (hw _ (List.mem_of_getElem? (i := 10) rfl))) (by decide) (backOf (W := 1) (own_init l Z a0 hw b24 _ h24 n0 KZ_24 A24 F_bytes_b24 F_start_b24 F_end_b24 g_b24) hZ (hw _ (List.mem_of_getElem? (i := 10) rfl)) (hw _ (List.mem_of_getElem? (i := 7) rfl)) (by decide) (by decide)) (g := (mkF m 16 #[.val (.int p0), .val (.int p1), .val (.int p2), .val (.int p3), .val (.int p4), .val (.ref b22), .val (.ref b23), .unset, .unset, .unset, .unset, .unset] [(.ref b24), (.ref b24)])) rfl (by rw [hml]; rfl) (Steps.refl _) (a := b24) (argsL := []) (rest := [(.ref b24)]) (lenOf own_pd_5 rfl) rfl (by show 2 * 0 + _ ≤ _; exact Nat.le_of_eq rfl) (hb hby at_16) (fun _ _ => ⟨rfl, e24, (by decide : 3 + 1 ≤ _), (by decide : 11 + 0 ≤ _)⟩)
  dsimp only [Pt.U, Pt.locs, Pt.cells, Pt.slots] at X25 l25 y25 z25 st25 hQ25
  subst l25 y25 z25
  obtain ⟨rfl, Nq25, K25, ⟨ub25, FB25⟩, FS25, FE25⟩ := hQ25
  have N25 := Fr.app N23 Nq25
  obtain ⟨h25, e25⟩ : ∃ z, T25.heap = z := ⟨_, rfl⟩
  rw [e25] at K25 FB25 FS25 FE25
  have KZ_25 : n0 ≤ h25.size := Nat.le_trans KZ_24 K25.1
  have V_b22_25 : Arv Z h25 b22 k22q .byte (4 : Int32) [(.int (nar .byte (p0.toInt8.toInt32))), (.int (nar .byte ((p0 >>> ((8 : Int32) &&& 31)).toInt8.toInt32))), (.int (nar .byte ((p0 >>> ((16 : Int32) &&& 31)).toInt8.toInt32))), (.int (nar .byte ((p0 >>> ((24 : Int32) &&& 31)).toInt8.toInt32)))] (.int (0 : Int32)) := V_b22_24.keep K25 (ninS ne_b22_b24 nin0)
  have V_b23_25 : Arv Z h25 b23 k23q .byte (4 : Int32) [(.int (nar .byte (p1.toInt8.toInt32))), (.int (nar .byte ((p1 >>> ((8 : Int32) &&& 31)).toInt8.toInt32))), (.int (nar .byte ((p1 >>> ((16 : Int32) &&& 31)).toInt8.toInt32))), (.int (nar .byte ((p1 >>> ((24 : Int32) &&& 31)).toInt8.toInt32)))] (.int (0 : Int32)) := V_b23_24.keep K25 (ninS ne_b23_b24 nin0)
  have E_b24_25 : Exa Z h25 b24 "com/example/ledgermatch/ledgermatch/AsciiText$View" := A24.keep K25
  obtain ⟨cq26, kq26, q26a, q26b, q26c⟩ := isOf hZ e25 E_b24_25
  obtain ⟨_, _, ⟨T26, L26, k26, n26⟩, -, X26, ⟨Lc26, hQ26, l26, y26, z26⟩, st26⟩ := X25.virtualBack hx (y := (⟨"com/example/ledgermatch/ledgermatch/AsciiText$View", "point", "([BII)V"⟩ : MethodName)) (z := (⟨"com/example/ledgermatch/ledgermatch/AsciiText$View", "point", "([BII)V"⟩ : MethodName)) hown (mvT hZ (hw _ (List.mem_of_getElem? (i := 16) rfl))) (mvT hZ (hw _ (List.mem_of_getElem? (i := 17) rfl))) (notFace_of_selects (args := #[]) (mvT hZ (hw _ (List.mem_of_getElem? (i := 19) rfl)))) (mvT hZ (hw _ (List.mem_of_getElem? (i := 19) rfl))) (mvT hZ (hw _ (List.mem_of_getElem? (i := 18) rfl))) (by decide) (backOf (W := 0) (own_point l Z a0 hw b24 b22 p2 p3 _ _ _ h25 n0 KZ_25 E_b24_25 FB25 FS25 FE25 g_b24) hZ (hw _ (List.mem_of_getElem? (i := 20) rfl)) (hw _ (List.mem_of_getElem? (i := 7) rfl)) (by decide) (by decide)) q26a q26c (g := (mkF m 27 #[.val (.int p0), .val (.int p1), .val (.int p2), .val (.int p3), .val (.int p4), .val (.ref b22), .val (.ref b23), .val (.ref b24), .unset, .unset, .unset, .unset] [(.int p3), (.int p2), (.ref b22), (.ref b24)])) rfl (by rw [hml]; rfl) (Steps.refl _) (argsL := [(.ref b22), (.int p2), (.int p3)]) (rest := []) (lenOf own_pd_6 rfl) rfl (by show 2 * 0 + _ ≤ _; exact Nat.le_of_eq rfl) (hb hby at_27) (fun _ _ => ⟨rfl, e25, (by decide : 4 + 0 ≤ _), (by decide : 11 + 0 ≤ _)⟩)
  dsimp only [Pt.U, Pt.locs, Pt.cells, Pt.slots] at X26 l26 y26 z26 st26 hQ26
  subst l26 y26 z26
  obtain ⟨rfl, Nq26, K26, FB26, FS26, FE26⟩ := hQ26
  have N26 := Fr.app N25 Nq26
  obtain ⟨h26, e26⟩ : ∃ z, T26.heap = z := ⟨_, rfl⟩
  rw [e26] at K26 FB26 FS26 FE26
  have KZ_26 : n0 ≤ h26.size := Nat.le_trans KZ_25 K26.1
  have V_b22_26 : Arv Z h26 b22 k22q .byte (4 : Int32) [(.int (nar .byte (p0.toInt8.toInt32))), (.int (nar .byte ((p0 >>> ((8 : Int32) &&& 31)).toInt8.toInt32))), (.int (nar .byte ((p0 >>> ((16 : Int32) &&& 31)).toInt8.toInt32))), (.int (nar .byte ((p0 >>> ((24 : Int32) &&& 31)).toInt8.toInt32)))] (.int (0 : Int32)) := V_b22_25.keep K26 (ninS ne_b22_b24 nin0)
  have V_b23_26 : Arv Z h26 b23 k23q .byte (4 : Int32) [(.int (nar .byte (p1.toInt8.toInt32))), (.int (nar .byte ((p1 >>> ((8 : Int32) &&& 31)).toInt8.toInt32))), (.int (nar .byte ((p1 >>> ((16 : Int32) &&& 31)).toInt8.toInt32))), (.int (nar .byte ((p1 >>> ((24 : Int32) &&& 31)).toInt8.toInt32)))] (.int (0 : Int32)) := V_b23_25.keep K26 (ninS ne_b23_b24 nin0)
  have E_b24_26 : Exa Z h26 b24 "com/example/ledgermatch/ledgermatch/AsciiText$View" := E_b24_25.keep K26
  obtain ⟨cq27, kq27, q27a, q27b, q27c⟩ := isOf hZ e26 E_b24_26
  obtain ⟨_, _, ⟨T27, L27, k27, n27⟩, -, X27, ⟨Lc27, hQ27, l27, y27, z27⟩, st27⟩ := X26.virtualBack hx (y := (⟨"com/example/ledgermatch/ledgermatch/AsciiText$View", "bytes", "()[B"⟩ : MethodName)) (z := (⟨"com/example/ledgermatch/ledgermatch/AsciiText$View", "bytes", "()[B"⟩ : MethodName)) hown (mvT hZ (hw _ (List.mem_of_getElem? (i := 25) rfl))) (mvT hZ (hw _ (List.mem_of_getElem? (i := 26) rfl))) (notFace_of_selects (args := #[]) (mvT hZ (hw _ (List.mem_of_getElem? (i := 28) rfl)))) (mvT hZ (hw _ (List.mem_of_getElem? (i := 28) rfl))) (mvT hZ (hw _ (List.mem_of_getElem? (i := 27) rfl))) (by decide) (backOf (W := 0) (own_by l Z a0 hw b24 b22 h26 n0 KZ_26 FB26) hZ (hw _ (List.mem_of_getElem? (i := 29) rfl)) (hw _ (List.mem_of_getElem? (i := 7) rfl)) (by decide) (by decide)) q27a q27c (g := (mkF m 32 #[.val (.int p0), .val (.int p1), .val (.int p2), .val (.int p3), .val (.int p4), .val (.ref b22), .val (.ref b23), .val (.ref b24), .unset, .unset, .unset, .unset] [(.ref b24)])) rfl (by rw [hml]; rfl) (Steps.refl _) (argsL := []) (rest := []) (lenOf own_pd_2 rfl) rfl (by show 2 * 0 + _ ≤ _; exact Nat.le_of_eq rfl) (hb hby at_32) (fun _ _ => ⟨rfl, e26, (by decide : 4 + 0 ≤ _), (by decide : 11 + 0 ≤ _)⟩)
  dsimp only [Pt.U, Pt.locs, Pt.cells, Pt.slots] at X27 l27 y27 z27 st27 hQ27
  subst l27 y27 z27
  obtain ⟨rfl, Nq27, eh27⟩ := hQ27
  have N27 := Fr.app N26 Nq27
  have e27 : T27.heap = h26 := eh27
  obtain ⟨cq28, kq28, q28a, q28b, q28c⟩ := isOf hZ e27 E_b24_26
  obtain ⟨_, _, ⟨T28, L28, k28, n28⟩, -, X28, ⟨Lc28, hQ28, l28, y28, z28⟩, st28⟩ := X27.virtualBack hx (y := (⟨"com/example/ledgermatch/ledgermatch/AsciiText$View", "start", "()I"⟩ : MethodName)) (z := (⟨"com/example/ledgermatch/ledgermatch/AsciiText$View", "start", "()I"⟩ : MethodName)) hown (mvT hZ (hw _ (List.mem_of_getElem? (i := 30) rfl))) (mvT hZ (hw _ (List.mem_of_getElem? (i := 31) rfl))) (notFace_of_selects (args := #[]) (mvT hZ (hw _ (List.mem_of_getElem? (i := 33) rfl)))) (mvT hZ (hw _ (List.mem_of_getElem? (i := 33) rfl))) (mvT hZ (hw _ (List.mem_of_getElem? (i := 32) rfl))) (by decide) (backOf (W := 0) (own_st l Z a0 hw b24 p2 h26 n0 KZ_26 FS26) hZ (hw _ (List.mem_of_getElem? (i := 34) rfl)) (hw _ (List.mem_of_getElem? (i := 7) rfl)) (by decide) (by decide)) q28a q28c (g := (mkF m 42 #[.val (.int p0), .val (.int p1), .val (.int p2), .val (.int p3), .val (.int p4), .val (.ref b22), .val (.ref b23), .val (.ref b24), .unset, .unset, .unset, .unset] [(.ref b24)])) rfl (by rw [hml]; rfl) (Steps.refl _) (argsL := []) (rest := []) (lenOf own_pd_1 rfl) rfl (by show 2 * 0 + _ ≤ _; exact Nat.le_of_eq rfl) (hb hby at_42) (fun _ _ => ⟨rfl, e27, (by decide : 4 + 0 ≤ _), (by decide : 11 + 0 ≤ _)⟩)
  dsimp only [Pt.U, Pt.locs, Pt.cells, Pt.slots] at X28 l28 y28 z28 st28 hQ28
  subst l28 y28 z28
  obtain ⟨rfl, Nq28, eh28⟩ := hQ28
  have N28 := Fr.app N27 Nq28
  have e28 : T28.heap = h26 := eh28
  obtain ⟨cq29, kq29, q29a, q29b, q29c⟩ := isOf hZ e28 E_b24_26
  obtain ⟨_, _, ⟨T29, L29, k29, n29⟩, -, X29, ⟨Lc29, hQ29, l29, y29, z29⟩, st29⟩ := X28.virtualBack hx (y := (⟨"com/example/ledgermatch/ledgermatch/AsciiText$View", "end", "()I"⟩ : MethodName)) (z := (⟨"com/example/ledgermatch/ledgermatch/AsciiText$View", "end", "()I"⟩ : MethodName)) hown (mvT hZ (hw _ (List.mem_of_getElem? (i := 35) rfl))) (mvT hZ (hw _ (List.mem_of_getElem? (i := 36) rfl))) (notFace_of_selects (args := #[]) (mvT hZ (hw _ (List.mem_of_getElem? (i := 38) rfl)))) (mvT hZ (hw _ (List.mem_of_getElem? (i := 38) rfl))) (mvT hZ (hw _ (List.mem_of_getElem? (i := 37) rfl))) (by decide) (backOf (W := 0) (own_en l Z a0 hw b24 p3 h26 n0 KZ_26 FE26) hZ (hw _ (List.mem_of_getElem? (i := 39) rfl)) (hw _ (List.mem_of_getElem? (i := 7) rfl)) (by decide) (by decide)) q29a q29c (g := (mkF m 51 #[.val (.int p0), .val (.int p1), .val (.int p2), .val (.int p3), .val (.int p4), .val (.ref b22), .val (.ref b23), .val (.ref b24), .unset, .unset, .unset, .unset] [(.ref b24)])) rfl (by rw [hml]; rfl) (Steps.refl _) (argsL := []) (rest := []) (lenOf own_pd_1 rfl) rfl (by show 2 * 0 + _ ≤ _; exact Nat.le_of_eq rfl) (hb hby at_51) (fun _ _ => ⟨rfl, e28, (by decide : 4 + 0 ≤ _), (by decide : 11 + 0 ≤ _)⟩)
  dsimp only [Pt.U, Pt.locs, Pt.cells, Pt.slots] at X29 l29 y29 z29 st29 hQ29
  subst l29 y29 z29
  obtain ⟨rfl, Nq29, eh29⟩ := hQ29
  have N29 := Fr.app N28 Nq29
  have e29 : T29.heap = h26 := eh29
  obtain ⟨cq30, kq30, q30a, q30b, q30c⟩ := isOf hZ e29 E_b24_26
  obtain ⟨_, _, ⟨T30, L30, k30, n30⟩, -, X30, ⟨Lc30, hQ30, l30, y30, z30⟩, st30⟩ := X29.virtualBack hx (y := (⟨"com/example/ledgermatch/ledgermatch/AsciiText$View", "point", "([BII)V"⟩ : MethodName)) (z := (⟨"com/example/ledgermatch/ledgermatch/AsciiText$View", "point", "([BII)V"⟩ : MethodName)) hown (mvT hZ (hw _ (List.mem_of_getElem? (i := 16) rfl))) (mvT hZ (hw _ (List.mem_of_getElem? (i := 17) rfl))) (notFace_of_selects (args := #[]) (mvT hZ (hw _ (List.mem_of_getElem? (i := 19) rfl)))) (mvT hZ (hw _ (List.mem_of_getElem? (i := 19) rfl))) (mvT hZ (hw _ (List.mem_of_getElem? (i := 18) rfl))) (by decide) (backOf (W := 0) (own_point l Z a0 hw b24 b23 s2 e2 _ _ _ h26 n0 KZ_26 E_b24_26 FB26 FS26 FE26 g_b24) hZ (hw _ (List.mem_of_getElem? (i := 20) rfl)) (hw _ (List.mem_of_getElem? (i := 7) rfl)) (by decide) (by decide)) q30a q30c (g := (mkF m 102 #[.val (.int p0), .val (.int p1), .val (.int p2), .val (.int p3), .val (.int p4), .val (.ref b22), .val (.ref b23), .val (.ref b24), .val (.int (1 : Int32)), .val (.int s2), .val (.int e2), .unset] [(.int e2), (.int s2), (.ref b23), (.ref b24)])) rfl (by rw [hml]; rfl) (Steps.refl _) (argsL := [(.ref b23), (.int s2), (.int e2)]) (rest := []) (lenOf own_pd_6 rfl) rfl (by show 2 * 0 + _ ≤ _; exact Nat.le_of_eq rfl) (hb hby at_102) (fun _ _ => ⟨rfl, e29, (by decide : 4 + 0 ≤ _), (by decide : 11 + 0 ≤ _)⟩)
  dsimp only [Pt.U, Pt.locs, Pt.cells, Pt.slots] at X30 l30 y30 z30 st30 hQ30
  subst l30 y30 z30
  obtain ⟨rfl, Nq30, K30, FB30, FS30, FE30⟩ := hQ30
  have N30 := Fr.app N29 Nq30
  obtain ⟨h30, e30⟩ : ∃ z, T30.heap = z := ⟨_, rfl⟩
  rw [e30] at K30 FB30 FS30 FE30
  have KZ_30 : n0 ≤ h30.size := Nat.le_trans KZ_26 K30.1
  have V_b22_30 : Arv Z h30 b22 k22q .byte (4 : Int32) [(.int (nar .byte (p0.toInt8.toInt32))), (.int (nar .byte ((p0 >>> ((8 : Int32) &&& 31)).toInt8.toInt32))), (.int (nar .byte ((p0 >>> ((16 : Int32) &&& 31)).toInt8.toInt32))), (.int (nar .byte ((p0 >>> ((24 : Int32) &&& 31)).toInt8.toInt32)))] (.int (0 : Int32)) := V_b22_26.keep K30 (ninS ne_b22_b24 nin0)
  have V_b23_30 : Arv Z h30 b23 k23q .byte (4 : Int32) [(.int (nar .byte (p1.toInt8.toInt32))), (.int (nar .byte ((p1 >>> ((8 : Int32) &&& 31)).toInt8.toInt32))), (.int (nar .byte ((p1 >>> ((16 : Int32) &&& 31)).toInt8.toInt32))), (.int (nar .byte ((p1 >>> ((24 : Int32) &&& 31)).toInt8.toInt32)))] (.int (0 : Int32)) := V_b23_26.keep K30 (ninS ne_b23_b24 nin0)
  have E_b24_30 : Exa Z h30 b24 "com/example/ledgermatch/ledgermatch/AsciiText$View" := E_b24_26.keep K30
  obtain ⟨cq31, kq31, q31a, q31b, q31c⟩ := isOf hZ e30 E_b24_30
  obtain ⟨_, _, ⟨T31, L31, k31, n31⟩, -, X31, ⟨Lc31, hQ31, l31, y31, z31⟩, st31⟩ := X30.virtualBack hx (y := (⟨"com/example/ledgermatch/ledgermatch/AsciiText$View", "bytes", "()[B"⟩ : MethodName)) (z := (⟨"com/example/ledgermatch/ledgermatch/AsciiText$View", "bytes", "()[B"⟩ : MethodName)) hown (mvT hZ (hw _ (List.mem_of_getElem? (i := 25) rfl))) (mvT hZ (hw _ (List.mem_of_getElem? (i := 26) rfl))) (notFace_of_selects (args := #[]) (mvT hZ (hw _ (List.mem_of_getElem? (i := 28) rfl)))) (mvT hZ (hw _ (List.mem_of_getElem? (i := 28) rfl))) (mvT hZ (hw _ (List.mem_of_getElem? (i := 27) rfl))) (by decide) (backOf (W := 0) (own_by l Z a0 hw b24 b23 h30 n0 KZ_30 FB30) hZ (hw _ (List.mem_of_getElem? (i := 29) rfl)) (hw _ (List.mem_of_getElem? (i := 7) rfl)) (by decide) (by decide)) q31a q31c (g := (mkF m 112 #[.val (.int p0), .val (.int p1), .val (.int p2), .val (.int p3), .val (.int p4), .val (.ref b22), .val (.ref b23), .val (.ref b24), .val (.int (1 : Int32)), .val (.int s2), .val (.int e2), .unset] [(.ref b24)])) rfl (by rw [hml]; rfl) (Steps.refl _) (argsL := []) (rest := []) (lenOf own_pd_2 rfl) rfl (by show 2 * 0 + _ ≤ _; exact Nat.le_of_eq rfl) (hb hby at_112) (fun _ _ => ⟨rfl, e30, (by decide : 4 + 0 ≤ _), (by decide : 11 + 0 ≤ _)⟩)
  dsimp only [Pt.U, Pt.locs, Pt.cells, Pt.slots] at X31 l31 y31 z31 st31 hQ31
  subst l31 y31 z31
  obtain ⟨rfl, Nq31, eh31⟩ := hQ31
  have N31 := Fr.app N30 Nq31
  have e31 : T31.heap = h30 := eh31
  obtain ⟨cq32, kq32, q32a, q32b, q32c⟩ := isOf hZ e31 E_b24_30
  obtain ⟨_, _, ⟨T32, L32, k32, n32⟩, -, X32, ⟨Lc32, hQ32, l32, y32, z32⟩, st32⟩ := X31.virtualBack hx (y := (⟨"com/example/ledgermatch/ledgermatch/AsciiText$View", "start", "()I"⟩ : MethodName)) (z := (⟨"com/example/ledgermatch/ledgermatch/AsciiText$View", "start", "()I"⟩ : MethodName)) hown (mvT hZ (hw _ (List.mem_of_getElem? (i := 30) rfl))) (mvT hZ (hw _ (List.mem_of_getElem? (i := 31) rfl))) (notFace_of_selects (args := #[]) (mvT hZ (hw _ (List.mem_of_getElem? (i := 33) rfl)))) (mvT hZ (hw _ (List.mem_of_getElem? (i := 33) rfl))) (mvT hZ (hw _ (List.mem_of_getElem? (i := 32) rfl))) (by decide) (backOf (W := 0) (own_st l Z a0 hw b24 s2 h30 n0 KZ_30 FS30) hZ (hw _ (List.mem_of_getElem? (i := 34) rfl)) (hw _ (List.mem_of_getElem? (i := 7) rfl)) (by decide) (by decide)) q32a q32c (g := (mkF m 122 #[.val (.int p0), .val (.int p1), .val (.int p2), .val (.int p3), .val (.int p4), .val (.ref b22), .val (.ref b23), .val (.ref b24), .val (.int (1 : Int32)), .val (.int s2), .val (.int e2), .unset] [(.ref b24)])) rfl (by rw [hml]; rfl) (Steps.refl _) (argsL := []) (rest := []) (lenOf own_pd_1 rfl) rfl (by show 2 * 0 + _ ≤ _; exact Nat.le_of_eq rfl) (hb hby at_122) (fun _ _ => ⟨rfl, e31, (by decide : 4 + 0 ≤ _), (by decide : 11 + 0 ≤ _)⟩)
  dsimp only [Pt.U, Pt.locs, Pt.cells, Pt.slots] at X32 l32 y32 z32 st32 hQ32
  subst l32 y32 z32
  obtain ⟨rfl, Nq32, eh32⟩ := hQ32
  have N32 := Fr.app N31 Nq32
  have e32 : T32.heap = h30 := eh32
  obtain ⟨cq33, kq33, q33a, q33b, q33c⟩ := isOf hZ e32 E_b24_30
  obtain ⟨_, _, ⟨T33, L33, k33, n33⟩, -, X33, ⟨Lc33, hQ33, l33, y33, z33⟩, st33⟩ := X32.virtualBack hx (y := (⟨"com/example/ledgermatch/ledgermatch/AsciiText$View", "end", "()I"⟩ : MethodName)) (z := (⟨"com/example/ledgermatch/ledgermatch/AsciiText$View", "end", "()I"⟩ : MethodName)) hown (mvT hZ (hw _ (List.mem_of_getElem? (i := 35) rfl))) (mvT hZ (hw _ (List.mem_of_getElem? (i := 36) rfl))) (notFace_of_selects (args := #[]) (mvT hZ (hw _ (List.mem_of_getElem? (i := 38) rfl)))) (mvT hZ (hw _ (List.mem_of_getElem? (i := 38) rfl))) (mvT hZ (hw _ (List.mem_of_getElem? (i := 37) rfl))) (by decide) (backOf (W := 0) (own_en l Z a0 hw b24 e2 h30 n0 KZ_30 FE30) hZ (hw _ (List.mem_of_getElem? (i := 39) rfl)) (hw _ (List.mem_of_getElem? (i := 7) rfl)) (by decide) (by decide)) q33a q33c (g := (mkF m 132 #[.val (.int p0), .val (.int p1), .val (.int p2), .val (.int p3), .val (.int p4), .val (.ref b22), .val (.ref b23), .val (.ref b24), .val (.int (1 : Int32)), .val (.int s2), .val (.int e2), .unset] [(.ref b24)])) rfl (by rw [hml]; rfl) (Steps.refl _) (argsL := []) (rest := []) (lenOf own_pd_1 rfl) rfl (by show 2 * 0 + _ ≤ _; exact Nat.le_of_eq rfl) (hb hby at_132) (fun _ _ => ⟨rfl, e32, (by decide : 4 + 0 ≤ _), (by decide : 11 + 0 ≤ _)⟩)
  dsimp only [Pt.U, Pt.locs, Pt.cells, Pt.slots] at X33 l33 y33 z33 st33 hQ33
  subst l33 y33 z33
  obtain ⟨rfl, Nq33, eh33⟩ := hQ33
  have N33 := Fr.app N32 Nq33
  have e33 : T33.heap = h30 := eh33
  obtain ⟨fs, hr, hrun, hended, hW, hsame⟩ := X33.leave (v := some (.int (1 : Int32))) (fun h => by rw [Bd.returns] at h; cases h)
  refine ⟨_, _, pre0 _ ?_, hrun, hended, _, _, rfl, ?_, ⟨_, rfl⟩, hW, hsame.mono (by decide) (by decide)⟩
  · show Steps p.tables e below (s₁.setTop (mkF m 0 #[.val (.int p0), .val (.int p1), .val (.int p2), .val (.int p3), .val (.int p4), .unset, .unset, .unset, .unset, .unset, .unset, .unset] [])) _
    refine XS.iloadN X0.here hx rfl (hb hby at_0) rfl ?_
    show Steps p.tables e below (s₁.setTop (mkF m 1 #[.val (.int p0), .val (.int p1), .val (.int p2), .val (.int p3), .val (.int p4), .unset, .unset, .unset, .unset, .unset, .unset, .unset] [(.int p0)])) _
    refine st22 _ ?_
    show Steps p.tables e below (T22.setTop (mkF m 4 #[.val (.int p0), .val (.int p1), .val (.int p2), .val (.int p3), .val (.int p4), .unset, .unset, .unset, .unset, .unset, .unset, .unset] [(.ref b22)])) _
    refine XS.astore X22.here hx rfl (hb hby at_4) rfl rfl (l' := #[.val (.int p0), .val (.int p1), .val (.int p2), .val (.int p3), .val (.int p4), .val (.ref b22), .unset, .unset, .unset, .unset, .unset, .unset]) rfl ?_
    show Steps p.tables e below (T22.setTop (mkF m 6 #[.val (.int p0), .val (.int p1), .val (.int p2), .val (.int p3), .val (.int p4), .val (.ref b22), .unset, .unset, .unset, .unset, .unset, .unset] [])) _
    refine XS.iloadN X22.here hx rfl (hb hby at_6) rfl ?_
    show Steps p.tables e below (T22.setTop (mkF m 7 #[.val (.int p0), .val (.int p1), .val (.int p2), .val (.int p3), .val (.int p4), .val (.ref b22), .unset, .unset, .unset, .unset, .unset, .unset] [(.int p1)])) _
    refine st23 _ ?_
    show Steps p.tables e below (T23.setTop (mkF m 10 #[.val (.int p0), .val (.int p1), .val (.int p2), .val (.int p3), .val (.int p4), .val (.ref b22), .unset, .unset, .unset, .unset, .unset, .unset] [(.ref b23)])) _
    refine XS.astore X23.here hx rfl (hb hby at_10) rfl rfl (l' := #[.val (.int p0), .val (.int p1), .val (.int p2), .val (.int p3), .val (.int p4), .val (.ref b22), .val (.ref b23), .unset, .unset, .unset, .unset, .unset]) rfl ?_
    show Steps p.tables e below (T23.setTop (mkF m 12 #[.val (.int p0), .val (.int p1), .val (.int p2), .val (.int p3), .val (.int p4), .val (.ref b22), .val (.ref b23), .unset, .unset, .unset, .unset, .unset] [])) _
    refine st24 _ ?_
    show Steps p.tables e below (T24.setTop (mkF m 15 #[.val (.int p0), .val (.int p1), .val (.int p2), .val (.int p3), .val (.int p4), .val (.ref b22), .val (.ref b23), .unset, .unset, .unset, .unset, .unset] [(.ref b24)])) _
    refine XS.dup X24.here hx rfl (hb hby at_15) rfl rfl ?_
    show Steps p.tables e below (T24.setTop (mkF m 16 #[.val (.int p0), .val (.int p1), .val (.int p2), .val (.int p3), .val (.int p4), .val (.ref b22), .val (.ref b23), .unset, .unset, .unset, .unset, .unset] [(.ref b24), (.ref b24)])) _
    refine st25.trans ?_
    show Steps p.tables e below (T25.setTop (mkF m 19 #[.val (.int p0), .val (.int p1), .val (.int p2), .val (.int p3), .val (.int p4), .val (.ref b22), .val (.ref b23), .unset, .unset, .unset, .unset, .unset] [(.ref b24)])) _
    refine XS.astore X25.here hx rfl (hb hby at_19) rfl rfl (l' := #[.val (.int p0), .val (.int p1), .val (.int p2), .val (.int p3), .val (.int p4), .val (.ref b22), .val (.ref b23), .val (.ref b24), .unset, .unset, .unset, .unset]) rfl ?_
    show Steps p.tables e below (T25.setTop (mkF m 21 #[.val (.int p0), .val (.int p1), .val (.int p2), .val (.int p3), .val (.int p4), .val (.ref b22), .val (.ref b23), .val (.ref b24), .unset, .unset, .unset, .unset] [])) _
    refine XS.aload X25.here hx rfl (hb hby at_21) rfl rfl ?_
    show Steps p.tables e below (T25.setTop (mkF m 23 #[.val (.int p0), .val (.int p1), .val (.int p2), .val (.int p3), .val (.int p4), .val (.ref b22), .val (.ref b23), .val (.ref b24), .unset, .unset, .unset, .unset] [(.ref b24)])) _
    refine XS.aload X25.here hx rfl (hb hby at_23) rfl rfl ?_
    show Steps p.tables e below (T25.setTop (mkF m 25 #[.val (.int p0), .val (.int p1), .val (.int p2), .val (.int p3), .val (.int p4), .val (.ref b22), .val (.ref b23), .val (.ref b24), .unset, .unset, .unset, .unset] [(.ref b22), (.ref b24)])) _
    refine XS.iloadN X25.here hx rfl (hb hby at_25) rfl ?_
    show Steps p.tables e below (T25.setTop (mkF m 26 #[.val (.int p0), .val (.int p1), .val (.int p2), .val (.int p3), .val (.int p4), .val (.ref b22), .val (.ref b23), .val (.ref b24), .unset, .unset, .unset, .unset] [(.int p2), (.ref b22), (.ref b24)])) _
    refine XS.iloadN X25.here hx rfl (hb hby at_26) rfl ?_
    show Steps p.tables e below (T25.setTop (mkF m 27 #[.val (.int p0), .val (.int p1), .val (.int p2), .val (.int p3), .val (.int p4), .val (.ref b22), .val (.ref b23), .val (.ref b24), .unset, .unset, .unset, .unset] [(.int p3), (.int p2), (.ref b22), (.ref b24)])) _
    refine st26.trans ?_
    show Steps p.tables e below (T26.setTop (mkF m 30 #[.val (.int p0), .val (.int p1), .val (.int p2), .val (.int p3), .val (.int p4), .val (.ref b22), .val (.ref b23), .val (.ref b24), .unset, .unset, .unset, .unset] [])) _
    refine XS.aload X26.here hx rfl (hb hby at_30) rfl rfl ?_
    show Steps p.tables e below (T26.setTop (mkF m 32 #[.val (.int p0), .val (.int p1), .val (.int p2), .val (.int p3), .val (.int p4), .val (.ref b22), .val (.ref b23), .val (.ref b24), .unset, .unset, .unset, .unset] [(.ref b24)])) _
    refine st27.trans ?_
    show Steps p.tables e below (T27.setTop (mkF m 35 #[.val (.int p0), .val (.int p1), .val (.int p2), .val (.int p3), .val (.int p4), .val (.ref b22), .val (.ref b23), .val (.ref b24), .unset, .unset, .unset, .unset] [(.ref b22)])) _
    refine XS.aload X27.here hx rfl (hb hby at_35) rfl rfl ?_
    show Steps p.tables e below (T27.setTop (mkF m 37 #[.val (.int p0), .val (.int p1), .val (.int p2), .val (.int p3), .val (.int p4), .val (.ref b22), .val (.ref b23), .val (.ref b24), .unset, .unset, .unset, .unset] [(.ref b22), (.ref b22)])) _
    refine Jvm.RoadKit.acmp (g := (mkF m 37 #[.val (.int p0), .val (.int p1), .val (.int p2), .val (.int p3), .val (.int p4), .val (.ref b22), .val (.ref b23), .val (.ref b24), .unset, .unset, .unset, .unset] [(.ref b22), (.ref b22)])) X27 hx rfl rfl rfl (pc0 := 37) (pc' := 40) (same := true) rfl (hb hby at_37) rfl (decide_eq_true rfl) (by decide) (by decide) ?_
    show Steps p.tables e below (T27.setTop (mkF m 40 #[.val (.int p0), .val (.int p1), .val (.int p2), .val (.int p3), .val (.int p4), .val (.ref b22), .val (.ref b23), .val (.ref b24), .unset, .unset, .unset, .unset] [])) _
    refine XS.aload X27.here hx rfl (hb hby at_40) rfl rfl ?_
    show Steps p.tables e below (T27.setTop (mkF m 42 #[.val (.int p0), .val (.int p1), .val (.int p2), .val (.int p3), .val (.int p4), .val (.ref b22), .val (.ref b23), .val (.ref b24), .unset, .unset, .unset, .unset] [(.ref b24)])) _
    refine st28.trans ?_
    show Steps p.tables e below (T28.setTop (mkF m 45 #[.val (.int p0), .val (.int p1), .val (.int p2), .val (.int p3), .val (.int p4), .val (.ref b22), .val (.ref b23), .val (.ref b24), .unset, .unset, .unset, .unset] [(.int p2)])) _
    refine XS.iloadN X28.here hx rfl (hb hby at_45) rfl ?_
    show Steps p.tables e below (T28.setTop (mkF m 46 #[.val (.int p0), .val (.int p1), .val (.int p2), .val (.int p3), .val (.int p4), .val (.ref b22), .val (.ref b23), .val (.ref b24), .unset, .unset, .unset, .unset] [(.int p2), (.int p2)])) _
    refine XS.icmpNo X28.here hx rfl (hb hby at_46) rfl (teq (rfl : p2 = p2)).2 ?_
    show Steps p.tables e below (T28.setTop (mkF m 49 #[.val (.int p0), .val (.int p1), .val (.int p2), .val (.int p3), .val (.int p4), .val (.ref b22), .val (.ref b23), .val (.ref b24), .unset, .unset, .unset, .unset] [])) _
    refine XS.aload X28.here hx rfl (hb hby at_49) rfl rfl ?_
    show Steps p.tables e below (T28.setTop (mkF m 51 #[.val (.int p0), .val (.int p1), .val (.int p2), .val (.int p3), .val (.int p4), .val (.ref b22), .val (.ref b23), .val (.ref b24), .unset, .unset, .unset, .unset] [(.ref b24)])) _
    refine st29.trans ?_
    show Steps p.tables e below (T29.setTop (mkF m 54 #[.val (.int p0), .val (.int p1), .val (.int p2), .val (.int p3), .val (.int p4), .val (.ref b22), .val (.ref b23), .val (.ref b24), .unset, .unset, .unset, .unset] [(.int p3)])) _
    refine XS.iloadN X29.here hx rfl (hb hby at_54) rfl ?_
    show Steps p.tables e below (T29.setTop (mkF m 55 #[.val (.int p0), .val (.int p1), .val (.int p2), .val (.int p3), .val (.int p4), .val (.ref b22), .val (.ref b23), .val (.ref b24), .unset, .unset, .unset, .unset] [(.int p3), (.int p3)])) _
    refine XS.icmpNo X29.here hx rfl (hb hby at_55) rfl (teq (rfl : p3 = p3)).2 ?_
    show Steps p.tables e below (T29.setTop (mkF m 58 #[.val (.int p0), .val (.int p1), .val (.int p2), .val (.int p3), .val (.int p4), .val (.ref b22), .val (.ref b23), .val (.ref b24), .unset, .unset, .unset, .unset] [])) _
    refine XS.iconst X29.here hx rfl (hb hby at_58) ?_
    show Steps p.tables e below (T29.setTop (mkF m 59 #[.val (.int p0), .val (.int p1), .val (.int p2), .val (.int p3), .val (.int p4), .val (.ref b22), .val (.ref b23), .val (.ref b24), .unset, .unset, .unset, .unset] [(.int (1 : Int32))])) _
    refine XS.goto X29.here hx rfl (pc0 := 59) (pc' := 63) rfl (hb hby at_59) (by decide) (by decide) ?_
    show Steps p.tables e below (T29.setTop (mkF m 63 #[.val (.int p0), .val (.int p1), .val (.int p2), .val (.int p3), .val (.int p4), .val (.ref b22), .val (.ref b23), .val (.ref b24), .unset, .unset, .unset, .unset] [(.int (1 : Int32))])) _
    refine XS.istore X29.here hx rfl (hb hby at_63) rfl (l' := #[.val (.int p0), .val (.int p1), .val (.int p2), .val (.int p3), .val (.int p4), .val (.ref b22), .val (.ref b23), .val (.ref b24), .val (.int (1 : Int32)), .unset, .unset, .unset]) rfl ?_
    show Steps p.tables e below (T29.setTop (mkF m 65 #[.val (.int p0), .val (.int p1), .val (.int p2), .val (.int p3), .val (.int p4), .val (.ref b22), .val (.ref b23), .val (.ref b24), .val (.int (1 : Int32)), .unset, .unset, .unset] [])) _
    refine XS.iload X29.here hx rfl (hb hby at_65) rfl ?_
    show Steps p.tables e below (T29.setTop (mkF m 67 #[.val (.int p0), .val (.int p1), .val (.int p2), .val (.int p3), .val (.int p4), .val (.ref b22), .val (.ref b23), .val (.ref b24), .val (.int (1 : Int32)), .unset, .unset, .unset] [(.int p4)])) _
    refine XS.sipush X29.here hx rfl (hb hby at_67) ?_
    show Steps p.tables e below (T29.setTop (mkF m 70 #[.val (.int p0), .val (.int p1), .val (.int p2), .val (.int p3), .val (.int p4), .val (.ref b22), .val (.ref b23), .val (.ref b24), .val (.int (1 : Int32)), .unset, .unset, .unset] [(.int (255 : Int32)), (.int p4)])) _
    refine XS.iand X29.here hx rfl (hb hby at_70) rfl ?_
    show Steps p.tables e below (T29.setTop (mkF m 71 #[.val (.int p0), .val (.int p1), .val (.int p2), .val (.int p3), .val (.int p4), .val (.ref b22), .val (.ref b23), .val (.ref b24), .val (.int (1 : Int32)), .unset, .unset, .unset] [(.int (p4 &&& (255 : Int32)))])) _
    refine XS.iconst X29.here hx rfl (hb hby at_71) ?_
    show Steps p.tables e below (T29.setTop (mkF m 72 #[.val (.int p0), .val (.int p1), .val (.int p2), .val (.int p3), .val (.int p4), .val (.ref b22), .val (.ref b23), .val (.ref b24), .val (.int (1 : Int32)), .unset, .unset, .unset] [(.int (5 : Int32)), (.int (p4 &&& (255 : Int32)))])) _
    refine iremM X29 hx rfl (hb hby at_72) rfl (by decide) ?_
    rw [hs2]
    show Steps p.tables e below (T29.setTop (mkF m 73 #[.val (.int p0), .val (.int p1), .val (.int p2), .val (.int p3), .val (.int p4), .val (.ref b22), .val (.ref b23), .val (.ref b24), .val (.int (1 : Int32)), .unset, .unset, .unset] [(.int s2)])) _
    refine XS.istore X29.here hx rfl (hb hby at_73) rfl (l' := #[.val (.int p0), .val (.int p1), .val (.int p2), .val (.int p3), .val (.int p4), .val (.ref b22), .val (.ref b23), .val (.ref b24), .val (.int (1 : Int32)), .val (.int s2), .unset, .unset]) rfl ?_
    show Steps p.tables e below (T29.setTop (mkF m 75 #[.val (.int p0), .val (.int p1), .val (.int p2), .val (.int p3), .val (.int p4), .val (.ref b22), .val (.ref b23), .val (.ref b24), .val (.int (1 : Int32)), .val (.int s2), .unset, .unset] [])) _
    refine XS.iload X29.here hx rfl (hb hby at_75) rfl ?_
    show Steps p.tables e below (T29.setTop (mkF m 77 #[.val (.int p0), .val (.int p1), .val (.int p2), .val (.int p3), .val (.int p4), .val (.ref b22), .val (.ref b23), .val (.ref b24), .val (.int (1 : Int32)), .val (.int s2), .unset, .unset] [(.int s2)])) _
    refine XS.iload X29.here hx rfl (hb hby at_77) rfl ?_
    show Steps p.tables e below (T29.setTop (mkF m 79 #[.val (.int p0), .val (.int p1), .val (.int p2), .val (.int p3), .val (.int p4), .val (.ref b22), .val (.ref b23), .val (.ref b24), .val (.int (1 : Int32)), .val (.int s2), .unset, .unset] [(.int p4), (.int s2)])) _
    refine XS.bipush X29.here hx rfl (hb hby at_79) ?_
    show Steps p.tables e below (T29.setTop (mkF m 81 #[.val (.int p0), .val (.int p1), .val (.int p2), .val (.int p3), .val (.int p4), .val (.ref b22), .val (.ref b23), .val (.ref b24), .val (.int (1 : Int32)), .val (.int s2), .unset, .unset] [(.int (8 : Int32)), (.int p4), (.int s2)])) _
    refine XS.iushr X29.here hx rfl (hb hby at_81) rfl ?_
    show Steps p.tables e below (T29.setTop (mkF m 82 #[.val (.int p0), .val (.int p1), .val (.int p2), .val (.int p3), .val (.int p4), .val (.ref b22), .val (.ref b23), .val (.ref b24), .val (.int (1 : Int32)), .val (.int s2), .unset, .unset] [(.int ((p4.toUInt32 >>> ((8 : Int32) &&& 31).toUInt32).toInt32)), (.int s2)])) _
    refine XS.sipush X29.here hx rfl (hb hby at_82) ?_
    show Steps p.tables e below (T29.setTop (mkF m 85 #[.val (.int p0), .val (.int p1), .val (.int p2), .val (.int p3), .val (.int p4), .val (.ref b22), .val (.ref b23), .val (.ref b24), .val (.int (1 : Int32)), .val (.int s2), .unset, .unset] [(.int (255 : Int32)), (.int ((p4.toUInt32 >>> ((8 : Int32) &&& 31).toUInt32).toInt32)), (.int s2)])) _
    refine XS.iand X29.here hx rfl (hb hby at_85) rfl ?_
    show Steps p.tables e below (T29.setTop (mkF m 86 #[.val (.int p0), .val (.int p1), .val (.int p2), .val (.int p3), .val (.int p4), .val (.ref b22), .val (.ref b23), .val (.ref b24), .val (.int (1 : Int32)), .val (.int s2), .unset, .unset] [(.int (((p4.toUInt32 >>> ((8 : Int32) &&& 31).toUInt32).toInt32) &&& (255 : Int32))), (.int s2)])) _
    refine XS.iconst X29.here hx rfl (hb hby at_86) ?_
    show Steps p.tables e below (T29.setTop (mkF m 87 #[.val (.int p0), .val (.int p1), .val (.int p2), .val (.int p3), .val (.int p4), .val (.ref b22), .val (.ref b23), .val (.ref b24), .val (.int (1 : Int32)), .val (.int s2), .unset, .unset] [(.int (5 : Int32)), (.int (((p4.toUInt32 >>> ((8 : Int32) &&& 31).toUInt32).toInt32) &&& (255 : Int32))), (.int s2)])) _
    refine XS.iload X29.here hx rfl (hb hby at_87) rfl ?_
    show Steps p.tables e below (T29.setTop (mkF m 89 #[.val (.int p0), .val (.int p1), .val (.int p2), .val (.int p3), .val (.int p4), .val (.ref b22), .val (.ref b23), .val (.ref b24), .val (.int (1 : Int32)), .val (.int s2), .unset, .unset] [(.int s2), (.int (5 : Int32)), (.int (((p4.toUInt32 >>> ((8 : Int32) &&& 31).toUInt32).toInt32) &&& (255 : Int32))), (.int s2)])) _
    refine XS.isub X29.here hx rfl (hb hby at_89) rfl ?_
    show Steps p.tables e below (T29.setTop (mkF m 90 #[.val (.int p0), .val (.int p1), .val (.int p2), .val (.int p3), .val (.int p4), .val (.ref b22), .val (.ref b23), .val (.ref b24), .val (.int (1 : Int32)), .val (.int s2), .unset, .unset] [(.int ((5 : Int32) - s2)), (.int (((p4.toUInt32 >>> ((8 : Int32) &&& 31).toUInt32).toInt32) &&& (255 : Int32))), (.int s2)])) _
    refine iremM X29 hx rfl (hb hby at_90) rfl hnz ?_
    show Steps p.tables e below (T29.setTop (mkF m 91 #[.val (.int p0), .val (.int p1), .val (.int p2), .val (.int p3), .val (.int p4), .val (.ref b22), .val (.ref b23), .val (.ref b24), .val (.int (1 : Int32)), .val (.int s2), .unset, .unset] [(.int ((((p4.toUInt32 >>> ((8 : Int32) &&& 31).toUInt32).toInt32) &&& (255 : Int32)) % ((5 : Int32) - s2))), (.int s2)])) _
    refine XS.iadd X29.here hx rfl (hb hby at_91) rfl ?_
    rw [he2]
    show Steps p.tables e below (T29.setTop (mkF m 92 #[.val (.int p0), .val (.int p1), .val (.int p2), .val (.int p3), .val (.int p4), .val (.ref b22), .val (.ref b23), .val (.ref b24), .val (.int (1 : Int32)), .val (.int s2), .unset, .unset] [(.int e2)])) _
    refine XS.istore X29.here hx rfl (hb hby at_92) rfl (l' := #[.val (.int p0), .val (.int p1), .val (.int p2), .val (.int p3), .val (.int p4), .val (.ref b22), .val (.ref b23), .val (.ref b24), .val (.int (1 : Int32)), .val (.int s2), .val (.int e2), .unset]) rfl ?_
    show Steps p.tables e below (T29.setTop (mkF m 94 #[.val (.int p0), .val (.int p1), .val (.int p2), .val (.int p3), .val (.int p4), .val (.ref b22), .val (.ref b23), .val (.ref b24), .val (.int (1 : Int32)), .val (.int s2), .val (.int e2), .unset] [])) _
    refine XS.aload X29.here hx rfl (hb hby at_94) rfl rfl ?_
    show Steps p.tables e below (T29.setTop (mkF m 96 #[.val (.int p0), .val (.int p1), .val (.int p2), .val (.int p3), .val (.int p4), .val (.ref b22), .val (.ref b23), .val (.ref b24), .val (.int (1 : Int32)), .val (.int s2), .val (.int e2), .unset] [(.ref b24)])) _
    refine XS.aload X29.here hx rfl (hb hby at_96) rfl rfl ?_
    show Steps p.tables e below (T29.setTop (mkF m 98 #[.val (.int p0), .val (.int p1), .val (.int p2), .val (.int p3), .val (.int p4), .val (.ref b22), .val (.ref b23), .val (.ref b24), .val (.int (1 : Int32)), .val (.int s2), .val (.int e2), .unset] [(.ref b23), (.ref b24)])) _
    refine XS.iload X29.here hx rfl (hb hby at_98) rfl ?_
    show Steps p.tables e below (T29.setTop (mkF m 100 #[.val (.int p0), .val (.int p1), .val (.int p2), .val (.int p3), .val (.int p4), .val (.ref b22), .val (.ref b23), .val (.ref b24), .val (.int (1 : Int32)), .val (.int s2), .val (.int e2), .unset] [(.int s2), (.ref b23), (.ref b24)])) _
    refine XS.iload X29.here hx rfl (hb hby at_100) rfl ?_
    show Steps p.tables e below (T29.setTop (mkF m 102 #[.val (.int p0), .val (.int p1), .val (.int p2), .val (.int p3), .val (.int p4), .val (.ref b22), .val (.ref b23), .val (.ref b24), .val (.int (1 : Int32)), .val (.int s2), .val (.int e2), .unset] [(.int e2), (.int s2), (.ref b23), (.ref b24)])) _
    refine st30.trans ?_
    show Steps p.tables e below (T30.setTop (mkF m 105 #[.val (.int p0), .val (.int p1), .val (.int p2), .val (.int p3), .val (.int p4), .val (.ref b22), .val (.ref b23), .val (.ref b24), .val (.int (1 : Int32)), .val (.int s2), .val (.int e2), .unset] [])) _
    refine XS.iload X30.here hx rfl (hb hby at_105) rfl ?_
    show Steps p.tables e below (T30.setTop (mkF m 107 #[.val (.int p0), .val (.int p1), .val (.int p2), .val (.int p3), .val (.int p4), .val (.ref b22), .val (.ref b23), .val (.ref b24), .val (.int (1 : Int32)), .val (.int s2), .val (.int e2), .unset] [(.int (1 : Int32))])) _
    refine XS.ifNo X30.here hx rfl (hb hby at_107) rfl ((if0 _ _).trans (feq (by decide : ¬ ((1 : Int32) = (0 : Int32)))).1) ?_
    show Steps p.tables e below (T30.setTop (mkF m 110 #[.val (.int p0), .val (.int p1), .val (.int p2), .val (.int p3), .val (.int p4), .val (.ref b22), .val (.ref b23), .val (.ref b24), .val (.int (1 : Int32)), .val (.int s2), .val (.int e2), .unset] [])) _
    refine XS.aload X30.here hx rfl (hb hby at_110) rfl rfl ?_
    show Steps p.tables e below (T30.setTop (mkF m 112 #[.val (.int p0), .val (.int p1), .val (.int p2), .val (.int p3), .val (.int p4), .val (.ref b22), .val (.ref b23), .val (.ref b24), .val (.int (1 : Int32)), .val (.int s2), .val (.int e2), .unset] [(.ref b24)])) _
    refine st31.trans ?_
    show Steps p.tables e below (T31.setTop (mkF m 115 #[.val (.int p0), .val (.int p1), .val (.int p2), .val (.int p3), .val (.int p4), .val (.ref b22), .val (.ref b23), .val (.ref b24), .val (.int (1 : Int32)), .val (.int s2), .val (.int e2), .unset] [(.ref b23)])) _
    refine XS.aload X31.here hx rfl (hb hby at_115) rfl rfl ?_
    show Steps p.tables e below (T31.setTop (mkF m 117 #[.val (.int p0), .val (.int p1), .val (.int p2), .val (.int p3), .val (.int p4), .val (.ref b22), .val (.ref b23), .val (.ref b24), .val (.int (1 : Int32)), .val (.int s2), .val (.int e2), .unset] [(.ref b23), (.ref b23)])) _
    refine Jvm.RoadKit.acmp (g := (mkF m 117 #[.val (.int p0), .val (.int p1), .val (.int p2), .val (.int p3), .val (.int p4), .val (.ref b22), .val (.ref b23), .val (.ref b24), .val (.int (1 : Int32)), .val (.int s2), .val (.int e2), .unset] [(.ref b23), (.ref b23)])) X31 hx rfl rfl rfl (pc0 := 117) (pc' := 120) (same := true) rfl (hb hby at_117) rfl (decide_eq_true rfl) (by decide) (by decide) ?_
    show Steps p.tables e below (T31.setTop (mkF m 120 #[.val (.int p0), .val (.int p1), .val (.int p2), .val (.int p3), .val (.int p4), .val (.ref b22), .val (.ref b23), .val (.ref b24), .val (.int (1 : Int32)), .val (.int s2), .val (.int e2), .unset] [])) _
    refine XS.aload X31.here hx rfl (hb hby at_120) rfl rfl ?_
    show Steps p.tables e below (T31.setTop (mkF m 122 #[.val (.int p0), .val (.int p1), .val (.int p2), .val (.int p3), .val (.int p4), .val (.ref b22), .val (.ref b23), .val (.ref b24), .val (.int (1 : Int32)), .val (.int s2), .val (.int e2), .unset] [(.ref b24)])) _
    refine st32.trans ?_
    show Steps p.tables e below (T32.setTop (mkF m 125 #[.val (.int p0), .val (.int p1), .val (.int p2), .val (.int p3), .val (.int p4), .val (.ref b22), .val (.ref b23), .val (.ref b24), .val (.int (1 : Int32)), .val (.int s2), .val (.int e2), .unset] [(.int s2)])) _
    refine XS.iload X32.here hx rfl (hb hby at_125) rfl ?_
    show Steps p.tables e below (T32.setTop (mkF m 127 #[.val (.int p0), .val (.int p1), .val (.int p2), .val (.int p3), .val (.int p4), .val (.ref b22), .val (.ref b23), .val (.ref b24), .val (.int (1 : Int32)), .val (.int s2), .val (.int e2), .unset] [(.int s2), (.int s2)])) _
    refine XS.icmpNo X32.here hx rfl (hb hby at_127) rfl (teq (rfl : s2 = s2)).2 ?_
    show Steps p.tables e below (T32.setTop (mkF m 130 #[.val (.int p0), .val (.int p1), .val (.int p2), .val (.int p3), .val (.int p4), .val (.ref b22), .val (.ref b23), .val (.ref b24), .val (.int (1 : Int32)), .val (.int s2), .val (.int e2), .unset] [])) _
    refine XS.aload X32.here hx rfl (hb hby at_130) rfl rfl ?_
    show Steps p.tables e below (T32.setTop (mkF m 132 #[.val (.int p0), .val (.int p1), .val (.int p2), .val (.int p3), .val (.int p4), .val (.ref b22), .val (.ref b23), .val (.ref b24), .val (.int (1 : Int32)), .val (.int s2), .val (.int e2), .unset] [(.ref b24)])) _
    refine st33.trans ?_
    show Steps p.tables e below (T33.setTop (mkF m 135 #[.val (.int p0), .val (.int p1), .val (.int p2), .val (.int p3), .val (.int p4), .val (.ref b22), .val (.ref b23), .val (.ref b24), .val (.int (1 : Int32)), .val (.int s2), .val (.int e2), .unset] [(.int e2)])) _
    refine XS.iload X33.here hx rfl (hb hby at_135) rfl ?_
    show Steps p.tables e below (T33.setTop (mkF m 137 #[.val (.int p0), .val (.int p1), .val (.int p2), .val (.int p3), .val (.int p4), .val (.ref b22), .val (.ref b23), .val (.ref b24), .val (.int (1 : Int32)), .val (.int s2), .val (.int e2), .unset] [(.int e2), (.int e2)])) _
    refine XS.icmpNo X33.here hx rfl (hb hby at_137) rfl (teq (rfl : e2 = e2)).2 ?_
    show Steps p.tables e below (T33.setTop (mkF m 140 #[.val (.int p0), .val (.int p1), .val (.int p2), .val (.int p3), .val (.int p4), .val (.ref b22), .val (.ref b23), .val (.ref b24), .val (.int (1 : Int32)), .val (.int s2), .val (.int e2), .unset] [])) _
    refine XS.iconst X33.here hx rfl (hb hby at_140) ?_
    show Steps p.tables e below (T33.setTop (mkF m 141 #[.val (.int p0), .val (.int p1), .val (.int p2), .val (.int p3), .val (.int p4), .val (.ref b22), .val (.ref b23), .val (.ref b24), .val (.int (1 : Int32)), .val (.int s2), .val (.int e2), .unset] [(.int (1 : Int32))])) _
    refine XS.goto X33.here hx rfl (pc0 := 141) (pc' := 145) rfl (hb hby at_141) (by decide) (by decide) ?_
    show Steps p.tables e below (T33.setTop (mkF m 145 #[.val (.int p0), .val (.int p1), .val (.int p2), .val (.int p3), .val (.int p4), .val (.ref b22), .val (.ref b23), .val (.ref b24), .val (.int (1 : Int32)), .val (.int s2), .val (.int e2), .unset] [(.int (1 : Int32))])) _
    refine XS.istore X33.here hx rfl (hb hby at_145) rfl (l' := #[.val (.int p0), .val (.int p1), .val (.int p2), .val (.int p3), .val (.int p4), .val (.ref b22), .val (.ref b23), .val (.ref b24), .val (.int (1 : Int32)), .val (.int s2), .val (.int e2), .unset]) rfl ?_
    show Steps p.tables e below (T33.setTop (mkF m 147 #[.val (.int p0), .val (.int p1), .val (.int p2), .val (.int p3), .val (.int p4), .val (.ref b22), .val (.ref b23), .val (.ref b24), .val (.int (1 : Int32)), .val (.int s2), .val (.int e2), .unset] [])) _
    refine XS.iload X33.here hx rfl (hb hby at_147) rfl ?_
    show Steps p.tables e below (T33.setTop (mkF m 149 #[.val (.int p0), .val (.int p1), .val (.int p2), .val (.int p3), .val (.int p4), .val (.ref b22), .val (.ref b23), .val (.ref b24), .val (.int (1 : Int32)), .val (.int s2), .val (.int e2), .unset] [(.int p4)])) _
    refine XS.bipush X33.here hx rfl (hb hby at_149) ?_
    show Steps p.tables e below (T33.setTop (mkF m 151 #[.val (.int p0), .val (.int p1), .val (.int p2), .val (.int p3), .val (.int p4), .val (.ref b22), .val (.ref b23), .val (.ref b24), .val (.int (1 : Int32)), .val (.int s2), .val (.int e2), .unset] [(.int (16 : Int32)), (.int p4)])) _
    refine XS.iushr X33.here hx rfl (hb hby at_151) rfl ?_
    show Steps p.tables e below (T33.setTop (mkF m 152 #[.val (.int p0), .val (.int p1), .val (.int p2), .val (.int p3), .val (.int p4), .val (.ref b22), .val (.ref b23), .val (.ref b24), .val (.int (1 : Int32)), .val (.int s2), .val (.int e2), .unset] [(.int ((p4.toUInt32 >>> ((16 : Int32) &&& 31).toUInt32).toInt32))])) _
    refine XS.sipush X33.here hx rfl (hb hby at_152) ?_
    show Steps p.tables e below (T33.setTop (mkF m 155 #[.val (.int p0), .val (.int p1), .val (.int p2), .val (.int p3), .val (.int p4), .val (.ref b22), .val (.ref b23), .val (.ref b24), .val (.int (1 : Int32)), .val (.int s2), .val (.int e2), .unset] [(.int (255 : Int32)), (.int ((p4.toUInt32 >>> ((16 : Int32) &&& 31).toUInt32).toInt32))])) _
    refine XS.iand X33.here hx rfl (hb hby at_155) rfl ?_
    show Steps p.tables e below (T33.setTop (mkF m 156 #[.val (.int p0), .val (.int p1), .val (.int p2), .val (.int p3), .val (.int p4), .val (.ref b22), .val (.ref b23), .val (.ref b24), .val (.int (1 : Int32)), .val (.int s2), .val (.int e2), .unset] [(.int (((p4.toUInt32 >>> ((16 : Int32) &&& 31).toUInt32).toInt32) &&& (255 : Int32)))])) _
    refine XS.iconst X33.here hx rfl (hb hby at_156) ?_
    show Steps p.tables e below (T33.setTop (mkF m 157 #[.val (.int p0), .val (.int p1), .val (.int p2), .val (.int p3), .val (.int p4), .val (.ref b22), .val (.ref b23), .val (.ref b24), .val (.int (1 : Int32)), .val (.int s2), .val (.int e2), .unset] [(.int (4 : Int32)), (.int (((p4.toUInt32 >>> ((16 : Int32) &&& 31).toUInt32).toInt32) &&& (255 : Int32)))])) _
    refine iremM X33 hx rfl (hb hby at_157) rfl (by decide) ?_
    rw [hi3]
    show Steps p.tables e below (T33.setTop (mkF m 158 #[.val (.int p0), .val (.int p1), .val (.int p2), .val (.int p3), .val (.int p4), .val (.ref b22), .val (.ref b23), .val (.ref b24), .val (.int (1 : Int32)), .val (.int s2), .val (.int e2), .unset] [(.int i3)])) _
    refine XS.istore X33.here hx rfl (hb hby at_158) rfl (l' := #[.val (.int p0), .val (.int p1), .val (.int p2), .val (.int p3), .val (.int p4), .val (.ref b22), .val (.ref b23), .val (.ref b24), .val (.int (1 : Int32)), .val (.int s2), .val (.int e2), .val (.int i3)]) rfl ?_
    show Steps p.tables e below (T33.setTop (mkF m 160 #[.val (.int p0), .val (.int p1), .val (.int p2), .val (.int p3), .val (.int p4), .val (.ref b22), .val (.ref b23), .val (.ref b24), .val (.int (1 : Int32)), .val (.int s2), .val (.int e2), .val (.int i3)] [])) _
    refine XS.iload X33.here hx rfl (hb hby at_160) rfl ?_
    show Steps p.tables e below (T33.setTop (mkF m 162 #[.val (.int p0), .val (.int p1), .val (.int p2), .val (.int p3), .val (.int p4), .val (.ref b22), .val (.ref b23), .val (.ref b24), .val (.int (1 : Int32)), .val (.int s2), .val (.int e2), .val (.int i3)] [(.int i3)])) _
    refine XS.iload X33.here hx rfl (hb hby at_162) rfl ?_
    show Steps p.tables e below (T33.setTop (mkF m 164 #[.val (.int p0), .val (.int p1), .val (.int p2), .val (.int p3), .val (.int p4), .val (.ref b22), .val (.ref b23), .val (.ref b24), .val (.int (1 : Int32)), .val (.int s2), .val (.int e2), .val (.int i3)] [(.int e2), (.int i3)])) _
    refine XS.iload X33.here hx rfl (hb hby at_164) rfl ?_
    show Steps p.tables e below (T33.setTop (mkF m 166 #[.val (.int p0), .val (.int p1), .val (.int p2), .val (.int p3), .val (.int p4), .val (.ref b22), .val (.ref b23), .val (.ref b24), .val (.int (1 : Int32)), .val (.int s2), .val (.int e2), .val (.int i3)] [(.int s2), (.int e2), (.int i3)])) _
    refine XS.isub X33.here hx rfl (hb hby at_166) rfl ?_
    show Steps p.tables e below (T33.setTop (mkF m 167 #[.val (.int p0), .val (.int p1), .val (.int p2), .val (.int p3), .val (.int p4), .val (.ref b22), .val (.ref b23), .val (.ref b24), .val (.int (1 : Int32)), .val (.int s2), .val (.int e2), .val (.int i3)] [(.int (e2 - s2)), (.int i3)])) _
    refine XS.icmpYes X33.here hx rfl (pc0 := 167) (pc' := 201) rfl (hb hby at_167) rfl (flt hc167).2.1 (by decide) (by decide) ?_
    show Steps p.tables e below (T33.setTop (mkF m 201 #[.val (.int p0), .val (.int p1), .val (.int p2), .val (.int p3), .val (.int p4), .val (.ref b22), .val (.ref b23), .val (.ref b24), .val (.int (1 : Int32)), .val (.int s2), .val (.int e2), .val (.int i3)] [])) _
    refine XS.iload X33.here hx rfl (hb hby at_201) rfl ?_
    show Steps p.tables e below (T33.setTop (mkF m 203 #[.val (.int p0), .val (.int p1), .val (.int p2), .val (.int p3), .val (.int p4), .val (.ref b22), .val (.ref b23), .val (.ref b24), .val (.int (1 : Int32)), .val (.int s2), .val (.int e2), .val (.int i3)] [(.int (1 : Int32))])) _
    exact retN X33 hx (t := .boolean) Bd.returns (by simp) (hb hby at_203) hr
  · show (own_Q1 n0) _ T33.heap _
    rw [e33]
    exact ⟨rfl, N33⟩
theorem own_pd_7 : parseMethodDescriptor "(I)C" = some ⟨[.int], some .char⟩ := by decide +kernel
set_option maxRecDepth 65536 in
set_option maxHeartbeats 40000000 in
theorem own_law_b (l : Launch) (Z : State) (a0 : Array Value) (hw : ∀ d ∈ tables_1, d.before a0 Z = true) (p0 : Int32) (p1 : Int32) (p2 : Int32) (p3 : Int32) (p4 : Int32) (s2 : Int32) (e2 : Int32) (i3 : Int32) (h0 : Heap) (n0 : Nat) (Z0 : n0 ≤ h0.size) (hs2 : (p4 &&& (255 : Int32)) % (5 : Int32) = s2) (hnz : (5 : Int32) - s2 ≠ 0) (he2 : s2 + (((p4.toUInt32 >>> ((8 : Int32) &&& 31).toUInt32).toInt32) &&& (255 : Int32)) % ((5 : Int32) - s2) = e2) (hi3 : (((p4.toUInt32 >>> ((16 : Int32) &&& 31).toUInt32).toInt32) &&& (255 : Int32)) % (4 : Int32) = i3) (hi0 : ¬ (i3 < (0 : Int32))) (hi1 : i3 < (e2 - s2)) (hidx : ¬ (s2 + i3) < 0 ∧ (s2 + i3) < 4) :
    Met l Z tables_1 x code maxLocals ret room_1 #[(.int p0), (.int p1), (.int p2), (.int p3), (.int p4)] h0 (own_Q1 n0) := by
  refine MetFree.of_bodySF (plainFor_of_name own_pn_3) hisR ?_
  intro p e s m args below meth c s₁ Bd hml0 hP hK
  obtain ⟨rfl, hZ, hh⟩ := hP
  have hx := Bd.exec
  have hby := Bd.bytes
  have hml : c.maxLocals = 12 := hml0
  have hown : s.vm.findClass "com/example/ledgermatch/ledgermatch/ViewPointPinLaw" = some m.cls := findClass_of_methodNamed Bd.named
  have hnm := (name_of_methodNamed Bd.named Bd.method).1
  have X0 : Stand p l e room_1 s m #[(.int p0), (.int p1), (.int p2), (.int p3), (.int p4)] below meth c s₁ [] 0 0 := Stand.of_body Bd
  have e0 : s₁.heap = h0 := by rw [← hh, Bd.state]; rfl
  have N0 := Fr.nil n0
  have pre0 : ∀ t_, Steps p.tables e below (s₁.setTop (mkF m 0 #[.val (.int p0), .val (.int p1), .val (.int p2), .val (.int p3), .val (.int p4), .unset, .unset, .unset, .unset, .unset, .unset, .unset] [])) t_ → Steps p.tables e below (s₁.setTop (entryFrame m #[(.int p0), (.int p1), (.int p2), (.int p3), (.int p4)] maxLocals)) t_ := fun t_ k_ => castTop (own_ef_6 m p0 p1 p2 p3 p4) k_
  obtain ⟨_, _, ⟨T34, L34, k34, n34⟩, -, X34, ⟨Lc34, hQ34, l34, y34, z34⟩, st34⟩ := Jvm.LawKit.callS X0 hx (y := (⟨"com/example/ledgermatch/ledgermatch/ViewPointPinLaw", "four", "(I)[B"⟩ : MethodName)) hown (mvT hZ (hw _ (List.mem_of_getElem? (i := 0) rfl))) (mvT hZ (hw _ (List.mem_of_getElem? (i := 1) rfl))) (mvT hZ (hw _ (List.mem_of_getElem? (i := 2) rfl))) (mvT hZ (hw _ (List.mem_of_getElem? (i := 3) rfl))) (by decide) (backOf (W := 0) (own_four l Z a0 hw p0 h0 n0 Z0) hZ (hw _ (List.mem_of_getElem? (i := 3) rfl)) (hw _ (List.mem_of_getElem? (i := 2) rfl)) (by decide) (by decide)) (g := (mkF m 1 #[.val (.int p0), .val (.int p1), .val (.int p2), .val (.int p3), .val (.int p4), .unset, .unset, .unset, .unset, .unset, .unset, .unset] [(.int p0)])) rfl (by rw [hml]; rfl) (argsL := [(.int p0)]) (rest := []) (lenOf own_pd_4 rfl) rfl (by show 2 * 0 + _ ≤ _; exact Nat.le_of_eq rfl) (hb hby at_1) (fun _ _ => ⟨rfl, e0, (by decide : 0 + 1 ≤ _), (by decide : 0 + 4 ≤ _)⟩)
  dsimp only [Pt.U, Pt.locs, Pt.cells, Pt.slots] at X34 l34 y34 z34 st34 hQ34
  subst l34 y34 z34
  obtain ⟨b34, k34q, rfl, Nq34, K34, sz034, V34⟩ := hQ34
  have N34 := Fr.app N0 Nq34
  obtain ⟨h34, e34⟩ : ∃ z, T34.heap = z := ⟨_, rfl⟩
  rw [e34] at K34 V34
  have g_b34 : n0 ≤ b34 := Nat.le_trans Z0 sz034
  have KZ_34 : n0 ≤ h34.size := Nat.le_trans Z0 K34.1
  obtain ⟨_, _, ⟨T35, L35, k35, n35⟩, -, X35, ⟨Lc35, hQ35, l35, y35, z35⟩, st35⟩ := Jvm.LawKit.callS X34 hx (y := (⟨"com/example/ledgermatch/ledgermatch/ViewPointPinLaw", "four", "(I)[B"⟩ : MethodName)) hown (mvT hZ (hw _ (List.mem_of_getElem? (i := 0) rfl))) (mvT hZ (hw _ (List.mem_of_getElem? (i := 1) rfl))) (mvT hZ (hw _ (List.mem_of_getElem? (i := 2) rfl))) (mvT hZ (hw _ (List.mem_of_getElem? (i := 3) rfl))) (by decide) (backOf (W := 0) (own_four l Z a0 hw p1 h34 n0 KZ_34) hZ (hw _ (List.mem_of_getElem? (i := 3) rfl)) (hw _ (List.mem_of_getElem? (i := 2) rfl)) (by decide) (by decide)) (g := (mkF m 7 #[.val (.int p0), .val (.int p1), .val (.int p2), .val (.int p3), .val (.int p4), .val (.ref b34), .unset, .unset, .unset, .unset, .unset, .unset] [(.int p1)])) rfl (by rw [hml]; rfl) (argsL := [(.int p1)]) (rest := []) (lenOf own_pd_4 rfl) rfl (by show 2 * 0 + _ ≤ _; exact Nat.le_of_eq rfl) (hb hby at_7) (fun _ _ => ⟨rfl, e34, (by decide : 1 + 1 ≤ _), (by decide : 4 + 4 ≤ _)⟩)
  dsimp only [Pt.U, Pt.locs, Pt.cells, Pt.slots] at X35 l35 y35 z35 st35 hQ35
  subst l35 y35 z35
  obtain ⟨b35, k35q, rfl, Nq35, K35, sz035, V35⟩ := hQ35
  have N35 := Fr.app N34 Nq35
  obtain ⟨h35, e35⟩ : ∃ z, T35.heap = z := ⟨_, rfl⟩
  rw [e35] at K35 V35
  have ne_b34_b35 : b34 ≠ b35 := Nat.ne_of_lt (Nat.lt_of_lt_of_le V34.lt sz035)
  have g_b35 : n0 ≤ b35 := Nat.le_trans KZ_34 sz035
  have KZ_35 : n0 ≤ h35.size := Nat.le_trans KZ_34 K35.1
  have V_b34_35 : Arv Z h35 b34 k34q .byte (4 : Int32) [(.int (nar .byte (p0.toInt8.toInt32))), (.int (nar .byte ((p0 >>> ((8 : Int32) &&& 31)).toInt8.toInt32))), (.int (nar .byte ((p0 >>> ((16 : Int32) &&& 31)).toInt8.toInt32))), (.int (nar .byte ((p0 >>> ((24 : Int32) &&& 31)).toInt8.toInt32)))] (.int (0 : Int32)) := V34.keep K35 nin0
  obtain ⟨T36, h36, X36, e36, E36, A36, D36, U36, st36⟩ := newO X35 hx hZ hown (hw _ (List.mem_of_getElem? (i := 5) rfl)) (hw _ (List.mem_of_getElem? (i := 6) rfl)) (hw _ (List.mem_of_getElem? (i := 7) rfl)) e35 (g := (mkF m 12 #[.val (.int p0), .val (.int p1), .val (.int p2), .val (.int p3), .val (.int p4), .val (.ref b34), .val (.ref b35), .unset, .unset, .unset, .unset, .unset] [])) rfl (hb hby at_12) (by decide) (by decide)
  obtain ⟨b36, g36⟩ : ∃ z, z = h35.size := ⟨_, rfl⟩
  rw [← g36] at A36 D36 U36 st36
  have ne_b34_b36 : b34 ≠ b36 := Nat.ne_of_lt (Nat.lt_of_lt_of_le V_b34_35.lt (Nat.le_of_eq g36.symm))
  have ne_b35_b36 : b35 ≠ b36 := Nat.ne_of_lt (Nat.lt_of_lt_of_le V35.lt (Nat.le_of_eq g36.symm))
  have g_b36 : n0 ≤ b36 := Nat.le_trans KZ_35 (Nat.le_of_eq g36.symm)
  have KZ_36 : n0 ≤ h36.size := Nat.le_trans KZ_35 E36.1
  have V_b34_36 : Arv Z h36 b34 k34q .byte (4 : Int32) [(.int (nar .byte (p0.toInt8.toInt32))), (.int (nar .byte ((p0 >>> ((8 : Int32) &&& 31)).toInt8.toInt32))), (.int (nar .byte ((p0 >>> ((16 : Int32) &&& 31)).toInt8.toInt32))), (.int (nar .byte ((p0 >>> ((24 : Int32) &&& 31)).toInt8.toInt32)))] (.int (0 : Int32)) := V_b34_35.ext E36
  have V_b35_36 : Arv Z h36 b35 k35q .byte (4 : Int32) [(.int (nar .byte (p1.toInt8.toInt32))), (.int (nar .byte ((p1 >>> ((8 : Int32) &&& 31)).toInt8.toInt32))), (.int (nar .byte ((p1 >>> ((16 : Int32) &&& 31)).toInt8.toInt32))), (.int (nar .byte ((p1 >>> ((24 : Int32) &&& 31)).toInt8.toInt32)))] (.int (0 : Int32)) := V35.ext E36
  have F_bytes_b36 : Fld Z h36 b36 "com/example/ledgermatch/ledgermatch/AsciiText$View" "bytes" "[B" .null := D36 (Or.inl (hw _ (List.mem_of_getElem? (i := 15) rfl))) (ty := (.array .byte)) (by decide)
  have F_start_b36 : Fld Z h36 b36 "com/example/ledgermatch/ledgermatch/AsciiText$View" "start" "I" (.int (0 : Int32)) := D36 (Or.inl (hw _ (List.mem_of_getElem? (i := 22) rfl))) (ty := .int) (by decide)
  have F_end_b36 : Fld Z h36 b36 "com/example/ledgermatch/ledgermatch/AsciiText$View" "end" "I" (.int (0 : Int32)) := D36 (Or.inl (hw _ (List.mem_of_getElem? (i := 24) rfl))) (ty := .int) (by decide)
  obtain ⟨_, _, ⟨T37, L37, k37, n37⟩, -, X37, ⟨Lc37, hQ37, l37, y37, z37⟩, st37⟩ := X36.specialBack hx (y := (⟨"com/example/ledgermatch/ledgermatch/AsciiText$View", "<init>", "()V"⟩ : MethodName)) rfl hown (mvT hZ (hw _ (List.mem_of_getElem? (i := 8) rfl))) (mvT hZ (hw _ (List.mem_of_getElem? (i := 9) rfl))) (mvT hZ (hw _ (List.mem_of_getElem? (i := 10) rfl))) (by decide) (backOf (W := 1) (own_init l Z a0 hw b36 _ h36 n0 KZ_36 A36 F_bytes_b36 F_start_b36 F_end_b36 g_b36) hZ (hw _ (List.mem_of_getElem? (i := 10) rfl)) (hw _ (List.mem_of_getElem? (i := 7) rfl)) (by decide) (by decide)) (g := (mkF m 16 #[.val (.int p0), .val (.int p1), .val (.int p2), .val (.int p3), .val (.int p4), .val (.ref b34), .val (.ref b35), .unset, .unset, .unset, .unset, .unset] [(.ref b36), (.ref b36)])) rfl (by rw [hml]; rfl) (Steps.refl _) (a := b36) (argsL := []) (rest := [(.ref b36)]) (lenOf own_pd_5 rfl) rfl (by show 2 * 0 + _ ≤ _; exact Nat.le_of_eq rfl) (hb hby at_16) (fun _ _ => ⟨rfl, e36, (by decide : 3 + 1 ≤ _), (by decide : 11 + 0 ≤ _)⟩)
  dsimp only [Pt.U, Pt.locs, Pt.cells, Pt.slots] at X37 l37 y37 z37 st37 hQ37
  subst l37 y37 z37
  obtain ⟨rfl, Nq37, K37, ⟨ub37, FB37⟩, FS37, FE37⟩ := hQ37
  have N37 := Fr.app N35 Nq37
  obtain ⟨h37, e37⟩ : ∃ z, T37.heap = z := ⟨_, rfl⟩
  rw [e37] at K37 FB37 FS37 FE37
  have KZ_37 : n0 ≤ h37.size := Nat.le_trans KZ_36 K37.1
  have V_b34_37 : Arv Z h37 b34 k34q .byte (4 : Int32) [(.int (nar .byte (p0.toInt8.toInt32))), (.int (nar .byte ((p0 >>> ((8 : Int32) &&& 31)).toInt8.toInt32))), (.int (nar .byte ((p0 >>> ((16 : Int32) &&& 31)).toInt8.toInt32))), (.int (nar .byte ((p0 >>> ((24 : Int32) &&& 31)).toInt8.toInt32)))] (.int (0 : Int32)) := V_b34_36.keep K37 (ninS ne_b34_b36 nin0)
  have V_b35_37 : Arv Z h37 b35 k35q .byte (4 : Int32) [(.int (nar .byte (p1.toInt8.toInt32))), (.int (nar .byte ((p1 >>> ((8 : Int32) &&& 31)).toInt8.toInt32))), (.int (nar .byte ((p1 >>> ((16 : Int32) &&& 31)).toInt8.toInt32))), (.int (nar .byte ((p1 >>> ((24 : Int32) &&& 31)).toInt8.toInt32)))] (.int (0 : Int32)) := V_b35_36.keep K37 (ninS ne_b35_b36 nin0)
  have E_b36_37 : Exa Z h37 b36 "com/example/ledgermatch/ledgermatch/AsciiText$View" := A36.keep K37
  obtain ⟨cq38, kq38, q38a, q38b, q38c⟩ := isOf hZ e37 E_b36_37
  obtain ⟨_, _, ⟨T38, L38, k38, n38⟩, -, X38, ⟨Lc38, hQ38, l38, y38, z38⟩, st38⟩ := X37.virtualBack hx (y := (⟨"com/example/ledgermatch/ledgermatch/AsciiText$View", "point", "([BII)V"⟩ : MethodName)) (z := (⟨"com/example/ledgermatch/ledgermatch/AsciiText$View", "point", "([BII)V"⟩ : MethodName)) hown (mvT hZ (hw _ (List.mem_of_getElem? (i := 16) rfl))) (mvT hZ (hw _ (List.mem_of_getElem? (i := 17) rfl))) (notFace_of_selects (args := #[]) (mvT hZ (hw _ (List.mem_of_getElem? (i := 19) rfl)))) (mvT hZ (hw _ (List.mem_of_getElem? (i := 19) rfl))) (mvT hZ (hw _ (List.mem_of_getElem? (i := 18) rfl))) (by decide) (backOf (W := 0) (own_point l Z a0 hw b36 b34 p2 p3 _ _ _ h37 n0 KZ_37 E_b36_37 FB37 FS37 FE37 g_b36) hZ (hw _ (List.mem_of_getElem? (i := 20) rfl)) (hw _ (List.mem_of_getElem? (i := 7) rfl)) (by decide) (by decide)) q38a q38c (g := (mkF m 27 #[.val (.int p0), .val (.int p1), .val (.int p2), .val (.int p3), .val (.int p4), .val (.ref b34), .val (.ref b35), .val (.ref b36), .unset, .unset, .unset, .unset] [(.int p3), (.int p2), (.ref b34), (.ref b36)])) rfl (by rw [hml]; rfl) (Steps.refl _) (argsL := [(.ref b34), (.int p2), (.int p3)]) (rest := []) (lenOf own_pd_6 rfl) rfl (by show 2 * 0 + _ ≤ _; exact Nat.le_of_eq rfl) (hb hby at_27) (fun _ _ => ⟨rfl, e37, (by decide : 4 + 0 ≤ _), (by decide : 11 + 0 ≤ _)⟩)
  dsimp only [Pt.U, Pt.locs, Pt.cells, Pt.slots] at X38 l38 y38 z38 st38 hQ38
  subst l38 y38 z38
  obtain ⟨rfl, Nq38, K38, FB38, FS38, FE38⟩ := hQ38
  have N38 := Fr.app N37 Nq38
  obtain ⟨h38, e38⟩ : ∃ z, T38.heap = z := ⟨_, rfl⟩
  rw [e38] at K38 FB38 FS38 FE38
  have KZ_38 : n0 ≤ h38.size := Nat.le_trans KZ_37 K38.1
  have V_b34_38 : Arv Z h38 b34 k34q .byte (4 : Int32) [(.int (nar .byte (p0.toInt8.toInt32))), (.int (nar .byte ((p0 >>> ((8 : Int32) &&& 31)).toInt8.toInt32))), (.int (nar .byte ((p0 >>> ((16 : Int32) &&& 31)).toInt8.toInt32))), (.int (nar .byte ((p0 >>> ((24 : Int32) &&& 31)).toInt8.toInt32)))] (.int (0 : Int32)) := V_b34_37.keep K38 (ninS ne_b34_b36 nin0)
  have V_b35_38 : Arv Z h38 b35 k35q .byte (4 : Int32) [(.int (nar .byte (p1.toInt8.toInt32))), (.int (nar .byte ((p1 >>> ((8 : Int32) &&& 31)).toInt8.toInt32))), (.int (nar .byte ((p1 >>> ((16 : Int32) &&& 31)).toInt8.toInt32))), (.int (nar .byte ((p1 >>> ((24 : Int32) &&& 31)).toInt8.toInt32)))] (.int (0 : Int32)) := V_b35_37.keep K38 (ninS ne_b35_b36 nin0)
  have E_b36_38 : Exa Z h38 b36 "com/example/ledgermatch/ledgermatch/AsciiText$View" := E_b36_37.keep K38
  obtain ⟨cq39, kq39, q39a, q39b, q39c⟩ := isOf hZ e38 E_b36_38
  obtain ⟨_, _, ⟨T39, L39, k39, n39⟩, -, X39, ⟨Lc39, hQ39, l39, y39, z39⟩, st39⟩ := X38.virtualBack hx (y := (⟨"com/example/ledgermatch/ledgermatch/AsciiText$View", "bytes", "()[B"⟩ : MethodName)) (z := (⟨"com/example/ledgermatch/ledgermatch/AsciiText$View", "bytes", "()[B"⟩ : MethodName)) hown (mvT hZ (hw _ (List.mem_of_getElem? (i := 25) rfl))) (mvT hZ (hw _ (List.mem_of_getElem? (i := 26) rfl))) (notFace_of_selects (args := #[]) (mvT hZ (hw _ (List.mem_of_getElem? (i := 28) rfl)))) (mvT hZ (hw _ (List.mem_of_getElem? (i := 28) rfl))) (mvT hZ (hw _ (List.mem_of_getElem? (i := 27) rfl))) (by decide) (backOf (W := 0) (own_by l Z a0 hw b36 b34 h38 n0 KZ_38 FB38) hZ (hw _ (List.mem_of_getElem? (i := 29) rfl)) (hw _ (List.mem_of_getElem? (i := 7) rfl)) (by decide) (by decide)) q39a q39c (g := (mkF m 32 #[.val (.int p0), .val (.int p1), .val (.int p2), .val (.int p3), .val (.int p4), .val (.ref b34), .val (.ref b35), .val (.ref b36), .unset, .unset, .unset, .unset] [(.ref b36)])) rfl (by rw [hml]; rfl) (Steps.refl _) (argsL := []) (rest := []) (lenOf own_pd_2 rfl) rfl (by show 2 * 0 + _ ≤ _; exact Nat.le_of_eq rfl) (hb hby at_32) (fun _ _ => ⟨rfl, e38, (by decide : 4 + 0 ≤ _), (by decide : 11 + 0 ≤ _)⟩)
  dsimp only [Pt.U, Pt.locs, Pt.cells, Pt.slots] at X39 l39 y39 z39 st39 hQ39
  subst l39 y39 z39
  obtain ⟨rfl, Nq39, eh39⟩ := hQ39
  have N39 := Fr.app N38 Nq39
  have e39 : T39.heap = h38 := eh39
  obtain ⟨cq40, kq40, q40a, q40b, q40c⟩ := isOf hZ e39 E_b36_38
  obtain ⟨_, _, ⟨T40, L40, k40, n40⟩, -, X40, ⟨Lc40, hQ40, l40, y40, z40⟩, st40⟩ := X39.virtualBack hx (y := (⟨"com/example/ledgermatch/ledgermatch/AsciiText$View", "start", "()I"⟩ : MethodName)) (z := (⟨"com/example/ledgermatch/ledgermatch/AsciiText$View", "start", "()I"⟩ : MethodName)) hown (mvT hZ (hw _ (List.mem_of_getElem? (i := 30) rfl))) (mvT hZ (hw _ (List.mem_of_getElem? (i := 31) rfl))) (notFace_of_selects (args := #[]) (mvT hZ (hw _ (List.mem_of_getElem? (i := 33) rfl)))) (mvT hZ (hw _ (List.mem_of_getElem? (i := 33) rfl))) (mvT hZ (hw _ (List.mem_of_getElem? (i := 32) rfl))) (by decide) (backOf (W := 0) (own_st l Z a0 hw b36 p2 h38 n0 KZ_38 FS38) hZ (hw _ (List.mem_of_getElem? (i := 34) rfl)) (hw _ (List.mem_of_getElem? (i := 7) rfl)) (by decide) (by decide)) q40a q40c (g := (mkF m 42 #[.val (.int p0), .val (.int p1), .val (.int p2), .val (.int p3), .val (.int p4), .val (.ref b34), .val (.ref b35), .val (.ref b36), .unset, .unset, .unset, .unset] [(.ref b36)])) rfl (by rw [hml]; rfl) (Steps.refl _) (argsL := []) (rest := []) (lenOf own_pd_1 rfl) rfl (by show 2 * 0 + _ ≤ _; exact Nat.le_of_eq rfl) (hb hby at_42) (fun _ _ => ⟨rfl, e39, (by decide : 4 + 0 ≤ _), (by decide : 11 + 0 ≤ _)⟩)
  dsimp only [Pt.U, Pt.locs, Pt.cells, Pt.slots] at X40 l40 y40 z40 st40 hQ40
  subst l40 y40 z40
  obtain ⟨rfl, Nq40, eh40⟩ := hQ40
  have N40 := Fr.app N39 Nq40
  have e40 : T40.heap = h38 := eh40
  obtain ⟨cq41, kq41, q41a, q41b, q41c⟩ := isOf hZ e40 E_b36_38
  obtain ⟨_, _, ⟨T41, L41, k41, n41⟩, -, X41, ⟨Lc41, hQ41, l41, y41, z41⟩, st41⟩ := X40.virtualBack hx (y := (⟨"com/example/ledgermatch/ledgermatch/AsciiText$View", "end", "()I"⟩ : MethodName)) (z := (⟨"com/example/ledgermatch/ledgermatch/AsciiText$View", "end", "()I"⟩ : MethodName)) hown (mvT hZ (hw _ (List.mem_of_getElem? (i := 35) rfl))) (mvT hZ (hw _ (List.mem_of_getElem? (i := 36) rfl))) (notFace_of_selects (args := #[]) (mvT hZ (hw _ (List.mem_of_getElem? (i := 38) rfl)))) (mvT hZ (hw _ (List.mem_of_getElem? (i := 38) rfl))) (mvT hZ (hw _ (List.mem_of_getElem? (i := 37) rfl))) (by decide) (backOf (W := 0) (own_en l Z a0 hw b36 p3 h38 n0 KZ_38 FE38) hZ (hw _ (List.mem_of_getElem? (i := 39) rfl)) (hw _ (List.mem_of_getElem? (i := 7) rfl)) (by decide) (by decide)) q41a q41c (g := (mkF m 51 #[.val (.int p0), .val (.int p1), .val (.int p2), .val (.int p3), .val (.int p4), .val (.ref b34), .val (.ref b35), .val (.ref b36), .unset, .unset, .unset, .unset] [(.ref b36)])) rfl (by rw [hml]; rfl) (Steps.refl _) (argsL := []) (rest := []) (lenOf own_pd_1 rfl) rfl (by show 2 * 0 + _ ≤ _; exact Nat.le_of_eq rfl) (hb hby at_51) (fun _ _ => ⟨rfl, e40, (by decide : 4 + 0 ≤ _), (by decide : 11 + 0 ≤ _)⟩)
  dsimp only [Pt.U, Pt.locs, Pt.cells, Pt.slots] at X41 l41 y41 z41 st41 hQ41
  subst l41 y41 z41
  obtain ⟨rfl, Nq41, eh41⟩ := hQ41
  have N41 := Fr.app N40 Nq41
  have e41 : T41.heap = h38 := eh41
  obtain ⟨cq42, kq42, q42a, q42b, q42c⟩ := isOf hZ e41 E_b36_38
  obtain ⟨_, _, ⟨T42, L42, k42, n42⟩, -, X42, ⟨Lc42, hQ42, l42, y42, z42⟩, st42⟩ := X41.virtualBack hx (y := (⟨"com/example/ledgermatch/ledgermatch/AsciiText$View", "point", "([BII)V"⟩ : MethodName)) (z := (⟨"com/example/ledgermatch/ledgermatch/AsciiText$View", "point", "([BII)V"⟩ : MethodName)) hown (mvT hZ (hw _ (List.mem_of_getElem? (i := 16) rfl))) (mvT hZ (hw _ (List.mem_of_getElem? (i := 17) rfl))) (notFace_of_selects (args := #[]) (mvT hZ (hw _ (List.mem_of_getElem? (i := 19) rfl)))) (mvT hZ (hw _ (List.mem_of_getElem? (i := 19) rfl))) (mvT hZ (hw _ (List.mem_of_getElem? (i := 18) rfl))) (by decide) (backOf (W := 0) (own_point l Z a0 hw b36 b35 s2 e2 _ _ _ h38 n0 KZ_38 E_b36_38 FB38 FS38 FE38 g_b36) hZ (hw _ (List.mem_of_getElem? (i := 20) rfl)) (hw _ (List.mem_of_getElem? (i := 7) rfl)) (by decide) (by decide)) q42a q42c (g := (mkF m 102 #[.val (.int p0), .val (.int p1), .val (.int p2), .val (.int p3), .val (.int p4), .val (.ref b34), .val (.ref b35), .val (.ref b36), .val (.int (1 : Int32)), .val (.int s2), .val (.int e2), .unset] [(.int e2), (.int s2), (.ref b35), (.ref b36)])) rfl (by rw [hml]; rfl) (Steps.refl _) (argsL := [(.ref b35), (.int s2), (.int e2)]) (rest := []) (lenOf own_pd_6 rfl) rfl (by show 2 * 0 + _ ≤ _; exact Nat.le_of_eq rfl) (hb hby at_102) (fun _ _ => ⟨rfl, e41, (by decide : 4 + 0 ≤ _), (by decide : 11 + 0 ≤ _)⟩)
  dsimp only [Pt.U, Pt.locs, Pt.cells, Pt.slots] at X42 l42 y42 z42 st42 hQ42
  subst l42 y42 z42
  obtain ⟨rfl, Nq42, K42, FB42, FS42, FE42⟩ := hQ42
  have N42 := Fr.app N41 Nq42
  obtain ⟨h42, e42⟩ : ∃ z, T42.heap = z := ⟨_, rfl⟩
  rw [e42] at K42 FB42 FS42 FE42
  have KZ_42 : n0 ≤ h42.size := Nat.le_trans KZ_38 K42.1
  have V_b34_42 : Arv Z h42 b34 k34q .byte (4 : Int32) [(.int (nar .byte (p0.toInt8.toInt32))), (.int (nar .byte ((p0 >>> ((8 : Int32) &&& 31)).toInt8.toInt32))), (.int (nar .byte ((p0 >>> ((16 : Int32) &&& 31)).toInt8.toInt32))), (.int (nar .byte ((p0 >>> ((24 : Int32) &&& 31)).toInt8.toInt32)))] (.int (0 : Int32)) := V_b34_38.keep K42 (ninS ne_b34_b36 nin0)
  have V_b35_42 : Arv Z h42 b35 k35q .byte (4 : Int32) [(.int (nar .byte (p1.toInt8.toInt32))), (.int (nar .byte ((p1 >>> ((8 : Int32) &&& 31)).toInt8.toInt32))), (.int (nar .byte ((p1 >>> ((16 : Int32) &&& 31)).toInt8.toInt32))), (.int (nar .byte ((p1 >>> ((24 : Int32) &&& 31)).toInt8.toInt32)))] (.int (0 : Int32)) := V_b35_38.keep K42 (ninS ne_b35_b36 nin0)
  have E_b36_42 : Exa Z h42 b36 "com/example/ledgermatch/ledgermatch/AsciiText$View" := E_b36_38.keep K42
  obtain ⟨cq43, kq43, q43a, q43b, q43c⟩ := isOf hZ e42 E_b36_42
  obtain ⟨_, _, ⟨T43, L43, k43, n43⟩, -, X43, ⟨Lc43, hQ43, l43, y43, z43⟩, st43⟩ := X42.virtualBack hx (y := (⟨"com/example/ledgermatch/ledgermatch/AsciiText$View", "bytes", "()[B"⟩ : MethodName)) (z := (⟨"com/example/ledgermatch/ledgermatch/AsciiText$View", "bytes", "()[B"⟩ : MethodName)) hown (mvT hZ (hw _ (List.mem_of_getElem? (i := 25) rfl))) (mvT hZ (hw _ (List.mem_of_getElem? (i := 26) rfl))) (notFace_of_selects (args := #[]) (mvT hZ (hw _ (List.mem_of_getElem? (i := 28) rfl)))) (mvT hZ (hw _ (List.mem_of_getElem? (i := 28) rfl))) (mvT hZ (hw _ (List.mem_of_getElem? (i := 27) rfl))) (by decide) (backOf (W := 0) (own_by l Z a0 hw b36 b35 h42 n0 KZ_42 FB42) hZ (hw _ (List.mem_of_getElem? (i := 29) rfl)) (hw _ (List.mem_of_getElem? (i := 7) rfl)) (by decide) (by decide)) q43a q43c (g := (mkF m 112 #[.val (.int p0), .val (.int p1), .val (.int p2), .val (.int p3), .val (.int p4), .val (.ref b34), .val (.ref b35), .val (.ref b36), .val (.int (1 : Int32)), .val (.int s2), .val (.int e2), .unset] [(.ref b36)])) rfl (by rw [hml]; rfl) (Steps.refl _) (argsL := []) (rest := []) (lenOf own_pd_2 rfl) rfl (by show 2 * 0 + _ ≤ _; exact Nat.le_of_eq rfl) (hb hby at_112) (fun _ _ => ⟨rfl, e42, (by decide : 4 + 0 ≤ _), (by decide : 11 + 0 ≤ _)⟩)
  dsimp only [Pt.U, Pt.locs, Pt.cells, Pt.slots] at X43 l43 y43 z43 st43 hQ43
  subst l43 y43 z43
  obtain ⟨rfl, Nq43, eh43⟩ := hQ43
  have N43 := Fr.app N42 Nq43
  have e43 : T43.heap = h42 := eh43
  obtain ⟨cq44, kq44, q44a, q44b, q44c⟩ := isOf hZ e43 E_b36_42
  obtain ⟨_, _, ⟨T44, L44, k44, n44⟩, -, X44, ⟨Lc44, hQ44, l44, y44, z44⟩, st44⟩ := X43.virtualBack hx (y := (⟨"com/example/ledgermatch/ledgermatch/AsciiText$View", "start", "()I"⟩ : MethodName)) (z := (⟨"com/example/ledgermatch/ledgermatch/AsciiText$View", "start", "()I"⟩ : MethodName)) hown (mvT hZ (hw _ (List.mem_of_getElem? (i := 30) rfl))) (mvT hZ (hw _ (List.mem_of_getElem? (i := 31) rfl))) (notFace_of_selects (args := #[]) (mvT hZ (hw _ (List.mem_of_getElem? (i := 33) rfl)))) (mvT hZ (hw _ (List.mem_of_getElem? (i := 33) rfl))) (mvT hZ (hw _ (List.mem_of_getElem? (i := 32) rfl))) (by decide) (backOf (W := 0) (own_st l Z a0 hw b36 s2 h42 n0 KZ_42 FS42) hZ (hw _ (List.mem_of_getElem? (i := 34) rfl)) (hw _ (List.mem_of_getElem? (i := 7) rfl)) (by decide) (by decide)) q44a q44c (g := (mkF m 122 #[.val (.int p0), .val (.int p1), .val (.int p2), .val (.int p3), .val (.int p4), .val (.ref b34), .val (.ref b35), .val (.ref b36), .val (.int (1 : Int32)), .val (.int s2), .val (.int e2), .unset] [(.ref b36)])) rfl (by rw [hml]; rfl) (Steps.refl _) (argsL := []) (rest := []) (lenOf own_pd_1 rfl) rfl (by show 2 * 0 + _ ≤ _; exact Nat.le_of_eq rfl) (hb hby at_122) (fun _ _ => ⟨rfl, e43, (by decide : 4 + 0 ≤ _), (by decide : 11 + 0 ≤ _)⟩)
  dsimp only [Pt.U, Pt.locs, Pt.cells, Pt.slots] at X44 l44 y44 z44 st44 hQ44
  subst l44 y44 z44
  obtain ⟨rfl, Nq44, eh44⟩ := hQ44
  have N44 := Fr.app N43 Nq44
  have e44 : T44.heap = h42 := eh44
  obtain ⟨cq45, kq45, q45a, q45b, q45c⟩ := isOf hZ e44 E_b36_42
  obtain ⟨_, _, ⟨T45, L45, k45, n45⟩, -, X45, ⟨Lc45, hQ45, l45, y45, z45⟩, st45⟩ := X44.virtualBack hx (y := (⟨"com/example/ledgermatch/ledgermatch/AsciiText$View", "end", "()I"⟩ : MethodName)) (z := (⟨"com/example/ledgermatch/ledgermatch/AsciiText$View", "end", "()I"⟩ : MethodName)) hown (mvT hZ (hw _ (List.mem_of_getElem? (i := 35) rfl))) (mvT hZ (hw _ (List.mem_of_getElem? (i := 36) rfl))) (notFace_of_selects (args := #[]) (mvT hZ (hw _ (List.mem_of_getElem? (i := 38) rfl)))) (mvT hZ (hw _ (List.mem_of_getElem? (i := 38) rfl))) (mvT hZ (hw _ (List.mem_of_getElem? (i := 37) rfl))) (by decide) (backOf (W := 0) (own_en l Z a0 hw b36 e2 h42 n0 KZ_42 FE42) hZ (hw _ (List.mem_of_getElem? (i := 39) rfl)) (hw _ (List.mem_of_getElem? (i := 7) rfl)) (by decide) (by decide)) q45a q45c (g := (mkF m 132 #[.val (.int p0), .val (.int p1), .val (.int p2), .val (.int p3), .val (.int p4), .val (.ref b34), .val (.ref b35), .val (.ref b36), .val (.int (1 : Int32)), .val (.int s2), .val (.int e2), .unset] [(.ref b36)])) rfl (by rw [hml]; rfl) (Steps.refl _) (argsL := []) (rest := []) (lenOf own_pd_1 rfl) rfl (by show 2 * 0 + _ ≤ _; exact Nat.le_of_eq rfl) (hb hby at_132) (fun _ _ => ⟨rfl, e44, (by decide : 4 + 0 ≤ _), (by decide : 11 + 0 ≤ _)⟩)
  dsimp only [Pt.U, Pt.locs, Pt.cells, Pt.slots] at X45 l45 y45 z45 st45 hQ45
  subst l45 y45 z45
  obtain ⟨rfl, Nq45, eh45⟩ := hQ45
  have N45 := Fr.app N44 Nq45
  have e45 : T45.heap = h42 := eh45
  obtain ⟨cl_b35_o46, Ar_b35_o46, q_b35_o46, S_b35_o46, N_b35_o46, H_b35_o46, G_b35_o46⟩ := V_b35_42
  have hinb35_o46 : ¬ ((s2 + i3) < 0 ∨ cl_b35_o46.slots.size ≤ (s2 + i3).toNatClampNeg) := inb_of S_b35_o46 hidx
  obtain ⟨bb35_o46, hatb35_o46⟩ := own_at4 H_b35_o46 (S_b35_o46 : cl_b35_o46.slots.size = 4) (k := (s2 + i3).toNatClampNeg) (Nat.lt_of_not_le fun q => hinb35_o46 (Or.inr (Nat.le_trans (Nat.le_of_eq S_b35_o46) q)))
  obtain ⟨cq47, kq47, q47a, q47b, q47c⟩ := isOf hZ e45 E_b36_42
  obtain ⟨_, _, ⟨T47, L47, k47, n47⟩, -, X47, ⟨Lc47, hQ47, l47, y47, z47⟩, st47⟩ := X45.virtualBackUpD hx (x := (⟨"com/example/ledgermatch/ledgermatch/AsciiText$View", "charAt", "(I)C"⟩ : MethodName)) (y := (⟨"com/example/ledgermatch/ledgermatch/AsciiText", "charAt", "(I)C"⟩ : MethodName)) (owner := "com/example/ledgermatch/ledgermatch/AsciiText") hown (mvT hZ (hw _ (List.mem_of_getElem? (i := 40) rfl))) (mvT hZ (hw _ (List.mem_of_getElem? (i := 41) rfl))) (mvT hZ (hw _ (List.mem_of_getElem? (i := 42) rfl))) (by decide) (mvD hZ (hw _ (List.mem_of_getElem? (i := 44) rfl))) (mvT hZ (hw _ (List.mem_of_getElem? (i := 43) rfl))) (own_backU (W := 0) (rm := ({ frames := 2, cells := 0, slots := 0, locals := 29 } : Room)) (plainFor_of_name own_pn_4) (own_chA_in l hx Z a0 hw b36 i3 b35 s2 e2 cl_b35_o46 bb35_o46 h42 n0 KZ_42 E_b36_42 FB42 FS42 FE42 Ar_b35_o46 hi0 hi1 hinb35_o46 hatb35_o46) hZ (hw _ (List.mem_of_getElem? (i := 48) rfl)) (by decide) (by decide)) q47a q47c (g := (mkF m 179 #[.val (.int p0), .val (.int p1), .val (.int p2), .val (.int p3), .val (.int p4), .val (.ref b34), .val (.ref b35), .val (.ref b36), .val (.int (1 : Int32)), .val (.int s2), .val (.int e2), .val (.int i3)] [(.int i3), (.ref b36)])) rfl (by rw [hml]; rfl) (Steps.refl _) (argsL := [(.int i3)]) (rest := []) (lenOf own_pd_7 rfl) rfl (by show 2 * 0 + _ ≤ _; exact Nat.le_of_eq rfl) (hb hby at_179) (fun _ _ => ⟨rfl, e45, (by decide : 4 + 0 ≤ _), (by decide : 11 + 0 ≤ _)⟩)
  dsimp only [Pt.U, Pt.locs, Pt.cells, Pt.slots] at X47 l47 y47 z47 st47 hQ47
  subst l47 y47 z47
  obtain ⟨rfl, Nq47, eh47⟩ := hQ47
  have N47 := Fr.app N45 Nq47
  have e47 : T47.heap = h42 := eh47
  obtain ⟨fs, hr, hrun, hended, hW, hsame⟩ := X47.leave (v := some (.int (1 : Int32))) (fun h => by rw [Bd.returns] at h; cases h)
  refine ⟨_, _, pre0 _ ?_, hrun, hended, _, _, rfl, ?_, ⟨_, rfl⟩, hW, hsame.mono (by decide) (by decide)⟩
  · show Steps p.tables e below (s₁.setTop (mkF m 0 #[.val (.int p0), .val (.int p1), .val (.int p2), .val (.int p3), .val (.int p4), .unset, .unset, .unset, .unset, .unset, .unset, .unset] [])) _
    refine XS.iloadN X0.here hx rfl (hb hby at_0) rfl ?_
    show Steps p.tables e below (s₁.setTop (mkF m 1 #[.val (.int p0), .val (.int p1), .val (.int p2), .val (.int p3), .val (.int p4), .unset, .unset, .unset, .unset, .unset, .unset, .unset] [(.int p0)])) _
    refine st34 _ ?_
    show Steps p.tables e below (T34.setTop (mkF m 4 #[.val (.int p0), .val (.int p1), .val (.int p2), .val (.int p3), .val (.int p4), .unset, .unset, .unset, .unset, .unset, .unset, .unset] [(.ref b34)])) _
    refine XS.astore X34.here hx rfl (hb hby at_4) rfl rfl (l' := #[.val (.int p0), .val (.int p1), .val (.int p2), .val (.int p3), .val (.int p4), .val (.ref b34), .unset, .unset, .unset, .unset, .unset, .unset]) rfl ?_
    show Steps p.tables e below (T34.setTop (mkF m 6 #[.val (.int p0), .val (.int p1), .val (.int p2), .val (.int p3), .val (.int p4), .val (.ref b34), .unset, .unset, .unset, .unset, .unset, .unset] [])) _
    refine XS.iloadN X34.here hx rfl (hb hby at_6) rfl ?_
    show Steps p.tables e below (T34.setTop (mkF m 7 #[.val (.int p0), .val (.int p1), .val (.int p2), .val (.int p3), .val (.int p4), .val (.ref b34), .unset, .unset, .unset, .unset, .unset, .unset] [(.int p1)])) _
    refine st35 _ ?_
    show Steps p.tables e below (T35.setTop (mkF m 10 #[.val (.int p0), .val (.int p1), .val (.int p2), .val (.int p3), .val (.int p4), .val (.ref b34), .unset, .unset, .unset, .unset, .unset, .unset] [(.ref b35)])) _
    refine XS.astore X35.here hx rfl (hb hby at_10) rfl rfl (l' := #[.val (.int p0), .val (.int p1), .val (.int p2), .val (.int p3), .val (.int p4), .val (.ref b34), .val (.ref b35), .unset, .unset, .unset, .unset, .unset]) rfl ?_
    show Steps p.tables e below (T35.setTop (mkF m 12 #[.val (.int p0), .val (.int p1), .val (.int p2), .val (.int p3), .val (.int p4), .val (.ref b34), .val (.ref b35), .unset, .unset, .unset, .unset, .unset] [])) _
    refine st36 _ ?_
    show Steps p.tables e below (T36.setTop (mkF m 15 #[.val (.int p0), .val (.int p1), .val (.int p2), .val (.int p3), .val (.int p4), .val (.ref b34), .val (.ref b35), .unset, .unset, .unset, .unset, .unset] [(.ref b36)])) _
    refine XS.dup X36.here hx rfl (hb hby at_15) rfl rfl ?_
    show Steps p.tables e below (T36.setTop (mkF m 16 #[.val (.int p0), .val (.int p1), .val (.int p2), .val (.int p3), .val (.int p4), .val (.ref b34), .val (.ref b35), .unset, .unset, .unset, .unset, .unset] [(.ref b36), (.ref b36)])) _
    refine st37.trans ?_
    show Steps p.tables e below (T37.setTop (mkF m 19 #[.val (.int p0), .val (.int p1), .val (.int p2), .val (.int p3), .val (.int p4), .val (.ref b34), .val (.ref b35), .unset, .unset, .unset, .unset, .unset] [(.ref b36)])) _
    refine XS.astore X37.here hx rfl (hb hby at_19) rfl rfl (l' := #[.val (.int p0), .val (.int p1), .val (.int p2), .val (.int p3), .val (.int p4), .val (.ref b34), .val (.ref b35), .val (.ref b36), .unset, .unset, .unset, .unset]) rfl ?_
    show Steps p.tables e below (T37.setTop (mkF m 21 #[.val (.int p0), .val (.int p1), .val (.int p2), .val (.int p3), .val (.int p4), .val (.ref b34), .val (.ref b35), .val (.ref b36), .unset, .unset, .unset, .unset] [])) _
    refine XS.aload X37.here hx rfl (hb hby at_21) rfl rfl ?_
    show Steps p.tables e below (T37.setTop (mkF m 23 #[.val (.int p0), .val (.int p1), .val (.int p2), .val (.int p3), .val (.int p4), .val (.ref b34), .val (.ref b35), .val (.ref b36), .unset, .unset, .unset, .unset] [(.ref b36)])) _
    refine XS.aload X37.here hx rfl (hb hby at_23) rfl rfl ?_
    show Steps p.tables e below (T37.setTop (mkF m 25 #[.val (.int p0), .val (.int p1), .val (.int p2), .val (.int p3), .val (.int p4), .val (.ref b34), .val (.ref b35), .val (.ref b36), .unset, .unset, .unset, .unset] [(.ref b34), (.ref b36)])) _
    refine XS.iloadN X37.here hx rfl (hb hby at_25) rfl ?_
    show Steps p.tables e below (T37.setTop (mkF m 26 #[.val (.int p0), .val (.int p1), .val (.int p2), .val (.int p3), .val (.int p4), .val (.ref b34), .val (.ref b35), .val (.ref b36), .unset, .unset, .unset, .unset] [(.int p2), (.ref b34), (.ref b36)])) _
    refine XS.iloadN X37.here hx rfl (hb hby at_26) rfl ?_
    show Steps p.tables e below (T37.setTop (mkF m 27 #[.val (.int p0), .val (.int p1), .val (.int p2), .val (.int p3), .val (.int p4), .val (.ref b34), .val (.ref b35), .val (.ref b36), .unset, .unset, .unset, .unset] [(.int p3), (.int p2), (.ref b34), (.ref b36)])) _
    refine st38.trans ?_
    show Steps p.tables e below (T38.setTop (mkF m 30 #[.val (.int p0), .val (.int p1), .val (.int p2), .val (.int p3), .val (.int p4), .val (.ref b34), .val (.ref b35), .val (.ref b36), .unset, .unset, .unset, .unset] [])) _
    refine XS.aload X38.here hx rfl (hb hby at_30) rfl rfl ?_
    show Steps p.tables e below (T38.setTop (mkF m 32 #[.val (.int p0), .val (.int p1), .val (.int p2), .val (.int p3), .val (.int p4), .val (.ref b34), .val (.ref b35), .val (.ref b36), .unset, .unset, .unset, .unset] [(.ref b36)])) _
    refine st39.trans ?_
    show Steps p.tables e below (T39.setTop (mkF m 35 #[.val (.int p0), .val (.int p1), .val (.int p2), .val (.int p3), .val (.int p4), .val (.ref b34), .val (.ref b35), .val (.ref b36), .unset, .unset, .unset, .unset] [(.ref b34)])) _
    refine XS.aload X39.here hx rfl (hb hby at_35) rfl rfl ?_
    show Steps p.tables e below (T39.setTop (mkF m 37 #[.val (.int p0), .val (.int p1), .val (.int p2), .val (.int p3), .val (.int p4), .val (.ref b34), .val (.ref b35), .val (.ref b36), .unset, .unset, .unset, .unset] [(.ref b34), (.ref b34)])) _
    refine Jvm.RoadKit.acmp (g := (mkF m 37 #[.val (.int p0), .val (.int p1), .val (.int p2), .val (.int p3), .val (.int p4), .val (.ref b34), .val (.ref b35), .val (.ref b36), .unset, .unset, .unset, .unset] [(.ref b34), (.ref b34)])) X39 hx rfl rfl rfl (pc0 := 37) (pc' := 40) (same := true) rfl (hb hby at_37) rfl (decide_eq_true rfl) (by decide) (by decide) ?_
    show Steps p.tables e below (T39.setTop (mkF m 40 #[.val (.int p0), .val (.int p1), .val (.int p2), .val (.int p3), .val (.int p4), .val (.ref b34), .val (.ref b35), .val (.ref b36), .unset, .unset, .unset, .unset] [])) _
    refine XS.aload X39.here hx rfl (hb hby at_40) rfl rfl ?_
    show Steps p.tables e below (T39.setTop (mkF m 42 #[.val (.int p0), .val (.int p1), .val (.int p2), .val (.int p3), .val (.int p4), .val (.ref b34), .val (.ref b35), .val (.ref b36), .unset, .unset, .unset, .unset] [(.ref b36)])) _
    refine st40.trans ?_
    show Steps p.tables e below (T40.setTop (mkF m 45 #[.val (.int p0), .val (.int p1), .val (.int p2), .val (.int p3), .val (.int p4), .val (.ref b34), .val (.ref b35), .val (.ref b36), .unset, .unset, .unset, .unset] [(.int p2)])) _
    refine XS.iloadN X40.here hx rfl (hb hby at_45) rfl ?_
    show Steps p.tables e below (T40.setTop (mkF m 46 #[.val (.int p0), .val (.int p1), .val (.int p2), .val (.int p3), .val (.int p4), .val (.ref b34), .val (.ref b35), .val (.ref b36), .unset, .unset, .unset, .unset] [(.int p2), (.int p2)])) _
    refine XS.icmpNo X40.here hx rfl (hb hby at_46) rfl (teq (rfl : p2 = p2)).2 ?_
    show Steps p.tables e below (T40.setTop (mkF m 49 #[.val (.int p0), .val (.int p1), .val (.int p2), .val (.int p3), .val (.int p4), .val (.ref b34), .val (.ref b35), .val (.ref b36), .unset, .unset, .unset, .unset] [])) _
    refine XS.aload X40.here hx rfl (hb hby at_49) rfl rfl ?_
    show Steps p.tables e below (T40.setTop (mkF m 51 #[.val (.int p0), .val (.int p1), .val (.int p2), .val (.int p3), .val (.int p4), .val (.ref b34), .val (.ref b35), .val (.ref b36), .unset, .unset, .unset, .unset] [(.ref b36)])) _
    refine st41.trans ?_
    show Steps p.tables e below (T41.setTop (mkF m 54 #[.val (.int p0), .val (.int p1), .val (.int p2), .val (.int p3), .val (.int p4), .val (.ref b34), .val (.ref b35), .val (.ref b36), .unset, .unset, .unset, .unset] [(.int p3)])) _
    refine XS.iloadN X41.here hx rfl (hb hby at_54) rfl ?_
    show Steps p.tables e below (T41.setTop (mkF m 55 #[.val (.int p0), .val (.int p1), .val (.int p2), .val (.int p3), .val (.int p4), .val (.ref b34), .val (.ref b35), .val (.ref b36), .unset, .unset, .unset, .unset] [(.int p3), (.int p3)])) _
    refine XS.icmpNo X41.here hx rfl (hb hby at_55) rfl (teq (rfl : p3 = p3)).2 ?_
    show Steps p.tables e below (T41.setTop (mkF m 58 #[.val (.int p0), .val (.int p1), .val (.int p2), .val (.int p3), .val (.int p4), .val (.ref b34), .val (.ref b35), .val (.ref b36), .unset, .unset, .unset, .unset] [])) _
    refine XS.iconst X41.here hx rfl (hb hby at_58) ?_
    show Steps p.tables e below (T41.setTop (mkF m 59 #[.val (.int p0), .val (.int p1), .val (.int p2), .val (.int p3), .val (.int p4), .val (.ref b34), .val (.ref b35), .val (.ref b36), .unset, .unset, .unset, .unset] [(.int (1 : Int32))])) _
    refine XS.goto X41.here hx rfl (pc0 := 59) (pc' := 63) rfl (hb hby at_59) (by decide) (by decide) ?_
    show Steps p.tables e below (T41.setTop (mkF m 63 #[.val (.int p0), .val (.int p1), .val (.int p2), .val (.int p3), .val (.int p4), .val (.ref b34), .val (.ref b35), .val (.ref b36), .unset, .unset, .unset, .unset] [(.int (1 : Int32))])) _
    refine XS.istore X41.here hx rfl (hb hby at_63) rfl (l' := #[.val (.int p0), .val (.int p1), .val (.int p2), .val (.int p3), .val (.int p4), .val (.ref b34), .val (.ref b35), .val (.ref b36), .val (.int (1 : Int32)), .unset, .unset, .unset]) rfl ?_
    show Steps p.tables e below (T41.setTop (mkF m 65 #[.val (.int p0), .val (.int p1), .val (.int p2), .val (.int p3), .val (.int p4), .val (.ref b34), .val (.ref b35), .val (.ref b36), .val (.int (1 : Int32)), .unset, .unset, .unset] [])) _
    refine XS.iload X41.here hx rfl (hb hby at_65) rfl ?_
    show Steps p.tables e below (T41.setTop (mkF m 67 #[.val (.int p0), .val (.int p1), .val (.int p2), .val (.int p3), .val (.int p4), .val (.ref b34), .val (.ref b35), .val (.ref b36), .val (.int (1 : Int32)), .unset, .unset, .unset] [(.int p4)])) _
    refine XS.sipush X41.here hx rfl (hb hby at_67) ?_
    show Steps p.tables e below (T41.setTop (mkF m 70 #[.val (.int p0), .val (.int p1), .val (.int p2), .val (.int p3), .val (.int p4), .val (.ref b34), .val (.ref b35), .val (.ref b36), .val (.int (1 : Int32)), .unset, .unset, .unset] [(.int (255 : Int32)), (.int p4)])) _
    refine XS.iand X41.here hx rfl (hb hby at_70) rfl ?_
    show Steps p.tables e below (T41.setTop (mkF m 71 #[.val (.int p0), .val (.int p1), .val (.int p2), .val (.int p3), .val (.int p4), .val (.ref b34), .val (.ref b35), .val (.ref b36), .val (.int (1 : Int32)), .unset, .unset, .unset] [(.int (p4 &&& (255 : Int32)))])) _
    refine XS.iconst X41.here hx rfl (hb hby at_71) ?_
    show Steps p.tables e below (T41.setTop (mkF m 72 #[.val (.int p0), .val (.int p1), .val (.int p2), .val (.int p3), .val (.int p4), .val (.ref b34), .val (.ref b35), .val (.ref b36), .val (.int (1 : Int32)), .unset, .unset, .unset] [(.int (5 : Int32)), (.int (p4 &&& (255 : Int32)))])) _
    refine iremM X41 hx rfl (hb hby at_72) rfl (by decide) ?_
    rw [hs2]
    show Steps p.tables e below (T41.setTop (mkF m 73 #[.val (.int p0), .val (.int p1), .val (.int p2), .val (.int p3), .val (.int p4), .val (.ref b34), .val (.ref b35), .val (.ref b36), .val (.int (1 : Int32)), .unset, .unset, .unset] [(.int s2)])) _
    refine XS.istore X41.here hx rfl (hb hby at_73) rfl (l' := #[.val (.int p0), .val (.int p1), .val (.int p2), .val (.int p3), .val (.int p4), .val (.ref b34), .val (.ref b35), .val (.ref b36), .val (.int (1 : Int32)), .val (.int s2), .unset, .unset]) rfl ?_
    show Steps p.tables e below (T41.setTop (mkF m 75 #[.val (.int p0), .val (.int p1), .val (.int p2), .val (.int p3), .val (.int p4), .val (.ref b34), .val (.ref b35), .val (.ref b36), .val (.int (1 : Int32)), .val (.int s2), .unset, .unset] [])) _
    refine XS.iload X41.here hx rfl (hb hby at_75) rfl ?_
    show Steps p.tables e below (T41.setTop (mkF m 77 #[.val (.int p0), .val (.int p1), .val (.int p2), .val (.int p3), .val (.int p4), .val (.ref b34), .val (.ref b35), .val (.ref b36), .val (.int (1 : Int32)), .val (.int s2), .unset, .unset] [(.int s2)])) _
    refine XS.iload X41.here hx rfl (hb hby at_77) rfl ?_
    show Steps p.tables e below (T41.setTop (mkF m 79 #[.val (.int p0), .val (.int p1), .val (.int p2), .val (.int p3), .val (.int p4), .val (.ref b34), .val (.ref b35), .val (.ref b36), .val (.int (1 : Int32)), .val (.int s2), .unset, .unset] [(.int p4), (.int s2)])) _
    refine XS.bipush X41.here hx rfl (hb hby at_79) ?_
    show Steps p.tables e below (T41.setTop (mkF m 81 #[.val (.int p0), .val (.int p1), .val (.int p2), .val (.int p3), .val (.int p4), .val (.ref b34), .val (.ref b35), .val (.ref b36), .val (.int (1 : Int32)), .val (.int s2), .unset, .unset] [(.int (8 : Int32)), (.int p4), (.int s2)])) _
    refine XS.iushr X41.here hx rfl (hb hby at_81) rfl ?_
    show Steps p.tables e below (T41.setTop (mkF m 82 #[.val (.int p0), .val (.int p1), .val (.int p2), .val (.int p3), .val (.int p4), .val (.ref b34), .val (.ref b35), .val (.ref b36), .val (.int (1 : Int32)), .val (.int s2), .unset, .unset] [(.int ((p4.toUInt32 >>> ((8 : Int32) &&& 31).toUInt32).toInt32)), (.int s2)])) _
    refine XS.sipush X41.here hx rfl (hb hby at_82) ?_
    show Steps p.tables e below (T41.setTop (mkF m 85 #[.val (.int p0), .val (.int p1), .val (.int p2), .val (.int p3), .val (.int p4), .val (.ref b34), .val (.ref b35), .val (.ref b36), .val (.int (1 : Int32)), .val (.int s2), .unset, .unset] [(.int (255 : Int32)), (.int ((p4.toUInt32 >>> ((8 : Int32) &&& 31).toUInt32).toInt32)), (.int s2)])) _
    refine XS.iand X41.here hx rfl (hb hby at_85) rfl ?_
    show Steps p.tables e below (T41.setTop (mkF m 86 #[.val (.int p0), .val (.int p1), .val (.int p2), .val (.int p3), .val (.int p4), .val (.ref b34), .val (.ref b35), .val (.ref b36), .val (.int (1 : Int32)), .val (.int s2), .unset, .unset] [(.int (((p4.toUInt32 >>> ((8 : Int32) &&& 31).toUInt32).toInt32) &&& (255 : Int32))), (.int s2)])) _
    refine XS.iconst X41.here hx rfl (hb hby at_86) ?_
    show Steps p.tables e below (T41.setTop (mkF m 87 #[.val (.int p0), .val (.int p1), .val (.int p2), .val (.int p3), .val (.int p4), .val (.ref b34), .val (.ref b35), .val (.ref b36), .val (.int (1 : Int32)), .val (.int s2), .unset, .unset] [(.int (5 : Int32)), (.int (((p4.toUInt32 >>> ((8 : Int32) &&& 31).toUInt32).toInt32) &&& (255 : Int32))), (.int s2)])) _
    refine XS.iload X41.here hx rfl (hb hby at_87) rfl ?_
    show Steps p.tables e below (T41.setTop (mkF m 89 #[.val (.int p0), .val (.int p1), .val (.int p2), .val (.int p3), .val (.int p4), .val (.ref b34), .val (.ref b35), .val (.ref b36), .val (.int (1 : Int32)), .val (.int s2), .unset, .unset] [(.int s2), (.int (5 : Int32)), (.int (((p4.toUInt32 >>> ((8 : Int32) &&& 31).toUInt32).toInt32) &&& (255 : Int32))), (.int s2)])) _
    refine XS.isub X41.here hx rfl (hb hby at_89) rfl ?_
    show Steps p.tables e below (T41.setTop (mkF m 90 #[.val (.int p0), .val (.int p1), .val (.int p2), .val (.int p3), .val (.int p4), .val (.ref b34), .val (.ref b35), .val (.ref b36), .val (.int (1 : Int32)), .val (.int s2), .unset, .unset] [(.int ((5 : Int32) - s2)), (.int (((p4.toUInt32 >>> ((8 : Int32) &&& 31).toUInt32).toInt32) &&& (255 : Int32))), (.int s2)])) _
    refine iremM X41 hx rfl (hb hby at_90) rfl hnz ?_
    show Steps p.tables e below (T41.setTop (mkF m 91 #[.val (.int p0), .val (.int p1), .val (.int p2), .val (.int p3), .val (.int p4), .val (.ref b34), .val (.ref b35), .val (.ref b36), .val (.int (1 : Int32)), .val (.int s2), .unset, .unset] [(.int ((((p4.toUInt32 >>> ((8 : Int32) &&& 31).toUInt32).toInt32) &&& (255 : Int32)) % ((5 : Int32) - s2))), (.int s2)])) _
    refine XS.iadd X41.here hx rfl (hb hby at_91) rfl ?_
    rw [he2]
    show Steps p.tables e below (T41.setTop (mkF m 92 #[.val (.int p0), .val (.int p1), .val (.int p2), .val (.int p3), .val (.int p4), .val (.ref b34), .val (.ref b35), .val (.ref b36), .val (.int (1 : Int32)), .val (.int s2), .unset, .unset] [(.int e2)])) _
    refine XS.istore X41.here hx rfl (hb hby at_92) rfl (l' := #[.val (.int p0), .val (.int p1), .val (.int p2), .val (.int p3), .val (.int p4), .val (.ref b34), .val (.ref b35), .val (.ref b36), .val (.int (1 : Int32)), .val (.int s2), .val (.int e2), .unset]) rfl ?_
    show Steps p.tables e below (T41.setTop (mkF m 94 #[.val (.int p0), .val (.int p1), .val (.int p2), .val (.int p3), .val (.int p4), .val (.ref b34), .val (.ref b35), .val (.ref b36), .val (.int (1 : Int32)), .val (.int s2), .val (.int e2), .unset] [])) _
    refine XS.aload X41.here hx rfl (hb hby at_94) rfl rfl ?_
    show Steps p.tables e below (T41.setTop (mkF m 96 #[.val (.int p0), .val (.int p1), .val (.int p2), .val (.int p3), .val (.int p4), .val (.ref b34), .val (.ref b35), .val (.ref b36), .val (.int (1 : Int32)), .val (.int s2), .val (.int e2), .unset] [(.ref b36)])) _
    refine XS.aload X41.here hx rfl (hb hby at_96) rfl rfl ?_
    show Steps p.tables e below (T41.setTop (mkF m 98 #[.val (.int p0), .val (.int p1), .val (.int p2), .val (.int p3), .val (.int p4), .val (.ref b34), .val (.ref b35), .val (.ref b36), .val (.int (1 : Int32)), .val (.int s2), .val (.int e2), .unset] [(.ref b35), (.ref b36)])) _
    refine XS.iload X41.here hx rfl (hb hby at_98) rfl ?_
    show Steps p.tables e below (T41.setTop (mkF m 100 #[.val (.int p0), .val (.int p1), .val (.int p2), .val (.int p3), .val (.int p4), .val (.ref b34), .val (.ref b35), .val (.ref b36), .val (.int (1 : Int32)), .val (.int s2), .val (.int e2), .unset] [(.int s2), (.ref b35), (.ref b36)])) _
    refine XS.iload X41.here hx rfl (hb hby at_100) rfl ?_
    show Steps p.tables e below (T41.setTop (mkF m 102 #[.val (.int p0), .val (.int p1), .val (.int p2), .val (.int p3), .val (.int p4), .val (.ref b34), .val (.ref b35), .val (.ref b36), .val (.int (1 : Int32)), .val (.int s2), .val (.int e2), .unset] [(.int e2), (.int s2), (.ref b35), (.ref b36)])) _
    refine st42.trans ?_
    show Steps p.tables e below (T42.setTop (mkF m 105 #[.val (.int p0), .val (.int p1), .val (.int p2), .val (.int p3), .val (.int p4), .val (.ref b34), .val (.ref b35), .val (.ref b36), .val (.int (1 : Int32)), .val (.int s2), .val (.int e2), .unset] [])) _
    refine XS.iload X42.here hx rfl (hb hby at_105) rfl ?_
    show Steps p.tables e below (T42.setTop (mkF m 107 #[.val (.int p0), .val (.int p1), .val (.int p2), .val (.int p3), .val (.int p4), .val (.ref b34), .val (.ref b35), .val (.ref b36), .val (.int (1 : Int32)), .val (.int s2), .val (.int e2), .unset] [(.int (1 : Int32))])) _
    refine XS.ifNo X42.here hx rfl (hb hby at_107) rfl ((if0 _ _).trans (feq (by decide : ¬ ((1 : Int32) = (0 : Int32)))).1) ?_
    show Steps p.tables e below (T42.setTop (mkF m 110 #[.val (.int p0), .val (.int p1), .val (.int p2), .val (.int p3), .val (.int p4), .val (.ref b34), .val (.ref b35), .val (.ref b36), .val (.int (1 : Int32)), .val (.int s2), .val (.int e2), .unset] [])) _
    refine XS.aload X42.here hx rfl (hb hby at_110) rfl rfl ?_
    show Steps p.tables e below (T42.setTop (mkF m 112 #[.val (.int p0), .val (.int p1), .val (.int p2), .val (.int p3), .val (.int p4), .val (.ref b34), .val (.ref b35), .val (.ref b36), .val (.int (1 : Int32)), .val (.int s2), .val (.int e2), .unset] [(.ref b36)])) _
    refine st43.trans ?_
    show Steps p.tables e below (T43.setTop (mkF m 115 #[.val (.int p0), .val (.int p1), .val (.int p2), .val (.int p3), .val (.int p4), .val (.ref b34), .val (.ref b35), .val (.ref b36), .val (.int (1 : Int32)), .val (.int s2), .val (.int e2), .unset] [(.ref b35)])) _
    refine XS.aload X43.here hx rfl (hb hby at_115) rfl rfl ?_
    show Steps p.tables e below (T43.setTop (mkF m 117 #[.val (.int p0), .val (.int p1), .val (.int p2), .val (.int p3), .val (.int p4), .val (.ref b34), .val (.ref b35), .val (.ref b36), .val (.int (1 : Int32)), .val (.int s2), .val (.int e2), .unset] [(.ref b35), (.ref b35)])) _
    refine Jvm.RoadKit.acmp (g := (mkF m 117 #[.val (.int p0), .val (.int p1), .val (.int p2), .val (.int p3), .val (.int p4), .val (.ref b34), .val (.ref b35), .val (.ref b36), .val (.int (1 : Int32)), .val (.int s2), .val (.int e2), .unset] [(.ref b35), (.ref b35)])) X43 hx rfl rfl rfl (pc0 := 117) (pc' := 120) (same := true) rfl (hb hby at_117) rfl (decide_eq_true rfl) (by decide) (by decide) ?_
    show Steps p.tables e below (T43.setTop (mkF m 120 #[.val (.int p0), .val (.int p1), .val (.int p2), .val (.int p3), .val (.int p4), .val (.ref b34), .val (.ref b35), .val (.ref b36), .val (.int (1 : Int32)), .val (.int s2), .val (.int e2), .unset] [])) _
    refine XS.aload X43.here hx rfl (hb hby at_120) rfl rfl ?_
    show Steps p.tables e below (T43.setTop (mkF m 122 #[.val (.int p0), .val (.int p1), .val (.int p2), .val (.int p3), .val (.int p4), .val (.ref b34), .val (.ref b35), .val (.ref b36), .val (.int (1 : Int32)), .val (.int s2), .val (.int e2), .unset] [(.ref b36)])) _
    refine st44.trans ?_
    show Steps p.tables e below (T44.setTop (mkF m 125 #[.val (.int p0), .val (.int p1), .val (.int p2), .val (.int p3), .val (.int p4), .val (.ref b34), .val (.ref b35), .val (.ref b36), .val (.int (1 : Int32)), .val (.int s2), .val (.int e2), .unset] [(.int s2)])) _
    refine XS.iload X44.here hx rfl (hb hby at_125) rfl ?_
    show Steps p.tables e below (T44.setTop (mkF m 127 #[.val (.int p0), .val (.int p1), .val (.int p2), .val (.int p3), .val (.int p4), .val (.ref b34), .val (.ref b35), .val (.ref b36), .val (.int (1 : Int32)), .val (.int s2), .val (.int e2), .unset] [(.int s2), (.int s2)])) _
    refine XS.icmpNo X44.here hx rfl (hb hby at_127) rfl (teq (rfl : s2 = s2)).2 ?_
    show Steps p.tables e below (T44.setTop (mkF m 130 #[.val (.int p0), .val (.int p1), .val (.int p2), .val (.int p3), .val (.int p4), .val (.ref b34), .val (.ref b35), .val (.ref b36), .val (.int (1 : Int32)), .val (.int s2), .val (.int e2), .unset] [])) _
    refine XS.aload X44.here hx rfl (hb hby at_130) rfl rfl ?_
    show Steps p.tables e below (T44.setTop (mkF m 132 #[.val (.int p0), .val (.int p1), .val (.int p2), .val (.int p3), .val (.int p4), .val (.ref b34), .val (.ref b35), .val (.ref b36), .val (.int (1 : Int32)), .val (.int s2), .val (.int e2), .unset] [(.ref b36)])) _
    refine st45.trans ?_
    show Steps p.tables e below (T45.setTop (mkF m 135 #[.val (.int p0), .val (.int p1), .val (.int p2), .val (.int p3), .val (.int p4), .val (.ref b34), .val (.ref b35), .val (.ref b36), .val (.int (1 : Int32)), .val (.int s2), .val (.int e2), .unset] [(.int e2)])) _
    refine XS.iload X45.here hx rfl (hb hby at_135) rfl ?_
    show Steps p.tables e below (T45.setTop (mkF m 137 #[.val (.int p0), .val (.int p1), .val (.int p2), .val (.int p3), .val (.int p4), .val (.ref b34), .val (.ref b35), .val (.ref b36), .val (.int (1 : Int32)), .val (.int s2), .val (.int e2), .unset] [(.int e2), (.int e2)])) _
    refine XS.icmpNo X45.here hx rfl (hb hby at_137) rfl (teq (rfl : e2 = e2)).2 ?_
    show Steps p.tables e below (T45.setTop (mkF m 140 #[.val (.int p0), .val (.int p1), .val (.int p2), .val (.int p3), .val (.int p4), .val (.ref b34), .val (.ref b35), .val (.ref b36), .val (.int (1 : Int32)), .val (.int s2), .val (.int e2), .unset] [])) _
    refine XS.iconst X45.here hx rfl (hb hby at_140) ?_
    show Steps p.tables e below (T45.setTop (mkF m 141 #[.val (.int p0), .val (.int p1), .val (.int p2), .val (.int p3), .val (.int p4), .val (.ref b34), .val (.ref b35), .val (.ref b36), .val (.int (1 : Int32)), .val (.int s2), .val (.int e2), .unset] [(.int (1 : Int32))])) _
    refine XS.goto X45.here hx rfl (pc0 := 141) (pc' := 145) rfl (hb hby at_141) (by decide) (by decide) ?_
    show Steps p.tables e below (T45.setTop (mkF m 145 #[.val (.int p0), .val (.int p1), .val (.int p2), .val (.int p3), .val (.int p4), .val (.ref b34), .val (.ref b35), .val (.ref b36), .val (.int (1 : Int32)), .val (.int s2), .val (.int e2), .unset] [(.int (1 : Int32))])) _
    refine XS.istore X45.here hx rfl (hb hby at_145) rfl (l' := #[.val (.int p0), .val (.int p1), .val (.int p2), .val (.int p3), .val (.int p4), .val (.ref b34), .val (.ref b35), .val (.ref b36), .val (.int (1 : Int32)), .val (.int s2), .val (.int e2), .unset]) rfl ?_
    show Steps p.tables e below (T45.setTop (mkF m 147 #[.val (.int p0), .val (.int p1), .val (.int p2), .val (.int p3), .val (.int p4), .val (.ref b34), .val (.ref b35), .val (.ref b36), .val (.int (1 : Int32)), .val (.int s2), .val (.int e2), .unset] [])) _
    refine XS.iload X45.here hx rfl (hb hby at_147) rfl ?_
    show Steps p.tables e below (T45.setTop (mkF m 149 #[.val (.int p0), .val (.int p1), .val (.int p2), .val (.int p3), .val (.int p4), .val (.ref b34), .val (.ref b35), .val (.ref b36), .val (.int (1 : Int32)), .val (.int s2), .val (.int e2), .unset] [(.int p4)])) _
    refine XS.bipush X45.here hx rfl (hb hby at_149) ?_
    show Steps p.tables e below (T45.setTop (mkF m 151 #[.val (.int p0), .val (.int p1), .val (.int p2), .val (.int p3), .val (.int p4), .val (.ref b34), .val (.ref b35), .val (.ref b36), .val (.int (1 : Int32)), .val (.int s2), .val (.int e2), .unset] [(.int (16 : Int32)), (.int p4)])) _
    refine XS.iushr X45.here hx rfl (hb hby at_151) rfl ?_
    show Steps p.tables e below (T45.setTop (mkF m 152 #[.val (.int p0), .val (.int p1), .val (.int p2), .val (.int p3), .val (.int p4), .val (.ref b34), .val (.ref b35), .val (.ref b36), .val (.int (1 : Int32)), .val (.int s2), .val (.int e2), .unset] [(.int ((p4.toUInt32 >>> ((16 : Int32) &&& 31).toUInt32).toInt32))])) _
    refine XS.sipush X45.here hx rfl (hb hby at_152) ?_
    show Steps p.tables e below (T45.setTop (mkF m 155 #[.val (.int p0), .val (.int p1), .val (.int p2), .val (.int p3), .val (.int p4), .val (.ref b34), .val (.ref b35), .val (.ref b36), .val (.int (1 : Int32)), .val (.int s2), .val (.int e2), .unset] [(.int (255 : Int32)), (.int ((p4.toUInt32 >>> ((16 : Int32) &&& 31).toUInt32).toInt32))])) _
    refine XS.iand X45.here hx rfl (hb hby at_155) rfl ?_
    show Steps p.tables e below (T45.setTop (mkF m 156 #[.val (.int p0), .val (.int p1), .val (.int p2), .val (.int p3), .val (.int p4), .val (.ref b34), .val (.ref b35), .val (.ref b36), .val (.int (1 : Int32)), .val (.int s2), .val (.int e2), .unset] [(.int (((p4.toUInt32 >>> ((16 : Int32) &&& 31).toUInt32).toInt32) &&& (255 : Int32)))])) _
    refine XS.iconst X45.here hx rfl (hb hby at_156) ?_
    show Steps p.tables e below (T45.setTop (mkF m 157 #[.val (.int p0), .val (.int p1), .val (.int p2), .val (.int p3), .val (.int p4), .val (.ref b34), .val (.ref b35), .val (.ref b36), .val (.int (1 : Int32)), .val (.int s2), .val (.int e2), .unset] [(.int (4 : Int32)), (.int (((p4.toUInt32 >>> ((16 : Int32) &&& 31).toUInt32).toInt32) &&& (255 : Int32)))])) _
    refine iremM X45 hx rfl (hb hby at_157) rfl (by decide) ?_
    rw [hi3]
    show Steps p.tables e below (T45.setTop (mkF m 158 #[.val (.int p0), .val (.int p1), .val (.int p2), .val (.int p3), .val (.int p4), .val (.ref b34), .val (.ref b35), .val (.ref b36), .val (.int (1 : Int32)), .val (.int s2), .val (.int e2), .unset] [(.int i3)])) _
    refine XS.istore X45.here hx rfl (hb hby at_158) rfl (l' := #[.val (.int p0), .val (.int p1), .val (.int p2), .val (.int p3), .val (.int p4), .val (.ref b34), .val (.ref b35), .val (.ref b36), .val (.int (1 : Int32)), .val (.int s2), .val (.int e2), .val (.int i3)]) rfl ?_
    show Steps p.tables e below (T45.setTop (mkF m 160 #[.val (.int p0), .val (.int p1), .val (.int p2), .val (.int p3), .val (.int p4), .val (.ref b34), .val (.ref b35), .val (.ref b36), .val (.int (1 : Int32)), .val (.int s2), .val (.int e2), .val (.int i3)] [])) _
    refine XS.iload X45.here hx rfl (hb hby at_160) rfl ?_
    show Steps p.tables e below (T45.setTop (mkF m 162 #[.val (.int p0), .val (.int p1), .val (.int p2), .val (.int p3), .val (.int p4), .val (.ref b34), .val (.ref b35), .val (.ref b36), .val (.int (1 : Int32)), .val (.int s2), .val (.int e2), .val (.int i3)] [(.int i3)])) _
    refine XS.iload X45.here hx rfl (hb hby at_162) rfl ?_
    show Steps p.tables e below (T45.setTop (mkF m 164 #[.val (.int p0), .val (.int p1), .val (.int p2), .val (.int p3), .val (.int p4), .val (.ref b34), .val (.ref b35), .val (.ref b36), .val (.int (1 : Int32)), .val (.int s2), .val (.int e2), .val (.int i3)] [(.int e2), (.int i3)])) _
    refine XS.iload X45.here hx rfl (hb hby at_164) rfl ?_
    show Steps p.tables e below (T45.setTop (mkF m 166 #[.val (.int p0), .val (.int p1), .val (.int p2), .val (.int p3), .val (.int p4), .val (.ref b34), .val (.ref b35), .val (.ref b36), .val (.int (1 : Int32)), .val (.int s2), .val (.int e2), .val (.int i3)] [(.int s2), (.int e2), (.int i3)])) _
    refine XS.isub X45.here hx rfl (hb hby at_166) rfl ?_
    show Steps p.tables e below (T45.setTop (mkF m 167 #[.val (.int p0), .val (.int p1), .val (.int p2), .val (.int p3), .val (.int p4), .val (.ref b34), .val (.ref b35), .val (.ref b36), .val (.int (1 : Int32)), .val (.int s2), .val (.int e2), .val (.int i3)] [(.int (e2 - s2)), (.int i3)])) _
    refine XS.icmpNo X45.here hx rfl (hb hby at_167) rfl (tlt (hi1 : i3 < (e2 - s2))).2.1 ?_
    show Steps p.tables e below (T45.setTop (mkF m 170 #[.val (.int p0), .val (.int p1), .val (.int p2), .val (.int p3), .val (.int p4), .val (.ref b34), .val (.ref b35), .val (.ref b36), .val (.int (1 : Int32)), .val (.int s2), .val (.int e2), .val (.int i3)] [])) _
    refine XS.iload X45.here hx rfl (hb hby at_170) rfl ?_
    show Steps p.tables e below (T45.setTop (mkF m 172 #[.val (.int p0), .val (.int p1), .val (.int p2), .val (.int p3), .val (.int p4), .val (.ref b34), .val (.ref b35), .val (.ref b36), .val (.int (1 : Int32)), .val (.int s2), .val (.int e2), .val (.int i3)] [(.int (1 : Int32))])) _
    refine XS.ifNo X45.here hx rfl (hb hby at_172) rfl ((if0 _ _).trans (feq (by decide : ¬ ((1 : Int32) = (0 : Int32)))).1) ?_
    show Steps p.tables e below (T45.setTop (mkF m 175 #[.val (.int p0), .val (.int p1), .val (.int p2), .val (.int p3), .val (.int p4), .val (.ref b34), .val (.ref b35), .val (.ref b36), .val (.int (1 : Int32)), .val (.int s2), .val (.int e2), .val (.int i3)] [])) _
    refine XS.aload X45.here hx rfl (hb hby at_175) rfl rfl ?_
    show Steps p.tables e below (T45.setTop (mkF m 177 #[.val (.int p0), .val (.int p1), .val (.int p2), .val (.int p3), .val (.int p4), .val (.ref b34), .val (.ref b35), .val (.ref b36), .val (.int (1 : Int32)), .val (.int s2), .val (.int e2), .val (.int i3)] [(.ref b36)])) _
    refine XS.iload X45.here hx rfl (hb hby at_177) rfl ?_
    show Steps p.tables e below (T45.setTop (mkF m 179 #[.val (.int p0), .val (.int p1), .val (.int p2), .val (.int p3), .val (.int p4), .val (.ref b34), .val (.ref b35), .val (.ref b36), .val (.int (1 : Int32)), .val (.int s2), .val (.int e2), .val (.int i3)] [(.int i3), (.ref b36)])) _
    refine st47.trans ?_
    show Steps p.tables e below (T47.setTop (mkF m 182 #[.val (.int p0), .val (.int p1), .val (.int p2), .val (.int p3), .val (.int p4), .val (.ref b34), .val (.ref b35), .val (.ref b36), .val (.int (1 : Int32)), .val (.int s2), .val (.int e2), .val (.int i3)] [(.int (nar .char (bb35_o46.toUInt32.toUInt16.toUInt32.toInt32)))])) _
    refine XS.aload X47.here hx rfl (hb hby at_182) rfl rfl ?_
    show Steps p.tables e below (T47.setTop (mkF m 184 #[.val (.int p0), .val (.int p1), .val (.int p2), .val (.int p3), .val (.int p4), .val (.ref b34), .val (.ref b35), .val (.ref b36), .val (.int (1 : Int32)), .val (.int s2), .val (.int e2), .val (.int i3)] [(.ref b35), (.int (nar .char (bb35_o46.toUInt32.toUInt16.toUInt32.toInt32)))])) _
    refine XS.iload X47.here hx rfl (hb hby at_184) rfl ?_
    show Steps p.tables e below (T47.setTop (mkF m 186 #[.val (.int p0), .val (.int p1), .val (.int p2), .val (.int p3), .val (.int p4), .val (.ref b34), .val (.ref b35), .val (.ref b36), .val (.int (1 : Int32)), .val (.int s2), .val (.int e2), .val (.int i3)] [(.int s2), (.ref b35), (.int (nar .char (bb35_o46.toUInt32.toUInt16.toUInt32.toInt32)))])) _
    refine XS.iload X47.here hx rfl (hb hby at_186) rfl ?_
    show Steps p.tables e below (T47.setTop (mkF m 188 #[.val (.int p0), .val (.int p1), .val (.int p2), .val (.int p3), .val (.int p4), .val (.ref b34), .val (.ref b35), .val (.ref b36), .val (.int (1 : Int32)), .val (.int s2), .val (.int e2), .val (.int i3)] [(.int i3), (.int s2), (.ref b35), (.int (nar .char (bb35_o46.toUInt32.toUInt16.toUInt32.toInt32)))])) _
    refine XS.iadd X47.here hx rfl (hb hby at_188) rfl ?_
    show Steps p.tables e below (T47.setTop (mkF m 189 #[.val (.int p0), .val (.int p1), .val (.int p2), .val (.int p3), .val (.int p4), .val (.ref b34), .val (.ref b35), .val (.ref b36), .val (.int (1 : Int32)), .val (.int s2), .val (.int e2), .val (.int i3)] [(.int (s2 + i3)), (.ref b35), (.int (nar .char (bb35_o46.toUInt32.toUInt16.toUInt32.toInt32)))])) _
    refine X47.baloadBytes hx (j := (s2 + i3)) (v := (.int bb35_o46)) (by rw [e47]; exact Ar_b35_o46.1) (State.isArrayOf_alike hZ.alike Ar_b35_o46.2.1) Ar_b35_o46.2.2 hinb35_o46 hatb35_o46 (g := (mkF m 189 #[.val (.int p0), .val (.int p1), .val (.int p2), .val (.int p3), .val (.int p4), .val (.ref b34), .val (.ref b35), .val (.ref b36), .val (.int (1 : Int32)), .val (.int s2), .val (.int e2), .val (.int i3)] [(.int (s2 + i3)), (.ref b35), (.int (nar .char (bb35_o46.toUInt32.toUInt16.toUInt32.toInt32)))])) rfl rfl (hb hby at_189) _ ?_
    show Steps p.tables e below (T47.setTop (mkF m 190 #[.val (.int p0), .val (.int p1), .val (.int p2), .val (.int p3), .val (.int p4), .val (.ref b34), .val (.ref b35), .val (.ref b36), .val (.int (1 : Int32)), .val (.int s2), .val (.int e2), .val (.int i3)] [(.int bb35_o46), (.int (nar .char (bb35_o46.toUInt32.toUInt16.toUInt32.toInt32)))])) _
    refine XS.i2c X47.here hx rfl (hb hby at_190) rfl ?_
    show Steps p.tables e below (T47.setTop (mkF m 191 #[.val (.int p0), .val (.int p1), .val (.int p2), .val (.int p3), .val (.int p4), .val (.ref b34), .val (.ref b35), .val (.ref b36), .val (.int (1 : Int32)), .val (.int s2), .val (.int e2), .val (.int i3)] [(.int (bb35_o46.toUInt32.toUInt16.toUInt32.toInt32)), (.int (nar .char (bb35_o46.toUInt32.toUInt16.toUInt32.toInt32)))])) _
    refine XS.icmpNo X47.here hx rfl (hb hby at_191) rfl (teq (own_narc bb35_o46 : (nar .char (bb35_o46.toUInt32.toUInt16.toUInt32.toInt32)) = (bb35_o46.toUInt32.toUInt16.toUInt32.toInt32))).2 ?_
    show Steps p.tables e below (T47.setTop (mkF m 194 #[.val (.int p0), .val (.int p1), .val (.int p2), .val (.int p3), .val (.int p4), .val (.ref b34), .val (.ref b35), .val (.ref b36), .val (.int (1 : Int32)), .val (.int s2), .val (.int e2), .val (.int i3)] [])) _
    refine XS.iconst X47.here hx rfl (hb hby at_194) ?_
    show Steps p.tables e below (T47.setTop (mkF m 195 #[.val (.int p0), .val (.int p1), .val (.int p2), .val (.int p3), .val (.int p4), .val (.ref b34), .val (.ref b35), .val (.ref b36), .val (.int (1 : Int32)), .val (.int s2), .val (.int e2), .val (.int i3)] [(.int (1 : Int32))])) _
    refine XS.goto X47.here hx rfl (pc0 := 195) (pc' := 199) rfl (hb hby at_195) (by decide) (by decide) ?_
    show Steps p.tables e below (T47.setTop (mkF m 199 #[.val (.int p0), .val (.int p1), .val (.int p2), .val (.int p3), .val (.int p4), .val (.ref b34), .val (.ref b35), .val (.ref b36), .val (.int (1 : Int32)), .val (.int s2), .val (.int e2), .val (.int i3)] [(.int (1 : Int32))])) _
    refine XS.istore X47.here hx rfl (hb hby at_199) rfl (l' := #[.val (.int p0), .val (.int p1), .val (.int p2), .val (.int p3), .val (.int p4), .val (.ref b34), .val (.ref b35), .val (.ref b36), .val (.int (1 : Int32)), .val (.int s2), .val (.int e2), .val (.int i3)]) rfl ?_
    show Steps p.tables e below (T47.setTop (mkF m 201 #[.val (.int p0), .val (.int p1), .val (.int p2), .val (.int p3), .val (.int p4), .val (.ref b34), .val (.ref b35), .val (.ref b36), .val (.int (1 : Int32)), .val (.int s2), .val (.int e2), .val (.int i3)] [])) _
    refine XS.iload X47.here hx rfl (hb hby at_201) rfl ?_
    show Steps p.tables e below (T47.setTop (mkF m 203 #[.val (.int p0), .val (.int p1), .val (.int p2), .val (.int p3), .val (.int p4), .val (.ref b34), .val (.ref b35), .val (.ref b36), .val (.int (1 : Int32)), .val (.int s2), .val (.int e2), .val (.int i3)] [(.int (1 : Int32))])) _
    exact retN X47 hx (t := .boolean) Bd.returns (by simp) (hb hby at_203) hr
  · show (own_Q1 n0) _ T47.heap _
    rw [e47]
    exact ⟨rfl, N47⟩
theorem own_arith (r s2 e2 i3 : Int32) (hs2 : (r &&& (255 : Int32)) % (5 : Int32) = s2) (he2 : s2 + (((r.toUInt32 >>> ((8 : Int32) &&& 31).toUInt32).toInt32) &&& (255 : Int32)) % ((5 : Int32) - s2) = e2) (hi3 : (((r.toUInt32 >>> ((16 : Int32) &&& 31).toUInt32).toInt32) &&& (255 : Int32)) % (4 : Int32) = i3) :
    ((5 : Int32) - s2 ≠ 0) ∧ ¬ (i3 < (0 : Int32)) ∧ (i3 < e2 - s2 → ¬ (s2 + i3) < 0 ∧ (s2 + i3) < 4) := by
  have a1 := c_and r 255 (by decide)
  have a2 := c_and ((r.toUInt32 >>> ((8 : Int32) &&& 31).toUInt32).toInt32) 255 (by decide)
  have a3 := c_and ((r.toUInt32 >>> ((16 : Int32) &&& 31).toUInt32).toInt32) 255 (by decide)
  have v5 : (5 : Int32).toInt = 5 := by decide
  have v4 : (4 : Int32).toInt = 4 := by decide
  have v0 : (0 : Int32).toInt = 0 := by decide
  have m1 := (c_iremV (r &&& (255 : Int32)) 5).1 a1.1 (by decide)
  have m3 := (c_iremV (((r.toUInt32 >>> ((16 : Int32) &&& 31).toUInt32).toInt32) &&& (255 : Int32)) 4).1 a3.1 (by decide)
  rw [hs2] at m1
  rw [hi3] at m3
  have d1 := c_isub 5 s2
  have d1r := rng32 ((5 : Int32) - s2)
  have d1v : ((5 : Int32) - s2).toInt = 5 - s2.toInt := by omega
  have m2 := (c_iremV (((r.toUInt32 >>> ((8 : Int32) &&& 31).toUInt32).toInt32) &&& (255 : Int32)) ((5 : Int32) - s2)).1 a2.1 (by omega)
  generalize (((r.toUInt32 >>> ((8 : Int32) &&& 31).toUInt32).toInt32) &&& (255 : Int32)) % ((5 : Int32) - s2) = t at m2 he2
  have d2 := c_iadd s2 t
  rw [he2] at d2
  have r2 := rng32 e2
  have d3 := c_isub e2 s2
  have r3 := rng32 (e2 - s2)
  have d4 := c_iadd s2 i3
  have r4 := rng32 (s2 + i3)
  have e2v : e2.toInt = s2.toInt + t.toInt := by omega
  simp only [Int32.lt_iff_toInt_lt]
  refine ⟨fun q => ?_, by omega, fun q => ⟨by omega, by omega⟩⟩
  rw [q] at d1v
  omega
set_option maxRecDepth 65536 in
set_option maxHeartbeats 40000000 in
theorem comes_1 {Post : Tables → Env → Array Value → State → Outcome → State → Prop} (hpost : ∀ tb e args s v u, (limb_1_1.after args s (.returned v) u = true ∧ limb_1_2.after args s (.returned v) u = true ∧ True) → FrameEnd s (.returned v) u (Jvm.fieldLocs frame_1_writes args s ++ Jvm.arrayLocs frame_1_arrays args s ++ Jvm.staticLocs frame_1_statics s) 16 128 → Post tb e args s (.returned v) u) :
    ArmFor flags0 classFile x code maxLocals ret World_1 tables_1 room_1 Calls_1 rest_1 Pre_1 Post := by
  intro l hfl _ _ p e ha hc hk s m args below hf hA hF happ hP
  obtain ⟨hcalls, hrest, hpre⟩ := hP
  obtain ⟨-, -, -, hnamed, -, -, -, hat⟩ := (Spec.applies_iff hf).mp happ
  obtain ⟨hg, hn⟩ := and_e (Cond.before_iff.mp (show (Jvm.Cond.and given_1 narrow_1).before args s = true from hpre))
  obtain ⟨hgc, hg0⟩ := and_e hg
  obtain ⟨ga0, hg1⟩ := and_e hg0
  obtain ⟨ga1, hg2⟩ := and_e hg1
  obtain ⟨ga2, hg3⟩ := and_e hg2
  obtain ⟨ga3, hg4⟩ := and_e hg3
  have ga4 := hg4
  obtain ⟨w0, w1, w2, w3, w4, rfl⟩ : ∃ w0 w1 w2 w3 w4 : Value, args = #[w0, w1, w2, w3, w4] := by
    have hs : args.size = 5 := by simpa [Cond.value, given_1] using hgc
    obtain ⟨L⟩ := args
    match L, hs with
    | [w0, w1, w2, w3, w4], _ => exact ⟨w0, w1, w2, w3, w4, rfl⟩
  have hw := fun d (hd : d ∈ tables_1) => atoms_spec (ws := Jvm.Cond.code x code maxLocals ret :: tables_1) hat d (List.mem_cons_of_mem _ hd)
  have hfit : Fit s := fun {y c} hc i hi => by
    obtain ⟨ha, rfl⟩ := Array.getElem?_eq_some_iff.mp hc
    have q := List.all_eq_true.mp ((Array.all_eq_true_iff_forall_mem.mp hF) _ (Array.getElem_mem ha)) i (List.mem_range.mpr hi)
    simpa [Array.getElem?_eq_getElem hi] using q
  obtain ⟨i0, ei0⟩ := is_v ga0
  obtain rfl : w0 = (.int i0) := Option.some.inj ei0
  obtain ⟨i1, ei1⟩ := is_v ga1
  obtain rfl : w1 = (.int i1) := Option.some.inj ei1
  obtain ⟨i2, ei2⟩ := is_v ga2
  obtain rfl : w2 = (.int i2) := Option.some.inj ei2
  obtain ⟨i3, ei3⟩ := is_v ga3
  obtain rfl : w3 = (.int i3) := Option.some.inj ei3
  obtain ⟨i4, ei4⟩ := is_v ga4
  obtain rfl : w4 = (.int i4) := Option.some.inj ei4
  obtain ⟨j3, hj3⟩ : ∃ z, z = i3 := ⟨_, rfl⟩
  subst hj3
  obtain ⟨s2, hs2⟩ : ∃ z, (i4 &&& (255 : Int32)) % (5 : Int32) = z := ⟨_, rfl⟩
  obtain ⟨e2, he2⟩ : ∃ z, s2 + (((i4.toUInt32 >>> ((8 : Int32) &&& 31).toUInt32).toInt32) &&& (255 : Int32)) % ((5 : Int32) - s2) = z := ⟨_, rfl⟩
  obtain ⟨i3, hi3⟩ : ∃ z, (((i4.toUInt32 >>> ((16 : Int32) &&& 31).toUInt32).toInt32) &&& (255 : Int32)) % (4 : Int32) = z := ⟨_, rfl⟩
  obtain ⟨hnz, hi0, hidx⟩ := own_arith i4 s2 e2 i3 hs2 he2 hi3
  have hmet : Met l s tables_1 x code maxLocals ret room_1 #[(.int i0), (.int i1), (.int i2), (.int j3), (.int i4)] s.heap (own_Q1 s.heap.size) := by
    by_cases hi1 : i3 < e2 - s2
    · exact own_law_b l s _ hw i0 i1 i2 j3 i4 s2 e2 i3 s.heap s.heap.size (Nat.le_refl _) hs2 hnz he2 hi3 hi0 hi1 (hidx hi1)
    · exact own_law_a l s _ hw i0 i1 i2 j3 i4 s2 e2 i3 s.heap s.heap.size (Nat.le_refl _) hs2 hnz he2 hi3 hi1
  obtain ⟨n, o, h1, h2, h3, _, L, rfl, ⟨rfl, N⟩, hq⟩ := hmet p e ha hc hk s m _ below hf ((Spec.applies_iff_loose hf).mp happ).1 ⟨rfl, State.Warmed39.refl s, rfl⟩ trivial
  refine ⟨n, _, h1, h2, h3, hpost _ _ _ _ _ _ ⟨Cond.after_iff.mpr rfl, Cond.after_iff.mpr (eq_i res_at (Term.int_eval (1)) rfl), trivial⟩ ⟨hq.1, hq.2.1, (hq.2.2.sift fun y hy => Or.inr (N y hy)).mono (by decide) (by decide)⟩⟩
theorem main_1_1 : Claimed_1_1 := comes_1 fun _ _ _ _ _ _ h hF => ⟨h.1, hF⟩
theorem main_1_2 : Claimed_1_2 := comes_1 fun _ _ _ _ _ _ h hF => ⟨h.2.1, hF⟩
end Jvm.Pilot.@@N@@
namespace Jvm.Pilot.@@N@@
open Jvm Jvm.ClassFile Sem Op Lib Jvm.Free Jvm.Stand Jvm.Pilot.@@N@@.Jvm.D
/-! MADE BY PROGRAM (witnessworld.py) out of the Statement's table words and the real class files: 13 classes; the members and pool entries that the words name. The judged class is class 1, her method 2. -/
namespace start1
open Jvm.ClassFile
def u (s : String) : CpInfo := .utf8 (stringToUtf16 s)
/-- a pool by its gaps: so many unusable entries, then the entry; so many at the end -/
def gap : Nat → List CpInfo → List CpInfo
  | 0, r => r
  | n + 1, r => .unusable :: gap n r
def poolList (es : List (Nat × CpInfo)) (last : Nat) : List CpInfo := es.foldr (fun e r => gap e.1 (e.2 :: r)) (gap last [])
def pool (es : List (Nat × CpInfo)) (last : Nat) : Array CpInfo := ⟨poolList es last⟩
def fileOf (pool : Array CpInfo) (this : Nat) (attrs : Array Attribute := #[]) (ms : Array MethodInfo := #[]) (fl : Nat := 33) (sup : Nat := 0) (ifs : Array Nat := #[]) (fds : Array FieldInfo := #[]) : ClassFile where
  minorVersion := 0
  majorVersion := 65
  constantPool := pool
  accessFlags := fl
  thisClass := this
  superClass := sup
  interfaces := ifs
  fields := fds
  methods := ms
  attributes := attrs
def plain (name : String) (sup : Option ClassId) : Class where
  name := name
  kind := .ordinary
  loader := none
  accessFlags := 33
  super := sup
  interfaces := #[]
  cf := none
  fields := #[]
  methods := #[]
  instanceTypes := #[]
  staticTypes := #[]
  resolved := #[]
  callSites := []
  init := .initialized
  statics := none
  mirror := none

def pool0 : Array CpInfo := pool [(5, u "<init>"), (0, u "()V"), (1, .class_ 10), (1, u "java/lang/Object")] 113

def k0c0 : Code := { maxStack := 0, maxLocals := 1, code := object_method_1_code, exceptionTable := #[], attributes := #[] }
def k0m0 : Method := { name := "<init>", desc := "()V", sig := { parameters := [], returnType := none }, accessFlags := 1, code := some k0c0 }
/-- java/lang/Object -/
def k0 : Class := { plain "java/lang/Object" none with
  accessFlags := 33
  interfaces := #[]
  cf := some (fileOf pool0 8 #[] #[{ accessFlags := 1, nameIndex := 5, descriptorIndex := 6, attributes := #[] }] 33 0 #[] #[])
  fields := #[]
  methods := #[k0m0]
  instanceTypes := #[]
  staticTypes := #[]
  resolved := Array.replicate 124 none
  statics := none }

def pool1 : Array CpInfo := pool [(2, .class_ 4), (0, .nameAndType 5 6), (0, u "java/lang/Object"), (0, u "<init>"), (0, u "()V"), (0, .methodref 8 9), (0, .class_ 10), (0, .nameAndType 11 12), (0, u "com/example/ledgermatch/ledgermatch/ViewPointPinLaw"), (0, u "four"), (0, u "(I)[B"), (0, .class_ 14), (0, u "com/example/ledgermatch/ledgermatch/AsciiText$View"), (0, .methodref 13 3), (0, .methodref 13 17), (0, .nameAndType 18 19), (0, u "point"), (0, u "([BII)V"), (0, .methodref 13 21), (0, .nameAndType 22 23), (0, u "bytes"), (0, u "()[B"), (0, .methodref 13 25), (0, .nameAndType 26 27), (0, u "start"), (0, u "()I"), (0, .methodref 13 29), (0, .nameAndType 30 27), (0, u "end"), (0, .methodref 13 32), (0, .nameAndType 33 34), (0, u "charAt"), (0, u "(I)C"), (2, u "law"), (0, u "(IIIII)Z")] 9

def k1m0 : Method := { name := "<init>", desc := "()V", sig := { parameters := [], returnType := none }, accessFlags := 2, code := none }
def k1c1 : Code := { maxStack := 4, maxLocals := 2, code := method_2_code, exceptionTable := #[], attributes := #[] }
def k1m1 : Method := { name := "four", desc := "(I)[B", sig := { parameters := [.int], returnType := some (.array .byte) }, accessFlags := 10, code := some k1c1 }
def k1c2 : Code := { maxStack := 4, maxLocals := 12, code := code, exceptionTable := #[], attributes := #[] }
def k1m2 : Method := { name := "law", desc := "(IIIII)Z", sig := { parameters := [.int, .int, .int, .int, .int], returnType := some .boolean }, accessFlags := 9, code := some k1c2 }
/-- com/example/ledgermatch/ledgermatch/ViewPointPinLaw -/
def k1 : Class := { plain "com/example/ledgermatch/ledgermatch/ViewPointPinLaw" (some 0) with
  accessFlags := 49
  interfaces := #[]
  cf := some (fileOf pool1 8 #[] #[{ accessFlags := 2, nameIndex := 5, descriptorIndex := 6, attributes := #[] }, { accessFlags := 10, nameIndex := 11, descriptorIndex := 12, attributes := #[] }, { accessFlags := 9, nameIndex := 37, descriptorIndex := 38, attributes := #[] }] 49 2 #[] #[])
  fields := #[]
  methods := #[k1m0, k1m1, k1m2]
  instanceTypes := #[]
  staticTypes := #[]
  resolved := Array.replicate 48 none
  statics := none }

def pool2 : Array CpInfo := pool [(2, .class_ 4), (1, u "java/lang/CharSequence"), (42, .class_ 48), (0, u "java/lang/CharSequence$1CodePointIterator"), (10, .class_ 60), (0, u "java/lang/CharSequence$1CharIterator"), (5, .class_ 67), (0, u "java/lang/Object")] 63

/-- java/lang/CharSequence -/
def k2 : Class := { plain "java/lang/CharSequence" (some 0) with
  accessFlags := 1537
  interfaces := #[]
  cf := some (fileOf pool2 2 #[.nestMembers #[47, 59]] #[] 1537 66 #[] #[])
  fields := #[]
  methods := #[]
  instanceTypes := #[]
  staticTypes := #[]
  resolved := Array.replicate 131 none
  statics := none }

def pool3 : Array CpInfo := pool [(1, .interfaceMethodref 2 3), (0, .class_ 4), (0, .nameAndType 5 6), (0, u "com/example/ledgermatch/ledgermatch/AsciiText"), (0, u "end"), (0, u "()I"), (0, .interfaceMethodref 2 8), (0, .nameAndType 9 6), (0, u "start"), (0, .interfaceMethodref 2 11), (0, .nameAndType 12 13), (0, u "bytes"), (0, u "()[B"), (0, .interfaceMethodref 2 15), (0, .nameAndType 16 6), (0, u "length"), (0, .methodref 18 19), (0, .class_ 20), (0, .nameAndType 21 22), (0, u "java/util/Objects"), (0, u "checkIndex"), (0, u "(II)I"), (20, .class_ 44), (0, u "java/lang/Object"), (0, .class_ 46), (0, u "java/lang/CharSequence"), (2, u "charAt"), (0, u "(I)C"), (5, .class_ 57), (0, u "com/example/ledgermatch/ledgermatch/AsciiText$View")] 2

def k3m0 : Method := { name := "bytes", desc := "()[B", sig := { parameters := [], returnType := some (.array .byte) }, accessFlags := 1025, code := none }
def k3m1 : Method := { name := "start", desc := "()I", sig := { parameters := [], returnType := some .int }, accessFlags := 1025, code := none }
def k3m2 : Method := { name := "end", desc := "()I", sig := { parameters := [], returnType := some .int }, accessFlags := 1025, code := none }
def k3c3 : Code := { maxStack := 2, maxLocals := 1, code := prog_20_method_4_code, exceptionTable := #[], attributes := #[] }
def k3m3 : Method := { name := "length", desc := "()I", sig := { parameters := [], returnType := some .int }, accessFlags := 1, code := some k3c3 }
def k3c4 : Code := { maxStack := 4, maxLocals := 2, code := prog_20_method_5_code, exceptionTable := #[], attributes := #[] }
def k3m4 : Method := { name := "charAt", desc := "(I)C", sig := { parameters := [.int], returnType := some .char }, accessFlags := 1, code := some k3c4 }
/-- com/example/ledgermatch/ledgermatch/AsciiText -/
def k3 : Class := { plain "com/example/ledgermatch/ledgermatch/AsciiText" (some 0) with
  accessFlags := 1536
  interfaces := #[2]
  cf := some (fileOf pool3 2 #[.nestMembers #[56]] #[{ accessFlags := 1025, nameIndex := 12, descriptorIndex := 13, attributes := #[] }, { accessFlags := 1025, nameIndex := 9, descriptorIndex := 6, attributes := #[] }, { accessFlags := 1025, nameIndex := 5, descriptorIndex := 6, attributes := #[] }, { accessFlags := 1, nameIndex := 16, descriptorIndex := 6, attributes := #[] }, { accessFlags := 1, nameIndex := 49, descriptorIndex := 50, attributes := #[] }] 1536 43 #[45] #[])
  fields := #[]
  methods := #[k3m0, k3m1, k3m2, k3m3, k3m4]
  instanceTypes := #[]
  staticTypes := #[]
  resolved := Array.replicate 60 none
  statics := none }

def pool4 : Array CpInfo := pool [(1, .methodref 2 3), (0, .class_ 4), (0, .nameAndType 5 6), (0, u "java/lang/Object"), (0, u "<init>"), (0, u "()V"), (0, .fieldref 8 9), (0, .class_ 10), (0, .nameAndType 11 12), (0, u "com/example/ledgermatch/ledgermatch/AsciiText$View"), (0, u "bytes"), (0, u "[B"), (0, .fieldref 8 14), (0, .nameAndType 15 16), (0, u "start"), (0, u "I"), (0, .fieldref 8 18), (0, .nameAndType 19 16), (0, u "end"), (1, .class_ 23), (1, u "com/example/ledgermatch/ledgermatch/AsciiText"), (4, u "point"), (0, u "([BII)V"), (0, u "()[B"), (0, u "()I")] 7

def k4c0 : Code := { maxStack := 2, maxLocals := 1, code := prog_21_method_1_code, exceptionTable := #[], attributes := #[] }
def k4m0 : Method := { name := "<init>", desc := "()V", sig := { parameters := [], returnType := none }, accessFlags := 1, code := some k4c0 }
def k4c1 : Code := { maxStack := 2, maxLocals := 4, code := prog_21_method_2_code, exceptionTable := #[], attributes := #[] }
def k4m1 : Method := { name := "point", desc := "([BII)V", sig := { parameters := [(.array .byte), .int, .int], returnType := none }, accessFlags := 0, code := some k4c1 }
def k4c2 : Code := { maxStack := 1, maxLocals := 1, code := prog_21_method_3_code, exceptionTable := #[], attributes := #[] }
def k4m2 : Method := { name := "bytes", desc := "()[B", sig := { parameters := [], returnType := some (.array .byte) }, accessFlags := 1, code := some k4c2 }
def k4c3 : Code := { maxStack := 1, maxLocals := 1, code := prog_21_method_4_code, exceptionTable := #[], attributes := #[] }
def k4m3 : Method := { name := "start", desc := "()I", sig := { parameters := [], returnType := some .int }, accessFlags := 1, code := some k4c3 }
def k4c4 : Code := { maxStack := 1, maxLocals := 1, code := prog_21_method_5_code, exceptionTable := #[], attributes := #[] }
def k4m4 : Method := { name := "end", desc := "()I", sig := { parameters := [], returnType := some .int }, accessFlags := 1, code := some k4c4 }
/-- com/example/ledgermatch/ledgermatch/AsciiText$View -/
def k4 : Class := { plain "com/example/ledgermatch/ledgermatch/AsciiText$View" (some 0) with
  accessFlags := 49
  interfaces := #[3]
  cf := some (fileOf pool4 8 #[.nestHost 21] #[{ accessFlags := 1, nameIndex := 5, descriptorIndex := 6, attributes := #[] }, { accessFlags := 0, nameIndex := 28, descriptorIndex := 29, attributes := #[] }, { accessFlags := 1, nameIndex := 11, descriptorIndex := 30, attributes := #[] }, { accessFlags := 1, nameIndex := 15, descriptorIndex := 31, attributes := #[] }, { accessFlags := 1, nameIndex := 19, descriptorIndex := 31, attributes := #[] }] 49 2 #[21] #[{ accessFlags := 2, nameIndex := 11, descriptorIndex := 12, attributes := #[] }, { accessFlags := 2, nameIndex := 15, descriptorIndex := 16, attributes := #[] }, { accessFlags := 2, nameIndex := 19, descriptorIndex := 16, attributes := #[] }])
  fields := #[{ name := "bytes", type := (.array .byte), accessFlags := 2, slot := 0, constantValue := 0 }, { name := "start", type := .int, accessFlags := 2, slot := 1, constantValue := 0 }, { name := "end", type := .int, accessFlags := 2, slot := 2, constantValue := 0 }]
  methods := #[k4m0, k4m1, k4m2, k4m3, k4m4]
  instanceTypes := #[(.array .byte), .int, .int]
  staticTypes := #[]
  resolved := Array.replicate 39 none
  statics := none }

def pool5 : Array CpInfo := pool [(2, .class_ 4), (1, u "java/lang/Object"), (0, u "<init>"), (0, u "()V"), (35, .class_ 44), (1, u "java/util/Objects"), (60, .methodref 106 107), (0, .class_ 108), (0, .nameAndType 109 110), (0, u "jdk/internal/util/Preconditions"), (0, u "checkIndex"), (0, u "(IILjava/util/function/BiFunction;)I"), (60, u "(II)I")] 12

def k5m0 : Method := { name := "<init>", desc := "()V", sig := { parameters := [], returnType := none }, accessFlags := 2, code := none }
def k5c1 : Code := { maxStack := 3, maxLocals := 2, code := jdk_31_method_17_code, exceptionTable := #[], attributes := #[] }
def k5m1 : Method := { name := "checkIndex", desc := "(II)I", sig := { parameters := [.int, .int], returnType := some .int }, accessFlags := 9, code := some k5c1 }
/-- java/util/Objects -/
def k5 : Class := { plain "java/util/Objects" (some 0) with
  accessFlags := 49
  interfaces := #[]
  cf := some (fileOf pool5 42 #[] #[{ accessFlags := 2, nameIndex := 5, descriptorIndex := 6, attributes := #[] }, { accessFlags := 9, nameIndex := 109, descriptorIndex := 171, attributes := #[] }] 49 2 #[] #[])
  fields := #[]
  methods := #[k5m0, k5m1]
  instanceTypes := #[]
  staticTypes := #[]
  resolved := Array.replicate 184 none
  statics := none }

def pool6 : Array CpInfo := pool [(2, .class_ 4), (1, u "java/lang/Object"), (0, u "<init>"), (0, u "()V"), (17, .class_ 26), (1, u "jdk/internal/util/Preconditions"), (6, u "checkIndex"), (21, .class_ 56), (0, u "jdk/internal/util/Preconditions$4"), (57, .class_ 115), (0, u "jdk/internal/util/Preconditions$1"), (7, u "SIOOBE_FORMATTER"), (0, u "Ljava/util/function/BiFunction;"), (0, .class_ 126), (0, u "jdk/internal/util/Preconditions$2"), (3, u "AIOOBE_FORMATTER"), (0, .class_ 132), (0, u "jdk/internal/util/Preconditions$3"), (3, u "IOOBE_FORMATTER"), (41, u "(IILjava/util/function/BiFunction;)I")] 15

def k6m0 : Method := { name := "<init>", desc := "()V", sig := { parameters := [], returnType := none }, accessFlags := 1, code := none }
def k6c1 : Code := { maxStack := 3, maxLocals := 3, code := jdk_41_method_11_code, exceptionTable := #[], attributes := #[] }
def k6m1 : Method := { name := "checkIndex", desc := "(IILjava/util/function/BiFunction;)I", sig := { parameters := [.int, .int, (.object "java/util/function/BiFunction")], returnType := some .int }, accessFlags := 9, code := some k6c1 }
/-- jdk/internal/util/Preconditions -/
def k6 : Class := { plain "jdk/internal/util/Preconditions" (some 0) with
  accessFlags := 33
  interfaces := #[]
  cf := some (fileOf pool6 24 #[.nestMembers #[55, 131, 125, 114]] #[{ accessFlags := 1, nameIndex := 5, descriptorIndex := 6, attributes := #[] }, { accessFlags := 9, nameIndex := 33, descriptorIndex := 178, attributes := #[] }] 33 2 #[] #[{ accessFlags := 25, nameIndex := 123, descriptorIndex := 124, attributes := #[] }, { accessFlags := 25, nameIndex := 130, descriptorIndex := 124, attributes := #[] }, { accessFlags := 25, nameIndex := 136, descriptorIndex := 124, attributes := #[] }])
  fields := #[{ name := "SIOOBE_FORMATTER", type := (.object "java/util/function/BiFunction"), accessFlags := 25, slot := 0, constantValue := 0 }, { name := "AIOOBE_FORMATTER", type := (.object "java/util/function/BiFunction"), accessFlags := 25, slot := 1, constantValue := 0 }, { name := "IOOBE_FORMATTER", type := (.object "java/util/function/BiFunction"), accessFlags := 25, slot := 2, constantValue := 0 }]
  methods := #[k6m0, k6m1]
  instanceTypes := #[]
  staticTypes := #[(.object "java/util/function/BiFunction"), (.object "java/util/function/BiFunction"), (.object "java/util/function/BiFunction")]
  resolved := Array.replicate 194 none
  statics := none }

def pool7 : Array CpInfo := pool [(1, u "java/lang/Cloneable"), (0, .class_ 1), (0, u "java/lang/Object"), (0, .class_ 3)] 3

/-- java/lang/Cloneable -/
def k7 : Class := { plain "java/lang/Cloneable" (some 0) with
  accessFlags := 1537
  interfaces := #[]
  cf := some (fileOf pool7 2 #[] #[] 1537 4 #[] #[])
  fields := #[]
  methods := #[]
  instanceTypes := #[]
  staticTypes := #[]
  resolved := Array.replicate 8 none
  statics := none }

def pool8 : Array CpInfo := pool [(1, u "java/io/Serializable"), (0, .class_ 1), (0, u "java/lang/Object"), (0, .class_ 3)] 3

/-- java/io/Serializable -/
def k8 : Class := { plain "java/io/Serializable" (some 0) with
  accessFlags := 1537
  interfaces := #[]
  cf := some (fileOf pool8 2 #[] #[] 1537 4 #[] #[])
  fields := #[]
  methods := #[]
  instanceTypes := #[]
  staticTypes := #[]
  resolved := Array.replicate 8 none
  statics := none }

/-- the primitive byte -/
def k9 : Class := { plain "byte" none with kind := .primitive 'B', accessFlags := 0x411 }
/-- [B -/
def k10 : Class := { plain "[B" (some 0) with kind := .array 9 .byte, interfaces := #[7, 8], accessFlags := 1041 }

/-- the primitive int -/
def k11 : Class := { plain "int" none with kind := .primitive 'I', accessFlags := 0x411 }
/-- [I -/
def k12 : Class := { plain "[I" (some 0) with kind := .array 11 .int, interfaces := #[7, 8], accessFlags := 1041 }

def heap : Heap := #[]
def classes : Array Class := #[k0, k1, k2, k3, k4, k5, k6, k7, k8, k9, k10, k11, k12]
def interned : List (Array UInt16 × Addr) := []
def slotsUsed : Nat := 0
def theMethod : MethodId := ⟨1, 2⟩
def args0 : Array Value := #[.int 1, .int 2, .int 3, .int 4, .int 5]
def aboutOver (below : List Frame) : State where
  vm := { classes := classes, interned := interned.toArray }
  heap := heap
  slotsUsed := slotsUsed
  threads := #[{ frames := .invoking theMethod args0 :: below }]
def below0 : List Frame := [.native { method := ⟨0, 0⟩, args := #[] }]
def about1 : State := aboutOver below0
def p0 : Program := .bare "" "" ""
def e0 : Env := launch0.env 0 0 0
theorem w_frames : about1.frames = Frame.invoking theMethod args0 :: below0 := rfl
set_option maxRecDepth 65536 in
theorem w_args : argsFit about1.vm theMethod args0 = true := by decide +kernel
set_option maxRecDepth 65536 in
theorem w_heap : heapFits about1 = true := by decide +kernel
set_option maxRecDepth 65536 in
theorem w_runnable : about1.curStatus? = some .runnable := by decide +kernel
set_option maxRecDepth 65536 in
theorem w_alone : about1.alone = true := by decide +kernel
set_option maxRecDepth 65536 in
theorem w_named : about1.methodNamed? x = some theMethod := by decide +kernel
set_option maxRecDepth 65536 in
theorem w_hears : about1.hears theMethod below0 = true := by decide +kernel
set_option maxRecDepth 65536 in
theorem w_ripe : about1.ripe theMethod args0 below0 = true := by decide +kernel
theorem w_running : about1.status = .running := rfl
set_option maxRecDepth 65536 in
theorem w_room : about1.hasRoom e0.platform room_1 = true :=
  launch0.hasRoom_least _ room_1 (by decide +kernel) (by decide +kernel) (by decide +kernel) (by decide +kernel) (by decide +kernel) (by decide +kernel)
theorem allAtoms_all (ts : List Jvm.Cond) (a : Array Jvm.Value) (st : Jvm.State) : (allAtoms ts).before a st = ts.all (fun c => c.before a st) := by
  induction ts with
  | nil => rfl
  | cons c t ih =>
    show (Jvm.Cond.and c (allAtoms t)).before a st = _
    rw [Jvm.Cond.before_and, ih, List.all_cons]
def words1 : List Jvm.Cond := Jvm.Cond.code x code maxLocals ret :: tables_1
/-- a 'code' word, met by the world's own term for the bytes: nothing is compared byte by byte -/
theorem code_word {y : MethodName} {bytes : ByteArray} {mx : Nat} {rt : Option FieldType} {a : Array Value} {s : State} {m : MethodId} {meth : Method} {c : Code} (h1 : s.methodNamed? y = some m) (h2 : s.vm.method? m = some meth) (h3 : meth.code = some c) (h4 : c.code = bytes)
    (h5 : (c.maxLocals == mx && c.exceptionTable.isEmpty && decide (c.maxStack ≤ mostOperands) && decide (meth.sig.returnType = rt) && !meth.locks && decide (parseMethodDescriptor y.desc = some meth.sig)) = true) : (Jvm.Cond.code y bytes mx rt).before a s = true := by
  simp only [Bool.and_eq_true, beq_iff_eq, Bool.not_eq_true', decide_eq_true_eq] at h5
  obtain ⟨⟨⟨⟨⟨g1, g2⟩, g3⟩, g4⟩, g5⟩, g6⟩ := h5
  simp [Cond.before, Cond.holds, Cond.value, h1, h2, h3, h4, g1, g2, g3, g4, g5, g6]
def isCode : Jvm.Cond → Bool
  | .code _ _ _ _ => true
  | _ => false
theorem all_split {L : List Jvm.Cond} {P : Jvm.Cond → Bool} (h1 : L.all (fun c => isCode c || P c) = true) (h2 : ∀ c ∈ L.filter isCode, P c = true) : L.all P = true := by
  refine List.all_eq_true.mpr fun c hc => ?_
  have h := List.all_eq_true.mp h1 c hc
  rcases Bool.eq_false_or_eq_true (isCode c) with hi | hi
  · exact h2 c (List.mem_filter.mpr ⟨hc, hi⟩)
  · simpa [hi] using h
set_option maxRecDepth 65536 in
theorem w_c0 : (Jvm.Cond.code x code maxLocals ret).before args0 about1 = true := code_word (m := ⟨1, 2⟩) (meth := k1m2) (c := k1c2) (by decide +kernel) rfl rfl rfl (by decide +kernel)
set_option maxRecDepth 65536 in
theorem w_c1 : (Jvm.Cond.code ({ cls := "com/example/ledgermatch/ledgermatch/ViewPointPinLaw", name := "four", desc := "(I)[B" } : Jvm.MethodName) method_2_code (2 : Nat) (Option.some (Jvm.ClassFile.FieldType.array Jvm.ClassFile.FieldType.byte))).before args0 about1 = true := code_word (m := ⟨1, 1⟩) (meth := k1m1) (c := k1c1) (by decide +kernel) rfl rfl rfl (by decide +kernel)
set_option maxRecDepth 65536 in
theorem w_c2 : (Jvm.Cond.code ({ cls := "com/example/ledgermatch/ledgermatch/AsciiText$View", name := "<init>", desc := "()V" } : Jvm.MethodName) prog_21_method_1_code (1 : Nat) (Option.none : Option Jvm.ClassFile.FieldType)).before args0 about1 = true := code_word (m := ⟨4, 0⟩) (meth := k4m0) (c := k4c0) (by decide +kernel) rfl rfl rfl (by decide +kernel)
set_option maxRecDepth 65536 in
theorem w_c3 : (Jvm.Cond.code ({ cls := "java/lang/Object", name := "<init>", desc := "()V" } : Jvm.MethodName) object_method_1_code (1 : Nat) (Option.none : Option Jvm.ClassFile.FieldType)).before args0 about1 = true := code_word (m := ⟨0, 0⟩) (meth := k0m0) (c := k0c0) (by decide +kernel) rfl rfl rfl (by decide +kernel)
set_option maxRecDepth 65536 in
theorem w_c4 : (Jvm.Cond.code ({ cls := "com/example/ledgermatch/ledgermatch/AsciiText$View", name := "point", desc := "([BII)V" } : Jvm.MethodName) prog_21_method_2_code (4 : Nat) (Option.none : Option Jvm.ClassFile.FieldType)).before args0 about1 = true := code_word (m := ⟨4, 1⟩) (meth := k4m1) (c := k4c1) (by decide +kernel) rfl rfl rfl (by decide +kernel)
set_option maxRecDepth 65536 in
theorem w_c5 : (Jvm.Cond.code ({ cls := "com/example/ledgermatch/ledgermatch/AsciiText$View", name := "bytes", desc := "()[B" } : Jvm.MethodName) prog_21_method_3_code (1 : Nat) (Option.some (Jvm.ClassFile.FieldType.array Jvm.ClassFile.FieldType.byte))).before args0 about1 = true := code_word (m := ⟨4, 2⟩) (meth := k4m2) (c := k4c2) (by decide +kernel) rfl rfl rfl (by decide +kernel)
set_option maxRecDepth 65536 in
theorem w_c6 : (Jvm.Cond.code ({ cls := "com/example/ledgermatch/ledgermatch/AsciiText$View", name := "start", desc := "()I" } : Jvm.MethodName) prog_21_method_4_code (1 : Nat) (Option.some Jvm.ClassFile.FieldType.int)).before args0 about1 = true := code_word (m := ⟨4, 3⟩) (meth := k4m3) (c := k4c3) (by decide +kernel) rfl rfl rfl (by decide +kernel)
set_option maxRecDepth 65536 in
theorem w_c7 : (Jvm.Cond.code ({ cls := "com/example/ledgermatch/ledgermatch/AsciiText$View", name := "end", desc := "()I" } : Jvm.MethodName) prog_21_method_5_code (1 : Nat) (Option.some Jvm.ClassFile.FieldType.int)).before args0 about1 = true := code_word (m := ⟨4, 4⟩) (meth := k4m4) (c := k4c4) (by decide +kernel) rfl rfl rfl (by decide +kernel)
set_option maxRecDepth 65536 in
theorem w_c8 : (Jvm.Cond.code ({ cls := "com/example/ledgermatch/ledgermatch/AsciiText", name := "charAt", desc := "(I)C" } : Jvm.MethodName) prog_20_method_5_code (2 : Nat) (Option.some Jvm.ClassFile.FieldType.char)).before args0 about1 = true := code_word (m := ⟨3, 4⟩) (meth := k3m4) (c := k3c4) (by decide +kernel) rfl rfl rfl (by decide +kernel)
set_option maxRecDepth 65536 in
theorem w_c9 : (Jvm.Cond.code ({ cls := "com/example/ledgermatch/ledgermatch/AsciiText", name := "length", desc := "()I" } : Jvm.MethodName) prog_20_method_4_code (1 : Nat) (Option.some Jvm.ClassFile.FieldType.int)).before args0 about1 = true := code_word (m := ⟨3, 3⟩) (meth := k3m3) (c := k3c3) (by decide +kernel) rfl rfl rfl (by decide +kernel)
set_option maxRecDepth 65536 in
theorem w_c10 : (Jvm.Cond.code ({ cls := "java/util/Objects", name := "checkIndex", desc := "(II)I" } : Jvm.MethodName) jdk_31_method_17_code (2 : Nat) (Option.some Jvm.ClassFile.FieldType.int)).before args0 about1 = true := code_word (m := ⟨5, 1⟩) (meth := k5m1) (c := k5c1) (by decide +kernel) rfl rfl rfl (by decide +kernel)
set_option maxRecDepth 65536 in
theorem w_c11 : (Jvm.Cond.code ({ cls := "jdk/internal/util/Preconditions", name := "checkIndex", desc := "(IILjava/util/function/BiFunction;)I" } : Jvm.MethodName) jdk_41_method_11_code (3 : Nat) (Option.some Jvm.ClassFile.FieldType.int)).before args0 about1 = true := code_word (m := ⟨6, 1⟩) (meth := k6m1) (c := k6c1) (by decide +kernel) rfl rfl rfl (by decide +kernel)
def codes1 : List Jvm.Cond := [Jvm.Cond.code x code maxLocals ret, Jvm.Cond.code ({ cls := "com/example/ledgermatch/ledgermatch/ViewPointPinLaw", name := "four", desc := "(I)[B" } : Jvm.MethodName) method_2_code (2 : Nat) (Option.some (Jvm.ClassFile.FieldType.array Jvm.ClassFile.FieldType.byte)), Jvm.Cond.code ({ cls := "com/example/ledgermatch/ledgermatch/AsciiText$View", name := "<init>", desc := "()V" } : Jvm.MethodName) prog_21_method_1_code (1 : Nat) (Option.none : Option Jvm.ClassFile.FieldType), Jvm.Cond.code ({ cls := "java/lang/Object", name := "<init>", desc := "()V" } : Jvm.MethodName) object_method_1_code (1 : Nat) (Option.none : Option Jvm.ClassFile.FieldType), Jvm.Cond.code ({ cls := "com/example/ledgermatch/ledgermatch/AsciiText$View", name := "point", desc := "([BII)V" } : Jvm.MethodName) prog_21_method_2_code (4 : Nat) (Option.none : Option Jvm.ClassFile.FieldType), Jvm.Cond.code ({ cls := "com/example/ledgermatch/ledgermatch/AsciiText$View", name := "bytes", desc := "()[B" } : Jvm.MethodName) prog_21_method_3_code (1 : Nat) (Option.some (Jvm.ClassFile.FieldType.array Jvm.ClassFile.FieldType.byte)), Jvm.Cond.code ({ cls := "com/example/ledgermatch/ledgermatch/AsciiText$View", name := "start", desc := "()I" } : Jvm.MethodName) prog_21_method_4_code (1 : Nat) (Option.some Jvm.ClassFile.FieldType.int), Jvm.Cond.code ({ cls := "com/example/ledgermatch/ledgermatch/AsciiText$View", name := "end", desc := "()I" } : Jvm.MethodName) prog_21_method_5_code (1 : Nat) (Option.some Jvm.ClassFile.FieldType.int), Jvm.Cond.code ({ cls := "com/example/ledgermatch/ledgermatch/AsciiText", name := "charAt", desc := "(I)C" } : Jvm.MethodName) prog_20_method_5_code (2 : Nat) (Option.some Jvm.ClassFile.FieldType.char), Jvm.Cond.code ({ cls := "com/example/ledgermatch/ledgermatch/AsciiText", name := "length", desc := "()I" } : Jvm.MethodName) prog_20_method_4_code (1 : Nat) (Option.some Jvm.ClassFile.FieldType.int), Jvm.Cond.code ({ cls := "java/util/Objects", name := "checkIndex", desc := "(II)I" } : Jvm.MethodName) jdk_31_method_17_code (2 : Nat) (Option.some Jvm.ClassFile.FieldType.int), Jvm.Cond.code ({ cls := "jdk/internal/util/Preconditions", name := "checkIndex", desc := "(IILjava/util/function/BiFunction;)I" } : Jvm.MethodName) jdk_41_method_11_code (3 : Nat) (Option.some Jvm.ClassFile.FieldType.int)]
set_option maxRecDepth 65536 in
theorem codes_eq : words1.filter isCode = codes1 := rfl
theorem w_codes : ∀ c ∈ words1.filter isCode, c.before args0 about1 = true := by
  rw [codes_eq]
  intro c hc
  simp only [codes1, List.mem_cons, List.not_mem_nil, or_false] at hc
  rcases hc with rfl | rfl | rfl | rfl | rfl | rfl | rfl | rfl | rfl | rfl | rfl | rfl
  · exact w_c0
  · exact w_c1
  · exact w_c2
  · exact w_c3
  · exact w_c4
  · exact w_c5
  · exact w_c6
  · exact w_c7
  · exact w_c8
  · exact w_c9
  · exact w_c10
  · exact w_c11
set_option maxRecDepth 65536 in
theorem w_t1 : (words1.take 24).all (fun c => isCode c || c.before args0 about1) = true := by decide +kernel
set_option maxRecDepth 65536 in
theorem w_t2 : ((words1.drop 24).take 24).all (fun c => isCode c || c.before args0 about1) = true := by decide +kernel
set_option maxRecDepth 65536 in
theorem w_t3 : (((words1.drop 24).drop 24).take 24).all (fun c => isCode c || c.before args0 about1) = true := by decide +kernel
set_option maxRecDepth 65536 in
theorem w_t4 : (((words1.drop 24).drop 24).drop 24).all (fun c => isCode c || c.before args0 about1) = true := by decide +kernel
theorem w_tables : (allAtoms (Jvm.Cond.code x code maxLocals ret :: tables_1)).before args0 about1 = true := by
  rw [allAtoms_all]
  show words1.all (fun c => c.before args0 about1) = true
  refine all_split ?_ w_codes
  rw [← List.take_append_drop 24 words1, List.all_append, w_t1, ← List.take_append_drop 24 (words1.drop 24), List.all_append, w_t2, ← List.take_append_drop 24 ((words1.drop 24).drop 24), List.all_append, w_t3, w_t4]
  rfl
set_option maxRecDepth 65536 in
theorem w_case : (Jvm.Cond.and given_1 narrow_1).before args0 about1 = true := by decide +kernel
theorem w_applies : (headSpec (Jvm.Cond.code x code maxLocals ret :: tables_1) room_1).applies x e0.platform about1 = true :=
  (Spec.applies_iff w_frames).mpr ⟨w_running, w_runnable, w_alone, w_named, w_hears, w_ripe, w_room, w_tables⟩
theorem atStart : AtStart classFile x code maxLocals ret World_1 tables_1 room_1 Calls_1 rest_1 Pre_1 launch0 p0 e0 about1 theMethod args0 below0 :=
  ⟨lists_1, trivial, launch0.admits_env _ _ _, launch0.least_env, fairChoices_fair.cas, fairChoices_fair.clock, w_frames, w_args, w_heap, w_applies, trivial, trivial, w_case⟩
end start1
theorem witness_1 : WitnessClaimed_1 := ⟨start1.p0, start1.e0, start1.about1, start1.theMethod, start1.args0, start1.below0, start1.atStart⟩
end Jvm.Pilot.@@N@@
