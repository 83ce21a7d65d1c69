import JvmDerived
import JvmDerived.Pilot.@@N@@Statement
import JvmDerived.Pilot.@@N@@Code
set_option linter.unusedVariables false
set_option linter.unusedSimpArgs false
namespace Jvm.RoadKit
open Sem ClassFile Op Lib Jvm.Stand Jvm.Free Jvm.LawKit
section New
variable {p : Program} {l : Launch} {e : Env} {R : Room} {s : State} {m : MethodId} {args : Array Value} {below : List Frame} {meth : Method} {c : Code} {T : State} {locs : List Loc} {cells slots : Nat}
theorem retI (X : Stand p l e R s m args below meth c T locs cells slots) (hx : p.tables.exec = Jvm.exec) {pc : Nat} {Ls : Array Slot} {z : Int32} {rest : List Value} (hret : meth.sig.returnType = some .int) (hd : decode c.code pc = .ok (.ireturn, 1)) {fs : List Frame}
    (hl : ∀ (f : JFrame) (acts : List Action), f.method = m → f.locked = none → f.entered = [] → (doReturn e (T.setTop f) acts (some (.int z))).1 = T.setFrames fs) : Steps p.tables e below (T.setTop (mkF m pc Ls (.int z :: rest))) (T.setFrames fs) := by
  have hm' : T.vm.method? m = some meth := X.method'
  have hn : narrow .int (.int z) = .int z := rfl
  show Steps p.tables e below (T.setTop { method := m, pc := pc, locals := Ls, stack := _ :: rest, locked := none }) _
  jvm_step X.here [X.here.top, hx, hd, hm', hret, hn]
  first | (intro acts; rw [hl _ acts rfl rfl rfl]) | rw [hl _ _ rfl rfl rfl]
  exact Steps.refl _
end New
end Jvm.RoadKit
namespace Jvm.Pilot.@@N@@
open Jvm Jvm.ClassFile Sem Op Lib Jvm.Free Jvm.Stand Jvm.LawKit Jvm.RoadKit Bundle Jvm.Pilot.@@N@@.Jvm.D
/-- the contract of one body, as this text says it: from the heap h0 over the tables of Z it returns as Q says -/
abbrev Met (l : Launch) (Z : State) (ws : List Jvm.Cond) (y : MethodName) (bytes : ByteArray) (ml : Nat) (rt : Option FieldType) (rm : Room) (as' : Array Value) (h0 : Heap) (Q : Option Value → Heap → List Loc → Prop) : Prop :=
  MetFree l y (head1 (Jvm.Cond.code y bytes ml rt :: ws) rm) (fun a U => a = as' ∧ Z.Warmed39 U.vm ∧ U.heap = h0) (fun _ _ _ _ _ => True) (fun _ U o U' => ∃ v L, o = .returned v ∧ Q v U'.heap L ∧ FrameEnd U o U' L rm.cells rm.slots)
/-- it returns r and leaves the heap as it was -/
def QP (r : Option Value) (h0 : Heap) (n0 : Nat) (v : Option Value) (h : Heap) (L : List Loc) : Prop := v = r ∧ Fr n0 L ∧ h = h0
/-- is the sign one of '0'..'9', 'a'..'f' -/
def own_hx (b : Int32) : Int32 := if (¬ b < 48 ∧ ¬ 57 < b) ∨ (¬ b < 97 ∧ ¬ 102 < b) then 1 else 0
/-- what the table holds at a place -/
def own_dg (b : Int32) : Int32 := if b < 0 then -1 else if b < 48 then -1 else if b < 58 then b - 48 else if b < 97 then -1 else if b < 103 then b - 87 else -1
def own_okv (i f t b : Int32) : Int32 := if i < f ∨ ¬ i < t ∨ ¬ own_hx b = 0 then 1 else 0
def own_bad (f t : Int32) (B : Nat → Int32) : Prop := ∃ j : Nat, f.toInt ≤ j ∧ (j : Int) < t.toInt ∧ own_hx (B j) = 0
theorem own_hx01 (b : Int32) : own_hx b = 0 ∨ own_hx b = 1 := by unfold own_hx; split <;> simp
theorem own_dg_neg (b : Int32) : own_dg b < 0 ↔ own_hx b = 0 := by
  have e48 : (48 : Int32).toInt = 48 := by decide
  have e57 : (57 : Int32).toInt = 57 := by decide
  have e58 : (58 : Int32).toInt = 58 := by decide
  have e97 : (97 : Int32).toInt = 97 := by decide
  have e102 : (102 : Int32).toInt = 102 := by decide
  have e103 : (103 : Int32).toInt = 103 := by decide
  have e87 : (87 : Int32).toInt = 87 := by decide
  have e0 : (0 : Int32).toInt = 0 := by decide
  have s48 := c_isub b 48
  have s87 := c_isub b 87
  have r1 := rng32 (b - 48)
  have r2 := rng32 (b - 87)
  rw [e48] at s48
  rw [e87] at s87
  have neg : ∀ P : Prop, [Decidable P] → ¬ P → ((-1 : Int32) < 0 ↔ (if P then (1 : Int32) else 0) = 0) := fun P _ h => by rw [if_neg h]; exact ⟨fun _ => rfl, fun _ => by decide⟩
  have pos : ∀ (P : Prop) (z : Int32), [Decidable P] → P → 0 ≤ z.toInt → (z < 0 ↔ (if P then (1 : Int32) else 0) = 0) := fun P z _ h hz => by
    rw [if_pos h, Int32.lt_iff_toInt_lt]; exact ⟨fun q => by rw [e0] at q; omega, fun q => absurd q (by decide)⟩
  unfold own_dg own_hx
  by_cases h1 : b < 0
  · rw [if_pos h1]; apply neg; simp only [Int32.lt_iff_toInt_lt, e48, e57, e97, e102, e0] at h1 ⊢; omega
  rw [if_neg h1]
  by_cases h2 : b < 48
  · rw [if_pos h2]; apply neg; simp only [Int32.lt_iff_toInt_lt, e48, e57, e97, e102, e0] at h2 ⊢; omega
  rw [if_neg h2]
  by_cases h3 : b < 58
  · rw [if_pos h3]; apply pos <;> simp only [Int32.lt_iff_toInt_lt, e48, e57, e58, e97, e102, e0] at h2 h3 ⊢ <;> omega
  rw [if_neg h3]
  by_cases h4 : b < 97
  · rw [if_pos h4]; apply neg; simp only [Int32.lt_iff_toInt_lt, e48, e57, e58, e97, e102, e0] at h3 h4 ⊢; omega
  rw [if_neg h4]
  by_cases h5 : b < 103
  · rw [if_pos h5]; apply pos <;> simp only [Int32.lt_iff_toInt_lt, e48, e57, e97, e102, e103, e0] at h4 h5 ⊢ <;> omega
  · rw [if_neg h5]; apply neg; simp only [Int32.lt_iff_toInt_lt, e48, e57, e97, e102, e103, e0] at h4 h5 ⊢; omega
theorem own_or_neg (x y : Int32) : (x ||| y) < 0 ↔ x < 0 ∨ y < 0 := by
  have k : ∀ z : Int32, z < 0 ↔ z.toBitVec.msb = true := fun z => by
    rw [Int32.lt_iff_toInt_lt]
    show z.toBitVec.toInt < 0 ↔ _
    rw [BitVec.msb_eq_toInt]; simp
  rw [k, k, k]
  show (x.toBitVec ||| y.toBitVec).msb = true ↔ _
  rw [BitVec.msb_or]; simp
theorem own_d_m2_0 : decode method_2_code 0 = .ok (.iload_n 0, 1) := by decide +kernel
theorem own_d_m2_1 : decode method_2_code 1 = .ok (.bipush 48, 2) := by decide +kernel
theorem own_d_m2_3 : decode method_2_code 3 = .ok (.if_icmp .lt 9, 3) := by decide +kernel
theorem own_d_m2_12 : decode method_2_code 12 = .ok (.iload_n 0, 1) := by decide +kernel
theorem own_d_m2_13 : decode method_2_code 13 = .ok (.bipush 97, 2) := by decide +kernel
theorem own_d_m2_15 : decode method_2_code 15 = .ok (.if_icmp .lt 13, 3) := by decide +kernel
theorem own_d_m2_28 : decode method_2_code 28 = .ok (.iconst 0, 1) := by decide +kernel
theorem own_d_m2_29 : decode method_2_code 29 = .ok (.ireturn, 1) := by decide +kernel
theorem own_ef_0 (m : MethodId) (x0 : Int32) : entryFrame m #[(.int x0)] 1 = mkF m 0 #[.val (.int x0)] [] := by first | (simp [entryFrame, mkF, argsToLocals, Value.category]; done) | rfl
theorem own_pn_0 : plainName "org/antichain/core/EventIdIsLowercaseHexPinLaw" = true := by first | (simp [plainName, overriddenIn]; done) | decide +kernel
set_option maxRecDepth 65536 in
set_option maxHeartbeats 40000000 in
theorem own_hex_tt (l : Launch) (Z : State) (a0 : Array Value) (hw : ∀ d ∈ tables_1, d.before a0 Z = true) (b : Int32)  (h0 : Heap) (n0 : Nat) (Z0 : n0 ≤ h0.size) (hc3 : b < (48 : Int32)) (hc15 : b < (97 : Int32)) :
    Met l Z [] (⟨"org/antichain/core/EventIdIsLowercaseHexPinLaw", "hex", "(B)Z"⟩ : MethodName) method_2_code 1 (some .boolean) ({ frames := 0, cells := 0, slots := 0, locals := 0 } : Room) #[(.int b)] h0 (QP (some (.int (0 : Int32))) h0 n0) := by
  refine MetFree.of_bodySF (plainFor_of_name own_pn_0) hisR ?_
  intro p e s m args below meth c s₁ Bd hml0 hP hK
  obtain ⟨rfl, hZ, hh⟩ := hP
  have hx := Bd.exec
  have hby := Bd.bytes
  have hml : c.maxLocals = 1 := hml0
  have hown : s.vm.findClass "org/antichain/core/EventIdIsLowercaseHexPinLaw" = some m.cls := findClass_of_methodNamed Bd.named
  have hnm := (name_of_methodNamed Bd.named Bd.method).1
  have X0 : Stand p l e ({ frames := 0, cells := 0, slots := 0, locals := 0 } : Room) s m #[(.int b)] below meth c s₁ [] 0 0 := Stand.of_body Bd
  have e0 : s₁.heap = h0 := by rw [← hh, Bd.state]; rfl
  have N0 := Fr.nil n0
  have pre0 : ∀ t_, Steps p.tables e below (s₁.setTop (mkF m 0 #[.val (.int b)] [])) t_ → Steps p.tables e below (s₁.setTop (entryFrame m #[(.int b)] 1)) t_ := fun t_ k_ => castTop (own_ef_0 m b) k_
  obtain ⟨fs, hr, hrun, hended, hW, hsame⟩ := X0.leave (v := some (.int (0 : Int32))) (fun h => by rw [Bd.returns] at h; cases h)
  refine ⟨_, _, pre0 _ ?_, hrun, hended, _, _, rfl, ?_, ⟨_, rfl⟩, hW, hsame.mono (by decide) (by decide)⟩
  · show Steps p.tables e below (s₁.setTop (mkF m 0 #[.val (.int b)] [])) _
    refine XS.iloadN X0.here hx rfl (hb hby own_d_m2_0) rfl ?_
    show Steps p.tables e below (s₁.setTop (mkF m 1 #[.val (.int b)] [(.int b)])) _
    refine XS.bipush X0.here hx rfl (hb hby own_d_m2_1) ?_
    show Steps p.tables e below (s₁.setTop (mkF m 3 #[.val (.int b)] [(.int (48 : Int32)), (.int b)])) _
    refine XS.icmpYes X0.here hx rfl (pc0 := 3) (pc' := 12) rfl (hb hby own_d_m2_3) rfl (tlt hc3).1 (by decide) (by decide) ?_
    show Steps p.tables e below (s₁.setTop (mkF m 12 #[.val (.int b)] [])) _
    refine XS.iloadN X0.here hx rfl (hb hby own_d_m2_12) rfl ?_
    show Steps p.tables e below (s₁.setTop (mkF m 13 #[.val (.int b)] [(.int b)])) _
    refine XS.bipush X0.here hx rfl (hb hby own_d_m2_13) ?_
    show Steps p.tables e below (s₁.setTop (mkF m 15 #[.val (.int b)] [(.int (97 : Int32)), (.int b)])) _
    refine XS.icmpYes X0.here hx rfl (pc0 := 15) (pc' := 28) rfl (hb hby own_d_m2_15) rfl (tlt hc15).1 (by decide) (by decide) ?_
    show Steps p.tables e below (s₁.setTop (mkF m 28 #[.val (.int b)] [])) _
    refine XS.iconst X0.here hx rfl (hb hby own_d_m2_28) ?_
    show Steps p.tables e below (s₁.setTop (mkF m 29 #[.val (.int b)] [(.int (0 : Int32))])) _
    exact retN X0 hx (t := .boolean) Bd.returns (by simp) (hb hby own_d_m2_29) hr
  · show (QP (some (.int (0 : Int32))) h0 n0) _ s₁.heap _
    rw [e0]
    exact ⟨rfl, N0, rfl⟩
theorem own_d_m2_6 : decode method_2_code 6 = .ok (.iload_n 0, 1) := by decide +kernel
theorem own_d_m2_7 : decode method_2_code 7 = .ok (.bipush 57, 2) := by decide +kernel
theorem own_d_m2_9 : decode method_2_code 9 = .ok (.if_icmp .le 15, 3) := by decide +kernel
theorem own_d_m2_24 : decode method_2_code 24 = .ok (.iconst 1, 1) := by decide +kernel
theorem own_d_m2_25 : decode method_2_code 25 = .ok (.goto 4, 3) := by decide +kernel
set_option maxRecDepth 65536 in
set_option maxHeartbeats 40000000 in
theorem own_hex_ft (l : Launch) (Z : State) (a0 : Array Value) (hw : ∀ d ∈ tables_1, d.before a0 Z = true) (b : Int32)  (h0 : Heap) (n0 : Nat) (Z0 : n0 ≤ h0.size) (hc3 : ¬ (b < (48 : Int32))) (hc9 : ¬ ((57 : Int32) < b)) :
    Met l Z [] (⟨"org/antichain/core/EventIdIsLowercaseHexPinLaw", "hex", "(B)Z"⟩ : MethodName) method_2_code 1 (some .boolean) ({ frames := 0, cells := 0, slots := 0, locals := 0 } : Room) #[(.int b)] h0 (QP (some (.int (1 : Int32))) h0 n0) := by
  refine MetFree.of_bodySF (plainFor_of_name own_pn_0) hisR ?_
  intro p e s m args below meth c s₁ Bd hml0 hP hK
  obtain ⟨rfl, hZ, hh⟩ := hP
  have hx := Bd.exec
  have hby := Bd.bytes
  have hml : c.maxLocals = 1 := hml0
  have hown : s.vm.findClass "org/antichain/core/EventIdIsLowercaseHexPinLaw" = some m.cls := findClass_of_methodNamed Bd.named
  have hnm := (name_of_methodNamed Bd.named Bd.method).1
  have X0 : Stand p l e ({ frames := 0, cells := 0, slots := 0, locals := 0 } : Room) s m #[(.int b)] below meth c s₁ [] 0 0 := Stand.of_body Bd
  have e0 : s₁.heap = h0 := by rw [← hh, Bd.state]; rfl
  have N0 := Fr.nil n0
  have pre0 : ∀ t_, Steps p.tables e below (s₁.setTop (mkF m 0 #[.val (.int b)] [])) t_ → Steps p.tables e below (s₁.setTop (entryFrame m #[(.int b)] 1)) t_ := fun t_ k_ => castTop (own_ef_0 m b) k_
  obtain ⟨fs, hr, hrun, hended, hW, hsame⟩ := X0.leave (v := some (.int (1 : Int32))) (fun h => by rw [Bd.returns] at h; cases h)
  refine ⟨_, _, pre0 _ ?_, hrun, hended, _, _, rfl, ?_, ⟨_, rfl⟩, hW, hsame.mono (by decide) (by decide)⟩
  · show Steps p.tables e below (s₁.setTop (mkF m 0 #[.val (.int b)] [])) _
    refine XS.iloadN X0.here hx rfl (hb hby own_d_m2_0) rfl ?_
    show Steps p.tables e below (s₁.setTop (mkF m 1 #[.val (.int b)] [(.int b)])) _
    refine XS.bipush X0.here hx rfl (hb hby own_d_m2_1) ?_
    show Steps p.tables e below (s₁.setTop (mkF m 3 #[.val (.int b)] [(.int (48 : Int32)), (.int b)])) _
    refine XS.icmpNo X0.here hx rfl (hb hby own_d_m2_3) rfl (flt hc3).1 ?_
    show Steps p.tables e below (s₁.setTop (mkF m 6 #[.val (.int b)] [])) _
    refine XS.iloadN X0.here hx rfl (hb hby own_d_m2_6) rfl ?_
    show Steps p.tables e below (s₁.setTop (mkF m 7 #[.val (.int b)] [(.int b)])) _
    refine XS.bipush X0.here hx rfl (hb hby own_d_m2_7) ?_
    show Steps p.tables e below (s₁.setTop (mkF m 9 #[.val (.int b)] [(.int (57 : Int32)), (.int b)])) _
    refine XS.icmpYes X0.here hx rfl (pc0 := 9) (pc' := 24) rfl (hb hby own_d_m2_9) rfl (flt hc9).2.2.2 (by decide) (by decide) ?_
    show Steps p.tables e below (s₁.setTop (mkF m 24 #[.val (.int b)] [])) _
    refine XS.iconst X0.here hx rfl (hb hby own_d_m2_24) ?_
    show Steps p.tables e below (s₁.setTop (mkF m 25 #[.val (.int b)] [(.int (1 : Int32))])) _
    refine XS.goto X0.here hx rfl (pc0 := 25) (pc' := 29) rfl (hb hby own_d_m2_25) (by decide) (by decide) ?_
    show Steps p.tables e below (s₁.setTop (mkF m 29 #[.val (.int b)] [(.int (1 : Int32))])) _
    exact retN X0 hx (t := .boolean) Bd.returns (by simp) (hb hby own_d_m2_29) hr
  · show (QP (some (.int (1 : Int32))) h0 n0) _ s₁.heap _
    rw [e0]
    exact ⟨rfl, N0, rfl⟩
set_option maxRecDepth 65536 in
set_option maxHeartbeats 40000000 in
theorem own_hex_fft (l : Launch) (Z : State) (a0 : Array Value) (hw : ∀ d ∈ tables_1, d.before a0 Z = true) (b : Int32)  (h0 : Heap) (n0 : Nat) (Z0 : n0 ≤ h0.size) (hc3 : ¬ (b < (48 : Int32))) (hc9 : (57 : Int32) < b) (hc15 : b < (97 : Int32)) :
    Met l Z [] (⟨"org/antichain/core/EventIdIsLowercaseHexPinLaw", "hex", "(B)Z"⟩ : MethodName) method_2_code 1 (some .boolean) ({ frames := 0, cells := 0, slots := 0, locals := 0 } : Room) #[(.int b)] h0 (QP (some (.int (0 : Int32))) h0 n0) := by
  refine MetFree.of_bodySF (plainFor_of_name own_pn_0) hisR ?_
  intro p e s m args below meth c s₁ Bd hml0 hP hK
  obtain ⟨rfl, hZ, hh⟩ := hP
  have hx := Bd.exec
  have hby := Bd.bytes
  have hml : c.maxLocals = 1 := hml0
  have hown : s.vm.findClass "org/antichain/core/EventIdIsLowercaseHexPinLaw" = some m.cls := findClass_of_methodNamed Bd.named
  have hnm := (name_of_methodNamed Bd.named Bd.method).1
  have X0 : Stand p l e ({ frames := 0, cells := 0, slots := 0, locals := 0 } : Room) s m #[(.int b)] below meth c s₁ [] 0 0 := Stand.of_body Bd
  have e0 : s₁.heap = h0 := by rw [← hh, Bd.state]; rfl
  have N0 := Fr.nil n0
  have pre0 : ∀ t_, Steps p.tables e below (s₁.setTop (mkF m 0 #[.val (.int b)] [])) t_ → Steps p.tables e below (s₁.setTop (entryFrame m #[(.int b)] 1)) t_ := fun t_ k_ => castTop (own_ef_0 m b) k_
  obtain ⟨fs, hr, hrun, hended, hW, hsame⟩ := X0.leave (v := some (.int (0 : Int32))) (fun h => by rw [Bd.returns] at h; cases h)
  refine ⟨_, _, pre0 _ ?_, hrun, hended, _, _, rfl, ?_, ⟨_, rfl⟩, hW, hsame.mono (by decide) (by decide)⟩
  · show Steps p.tables e below (s₁.setTop (mkF m 0 #[.val (.int b)] [])) _
    refine XS.iloadN X0.here hx rfl (hb hby own_d_m2_0) rfl ?_
    show Steps p.tables e below (s₁.setTop (mkF m 1 #[.val (.int b)] [(.int b)])) _
    refine XS.bipush X0.here hx rfl (hb hby own_d_m2_1) ?_
    show Steps p.tables e below (s₁.setTop (mkF m 3 #[.val (.int b)] [(.int (48 : Int32)), (.int b)])) _
    refine XS.icmpNo X0.here hx rfl (hb hby own_d_m2_3) rfl (flt hc3).1 ?_
    show Steps p.tables e below (s₁.setTop (mkF m 6 #[.val (.int b)] [])) _
    refine XS.iloadN X0.here hx rfl (hb hby own_d_m2_6) rfl ?_
    show Steps p.tables e below (s₁.setTop (mkF m 7 #[.val (.int b)] [(.int b)])) _
    refine XS.bipush X0.here hx rfl (hb hby own_d_m2_7) ?_
    show Steps p.tables e below (s₁.setTop (mkF m 9 #[.val (.int b)] [(.int (57 : Int32)), (.int b)])) _
    refine XS.icmpNo X0.here hx rfl (hb hby own_d_m2_9) rfl (tlt hc9).2.2.2 ?_
    show Steps p.tables e below (s₁.setTop (mkF m 12 #[.val (.int b)] [])) _
    refine XS.iloadN X0.here hx rfl (hb hby own_d_m2_12) rfl ?_
    show Steps p.tables e below (s₁.setTop (mkF m 13 #[.val (.int b)] [(.int b)])) _
    refine XS.bipush X0.here hx rfl (hb hby own_d_m2_13) ?_
    show Steps p.tables e below (s₁.setTop (mkF m 15 #[.val (.int b)] [(.int (97 : Int32)), (.int b)])) _
    refine XS.icmpYes X0.here hx rfl (pc0 := 15) (pc' := 28) rfl (hb hby own_d_m2_15) rfl (tlt hc15).1 (by decide) (by decide) ?_
    show Steps p.tables e below (s₁.setTop (mkF m 28 #[.val (.int b)] [])) _
    refine XS.iconst X0.here hx rfl (hb hby own_d_m2_28) ?_
    show Steps p.tables e below (s₁.setTop (mkF m 29 #[.val (.int b)] [(.int (0 : Int32))])) _
    exact retN X0 hx (t := .boolean) Bd.returns (by simp) (hb hby own_d_m2_29) hr
  · show (QP (some (.int (0 : Int32))) h0 n0) _ s₁.heap _
    rw [e0]
    exact ⟨rfl, N0, rfl⟩
theorem own_d_m2_18 : decode method_2_code 18 = .ok (.iload_n 0, 1) := by decide +kernel
theorem own_d_m2_19 : decode method_2_code 19 = .ok (.bipush 102, 2) := by decide +kernel
theorem own_d_m2_21 : decode method_2_code 21 = .ok (.if_icmp .gt 7, 3) := by decide +kernel
set_option maxRecDepth 65536 in
set_option maxHeartbeats 40000000 in
theorem own_hex_ffft (l : Launch) (Z : State) (a0 : Array Value) (hw : ∀ d ∈ tables_1, d.before a0 Z = true) (b : Int32)  (h0 : Heap) (n0 : Nat) (Z0 : n0 ≤ h0.size) (hc3 : ¬ (b < (48 : Int32))) (hc9 : (57 : Int32) < b) (hc15 : ¬ (b < (97 : Int32))) (hc21 : (102 : Int32) < b) :
    Met l Z [] (⟨"org/antichain/core/EventIdIsLowercaseHexPinLaw", "hex", "(B)Z"⟩ : MethodName) method_2_code 1 (some .boolean) ({ frames := 0, cells := 0, slots := 0, locals := 0 } : Room) #[(.int b)] h0 (QP (some (.int (0 : Int32))) h0 n0) := by
  refine MetFree.of_bodySF (plainFor_of_name own_pn_0) hisR ?_
  intro p e s m args below meth c s₁ Bd hml0 hP hK
  obtain ⟨rfl, hZ, hh⟩ := hP
  have hx := Bd.exec
  have hby := Bd.bytes
  have hml : c.maxLocals = 1 := hml0
  have hown : s.vm.findClass "org/antichain/core/EventIdIsLowercaseHexPinLaw" = some m.cls := findClass_of_methodNamed Bd.named
  have hnm := (name_of_methodNamed Bd.named Bd.method).1
  have X0 : Stand p l e ({ frames := 0, cells := 0, slots := 0, locals := 0 } : Room) s m #[(.int b)] below meth c s₁ [] 0 0 := Stand.of_body Bd
  have e0 : s₁.heap = h0 := by rw [← hh, Bd.state]; rfl
  have N0 := Fr.nil n0
  have pre0 : ∀ t_, Steps p.tables e below (s₁.setTop (mkF m 0 #[.val (.int b)] [])) t_ → Steps p.tables e below (s₁.setTop (entryFrame m #[(.int b)] 1)) t_ := fun t_ k_ => castTop (own_ef_0 m b) k_
  obtain ⟨fs, hr, hrun, hended, hW, hsame⟩ := X0.leave (v := some (.int (0 : Int32))) (fun h => by rw [Bd.returns] at h; cases h)
  refine ⟨_, _, pre0 _ ?_, hrun, hended, _, _, rfl, ?_, ⟨_, rfl⟩, hW, hsame.mono (by decide) (by decide)⟩
  · show Steps p.tables e below (s₁.setTop (mkF m 0 #[.val (.int b)] [])) _
    refine XS.iloadN X0.here hx rfl (hb hby own_d_m2_0) rfl ?_
    show Steps p.tables e below (s₁.setTop (mkF m 1 #[.val (.int b)] [(.int b)])) _
    refine XS.bipush X0.here hx rfl (hb hby own_d_m2_1) ?_
    show Steps p.tables e below (s₁.setTop (mkF m 3 #[.val (.int b)] [(.int (48 : Int32)), (.int b)])) _
    refine XS.icmpNo X0.here hx rfl (hb hby own_d_m2_3) rfl (flt hc3).1 ?_
    show Steps p.tables e below (s₁.setTop (mkF m 6 #[.val (.int b)] [])) _
    refine XS.iloadN X0.here hx rfl (hb hby own_d_m2_6) rfl ?_
    show Steps p.tables e below (s₁.setTop (mkF m 7 #[.val (.int b)] [(.int b)])) _
    refine XS.bipush X0.here hx rfl (hb hby own_d_m2_7) ?_
    show Steps p.tables e below (s₁.setTop (mkF m 9 #[.val (.int b)] [(.int (57 : Int32)), (.int b)])) _
    refine XS.icmpNo X0.here hx rfl (hb hby own_d_m2_9) rfl (tlt hc9).2.2.2 ?_
    show Steps p.tables e below (s₁.setTop (mkF m 12 #[.val (.int b)] [])) _
    refine XS.iloadN X0.here hx rfl (hb hby own_d_m2_12) rfl ?_
    show Steps p.tables e below (s₁.setTop (mkF m 13 #[.val (.int b)] [(.int b)])) _
    refine XS.bipush X0.here hx rfl (hb hby own_d_m2_13) ?_
    show Steps p.tables e below (s₁.setTop (mkF m 15 #[.val (.int b)] [(.int (97 : Int32)), (.int b)])) _
    refine XS.icmpNo X0.here hx rfl (hb hby own_d_m2_15) rfl (flt hc15).1 ?_
    show Steps p.tables e below (s₁.setTop (mkF m 18 #[.val (.int b)] [])) _
    refine XS.iloadN X0.here hx rfl (hb hby own_d_m2_18) rfl ?_
    show Steps p.tables e below (s₁.setTop (mkF m 19 #[.val (.int b)] [(.int b)])) _
    refine XS.bipush X0.here hx rfl (hb hby own_d_m2_19) ?_
    show Steps p.tables e below (s₁.setTop (mkF m 21 #[.val (.int b)] [(.int (102 : Int32)), (.int b)])) _
    refine XS.icmpYes X0.here hx rfl (pc0 := 21) (pc' := 28) rfl (hb hby own_d_m2_21) rfl (tlt hc21).2.2.1 (by decide) (by decide) ?_
    show Steps p.tables e below (s₁.setTop (mkF m 28 #[.val (.int b)] [])) _
    refine XS.iconst X0.here hx rfl (hb hby own_d_m2_28) ?_
    show Steps p.tables e below (s₁.setTop (mkF m 29 #[.val (.int b)] [(.int (0 : Int32))])) _
    exact retN X0 hx (t := .boolean) Bd.returns (by simp) (hb hby own_d_m2_29) hr
  · show (QP (some (.int (0 : Int32))) h0 n0) _ s₁.heap _
    rw [e0]
    exact ⟨rfl, N0, rfl⟩
set_option maxRecDepth 65536 in
set_option maxHeartbeats 40000000 in
theorem own_hex_ffff (l : Launch) (Z : State) (a0 : Array Value) (hw : ∀ d ∈ tables_1, d.before a0 Z = true) (b : Int32)  (h0 : Heap) (n0 : Nat) (Z0 : n0 ≤ h0.size) (hc3 : ¬ (b < (48 : Int32))) (hc9 : (57 : Int32) < b) (hc15 : ¬ (b < (97 : Int32))) (hc21 : ¬ ((102 : Int32) < b)) :
    Met l Z [] (⟨"org/antichain/core/EventIdIsLowercaseHexPinLaw", "hex", "(B)Z"⟩ : MethodName) method_2_code 1 (some .boolean) ({ frames := 0, cells := 0, slots := 0, locals := 0 } : Room) #[(.int b)] h0 (QP (some (.int (1 : Int32))) h0 n0) := by
  refine MetFree.of_bodySF (plainFor_of_name own_pn_0) hisR ?_
  intro p e s m args below meth c s₁ Bd hml0 hP hK
  obtain ⟨rfl, hZ, hh⟩ := hP
  have hx := Bd.exec
  have hby := Bd.bytes
  have hml : c.maxLocals = 1 := hml0
  have hown : s.vm.findClass "org/antichain/core/EventIdIsLowercaseHexPinLaw" = some m.cls := findClass_of_methodNamed Bd.named
  have hnm := (name_of_methodNamed Bd.named Bd.method).1
  have X0 : Stand p l e ({ frames := 0, cells := 0, slots := 0, locals := 0 } : Room) s m #[(.int b)] below meth c s₁ [] 0 0 := Stand.of_body Bd
  have e0 : s₁.heap = h0 := by rw [← hh, Bd.state]; rfl
  have N0 := Fr.nil n0
  have pre0 : ∀ t_, Steps p.tables e below (s₁.setTop (mkF m 0 #[.val (.int b)] [])) t_ → Steps p.tables e below (s₁.setTop (entryFrame m #[(.int b)] 1)) t_ := fun t_ k_ => castTop (own_ef_0 m b) k_
  obtain ⟨fs, hr, hrun, hended, hW, hsame⟩ := X0.leave (v := some (.int (1 : Int32))) (fun h => by rw [Bd.returns] at h; cases h)
  refine ⟨_, _, pre0 _ ?_, hrun, hended, _, _, rfl, ?_, ⟨_, rfl⟩, hW, hsame.mono (by decide) (by decide)⟩
  · show Steps p.tables e below (s₁.setTop (mkF m 0 #[.val (.int b)] [])) _
    refine XS.iloadN X0.here hx rfl (hb hby own_d_m2_0) rfl ?_
    show Steps p.tables e below (s₁.setTop (mkF m 1 #[.val (.int b)] [(.int b)])) _
    refine XS.bipush X0.here hx rfl (hb hby own_d_m2_1) ?_
    show Steps p.tables e below (s₁.setTop (mkF m 3 #[.val (.int b)] [(.int (48 : Int32)), (.int b)])) _
    refine XS.icmpNo X0.here hx rfl (hb hby own_d_m2_3) rfl (flt hc3).1 ?_
    show Steps p.tables e below (s₁.setTop (mkF m 6 #[.val (.int b)] [])) _
    refine XS.iloadN X0.here hx rfl (hb hby own_d_m2_6) rfl ?_
    show Steps p.tables e below (s₁.setTop (mkF m 7 #[.val (.int b)] [(.int b)])) _
    refine XS.bipush X0.here hx rfl (hb hby own_d_m2_7) ?_
    show Steps p.tables e below (s₁.setTop (mkF m 9 #[.val (.int b)] [(.int (57 : Int32)), (.int b)])) _
    refine XS.icmpNo X0.here hx rfl (hb hby own_d_m2_9) rfl (tlt hc9).2.2.2 ?_
    show Steps p.tables e below (s₁.setTop (mkF m 12 #[.val (.int b)] [])) _
    refine XS.iloadN X0.here hx rfl (hb hby own_d_m2_12) rfl ?_
    show Steps p.tables e below (s₁.setTop (mkF m 13 #[.val (.int b)] [(.int b)])) _
    refine XS.bipush X0.here hx rfl (hb hby own_d_m2_13) ?_
    show Steps p.tables e below (s₁.setTop (mkF m 15 #[.val (.int b)] [(.int (97 : Int32)), (.int b)])) _
    refine XS.icmpNo X0.here hx rfl (hb hby own_d_m2_15) rfl (flt hc15).1 ?_
    show Steps p.tables e below (s₁.setTop (mkF m 18 #[.val (.int b)] [])) _
    refine XS.iloadN X0.here hx rfl (hb hby own_d_m2_18) rfl ?_
    show Steps p.tables e below (s₁.setTop (mkF m 19 #[.val (.int b)] [(.int b)])) _
    refine XS.bipush X0.here hx rfl (hb hby own_d_m2_19) ?_
    show Steps p.tables e below (s₁.setTop (mkF m 21 #[.val (.int b)] [(.int (102 : Int32)), (.int b)])) _
    refine XS.icmpNo X0.here hx rfl (hb hby own_d_m2_21) rfl (flt hc21).2.2.1 ?_
    show Steps p.tables e below (s₁.setTop (mkF m 24 #[.val (.int b)] [])) _
    refine XS.iconst X0.here hx rfl (hb hby own_d_m2_24) ?_
    show Steps p.tables e below (s₁.setTop (mkF m 25 #[.val (.int b)] [(.int (1 : Int32))])) _
    refine XS.goto X0.here hx rfl (pc0 := 25) (pc' := 29) rfl (hb hby own_d_m2_25) (by decide) (by decide) ?_
    show Steps p.tables e below (s₁.setTop (mkF m 29 #[.val (.int b)] [(.int (1 : Int32))])) _
    exact retN X0 hx (t := .boolean) Bd.returns (by simp) (hb hby own_d_m2_29) hr
  · show (QP (some (.int (1 : Int32))) h0 n0) _ s₁.heap _
    rw [e0]
    exact ⟨rfl, N0, rfl⟩
theorem own_hex (l : Launch) (Z : State) (a0 : Array Value) (hw : ∀ d ∈ tables_1, d.before a0 Z = true) (b : Int32) (h0 : Heap) (n0 : Nat) (Z0 : n0 ≤ h0.size) : Met l Z [] (⟨"org/antichain/core/EventIdIsLowercaseHexPinLaw", "hex", "(B)Z"⟩ : MethodName) method_2_code 1 (some .boolean) ({ frames := 0, cells := 0, slots := 0, locals := 0 } : Room) #[(.int b)] h0 (QP (some (.int (own_hx b))) h0 n0) := by
  by_cases h1 : b < 48
  · have h2 : b < 97 := by rw [Int32.lt_iff_toInt_lt] at *; have e48 : (48 : Int32).toInt = 48 := by decide
                           have e97 : (97 : Int32).toInt = 97 := by decide
                           omega
    rw [show own_hx b = 0 by simp [own_hx, h1, h2]]; exact own_hex_tt l Z a0 hw b h0 n0 Z0 h1 h2
  by_cases h2 : 57 < b
  · by_cases h3 : b < 97
    · rw [show own_hx b = 0 by simp [own_hx, h2, h3]]; exact own_hex_fft l Z a0 hw b h0 n0 Z0 h1 h2 h3
    by_cases h4 : 102 < b
    · rw [show own_hx b = 0 by simp [own_hx, h2, h4]]; exact own_hex_ffft l Z a0 hw b h0 n0 Z0 h1 h2 h3 h4
    · rw [show own_hx b = 1 by simp [own_hx, h3, h4]]; exact own_hex_ffff l Z a0 hw b h0 n0 Z0 h1 h2 h3 h4
  · rw [show own_hx b = 1 by simp [own_hx, h1, h2]]; exact own_hex_ft l Z a0 hw b h0 n0 Z0 h1 h2
theorem own_d_m3_0 : decode method_3_code 0 = .ok (.iload_n 1, 1) := by decide +kernel
theorem own_d_m3_1 : decode method_3_code 1 = .ok (.iload_n 2, 1) := by decide +kernel
theorem own_d_m3_2 : decode method_3_code 2 = .ok (.if_icmp .lt 17, 3) := by decide +kernel
theorem own_d_m3_5 : decode method_3_code 5 = .ok (.iload_n 1, 1) := by decide +kernel
theorem own_d_m3_6 : decode method_3_code 6 = .ok (.iload_n 3, 1) := by decide +kernel
theorem own_d_m3_7 : decode method_3_code 7 = .ok (.if_icmp .ge 12, 3) := by decide +kernel
theorem own_d_m3_10 : decode method_3_code 10 = .ok (.aload_n 0, 1) := by decide +kernel
theorem own_d_m3_11 : decode method_3_code 11 = .ok (.iload_n 1, 1) := by decide +kernel
theorem own_d_m3_12 : decode method_3_code 12 = .ok (.baload, 1) := by decide +kernel
theorem own_d_m3_13 : decode method_3_code 13 = .ok (.invokestatic 7, 3) := by decide +kernel
theorem own_pd_0 : parseMethodDescriptor "(B)Z" = some ⟨[.byte], some .boolean⟩ := by decide +kernel
theorem own_d_m3_16 : decode method_3_code 16 = .ok (.ifCond .eq 7, 3) := by decide +kernel
theorem own_d_m3_19 : decode method_3_code 19 = .ok (.iconst 1, 1) := by decide +kernel
theorem own_d_m3_20 : decode method_3_code 20 = .ok (.goto 4, 3) := by decide +kernel
theorem own_d_m3_24 : decode method_3_code 24 = .ok (.ireturn, 1) := by decide +kernel
theorem own_ef_1 (m : MethodId) (x0 : Addr) (x1 : Int32) (x2 : Int32) (x3 : Int32) : entryFrame m #[(.ref x0), (.int x1), (.int x2), (.int x3)] 4 = mkF m 0 #[.val (.ref x0), .val (.int x1), .val (.int x2), .val (.int x3)] [] := by first | (simp [entryFrame, mkF, argsToLocals, Value.category]; done) | rfl
set_option maxRecDepth 65536 in
set_option maxHeartbeats 40000000 in
theorem own_ok_fff (l : Launch) (Z : State) (a0 : Array Value) (hw : ∀ d ∈ tables_1, d.before a0 Z = true) (t : Addr) (i : Int32) (f : Int32) (u : Int32) (cl : Cell) (b : Int32) (h0 : Heap) (n0 : Nat) (Z0 : n0 ≤ h0.size) (AR : Arr Z h0 t cl .byte) (hin : ¬ (i < 0 ∨ cl.slots.size ≤ i.toNatClampNeg)) (hat : cl.slots[i.toNatClampNeg]? = some (.int b)) (hc2 : ¬ (i < f)) (hc7 : i < u) (hc16 : ¬ ((own_hx b) = (0 : Int32))) :
    Met l Z [] (⟨"org/antichain/core/EventIdIsLowercaseHexPinLaw", "ok", "([BIII)Z"⟩ : MethodName) method_3_code 4 (some .boolean) ({ frames := 1, cells := 0, slots := 0, locals := 12 } : Room) #[(.ref t), (.int i), (.int f), (.int u)] h0 (QP (some (.int (1 : Int32))) h0 n0) := by
  refine MetFree.of_bodySF (plainFor_of_name own_pn_0) hisR ?_
  intro p e s m args below meth c s₁ Bd hml0 hP hK
  obtain ⟨rfl, hZ, hh⟩ := hP
  have hx := Bd.exec
  have hby := Bd.bytes
  have hml : c.maxLocals = 4 := hml0
  have hown : s.vm.findClass "org/antichain/core/EventIdIsLowercaseHexPinLaw" = some m.cls := findClass_of_methodNamed Bd.named
  have hnm := (name_of_methodNamed Bd.named Bd.method).1
  have X0 : Stand p l e ({ frames := 1, cells := 0, slots := 0, locals := 12 } : Room) s m #[(.ref t), (.int i), (.int f), (.int u)] below meth c s₁ [] 0 0 := Stand.of_body Bd
  have e0 : s₁.heap = h0 := by rw [← hh, Bd.state]; rfl
  have N0 := Fr.nil n0
  have pre0 : ∀ t_, Steps p.tables e below (s₁.setTop (mkF m 0 #[.val (.ref t), .val (.int i), .val (.int f), .val (.int u)] [])) t_ → Steps p.tables e below (s₁.setTop (entryFrame m #[(.ref t), (.int i), (.int f), (.int u)] 4)) t_ := fun t_ k_ => castTop (own_ef_1 m t i f u) k_
  obtain ⟨_, _, ⟨T1, L1, k1, n1⟩, -, X1, ⟨Lc1, hQ1, l1, y1, z1⟩, st1⟩ := Jvm.LawKit.callS X0 hx (y := (⟨"org/antichain/core/EventIdIsLowercaseHexPinLaw", "hex", "(B)Z"⟩ : MethodName)) hown (mvT hZ (hw _ (List.mem_of_getElem? (i := 10) rfl))) (mvT hZ (hw _ (List.mem_of_getElem? (i := 11) rfl))) (mvT hZ (hw _ (List.mem_of_getElem? (i := 4) rfl))) (mvT hZ (hw _ (List.mem_of_getElem? (i := 12) rfl))) (by decide) (backOf (W := 0) (own_hex l Z a0 hw b h0 n0 Z0) hZ (hw _ (List.mem_of_getElem? (i := 12) rfl)) (hw _ (List.mem_of_getElem? (i := 4) rfl)) (by decide) (by decide)) (g := (mkF m 13 #[.val (.ref t), .val (.int i), .val (.int f), .val (.int u)] [(.int b)])) rfl (by rw [hml]; rfl) (argsL := [(.int b)]) (rest := []) (lenOf own_pd_0 rfl) rfl (by show 2 * 0 + _ ≤ _; exact Nat.le_of_eq rfl) (hb hby own_d_m3_13) (fun _ _ => ⟨rfl, e0, (by decide : 0 + 0 ≤ _), (by decide : 0 + 0 ≤ _)⟩)
  dsimp only [Pt.U, Pt.locs, Pt.cells, Pt.slots] at X1 l1 y1 z1 st1 hQ1
  subst l1 y1 z1
  obtain ⟨rfl, Nq1, eh1⟩ := hQ1
  have N1 := Fr.app N0 Nq1
  have e1 : T1.heap = h0 := eh1
  obtain ⟨fs, hr, hrun, hended, hW, hsame⟩ := X1.leave (v := some (.int (1 : Int32))) (fun h => by rw [Bd.returns] at h; cases h)
  refine ⟨_, _, pre0 _ ?_, hrun, hended, _, _, rfl, ?_, ⟨_, rfl⟩, hW, hsame.mono (by decide) (by decide)⟩
  · show Steps p.tables e below (s₁.setTop (mkF m 0 #[.val (.ref t), .val (.int i), .val (.int f), .val (.int u)] [])) _
    refine XS.iloadN X0.here hx rfl (hb hby own_d_m3_0) rfl ?_
    show Steps p.tables e below (s₁.setTop (mkF m 1 #[.val (.ref t), .val (.int i), .val (.int f), .val (.int u)] [(.int i)])) _
    refine XS.iloadN X0.here hx rfl (hb hby own_d_m3_1) rfl ?_
    show Steps p.tables e below (s₁.setTop (mkF m 2 #[.val (.ref t), .val (.int i), .val (.int f), .val (.int u)] [(.int f), (.int i)])) _
    refine XS.icmpNo X0.here hx rfl (hb hby own_d_m3_2) rfl (flt hc2).1 ?_
    show Steps p.tables e below (s₁.setTop (mkF m 5 #[.val (.ref t), .val (.int i), .val (.int f), .val (.int u)] [])) _
    refine XS.iloadN X0.here hx rfl (hb hby own_d_m3_5) rfl ?_
    show Steps p.tables e below (s₁.setTop (mkF m 6 #[.val (.ref t), .val (.int i), .val (.int f), .val (.int u)] [(.int i)])) _
    refine XS.iloadN X0.here hx rfl (hb hby own_d_m3_6) rfl ?_
    show Steps p.tables e below (s₁.setTop (mkF m 7 #[.val (.ref t), .val (.int i), .val (.int f), .val (.int u)] [(.int u), (.int i)])) _
    refine XS.icmpNo X0.here hx rfl (hb hby own_d_m3_7) rfl (tlt hc7).2.1 ?_
    show Steps p.tables e below (s₁.setTop (mkF m 10 #[.val (.ref t), .val (.int i), .val (.int f), .val (.int u)] [])) _
    refine XS.aloadN X0.here hx rfl (hb hby own_d_m3_10) rfl rfl ?_
    show Steps p.tables e below (s₁.setTop (mkF m 11 #[.val (.ref t), .val (.int i), .val (.int f), .val (.int u)] [(.ref t)])) _
    refine XS.iloadN X0.here hx rfl (hb hby own_d_m3_11) rfl ?_
    show Steps p.tables e below (s₁.setTop (mkF m 12 #[.val (.ref t), .val (.int i), .val (.int f), .val (.int u)] [(.int i), (.ref t)])) _
    refine X0.baloadBytes hx (j := i) (v := (.int b)) (by rw [e0]; exact AR.1) (State.isArrayOf_alike hZ.alike AR.2.1) AR.2.2 hin hat (g := (mkF m 12 #[.val (.ref t), .val (.int i), .val (.int f), .val (.int u)] [(.int i), (.ref t)])) rfl rfl (hb hby own_d_m3_12) _ ?_
    show Steps p.tables e below (s₁.setTop (mkF m 13 #[.val (.ref t), .val (.int i), .val (.int f), .val (.int u)] [(.int b)])) _
    refine st1 _ ?_
    show Steps p.tables e below (T1.setTop (mkF m 16 #[.val (.ref t), .val (.int i), .val (.int f), .val (.int u)] [(.int (own_hx b))])) _
    refine XS.ifNo X1.here hx rfl (hb hby own_d_m3_16) rfl ((if0 _ _).trans (feq hc16).1) ?_
    show Steps p.tables e below (T1.setTop (mkF m 19 #[.val (.ref t), .val (.int i), .val (.int f), .val (.int u)] [])) _
    refine XS.iconst X1.here hx rfl (hb hby own_d_m3_19) ?_
    show Steps p.tables e below (T1.setTop (mkF m 20 #[.val (.ref t), .val (.int i), .val (.int f), .val (.int u)] [(.int (1 : Int32))])) _
    refine XS.goto X1.here hx rfl (pc0 := 20) (pc' := 24) rfl (hb hby own_d_m3_20) (by decide) (by decide) ?_
    show Steps p.tables e below (T1.setTop (mkF m 24 #[.val (.ref t), .val (.int i), .val (.int f), .val (.int u)] [(.int (1 : Int32))])) _
    exact retN X1 hx (t := .boolean) Bd.returns (by simp) (hb hby own_d_m3_24) hr
  · show (QP (some (.int (1 : Int32))) h0 n0) _ T1.heap _
    rw [e1]
    exact ⟨rfl, N1, rfl⟩
theorem own_d_m3_23 : decode method_3_code 23 = .ok (.iconst 0, 1) := by decide +kernel
set_option maxRecDepth 65536 in
set_option maxHeartbeats 40000000 in
theorem own_ok_fft (l : Launch) (Z : State) (a0 : Array Value) (hw : ∀ d ∈ tables_1, d.before a0 Z = true) (t : Addr) (i : Int32) (f : Int32) (u : Int32) (cl : Cell) (b : Int32) (h0 : Heap) (n0 : Nat) (Z0 : n0 ≤ h0.size) (AR : Arr Z h0 t cl .byte) (hin : ¬ (i < 0 ∨ cl.slots.size ≤ i.toNatClampNeg)) (hat : cl.slots[i.toNatClampNeg]? = some (.int b)) (hc2 : ¬ (i < f)) (hc7 : i < u) (hc16 : (own_hx b) = (0 : Int32)) :
    Met l Z [] (⟨"org/antichain/core/EventIdIsLowercaseHexPinLaw", "ok", "([BIII)Z"⟩ : MethodName) method_3_code 4 (some .boolean) ({ frames := 1, cells := 0, slots := 0, locals := 12 } : Room) #[(.ref t), (.int i), (.int f), (.int u)] h0 (QP (some (.int (0 : Int32))) h0 n0) := by
  refine MetFree.of_bodySF (plainFor_of_name own_pn_0) hisR ?_
  intro p e s m args below meth c s₁ Bd hml0 hP hK
  obtain ⟨rfl, hZ, hh⟩ := hP
  have hx := Bd.exec
  have hby := Bd.bytes
  have hml : c.maxLocals = 4 := hml0
  have hown : s.vm.findClass "org/antichain/core/EventIdIsLowercaseHexPinLaw" = some m.cls := findClass_of_methodNamed Bd.named
  have hnm := (name_of_methodNamed Bd.named Bd.method).1
  have X0 : Stand p l e ({ frames := 1, cells := 0, slots := 0, locals := 12 } : Room) s m #[(.ref t), (.int i), (.int f), (.int u)] below meth c s₁ [] 0 0 := Stand.of_body Bd
  have e0 : s₁.heap = h0 := by rw [← hh, Bd.state]; rfl
  have N0 := Fr.nil n0
  have pre0 : ∀ t_, Steps p.tables e below (s₁.setTop (mkF m 0 #[.val (.ref t), .val (.int i), .val (.int f), .val (.int u)] [])) t_ → Steps p.tables e below (s₁.setTop (entryFrame m #[(.ref t), (.int i), (.int f), (.int u)] 4)) t_ := fun t_ k_ => castTop (own_ef_1 m t i f u) k_
  obtain ⟨_, _, ⟨T2, L2, k2, n2⟩, -, X2, ⟨Lc2, hQ2, l2, y2, z2⟩, st2⟩ := Jvm.LawKit.callS X0 hx (y := (⟨"org/antichain/core/EventIdIsLowercaseHexPinLaw", "hex", "(B)Z"⟩ : MethodName)) hown (mvT hZ (hw _ (List.mem_of_getElem? (i := 10) rfl))) (mvT hZ (hw _ (List.mem_of_getElem? (i := 11) rfl))) (mvT hZ (hw _ (List.mem_of_getElem? (i := 4) rfl))) (mvT hZ (hw _ (List.mem_of_getElem? (i := 12) rfl))) (by decide) (backOf (W := 0) (own_hex l Z a0 hw b h0 n0 Z0) hZ (hw _ (List.mem_of_getElem? (i := 12) rfl)) (hw _ (List.mem_of_getElem? (i := 4) rfl)) (by decide) (by decide)) (g := (mkF m 13 #[.val (.ref t), .val (.int i), .val (.int f), .val (.int u)] [(.int b)])) rfl (by rw [hml]; rfl) (argsL := [(.int b)]) (rest := []) (lenOf own_pd_0 rfl) rfl (by show 2 * 0 + _ ≤ _; exact Nat.le_of_eq rfl) (hb hby own_d_m3_13) (fun _ _ => ⟨rfl, e0, (by decide : 0 + 0 ≤ _), (by decide : 0 + 0 ≤ _)⟩)
  dsimp only [Pt.U, Pt.locs, Pt.cells, Pt.slots] at X2 l2 y2 z2 st2 hQ2
  subst l2 y2 z2
  obtain ⟨rfl, Nq2, eh2⟩ := hQ2
  have N2 := Fr.app N0 Nq2
  have e2 : T2.heap = h0 := eh2
  obtain ⟨fs, hr, hrun, hended, hW, hsame⟩ := X2.leave (v := some (.int (0 : Int32))) (fun h => by rw [Bd.returns] at h; cases h)
  refine ⟨_, _, pre0 _ ?_, hrun, hended, _, _, rfl, ?_, ⟨_, rfl⟩, hW, hsame.mono (by decide) (by decide)⟩
  · show Steps p.tables e below (s₁.setTop (mkF m 0 #[.val (.ref t), .val (.int i), .val (.int f), .val (.int u)] [])) _
    refine XS.iloadN X0.here hx rfl (hb hby own_d_m3_0) rfl ?_
    show Steps p.tables e below (s₁.setTop (mkF m 1 #[.val (.ref t), .val (.int i), .val (.int f), .val (.int u)] [(.int i)])) _
    refine XS.iloadN X0.here hx rfl (hb hby own_d_m3_1) rfl ?_
    show Steps p.tables e below (s₁.setTop (mkF m 2 #[.val (.ref t), .val (.int i), .val (.int f), .val (.int u)] [(.int f), (.int i)])) _
    refine XS.icmpNo X0.here hx rfl (hb hby own_d_m3_2) rfl (flt hc2).1 ?_
    show Steps p.tables e below (s₁.setTop (mkF m 5 #[.val (.ref t), .val (.int i), .val (.int f), .val (.int u)] [])) _
    refine XS.iloadN X0.here hx rfl (hb hby own_d_m3_5) rfl ?_
    show Steps p.tables e below (s₁.setTop (mkF m 6 #[.val (.ref t), .val (.int i), .val (.int f), .val (.int u)] [(.int i)])) _
    refine XS.iloadN X0.here hx rfl (hb hby own_d_m3_6) rfl ?_
    show Steps p.tables e below (s₁.setTop (mkF m 7 #[.val (.ref t), .val (.int i), .val (.int f), .val (.int u)] [(.int u), (.int i)])) _
    refine XS.icmpNo X0.here hx rfl (hb hby own_d_m3_7) rfl (tlt hc7).2.1 ?_
    show Steps p.tables e below (s₁.setTop (mkF m 10 #[.val (.ref t), .val (.int i), .val (.int f), .val (.int u)] [])) _
    refine XS.aloadN X0.here hx rfl (hb hby own_d_m3_10) rfl rfl ?_
    show Steps p.tables e below (s₁.setTop (mkF m 11 #[.val (.ref t), .val (.int i), .val (.int f), .val (.int u)] [(.ref t)])) _
    refine XS.iloadN X0.here hx rfl (hb hby own_d_m3_11) rfl ?_
    show Steps p.tables e below (s₁.setTop (mkF m 12 #[.val (.ref t), .val (.int i), .val (.int f), .val (.int u)] [(.int i), (.ref t)])) _
    refine X0.baloadBytes hx (j := i) (v := (.int b)) (by rw [e0]; exact AR.1) (State.isArrayOf_alike hZ.alike AR.2.1) AR.2.2 hin hat (g := (mkF m 12 #[.val (.ref t), .val (.int i), .val (.int f), .val (.int u)] [(.int i), (.ref t)])) rfl rfl (hb hby own_d_m3_12) _ ?_
    show Steps p.tables e below (s₁.setTop (mkF m 13 #[.val (.ref t), .val (.int i), .val (.int f), .val (.int u)] [(.int b)])) _
    refine st2 _ ?_
    show Steps p.tables e below (T2.setTop (mkF m 16 #[.val (.ref t), .val (.int i), .val (.int f), .val (.int u)] [(.int (own_hx b))])) _
    refine XS.ifYes X2.here hx rfl (pc0 := 16) (pc' := 23) rfl (hb hby own_d_m3_16) rfl ((if0 _ _).trans (teq hc16).1) (by decide) (by decide) ?_
    show Steps p.tables e below (T2.setTop (mkF m 23 #[.val (.ref t), .val (.int i), .val (.int f), .val (.int u)] [])) _
    refine XS.iconst X2.here hx rfl (hb hby own_d_m3_23) ?_
    show Steps p.tables e below (T2.setTop (mkF m 24 #[.val (.ref t), .val (.int i), .val (.int f), .val (.int u)] [(.int (0 : Int32))])) _
    exact retN X2 hx (t := .boolean) Bd.returns (by simp) (hb hby own_d_m3_24) hr
  · show (QP (some (.int (0 : Int32))) h0 n0) _ T2.heap _
    rw [e2]
    exact ⟨rfl, N2, rfl⟩
set_option maxRecDepth 65536 in
set_option maxHeartbeats 40000000 in
theorem own_ok_t (l : Launch) (Z : State) (a0 : Array Value) (hw : ∀ d ∈ tables_1, d.before a0 Z = true) (t : Addr) (i : Int32) (f : Int32) (u : Int32) (cl : Cell) (b : Int32) (h0 : Heap) (n0 : Nat) (Z0 : n0 ≤ h0.size) (AR : Arr Z h0 t cl .byte) (hin : ¬ (i < 0 ∨ cl.slots.size ≤ i.toNatClampNeg)) (hat : cl.slots[i.toNatClampNeg]? = some (.int b)) (hc2 : i < f) :
    Met l Z [] (⟨"org/antichain/core/EventIdIsLowercaseHexPinLaw", "ok", "([BIII)Z"⟩ : MethodName) method_3_code 4 (some .boolean) ({ frames := 1, cells := 0, slots := 0, locals := 12 } : Room) #[(.ref t), (.int i), (.int f), (.int u)] h0 (QP (some (.int (1 : Int32))) h0 n0) := by
  refine MetFree.of_bodySF (plainFor_of_name own_pn_0) hisR ?_
  intro p e s m args below meth c s₁ Bd hml0 hP hK
  obtain ⟨rfl, hZ, hh⟩ := hP
  have hx := Bd.exec
  have hby := Bd.bytes
  have hml : c.maxLocals = 4 := hml0
  have hown : s.vm.findClass "org/antichain/core/EventIdIsLowercaseHexPinLaw" = some m.cls := findClass_of_methodNamed Bd.named
  have hnm := (name_of_methodNamed Bd.named Bd.method).1
  have X0 : Stand p l e ({ frames := 1, cells := 0, slots := 0, locals := 12 } : Room) s m #[(.ref t), (.int i), (.int f), (.int u)] below meth c s₁ [] 0 0 := Stand.of_body Bd
  have e0 : s₁.heap = h0 := by rw [← hh, Bd.state]; rfl
  have N0 := Fr.nil n0
  have pre0 : ∀ t_, Steps p.tables e below (s₁.setTop (mkF m 0 #[.val (.ref t), .val (.int i), .val (.int f), .val (.int u)] [])) t_ → Steps p.tables e below (s₁.setTop (entryFrame m #[(.ref t), (.int i), (.int f), (.int u)] 4)) t_ := fun t_ k_ => castTop (own_ef_1 m t i f u) k_
  obtain ⟨fs, hr, hrun, hended, hW, hsame⟩ := X0.leave (v := some (.int (1 : Int32))) (fun h => by rw [Bd.returns] at h; cases h)
  refine ⟨_, _, pre0 _ ?_, hrun, hended, _, _, rfl, ?_, ⟨_, rfl⟩, hW, hsame.mono (by decide) (by decide)⟩
  · show Steps p.tables e below (s₁.setTop (mkF m 0 #[.val (.ref t), .val (.int i), .val (.int f), .val (.int u)] [])) _
    refine XS.iloadN X0.here hx rfl (hb hby own_d_m3_0) rfl ?_
    show Steps p.tables e below (s₁.setTop (mkF m 1 #[.val (.ref t), .val (.int i), .val (.int f), .val (.int u)] [(.int i)])) _
    refine XS.iloadN X0.here hx rfl (hb hby own_d_m3_1) rfl ?_
    show Steps p.tables e below (s₁.setTop (mkF m 2 #[.val (.ref t), .val (.int i), .val (.int f), .val (.int u)] [(.int f), (.int i)])) _
    refine XS.icmpYes X0.here hx rfl (pc0 := 2) (pc' := 19) rfl (hb hby own_d_m3_2) rfl (tlt hc2).1 (by decide) (by decide) ?_
    show Steps p.tables e below (s₁.setTop (mkF m 19 #[.val (.ref t), .val (.int i), .val (.int f), .val (.int u)] [])) _
    refine XS.iconst X0.here hx rfl (hb hby own_d_m3_19) ?_
    show Steps p.tables e below (s₁.setTop (mkF m 20 #[.val (.ref t), .val (.int i), .val (.int f), .val (.int u)] [(.int (1 : Int32))])) _
    refine XS.goto X0.here hx rfl (pc0 := 20) (pc' := 24) rfl (hb hby own_d_m3_20) (by decide) (by decide) ?_
    show Steps p.tables e below (s₁.setTop (mkF m 24 #[.val (.ref t), .val (.int i), .val (.int f), .val (.int u)] [(.int (1 : Int32))])) _
    exact retN X0 hx (t := .boolean) Bd.returns (by simp) (hb hby own_d_m3_24) hr
  · show (QP (some (.int (1 : Int32))) h0 n0) _ s₁.heap _
    rw [e0]
    exact ⟨rfl, N0, rfl⟩
set_option maxRecDepth 65536 in
set_option maxHeartbeats 40000000 in
theorem own_ok_ft (l : Launch) (Z : State) (a0 : Array Value) (hw : ∀ d ∈ tables_1, d.before a0 Z = true) (t : Addr) (i : Int32) (f : Int32) (u : Int32) (cl : Cell) (b : Int32) (h0 : Heap) (n0 : Nat) (Z0 : n0 ≤ h0.size) (AR : Arr Z h0 t cl .byte) (hin : ¬ (i < 0 ∨ cl.slots.size ≤ i.toNatClampNeg)) (hat : cl.slots[i.toNatClampNeg]? = some (.int b)) (hc2 : ¬ (i < f)) (hc7 : ¬ (i < u)) :
    Met l Z [] (⟨"org/antichain/core/EventIdIsLowercaseHexPinLaw", "ok", "([BIII)Z"⟩ : MethodName) method_3_code 4 (some .boolean) ({ frames := 1, cells := 0, slots := 0, locals := 12 } : Room) #[(.ref t), (.int i), (.int f), (.int u)] h0 (QP (some (.int (1 : Int32))) h0 n0) := by
  refine MetFree.of_bodySF (plainFor_of_name own_pn_0) hisR ?_
  intro p e s m args below meth c s₁ Bd hml0 hP hK
  obtain ⟨rfl, hZ, hh⟩ := hP
  have hx := Bd.exec
  have hby := Bd.bytes
  have hml : c.maxLocals = 4 := hml0
  have hown : s.vm.findClass "org/antichain/core/EventIdIsLowercaseHexPinLaw" = some m.cls := findClass_of_methodNamed Bd.named
  have hnm := (name_of_methodNamed Bd.named Bd.method).1
  have X0 : Stand p l e ({ frames := 1, cells := 0, slots := 0, locals := 12 } : Room) s m #[(.ref t), (.int i), (.int f), (.int u)] below meth c s₁ [] 0 0 := Stand.of_body Bd
  have e0 : s₁.heap = h0 := by rw [← hh, Bd.state]; rfl
  have N0 := Fr.nil n0
  have pre0 : ∀ t_, Steps p.tables e below (s₁.setTop (mkF m 0 #[.val (.ref t), .val (.int i), .val (.int f), .val (.int u)] [])) t_ → Steps p.tables e below (s₁.setTop (entryFrame m #[(.ref t), (.int i), (.int f), (.int u)] 4)) t_ := fun t_ k_ => castTop (own_ef_1 m t i f u) k_
  obtain ⟨fs, hr, hrun, hended, hW, hsame⟩ := X0.leave (v := some (.int (1 : Int32))) (fun h => by rw [Bd.returns] at h; cases h)
  refine ⟨_, _, pre0 _ ?_, hrun, hended, _, _, rfl, ?_, ⟨_, rfl⟩, hW, hsame.mono (by decide) (by decide)⟩
  · show Steps p.tables e below (s₁.setTop (mkF m 0 #[.val (.ref t), .val (.int i), .val (.int f), .val (.int u)] [])) _
    refine XS.iloadN X0.here hx rfl (hb hby own_d_m3_0) rfl ?_
    show Steps p.tables e below (s₁.setTop (mkF m 1 #[.val (.ref t), .val (.int i), .val (.int f), .val (.int u)] [(.int i)])) _
    refine XS.iloadN X0.here hx rfl (hb hby own_d_m3_1) rfl ?_
    show Steps p.tables e below (s₁.setTop (mkF m 2 #[.val (.ref t), .val (.int i), .val (.int f), .val (.int u)] [(.int f), (.int i)])) _
    refine XS.icmpNo X0.here hx rfl (hb hby own_d_m3_2) rfl (flt hc2).1 ?_
    show Steps p.tables e below (s₁.setTop (mkF m 5 #[.val (.ref t), .val (.int i), .val (.int f), .val (.int u)] [])) _
    refine XS.iloadN X0.here hx rfl (hb hby own_d_m3_5) rfl ?_
    show Steps p.tables e below (s₁.setTop (mkF m 6 #[.val (.ref t), .val (.int i), .val (.int f), .val (.int u)] [(.int i)])) _
    refine XS.iloadN X0.here hx rfl (hb hby own_d_m3_6) rfl ?_
    show Steps p.tables e below (s₁.setTop (mkF m 7 #[.val (.ref t), .val (.int i), .val (.int f), .val (.int u)] [(.int u), (.int i)])) _
    refine XS.icmpYes X0.here hx rfl (pc0 := 7) (pc' := 19) rfl (hb hby own_d_m3_7) rfl (flt hc7).2.1 (by decide) (by decide) ?_
    show Steps p.tables e below (s₁.setTop (mkF m 19 #[.val (.ref t), .val (.int i), .val (.int f), .val (.int u)] [])) _
    refine XS.iconst X0.here hx rfl (hb hby own_d_m3_19) ?_
    show Steps p.tables e below (s₁.setTop (mkF m 20 #[.val (.ref t), .val (.int i), .val (.int f), .val (.int u)] [(.int (1 : Int32))])) _
    refine XS.goto X0.here hx rfl (pc0 := 20) (pc' := 24) rfl (hb hby own_d_m3_20) (by decide) (by decide) ?_
    show Steps p.tables e below (s₁.setTop (mkF m 24 #[.val (.ref t), .val (.int i), .val (.int f), .val (.int u)] [(.int (1 : Int32))])) _
    exact retN X0 hx (t := .boolean) Bd.returns (by simp) (hb hby own_d_m3_24) hr
  · show (QP (some (.int (1 : Int32))) h0 n0) _ s₁.heap _
    rw [e0]
    exact ⟨rfl, N0, rfl⟩
theorem own_ok (l : Launch) (Z : State) (a0 : Array Value) (hw : ∀ d ∈ tables_1, d.before a0 Z = true) (t : Addr) (i f u : Int32) (cl : Cell) (b : Int32) (h0 : Heap) (n0 : Nat) (Z0 : n0 ≤ h0.size) (AR : Arr Z h0 t cl .byte) (hin : ¬ (i < 0 ∨ cl.slots.size ≤ i.toNatClampNeg)) (hat : cl.slots[i.toNatClampNeg]? = some (.int b)) : Met l Z [] (⟨"org/antichain/core/EventIdIsLowercaseHexPinLaw", "ok", "([BIII)Z"⟩ : MethodName) method_3_code 4 (some .boolean) ({ frames := 1, cells := 0, slots := 0, locals := 12 } : Room) #[(.ref t), (.int i), (.int f), (.int u)] h0 (QP (some (.int (own_okv i f u b))) h0 n0) := by
  by_cases h1 : i < f
  · rw [show own_okv i f u b = 1 by simp [own_okv, h1]]; exact own_ok_t l Z a0 hw t i f u cl b h0 n0 Z0 AR hin hat h1
  by_cases h2 : i < u
  · by_cases h3 : own_hx b = 0
    · rw [show own_okv i f u b = 0 by simp [own_okv, h1, h2, h3]]; exact own_ok_fft l Z a0 hw t i f u cl b h0 n0 Z0 AR hin hat h1 h2 h3
    · rw [show own_okv i f u b = 1 by simp [own_okv, h3]]; exact own_ok_fff l Z a0 hw t i f u cl b h0 n0 Z0 AR hin hat h1 h2 h3
  · rw [show own_okv i f u b = 1 by simp [own_okv, h2]]; exact own_ok_ft l Z a0 hw t i f u cl b h0 n0 Z0 AR hin hat h1 h2
theorem own_d_prog_20_m9_0 : decode prog_20_method_9_code 0 = .ok (.iload_n 0, 1) := by decide +kernel
theorem own_d_prog_20_m9_1 : decode prog_20_method_9_code 1 = .ok (.ifCond .lt 19, 3) := by decide +kernel
theorem own_d_prog_20_m9_20 : decode prog_20_method_9_code 20 = .ok (.iconst (-1), 1) := by decide +kernel
theorem own_d_prog_20_m9_21 : decode prog_20_method_9_code 21 = .ok (.ireturn, 1) := by decide +kernel
theorem own_pn_1 : plainName "org/antichain/core/EventId" = true := by first | (simp [plainName, overriddenIn]; done) | decide +kernel
set_option maxRecDepth 65536 in
set_option maxHeartbeats 40000000 in
theorem own_dig_t (l : Launch) (Z : State) (a0 : Array Value) (hw : ∀ d ∈ tables_1, d.before a0 Z = true) (b : Int32) (va : Addr) (vc : Cell) (h0 : Heap) (n0 : Nat) (Z0 : n0 ≤ h0.size) (SV : Sta Z h0 "org/antichain/core/EventId" "VALUES" "[B" (.ref va)) (AV : Arr Z h0 va vc .byte) (SZ : vc.slots.size = (128 : Int32).toNatClampNeg) (hc1 : b < (0 : Int32)) :
    Met l Z [] (⟨"org/antichain/core/EventId", "digit", "(I)I"⟩ : MethodName) prog_20_method_9_code 1 (some .int) ({ frames := 0, cells := 0, slots := 0, locals := 0 } : Room) #[(.int b)] h0 (QP (some (.int (-1 : Int32))) h0 n0) := by
  refine MetFree.of_bodySF (plainFor_of_name own_pn_1) hisR ?_
  intro p e s m args below meth c s₁ Bd hml0 hP hK
  obtain ⟨rfl, hZ, hh⟩ := hP
  have hx := Bd.exec
  have hby := Bd.bytes
  have hml : c.maxLocals = 1 := hml0
  have hown : s.vm.findClass "org/antichain/core/EventId" = some m.cls := findClass_of_methodNamed Bd.named
  have hnm := (name_of_methodNamed Bd.named Bd.method).1
  have X0 : Stand p l e ({ frames := 0, cells := 0, slots := 0, locals := 0 } : Room) s m #[(.int b)] below meth c s₁ [] 0 0 := Stand.of_body Bd
  have e0 : s₁.heap = h0 := by rw [← hh, Bd.state]; rfl
  have N0 := Fr.nil n0
  have pre0 : ∀ t_, Steps p.tables e below (s₁.setTop (mkF m 0 #[.val (.int b)] [])) t_ → Steps p.tables e below (s₁.setTop (entryFrame m #[(.int b)] 1)) t_ := fun t_ k_ => castTop (own_ef_0 m b) k_
  obtain ⟨fs, hr, hrun, hended, hW, hsame⟩ := X0.leave (v := some (.int (-1 : Int32))) (fun h => by rw [Bd.returns] at h; cases h)
  refine ⟨_, _, pre0 _ ?_, hrun, hended, _, _, rfl, ?_, ⟨_, rfl⟩, hW, hsame.mono (by decide) (by decide)⟩
  · show Steps p.tables e below (s₁.setTop (mkF m 0 #[.val (.int b)] [])) _
    refine XS.iloadN X0.here hx rfl (hb hby own_d_prog_20_m9_0) rfl ?_
    show Steps p.tables e below (s₁.setTop (mkF m 1 #[.val (.int b)] [(.int b)])) _
    refine XS.ifYes X0.here hx rfl (pc0 := 1) (pc' := 20) rfl (hb hby own_d_prog_20_m9_1) rfl ((if0 _ _).trans (tlt hc1).1) (by decide) (by decide) ?_
    show Steps p.tables e below (s₁.setTop (mkF m 20 #[.val (.int b)] [])) _
    refine XS.iconst X0.here hx rfl (hb hby own_d_prog_20_m9_20) ?_
    show Steps p.tables e below (s₁.setTop (mkF m 21 #[.val (.int b)] [(.int (-1 : Int32))])) _
    exact retI X0 hx Bd.returns (hb hby own_d_prog_20_m9_21) hr
  · show (QP (some (.int (-1 : Int32))) h0 n0) _ s₁.heap _
    rw [e0]
    exact ⟨rfl, N0, rfl⟩
theorem own_d_prog_20_m9_4 : decode prog_20_method_9_code 4 = .ok (.iload_n 0, 1) := by decide +kernel
theorem own_d_prog_20_m9_5 : decode prog_20_method_9_code 5 = .ok (.getstatic 73, 3) := by decide +kernel
theorem own_d_prog_20_m9_8 : decode prog_20_method_9_code 8 = .ok (.arraylength, 1) := by decide +kernel
theorem own_d_prog_20_m9_9 : decode prog_20_method_9_code 9 = .ok (.if_icmp .ge 11, 3) := by decide +kernel
theorem own_d_prog_20_m9_12 : decode prog_20_method_9_code 12 = .ok (.getstatic 73, 3) := by decide +kernel
theorem own_d_prog_20_m9_15 : decode prog_20_method_9_code 15 = .ok (.iload_n 0, 1) := by decide +kernel
theorem own_d_prog_20_m9_16 : decode prog_20_method_9_code 16 = .ok (.baload, 1) := by decide +kernel
theorem own_d_prog_20_m9_17 : decode prog_20_method_9_code 17 = .ok (.goto 4, 3) := by decide +kernel
set_option maxRecDepth 65536 in
set_option maxHeartbeats 40000000 in
theorem own_dig_ff (l : Launch) (Z : State) (a0 : Array Value) (hw : ∀ d ∈ tables_1, d.before a0 Z = true) (b : Int32) (va : Addr) (vc : Cell) (d : Int32) (h0 : Heap) (n0 : Nat) (Z0 : n0 ≤ h0.size) (SV : Sta Z h0 "org/antichain/core/EventId" "VALUES" "[B" (.ref va)) (AV : Arr Z h0 va vc .byte) (SZ : vc.slots.size = (128 : Int32).toNatClampNeg) (hin : ¬ (b < 0 ∨ vc.slots.size ≤ b.toNatClampNeg)) (hat : vc.slots[b.toNatClampNeg]? = some (.int d)) (hc1 : ¬ (b < (0 : Int32))) (hc9 : b < (128 : Int32)) :
    Met l Z [] (⟨"org/antichain/core/EventId", "digit", "(I)I"⟩ : MethodName) prog_20_method_9_code 1 (some .int) ({ frames := 0, cells := 0, slots := 0, locals := 0 } : Room) #[(.int b)] h0 (QP (some (.int d)) h0 n0) := by
  refine MetFree.of_bodySF (plainFor_of_name own_pn_1) hisR ?_
  intro p e s m args below meth c s₁ Bd hml0 hP hK
  obtain ⟨rfl, hZ, hh⟩ := hP
  have hx := Bd.exec
  have hby := Bd.bytes
  have hml : c.maxLocals = 1 := hml0
  have hown : s.vm.findClass "org/antichain/core/EventId" = some m.cls := findClass_of_methodNamed Bd.named
  have hnm := (name_of_methodNamed Bd.named Bd.method).1
  have X0 : Stand p l e ({ frames := 0, cells := 0, slots := 0, locals := 0 } : Room) s m #[(.int b)] below meth c s₁ [] 0 0 := Stand.of_body Bd
  have e0 : s₁.heap = h0 := by rw [← hh, Bd.state]; rfl
  have N0 := Fr.nil n0
  have pre0 : ∀ t_, Steps p.tables e below (s₁.setTop (mkF m 0 #[.val (.int b)] [])) t_ → Steps p.tables e below (s₁.setTop (entryFrame m #[(.int b)] 1)) t_ := fun t_ k_ => castTop (own_ef_0 m b) k_
  obtain ⟨T3, X3, e3, st3⟩ := getS2 X0 hx hZ hown (host := "") (Or.inl (hw _ (List.mem_of_getElem? (i := 16) rfl))) Via.refl e0 SV (g := (mkF m 5 #[.val (.int b)] [(.int b)])) rfl (hb hby own_d_prog_20_m9_5)
  obtain ⟨T4, X4, e4, st4⟩ := getS2 X3 hx hZ hown (host := "") (Or.inl (hw _ (List.mem_of_getElem? (i := 16) rfl))) Via.refl e3 SV (g := (mkF m 12 #[.val (.int b)] [])) rfl (hb hby own_d_prog_20_m9_12)
  obtain ⟨fs, hr, hrun, hended, hW, hsame⟩ := X4.leave (v := some (.int d)) (fun h => by rw [Bd.returns] at h; cases h)
  refine ⟨_, _, pre0 _ ?_, hrun, hended, _, _, rfl, ?_, ⟨_, rfl⟩, hW, hsame.mono (by decide) (by decide)⟩
  · show Steps p.tables e below (s₁.setTop (mkF m 0 #[.val (.int b)] [])) _
    refine XS.iloadN X0.here hx rfl (hb hby own_d_prog_20_m9_0) rfl ?_
    show Steps p.tables e below (s₁.setTop (mkF m 1 #[.val (.int b)] [(.int b)])) _
    refine XS.ifNo X0.here hx rfl (hb hby own_d_prog_20_m9_1) rfl ((if0 _ _).trans (flt hc1).1) ?_
    show Steps p.tables e below (s₁.setTop (mkF m 4 #[.val (.int b)] [])) _
    refine XS.iloadN X0.here hx rfl (hb hby own_d_prog_20_m9_4) rfl ?_
    show Steps p.tables e below (s₁.setTop (mkF m 5 #[.val (.int b)] [(.int b)])) _
    refine st3 _ ?_
    show Steps p.tables e below (T3.setTop (mkF m 8 #[.val (.int b)] [(.ref va), (.int b)])) _
    refine X3.arraylength hx (by rw [e3]; exact AV.1) (State.isArrayOf_alike hZ.alike AV.2.1) (g := (mkF m 8 #[.val (.int b)] [(.ref va), (.int b)])) rfl rfl (hb hby own_d_prog_20_m9_8) _ ?_
    rw [len_of SZ (by decide)]
    show Steps p.tables e below (T3.setTop (mkF m 9 #[.val (.int b)] [(.int (128 : Int32)), (.int b)])) _
    refine XS.icmpNo X3.here hx rfl (hb hby own_d_prog_20_m9_9) rfl (tlt hc9).2.1 ?_
    show Steps p.tables e below (T3.setTop (mkF m 12 #[.val (.int b)] [])) _
    refine st4 _ ?_
    show Steps p.tables e below (T4.setTop (mkF m 15 #[.val (.int b)] [(.ref va)])) _
    refine XS.iloadN X4.here hx rfl (hb hby own_d_prog_20_m9_15) rfl ?_
    show Steps p.tables e below (T4.setTop (mkF m 16 #[.val (.int b)] [(.int b), (.ref va)])) _
    refine X4.baloadBytes hx (j := b) (v := (.int d)) (by rw [e4]; exact AV.1) (State.isArrayOf_alike hZ.alike AV.2.1) AV.2.2 hin hat (g := (mkF m 16 #[.val (.int b)] [(.int b), (.ref va)])) rfl rfl (hb hby own_d_prog_20_m9_16) _ ?_
    show Steps p.tables e below (T4.setTop (mkF m 17 #[.val (.int b)] [(.int d)])) _
    refine XS.goto X4.here hx rfl (pc0 := 17) (pc' := 21) rfl (hb hby own_d_prog_20_m9_17) (by decide) (by decide) ?_
    show Steps p.tables e below (T4.setTop (mkF m 21 #[.val (.int b)] [(.int d)])) _
    exact retI X4 hx Bd.returns (hb hby own_d_prog_20_m9_21) hr
  · show (QP (some (.int d)) h0 n0) _ T4.heap _
    rw [e4]
    exact ⟨rfl, N0, rfl⟩
theorem own_dig (l : Launch) (Z : State) (a0 : Array Value) (hw : ∀ d ∈ tables_1, d.before a0 Z = true) (b : Int32) (va : Addr) (vc : Cell) (h0 : Heap) (n0 : Nat) (Z0 : n0 ≤ h0.size) (SV : Sta Z h0 "org/antichain/core/EventId" "VALUES" "[B" (.ref va)) (AV : Arr Z h0 va vc .byte) (SZ : vc.slots.size = (128 : Int32).toNatClampNeg) (HV : ∀ b : Int32, ¬ b < 0 → b < 128 → vc.slots[b.toNatClampNeg]? = some (.int (own_dg b))) (hb : b < 128) : Met l Z [] (⟨"org/antichain/core/EventId", "digit", "(I)I"⟩ : MethodName) prog_20_method_9_code 1 (some .int) ({ frames := 0, cells := 0, slots := 0, locals := 0 } : Room) #[(.int b)] h0 (QP (some (.int (own_dg b))) h0 n0) := by
  by_cases h1 : b < 0
  · rw [show own_dg b = -1 by simp [own_dg, h1]]; exact own_dig_t l Z a0 hw b va vc h0 n0 Z0 SV AV SZ h1
  · exact own_dig_ff l Z a0 hw b va vc _ h0 n0 Z0 SV AV SZ (inb_of SZ ⟨h1, hb⟩) (HV b h1 hb) h1 hb
theorem own_d_prog_20_m8_5 : decode prog_20_method_8_code 5 = .ok (.iload 4, 2) := by decide +kernel
theorem own_d_prog_20_m8_7 : decode prog_20_method_8_code 7 = .ok (.iload_n 2, 1) := by decide +kernel
theorem own_d_prog_20_m8_8 : decode prog_20_method_8_code 8 = .ok (.if_icmp .ge 19, 3) := by decide +kernel
theorem own_d_prog_20_m8_11 : decode prog_20_method_8_code 11 = .ok (.iload_n 3, 1) := by decide +kernel
theorem own_d_prog_20_m8_12 : decode prog_20_method_8_code 12 = .ok (.aload_n 0, 1) := by decide +kernel
theorem own_d_prog_20_m8_13 : decode prog_20_method_8_code 13 = .ok (.iload 4, 2) := by decide +kernel
theorem own_d_prog_20_m8_15 : decode prog_20_method_8_code 15 = .ok (.baload, 1) := by decide +kernel
theorem own_d_prog_20_m8_16 : decode prog_20_method_8_code 16 = .ok (.invokestatic 48, 3) := by decide +kernel
theorem own_pd_1 : parseMethodDescriptor "(I)I" = some ⟨[.int], some .int⟩ := by decide +kernel
theorem own_d_prog_20_m8_19 : decode prog_20_method_8_code 19 = .ok (.ior, 1) := by decide +kernel
theorem own_d_prog_20_m8_20 : decode prog_20_method_8_code 20 = .ok (.istore_n 3, 1) := by decide +kernel
theorem own_d_prog_20_m8_21 : decode prog_20_method_8_code 21 = .ok (.iinc 4 1, 3) := by decide +kernel
theorem own_d_prog_20_m8_24 : decode prog_20_method_8_code 24 = .ok (.goto (-19), 3) := by decide +kernel
set_option maxRecDepth 65536 in
set_option maxHeartbeats 40000000 in
theorem own_turn {p : Program} {l : Launch} {e : Env} {s : State} {m : MethodId} {args : Array Value} {below : List Frame} {meth : Method} {c : Code} {T0 : State} {locs : List Loc} {Z : State} {a0 : Array Value} {h0 : Heap} {n0 : Nat} (t : Addr) (f : Int32) (u : Int32) (bits : Int32) (i : Int32) (cl : Cell) (b : Int32) (va : Addr) (vc : Cell)
    (X0 : Stand p l e ({ frames := 1, cells := 0, slots := 0, locals := 13 } : Room) s m args below meth c T0 locs 0 0) (hx : p.tables.exec = Jvm.exec) (hZ : Z.Warmed39 s.vm) (hw : ∀ d ∈ tables_1, d.before a0 Z = true) (hby : c.code = prog_20_method_8_code) (hml : c.maxLocals = 5) (hown : s.vm.findClass "org/antichain/core/EventId" = some m.cls) (e0 : T0.heap = h0) (Z0 : n0 ≤ h0.size) (N0 : Fr n0 locs) (AR : Arr Z h0 t cl .byte) (hin : ¬ (i < 0 ∨ cl.slots.size ≤ i.toNatClampNeg)) (hat : cl.slots[i.toNatClampNeg]? = some (.int b)) (SV : Sta Z h0 "org/antichain/core/EventId" "VALUES" "[B" (.ref va)) (AV : Arr Z h0 va vc .byte) (SZ : vc.slots.size = (128 : Int32).toNatClampNeg) (HV : ∀ b : Int32, ¬ b < 0 → b < 128 → vc.slots[b.toNatClampNeg]? = some (.int (own_dg b))) (hb_ : b < 128) (hc8 : i < u) :
    ∃ (T' : State) (locs' : List Loc), Stand p l e ({ frames := 1, cells := 0, slots := 0, locals := 13 } : Room) s m args below meth c T' locs' 0 0 ∧ T'.heap = h0 ∧ Fr n0 locs' ∧ ∀ target, Steps p.tables e below (T'.setTop (mkF m 5 #[.val (.ref t), .val (.int f), .val (.int u), .val (.int (bits ||| (own_dg b))), .val (.int (i + (1 : Int32)))] [])) target → Steps p.tables e below (T0.setTop (mkF m 5 #[.val (.ref t), .val (.int f), .val (.int u), .val (.int bits), .val (.int i)] [])) target := by
  obtain ⟨_, _, ⟨T5, L5, k5, n5⟩, -, X5, ⟨Lc5, hQ5, l5, y5, z5⟩, st5⟩ := Jvm.LawKit.callS X0 hx (y := (⟨"org/antichain/core/EventId", "digit", "(I)I"⟩ : MethodName)) hown (mvT hZ (hw _ (List.mem_of_getElem? (i := 13) rfl))) (mvT hZ (hw _ (List.mem_of_getElem? (i := 14) rfl))) (mvT hZ (hw _ (List.mem_of_getElem? (i := 8) rfl))) (mvT hZ (hw _ (List.mem_of_getElem? (i := 15) rfl))) (by decide) (backOf (W := 1) (own_dig l Z a0 hw b va vc h0 n0 Z0 SV AV SZ HV hb_) hZ (hw _ (List.mem_of_getElem? (i := 15) rfl)) (hw _ (List.mem_of_getElem? (i := 8) rfl)) (by decide) (by decide)) (g := (mkF m 16 #[.val (.ref t), .val (.int f), .val (.int u), .val (.int bits), .val (.int i)] [(.int b), (.int bits)])) rfl (by rw [hml]; rfl) (argsL := [(.int b)]) (rest := [(.int bits)]) (lenOf own_pd_1 rfl) rfl (by show 2 * 0 + _ ≤ _; exact Nat.le_of_eq rfl) (hb hby own_d_prog_20_m8_16) (fun _ _ => ⟨rfl, e0, (by decide : 0 + 0 ≤ _), (by decide : 0 + 0 ≤ _)⟩)
  dsimp only [Pt.U, Pt.locs, Pt.cells, Pt.slots] at X5 l5 y5 z5 st5 hQ5
  subst l5 y5 z5
  obtain ⟨rfl, Nq5, eh5⟩ := hQ5
  have N5 := Fr.app N0 Nq5
  have e5 : T5.heap = h0 := eh5
  refine ⟨T5, _, X5, e5, N5, fun target kt => ?_⟩
  show Steps p.tables e below (T0.setTop (mkF m 5 #[.val (.ref t), .val (.int f), .val (.int u), .val (.int bits), .val (.int i)] [])) _
  refine XS.iload X0.here hx rfl (hb hby own_d_prog_20_m8_5) rfl ?_
  show Steps p.tables e below (T0.setTop (mkF m 7 #[.val (.ref t), .val (.int f), .val (.int u), .val (.int bits), .val (.int i)] [(.int i)])) _
  refine XS.iloadN X0.here hx rfl (hb hby own_d_prog_20_m8_7) rfl ?_
  show Steps p.tables e below (T0.setTop (mkF m 8 #[.val (.ref t), .val (.int f), .val (.int u), .val (.int bits), .val (.int i)] [(.int u), (.int i)])) _
  refine XS.icmpNo X0.here hx rfl (hb hby own_d_prog_20_m8_8) rfl (tlt hc8).2.1 ?_
  show Steps p.tables e below (T0.setTop (mkF m 11 #[.val (.ref t), .val (.int f), .val (.int u), .val (.int bits), .val (.int i)] [])) _
  refine XS.iloadN X0.here hx rfl (hb hby own_d_prog_20_m8_11) rfl ?_
  show Steps p.tables e below (T0.setTop (mkF m 12 #[.val (.ref t), .val (.int f), .val (.int u), .val (.int bits), .val (.int i)] [(.int bits)])) _
  refine XS.aloadN X0.here hx rfl (hb hby own_d_prog_20_m8_12) rfl rfl ?_
  show Steps p.tables e below (T0.setTop (mkF m 13 #[.val (.ref t), .val (.int f), .val (.int u), .val (.int bits), .val (.int i)] [(.ref t), (.int bits)])) _
  refine XS.iload X0.here hx rfl (hb hby own_d_prog_20_m8_13) rfl ?_
  show Steps p.tables e below (T0.setTop (mkF m 15 #[.val (.ref t), .val (.int f), .val (.int u), .val (.int bits), .val (.int i)] [(.int i), (.ref t), (.int bits)])) _
  refine X0.baloadBytes hx (j := i) (v := (.int b)) (by rw [e0]; exact AR.1) (State.isArrayOf_alike hZ.alike AR.2.1) AR.2.2 hin hat (g := (mkF m 15 #[.val (.ref t), .val (.int f), .val (.int u), .val (.int bits), .val (.int i)] [(.int i), (.ref t), (.int bits)])) rfl rfl (hb hby own_d_prog_20_m8_15) _ ?_
  show Steps p.tables e below (T0.setTop (mkF m 16 #[.val (.ref t), .val (.int f), .val (.int u), .val (.int bits), .val (.int i)] [(.int b), (.int bits)])) _
  refine st5 _ ?_
  show Steps p.tables e below (T5.setTop (mkF m 19 #[.val (.ref t), .val (.int f), .val (.int u), .val (.int bits), .val (.int i)] [(.int (own_dg b)), (.int bits)])) _
  refine XS.ior X5.here hx rfl (hb hby own_d_prog_20_m8_19) rfl ?_
  show Steps p.tables e below (T5.setTop (mkF m 20 #[.val (.ref t), .val (.int f), .val (.int u), .val (.int bits), .val (.int i)] [(.int (bits ||| (own_dg b)))])) _
  refine XS.istoreN X5.here hx rfl (hb hby own_d_prog_20_m8_20) rfl (l' := #[.val (.ref t), .val (.int f), .val (.int u), .val (.int (bits ||| (own_dg b))), .val (.int i)]) rfl ?_
  show Steps p.tables e below (T5.setTop (mkF m 21 #[.val (.ref t), .val (.int f), .val (.int u), .val (.int (bits ||| (own_dg b))), .val (.int i)] [])) _
  refine XS.iinc X5.here hx rfl (hb hby own_d_prog_20_m8_21) rfl (l' := #[.val (.ref t), .val (.int f), .val (.int u), .val (.int (bits ||| (own_dg b))), .val (.int (i + (1 : Int32)))]) rfl ?_
  show Steps p.tables e below (T5.setTop (mkF m 24 #[.val (.ref t), .val (.int f), .val (.int u), .val (.int (bits ||| (own_dg b))), .val (.int (i + (1 : Int32)))] [])) _
  refine XS.goto X5.here hx rfl (pc0 := 24) (pc' := 5) rfl (hb hby own_d_prog_20_m8_24) (by decide) (by decide) ?_
  exact kt
set_option maxRecDepth 65536 in
set_option maxHeartbeats 40000000 in
theorem own_exit {p : Program} {l : Launch} {e : Env} {s : State} {m : MethodId} {args : Array Value} {below : List Frame} {meth : Method} {c : Code} {T0 : State} {locs : List Loc} {Z : State} {a0 : Array Value} {h0 : Heap} {n0 : Nat} (t : Addr) (f : Int32) (u : Int32) (bits : Int32) (i : Int32)
    (X0 : Stand p l e ({ frames := 1, cells := 0, slots := 0, locals := 13 } : Room) s m args below meth c T0 locs 0 0) (hx : p.tables.exec = Jvm.exec) (hZ : Z.Warmed39 s.vm) (hw : ∀ d ∈ tables_1, d.before a0 Z = true) (hby : c.code = prog_20_method_8_code) (hml : c.maxLocals = 5) (hown : s.vm.findClass "org/antichain/core/EventId" = some m.cls) (e0 : T0.heap = h0) (Z0 : n0 ≤ h0.size) (N0 : Fr n0 locs) (hc8 : ¬ (i < u)) :
    ∃ (T' : State) (locs' : List Loc), Stand p l e ({ frames := 1, cells := 0, slots := 0, locals := 13 } : Room) s m args below meth c T' locs' 0 0 ∧ T'.heap = h0 ∧ Fr n0 locs' ∧ ∀ target, Steps p.tables e below (T'.setTop (mkF m 27 #[.val (.ref t), .val (.int f), .val (.int u), .val (.int bits), .val (.int i)] [])) target → Steps p.tables e below (T0.setTop (mkF m 5 #[.val (.ref t), .val (.int f), .val (.int u), .val (.int bits), .val (.int i)] [])) target := by
  refine ⟨T0, _, X0, e0, N0, fun target kt => ?_⟩
  show Steps p.tables e below (T0.setTop (mkF m 5 #[.val (.ref t), .val (.int f), .val (.int u), .val (.int bits), .val (.int i)] [])) _
  refine XS.iload X0.here hx rfl (hb hby own_d_prog_20_m8_5) rfl ?_
  show Steps p.tables e below (T0.setTop (mkF m 7 #[.val (.ref t), .val (.int f), .val (.int u), .val (.int bits), .val (.int i)] [(.int i)])) _
  refine XS.iloadN X0.here hx rfl (hb hby own_d_prog_20_m8_7) rfl ?_
  show Steps p.tables e below (T0.setTop (mkF m 8 #[.val (.ref t), .val (.int f), .val (.int u), .val (.int bits), .val (.int i)] [(.int u), (.int i)])) _
  refine XS.icmpYes X0.here hx rfl (pc0 := 8) (pc' := 27) rfl (hb hby own_d_prog_20_m8_8) rfl (flt hc8).2.1 (by decide) (by decide) ?_
  exact kt
theorem own_loop {p : Program} {l : Launch} {e : Env} {s : State} {m : MethodId} {args : Array Value} {below : List Frame} {meth : Method} {c : Code} {Z : State} {a0 : Array Value} {h0 : Heap} {n0 : Nat} (t : Addr) (f u : Int32) (cl : Cell) (B : Nat → Int32) (va : Addr) (vc : Cell)
    (hx : p.tables.exec = Jvm.exec) (hZ : Z.Warmed39 s.vm) (hw : ∀ d ∈ tables_1, d.before a0 Z = true) (hby : c.code = prog_20_method_8_code) (hml : c.maxLocals = 5) (hown : s.vm.findClass "org/antichain/core/EventId" = some m.cls) (Z0 : n0 ≤ h0.size) (AR : Arr Z h0 t cl .byte) (SL : cl.slots.size = 4) (HB : ∀ k : Nat, k < 4 → cl.slots[k]? = some (.int (B k))) (HR : ∀ k : Nat, B k < 128) (SV : Sta Z h0 "org/antichain/core/EventId" "VALUES" "[B" (.ref va)) (AV : Arr Z h0 va vc .byte) (SZ : vc.slots.size = (128 : Int32).toNatClampNeg) (HV : ∀ b : Int32, ¬ b < 0 → b < 128 → vc.slots[b.toNatClampNeg]? = some (.int (own_dg b))) (hu : u.toInt ≤ 4) :
    ∀ (n : Nat) (T0 : State) (locs : List Loc) (bits i : Int32), Stand p l e ({ frames := 1, cells := 0, slots := 0, locals := 13 } : Room) s m args below meth c T0 locs 0 0 → T0.heap = h0 → Fr n0 locs → 0 ≤ i.toInt → (u.toInt - i.toInt).toNat = n →
      ∃ (T' : State) (locs' : List Loc) (bits' i' : Int32), Stand p l e ({ frames := 1, cells := 0, slots := 0, locals := 13 } : Room) s m args below meth c T' locs' 0 0 ∧ T'.heap = h0 ∧ Fr n0 locs' ∧ (bits' < 0 ↔ bits < 0 ∨ own_bad i u B) ∧ ∀ target, Steps p.tables e below (T'.setTop (mkF m 27 #[.val (.ref t), .val (.int f), .val (.int u), .val (.int bits'), .val (.int i')] [])) target → Steps p.tables e below (T0.setTop (mkF m 5 #[.val (.ref t), .val (.int f), .val (.int u), .val (.int bits), .val (.int i)] [])) target := by
  intro n
  induction n with
  | zero =>
    intro T0 locs bits i X0 e0 N0 hi hn
    obtain ⟨T', locs', X', e', N', st⟩ := own_exit t f u bits i X0 hx hZ hw hby hml hown e0 Z0 N0 (by rw [Int32.lt_iff_toInt_lt]; omega)
    refine ⟨T', locs', bits, i, X', e', N', ⟨Or.inl, fun q => q.elim id fun ⟨j, h1, h2, _⟩ => by omega⟩, st⟩
  | succ n ih =>
    intro T0 locs bits i X0 e0 N0 hi hn
    have h1 : (1 : Int32).toInt = 1 := by decide
    have h0' : (0 : Int32).toInt = 0 := by decide
    have e1 : (i + 1).toInt = i.toInt + 1 := by have := c_iadd i 1; have := rng32 (i + 1); omega
    have hk : i.toNatClampNeg < 4 := by simp only [Int32.toNatClampNeg]; omega
    have hki : (i.toNatClampNeg : Int) = i.toInt := by simp only [Int32.toNatClampNeg]; omega
    have hin : ¬ (i < 0 ∨ cl.slots.size ≤ i.toNatClampNeg) := by rw [SL, Int32.lt_iff_toInt_lt]; omega
    obtain ⟨T1, locs1, X1, e1', N1, st1⟩ := own_turn t f u bits i cl (B i.toNatClampNeg) va vc X0 hx hZ hw hby hml hown e0 Z0 N0 AR hin (HB _ hk) SV AV SZ HV (HR _) (by rw [Int32.lt_iff_toInt_lt]; omega)
    obtain ⟨T', locs', bits', i', X', e', N', hb', st'⟩ := ih T1 locs1 (bits ||| own_dg (B i.toNatClampNeg)) (i + 1) X1 e1' N1 (by omega) (by omega)
    refine ⟨T', locs', bits', i', X', e', N', ?_, fun target q => st1 _ (st' _ q)⟩
    rw [hb', own_or_neg, own_dg_neg]
    constructor
    · rintro ((q | q) | ⟨j, q1, q2, q3⟩)
      · exact Or.inl q
      · exact Or.inr ⟨i.toNatClampNeg, by omega, by omega, q⟩
      · exact Or.inr ⟨j, by omega, q2, q3⟩
    · rintro (q | ⟨j, q1, q2, q3⟩)
      · exact Or.inl (Or.inl q)
      · by_cases hj : j = i.toNatClampNeg
        · subst hj; exact Or.inl (Or.inr q3)
        · exact Or.inr ⟨j, by omega, q2, q3⟩
theorem own_d_prog_20_m8_0 : decode prog_20_method_8_code 0 = .ok (.iconst 0, 1) := by decide +kernel
theorem own_d_prog_20_m8_1 : decode prog_20_method_8_code 1 = .ok (.istore_n 3, 1) := by decide +kernel
theorem own_d_prog_20_m8_2 : decode prog_20_method_8_code 2 = .ok (.iload_n 1, 1) := by decide +kernel
theorem own_d_prog_20_m8_3 : decode prog_20_method_8_code 3 = .ok (.istore 4, 2) := by decide +kernel
theorem own_d_prog_20_m8_27 : decode prog_20_method_8_code 27 = .ok (.iload_n 3, 1) := by decide +kernel
theorem own_d_prog_20_m8_28 : decode prog_20_method_8_code 28 = .ok (.ifCond .lt 7, 3) := by decide +kernel
theorem own_d_prog_20_m8_35 : decode prog_20_method_8_code 35 = .ok (.iconst 0, 1) := by decide +kernel
theorem own_d_prog_20_m8_36 : decode prog_20_method_8_code 36 = .ok (.ireturn, 1) := by decide +kernel
theorem own_ef_2 (m : MethodId) (x0 : Addr) (x1 : Int32) (x2 : Int32) : entryFrame m #[(.ref x0), (.int x1), (.int x2)] 5 = mkF m 0 #[.val (.ref x0), .val (.int x1), .val (.int x2), .unset, .unset] [] := by first | (simp [entryFrame, mkF, argsToLocals, Value.category]; done) | rfl
set_option maxRecDepth 65536 in
set_option maxHeartbeats 40000000 in
theorem own_lh_0 (l : Launch) (Z : State) (a0 : Array Value) (hw : ∀ d ∈ tables_1, d.before a0 Z = true) (t : Addr) (f : Int32) (u : Int32) (cl : Cell) (B : Nat → Int32) (va : Addr) (vc : Cell) (h0 : Heap) (n0 : Nat) (Z0 : n0 ≤ h0.size) (AR : Arr Z h0 t cl .byte) (SL : cl.slots.size = 4) (HB : ∀ k : Nat, k < 4 → cl.slots[k]? = some (.int (B k))) (HR : ∀ k : Nat, B k < 128) (SV : Sta Z h0 "org/antichain/core/EventId" "VALUES" "[B" (.ref va)) (AV : Arr Z h0 va vc .byte) (SZ : vc.slots.size = (128 : Int32).toNatClampNeg) (HV : ∀ b : Int32, ¬ b < 0 → b < 128 → vc.slots[b.toNatClampNeg]? = some (.int (own_dg b))) (hf : 0 ≤ f.toInt) (hu : u.toInt ≤ 4) (hbad : own_bad f u B) :
    Met l Z [] (⟨"org/antichain/core/EventId", "isLowercaseHex", "([BII)Z"⟩ : MethodName) prog_20_method_8_code 5 (some .boolean) ({ frames := 1, cells := 0, slots := 0, locals := 13 } : Room) #[(.ref t), (.int f), (.int u)] h0 (QP (some (.int (0 : Int32))) h0 n0) := by
  refine MetFree.of_bodySF (plainFor_of_name own_pn_1) hisR ?_
  intro p e s m args below meth c s₁ Bd hml0 hP hK
  obtain ⟨rfl, hZ, hh⟩ := hP
  have hx := Bd.exec
  have hby := Bd.bytes
  have hml : c.maxLocals = 5 := hml0
  have hown : s.vm.findClass "org/antichain/core/EventId" = some m.cls := findClass_of_methodNamed Bd.named
  have hnm := (name_of_methodNamed Bd.named Bd.method).1
  have X0 : Stand p l e ({ frames := 1, cells := 0, slots := 0, locals := 13 } : Room) s m #[(.ref t), (.int f), (.int u)] below meth c s₁ [] 0 0 := Stand.of_body Bd
  have e0 : s₁.heap = h0 := by rw [← hh, Bd.state]; rfl
  have N0 := Fr.nil n0
  have pre0 : ∀ t_, Steps p.tables e below (s₁.setTop (mkF m 0 #[.val (.ref t), .val (.int f), .val (.int u), .unset, .unset] [])) t_ → Steps p.tables e below (s₁.setTop (entryFrame m #[(.ref t), (.int f), (.int u)] 5)) t_ := fun t_ k_ => castTop (own_ef_2 m t f u) k_
  obtain ⟨T5, locs5, bits5, i5, X5, e5, N5, hb5, st5⟩ := own_loop t f u cl B va vc hx hZ hw hby hml hown Z0 AR SL HB HR SV AV SZ HV hu _ s₁ [] (0 : Int32) f X0 e0 N0 hf rfl
  obtain ⟨fs, hr, hrun, hended, hW, hsame⟩ := X5.leave (v := some (.int (0 : Int32))) (fun h => by rw [Bd.returns] at h; cases h)
  refine ⟨_, _, pre0 _ ?_, hrun, hended, _, _, rfl, ?_, ⟨_, rfl⟩, hW, hsame.mono (by decide) (by decide)⟩
  · show Steps p.tables e below (s₁.setTop (mkF m 0 #[.val (.ref t), .val (.int f), .val (.int u), .unset, .unset] [])) _
    refine XS.iconst X0.here hx rfl (hb hby own_d_prog_20_m8_0) ?_
    show Steps p.tables e below (s₁.setTop (mkF m 1 #[.val (.ref t), .val (.int f), .val (.int u), .unset, .unset] [(.int (0 : Int32))])) _
    refine XS.istoreN X0.here hx rfl (hb hby own_d_prog_20_m8_1) rfl (l' := #[.val (.ref t), .val (.int f), .val (.int u), .val (.int (0 : Int32)), .unset]) rfl ?_
    show Steps p.tables e below (s₁.setTop (mkF m 2 #[.val (.ref t), .val (.int f), .val (.int u), .val (.int (0 : Int32)), .unset] [])) _
    refine XS.iloadN X0.here hx rfl (hb hby own_d_prog_20_m8_2) rfl ?_
    show Steps p.tables e below (s₁.setTop (mkF m 3 #[.val (.ref t), .val (.int f), .val (.int u), .val (.int (0 : Int32)), .unset] [(.int f)])) _
    refine XS.istore X0.here hx rfl (hb hby own_d_prog_20_m8_3) rfl (l' := #[.val (.ref t), .val (.int f), .val (.int u), .val (.int (0 : Int32)), .val (.int f)]) rfl ?_
    show Steps p.tables e below (s₁.setTop (mkF m 5 #[.val (.ref t), .val (.int f), .val (.int u), .val (.int (0 : Int32)), .val (.int f)] [])) _
    refine st5 _ ?_
    show Steps p.tables e below (T5.setTop (mkF m 27 #[.val (.ref t), .val (.int f), .val (.int u), .val (.int bits5), .val (.int i5)] [])) _
    refine XS.iloadN X5.here hx rfl (hb hby own_d_prog_20_m8_27) rfl ?_
    show Steps p.tables e below (T5.setTop (mkF m 28 #[.val (.ref t), .val (.int f), .val (.int u), .val (.int bits5), .val (.int i5)] [(.int bits5)])) _
    refine XS.ifYes X5.here hx rfl (pc0 := 28) (pc' := 35) rfl (hb hby own_d_prog_20_m8_28) rfl ((if0 _ _).trans (tlt (hb5.mpr (Or.inr hbad) : bits5 < (0 : Int32))).1) (by decide) (by decide) ?_
    show Steps p.tables e below (T5.setTop (mkF m 35 #[.val (.ref t), .val (.int f), .val (.int u), .val (.int bits5), .val (.int i5)] [])) _
    refine XS.iconst X5.here hx rfl (hb hby own_d_prog_20_m8_35) ?_
    show Steps p.tables e below (T5.setTop (mkF m 36 #[.val (.ref t), .val (.int f), .val (.int u), .val (.int bits5), .val (.int i5)] [(.int (0 : Int32))])) _
    exact retN X5 hx (t := .boolean) Bd.returns (by simp) (hb hby own_d_prog_20_m8_36) hr
  · show (QP (some (.int (0 : Int32))) h0 n0) _ T5.heap _
    rw [e5]
    exact ⟨rfl, N5, rfl⟩
theorem own_d_prog_20_m8_31 : decode prog_20_method_8_code 31 = .ok (.iconst 1, 1) := by decide +kernel
theorem own_d_prog_20_m8_32 : decode prog_20_method_8_code 32 = .ok (.goto 4, 3) := by decide +kernel
set_option maxRecDepth 65536 in
set_option maxHeartbeats 40000000 in
theorem own_lh_1 (l : Launch) (Z : State) (a0 : Array Value) (hw : ∀ d ∈ tables_1, d.before a0 Z = true) (t : Addr) (f : Int32) (u : Int32) (cl : Cell) (B : Nat → Int32) (va : Addr) (vc : Cell) (h0 : Heap) (n0 : Nat) (Z0 : n0 ≤ h0.size) (AR : Arr Z h0 t cl .byte) (SL : cl.slots.size = 4) (HB : ∀ k : Nat, k < 4 → cl.slots[k]? = some (.int (B k))) (HR : ∀ k : Nat, B k < 128) (SV : Sta Z h0 "org/antichain/core/EventId" "VALUES" "[B" (.ref va)) (AV : Arr Z h0 va vc .byte) (SZ : vc.slots.size = (128 : Int32).toNatClampNeg) (HV : ∀ b : Int32, ¬ b < 0 → b < 128 → vc.slots[b.toNatClampNeg]? = some (.int (own_dg b))) (hf : 0 ≤ f.toInt) (hu : u.toInt ≤ 4) (hbad : ¬ own_bad f u B) :
    Met l Z [] (⟨"org/antichain/core/EventId", "isLowercaseHex", "([BII)Z"⟩ : MethodName) prog_20_method_8_code 5 (some .boolean) ({ frames := 1, cells := 0, slots := 0, locals := 13 } : Room) #[(.ref t), (.int f), (.int u)] h0 (QP (some (.int (1 : Int32))) h0 n0) := by
  refine MetFree.of_bodySF (plainFor_of_name own_pn_1) hisR ?_
  intro p e s m args below meth c s₁ Bd hml0 hP hK
  obtain ⟨rfl, hZ, hh⟩ := hP
  have hx := Bd.exec
  have hby := Bd.bytes
  have hml : c.maxLocals = 5 := hml0
  have hown : s.vm.findClass "org/antichain/core/EventId" = some m.cls := findClass_of_methodNamed Bd.named
  have hnm := (name_of_methodNamed Bd.named Bd.method).1
  have X0 : Stand p l e ({ frames := 1, cells := 0, slots := 0, locals := 13 } : Room) s m #[(.ref t), (.int f), (.int u)] below meth c s₁ [] 0 0 := Stand.of_body Bd
  have e0 : s₁.heap = h0 := by rw [← hh, Bd.state]; rfl
  have N0 := Fr.nil n0
  have pre0 : ∀ t_, Steps p.tables e below (s₁.setTop (mkF m 0 #[.val (.ref t), .val (.int f), .val (.int u), .unset, .unset] [])) t_ → Steps p.tables e below (s₁.setTop (entryFrame m #[(.ref t), (.int f), (.int u)] 5)) t_ := fun t_ k_ => castTop (own_ef_2 m t f u) k_
  obtain ⟨T5, locs5, bits5, i5, X5, e5, N5, hb5, st5⟩ := own_loop t f u cl B va vc hx hZ hw hby hml hown Z0 AR SL HB HR SV AV SZ HV hu _ s₁ [] (0 : Int32) f X0 e0 N0 hf rfl
  obtain ⟨fs, hr, hrun, hended, hW, hsame⟩ := X5.leave (v := some (.int (1 : Int32))) (fun h => by rw [Bd.returns] at h; cases h)
  refine ⟨_, _, pre0 _ ?_, hrun, hended, _, _, rfl, ?_, ⟨_, rfl⟩, hW, hsame.mono (by decide) (by decide)⟩
  · show Steps p.tables e below (s₁.setTop (mkF m 0 #[.val (.ref t), .val (.int f), .val (.int u), .unset, .unset] [])) _
    refine XS.iconst X0.here hx rfl (hb hby own_d_prog_20_m8_0) ?_
    show Steps p.tables e below (s₁.setTop (mkF m 1 #[.val (.ref t), .val (.int f), .val (.int u), .unset, .unset] [(.int (0 : Int32))])) _
    refine XS.istoreN X0.here hx rfl (hb hby own_d_prog_20_m8_1) rfl (l' := #[.val (.ref t), .val (.int f), .val (.int u), .val (.int (0 : Int32)), .unset]) rfl ?_
    show Steps p.tables e below (s₁.setTop (mkF m 2 #[.val (.ref t), .val (.int f), .val (.int u), .val (.int (0 : Int32)), .unset] [])) _
    refine XS.iloadN X0.here hx rfl (hb hby own_d_prog_20_m8_2) rfl ?_
    show Steps p.tables e below (s₁.setTop (mkF m 3 #[.val (.ref t), .val (.int f), .val (.int u), .val (.int (0 : Int32)), .unset] [(.int f)])) _
    refine XS.istore X0.here hx rfl (hb hby own_d_prog_20_m8_3) rfl (l' := #[.val (.ref t), .val (.int f), .val (.int u), .val (.int (0 : Int32)), .val (.int f)]) rfl ?_
    show Steps p.tables e below (s₁.setTop (mkF m 5 #[.val (.ref t), .val (.int f), .val (.int u), .val (.int (0 : Int32)), .val (.int f)] [])) _
    refine st5 _ ?_
    show Steps p.tables e below (T5.setTop (mkF m 27 #[.val (.ref t), .val (.int f), .val (.int u), .val (.int bits5), .val (.int i5)] [])) _
    refine XS.iloadN X5.here hx rfl (hb hby own_d_prog_20_m8_27) rfl ?_
    show Steps p.tables e below (T5.setTop (mkF m 28 #[.val (.ref t), .val (.int f), .val (.int u), .val (.int bits5), .val (.int i5)] [(.int bits5)])) _
    refine XS.ifNo X5.here hx rfl (hb hby own_d_prog_20_m8_28) rfl ((if0 _ _).trans (flt (fun q => (hb5.mp q).elim (by decide) hbad : ¬ (bits5 < (0 : Int32)))).1) ?_
    show Steps p.tables e below (T5.setTop (mkF m 31 #[.val (.ref t), .val (.int f), .val (.int u), .val (.int bits5), .val (.int i5)] [])) _
    refine XS.iconst X5.here hx rfl (hb hby own_d_prog_20_m8_31) ?_
    show Steps p.tables e below (T5.setTop (mkF m 32 #[.val (.ref t), .val (.int f), .val (.int u), .val (.int bits5), .val (.int i5)] [(.int (1 : Int32))])) _
    refine XS.goto X5.here hx rfl (pc0 := 32) (pc' := 36) rfl (hb hby own_d_prog_20_m8_32) (by decide) (by decide) ?_
    show Steps p.tables e below (T5.setTop (mkF m 36 #[.val (.ref t), .val (.int f), .val (.int u), .val (.int bits5), .val (.int i5)] [(.int (1 : Int32))])) _
    exact retN X5 hx (t := .boolean) Bd.returns (by simp) (hb hby own_d_prog_20_m8_36) hr
  · show (QP (some (.int (1 : Int32))) h0 n0) _ T5.heap _
    rw [e5]
    exact ⟨rfl, N5, rfl⟩
theorem own_pd_2 : parseMethodDescriptor "([BIII)Z" = some ⟨[(.array .byte), .int, .int, .int], some .boolean⟩ := by decide +kernel
theorem own_pd_3 : parseMethodDescriptor "([BII)Z" = some ⟨[(.array .byte), .int, .int], some .boolean⟩ := by decide +kernel
def own_B (b0 b1 b2 b3 : Int32) (k : Nat) : Int32 := match k with | 0 => b0 | 1 => b1 | 2 => b2 | _ => b3
/-- the law returns 1; all that it wrote is new -/
def own_Q1 (n0 : Nat) (v : Option Value) (h : Heap) (L : List Loc) : Prop := v = some (.int 1) ∧ Fr n0 L
theorem own_ef_3 (m : MethodId) (x0 : Int32) (x1 : Int32) (x2 : Int32) : entryFrame m #[(.int x0), (.int x1), (.int x2)] maxLocals = mkF m 0 #[.val (.int x0), .val (.int x1), .val (.int x2), .unset, .unset, .unset, .unset] [] := by first | (simp [entryFrame, mkF, argsToLocals, Value.category, maxLocals]; done) | rfl
set_option maxRecDepth 65536 in
set_option maxHeartbeats 40000000 in
theorem own_law_0 (l : Launch) (Z : State) (a0 : Array Value) (hw : ∀ d ∈ tables_1, d.before a0 Z = true) (p0 : Int32) (p1 : Int32) (p2 : Int32) (f : Int32) (u : Int32) (b0 : Int32) (b1 : Int32) (b2 : Int32) (b3 : Int32) (va : Addr) (vc : Cell) (h0 : Heap) (n0 : Nat) (Z0 : n0 ≤ h0.size) (SV : Sta Z h0 "org/antichain/core/EventId" "VALUES" "[B" (.ref va)) (AV : Arr Z h0 va vc .byte) (SZ : vc.slots.size = (128 : Int32).toNatClampNeg) (HV : ∀ b : Int32, ¬ b < 0 → b < 128 → vc.slots[b.toNatClampNeg]? = some (.int (own_dg b))) (hfe : (p1 &&& (2147483647 : Int32)) % (5 : Int32) = f) (hue : (p2 &&& (2147483647 : Int32)) % (5 : Int32) = u) (hf : 0 ≤ f.toInt) (hu : u.toInt ≤ 4) (hb0 : nar .byte (p0.toInt8.toInt32) = b0) (hb1 : nar .byte ((p0 >>> ((8 : Int32) &&& 31)).toInt8.toInt32) = b1) (hb2 : nar .byte ((p0 >>> ((16 : Int32) &&& 31)).toInt8.toInt32) = b2) (hb3 : nar .byte ((p0 >>> ((24 : Int32) &&& 31)).toInt8.toInt32) = b3) (HR : ∀ k : Nat, own_B b0 b1 b2 b3 k < 128) (hbad : own_bad f u (own_B b0 b1 b2 b3)) (hc58 : (own_okv (0 : Int32) f u b0) = (0 : Int32)) :
    Met l Z tables_1 x code maxLocals ret room_1 #[(.int p0), (.int p1), (.int p2)] h0 (own_Q1 n0) := by
  refine MetFree.of_bodySF (plainFor_of_name own_pn_0) hisR ?_
  intro p e s m args below meth c s₁ Bd hml0 hP hK
  obtain ⟨rfl, hZ, hh⟩ := hP
  have hx := Bd.exec
  have hby := Bd.bytes
  have hml : c.maxLocals = 7 := hml0
  have hown : s.vm.findClass "org/antichain/core/EventIdIsLowercaseHexPinLaw" = some m.cls := findClass_of_methodNamed Bd.named
  have hnm := (name_of_methodNamed Bd.named Bd.method).1
  have X0 : Stand p l e room_1 s m #[(.int p0), (.int p1), (.int p2)] below meth c s₁ [] 0 0 := Stand.of_body Bd
  have e0 : s₁.heap = h0 := by rw [← hh, Bd.state]; rfl
  have N0 := Fr.nil n0
  have pre0 : ∀ t_, Steps p.tables e below (s₁.setTop (mkF m 0 #[.val (.int p0), .val (.int p1), .val (.int p2), .unset, .unset, .unset, .unset] [])) t_ → Steps p.tables e below (s₁.setTop (entryFrame m #[(.int p0), (.int p1), (.int p2)] maxLocals)) t_ := fun t_ k_ => castTop (own_ef_3 m p0 p1 p2) k_
  obtain ⟨T6, h6, k6, X6, e6, E6, A6, st6⟩ := newP X0 hx hZ (hw _ (List.mem_of_getElem? (i := 0) rfl)) e0 (g := (mkF m 1 #[.val (.int p0), .val (.int p1), .val (.int p2), .unset, .unset, .unset, .unset] [(.int (4 : Int32))])) rfl (hb hby at_1) rfl (by decide) (cap := 4) (by decide) (by decide) (by decide) (by decide)
  obtain ⟨b6, g6⟩ : ∃ z, z = h0.size := ⟨_, rfl⟩
  rw [← g6] at A6 st6
  have ne_va_b6 : va ≠ b6 := Nat.ne_of_lt (Nat.lt_of_lt_of_le AV.lt (Nat.le_of_eq g6.symm))
  have g_b6 : n0 ≤ b6 := Nat.le_trans Z0 (Nat.le_of_eq g6.symm)
  have SV_6 : Sta Z h6 "org/antichain/core/EventId" "VALUES" "[B" (.ref va) := SV.ext E6
  have AV_6 : Arr Z h6 va vc .byte := AV.ext E6
  have Z_6 : n0 ≤ h6.size := Nat.le_trans Z0 E6.1
  have V_b6 : Arv Z h6 b6 k6 .byte (4 : Int32) [(.int (0 : Int32)), (.int (0 : Int32)), (.int (0 : Int32)), (.int (0 : Int32))] (.int (0 : Int32)) := (Arv.new A6 (by decide)).pad (pad_rep [] (.int (0 : Int32)) 4)
  obtain ⟨cl_b6_8, Ar_b6_8, q_b6_8, S_b6_8, N_b6_8, H_b6_8, G_b6_8⟩ := V_b6
  have hinb6_8 : ¬ ((0 : Int32) < 0 ∨ cl_b6_8.slots.size ≤ ((0 : Int32)).toNatClampNeg) := inb_of S_b6_8 ⟨by decide, by decide⟩
  obtain ⟨T7, h7, X7, e7, W7, st7⟩ := stB X6 hx hZ e6 Ar_b6_8 (j := (0 : Int32)) hinb6_8 (g := (mkF m 8 #[.val (.int p0), .val (.int p1), .val (.int p2), .val (.ref b6), .unset, .unset, .unset] [(.int (p0.toInt8.toInt32)), (.int (0 : Int32)), (.ref b6)])) rfl rfl (hb hby at_8)
  have V_b6_7 : Arv Z h7 b6 k6 .byte (4 : Int32) [(.int (nar .byte (p0.toInt8.toInt32))), (.int (0 : Int32)), (.int (0 : Int32)), (.int (0 : Int32))] (.int (0 : Int32)) := Arv.set Ar_b6_8 q_b6_8 S_b6_8 N_b6_8 H_b6_8 G_b6_8 (fits_nar_byte _) W7 0 rfl (Nat.le_of_ble_eq_true rfl)
  have SV_7 : Sta Z h7 "org/antichain/core/EventId" "VALUES" "[B" (.ref va) := SV_6.wr W7
  have AV_7 : Arr Z h7 va vc .byte := AV_6.other W7 ne_va_b6
  have Z_7 : n0 ≤ h7.size := Nat.le_trans Z_6 (Keep.of_wr W7).1
  have N7 := Fr.snoc X7 N0 g_b6
  obtain ⟨cl_b6_16, Ar_b6_16, q_b6_16, S_b6_16, N_b6_16, H_b6_16, G_b6_16⟩ := V_b6_7
  have hinb6_16 : ¬ ((1 : Int32) < 0 ∨ cl_b6_16.slots.size ≤ ((1 : Int32)).toNatClampNeg) := inb_of S_b6_16 ⟨by decide, by decide⟩
  obtain ⟨T8, h8, X8, e8, W8, st8⟩ := stB X7 hx hZ e7 Ar_b6_16 (j := (1 : Int32)) hinb6_16 (g := (mkF m 16 #[.val (.int p0), .val (.int p1), .val (.int p2), .val (.ref b6), .unset, .unset, .unset] [(.int ((p0 >>> ((8 : Int32) &&& 31)).toInt8.toInt32)), (.int (1 : Int32)), (.ref b6)])) rfl rfl (hb hby at_16)
  have V_b6_8 : Arv Z h8 b6 k6 .byte (4 : Int32) [(.int (nar .byte (p0.toInt8.toInt32))), (.int (nar .byte ((p0 >>> ((8 : Int32) &&& 31)).toInt8.toInt32))), (.int (0 : Int32)), (.int (0 : Int32))] (.int (0 : Int32)) := Arv.set Ar_b6_16 q_b6_16 S_b6_16 N_b6_16 H_b6_16 G_b6_16 (fits_nar_byte _) W8 1 rfl (Nat.le_of_ble_eq_true rfl)
  have SV_8 : Sta Z h8 "org/antichain/core/EventId" "VALUES" "[B" (.ref va) := SV_7.wr W8
  have AV_8 : Arr Z h8 va vc .byte := AV_7.other W8 ne_va_b6
  have Z_8 : n0 ≤ h8.size := Nat.le_trans Z_7 (Keep.of_wr W8).1
  have N8 := Fr.snoc X8 N7 g_b6
  obtain ⟨cl_b6_24, Ar_b6_24, q_b6_24, S_b6_24, N_b6_24, H_b6_24, G_b6_24⟩ := V_b6_8
  have hinb6_24 : ¬ ((2 : Int32) < 0 ∨ cl_b6_24.slots.size ≤ ((2 : Int32)).toNatClampNeg) := inb_of S_b6_24 ⟨by decide, by decide⟩
  obtain ⟨T9, h9, X9, e9, W9, st9⟩ := stB X8 hx hZ e8 Ar_b6_24 (j := (2 : Int32)) hinb6_24 (g := (mkF m 24 #[.val (.int p0), .val (.int p1), .val (.int p2), .val (.ref b6), .unset, .unset, .unset] [(.int ((p0 >>> ((16 : Int32) &&& 31)).toInt8.toInt32)), (.int (2 : Int32)), (.ref b6)])) rfl rfl (hb hby at_24)
  have V_b6_9 : Arv Z h9 b6 k6 .byte (4 : Int32) [(.int (nar .byte (p0.toInt8.toInt32))), (.int (nar .byte ((p0 >>> ((8 : Int32) &&& 31)).toInt8.toInt32))), (.int (nar .byte ((p0 >>> ((16 : Int32) &&& 31)).toInt8.toInt32))), (.int (0 : Int32))] (.int (0 : Int32)) := Arv.set Ar_b6_24 q_b6_24 S_b6_24 N_b6_24 H_b6_24 G_b6_24 (fits_nar_byte _) W9 2 rfl (Nat.le_of_ble_eq_true rfl)
  have SV_9 : Sta Z h9 "org/antichain/core/EventId" "VALUES" "[B" (.ref va) := SV_8.wr W9
  have AV_9 : Arr Z h9 va vc .byte := AV_8.other W9 ne_va_b6
  have Z_9 : n0 ≤ h9.size := Nat.le_trans Z_8 (Keep.of_wr W9).1
  have N9 := Fr.snoc X9 N8 g_b6
  obtain ⟨cl_b6_32, Ar_b6_32, q_b6_32, S_b6_32, N_b6_32, H_b6_32, G_b6_32⟩ := V_b6_9
  have hinb6_32 : ¬ ((3 : Int32) < 0 ∨ cl_b6_32.slots.size ≤ ((3 : Int32)).toNatClampNeg) := inb_of S_b6_32 ⟨by decide, by decide⟩
  obtain ⟨T10, h10, X10, e10, W10, st10⟩ := stB X9 hx hZ e9 Ar_b6_32 (j := (3 : Int32)) hinb6_32 (g := (mkF m 32 #[.val (.int p0), .val (.int p1), .val (.int p2), .val (.ref b6), .unset, .unset, .unset] [(.int ((p0 >>> ((24 : Int32) &&& 31)).toInt8.toInt32)), (.int (3 : Int32)), (.ref b6)])) rfl rfl (hb hby at_32)
  have V_b6_10 : Arv Z h10 b6 k6 .byte (4 : Int32) [(.int (nar .byte (p0.toInt8.toInt32))), (.int (nar .byte ((p0 >>> ((8 : Int32) &&& 31)).toInt8.toInt32))), (.int (nar .byte ((p0 >>> ((16 : Int32) &&& 31)).toInt8.toInt32))), (.int (nar .byte ((p0 >>> ((24 : Int32) &&& 31)).toInt8.toInt32)))] (.int (0 : Int32)) := Arv.set Ar_b6_32 q_b6_32 S_b6_32 N_b6_32 H_b6_32 G_b6_32 (fits_nar_byte _) W10 3 rfl (Nat.le_of_ble_eq_true rfl)
  have SV_10 : Sta Z h10 "org/antichain/core/EventId" "VALUES" "[B" (.ref va) := SV_9.wr W10
  have AV_10 : Arr Z h10 va vc .byte := AV_9.other W10 ne_va_b6
  have Z_10 : n0 ≤ h10.size := Nat.le_trans Z_9 (Keep.of_wr W10).1
  have N10 := Fr.snoc X10 N9 g_b6
  rw [hb0, hb1, hb2, hb3] at V_b6_10
  obtain ⟨cl_b6_o11, Ar_b6_o11, q_b6_o11, S_b6_o11, N_b6_o11, H_b6_o11, G_b6_o11⟩ := V_b6_10
  have hin0 : ¬ ((0 : Int32) < 0 ∨ cl_b6_o11.slots.size ≤ (0 : Int32).toNatClampNeg) := inb_of S_b6_o11 ⟨by decide, by decide⟩
  have hat0 : cl_b6_o11.slots[(0 : Int32).toNatClampNeg]? = some (.int b0) := H_b6_o11.at hin0 rfl
  have hin1 : ¬ ((1 : Int32) < 0 ∨ cl_b6_o11.slots.size ≤ (1 : Int32).toNatClampNeg) := inb_of S_b6_o11 ⟨by decide, by decide⟩
  have hat1 : cl_b6_o11.slots[(1 : Int32).toNatClampNeg]? = some (.int b1) := H_b6_o11.at hin1 rfl
  have hin2 : ¬ ((2 : Int32) < 0 ∨ cl_b6_o11.slots.size ≤ (2 : Int32).toNatClampNeg) := inb_of S_b6_o11 ⟨by decide, by decide⟩
  have hat2 : cl_b6_o11.slots[(2 : Int32).toNatClampNeg]? = some (.int b2) := H_b6_o11.at hin2 rfl
  have hin3 : ¬ ((3 : Int32) < 0 ∨ cl_b6_o11.slots.size ≤ (3 : Int32).toNatClampNeg) := inb_of S_b6_o11 ⟨by decide, by decide⟩
  have hat3 : cl_b6_o11.slots[(3 : Int32).toNatClampNeg]? = some (.int b3) := H_b6_o11.at hin3 rfl
  have SL_b6_o11 : cl_b6_o11.slots.size = 4 := S_b6_o11
  have HB_b6_o11 : ∀ k : Nat, k < 4 → cl_b6_o11.slots[k]? = some (.int (own_B b0 b1 b2 b3 k)) := fun k hk => match k, hk with | 0, _ => hat0 | 1, _ => hat1 | 2, _ => hat2 | 3, _ => hat3 | k + 4, hk => absurd hk (by omega)
  obtain ⟨_, _, ⟨T12, L12, k12, n12⟩, -, X12, ⟨Lc12, hQ12, l12, y12, z12⟩, st12⟩ := Jvm.LawKit.callS X10 hx (y := (⟨"org/antichain/core/EventIdIsLowercaseHexPinLaw", "ok", "([BIII)Z"⟩ : MethodName)) hown (mvT hZ (hw _ (List.mem_of_getElem? (i := 2) rfl))) (mvT hZ (hw _ (List.mem_of_getElem? (i := 3) rfl))) (mvT hZ (hw _ (List.mem_of_getElem? (i := 4) rfl))) (mvT hZ (hw _ (List.mem_of_getElem? (i := 5) rfl))) (by decide) (backOf (W := 0) (own_ok l Z a0 hw b6 (0 : Int32) f u cl_b6_o11 b0 h10 n0 Z_10 Ar_b6_o11 hin0 hat0) hZ (hw _ (List.mem_of_getElem? (i := 5) rfl)) (hw _ (List.mem_of_getElem? (i := 4) rfl)) (by decide) (by decide)) (g := (mkF m 55 #[.val (.int p0), .val (.int p1), .val (.int p2), .val (.ref b6), .val (.int f), .val (.int u), .unset] [(.int u), (.int f), (.int (0 : Int32)), (.ref b6)])) rfl (by rw [hml]; rfl) (argsL := [(.ref b6), (.int (0 : Int32)), (.int f), (.int u)]) (rest := []) (lenOf own_pd_2 rfl) rfl (by show 2 * 0 + _ ≤ _; exact Nat.le_of_eq rfl) (hb hby at_55) (fun _ _ => ⟨rfl, e10, (by decide : 1 + 0 ≤ _), (by decide : 4 + 0 ≤ _)⟩)
  dsimp only [Pt.U, Pt.locs, Pt.cells, Pt.slots] at X12 l12 y12 z12 st12 hQ12
  subst l12 y12 z12
  obtain ⟨rfl, Nq12, eh12⟩ := hQ12
  have N12 := Fr.app N10 Nq12
  have e12 : T12.heap = h10 := eh12
  obtain ⟨_, _, ⟨T13, L13, k13, n13⟩, -, X13, ⟨Lc13, hQ13, l13, y13, z13⟩, st13⟩ := Jvm.LawKit.callS X12 hx (y := (⟨"org/antichain/core/EventId", "isLowercaseHex", "([BII)Z"⟩ : MethodName)) hown (mvT hZ (hw _ (List.mem_of_getElem? (i := 6) rfl))) (mvT hZ (hw _ (List.mem_of_getElem? (i := 7) rfl))) (mvT hZ (hw _ (List.mem_of_getElem? (i := 8) rfl))) (mvT hZ (hw _ (List.mem_of_getElem? (i := 9) rfl))) (by decide) (backOf (W := 0) (own_lh_0 l Z a0 hw b6 f u cl_b6_o11 (own_B b0 b1 b2 b3) va vc h10 n0 Z_10 Ar_b6_o11 SL_b6_o11 HB_b6_o11 HR SV_10 AV_10 SZ HV hf hu hbad) hZ (hw _ (List.mem_of_getElem? (i := 9) rfl)) (hw _ (List.mem_of_getElem? (i := 8) rfl)) (by decide) (by decide)) (g := (mkF m 109 #[.val (.int p0), .val (.int p1), .val (.int p2), .val (.ref b6), .val (.int f), .val (.int u), .val (.int (0 : Int32))] [(.int u), (.int f), (.ref b6)])) rfl (by rw [hml]; rfl) (argsL := [(.ref b6), (.int f), (.int u)]) (rest := []) (lenOf own_pd_3 rfl) rfl (by show 2 * 0 + _ ≤ _; exact Nat.le_of_eq rfl) (hb hby at_109) (fun _ _ => ⟨rfl, e12, (by decide : 1 + 0 ≤ _), (by decide : 4 + 0 ≤ _)⟩)
  dsimp only [Pt.U, Pt.locs, Pt.cells, Pt.slots] at X13 l13 y13 z13 st13 hQ13
  subst l13 y13 z13
  obtain ⟨rfl, Nq13, eh13⟩ := hQ13
  have N13 := Fr.app N12 Nq13
  have e13 : T13.heap = h10 := eh13
  obtain ⟨fs, hr, hrun, hended, hW, hsame⟩ := X13.leave (v := some (.int (1 : Int32))) (fun h => by rw [Bd.returns] at h; cases h)
  refine ⟨_, _, pre0 _ ?_, hrun, hended, _, _, rfl, ?_, ⟨_, rfl⟩, hW, hsame.mono (by decide) (by decide)⟩
  · show Steps p.tables e below (s₁.setTop (mkF m 0 #[.val (.int p0), .val (.int p1), .val (.int p2), .unset, .unset, .unset, .unset] [])) _
    refine XS.iconst X0.here hx rfl (hb hby at_0) ?_
    show Steps p.tables e below (s₁.setTop (mkF m 1 #[.val (.int p0), .val (.int p1), .val (.int p2), .unset, .unset, .unset, .unset] [(.int (4 : Int32))])) _
    refine st6 _ ?_
    show Steps p.tables e below (T6.setTop (mkF m 3 #[.val (.int p0), .val (.int p1), .val (.int p2), .unset, .unset, .unset, .unset] [(.ref b6)])) _
    refine XS.astoreN X6.here hx rfl (hb hby at_3) rfl rfl (l' := #[.val (.int p0), .val (.int p1), .val (.int p2), .val (.ref b6), .unset, .unset, .unset]) rfl ?_
    show Steps p.tables e below (T6.setTop (mkF m 4 #[.val (.int p0), .val (.int p1), .val (.int p2), .val (.ref b6), .unset, .unset, .unset] [])) _
    refine XS.aloadN X6.here hx rfl (hb hby at_4) rfl rfl ?_
    show Steps p.tables e below (T6.setTop (mkF m 5 #[.val (.int p0), .val (.int p1), .val (.int p2), .val (.ref b6), .unset, .unset, .unset] [(.ref b6)])) _
    refine XS.iconst X6.here hx rfl (hb hby at_5) ?_
    show Steps p.tables e below (T6.setTop (mkF m 6 #[.val (.int p0), .val (.int p1), .val (.int p2), .val (.ref b6), .unset, .unset, .unset] [(.int (0 : Int32)), (.ref b6)])) _
    refine XS.iloadN X6.here hx rfl (hb hby at_6) rfl ?_
    show Steps p.tables e below (T6.setTop (mkF m 7 #[.val (.int p0), .val (.int p1), .val (.int p2), .val (.ref b6), .unset, .unset, .unset] [(.int p0), (.int (0 : Int32)), (.ref b6)])) _
    refine XS.i2b X6.here hx rfl (hb hby at_7) rfl ?_
    show Steps p.tables e below (T6.setTop (mkF m 8 #[.val (.int p0), .val (.int p1), .val (.int p2), .val (.ref b6), .unset, .unset, .unset] [(.int (p0.toInt8.toInt32)), (.int (0 : Int32)), (.ref b6)])) _
    refine st7 _ ?_
    show Steps p.tables e below (T7.setTop (mkF m 9 #[.val (.int p0), .val (.int p1), .val (.int p2), .val (.ref b6), .unset, .unset, .unset] [])) _
    refine XS.aloadN X7.here hx rfl (hb hby at_9) rfl rfl ?_
    show Steps p.tables e below (T7.setTop (mkF m 10 #[.val (.int p0), .val (.int p1), .val (.int p2), .val (.ref b6), .unset, .unset, .unset] [(.ref b6)])) _
    refine XS.iconst X7.here hx rfl (hb hby at_10) ?_
    show Steps p.tables e below (T7.setTop (mkF m 11 #[.val (.int p0), .val (.int p1), .val (.int p2), .val (.ref b6), .unset, .unset, .unset] [(.int (1 : Int32)), (.ref b6)])) _
    refine XS.iloadN X7.here hx rfl (hb hby at_11) rfl ?_
    show Steps p.tables e below (T7.setTop (mkF m 12 #[.val (.int p0), .val (.int p1), .val (.int p2), .val (.ref b6), .unset, .unset, .unset] [(.int p0), (.int (1 : Int32)), (.ref b6)])) _
    refine XS.bipush X7.here hx rfl (hb hby at_12) ?_
    show Steps p.tables e below (T7.setTop (mkF m 14 #[.val (.int p0), .val (.int p1), .val (.int p2), .val (.ref b6), .unset, .unset, .unset] [(.int (8 : Int32)), (.int p0), (.int (1 : Int32)), (.ref b6)])) _
    refine XS.ishr X7.here hx rfl (hb hby at_14) rfl ?_
    show Steps p.tables e below (T7.setTop (mkF m 15 #[.val (.int p0), .val (.int p1), .val (.int p2), .val (.ref b6), .unset, .unset, .unset] [(.int (p0 >>> ((8 : Int32) &&& 31))), (.int (1 : Int32)), (.ref b6)])) _
    refine XS.i2b X7.here hx rfl (hb hby at_15) rfl ?_
    show Steps p.tables e below (T7.setTop (mkF m 16 #[.val (.int p0), .val (.int p1), .val (.int p2), .val (.ref b6), .unset, .unset, .unset] [(.int ((p0 >>> ((8 : Int32) &&& 31)).toInt8.toInt32)), (.int (1 : Int32)), (.ref b6)])) _
    refine st8 _ ?_
    show Steps p.tables e below (T8.setTop (mkF m 17 #[.val (.int p0), .val (.int p1), .val (.int p2), .val (.ref b6), .unset, .unset, .unset] [])) _
    refine XS.aloadN X8.here hx rfl (hb hby at_17) rfl rfl ?_
    show Steps p.tables e below (T8.setTop (mkF m 18 #[.val (.int p0), .val (.int p1), .val (.int p2), .val (.ref b6), .unset, .unset, .unset] [(.ref b6)])) _
    refine XS.iconst X8.here hx rfl (hb hby at_18) ?_
    show Steps p.tables e below (T8.setTop (mkF m 19 #[.val (.int p0), .val (.int p1), .val (.int p2), .val (.ref b6), .unset, .unset, .unset] [(.int (2 : Int32)), (.ref b6)])) _
    refine XS.iloadN X8.here hx rfl (hb hby at_19) rfl ?_
    show Steps p.tables e below (T8.setTop (mkF m 20 #[.val (.int p0), .val (.int p1), .val (.int p2), .val (.ref b6), .unset, .unset, .unset] [(.int p0), (.int (2 : Int32)), (.ref b6)])) _
    refine XS.bipush X8.here hx rfl (hb hby at_20) ?_
    show Steps p.tables e below (T8.setTop (mkF m 22 #[.val (.int p0), .val (.int p1), .val (.int p2), .val (.ref b6), .unset, .unset, .unset] [(.int (16 : Int32)), (.int p0), (.int (2 : Int32)), (.ref b6)])) _
    refine XS.ishr X8.here hx rfl (hb hby at_22) rfl ?_
    show Steps p.tables e below (T8.setTop (mkF m 23 #[.val (.int p0), .val (.int p1), .val (.int p2), .val (.ref b6), .unset, .unset, .unset] [(.int (p0 >>> ((16 : Int32) &&& 31))), (.int (2 : Int32)), (.ref b6)])) _
    refine XS.i2b X8.here hx rfl (hb hby at_23) rfl ?_
    show Steps p.tables e below (T8.setTop (mkF m 24 #[.val (.int p0), .val (.int p1), .val (.int p2), .val (.ref b6), .unset, .unset, .unset] [(.int ((p0 >>> ((16 : Int32) &&& 31)).toInt8.toInt32)), (.int (2 : Int32)), (.ref b6)])) _
    refine st9 _ ?_
    show Steps p.tables e below (T9.setTop (mkF m 25 #[.val (.int p0), .val (.int p1), .val (.int p2), .val (.ref b6), .unset, .unset, .unset] [])) _
    refine XS.aloadN X9.here hx rfl (hb hby at_25) rfl rfl ?_
    show Steps p.tables e below (T9.setTop (mkF m 26 #[.val (.int p0), .val (.int p1), .val (.int p2), .val (.ref b6), .unset, .unset, .unset] [(.ref b6)])) _
    refine XS.iconst X9.here hx rfl (hb hby at_26) ?_
    show Steps p.tables e below (T9.setTop (mkF m 27 #[.val (.int p0), .val (.int p1), .val (.int p2), .val (.ref b6), .unset, .unset, .unset] [(.int (3 : Int32)), (.ref b6)])) _
    refine XS.iloadN X9.here hx rfl (hb hby at_27) rfl ?_
    show Steps p.tables e below (T9.setTop (mkF m 28 #[.val (.int p0), .val (.int p1), .val (.int p2), .val (.ref b6), .unset, .unset, .unset] [(.int p0), (.int (3 : Int32)), (.ref b6)])) _
    refine XS.bipush X9.here hx rfl (hb hby at_28) ?_
    show Steps p.tables e below (T9.setTop (mkF m 30 #[.val (.int p0), .val (.int p1), .val (.int p2), .val (.ref b6), .unset, .unset, .unset] [(.int (24 : Int32)), (.int p0), (.int (3 : Int32)), (.ref b6)])) _
    refine XS.ishr X9.here hx rfl (hb hby at_30) rfl ?_
    show Steps p.tables e below (T9.setTop (mkF m 31 #[.val (.int p0), .val (.int p1), .val (.int p2), .val (.ref b6), .unset, .unset, .unset] [(.int (p0 >>> ((24 : Int32) &&& 31))), (.int (3 : Int32)), (.ref b6)])) _
    refine XS.i2b X9.here hx rfl (hb hby at_31) rfl ?_
    show Steps p.tables e below (T9.setTop (mkF m 32 #[.val (.int p0), .val (.int p1), .val (.int p2), .val (.ref b6), .unset, .unset, .unset] [(.int ((p0 >>> ((24 : Int32) &&& 31)).toInt8.toInt32)), (.int (3 : Int32)), (.ref b6)])) _
    refine st10 _ ?_
    show Steps p.tables e below (T10.setTop (mkF m 33 #[.val (.int p0), .val (.int p1), .val (.int p2), .val (.ref b6), .unset, .unset, .unset] [])) _
    refine XS.iloadN X10.here hx rfl (hb hby at_33) rfl ?_
    show Steps p.tables e below (T10.setTop (mkF m 34 #[.val (.int p0), .val (.int p1), .val (.int p2), .val (.ref b6), .unset, .unset, .unset] [(.int p1)])) _
    refine X10.ldcInt hx hown (mvT hZ (hw _ (List.mem_of_getElem? (i := 1) rfl))) (g := (mkF m 34 #[.val (.int p0), .val (.int p1), .val (.int p2), .val (.ref b6), .unset, .unset, .unset] [(.int p1)])) rfl (hb hby at_34) _ ?_
    show Steps p.tables e below (T10.setTop (mkF m 36 #[.val (.int p0), .val (.int p1), .val (.int p2), .val (.ref b6), .unset, .unset, .unset] [(.int (2147483647 : Int32)), (.int p1)])) _
    refine XS.iand X10.here hx rfl (hb hby at_36) rfl ?_
    show Steps p.tables e below (T10.setTop (mkF m 37 #[.val (.int p0), .val (.int p1), .val (.int p2), .val (.ref b6), .unset, .unset, .unset] [(.int (p1 &&& (2147483647 : Int32)))])) _
    refine XS.iconst X10.here hx rfl (hb hby at_37) ?_
    show Steps p.tables e below (T10.setTop (mkF m 38 #[.val (.int p0), .val (.int p1), .val (.int p2), .val (.ref b6), .unset, .unset, .unset] [(.int (5 : Int32)), (.int (p1 &&& (2147483647 : Int32)))])) _
    refine iremM X10 hx rfl (hb hby at_38) rfl (by decide) ?_
    rw [hfe]
    show Steps p.tables e below (T10.setTop (mkF m 39 #[.val (.int p0), .val (.int p1), .val (.int p2), .val (.ref b6), .unset, .unset, .unset] [(.int f)])) _
    refine XS.istore X10.here hx rfl (hb hby at_39) rfl (l' := #[.val (.int p0), .val (.int p1), .val (.int p2), .val (.ref b6), .val (.int f), .unset, .unset]) rfl ?_
    show Steps p.tables e below (T10.setTop (mkF m 41 #[.val (.int p0), .val (.int p1), .val (.int p2), .val (.ref b6), .val (.int f), .unset, .unset] [])) _
    refine XS.iloadN X10.here hx rfl (hb hby at_41) rfl ?_
    show Steps p.tables e below (T10.setTop (mkF m 42 #[.val (.int p0), .val (.int p1), .val (.int p2), .val (.ref b6), .val (.int f), .unset, .unset] [(.int p2)])) _
    refine X10.ldcInt hx hown (mvT hZ (hw _ (List.mem_of_getElem? (i := 1) rfl))) (g := (mkF m 42 #[.val (.int p0), .val (.int p1), .val (.int p2), .val (.ref b6), .val (.int f), .unset, .unset] [(.int p2)])) rfl (hb hby at_42) _ ?_
    show Steps p.tables e below (T10.setTop (mkF m 44 #[.val (.int p0), .val (.int p1), .val (.int p2), .val (.ref b6), .val (.int f), .unset, .unset] [(.int (2147483647 : Int32)), (.int p2)])) _
    refine XS.iand X10.here hx rfl (hb hby at_44) rfl ?_
    show Steps p.tables e below (T10.setTop (mkF m 45 #[.val (.int p0), .val (.int p1), .val (.int p2), .val (.ref b6), .val (.int f), .unset, .unset] [(.int (p2 &&& (2147483647 : Int32)))])) _
    refine XS.iconst X10.here hx rfl (hb hby at_45) ?_
    show Steps p.tables e below (T10.setTop (mkF m 46 #[.val (.int p0), .val (.int p1), .val (.int p2), .val (.ref b6), .val (.int f), .unset, .unset] [(.int (5 : Int32)), (.int (p2 &&& (2147483647 : Int32)))])) _
    refine iremM X10 hx rfl (hb hby at_46) rfl (by decide) ?_
    rw [hue]
    show Steps p.tables e below (T10.setTop (mkF m 47 #[.val (.int p0), .val (.int p1), .val (.int p2), .val (.ref b6), .val (.int f), .unset, .unset] [(.int u)])) _
    refine XS.istore X10.here hx rfl (hb hby at_47) rfl (l' := #[.val (.int p0), .val (.int p1), .val (.int p2), .val (.ref b6), .val (.int f), .val (.int u), .unset]) rfl ?_
    show Steps p.tables e below (T10.setTop (mkF m 49 #[.val (.int p0), .val (.int p1), .val (.int p2), .val (.ref b6), .val (.int f), .val (.int u), .unset] [])) _
    refine XS.aloadN X10.here hx rfl (hb hby at_49) rfl rfl ?_
    show Steps p.tables e below (T10.setTop (mkF m 50 #[.val (.int p0), .val (.int p1), .val (.int p2), .val (.ref b6), .val (.int f), .val (.int u), .unset] [(.ref b6)])) _
    refine XS.iconst X10.here hx rfl (hb hby at_50) ?_
    show Steps p.tables e below (T10.setTop (mkF m 51 #[.val (.int p0), .val (.int p1), .val (.int p2), .val (.ref b6), .val (.int f), .val (.int u), .unset] [(.int (0 : Int32)), (.ref b6)])) _
    refine XS.iload X10.here hx rfl (hb hby at_51) rfl ?_
    show Steps p.tables e below (T10.setTop (mkF m 53 #[.val (.int p0), .val (.int p1), .val (.int p2), .val (.ref b6), .val (.int f), .val (.int u), .unset] [(.int f), (.int (0 : Int32)), (.ref b6)])) _
    refine XS.iload X10.here hx rfl (hb hby at_53) rfl ?_
    show Steps p.tables e below (T10.setTop (mkF m 55 #[.val (.int p0), .val (.int p1), .val (.int p2), .val (.ref b6), .val (.int f), .val (.int u), .unset] [(.int u), (.int f), (.int (0 : Int32)), (.ref b6)])) _
    refine st12 _ ?_
    show Steps p.tables e below (T12.setTop (mkF m 58 #[.val (.int p0), .val (.int p1), .val (.int p2), .val (.ref b6), .val (.int f), .val (.int u), .unset] [(.int (own_okv (0 : Int32) f u b0))])) _
    refine XS.ifYes X12.here hx rfl (pc0 := 58) (pc' := 101) rfl (hb hby at_58) rfl ((if0 _ _).trans (teq hc58).1) (by decide) (by decide) ?_
    show Steps p.tables e below (T12.setTop (mkF m 101 #[.val (.int p0), .val (.int p1), .val (.int p2), .val (.ref b6), .val (.int f), .val (.int u), .unset] [])) _
    refine XS.iconst X12.here hx rfl (hb hby at_101) ?_
    show Steps p.tables e below (T12.setTop (mkF m 102 #[.val (.int p0), .val (.int p1), .val (.int p2), .val (.ref b6), .val (.int f), .val (.int u), .unset] [(.int (0 : Int32))])) _
    refine XS.istore X12.here hx rfl (hb hby at_102) rfl (l' := #[.val (.int p0), .val (.int p1), .val (.int p2), .val (.ref b6), .val (.int f), .val (.int u), .val (.int (0 : Int32))]) rfl ?_
    show Steps p.tables e below (T12.setTop (mkF m 104 #[.val (.int p0), .val (.int p1), .val (.int p2), .val (.ref b6), .val (.int f), .val (.int u), .val (.int (0 : Int32))] [])) _
    refine XS.aloadN X12.here hx rfl (hb hby at_104) rfl rfl ?_
    show Steps p.tables e below (T12.setTop (mkF m 105 #[.val (.int p0), .val (.int p1), .val (.int p2), .val (.ref b6), .val (.int f), .val (.int u), .val (.int (0 : Int32))] [(.ref b6)])) _
    refine XS.iload X12.here hx rfl (hb hby at_105) rfl ?_
    show Steps p.tables e below (T12.setTop (mkF m 107 #[.val (.int p0), .val (.int p1), .val (.int p2), .val (.ref b6), .val (.int f), .val (.int u), .val (.int (0 : Int32))] [(.int f), (.ref b6)])) _
    refine XS.iload X12.here hx rfl (hb hby at_107) rfl ?_
    show Steps p.tables e below (T12.setTop (mkF m 109 #[.val (.int p0), .val (.int p1), .val (.int p2), .val (.ref b6), .val (.int f), .val (.int u), .val (.int (0 : Int32))] [(.int u), (.int f), (.ref b6)])) _
    refine st13 _ ?_
    show Steps p.tables e below (T13.setTop (mkF m 112 #[.val (.int p0), .val (.int p1), .val (.int p2), .val (.ref b6), .val (.int f), .val (.int u), .val (.int (0 : Int32))] [(.int (0 : Int32))])) _
    refine XS.iload X13.here hx rfl (hb hby at_112) rfl ?_
    show Steps p.tables e below (T13.setTop (mkF m 114 #[.val (.int p0), .val (.int p1), .val (.int p2), .val (.ref b6), .val (.int f), .val (.int u), .val (.int (0 : Int32))] [(.int (0 : Int32)), (.int (0 : Int32))])) _
    refine XS.icmpNo X13.here hx rfl (hb hby at_114) rfl (teq (rfl : (0 : Int32) = (0 : Int32))).2 ?_
    show Steps p.tables e below (T13.setTop (mkF m 117 #[.val (.int p0), .val (.int p1), .val (.int p2), .val (.ref b6), .val (.int f), .val (.int u), .val (.int (0 : Int32))] [])) _
    refine XS.iconst X13.here hx rfl (hb hby at_117) ?_
    show Steps p.tables e below (T13.setTop (mkF m 118 #[.val (.int p0), .val (.int p1), .val (.int p2), .val (.ref b6), .val (.int f), .val (.int u), .val (.int (0 : Int32))] [(.int (1 : Int32))])) _
    refine XS.goto X13.here hx rfl (pc0 := 118) (pc' := 122) rfl (hb hby at_118) (by decide) (by decide) ?_
    show Steps p.tables e below (T13.setTop (mkF m 122 #[.val (.int p0), .val (.int p1), .val (.int p2), .val (.ref b6), .val (.int f), .val (.int u), .val (.int (0 : Int32))] [(.int (1 : Int32))])) _
    exact retN X13 hx (t := .boolean) Bd.returns (by simp) (hb hby at_122) hr
  · show (own_Q1 n0) _ T13.heap _
    rw [e13]
    exact ⟨rfl, N13⟩
set_option maxRecDepth 65536 in
set_option maxHeartbeats 40000000 in
theorem own_law_1 (l : Launch) (Z : State) (a0 : Array Value) (hw : ∀ d ∈ tables_1, d.before a0 Z = true) (p0 : Int32) (p1 : Int32) (p2 : Int32) (f : Int32) (u : Int32) (b0 : Int32) (b1 : Int32) (b2 : Int32) (b3 : Int32) (va : Addr) (vc : Cell) (h0 : Heap) (n0 : Nat) (Z0 : n0 ≤ h0.size) (SV : Sta Z h0 "org/antichain/core/EventId" "VALUES" "[B" (.ref va)) (AV : Arr Z h0 va vc .byte) (SZ : vc.slots.size = (128 : Int32).toNatClampNeg) (HV : ∀ b : Int32, ¬ b < 0 → b < 128 → vc.slots[b.toNatClampNeg]? = some (.int (own_dg b))) (hfe : (p1 &&& (2147483647 : Int32)) % (5 : Int32) = f) (hue : (p2 &&& (2147483647 : Int32)) % (5 : Int32) = u) (hf : 0 ≤ f.toInt) (hu : u.toInt ≤ 4) (hb0 : nar .byte (p0.toInt8.toInt32) = b0) (hb1 : nar .byte ((p0 >>> ((8 : Int32) &&& 31)).toInt8.toInt32) = b1) (hb2 : nar .byte ((p0 >>> ((16 : Int32) &&& 31)).toInt8.toInt32) = b2) (hb3 : nar .byte ((p0 >>> ((24 : Int32) &&& 31)).toInt8.toInt32) = b3) (HR : ∀ k : Nat, own_B b0 b1 b2 b3 k < 128) (hbad : own_bad f u (own_B b0 b1 b2 b3)) (hc58 : ¬ ((own_okv (0 : Int32) f u b0) = (0 : Int32))) (hc70 : (own_okv (1 : Int32) f u b1) = (0 : Int32)) :
    Met l Z tables_1 x code maxLocals ret room_1 #[(.int p0), (.int p1), (.int p2)] h0 (own_Q1 n0) := by
  refine MetFree.of_bodySF (plainFor_of_name own_pn_0) hisR ?_
  intro p e s m args below meth c s₁ Bd hml0 hP hK
  obtain ⟨rfl, hZ, hh⟩ := hP
  have hx := Bd.exec
  have hby := Bd.bytes
  have hml : c.maxLocals = 7 := hml0
  have hown : s.vm.findClass "org/antichain/core/EventIdIsLowercaseHexPinLaw" = some m.cls := findClass_of_methodNamed Bd.named
  have hnm := (name_of_methodNamed Bd.named Bd.method).1
  have X0 : Stand p l e room_1 s m #[(.int p0), (.int p1), (.int p2)] below meth c s₁ [] 0 0 := Stand.of_body Bd
  have e0 : s₁.heap = h0 := by rw [← hh, Bd.state]; rfl
  have N0 := Fr.nil n0
  have pre0 : ∀ t_, Steps p.tables e below (s₁.setTop (mkF m 0 #[.val (.int p0), .val (.int p1), .val (.int p2), .unset, .unset, .unset, .unset] [])) t_ → Steps p.tables e below (s₁.setTop (entryFrame m #[(.int p0), (.int p1), (.int p2)] maxLocals)) t_ := fun t_ k_ => castTop (own_ef_3 m p0 p1 p2) k_
  obtain ⟨T14, h14, k14, X14, e14, E14, A14, st14⟩ := newP X0 hx hZ (hw _ (List.mem_of_getElem? (i := 0) rfl)) e0 (g := (mkF m 1 #[.val (.int p0), .val (.int p1), .val (.int p2), .unset, .unset, .unset, .unset] [(.int (4 : Int32))])) rfl (hb hby at_1) rfl (by decide) (cap := 4) (by decide) (by decide) (by decide) (by decide)
  obtain ⟨b14, g14⟩ : ∃ z, z = h0.size := ⟨_, rfl⟩
  rw [← g14] at A14 st14
  have ne_va_b14 : va ≠ b14 := Nat.ne_of_lt (Nat.lt_of_lt_of_le AV.lt (Nat.le_of_eq g14.symm))
  have g_b14 : n0 ≤ b14 := Nat.le_trans Z0 (Nat.le_of_eq g14.symm)
  have SV_14 : Sta Z h14 "org/antichain/core/EventId" "VALUES" "[B" (.ref va) := SV.ext E14
  have AV_14 : Arr Z h14 va vc .byte := AV.ext E14
  have Z_14 : n0 ≤ h14.size := Nat.le_trans Z0 E14.1
  have V_b14 : Arv Z h14 b14 k14 .byte (4 : Int32) [(.int (0 : Int32)), (.int (0 : Int32)), (.int (0 : Int32)), (.int (0 : Int32))] (.int (0 : Int32)) := (Arv.new A14 (by decide)).pad (pad_rep [] (.int (0 : Int32)) 4)
  obtain ⟨cl_b14_8, Ar_b14_8, q_b14_8, S_b14_8, N_b14_8, H_b14_8, G_b14_8⟩ := V_b14
  have hinb14_8 : ¬ ((0 : Int32) < 0 ∨ cl_b14_8.slots.size ≤ ((0 : Int32)).toNatClampNeg) := inb_of S_b14_8 ⟨by decide, by decide⟩
  obtain ⟨T15, h15, X15, e15, W15, st15⟩ := stB X14 hx hZ e14 Ar_b14_8 (j := (0 : Int32)) hinb14_8 (g := (mkF m 8 #[.val (.int p0), .val (.int p1), .val (.int p2), .val (.ref b14), .unset, .unset, .unset] [(.int (p0.toInt8.toInt32)), (.int (0 : Int32)), (.ref b14)])) rfl rfl (hb hby at_8)
  have V_b14_15 : Arv Z h15 b14 k14 .byte (4 : Int32) [(.int (nar .byte (p0.toInt8.toInt32))), (.int (0 : Int32)), (.int (0 : Int32)), (.int (0 : Int32))] (.int (0 : Int32)) := Arv.set Ar_b14_8 q_b14_8 S_b14_8 N_b14_8 H_b14_8 G_b14_8 (fits_nar_byte _) W15 0 rfl (Nat.le_of_ble_eq_true rfl)
  have SV_15 : Sta Z h15 "org/antichain/core/EventId" "VALUES" "[B" (.ref va) := SV_14.wr W15
  have AV_15 : Arr Z h15 va vc .byte := AV_14.other W15 ne_va_b14
  have Z_15 : n0 ≤ h15.size := Nat.le_trans Z_14 (Keep.of_wr W15).1
  have N15 := Fr.snoc X15 N0 g_b14
  obtain ⟨cl_b14_16, Ar_b14_16, q_b14_16, S_b14_16, N_b14_16, H_b14_16, G_b14_16⟩ := V_b14_15
  have hinb14_16 : ¬ ((1 : Int32) < 0 ∨ cl_b14_16.slots.size ≤ ((1 : Int32)).toNatClampNeg) := inb_of S_b14_16 ⟨by decide, by decide⟩
  obtain ⟨T16, h16, X16, e16, W16, st16⟩ := stB X15 hx hZ e15 Ar_b14_16 (j := (1 : Int32)) hinb14_16 (g := (mkF m 16 #[.val (.int p0), .val (.int p1), .val (.int p2), .val (.ref b14), .unset, .unset, .unset] [(.int ((p0 >>> ((8 : Int32) &&& 31)).toInt8.toInt32)), (.int (1 : Int32)), (.ref b14)])) rfl rfl (hb hby at_16)
  have V_b14_16 : Arv Z h16 b14 k14 .byte (4 : Int32) [(.int (nar .byte (p0.toInt8.toInt32))), (.int (nar .byte ((p0 >>> ((8 : Int32) &&& 31)).toInt8.toInt32))), (.int (0 : Int32)), (.int (0 : Int32))] (.int (0 : Int32)) := Arv.set Ar_b14_16 q_b14_16 S_b14_16 N_b14_16 H_b14_16 G_b14_16 (fits_nar_byte _) W16 1 rfl (Nat.le_of_ble_eq_true rfl)
  have SV_16 : Sta Z h16 "org/antichain/core/EventId" "VALUES" "[B" (.ref va) := SV_15.wr W16
  have AV_16 : Arr Z h16 va vc .byte := AV_15.other W16 ne_va_b14
  have Z_16 : n0 ≤ h16.size := Nat.le_trans Z_15 (Keep.of_wr W16).1
  have N16 := Fr.snoc X16 N15 g_b14
  obtain ⟨cl_b14_24, Ar_b14_24, q_b14_24, S_b14_24, N_b14_24, H_b14_24, G_b14_24⟩ := V_b14_16
  have hinb14_24 : ¬ ((2 : Int32) < 0 ∨ cl_b14_24.slots.size ≤ ((2 : Int32)).toNatClampNeg) := inb_of S_b14_24 ⟨by decide, by decide⟩
  obtain ⟨T17, h17, X17, e17, W17, st17⟩ := stB X16 hx hZ e16 Ar_b14_24 (j := (2 : Int32)) hinb14_24 (g := (mkF m 24 #[.val (.int p0), .val (.int p1), .val (.int p2), .val (.ref b14), .unset, .unset, .unset] [(.int ((p0 >>> ((16 : Int32) &&& 31)).toInt8.toInt32)), (.int (2 : Int32)), (.ref b14)])) rfl rfl (hb hby at_24)
  have V_b14_17 : Arv Z h17 b14 k14 .byte (4 : Int32) [(.int (nar .byte (p0.toInt8.toInt32))), (.int (nar .byte ((p0 >>> ((8 : Int32) &&& 31)).toInt8.toInt32))), (.int (nar .byte ((p0 >>> ((16 : Int32) &&& 31)).toInt8.toInt32))), (.int (0 : Int32))] (.int (0 : Int32)) := Arv.set Ar_b14_24 q_b14_24 S_b14_24 N_b14_24 H_b14_24 G_b14_24 (fits_nar_byte _) W17 2 rfl (Nat.le_of_ble_eq_true rfl)
  have SV_17 : Sta Z h17 "org/antichain/core/EventId" "VALUES" "[B" (.ref va) := SV_16.wr W17
  have AV_17 : Arr Z h17 va vc .byte := AV_16.other W17 ne_va_b14
  have Z_17 : n0 ≤ h17.size := Nat.le_trans Z_16 (Keep.of_wr W17).1
  have N17 := Fr.snoc X17 N16 g_b14
  obtain ⟨cl_b14_32, Ar_b14_32, q_b14_32, S_b14_32, N_b14_32, H_b14_32, G_b14_32⟩ := V_b14_17
  have hinb14_32 : ¬ ((3 : Int32) < 0 ∨ cl_b14_32.slots.size ≤ ((3 : Int32)).toNatClampNeg) := inb_of S_b14_32 ⟨by decide, by decide⟩
  obtain ⟨T18, h18, X18, e18, W18, st18⟩ := stB X17 hx hZ e17 Ar_b14_32 (j := (3 : Int32)) hinb14_32 (g := (mkF m 32 #[.val (.int p0), .val (.int p1), .val (.int p2), .val (.ref b14), .unset, .unset, .unset] [(.int ((p0 >>> ((24 : Int32) &&& 31)).toInt8.toInt32)), (.int (3 : Int32)), (.ref b14)])) rfl rfl (hb hby at_32)
  have V_b14_18 : Arv Z h18 b14 k14 .byte (4 : Int32) [(.int (nar .byte (p0.toInt8.toInt32))), (.int (nar .byte ((p0 >>> ((8 : Int32) &&& 31)).toInt8.toInt32))), (.int (nar .byte ((p0 >>> ((16 : Int32) &&& 31)).toInt8.toInt32))), (.int (nar .byte ((p0 >>> ((24 : Int32) &&& 31)).toInt8.toInt32)))] (.int (0 : Int32)) := Arv.set Ar_b14_32 q_b14_32 S_b14_32 N_b14_32 H_b14_32 G_b14_32 (fits_nar_byte _) W18 3 rfl (Nat.le_of_ble_eq_true rfl)
  have SV_18 : Sta Z h18 "org/antichain/core/EventId" "VALUES" "[B" (.ref va) := SV_17.wr W18
  have AV_18 : Arr Z h18 va vc .byte := AV_17.other W18 ne_va_b14
  have Z_18 : n0 ≤ h18.size := Nat.le_trans Z_17 (Keep.of_wr W18).1
  have N18 := Fr.snoc X18 N17 g_b14
  rw [hb0, hb1, hb2, hb3] at V_b14_18
  obtain ⟨cl_b14_o19, Ar_b14_o19, q_b14_o19, S_b14_o19, N_b14_o19, H_b14_o19, G_b14_o19⟩ := V_b14_18
  have hin0 : ¬ ((0 : Int32) < 0 ∨ cl_b14_o19.slots.size ≤ (0 : Int32).toNatClampNeg) := inb_of S_b14_o19 ⟨by decide, by decide⟩
  have hat0 : cl_b14_o19.slots[(0 : Int32).toNatClampNeg]? = some (.int b0) := H_b14_o19.at hin0 rfl
  have hin1 : ¬ ((1 : Int32) < 0 ∨ cl_b14_o19.slots.size ≤ (1 : Int32).toNatClampNeg) := inb_of S_b14_o19 ⟨by decide, by decide⟩
  have hat1 : cl_b14_o19.slots[(1 : Int32).toNatClampNeg]? = some (.int b1) := H_b14_o19.at hin1 rfl
  have hin2 : ¬ ((2 : Int32) < 0 ∨ cl_b14_o19.slots.size ≤ (2 : Int32).toNatClampNeg) := inb_of S_b14_o19 ⟨by decide, by decide⟩
  have hat2 : cl_b14_o19.slots[(2 : Int32).toNatClampNeg]? = some (.int b2) := H_b14_o19.at hin2 rfl
  have hin3 : ¬ ((3 : Int32) < 0 ∨ cl_b14_o19.slots.size ≤ (3 : Int32).toNatClampNeg) := inb_of S_b14_o19 ⟨by decide, by decide⟩
  have hat3 : cl_b14_o19.slots[(3 : Int32).toNatClampNeg]? = some (.int b3) := H_b14_o19.at hin3 rfl
  have SL_b14_o19 : cl_b14_o19.slots.size = 4 := S_b14_o19
  have HB_b14_o19 : ∀ k : Nat, k < 4 → cl_b14_o19.slots[k]? = some (.int (own_B b0 b1 b2 b3 k)) := fun k hk => match k, hk with | 0, _ => hat0 | 1, _ => hat1 | 2, _ => hat2 | 3, _ => hat3 | k + 4, hk => absurd hk (by omega)
  obtain ⟨_, _, ⟨T20, L20, k20, n20⟩, -, X20, ⟨Lc20, hQ20, l20, y20, z20⟩, st20⟩ := Jvm.LawKit.callS X18 hx (y := (⟨"org/antichain/core/EventIdIsLowercaseHexPinLaw", "ok", "([BIII)Z"⟩ : MethodName)) hown (mvT hZ (hw _ (List.mem_of_getElem? (i := 2) rfl))) (mvT hZ (hw _ (List.mem_of_getElem? (i := 3) rfl))) (mvT hZ (hw _ (List.mem_of_getElem? (i := 4) rfl))) (mvT hZ (hw _ (List.mem_of_getElem? (i := 5) rfl))) (by decide) (backOf (W := 0) (own_ok l Z a0 hw b14 (0 : Int32) f u cl_b14_o19 b0 h18 n0 Z_18 Ar_b14_o19 hin0 hat0) hZ (hw _ (List.mem_of_getElem? (i := 5) rfl)) (hw _ (List.mem_of_getElem? (i := 4) rfl)) (by decide) (by decide)) (g := (mkF m 55 #[.val (.int p0), .val (.int p1), .val (.int p2), .val (.ref b14), .val (.int f), .val (.int u), .unset] [(.int u), (.int f), (.int (0 : Int32)), (.ref b14)])) rfl (by rw [hml]; rfl) (argsL := [(.ref b14), (.int (0 : Int32)), (.int f), (.int u)]) (rest := []) (lenOf own_pd_2 rfl) rfl (by show 2 * 0 + _ ≤ _; exact Nat.le_of_eq rfl) (hb hby at_55) (fun _ _ => ⟨rfl, e18, (by decide : 1 + 0 ≤ _), (by decide : 4 + 0 ≤ _)⟩)
  dsimp only [Pt.U, Pt.locs, Pt.cells, Pt.slots] at X20 l20 y20 z20 st20 hQ20
  subst l20 y20 z20
  obtain ⟨rfl, Nq20, eh20⟩ := hQ20
  have N20 := Fr.app N18 Nq20
  have e20 : T20.heap = h18 := eh20
  obtain ⟨_, _, ⟨T21, L21, k21, n21⟩, -, X21, ⟨Lc21, hQ21, l21, y21, z21⟩, st21⟩ := Jvm.LawKit.callS X20 hx (y := (⟨"org/antichain/core/EventIdIsLowercaseHexPinLaw", "ok", "([BIII)Z"⟩ : MethodName)) hown (mvT hZ (hw _ (List.mem_of_getElem? (i := 2) rfl))) (mvT hZ (hw _ (List.mem_of_getElem? (i := 3) rfl))) (mvT hZ (hw _ (List.mem_of_getElem? (i := 4) rfl))) (mvT hZ (hw _ (List.mem_of_getElem? (i := 5) rfl))) (by decide) (backOf (W := 0) (own_ok l Z a0 hw b14 (1 : Int32) f u cl_b14_o19 b1 h18 n0 Z_18 Ar_b14_o19 hin1 hat1) hZ (hw _ (List.mem_of_getElem? (i := 5) rfl)) (hw _ (List.mem_of_getElem? (i := 4) rfl)) (by decide) (by decide)) (g := (mkF m 67 #[.val (.int p0), .val (.int p1), .val (.int p2), .val (.ref b14), .val (.int f), .val (.int u), .unset] [(.int u), (.int f), (.int (1 : Int32)), (.ref b14)])) rfl (by rw [hml]; rfl) (argsL := [(.ref b14), (.int (1 : Int32)), (.int f), (.int u)]) (rest := []) (lenOf own_pd_2 rfl) rfl (by show 2 * 0 + _ ≤ _; exact Nat.le_of_eq rfl) (hb hby at_67) (fun _ _ => ⟨rfl, e20, (by decide : 1 + 0 ≤ _), (by decide : 4 + 0 ≤ _)⟩)
  dsimp only [Pt.U, Pt.locs, Pt.cells, Pt.slots] at X21 l21 y21 z21 st21 hQ21
  subst l21 y21 z21
  obtain ⟨rfl, Nq21, eh21⟩ := hQ21
  have N21 := Fr.app N20 Nq21
  have e21 : T21.heap = h18 := eh21
  obtain ⟨_, _, ⟨T22, L22, k22, n22⟩, -, X22, ⟨Lc22, hQ22, l22, y22, z22⟩, st22⟩ := Jvm.LawKit.callS X21 hx (y := (⟨"org/antichain/core/EventId", "isLowercaseHex", "([BII)Z"⟩ : MethodName)) hown (mvT hZ (hw _ (List.mem_of_getElem? (i := 6) rfl))) (mvT hZ (hw _ (List.mem_of_getElem? (i := 7) rfl))) (mvT hZ (hw _ (List.mem_of_getElem? (i := 8) rfl))) (mvT hZ (hw _ (List.mem_of_getElem? (i := 9) rfl))) (by decide) (backOf (W := 0) (own_lh_0 l Z a0 hw b14 f u cl_b14_o19 (own_B b0 b1 b2 b3) va vc h18 n0 Z_18 Ar_b14_o19 SL_b14_o19 HB_b14_o19 HR SV_18 AV_18 SZ HV hf hu hbad) hZ (hw _ (List.mem_of_getElem? (i := 9) rfl)) (hw _ (List.mem_of_getElem? (i := 8) rfl)) (by decide) (by decide)) (g := (mkF m 109 #[.val (.int p0), .val (.int p1), .val (.int p2), .val (.ref b14), .val (.int f), .val (.int u), .val (.int (0 : Int32))] [(.int u), (.int f), (.ref b14)])) rfl (by rw [hml]; rfl) (argsL := [(.ref b14), (.int f), (.int u)]) (rest := []) (lenOf own_pd_3 rfl) rfl (by show 2 * 0 + _ ≤ _; exact Nat.le_of_eq rfl) (hb hby at_109) (fun _ _ => ⟨rfl, e21, (by decide : 1 + 0 ≤ _), (by decide : 4 + 0 ≤ _)⟩)
  dsimp only [Pt.U, Pt.locs, Pt.cells, Pt.slots] at X22 l22 y22 z22 st22 hQ22
  subst l22 y22 z22
  obtain ⟨rfl, Nq22, eh22⟩ := hQ22
  have N22 := Fr.app N21 Nq22
  have e22 : T22.heap = h18 := eh22
  obtain ⟨fs, hr, hrun, hended, hW, hsame⟩ := X22.leave (v := some (.int (1 : Int32))) (fun h => by rw [Bd.returns] at h; cases h)
  refine ⟨_, _, pre0 _ ?_, hrun, hended, _, _, rfl, ?_, ⟨_, rfl⟩, hW, hsame.mono (by decide) (by decide)⟩
  · show Steps p.tables e below (s₁.setTop (mkF m 0 #[.val (.int p0), .val (.int p1), .val (.int p2), .unset, .unset, .unset, .unset] [])) _
    refine XS.iconst X0.here hx rfl (hb hby at_0) ?_
    show Steps p.tables e below (s₁.setTop (mkF m 1 #[.val (.int p0), .val (.int p1), .val (.int p2), .unset, .unset, .unset, .unset] [(.int (4 : Int32))])) _
    refine st14 _ ?_
    show Steps p.tables e below (T14.setTop (mkF m 3 #[.val (.int p0), .val (.int p1), .val (.int p2), .unset, .unset, .unset, .unset] [(.ref b14)])) _
    refine XS.astoreN X14.here hx rfl (hb hby at_3) rfl rfl (l' := #[.val (.int p0), .val (.int p1), .val (.int p2), .val (.ref b14), .unset, .unset, .unset]) rfl ?_
    show Steps p.tables e below (T14.setTop (mkF m 4 #[.val (.int p0), .val (.int p1), .val (.int p2), .val (.ref b14), .unset, .unset, .unset] [])) _
    refine XS.aloadN X14.here hx rfl (hb hby at_4) rfl rfl ?_
    show Steps p.tables e below (T14.setTop (mkF m 5 #[.val (.int p0), .val (.int p1), .val (.int p2), .val (.ref b14), .unset, .unset, .unset] [(.ref b14)])) _
    refine XS.iconst X14.here hx rfl (hb hby at_5) ?_
    show Steps p.tables e below (T14.setTop (mkF m 6 #[.val (.int p0), .val (.int p1), .val (.int p2), .val (.ref b14), .unset, .unset, .unset] [(.int (0 : Int32)), (.ref b14)])) _
    refine XS.iloadN X14.here hx rfl (hb hby at_6) rfl ?_
    show Steps p.tables e below (T14.setTop (mkF m 7 #[.val (.int p0), .val (.int p1), .val (.int p2), .val (.ref b14), .unset, .unset, .unset] [(.int p0), (.int (0 : Int32)), (.ref b14)])) _
    refine XS.i2b X14.here hx rfl (hb hby at_7) rfl ?_
    show Steps p.tables e below (T14.setTop (mkF m 8 #[.val (.int p0), .val (.int p1), .val (.int p2), .val (.ref b14), .unset, .unset, .unset] [(.int (p0.toInt8.toInt32)), (.int (0 : Int32)), (.ref b14)])) _
    refine st15 _ ?_
    show Steps p.tables e below (T15.setTop (mkF m 9 #[.val (.int p0), .val (.int p1), .val (.int p2), .val (.ref b14), .unset, .unset, .unset] [])) _
    refine XS.aloadN X15.here hx rfl (hb hby at_9) rfl rfl ?_
    show Steps p.tables e below (T15.setTop (mkF m 10 #[.val (.int p0), .val (.int p1), .val (.int p2), .val (.ref b14), .unset, .unset, .unset] [(.ref b14)])) _
    refine XS.iconst X15.here hx rfl (hb hby at_10) ?_
    show Steps p.tables e below (T15.setTop (mkF m 11 #[.val (.int p0), .val (.int p1), .val (.int p2), .val (.ref b14), .unset, .unset, .unset] [(.int (1 : Int32)), (.ref b14)])) _
    refine XS.iloadN X15.here hx rfl (hb hby at_11) rfl ?_
    show Steps p.tables e below (T15.setTop (mkF m 12 #[.val (.int p0), .val (.int p1), .val (.int p2), .val (.ref b14), .unset, .unset, .unset] [(.int p0), (.int (1 : Int32)), (.ref b14)])) _
    refine XS.bipush X15.here hx rfl (hb hby at_12) ?_
    show Steps p.tables e below (T15.setTop (mkF m 14 #[.val (.int p0), .val (.int p1), .val (.int p2), .val (.ref b14), .unset, .unset, .unset] [(.int (8 : Int32)), (.int p0), (.int (1 : Int32)), (.ref b14)])) _
    refine XS.ishr X15.here hx rfl (hb hby at_14) rfl ?_
    show Steps p.tables e below (T15.setTop (mkF m 15 #[.val (.int p0), .val (.int p1), .val (.int p2), .val (.ref b14), .unset, .unset, .unset] [(.int (p0 >>> ((8 : Int32) &&& 31))), (.int (1 : Int32)), (.ref b14)])) _
    refine XS.i2b X15.here hx rfl (hb hby at_15) rfl ?_
    show Steps p.tables e below (T15.setTop (mkF m 16 #[.val (.int p0), .val (.int p1), .val (.int p2), .val (.ref b14), .unset, .unset, .unset] [(.int ((p0 >>> ((8 : Int32) &&& 31)).toInt8.toInt32)), (.int (1 : Int32)), (.ref b14)])) _
    refine st16 _ ?_
    show Steps p.tables e below (T16.setTop (mkF m 17 #[.val (.int p0), .val (.int p1), .val (.int p2), .val (.ref b14), .unset, .unset, .unset] [])) _
    refine XS.aloadN X16.here hx rfl (hb hby at_17) rfl rfl ?_
    show Steps p.tables e below (T16.setTop (mkF m 18 #[.val (.int p0), .val (.int p1), .val (.int p2), .val (.ref b14), .unset, .unset, .unset] [(.ref b14)])) _
    refine XS.iconst X16.here hx rfl (hb hby at_18) ?_
    show Steps p.tables e below (T16.setTop (mkF m 19 #[.val (.int p0), .val (.int p1), .val (.int p2), .val (.ref b14), .unset, .unset, .unset] [(.int (2 : Int32)), (.ref b14)])) _
    refine XS.iloadN X16.here hx rfl (hb hby at_19) rfl ?_
    show Steps p.tables e below (T16.setTop (mkF m 20 #[.val (.int p0), .val (.int p1), .val (.int p2), .val (.ref b14), .unset, .unset, .unset] [(.int p0), (.int (2 : Int32)), (.ref b14)])) _
    refine XS.bipush X16.here hx rfl (hb hby at_20) ?_
    show Steps p.tables e below (T16.setTop (mkF m 22 #[.val (.int p0), .val (.int p1), .val (.int p2), .val (.ref b14), .unset, .unset, .unset] [(.int (16 : Int32)), (.int p0), (.int (2 : Int32)), (.ref b14)])) _
    refine XS.ishr X16.here hx rfl (hb hby at_22) rfl ?_
    show Steps p.tables e below (T16.setTop (mkF m 23 #[.val (.int p0), .val (.int p1), .val (.int p2), .val (.ref b14), .unset, .unset, .unset] [(.int (p0 >>> ((16 : Int32) &&& 31))), (.int (2 : Int32)), (.ref b14)])) _
    refine XS.i2b X16.here hx rfl (hb hby at_23) rfl ?_
    show Steps p.tables e below (T16.setTop (mkF m 24 #[.val (.int p0), .val (.int p1), .val (.int p2), .val (.ref b14), .unset, .unset, .unset] [(.int ((p0 >>> ((16 : Int32) &&& 31)).toInt8.toInt32)), (.int (2 : Int32)), (.ref b14)])) _
    refine st17 _ ?_
    show Steps p.tables e below (T17.setTop (mkF m 25 #[.val (.int p0), .val (.int p1), .val (.int p2), .val (.ref b14), .unset, .unset, .unset] [])) _
    refine XS.aloadN X17.here hx rfl (hb hby at_25) rfl rfl ?_
    show Steps p.tables e below (T17.setTop (mkF m 26 #[.val (.int p0), .val (.int p1), .val (.int p2), .val (.ref b14), .unset, .unset, .unset] [(.ref b14)])) _
    refine XS.iconst X17.here hx rfl (hb hby at_26) ?_
    show Steps p.tables e below (T17.setTop (mkF m 27 #[.val (.int p0), .val (.int p1), .val (.int p2), .val (.ref b14), .unset, .unset, .unset] [(.int (3 : Int32)), (.ref b14)])) _
    refine XS.iloadN X17.here hx rfl (hb hby at_27) rfl ?_
    show Steps p.tables e below (T17.setTop (mkF m 28 #[.val (.int p0), .val (.int p1), .val (.int p2), .val (.ref b14), .unset, .unset, .unset] [(.int p0), (.int (3 : Int32)), (.ref b14)])) _
    refine XS.bipush X17.here hx rfl (hb hby at_28) ?_
    show Steps p.tables e below (T17.setTop (mkF m 30 #[.val (.int p0), .val (.int p1), .val (.int p2), .val (.ref b14), .unset, .unset, .unset] [(.int (24 : Int32)), (.int p0), (.int (3 : Int32)), (.ref b14)])) _
    refine XS.ishr X17.here hx rfl (hb hby at_30) rfl ?_
    show Steps p.tables e below (T17.setTop (mkF m 31 #[.val (.int p0), .val (.int p1), .val (.int p2), .val (.ref b14), .unset, .unset, .unset] [(.int (p0 >>> ((24 : Int32) &&& 31))), (.int (3 : Int32)), (.ref b14)])) _
    refine XS.i2b X17.here hx rfl (hb hby at_31) rfl ?_
    show Steps p.tables e below (T17.setTop (mkF m 32 #[.val (.int p0), .val (.int p1), .val (.int p2), .val (.ref b14), .unset, .unset, .unset] [(.int ((p0 >>> ((24 : Int32) &&& 31)).toInt8.toInt32)), (.int (3 : Int32)), (.ref b14)])) _
    refine st18 _ ?_
    show Steps p.tables e below (T18.setTop (mkF m 33 #[.val (.int p0), .val (.int p1), .val (.int p2), .val (.ref b14), .unset, .unset, .unset] [])) _
    refine XS.iloadN X18.here hx rfl (hb hby at_33) rfl ?_
    show Steps p.tables e below (T18.setTop (mkF m 34 #[.val (.int p0), .val (.int p1), .val (.int p2), .val (.ref b14), .unset, .unset, .unset] [(.int p1)])) _
    refine X18.ldcInt hx hown (mvT hZ (hw _ (List.mem_of_getElem? (i := 1) rfl))) (g := (mkF m 34 #[.val (.int p0), .val (.int p1), .val (.int p2), .val (.ref b14), .unset, .unset, .unset] [(.int p1)])) rfl (hb hby at_34) _ ?_
    show Steps p.tables e below (T18.setTop (mkF m 36 #[.val (.int p0), .val (.int p1), .val (.int p2), .val (.ref b14), .unset, .unset, .unset] [(.int (2147483647 : Int32)), (.int p1)])) _
    refine XS.iand X18.here hx rfl (hb hby at_36) rfl ?_
    show Steps p.tables e below (T18.setTop (mkF m 37 #[.val (.int p0), .val (.int p1), .val (.int p2), .val (.ref b14), .unset, .unset, .unset] [(.int (p1 &&& (2147483647 : Int32)))])) _
    refine XS.iconst X18.here hx rfl (hb hby at_37) ?_
    show Steps p.tables e below (T18.setTop (mkF m 38 #[.val (.int p0), .val (.int p1), .val (.int p2), .val (.ref b14), .unset, .unset, .unset] [(.int (5 : Int32)), (.int (p1 &&& (2147483647 : Int32)))])) _
    refine iremM X18 hx rfl (hb hby at_38) rfl (by decide) ?_
    rw [hfe]
    show Steps p.tables e below (T18.setTop (mkF m 39 #[.val (.int p0), .val (.int p1), .val (.int p2), .val (.ref b14), .unset, .unset, .unset] [(.int f)])) _
    refine XS.istore X18.here hx rfl (hb hby at_39) rfl (l' := #[.val (.int p0), .val (.int p1), .val (.int p2), .val (.ref b14), .val (.int f), .unset, .unset]) rfl ?_
    show Steps p.tables e below (T18.setTop (mkF m 41 #[.val (.int p0), .val (.int p1), .val (.int p2), .val (.ref b14), .val (.int f), .unset, .unset] [])) _
    refine XS.iloadN X18.here hx rfl (hb hby at_41) rfl ?_
    show Steps p.tables e below (T18.setTop (mkF m 42 #[.val (.int p0), .val (.int p1), .val (.int p2), .val (.ref b14), .val (.int f), .unset, .unset] [(.int p2)])) _
    refine X18.ldcInt hx hown (mvT hZ (hw _ (List.mem_of_getElem? (i := 1) rfl))) (g := (mkF m 42 #[.val (.int p0), .val (.int p1), .val (.int p2), .val (.ref b14), .val (.int f), .unset, .unset] [(.int p2)])) rfl (hb hby at_42) _ ?_
    show Steps p.tables e below (T18.setTop (mkF m 44 #[.val (.int p0), .val (.int p1), .val (.int p2), .val (.ref b14), .val (.int f), .unset, .unset] [(.int (2147483647 : Int32)), (.int p2)])) _
    refine XS.iand X18.here hx rfl (hb hby at_44) rfl ?_
    show Steps p.tables e below (T18.setTop (mkF m 45 #[.val (.int p0), .val (.int p1), .val (.int p2), .val (.ref b14), .val (.int f), .unset, .unset] [(.int (p2 &&& (2147483647 : Int32)))])) _
    refine XS.iconst X18.here hx rfl (hb hby at_45) ?_
    show Steps p.tables e below (T18.setTop (mkF m 46 #[.val (.int p0), .val (.int p1), .val (.int p2), .val (.ref b14), .val (.int f), .unset, .unset] [(.int (5 : Int32)), (.int (p2 &&& (2147483647 : Int32)))])) _
    refine iremM X18 hx rfl (hb hby at_46) rfl (by decide) ?_
    rw [hue]
    show Steps p.tables e below (T18.setTop (mkF m 47 #[.val (.int p0), .val (.int p1), .val (.int p2), .val (.ref b14), .val (.int f), .unset, .unset] [(.int u)])) _
    refine XS.istore X18.here hx rfl (hb hby at_47) rfl (l' := #[.val (.int p0), .val (.int p1), .val (.int p2), .val (.ref b14), .val (.int f), .val (.int u), .unset]) rfl ?_
    show Steps p.tables e below (T18.setTop (mkF m 49 #[.val (.int p0), .val (.int p1), .val (.int p2), .val (.ref b14), .val (.int f), .val (.int u), .unset] [])) _
    refine XS.aloadN X18.here hx rfl (hb hby at_49) rfl rfl ?_
    show Steps p.tables e below (T18.setTop (mkF m 50 #[.val (.int p0), .val (.int p1), .val (.int p2), .val (.ref b14), .val (.int f), .val (.int u), .unset] [(.ref b14)])) _
    refine XS.iconst X18.here hx rfl (hb hby at_50) ?_
    show Steps p.tables e below (T18.setTop (mkF m 51 #[.val (.int p0), .val (.int p1), .val (.int p2), .val (.ref b14), .val (.int f), .val (.int u), .unset] [(.int (0 : Int32)), (.ref b14)])) _
    refine XS.iload X18.here hx rfl (hb hby at_51) rfl ?_
    show Steps p.tables e below (T18.setTop (mkF m 53 #[.val (.int p0), .val (.int p1), .val (.int p2), .val (.ref b14), .val (.int f), .val (.int u), .unset] [(.int f), (.int (0 : Int32)), (.ref b14)])) _
    refine XS.iload X18.here hx rfl (hb hby at_53) rfl ?_
    show Steps p.tables e below (T18.setTop (mkF m 55 #[.val (.int p0), .val (.int p1), .val (.int p2), .val (.ref b14), .val (.int f), .val (.int u), .unset] [(.int u), (.int f), (.int (0 : Int32)), (.ref b14)])) _
    refine st20 _ ?_
    show Steps p.tables e below (T20.setTop (mkF m 58 #[.val (.int p0), .val (.int p1), .val (.int p2), .val (.ref b14), .val (.int f), .val (.int u), .unset] [(.int (own_okv (0 : Int32) f u b0))])) _
    refine XS.ifNo X20.here hx rfl (hb hby at_58) rfl ((if0 _ _).trans (feq hc58).1) ?_
    show Steps p.tables e below (T20.setTop (mkF m 61 #[.val (.int p0), .val (.int p1), .val (.int p2), .val (.ref b14), .val (.int f), .val (.int u), .unset] [])) _
    refine XS.aloadN X20.here hx rfl (hb hby at_61) rfl rfl ?_
    show Steps p.tables e below (T20.setTop (mkF m 62 #[.val (.int p0), .val (.int p1), .val (.int p2), .val (.ref b14), .val (.int f), .val (.int u), .unset] [(.ref b14)])) _
    refine XS.iconst X20.here hx rfl (hb hby at_62) ?_
    show Steps p.tables e below (T20.setTop (mkF m 63 #[.val (.int p0), .val (.int p1), .val (.int p2), .val (.ref b14), .val (.int f), .val (.int u), .unset] [(.int (1 : Int32)), (.ref b14)])) _
    refine XS.iload X20.here hx rfl (hb hby at_63) rfl ?_
    show Steps p.tables e below (T20.setTop (mkF m 65 #[.val (.int p0), .val (.int p1), .val (.int p2), .val (.ref b14), .val (.int f), .val (.int u), .unset] [(.int f), (.int (1 : Int32)), (.ref b14)])) _
    refine XS.iload X20.here hx rfl (hb hby at_65) rfl ?_
    show Steps p.tables e below (T20.setTop (mkF m 67 #[.val (.int p0), .val (.int p1), .val (.int p2), .val (.ref b14), .val (.int f), .val (.int u), .unset] [(.int u), (.int f), (.int (1 : Int32)), (.ref b14)])) _
    refine st21 _ ?_
    show Steps p.tables e below (T21.setTop (mkF m 70 #[.val (.int p0), .val (.int p1), .val (.int p2), .val (.ref b14), .val (.int f), .val (.int u), .unset] [(.int (own_okv (1 : Int32) f u b1))])) _
    refine XS.ifYes X21.here hx rfl (pc0 := 70) (pc' := 101) rfl (hb hby at_70) rfl ((if0 _ _).trans (teq hc70).1) (by decide) (by decide) ?_
    show Steps p.tables e below (T21.setTop (mkF m 101 #[.val (.int p0), .val (.int p1), .val (.int p2), .val (.ref b14), .val (.int f), .val (.int u), .unset] [])) _
    refine XS.iconst X21.here hx rfl (hb hby at_101) ?_
    show Steps p.tables e below (T21.setTop (mkF m 102 #[.val (.int p0), .val (.int p1), .val (.int p2), .val (.ref b14), .val (.int f), .val (.int u), .unset] [(.int (0 : Int32))])) _
    refine XS.istore X21.here hx rfl (hb hby at_102) rfl (l' := #[.val (.int p0), .val (.int p1), .val (.int p2), .val (.ref b14), .val (.int f), .val (.int u), .val (.int (0 : Int32))]) rfl ?_
    show Steps p.tables e below (T21.setTop (mkF m 104 #[.val (.int p0), .val (.int p1), .val (.int p2), .val (.ref b14), .val (.int f), .val (.int u), .val (.int (0 : Int32))] [])) _
    refine XS.aloadN X21.here hx rfl (hb hby at_104) rfl rfl ?_
    show Steps p.tables e below (T21.setTop (mkF m 105 #[.val (.int p0), .val (.int p1), .val (.int p2), .val (.ref b14), .val (.int f), .val (.int u), .val (.int (0 : Int32))] [(.ref b14)])) _
    refine XS.iload X21.here hx rfl (hb hby at_105) rfl ?_
    show Steps p.tables e below (T21.setTop (mkF m 107 #[.val (.int p0), .val (.int p1), .val (.int p2), .val (.ref b14), .val (.int f), .val (.int u), .val (.int (0 : Int32))] [(.int f), (.ref b14)])) _
    refine XS.iload X21.here hx rfl (hb hby at_107) rfl ?_
    show Steps p.tables e below (T21.setTop (mkF m 109 #[.val (.int p0), .val (.int p1), .val (.int p2), .val (.ref b14), .val (.int f), .val (.int u), .val (.int (0 : Int32))] [(.int u), (.int f), (.ref b14)])) _
    refine st22 _ ?_
    show Steps p.tables e below (T22.setTop (mkF m 112 #[.val (.int p0), .val (.int p1), .val (.int p2), .val (.ref b14), .val (.int f), .val (.int u), .val (.int (0 : Int32))] [(.int (0 : Int32))])) _
    refine XS.iload X22.here hx rfl (hb hby at_112) rfl ?_
    show Steps p.tables e below (T22.setTop (mkF m 114 #[.val (.int p0), .val (.int p1), .val (.int p2), .val (.ref b14), .val (.int f), .val (.int u), .val (.int (0 : Int32))] [(.int (0 : Int32)), (.int (0 : Int32))])) _
    refine XS.icmpNo X22.here hx rfl (hb hby at_114) rfl (teq (rfl : (0 : Int32) = (0 : Int32))).2 ?_
    show Steps p.tables e below (T22.setTop (mkF m 117 #[.val (.int p0), .val (.int p1), .val (.int p2), .val (.ref b14), .val (.int f), .val (.int u), .val (.int (0 : Int32))] [])) _
    refine XS.iconst X22.here hx rfl (hb hby at_117) ?_
    show Steps p.tables e below (T22.setTop (mkF m 118 #[.val (.int p0), .val (.int p1), .val (.int p2), .val (.ref b14), .val (.int f), .val (.int u), .val (.int (0 : Int32))] [(.int (1 : Int32))])) _
    refine XS.goto X22.here hx rfl (pc0 := 118) (pc' := 122) rfl (hb hby at_118) (by decide) (by decide) ?_
    show Steps p.tables e below (T22.setTop (mkF m 122 #[.val (.int p0), .val (.int p1), .val (.int p2), .val (.ref b14), .val (.int f), .val (.int u), .val (.int (0 : Int32))] [(.int (1 : Int32))])) _
    exact retN X22 hx (t := .boolean) Bd.returns (by simp) (hb hby at_122) hr
  · show (own_Q1 n0) _ T22.heap _
    rw [e22]
    exact ⟨rfl, N22⟩
set_option maxRecDepth 65536 in
set_option maxHeartbeats 40000000 in
theorem own_law_2 (l : Launch) (Z : State) (a0 : Array Value) (hw : ∀ d ∈ tables_1, d.before a0 Z = true) (p0 : Int32) (p1 : Int32) (p2 : Int32) (f : Int32) (u : Int32) (b0 : Int32) (b1 : Int32) (b2 : Int32) (b3 : Int32) (va : Addr) (vc : Cell) (h0 : Heap) (n0 : Nat) (Z0 : n0 ≤ h0.size) (SV : Sta Z h0 "org/antichain/core/EventId" "VALUES" "[B" (.ref va)) (AV : Arr Z h0 va vc .byte) (SZ : vc.slots.size = (128 : Int32).toNatClampNeg) (HV : ∀ b : Int32, ¬ b < 0 → b < 128 → vc.slots[b.toNatClampNeg]? = some (.int (own_dg b))) (hfe : (p1 &&& (2147483647 : Int32)) % (5 : Int32) = f) (hue : (p2 &&& (2147483647 : Int32)) % (5 : Int32) = u) (hf : 0 ≤ f.toInt) (hu : u.toInt ≤ 4) (hb0 : nar .byte (p0.toInt8.toInt32) = b0) (hb1 : nar .byte ((p0 >>> ((8 : Int32) &&& 31)).toInt8.toInt32) = b1) (hb2 : nar .byte ((p0 >>> ((16 : Int32) &&& 31)).toInt8.toInt32) = b2) (hb3 : nar .byte ((p0 >>> ((24 : Int32) &&& 31)).toInt8.toInt32) = b3) (HR : ∀ k : Nat, own_B b0 b1 b2 b3 k < 128) (hbad : own_bad f u (own_B b0 b1 b2 b3)) (hc58 : ¬ ((own_okv (0 : Int32) f u b0) = (0 : Int32))) (hc70 : ¬ ((own_okv (1 : Int32) f u b1) = (0 : Int32))) (hc82 : (own_okv (2 : Int32) f u b2) = (0 : Int32)) :
    Met l Z tables_1 x code maxLocals ret room_1 #[(.int p0), (.int p1), (.int p2)] h0 (own_Q1 n0) := by
  refine MetFree.of_bodySF (plainFor_of_name own_pn_0) hisR ?_
  intro p e s m args below meth c s₁ Bd hml0 hP hK
  obtain ⟨rfl, hZ, hh⟩ := hP
  have hx := Bd.exec
  have hby := Bd.bytes
  have hml : c.maxLocals = 7 := hml0
  have hown : s.vm.findClass "org/antichain/core/EventIdIsLowercaseHexPinLaw" = some m.cls := findClass_of_methodNamed Bd.named
  have hnm := (name_of_methodNamed Bd.named Bd.method).1
  have X0 : Stand p l e room_1 s m #[(.int p0), (.int p1), (.int p2)] below meth c s₁ [] 0 0 := Stand.of_body Bd
  have e0 : s₁.heap = h0 := by rw [← hh, Bd.state]; rfl
  have N0 := Fr.nil n0
  have pre0 : ∀ t_, Steps p.tables e below (s₁.setTop (mkF m 0 #[.val (.int p0), .val (.int p1), .val (.int p2), .unset, .unset, .unset, .unset] [])) t_ → Steps p.tables e below (s₁.setTop (entryFrame m #[(.int p0), (.int p1), (.int p2)] maxLocals)) t_ := fun t_ k_ => castTop (own_ef_3 m p0 p1 p2) k_
  obtain ⟨T23, h23, k23, X23, e23, E23, A23, st23⟩ := newP X0 hx hZ (hw _ (List.mem_of_getElem? (i := 0) rfl)) e0 (g := (mkF m 1 #[.val (.int p0), .val (.int p1), .val (.int p2), .unset, .unset, .unset, .unset] [(.int (4 : Int32))])) rfl (hb hby at_1) rfl (by decide) (cap := 4) (by decide) (by decide) (by decide) (by decide)
  obtain ⟨b23, g23⟩ : ∃ z, z = h0.size := ⟨_, rfl⟩
  rw [← g23] at A23 st23
  have ne_va_b23 : va ≠ b23 := Nat.ne_of_lt (Nat.lt_of_lt_of_le AV.lt (Nat.le_of_eq g23.symm))
  have g_b23 : n0 ≤ b23 := Nat.le_trans Z0 (Nat.le_of_eq g23.symm)
  have SV_23 : Sta Z h23 "org/antichain/core/EventId" "VALUES" "[B" (.ref va) := SV.ext E23
  have AV_23 : Arr Z h23 va vc .byte := AV.ext E23
  have Z_23 : n0 ≤ h23.size := Nat.le_trans Z0 E23.1
  have V_b23 : Arv Z h23 b23 k23 .byte (4 : Int32) [(.int (0 : Int32)), (.int (0 : Int32)), (.int (0 : Int32)), (.int (0 : Int32))] (.int (0 : Int32)) := (Arv.new A23 (by decide)).pad (pad_rep [] (.int (0 : Int32)) 4)
  obtain ⟨cl_b23_8, Ar_b23_8, q_b23_8, S_b23_8, N_b23_8, H_b23_8, G_b23_8⟩ := V_b23
  have hinb23_8 : ¬ ((0 : Int32) < 0 ∨ cl_b23_8.slots.size ≤ ((0 : Int32)).toNatClampNeg) := inb_of S_b23_8 ⟨by decide, by decide⟩
  obtain ⟨T24, h24, X24, e24, W24, st24⟩ := stB X23 hx hZ e23 Ar_b23_8 (j := (0 : Int32)) hinb23_8 (g := (mkF m 8 #[.val (.int p0), .val (.int p1), .val (.int p2), .val (.ref b23), .unset, .unset, .unset] [(.int (p0.toInt8.toInt32)), (.int (0 : Int32)), (.ref b23)])) rfl rfl (hb hby at_8)
  have V_b23_24 : Arv Z h24 b23 k23 .byte (4 : Int32) [(.int (nar .byte (p0.toInt8.toInt32))), (.int (0 : Int32)), (.int (0 : Int32)), (.int (0 : Int32))] (.int (0 : Int32)) := Arv.set Ar_b23_8 q_b23_8 S_b23_8 N_b23_8 H_b23_8 G_b23_8 (fits_nar_byte _) W24 0 rfl (Nat.le_of_ble_eq_true rfl)
  have SV_24 : Sta Z h24 "org/antichain/core/EventId" "VALUES" "[B" (.ref va) := SV_23.wr W24
  have AV_24 : Arr Z h24 va vc .byte := AV_23.other W24 ne_va_b23
  have Z_24 : n0 ≤ h24.size := Nat.le_trans Z_23 (Keep.of_wr W24).1
  have N24 := Fr.snoc X24 N0 g_b23
  obtain ⟨cl_b23_16, Ar_b23_16, q_b23_16, S_b23_16, N_b23_16, H_b23_16, G_b23_16⟩ := V_b23_24
  have hinb23_16 : ¬ ((1 : Int32) < 0 ∨ cl_b23_16.slots.size ≤ ((1 : Int32)).toNatClampNeg) := inb_of S_b23_16 ⟨by decide, by decide⟩
  obtain ⟨T25, h25, X25, e25, W25, st25⟩ := stB X24 hx hZ e24 Ar_b23_16 (j := (1 : Int32)) hinb23_16 (g := (mkF m 16 #[.val (.int p0), .val (.int p1), .val (.int p2), .val (.ref b23), .unset, .unset, .unset] [(.int ((p0 >>> ((8 : Int32) &&& 31)).toInt8.toInt32)), (.int (1 : Int32)), (.ref b23)])) rfl rfl (hb hby at_16)
  have V_b23_25 : Arv Z h25 b23 k23 .byte (4 : Int32) [(.int (nar .byte (p0.toInt8.toInt32))), (.int (nar .byte ((p0 >>> ((8 : Int32) &&& 31)).toInt8.toInt32))), (.int (0 : Int32)), (.int (0 : Int32))] (.int (0 : Int32)) := Arv.set Ar_b23_16 q_b23_16 S_b23_16 N_b23_16 H_b23_16 G_b23_16 (fits_nar_byte _) W25 1 rfl (Nat.le_of_ble_eq_true rfl)
  have SV_25 : Sta Z h25 "org/antichain/core/EventId" "VALUES" "[B" (.ref va) := SV_24.wr W25
  have AV_25 : Arr Z h25 va vc .byte := AV_24.other W25 ne_va_b23
  have Z_25 : n0 ≤ h25.size := Nat.le_trans Z_24 (Keep.of_wr W25).1
  have N25 := Fr.snoc X25 N24 g_b23
  obtain ⟨cl_b23_24, Ar_b23_24, q_b23_24, S_b23_24, N_b23_24, H_b23_24, G_b23_24⟩ := V_b23_25
  have hinb23_24 : ¬ ((2 : Int32) < 0 ∨ cl_b23_24.slots.size ≤ ((2 : Int32)).toNatClampNeg) := inb_of S_b23_24 ⟨by decide, by decide⟩
  obtain ⟨T26, h26, X26, e26, W26, st26⟩ := stB X25 hx hZ e25 Ar_b23_24 (j := (2 : Int32)) hinb23_24 (g := (mkF m 24 #[.val (.int p0), .val (.int p1), .val (.int p2), .val (.ref b23), .unset, .unset, .unset] [(.int ((p0 >>> ((16 : Int32) &&& 31)).toInt8.toInt32)), (.int (2 : Int32)), (.ref b23)])) rfl rfl (hb hby at_24)
  have V_b23_26 : Arv Z h26 b23 k23 .byte (4 : Int32) [(.int (nar .byte (p0.toInt8.toInt32))), (.int (nar .byte ((p0 >>> ((8 : Int32) &&& 31)).toInt8.toInt32))), (.int (nar .byte ((p0 >>> ((16 : Int32) &&& 31)).toInt8.toInt32))), (.int (0 : Int32))] (.int (0 : Int32)) := Arv.set Ar_b23_24 q_b23_24 S_b23_24 N_b23_24 H_b23_24 G_b23_24 (fits_nar_byte _) W26 2 rfl (Nat.le_of_ble_eq_true rfl)
  have SV_26 : Sta Z h26 "org/antichain/core/EventId" "VALUES" "[B" (.ref va) := SV_25.wr W26
  have AV_26 : Arr Z h26 va vc .byte := AV_25.other W26 ne_va_b23
  have Z_26 : n0 ≤ h26.size := Nat.le_trans Z_25 (Keep.of_wr W26).1
  have N26 := Fr.snoc X26 N25 g_b23
  obtain ⟨cl_b23_32, Ar_b23_32, q_b23_32, S_b23_32, N_b23_32, H_b23_32, G_b23_32⟩ := V_b23_26
  have hinb23_32 : ¬ ((3 : Int32) < 0 ∨ cl_b23_32.slots.size ≤ ((3 : Int32)).toNatClampNeg) := inb_of S_b23_32 ⟨by decide, by decide⟩
  obtain ⟨T27, h27, X27, e27, W27, st27⟩ := stB X26 hx hZ e26 Ar_b23_32 (j := (3 : Int32)) hinb23_32 (g := (mkF m 32 #[.val (.int p0), .val (.int p1), .val (.int p2), .val (.ref b23), .unset, .unset, .unset] [(.int ((p0 >>> ((24 : Int32) &&& 31)).toInt8.toInt32)), (.int (3 : Int32)), (.ref b23)])) rfl rfl (hb hby at_32)
  have V_b23_27 : Arv Z h27 b23 k23 .byte (4 : Int32) [(.int (nar .byte (p0.toInt8.toInt32))), (.int (nar .byte ((p0 >>> ((8 : Int32) &&& 31)).toInt8.toInt32))), (.int (nar .byte ((p0 >>> ((16 : Int32) &&& 31)).toInt8.toInt32))), (.int (nar .byte ((p0 >>> ((24 : Int32) &&& 31)).toInt8.toInt32)))] (.int (0 : Int32)) := Arv.set Ar_b23_32 q_b23_32 S_b23_32 N_b23_32 H_b23_32 G_b23_32 (fits_nar_byte _) W27 3 rfl (Nat.le_of_ble_eq_true rfl)
  have SV_27 : Sta Z h27 "org/antichain/core/EventId" "VALUES" "[B" (.ref va) := SV_26.wr W27
  have AV_27 : Arr Z h27 va vc .byte := AV_26.other W27 ne_va_b23
  have Z_27 : n0 ≤ h27.size := Nat.le_trans Z_26 (Keep.of_wr W27).1
  have N27 := Fr.snoc X27 N26 g_b23
  rw [hb0, hb1, hb2, hb3] at V_b23_27
  obtain ⟨cl_b23_o28, Ar_b23_o28, q_b23_o28, S_b23_o28, N_b23_o28, H_b23_o28, G_b23_o28⟩ := V_b23_27
  have hin0 : ¬ ((0 : Int32) < 0 ∨ cl_b23_o28.slots.size ≤ (0 : Int32).toNatClampNeg) := inb_of S_b23_o28 ⟨by decide, by decide⟩
  have hat0 : cl_b23_o28.slots[(0 : Int32).toNatClampNeg]? = some (.int b0) := H_b23_o28.at hin0 rfl
  have hin1 : ¬ ((1 : Int32) < 0 ∨ cl_b23_o28.slots.size ≤ (1 : Int32).toNatClampNeg) := inb_of S_b23_o28 ⟨by decide, by decide⟩
  have hat1 : cl_b23_o28.slots[(1 : Int32).toNatClampNeg]? = some (.int b1) := H_b23_o28.at hin1 rfl
  have hin2 : ¬ ((2 : Int32) < 0 ∨ cl_b23_o28.slots.size ≤ (2 : Int32).toNatClampNeg) := inb_of S_b23_o28 ⟨by decide, by decide⟩
  have hat2 : cl_b23_o28.slots[(2 : Int32).toNatClampNeg]? = some (.int b2) := H_b23_o28.at hin2 rfl
  have hin3 : ¬ ((3 : Int32) < 0 ∨ cl_b23_o28.slots.size ≤ (3 : Int32).toNatClampNeg) := inb_of S_b23_o28 ⟨by decide, by decide⟩
  have hat3 : cl_b23_o28.slots[(3 : Int32).toNatClampNeg]? = some (.int b3) := H_b23_o28.at hin3 rfl
  have SL_b23_o28 : cl_b23_o28.slots.size = 4 := S_b23_o28
  have HB_b23_o28 : ∀ k : Nat, k < 4 → cl_b23_o28.slots[k]? = some (.int (own_B b0 b1 b2 b3 k)) := fun k hk => match k, hk with | 0, _ => hat0 | 1, _ => hat1 | 2, _ => hat2 | 3, _ => hat3 | k + 4, hk => absurd hk (by omega)
  obtain ⟨_, _, ⟨T29, L29, k29, n29⟩, -, X29, ⟨Lc29, hQ29, l29, y29, z29⟩, st29⟩ := Jvm.LawKit.callS X27 hx (y := (⟨"org/antichain/core/EventIdIsLowercaseHexPinLaw", "ok", "([BIII)Z"⟩ : MethodName)) hown (mvT hZ (hw _ (List.mem_of_getElem? (i := 2) rfl))) (mvT hZ (hw _ (List.mem_of_getElem? (i := 3) rfl))) (mvT hZ (hw _ (List.mem_of_getElem? (i := 4) rfl))) (mvT hZ (hw _ (List.mem_of_getElem? (i := 5) rfl))) (by decide) (backOf (W := 0) (own_ok l Z a0 hw b23 (0 : Int32) f u cl_b23_o28 b0 h27 n0 Z_27 Ar_b23_o28 hin0 hat0) hZ (hw _ (List.mem_of_getElem? (i := 5) rfl)) (hw _ (List.mem_of_getElem? (i := 4) rfl)) (by decide) (by decide)) (g := (mkF m 55 #[.val (.int p0), .val (.int p1), .val (.int p2), .val (.ref b23), .val (.int f), .val (.int u), .unset] [(.int u), (.int f), (.int (0 : Int32)), (.ref b23)])) rfl (by rw [hml]; rfl) (argsL := [(.ref b23), (.int (0 : Int32)), (.int f), (.int u)]) (rest := []) (lenOf own_pd_2 rfl) rfl (by show 2 * 0 + _ ≤ _; exact Nat.le_of_eq rfl) (hb hby at_55) (fun _ _ => ⟨rfl, e27, (by decide : 1 + 0 ≤ _), (by decide : 4 + 0 ≤ _)⟩)
  dsimp only [Pt.U, Pt.locs, Pt.cells, Pt.slots] at X29 l29 y29 z29 st29 hQ29
  subst l29 y29 z29
  obtain ⟨rfl, Nq29, eh29⟩ := hQ29
  have N29 := Fr.app N27 Nq29
  have e29 : T29.heap = h27 := eh29
  obtain ⟨_, _, ⟨T30, L30, k30, n30⟩, -, X30, ⟨Lc30, hQ30, l30, y30, z30⟩, st30⟩ := Jvm.LawKit.callS X29 hx (y := (⟨"org/antichain/core/EventIdIsLowercaseHexPinLaw", "ok", "([BIII)Z"⟩ : MethodName)) hown (mvT hZ (hw _ (List.mem_of_getElem? (i := 2) rfl))) (mvT hZ (hw _ (List.mem_of_getElem? (i := 3) rfl))) (mvT hZ (hw _ (List.mem_of_getElem? (i := 4) rfl))) (mvT hZ (hw _ (List.mem_of_getElem? (i := 5) rfl))) (by decide) (backOf (W := 0) (own_ok l Z a0 hw b23 (1 : Int32) f u cl_b23_o28 b1 h27 n0 Z_27 Ar_b23_o28 hin1 hat1) hZ (hw _ (List.mem_of_getElem? (i := 5) rfl)) (hw _ (List.mem_of_getElem? (i := 4) rfl)) (by decide) (by decide)) (g := (mkF m 67 #[.val (.int p0), .val (.int p1), .val (.int p2), .val (.ref b23), .val (.int f), .val (.int u), .unset] [(.int u), (.int f), (.int (1 : Int32)), (.ref b23)])) rfl (by rw [hml]; rfl) (argsL := [(.ref b23), (.int (1 : Int32)), (.int f), (.int u)]) (rest := []) (lenOf own_pd_2 rfl) rfl (by show 2 * 0 + _ ≤ _; exact Nat.le_of_eq rfl) (hb hby at_67) (fun _ _ => ⟨rfl, e29, (by decide : 1 + 0 ≤ _), (by decide : 4 + 0 ≤ _)⟩)
  dsimp only [Pt.U, Pt.locs, Pt.cells, Pt.slots] at X30 l30 y30 z30 st30 hQ30
  subst l30 y30 z30
  obtain ⟨rfl, Nq30, eh30⟩ := hQ30
  have N30 := Fr.app N29 Nq30
  have e30 : T30.heap = h27 := eh30
  obtain ⟨_, _, ⟨T31, L31, k31, n31⟩, -, X31, ⟨Lc31, hQ31, l31, y31, z31⟩, st31⟩ := Jvm.LawKit.callS X30 hx (y := (⟨"org/antichain/core/EventIdIsLowercaseHexPinLaw", "ok", "([BIII)Z"⟩ : MethodName)) hown (mvT hZ (hw _ (List.mem_of_getElem? (i := 2) rfl))) (mvT hZ (hw _ (List.mem_of_getElem? (i := 3) rfl))) (mvT hZ (hw _ (List.mem_of_getElem? (i := 4) rfl))) (mvT hZ (hw _ (List.mem_of_getElem? (i := 5) rfl))) (by decide) (backOf (W := 0) (own_ok l Z a0 hw b23 (2 : Int32) f u cl_b23_o28 b2 h27 n0 Z_27 Ar_b23_o28 hin2 hat2) hZ (hw _ (List.mem_of_getElem? (i := 5) rfl)) (hw _ (List.mem_of_getElem? (i := 4) rfl)) (by decide) (by decide)) (g := (mkF m 79 #[.val (.int p0), .val (.int p1), .val (.int p2), .val (.ref b23), .val (.int f), .val (.int u), .unset] [(.int u), (.int f), (.int (2 : Int32)), (.ref b23)])) rfl (by rw [hml]; rfl) (argsL := [(.ref b23), (.int (2 : Int32)), (.int f), (.int u)]) (rest := []) (lenOf own_pd_2 rfl) rfl (by show 2 * 0 + _ ≤ _; exact Nat.le_of_eq rfl) (hb hby at_79) (fun _ _ => ⟨rfl, e30, (by decide : 1 + 0 ≤ _), (by decide : 4 + 0 ≤ _)⟩)
  dsimp only [Pt.U, Pt.locs, Pt.cells, Pt.slots] at X31 l31 y31 z31 st31 hQ31
  subst l31 y31 z31
  obtain ⟨rfl, Nq31, eh31⟩ := hQ31
  have N31 := Fr.app N30 Nq31
  have e31 : T31.heap = h27 := eh31
  obtain ⟨_, _, ⟨T32, L32, k32, n32⟩, -, X32, ⟨Lc32, hQ32, l32, y32, z32⟩, st32⟩ := Jvm.LawKit.callS X31 hx (y := (⟨"org/antichain/core/EventId", "isLowercaseHex", "([BII)Z"⟩ : MethodName)) hown (mvT hZ (hw _ (List.mem_of_getElem? (i := 6) rfl))) (mvT hZ (hw _ (List.mem_of_getElem? (i := 7) rfl))) (mvT hZ (hw _ (List.mem_of_getElem? (i := 8) rfl))) (mvT hZ (hw _ (List.mem_of_getElem? (i := 9) rfl))) (by decide) (backOf (W := 0) (own_lh_0 l Z a0 hw b23 f u cl_b23_o28 (own_B b0 b1 b2 b3) va vc h27 n0 Z_27 Ar_b23_o28 SL_b23_o28 HB_b23_o28 HR SV_27 AV_27 SZ HV hf hu hbad) hZ (hw _ (List.mem_of_getElem? (i := 9) rfl)) (hw _ (List.mem_of_getElem? (i := 8) rfl)) (by decide) (by decide)) (g := (mkF m 109 #[.val (.int p0), .val (.int p1), .val (.int p2), .val (.ref b23), .val (.int f), .val (.int u), .val (.int (0 : Int32))] [(.int u), (.int f), (.ref b23)])) rfl (by rw [hml]; rfl) (argsL := [(.ref b23), (.int f), (.int u)]) (rest := []) (lenOf own_pd_3 rfl) rfl (by show 2 * 0 + _ ≤ _; exact Nat.le_of_eq rfl) (hb hby at_109) (fun _ _ => ⟨rfl, e31, (by decide : 1 + 0 ≤ _), (by decide : 4 + 0 ≤ _)⟩)
  dsimp only [Pt.U, Pt.locs, Pt.cells, Pt.slots] at X32 l32 y32 z32 st32 hQ32
  subst l32 y32 z32
  obtain ⟨rfl, Nq32, eh32⟩ := hQ32
  have N32 := Fr.app N31 Nq32
  have e32 : T32.heap = h27 := eh32
  obtain ⟨fs, hr, hrun, hended, hW, hsame⟩ := X32.leave (v := some (.int (1 : Int32))) (fun h => by rw [Bd.returns] at h; cases h)
  refine ⟨_, _, pre0 _ ?_, hrun, hended, _, _, rfl, ?_, ⟨_, rfl⟩, hW, hsame.mono (by decide) (by decide)⟩
  · show Steps p.tables e below (s₁.setTop (mkF m 0 #[.val (.int p0), .val (.int p1), .val (.int p2), .unset, .unset, .unset, .unset] [])) _
    refine XS.iconst X0.here hx rfl (hb hby at_0) ?_
    show Steps p.tables e below (s₁.setTop (mkF m 1 #[.val (.int p0), .val (.int p1), .val (.int p2), .unset, .unset, .unset, .unset] [(.int (4 : Int32))])) _
    refine st23 _ ?_
    show Steps p.tables e below (T23.setTop (mkF m 3 #[.val (.int p0), .val (.int p1), .val (.int p2), .unset, .unset, .unset, .unset] [(.ref b23)])) _
    refine XS.astoreN X23.here hx rfl (hb hby at_3) rfl rfl (l' := #[.val (.int p0), .val (.int p1), .val (.int p2), .val (.ref b23), .unset, .unset, .unset]) rfl ?_
    show Steps p.tables e below (T23.setTop (mkF m 4 #[.val (.int p0), .val (.int p1), .val (.int p2), .val (.ref b23), .unset, .unset, .unset] [])) _
    refine XS.aloadN X23.here hx rfl (hb hby at_4) rfl rfl ?_
    show Steps p.tables e below (T23.setTop (mkF m 5 #[.val (.int p0), .val (.int p1), .val (.int p2), .val (.ref b23), .unset, .unset, .unset] [(.ref b23)])) _
    refine XS.iconst X23.here hx rfl (hb hby at_5) ?_
    show Steps p.tables e below (T23.setTop (mkF m 6 #[.val (.int p0), .val (.int p1), .val (.int p2), .val (.ref b23), .unset, .unset, .unset] [(.int (0 : Int32)), (.ref b23)])) _
    refine XS.iloadN X23.here hx rfl (hb hby at_6) rfl ?_
    show Steps p.tables e below (T23.setTop (mkF m 7 #[.val (.int p0), .val (.int p1), .val (.int p2), .val (.ref b23), .unset, .unset, .unset] [(.int p0), (.int (0 : Int32)), (.ref b23)])) _
    refine XS.i2b X23.here hx rfl (hb hby at_7) rfl ?_
    show Steps p.tables e below (T23.setTop (mkF m 8 #[.val (.int p0), .val (.int p1), .val (.int p2), .val (.ref b23), .unset, .unset, .unset] [(.int (p0.toInt8.toInt32)), (.int (0 : Int32)), (.ref b23)])) _
    refine st24 _ ?_
    show Steps p.tables e below (T24.setTop (mkF m 9 #[.val (.int p0), .val (.int p1), .val (.int p2), .val (.ref b23), .unset, .unset, .unset] [])) _
    refine XS.aloadN X24.here hx rfl (hb hby at_9) rfl rfl ?_
    show Steps p.tables e below (T24.setTop (mkF m 10 #[.val (.int p0), .val (.int p1), .val (.int p2), .val (.ref b23), .unset, .unset, .unset] [(.ref b23)])) _
    refine XS.iconst X24.here hx rfl (hb hby at_10) ?_
    show Steps p.tables e below (T24.setTop (mkF m 11 #[.val (.int p0), .val (.int p1), .val (.int p2), .val (.ref b23), .unset, .unset, .unset] [(.int (1 : Int32)), (.ref b23)])) _
    refine XS.iloadN X24.here hx rfl (hb hby at_11) rfl ?_
    show Steps p.tables e below (T24.setTop (mkF m 12 #[.val (.int p0), .val (.int p1), .val (.int p2), .val (.ref b23), .unset, .unset, .unset] [(.int p0), (.int (1 : Int32)), (.ref b23)])) _
    refine XS.bipush X24.here hx rfl (hb hby at_12) ?_
    show Steps p.tables e below (T24.setTop (mkF m 14 #[.val (.int p0), .val (.int p1), .val (.int p2), .val (.ref b23), .unset, .unset, .unset] [(.int (8 : Int32)), (.int p0), (.int (1 : Int32)), (.ref b23)])) _
    refine XS.ishr X24.here hx rfl (hb hby at_14) rfl ?_
    show Steps p.tables e below (T24.setTop (mkF m 15 #[.val (.int p0), .val (.int p1), .val (.int p2), .val (.ref b23), .unset, .unset, .unset] [(.int (p0 >>> ((8 : Int32) &&& 31))), (.int (1 : Int32)), (.ref b23)])) _
    refine XS.i2b X24.here hx rfl (hb hby at_15) rfl ?_
    show Steps p.tables e below (T24.setTop (mkF m 16 #[.val (.int p0), .val (.int p1), .val (.int p2), .val (.ref b23), .unset, .unset, .unset] [(.int ((p0 >>> ((8 : Int32) &&& 31)).toInt8.toInt32)), (.int (1 : Int32)), (.ref b23)])) _
    refine st25 _ ?_
    show Steps p.tables e below (T25.setTop (mkF m 17 #[.val (.int p0), .val (.int p1), .val (.int p2), .val (.ref b23), .unset, .unset, .unset] [])) _
    refine XS.aloadN X25.here hx rfl (hb hby at_17) rfl rfl ?_
    show Steps p.tables e below (T25.setTop (mkF m 18 #[.val (.int p0), .val (.int p1), .val (.int p2), .val (.ref b23), .unset, .unset, .unset] [(.ref b23)])) _
    refine XS.iconst X25.here hx rfl (hb hby at_18) ?_
    show Steps p.tables e below (T25.setTop (mkF m 19 #[.val (.int p0), .val (.int p1), .val (.int p2), .val (.ref b23), .unset, .unset, .unset] [(.int (2 : Int32)), (.ref b23)])) _
    refine XS.iloadN X25.here hx rfl (hb hby at_19) rfl ?_
    show Steps p.tables e below (T25.setTop (mkF m 20 #[.val (.int p0), .val (.int p1), .val (.int p2), .val (.ref b23), .unset, .unset, .unset] [(.int p0), (.int (2 : Int32)), (.ref b23)])) _
    refine XS.bipush X25.here hx rfl (hb hby at_20) ?_
    show Steps p.tables e below (T25.setTop (mkF m 22 #[.val (.int p0), .val (.int p1), .val (.int p2), .val (.ref b23), .unset, .unset, .unset] [(.int (16 : Int32)), (.int p0), (.int (2 : Int32)), (.ref b23)])) _
    refine XS.ishr X25.here hx rfl (hb hby at_22) rfl ?_
    show Steps p.tables e below (T25.setTop (mkF m 23 #[.val (.int p0), .val (.int p1), .val (.int p2), .val (.ref b23), .unset, .unset, .unset] [(.int (p0 >>> ((16 : Int32) &&& 31))), (.int (2 : Int32)), (.ref b23)])) _
    refine XS.i2b X25.here hx rfl (hb hby at_23) rfl ?_
    show Steps p.tables e below (T25.setTop (mkF m 24 #[.val (.int p0), .val (.int p1), .val (.int p2), .val (.ref b23), .unset, .unset, .unset] [(.int ((p0 >>> ((16 : Int32) &&& 31)).toInt8.toInt32)), (.int (2 : Int32)), (.ref b23)])) _
    refine st26 _ ?_
    show Steps p.tables e below (T26.setTop (mkF m 25 #[.val (.int p0), .val (.int p1), .val (.int p2), .val (.ref b23), .unset, .unset, .unset] [])) _
    refine XS.aloadN X26.here hx rfl (hb hby at_25) rfl rfl ?_
    show Steps p.tables e below (T26.setTop (mkF m 26 #[.val (.int p0), .val (.int p1), .val (.int p2), .val (.ref b23), .unset, .unset, .unset] [(.ref b23)])) _
    refine XS.iconst X26.here hx rfl (hb hby at_26) ?_
    show Steps p.tables e below (T26.setTop (mkF m 27 #[.val (.int p0), .val (.int p1), .val (.int p2), .val (.ref b23), .unset, .unset, .unset] [(.int (3 : Int32)), (.ref b23)])) _
    refine XS.iloadN X26.here hx rfl (hb hby at_27) rfl ?_
    show Steps p.tables e below (T26.setTop (mkF m 28 #[.val (.int p0), .val (.int p1), .val (.int p2), .val (.ref b23), .unset, .unset, .unset] [(.int p0), (.int (3 : Int32)), (.ref b23)])) _
    refine XS.bipush X26.here hx rfl (hb hby at_28) ?_
    show Steps p.tables e below (T26.setTop (mkF m 30 #[.val (.int p0), .val (.int p1), .val (.int p2), .val (.ref b23), .unset, .unset, .unset] [(.int (24 : Int32)), (.int p0), (.int (3 : Int32)), (.ref b23)])) _
    refine XS.ishr X26.here hx rfl (hb hby at_30) rfl ?_
    show Steps p.tables e below (T26.setTop (mkF m 31 #[.val (.int p0), .val (.int p1), .val (.int p2), .val (.ref b23), .unset, .unset, .unset] [(.int (p0 >>> ((24 : Int32) &&& 31))), (.int (3 : Int32)), (.ref b23)])) _
    refine XS.i2b X26.here hx rfl (hb hby at_31) rfl ?_
    show Steps p.tables e below (T26.setTop (mkF m 32 #[.val (.int p0), .val (.int p1), .val (.int p2), .val (.ref b23), .unset, .unset, .unset] [(.int ((p0 >>> ((24 : Int32) &&& 31)).toInt8.toInt32)), (.int (3 : Int32)), (.ref b23)])) _
    refine st27 _ ?_
    show Steps p.tables e below (T27.setTop (mkF m 33 #[.val (.int p0), .val (.int p1), .val (.int p2), .val (.ref b23), .unset, .unset, .unset] [])) _
    refine XS.iloadN X27.here hx rfl (hb hby at_33) rfl ?_
    show Steps p.tables e below (T27.setTop (mkF m 34 #[.val (.int p0), .val (.int p1), .val (.int p2), .val (.ref b23), .unset, .unset, .unset] [(.int p1)])) _
    refine X27.ldcInt hx hown (mvT hZ (hw _ (List.mem_of_getElem? (i := 1) rfl))) (g := (mkF m 34 #[.val (.int p0), .val (.int p1), .val (.int p2), .val (.ref b23), .unset, .unset, .unset] [(.int p1)])) rfl (hb hby at_34) _ ?_
    show Steps p.tables e below (T27.setTop (mkF m 36 #[.val (.int p0), .val (.int p1), .val (.int p2), .val (.ref b23), .unset, .unset, .unset] [(.int (2147483647 : Int32)), (.int p1)])) _
    refine XS.iand X27.here hx rfl (hb hby at_36) rfl ?_
    show Steps p.tables e below (T27.setTop (mkF m 37 #[.val (.int p0), .val (.int p1), .val (.int p2), .val (.ref b23), .unset, .unset, .unset] [(.int (p1 &&& (2147483647 : Int32)))])) _
    refine XS.iconst X27.here hx rfl (hb hby at_37) ?_
    show Steps p.tables e below (T27.setTop (mkF m 38 #[.val (.int p0), .val (.int p1), .val (.int p2), .val (.ref b23), .unset, .unset, .unset] [(.int (5 : Int32)), (.int (p1 &&& (2147483647 : Int32)))])) _
    refine iremM X27 hx rfl (hb hby at_38) rfl (by decide) ?_
    rw [hfe]
    show Steps p.tables e below (T27.setTop (mkF m 39 #[.val (.int p0), .val (.int p1), .val (.int p2), .val (.ref b23), .unset, .unset, .unset] [(.int f)])) _
    refine XS.istore X27.here hx rfl (hb hby at_39) rfl (l' := #[.val (.int p0), .val (.int p1), .val (.int p2), .val (.ref b23), .val (.int f), .unset, .unset]) rfl ?_
    show Steps p.tables e below (T27.setTop (mkF m 41 #[.val (.int p0), .val (.int p1), .val (.int p2), .val (.ref b23), .val (.int f), .unset, .unset] [])) _
    refine XS.iloadN X27.here hx rfl (hb hby at_41) rfl ?_
    show Steps p.tables e below (T27.setTop (mkF m 42 #[.val (.int p0), .val (.int p1), .val (.int p2), .val (.ref b23), .val (.int f), .unset, .unset] [(.int p2)])) _
    refine X27.ldcInt hx hown (mvT hZ (hw _ (List.mem_of_getElem? (i := 1) rfl))) (g := (mkF m 42 #[.val (.int p0), .val (.int p1), .val (.int p2), .val (.ref b23), .val (.int f), .unset, .unset] [(.int p2)])) rfl (hb hby at_42) _ ?_
    show Steps p.tables e below (T27.setTop (mkF m 44 #[.val (.int p0), .val (.int p1), .val (.int p2), .val (.ref b23), .val (.int f), .unset, .unset] [(.int (2147483647 : Int32)), (.int p2)])) _
    refine XS.iand X27.here hx rfl (hb hby at_44) rfl ?_
    show Steps p.tables e below (T27.setTop (mkF m 45 #[.val (.int p0), .val (.int p1), .val (.int p2), .val (.ref b23), .val (.int f), .unset, .unset] [(.int (p2 &&& (2147483647 : Int32)))])) _
    refine XS.iconst X27.here hx rfl (hb hby at_45) ?_
    show Steps p.tables e below (T27.setTop (mkF m 46 #[.val (.int p0), .val (.int p1), .val (.int p2), .val (.ref b23), .val (.int f), .unset, .unset] [(.int (5 : Int32)), (.int (p2 &&& (2147483647 : Int32)))])) _
    refine iremM X27 hx rfl (hb hby at_46) rfl (by decide) ?_
    rw [hue]
    show Steps p.tables e below (T27.setTop (mkF m 47 #[.val (.int p0), .val (.int p1), .val (.int p2), .val (.ref b23), .val (.int f), .unset, .unset] [(.int u)])) _
    refine XS.istore X27.here hx rfl (hb hby at_47) rfl (l' := #[.val (.int p0), .val (.int p1), .val (.int p2), .val (.ref b23), .val (.int f), .val (.int u), .unset]) rfl ?_
    show Steps p.tables e below (T27.setTop (mkF m 49 #[.val (.int p0), .val (.int p1), .val (.int p2), .val (.ref b23), .val (.int f), .val (.int u), .unset] [])) _
    refine XS.aloadN X27.here hx rfl (hb hby at_49) rfl rfl ?_
    show Steps p.tables e below (T27.setTop (mkF m 50 #[.val (.int p0), .val (.int p1), .val (.int p2), .val (.ref b23), .val (.int f), .val (.int u), .unset] [(.ref b23)])) _
    refine XS.iconst X27.here hx rfl (hb hby at_50) ?_
    show Steps p.tables e below (T27.setTop (mkF m 51 #[.val (.int p0), .val (.int p1), .val (.int p2), .val (.ref b23), .val (.int f), .val (.int u), .unset] [(.int (0 : Int32)), (.ref b23)])) _
    refine XS.iload X27.here hx rfl (hb hby at_51) rfl ?_
    show Steps p.tables e below (T27.setTop (mkF m 53 #[.val (.int p0), .val (.int p1), .val (.int p2), .val (.ref b23), .val (.int f), .val (.int u), .unset] [(.int f), (.int (0 : Int32)), (.ref b23)])) _
    refine XS.iload X27.here hx rfl (hb hby at_53) rfl ?_
    show Steps p.tables e below (T27.setTop (mkF m 55 #[.val (.int p0), .val (.int p1), .val (.int p2), .val (.ref b23), .val (.int f), .val (.int u), .unset] [(.int u), (.int f), (.int (0 : Int32)), (.ref b23)])) _
    refine st29 _ ?_
    show Steps p.tables e below (T29.setTop (mkF m 58 #[.val (.int p0), .val (.int p1), .val (.int p2), .val (.ref b23), .val (.int f), .val (.int u), .unset] [(.int (own_okv (0 : Int32) f u b0))])) _
    refine XS.ifNo X29.here hx rfl (hb hby at_58) rfl ((if0 _ _).trans (feq hc58).1) ?_
    show Steps p.tables e below (T29.setTop (mkF m 61 #[.val (.int p0), .val (.int p1), .val (.int p2), .val (.ref b23), .val (.int f), .val (.int u), .unset] [])) _
    refine XS.aloadN X29.here hx rfl (hb hby at_61) rfl rfl ?_
    show Steps p.tables e below (T29.setTop (mkF m 62 #[.val (.int p0), .val (.int p1), .val (.int p2), .val (.ref b23), .val (.int f), .val (.int u), .unset] [(.ref b23)])) _
    refine XS.iconst X29.here hx rfl (hb hby at_62) ?_
    show Steps p.tables e below (T29.setTop (mkF m 63 #[.val (.int p0), .val (.int p1), .val (.int p2), .val (.ref b23), .val (.int f), .val (.int u), .unset] [(.int (1 : Int32)), (.ref b23)])) _
    refine XS.iload X29.here hx rfl (hb hby at_63) rfl ?_
    show Steps p.tables e below (T29.setTop (mkF m 65 #[.val (.int p0), .val (.int p1), .val (.int p2), .val (.ref b23), .val (.int f), .val (.int u), .unset] [(.int f), (.int (1 : Int32)), (.ref b23)])) _
    refine XS.iload X29.here hx rfl (hb hby at_65) rfl ?_
    show Steps p.tables e below (T29.setTop (mkF m 67 #[.val (.int p0), .val (.int p1), .val (.int p2), .val (.ref b23), .val (.int f), .val (.int u), .unset] [(.int u), (.int f), (.int (1 : Int32)), (.ref b23)])) _
    refine st30 _ ?_
    show Steps p.tables e below (T30.setTop (mkF m 70 #[.val (.int p0), .val (.int p1), .val (.int p2), .val (.ref b23), .val (.int f), .val (.int u), .unset] [(.int (own_okv (1 : Int32) f u b1))])) _
    refine XS.ifNo X30.here hx rfl (hb hby at_70) rfl ((if0 _ _).trans (feq hc70).1) ?_
    show Steps p.tables e below (T30.setTop (mkF m 73 #[.val (.int p0), .val (.int p1), .val (.int p2), .val (.ref b23), .val (.int f), .val (.int u), .unset] [])) _
    refine XS.aloadN X30.here hx rfl (hb hby at_73) rfl rfl ?_
    show Steps p.tables e below (T30.setTop (mkF m 74 #[.val (.int p0), .val (.int p1), .val (.int p2), .val (.ref b23), .val (.int f), .val (.int u), .unset] [(.ref b23)])) _
    refine XS.iconst X30.here hx rfl (hb hby at_74) ?_
    show Steps p.tables e below (T30.setTop (mkF m 75 #[.val (.int p0), .val (.int p1), .val (.int p2), .val (.ref b23), .val (.int f), .val (.int u), .unset] [(.int (2 : Int32)), (.ref b23)])) _
    refine XS.iload X30.here hx rfl (hb hby at_75) rfl ?_
    show Steps p.tables e below (T30.setTop (mkF m 77 #[.val (.int p0), .val (.int p1), .val (.int p2), .val (.ref b23), .val (.int f), .val (.int u), .unset] [(.int f), (.int (2 : Int32)), (.ref b23)])) _
    refine XS.iload X30.here hx rfl (hb hby at_77) rfl ?_
    show Steps p.tables e below (T30.setTop (mkF m 79 #[.val (.int p0), .val (.int p1), .val (.int p2), .val (.ref b23), .val (.int f), .val (.int u), .unset] [(.int u), (.int f), (.int (2 : Int32)), (.ref b23)])) _
    refine st31 _ ?_
    show Steps p.tables e below (T31.setTop (mkF m 82 #[.val (.int p0), .val (.int p1), .val (.int p2), .val (.ref b23), .val (.int f), .val (.int u), .unset] [(.int (own_okv (2 : Int32) f u b2))])) _
    refine XS.ifYes X31.here hx rfl (pc0 := 82) (pc' := 101) rfl (hb hby at_82) rfl ((if0 _ _).trans (teq hc82).1) (by decide) (by decide) ?_
    show Steps p.tables e below (T31.setTop (mkF m 101 #[.val (.int p0), .val (.int p1), .val (.int p2), .val (.ref b23), .val (.int f), .val (.int u), .unset] [])) _
    refine XS.iconst X31.here hx rfl (hb hby at_101) ?_
    show Steps p.tables e below (T31.setTop (mkF m 102 #[.val (.int p0), .val (.int p1), .val (.int p2), .val (.ref b23), .val (.int f), .val (.int u), .unset] [(.int (0 : Int32))])) _
    refine XS.istore X31.here hx rfl (hb hby at_102) rfl (l' := #[.val (.int p0), .val (.int p1), .val (.int p2), .val (.ref b23), .val (.int f), .val (.int u), .val (.int (0 : Int32))]) rfl ?_
    show Steps p.tables e below (T31.setTop (mkF m 104 #[.val (.int p0), .val (.int p1), .val (.int p2), .val (.ref b23), .val (.int f), .val (.int u), .val (.int (0 : Int32))] [])) _
    refine XS.aloadN X31.here hx rfl (hb hby at_104) rfl rfl ?_
    show Steps p.tables e below (T31.setTop (mkF m 105 #[.val (.int p0), .val (.int p1), .val (.int p2), .val (.ref b23), .val (.int f), .val (.int u), .val (.int (0 : Int32))] [(.ref b23)])) _
    refine XS.iload X31.here hx rfl (hb hby at_105) rfl ?_
    show Steps p.tables e below (T31.setTop (mkF m 107 #[.val (.int p0), .val (.int p1), .val (.int p2), .val (.ref b23), .val (.int f), .val (.int u), .val (.int (0 : Int32))] [(.int f), (.ref b23)])) _
    refine XS.iload X31.here hx rfl (hb hby at_107) rfl ?_
    show Steps p.tables e below (T31.setTop (mkF m 109 #[.val (.int p0), .val (.int p1), .val (.int p2), .val (.ref b23), .val (.int f), .val (.int u), .val (.int (0 : Int32))] [(.int u), (.int f), (.ref b23)])) _
    refine st32 _ ?_
    show Steps p.tables e below (T32.setTop (mkF m 112 #[.val (.int p0), .val (.int p1), .val (.int p2), .val (.ref b23), .val (.int f), .val (.int u), .val (.int (0 : Int32))] [(.int (0 : Int32))])) _
    refine XS.iload X32.here hx rfl (hb hby at_112) rfl ?_
    show Steps p.tables e below (T32.setTop (mkF m 114 #[.val (.int p0), .val (.int p1), .val (.int p2), .val (.ref b23), .val (.int f), .val (.int u), .val (.int (0 : Int32))] [(.int (0 : Int32)), (.int (0 : Int32))])) _
    refine XS.icmpNo X32.here hx rfl (hb hby at_114) rfl (teq (rfl : (0 : Int32) = (0 : Int32))).2 ?_
    show Steps p.tables e below (T32.setTop (mkF m 117 #[.val (.int p0), .val (.int p1), .val (.int p2), .val (.ref b23), .val (.int f), .val (.int u), .val (.int (0 : Int32))] [])) _
    refine XS.iconst X32.here hx rfl (hb hby at_117) ?_
    show Steps p.tables e below (T32.setTop (mkF m 118 #[.val (.int p0), .val (.int p1), .val (.int p2), .val (.ref b23), .val (.int f), .val (.int u), .val (.int (0 : Int32))] [(.int (1 : Int32))])) _
    refine XS.goto X32.here hx rfl (pc0 := 118) (pc' := 122) rfl (hb hby at_118) (by decide) (by decide) ?_
    show Steps p.tables e below (T32.setTop (mkF m 122 #[.val (.int p0), .val (.int p1), .val (.int p2), .val (.ref b23), .val (.int f), .val (.int u), .val (.int (0 : Int32))] [(.int (1 : Int32))])) _
    exact retN X32 hx (t := .boolean) Bd.returns (by simp) (hb hby at_122) hr
  · show (own_Q1 n0) _ T32.heap _
    rw [e32]
    exact ⟨rfl, N32⟩
set_option maxRecDepth 65536 in
set_option maxHeartbeats 40000000 in
theorem own_law_3 (l : Launch) (Z : State) (a0 : Array Value) (hw : ∀ d ∈ tables_1, d.before a0 Z = true) (p0 : Int32) (p1 : Int32) (p2 : Int32) (f : Int32) (u : Int32) (b0 : Int32) (b1 : Int32) (b2 : Int32) (b3 : Int32) (va : Addr) (vc : Cell) (h0 : Heap) (n0 : Nat) (Z0 : n0 ≤ h0.size) (SV : Sta Z h0 "org/antichain/core/EventId" "VALUES" "[B" (.ref va)) (AV : Arr Z h0 va vc .byte) (SZ : vc.slots.size = (128 : Int32).toNatClampNeg) (HV : ∀ b : Int32, ¬ b < 0 → b < 128 → vc.slots[b.toNatClampNeg]? = some (.int (own_dg b))) (hfe : (p1 &&& (2147483647 : Int32)) % (5 : Int32) = f) (hue : (p2 &&& (2147483647 : Int32)) % (5 : Int32) = u) (hf : 0 ≤ f.toInt) (hu : u.toInt ≤ 4) (hb0 : nar .byte (p0.toInt8.toInt32) = b0) (hb1 : nar .byte ((p0 >>> ((8 : Int32) &&& 31)).toInt8.toInt32) = b1) (hb2 : nar .byte ((p0 >>> ((16 : Int32) &&& 31)).toInt8.toInt32) = b2) (hb3 : nar .byte ((p0 >>> ((24 : Int32) &&& 31)).toInt8.toInt32) = b3) (HR : ∀ k : Nat, own_B b0 b1 b2 b3 k < 128) (hbad : own_bad f u (own_B b0 b1 b2 b3)) (hc58 : ¬ ((own_okv (0 : Int32) f u b0) = (0 : Int32))) (hc70 : ¬ ((own_okv (1 : Int32) f u b1) = (0 : Int32))) (hc82 : ¬ ((own_okv (2 : Int32) f u b2) = (0 : Int32))) (hc94 : (own_okv (3 : Int32) f u b3) = (0 : Int32)) :
    Met l Z tables_1 x code maxLocals ret room_1 #[(.int p0), (.int p1), (.int p2)] h0 (own_Q1 n0) := by
  refine MetFree.of_bodySF (plainFor_of_name own_pn_0) hisR ?_
  intro p e s m args below meth c s₁ Bd hml0 hP hK
  obtain ⟨rfl, hZ, hh⟩ := hP
  have hx := Bd.exec
  have hby := Bd.bytes
  have hml : c.maxLocals = 7 := hml0
  have hown : s.vm.findClass "org/antichain/core/EventIdIsLowercaseHexPinLaw" = some m.cls := findClass_of_methodNamed Bd.named
  have hnm := (name_of_methodNamed Bd.named Bd.method).1
  have X0 : Stand p l e room_1 s m #[(.int p0), (.int p1), (.int p2)] below meth c s₁ [] 0 0 := Stand.of_body Bd
  have e0 : s₁.heap = h0 := by rw [← hh, Bd.state]; rfl
  have N0 := Fr.nil n0
  have pre0 : ∀ t_, Steps p.tables e below (s₁.setTop (mkF m 0 #[.val (.int p0), .val (.int p1), .val (.int p2), .unset, .unset, .unset, .unset] [])) t_ → Steps p.tables e below (s₁.setTop (entryFrame m #[(.int p0), (.int p1), (.int p2)] maxLocals)) t_ := fun t_ k_ => castTop (own_ef_3 m p0 p1 p2) k_
  obtain ⟨T33, h33, k33, X33, e33, E33, A33, st33⟩ := newP X0 hx hZ (hw _ (List.mem_of_getElem? (i := 0) rfl)) e0 (g := (mkF m 1 #[.val (.int p0), .val (.int p1), .val (.int p2), .unset, .unset, .unset, .unset] [(.int (4 : Int32))])) rfl (hb hby at_1) rfl (by decide) (cap := 4) (by decide) (by decide) (by decide) (by decide)
  obtain ⟨b33, g33⟩ : ∃ z, z = h0.size := ⟨_, rfl⟩
  rw [← g33] at A33 st33
  have ne_va_b33 : va ≠ b33 := Nat.ne_of_lt (Nat.lt_of_lt_of_le AV.lt (Nat.le_of_eq g33.symm))
  have g_b33 : n0 ≤ b33 := Nat.le_trans Z0 (Nat.le_of_eq g33.symm)
  have SV_33 : Sta Z h33 "org/antichain/core/EventId" "VALUES" "[B" (.ref va) := SV.ext E33
  have AV_33 : Arr Z h33 va vc .byte := AV.ext E33
  have Z_33 : n0 ≤ h33.size := Nat.le_trans Z0 E33.1
  have V_b33 : Arv Z h33 b33 k33 .byte (4 : Int32) [(.int (0 : Int32)), (.int (0 : Int32)), (.int (0 : Int32)), (.int (0 : Int32))] (.int (0 : Int32)) := (Arv.new A33 (by decide)).pad (pad_rep [] (.int (0 : Int32)) 4)
  obtain ⟨cl_b33_8, Ar_b33_8, q_b33_8, S_b33_8, N_b33_8, H_b33_8, G_b33_8⟩ := V_b33
  have hinb33_8 : ¬ ((0 : Int32) < 0 ∨ cl_b33_8.slots.size ≤ ((0 : Int32)).toNatClampNeg) := inb_of S_b33_8 ⟨by decide, by decide⟩
  obtain ⟨T34, h34, X34, e34, W34, st34⟩ := stB X33 hx hZ e33 Ar_b33_8 (j := (0 : Int32)) hinb33_8 (g := (mkF m 8 #[.val (.int p0), .val (.int p1), .val (.int p2), .val (.ref b33), .unset, .unset, .unset] [(.int (p0.toInt8.toInt32)), (.int (0 : Int32)), (.ref b33)])) rfl rfl (hb hby at_8)
  have V_b33_34 : Arv Z h34 b33 k33 .byte (4 : Int32) [(.int (nar .byte (p0.toInt8.toInt32))), (.int (0 : Int32)), (.int (0 : Int32)), (.int (0 : Int32))] (.int (0 : Int32)) := Arv.set Ar_b33_8 q_b33_8 S_b33_8 N_b33_8 H_b33_8 G_b33_8 (fits_nar_byte _) W34 0 rfl (Nat.le_of_ble_eq_true rfl)
  have SV_34 : Sta Z h34 "org/antichain/core/EventId" "VALUES" "[B" (.ref va) := SV_33.wr W34
  have AV_34 : Arr Z h34 va vc .byte := AV_33.other W34 ne_va_b33
  have Z_34 : n0 ≤ h34.size := Nat.le_trans Z_33 (Keep.of_wr W34).1
  have N34 := Fr.snoc X34 N0 g_b33
  obtain ⟨cl_b33_16, Ar_b33_16, q_b33_16, S_b33_16, N_b33_16, H_b33_16, G_b33_16⟩ := V_b33_34
  have hinb33_16 : ¬ ((1 : Int32) < 0 ∨ cl_b33_16.slots.size ≤ ((1 : Int32)).toNatClampNeg) := inb_of S_b33_16 ⟨by decide, by decide⟩
  obtain ⟨T35, h35, X35, e35, W35, st35⟩ := stB X34 hx hZ e34 Ar_b33_16 (j := (1 : Int32)) hinb33_16 (g := (mkF m 16 #[.val (.int p0), .val (.int p1), .val (.int p2), .val (.ref b33), .unset, .unset, .unset] [(.int ((p0 >>> ((8 : Int32) &&& 31)).toInt8.toInt32)), (.int (1 : Int32)), (.ref b33)])) rfl rfl (hb hby at_16)
  have V_b33_35 : Arv Z h35 b33 k33 .byte (4 : Int32) [(.int (nar .byte (p0.toInt8.toInt32))), (.int (nar .byte ((p0 >>> ((8 : Int32) &&& 31)).toInt8.toInt32))), (.int (0 : Int32)), (.int (0 : Int32))] (.int (0 : Int32)) := Arv.set Ar_b33_16 q_b33_16 S_b33_16 N_b33_16 H_b33_16 G_b33_16 (fits_nar_byte _) W35 1 rfl (Nat.le_of_ble_eq_true rfl)
  have SV_35 : Sta Z h35 "org/antichain/core/EventId" "VALUES" "[B" (.ref va) := SV_34.wr W35
  have AV_35 : Arr Z h35 va vc .byte := AV_34.other W35 ne_va_b33
  have Z_35 : n0 ≤ h35.size := Nat.le_trans Z_34 (Keep.of_wr W35).1
  have N35 := Fr.snoc X35 N34 g_b33
  obtain ⟨cl_b33_24, Ar_b33_24, q_b33_24, S_b33_24, N_b33_24, H_b33_24, G_b33_24⟩ := V_b33_35
  have hinb33_24 : ¬ ((2 : Int32) < 0 ∨ cl_b33_24.slots.size ≤ ((2 : Int32)).toNatClampNeg) := inb_of S_b33_24 ⟨by decide, by decide⟩
  obtain ⟨T36, h36, X36, e36, W36, st36⟩ := stB X35 hx hZ e35 Ar_b33_24 (j := (2 : Int32)) hinb33_24 (g := (mkF m 24 #[.val (.int p0), .val (.int p1), .val (.int p2), .val (.ref b33), .unset, .unset, .unset] [(.int ((p0 >>> ((16 : Int32) &&& 31)).toInt8.toInt32)), (.int (2 : Int32)), (.ref b33)])) rfl rfl (hb hby at_24)
  have V_b33_36 : Arv Z h36 b33 k33 .byte (4 : Int32) [(.int (nar .byte (p0.toInt8.toInt32))), (.int (nar .byte ((p0 >>> ((8 : Int32) &&& 31)).toInt8.toInt32))), (.int (nar .byte ((p0 >>> ((16 : Int32) &&& 31)).toInt8.toInt32))), (.int (0 : Int32))] (.int (0 : Int32)) := Arv.set Ar_b33_24 q_b33_24 S_b33_24 N_b33_24 H_b33_24 G_b33_24 (fits_nar_byte _) W36 2 rfl (Nat.le_of_ble_eq_true rfl)
  have SV_36 : Sta Z h36 "org/antichain/core/EventId" "VALUES" "[B" (.ref va) := SV_35.wr W36
  have AV_36 : Arr Z h36 va vc .byte := AV_35.other W36 ne_va_b33
  have Z_36 : n0 ≤ h36.size := Nat.le_trans Z_35 (Keep.of_wr W36).1
  have N36 := Fr.snoc X36 N35 g_b33
  obtain ⟨cl_b33_32, Ar_b33_32, q_b33_32, S_b33_32, N_b33_32, H_b33_32, G_b33_32⟩ := V_b33_36
  have hinb33_32 : ¬ ((3 : Int32) < 0 ∨ cl_b33_32.slots.size ≤ ((3 : Int32)).toNatClampNeg) := inb_of S_b33_32 ⟨by decide, by decide⟩
  obtain ⟨T37, h37, X37, e37, W37, st37⟩ := stB X36 hx hZ e36 Ar_b33_32 (j := (3 : Int32)) hinb33_32 (g := (mkF m 32 #[.val (.int p0), .val (.int p1), .val (.int p2), .val (.ref b33), .unset, .unset, .unset] [(.int ((p0 >>> ((24 : Int32) &&& 31)).toInt8.toInt32)), (.int (3 : Int32)), (.ref b33)])) rfl rfl (hb hby at_32)
  have V_b33_37 : Arv Z h37 b33 k33 .byte (4 : Int32) [(.int (nar .byte (p0.toInt8.toInt32))), (.int (nar .byte ((p0 >>> ((8 : Int32) &&& 31)).toInt8.toInt32))), (.int (nar .byte ((p0 >>> ((16 : Int32) &&& 31)).toInt8.toInt32))), (.int (nar .byte ((p0 >>> ((24 : Int32) &&& 31)).toInt8.toInt32)))] (.int (0 : Int32)) := Arv.set Ar_b33_32 q_b33_32 S_b33_32 N_b33_32 H_b33_32 G_b33_32 (fits_nar_byte _) W37 3 rfl (Nat.le_of_ble_eq_true rfl)
  have SV_37 : Sta Z h37 "org/antichain/core/EventId" "VALUES" "[B" (.ref va) := SV_36.wr W37
  have AV_37 : Arr Z h37 va vc .byte := AV_36.other W37 ne_va_b33
  have Z_37 : n0 ≤ h37.size := Nat.le_trans Z_36 (Keep.of_wr W37).1
  have N37 := Fr.snoc X37 N36 g_b33
  rw [hb0, hb1, hb2, hb3] at V_b33_37
  obtain ⟨cl_b33_o38, Ar_b33_o38, q_b33_o38, S_b33_o38, N_b33_o38, H_b33_o38, G_b33_o38⟩ := V_b33_37
  have hin0 : ¬ ((0 : Int32) < 0 ∨ cl_b33_o38.slots.size ≤ (0 : Int32).toNatClampNeg) := inb_of S_b33_o38 ⟨by decide, by decide⟩
  have hat0 : cl_b33_o38.slots[(0 : Int32).toNatClampNeg]? = some (.int b0) := H_b33_o38.at hin0 rfl
  have hin1 : ¬ ((1 : Int32) < 0 ∨ cl_b33_o38.slots.size ≤ (1 : Int32).toNatClampNeg) := inb_of S_b33_o38 ⟨by decide, by decide⟩
  have hat1 : cl_b33_o38.slots[(1 : Int32).toNatClampNeg]? = some (.int b1) := H_b33_o38.at hin1 rfl
  have hin2 : ¬ ((2 : Int32) < 0 ∨ cl_b33_o38.slots.size ≤ (2 : Int32).toNatClampNeg) := inb_of S_b33_o38 ⟨by decide, by decide⟩
  have hat2 : cl_b33_o38.slots[(2 : Int32).toNatClampNeg]? = some (.int b2) := H_b33_o38.at hin2 rfl
  have hin3 : ¬ ((3 : Int32) < 0 ∨ cl_b33_o38.slots.size ≤ (3 : Int32).toNatClampNeg) := inb_of S_b33_o38 ⟨by decide, by decide⟩
  have hat3 : cl_b33_o38.slots[(3 : Int32).toNatClampNeg]? = some (.int b3) := H_b33_o38.at hin3 rfl
  have SL_b33_o38 : cl_b33_o38.slots.size = 4 := S_b33_o38
  have HB_b33_o38 : ∀ k : Nat, k < 4 → cl_b33_o38.slots[k]? = some (.int (own_B b0 b1 b2 b3 k)) := fun k hk => match k, hk with | 0, _ => hat0 | 1, _ => hat1 | 2, _ => hat2 | 3, _ => hat3 | k + 4, hk => absurd hk (by omega)
  obtain ⟨_, _, ⟨T39, L39, k39, n39⟩, -, X39, ⟨Lc39, hQ39, l39, y39, z39⟩, st39⟩ := Jvm.LawKit.callS X37 hx (y := (⟨"org/antichain/core/EventIdIsLowercaseHexPinLaw", "ok", "([BIII)Z"⟩ : MethodName)) hown (mvT hZ (hw _ (List.mem_of_getElem? (i := 2) rfl))) (mvT hZ (hw _ (List.mem_of_getElem? (i := 3) rfl))) (mvT hZ (hw _ (List.mem_of_getElem? (i := 4) rfl))) (mvT hZ (hw _ (List.mem_of_getElem? (i := 5) rfl))) (by decide) (backOf (W := 0) (own_ok l Z a0 hw b33 (0 : Int32) f u cl_b33_o38 b0 h37 n0 Z_37 Ar_b33_o38 hin0 hat0) hZ (hw _ (List.mem_of_getElem? (i := 5) rfl)) (hw _ (List.mem_of_getElem? (i := 4) rfl)) (by decide) (by decide)) (g := (mkF m 55 #[.val (.int p0), .val (.int p1), .val (.int p2), .val (.ref b33), .val (.int f), .val (.int u), .unset] [(.int u), (.int f), (.int (0 : Int32)), (.ref b33)])) rfl (by rw [hml]; rfl) (argsL := [(.ref b33), (.int (0 : Int32)), (.int f), (.int u)]) (rest := []) (lenOf own_pd_2 rfl) rfl (by show 2 * 0 + _ ≤ _; exact Nat.le_of_eq rfl) (hb hby at_55) (fun _ _ => ⟨rfl, e37, (by decide : 1 + 0 ≤ _), (by decide : 4 + 0 ≤ _)⟩)
  dsimp only [Pt.U, Pt.locs, Pt.cells, Pt.slots] at X39 l39 y39 z39 st39 hQ39
  subst l39 y39 z39
  obtain ⟨rfl, Nq39, eh39⟩ := hQ39
  have N39 := Fr.app N37 Nq39
  have e39 : T39.heap = h37 := eh39
  obtain ⟨_, _, ⟨T40, L40, k40, n40⟩, -, X40, ⟨Lc40, hQ40, l40, y40, z40⟩, st40⟩ := Jvm.LawKit.callS X39 hx (y := (⟨"org/antichain/core/EventIdIsLowercaseHexPinLaw", "ok", "([BIII)Z"⟩ : MethodName)) hown (mvT hZ (hw _ (List.mem_of_getElem? (i := 2) rfl))) (mvT hZ (hw _ (List.mem_of_getElem? (i := 3) rfl))) (mvT hZ (hw _ (List.mem_of_getElem? (i := 4) rfl))) (mvT hZ (hw _ (List.mem_of_getElem? (i := 5) rfl))) (by decide) (backOf (W := 0) (own_ok l Z a0 hw b33 (1 : Int32) f u cl_b33_o38 b1 h37 n0 Z_37 Ar_b33_o38 hin1 hat1) hZ (hw _ (List.mem_of_getElem? (i := 5) rfl)) (hw _ (List.mem_of_getElem? (i := 4) rfl)) (by decide) (by decide)) (g := (mkF m 67 #[.val (.int p0), .val (.int p1), .val (.int p2), .val (.ref b33), .val (.int f), .val (.int u), .unset] [(.int u), (.int f), (.int (1 : Int32)), (.ref b33)])) rfl (by rw [hml]; rfl) (argsL := [(.ref b33), (.int (1 : Int32)), (.int f), (.int u)]) (rest := []) (lenOf own_pd_2 rfl) rfl (by show 2 * 0 + _ ≤ _; exact Nat.le_of_eq rfl) (hb hby at_67) (fun _ _ => ⟨rfl, e39, (by decide : 1 + 0 ≤ _), (by decide : 4 + 0 ≤ _)⟩)
  dsimp only [Pt.U, Pt.locs, Pt.cells, Pt.slots] at X40 l40 y40 z40 st40 hQ40
  subst l40 y40 z40
  obtain ⟨rfl, Nq40, eh40⟩ := hQ40
  have N40 := Fr.app N39 Nq40
  have e40 : T40.heap = h37 := eh40
  obtain ⟨_, _, ⟨T41, L41, k41, n41⟩, -, X41, ⟨Lc41, hQ41, l41, y41, z41⟩, st41⟩ := Jvm.LawKit.callS X40 hx (y := (⟨"org/antichain/core/EventIdIsLowercaseHexPinLaw", "ok", "([BIII)Z"⟩ : MethodName)) hown (mvT hZ (hw _ (List.mem_of_getElem? (i := 2) rfl))) (mvT hZ (hw _ (List.mem_of_getElem? (i := 3) rfl))) (mvT hZ (hw _ (List.mem_of_getElem? (i := 4) rfl))) (mvT hZ (hw _ (List.mem_of_getElem? (i := 5) rfl))) (by decide) (backOf (W := 0) (own_ok l Z a0 hw b33 (2 : Int32) f u cl_b33_o38 b2 h37 n0 Z_37 Ar_b33_o38 hin2 hat2) hZ (hw _ (List.mem_of_getElem? (i := 5) rfl)) (hw _ (List.mem_of_getElem? (i := 4) rfl)) (by decide) (by decide)) (g := (mkF m 79 #[.val (.int p0), .val (.int p1), .val (.int p2), .val (.ref b33), .val (.int f), .val (.int u), .unset] [(.int u), (.int f), (.int (2 : Int32)), (.ref b33)])) rfl (by rw [hml]; rfl) (argsL := [(.ref b33), (.int (2 : Int32)), (.int f), (.int u)]) (rest := []) (lenOf own_pd_2 rfl) rfl (by show 2 * 0 + _ ≤ _; exact Nat.le_of_eq rfl) (hb hby at_79) (fun _ _ => ⟨rfl, e40, (by decide : 1 + 0 ≤ _), (by decide : 4 + 0 ≤ _)⟩)
  dsimp only [Pt.U, Pt.locs, Pt.cells, Pt.slots] at X41 l41 y41 z41 st41 hQ41
  subst l41 y41 z41
  obtain ⟨rfl, Nq41, eh41⟩ := hQ41
  have N41 := Fr.app N40 Nq41
  have e41 : T41.heap = h37 := eh41
  obtain ⟨_, _, ⟨T42, L42, k42, n42⟩, -, X42, ⟨Lc42, hQ42, l42, y42, z42⟩, st42⟩ := Jvm.LawKit.callS X41 hx (y := (⟨"org/antichain/core/EventIdIsLowercaseHexPinLaw", "ok", "([BIII)Z"⟩ : MethodName)) hown (mvT hZ (hw _ (List.mem_of_getElem? (i := 2) rfl))) (mvT hZ (hw _ (List.mem_of_getElem? (i := 3) rfl))) (mvT hZ (hw _ (List.mem_of_getElem? (i := 4) rfl))) (mvT hZ (hw _ (List.mem_of_getElem? (i := 5) rfl))) (by decide) (backOf (W := 0) (own_ok l Z a0 hw b33 (3 : Int32) f u cl_b33_o38 b3 h37 n0 Z_37 Ar_b33_o38 hin3 hat3) hZ (hw _ (List.mem_of_getElem? (i := 5) rfl)) (hw _ (List.mem_of_getElem? (i := 4) rfl)) (by decide) (by decide)) (g := (mkF m 91 #[.val (.int p0), .val (.int p1), .val (.int p2), .val (.ref b33), .val (.int f), .val (.int u), .unset] [(.int u), (.int f), (.int (3 : Int32)), (.ref b33)])) rfl (by rw [hml]; rfl) (argsL := [(.ref b33), (.int (3 : Int32)), (.int f), (.int u)]) (rest := []) (lenOf own_pd_2 rfl) rfl (by show 2 * 0 + _ ≤ _; exact Nat.le_of_eq rfl) (hb hby at_91) (fun _ _ => ⟨rfl, e41, (by decide : 1 + 0 ≤ _), (by decide : 4 + 0 ≤ _)⟩)
  dsimp only [Pt.U, Pt.locs, Pt.cells, Pt.slots] at X42 l42 y42 z42 st42 hQ42
  subst l42 y42 z42
  obtain ⟨rfl, Nq42, eh42⟩ := hQ42
  have N42 := Fr.app N41 Nq42
  have e42 : T42.heap = h37 := eh42
  obtain ⟨_, _, ⟨T43, L43, k43, n43⟩, -, X43, ⟨Lc43, hQ43, l43, y43, z43⟩, st43⟩ := Jvm.LawKit.callS X42 hx (y := (⟨"org/antichain/core/EventId", "isLowercaseHex", "([BII)Z"⟩ : MethodName)) hown (mvT hZ (hw _ (List.mem_of_getElem? (i := 6) rfl))) (mvT hZ (hw _ (List.mem_of_getElem? (i := 7) rfl))) (mvT hZ (hw _ (List.mem_of_getElem? (i := 8) rfl))) (mvT hZ (hw _ (List.mem_of_getElem? (i := 9) rfl))) (by decide) (backOf (W := 0) (own_lh_0 l Z a0 hw b33 f u cl_b33_o38 (own_B b0 b1 b2 b3) va vc h37 n0 Z_37 Ar_b33_o38 SL_b33_o38 HB_b33_o38 HR SV_37 AV_37 SZ HV hf hu hbad) hZ (hw _ (List.mem_of_getElem? (i := 9) rfl)) (hw _ (List.mem_of_getElem? (i := 8) rfl)) (by decide) (by decide)) (g := (mkF m 109 #[.val (.int p0), .val (.int p1), .val (.int p2), .val (.ref b33), .val (.int f), .val (.int u), .val (.int (0 : Int32))] [(.int u), (.int f), (.ref b33)])) rfl (by rw [hml]; rfl) (argsL := [(.ref b33), (.int f), (.int u)]) (rest := []) (lenOf own_pd_3 rfl) rfl (by show 2 * 0 + _ ≤ _; exact Nat.le_of_eq rfl) (hb hby at_109) (fun _ _ => ⟨rfl, e42, (by decide : 1 + 0 ≤ _), (by decide : 4 + 0 ≤ _)⟩)
  dsimp only [Pt.U, Pt.locs, Pt.cells, Pt.slots] at X43 l43 y43 z43 st43 hQ43
  subst l43 y43 z43
  obtain ⟨rfl, Nq43, eh43⟩ := hQ43
  have N43 := Fr.app N42 Nq43
  have e43 : T43.heap = h37 := eh43
  obtain ⟨fs, hr, hrun, hended, hW, hsame⟩ := X43.leave (v := some (.int (1 : Int32))) (fun h => by rw [Bd.returns] at h; cases h)
  refine ⟨_, _, pre0 _ ?_, hrun, hended, _, _, rfl, ?_, ⟨_, rfl⟩, hW, hsame.mono (by decide) (by decide)⟩
  · show Steps p.tables e below (s₁.setTop (mkF m 0 #[.val (.int p0), .val (.int p1), .val (.int p2), .unset, .unset, .unset, .unset] [])) _
    refine XS.iconst X0.here hx rfl (hb hby at_0) ?_
    show Steps p.tables e below (s₁.setTop (mkF m 1 #[.val (.int p0), .val (.int p1), .val (.int p2), .unset, .unset, .unset, .unset] [(.int (4 : Int32))])) _
    refine st33 _ ?_
    show Steps p.tables e below (T33.setTop (mkF m 3 #[.val (.int p0), .val (.int p1), .val (.int p2), .unset, .unset, .unset, .unset] [(.ref b33)])) _
    refine XS.astoreN X33.here hx rfl (hb hby at_3) rfl rfl (l' := #[.val (.int p0), .val (.int p1), .val (.int p2), .val (.ref b33), .unset, .unset, .unset]) rfl ?_
    show Steps p.tables e below (T33.setTop (mkF m 4 #[.val (.int p0), .val (.int p1), .val (.int p2), .val (.ref b33), .unset, .unset, .unset] [])) _
    refine XS.aloadN X33.here hx rfl (hb hby at_4) rfl rfl ?_
    show Steps p.tables e below (T33.setTop (mkF m 5 #[.val (.int p0), .val (.int p1), .val (.int p2), .val (.ref b33), .unset, .unset, .unset] [(.ref b33)])) _
    refine XS.iconst X33.here hx rfl (hb hby at_5) ?_
    show Steps p.tables e below (T33.setTop (mkF m 6 #[.val (.int p0), .val (.int p1), .val (.int p2), .val (.ref b33), .unset, .unset, .unset] [(.int (0 : Int32)), (.ref b33)])) _
    refine XS.iloadN X33.here hx rfl (hb hby at_6) rfl ?_
    show Steps p.tables e below (T33.setTop (mkF m 7 #[.val (.int p0), .val (.int p1), .val (.int p2), .val (.ref b33), .unset, .unset, .unset] [(.int p0), (.int (0 : Int32)), (.ref b33)])) _
    refine XS.i2b X33.here hx rfl (hb hby at_7) rfl ?_
    show Steps p.tables e below (T33.setTop (mkF m 8 #[.val (.int p0), .val (.int p1), .val (.int p2), .val (.ref b33), .unset, .unset, .unset] [(.int (p0.toInt8.toInt32)), (.int (0 : Int32)), (.ref b33)])) _
    refine st34 _ ?_
    show Steps p.tables e below (T34.setTop (mkF m 9 #[.val (.int p0), .val (.int p1), .val (.int p2), .val (.ref b33), .unset, .unset, .unset] [])) _
    refine XS.aloadN X34.here hx rfl (hb hby at_9) rfl rfl ?_
    show Steps p.tables e below (T34.setTop (mkF m 10 #[.val (.int p0), .val (.int p1), .val (.int p2), .val (.ref b33), .unset, .unset, .unset] [(.ref b33)])) _
    refine XS.iconst X34.here hx rfl (hb hby at_10) ?_
    show Steps p.tables e below (T34.setTop (mkF m 11 #[.val (.int p0), .val (.int p1), .val (.int p2), .val (.ref b33), .unset, .unset, .unset] [(.int (1 : Int32)), (.ref b33)])) _
    refine XS.iloadN X34.here hx rfl (hb hby at_11) rfl ?_
    show Steps p.tables e below (T34.setTop (mkF m 12 #[.val (.int p0), .val (.int p1), .val (.int p2), .val (.ref b33), .unset, .unset, .unset] [(.int p0), (.int (1 : Int32)), (.ref b33)])) _
    refine XS.bipush X34.here hx rfl (hb hby at_12) ?_
    show Steps p.tables e below (T34.setTop (mkF m 14 #[.val (.int p0), .val (.int p1), .val (.int p2), .val (.ref b33), .unset, .unset, .unset] [(.int (8 : Int32)), (.int p0), (.int (1 : Int32)), (.ref b33)])) _
    refine XS.ishr X34.here hx rfl (hb hby at_14) rfl ?_
    show Steps p.tables e below (T34.setTop (mkF m 15 #[.val (.int p0), .val (.int p1), .val (.int p2), .val (.ref b33), .unset, .unset, .unset] [(.int (p0 >>> ((8 : Int32) &&& 31))), (.int (1 : Int32)), (.ref b33)])) _
    refine XS.i2b X34.here hx rfl (hb hby at_15) rfl ?_
    show Steps p.tables e below (T34.setTop (mkF m 16 #[.val (.int p0), .val (.int p1), .val (.int p2), .val (.ref b33), .unset, .unset, .unset] [(.int ((p0 >>> ((8 : Int32) &&& 31)).toInt8.toInt32)), (.int (1 : Int32)), (.ref b33)])) _
    refine st35 _ ?_
    show Steps p.tables e below (T35.setTop (mkF m 17 #[.val (.int p0), .val (.int p1), .val (.int p2), .val (.ref b33), .unset, .unset, .unset] [])) _
    refine XS.aloadN X35.here hx rfl (hb hby at_17) rfl rfl ?_
    show Steps p.tables e below (T35.setTop (mkF m 18 #[.val (.int p0), .val (.int p1), .val (.int p2), .val (.ref b33), .unset, .unset, .unset] [(.ref b33)])) _
    refine XS.iconst X35.here hx rfl (hb hby at_18) ?_
    show Steps p.tables e below (T35.setTop (mkF m 19 #[.val (.int p0), .val (.int p1), .val (.int p2), .val (.ref b33), .unset, .unset, .unset] [(.int (2 : Int32)), (.ref b33)])) _
    refine XS.iloadN X35.here hx rfl (hb hby at_19) rfl ?_
    show Steps p.tables e below (T35.setTop (mkF m 20 #[.val (.int p0), .val (.int p1), .val (.int p2), .val (.ref b33), .unset, .unset, .unset] [(.int p0), (.int (2 : Int32)), (.ref b33)])) _
    refine XS.bipush X35.here hx rfl (hb hby at_20) ?_
    show Steps p.tables e below (T35.setTop (mkF m 22 #[.val (.int p0), .val (.int p1), .val (.int p2), .val (.ref b33), .unset, .unset, .unset] [(.int (16 : Int32)), (.int p0), (.int (2 : Int32)), (.ref b33)])) _
    refine XS.ishr X35.here hx rfl (hb hby at_22) rfl ?_
    show Steps p.tables e below (T35.setTop (mkF m 23 #[.val (.int p0), .val (.int p1), .val (.int p2), .val (.ref b33), .unset, .unset, .unset] [(.int (p0 >>> ((16 : Int32) &&& 31))), (.int (2 : Int32)), (.ref b33)])) _
    refine XS.i2b X35.here hx rfl (hb hby at_23) rfl ?_
    show Steps p.tables e below (T35.setTop (mkF m 24 #[.val (.int p0), .val (.int p1), .val (.int p2), .val (.ref b33), .unset, .unset, .unset] [(.int ((p0 >>> ((16 : Int32) &&& 31)).toInt8.toInt32)), (.int (2 : Int32)), (.ref b33)])) _
    refine st36 _ ?_
    show Steps p.tables e below (T36.setTop (mkF m 25 #[.val (.int p0), .val (.int p1), .val (.int p2), .val (.ref b33), .unset, .unset, .unset] [])) _
    refine XS.aloadN X36.here hx rfl (hb hby at_25) rfl rfl ?_
    show Steps p.tables e below (T36.setTop (mkF m 26 #[.val (.int p0), .val (.int p1), .val (.int p2), .val (.ref b33), .unset, .unset, .unset] [(.ref b33)])) _
    refine XS.iconst X36.here hx rfl (hb hby at_26) ?_
    show Steps p.tables e below (T36.setTop (mkF m 27 #[.val (.int p0), .val (.int p1), .val (.int p2), .val (.ref b33), .unset, .unset, .unset] [(.int (3 : Int32)), (.ref b33)])) _
    refine XS.iloadN X36.here hx rfl (hb hby at_27) rfl ?_
    show Steps p.tables e below (T36.setTop (mkF m 28 #[.val (.int p0), .val (.int p1), .val (.int p2), .val (.ref b33), .unset, .unset, .unset] [(.int p0), (.int (3 : Int32)), (.ref b33)])) _
    refine XS.bipush X36.here hx rfl (hb hby at_28) ?_
    show Steps p.tables e below (T36.setTop (mkF m 30 #[.val (.int p0), .val (.int p1), .val (.int p2), .val (.ref b33), .unset, .unset, .unset] [(.int (24 : Int32)), (.int p0), (.int (3 : Int32)), (.ref b33)])) _
    refine XS.ishr X36.here hx rfl (hb hby at_30) rfl ?_
    show Steps p.tables e below (T36.setTop (mkF m 31 #[.val (.int p0), .val (.int p1), .val (.int p2), .val (.ref b33), .unset, .unset, .unset] [(.int (p0 >>> ((24 : Int32) &&& 31))), (.int (3 : Int32)), (.ref b33)])) _
    refine XS.i2b X36.here hx rfl (hb hby at_31) rfl ?_
    show Steps p.tables e below (T36.setTop (mkF m 32 #[.val (.int p0), .val (.int p1), .val (.int p2), .val (.ref b33), .unset, .unset, .unset] [(.int ((p0 >>> ((24 : Int32) &&& 31)).toInt8.toInt32)), (.int (3 : Int32)), (.ref b33)])) _
    refine st37 _ ?_
    show Steps p.tables e below (T37.setTop (mkF m 33 #[.val (.int p0), .val (.int p1), .val (.int p2), .val (.ref b33), .unset, .unset, .unset] [])) _
    refine XS.iloadN X37.here hx rfl (hb hby at_33) rfl ?_
    show Steps p.tables e below (T37.setTop (mkF m 34 #[.val (.int p0), .val (.int p1), .val (.int p2), .val (.ref b33), .unset, .unset, .unset] [(.int p1)])) _
    refine X37.ldcInt hx hown (mvT hZ (hw _ (List.mem_of_getElem? (i := 1) rfl))) (g := (mkF m 34 #[.val (.int p0), .val (.int p1), .val (.int p2), .val (.ref b33), .unset, .unset, .unset] [(.int p1)])) rfl (hb hby at_34) _ ?_
    show Steps p.tables e below (T37.setTop (mkF m 36 #[.val (.int p0), .val (.int p1), .val (.int p2), .val (.ref b33), .unset, .unset, .unset] [(.int (2147483647 : Int32)), (.int p1)])) _
    refine XS.iand X37.here hx rfl (hb hby at_36) rfl ?_
    show Steps p.tables e below (T37.setTop (mkF m 37 #[.val (.int p0), .val (.int p1), .val (.int p2), .val (.ref b33), .unset, .unset, .unset] [(.int (p1 &&& (2147483647 : Int32)))])) _
    refine XS.iconst X37.here hx rfl (hb hby at_37) ?_
    show Steps p.tables e below (T37.setTop (mkF m 38 #[.val (.int p0), .val (.int p1), .val (.int p2), .val (.ref b33), .unset, .unset, .unset] [(.int (5 : Int32)), (.int (p1 &&& (2147483647 : Int32)))])) _
    refine iremM X37 hx rfl (hb hby at_38) rfl (by decide) ?_
    rw [hfe]
    show Steps p.tables e below (T37.setTop (mkF m 39 #[.val (.int p0), .val (.int p1), .val (.int p2), .val (.ref b33), .unset, .unset, .unset] [(.int f)])) _
    refine XS.istore X37.here hx rfl (hb hby at_39) rfl (l' := #[.val (.int p0), .val (.int p1), .val (.int p2), .val (.ref b33), .val (.int f), .unset, .unset]) rfl ?_
    show Steps p.tables e below (T37.setTop (mkF m 41 #[.val (.int p0), .val (.int p1), .val (.int p2), .val (.ref b33), .val (.int f), .unset, .unset] [])) _
    refine XS.iloadN X37.here hx rfl (hb hby at_41) rfl ?_
    show Steps p.tables e below (T37.setTop (mkF m 42 #[.val (.int p0), .val (.int p1), .val (.int p2), .val (.ref b33), .val (.int f), .unset, .unset] [(.int p2)])) _
    refine X37.ldcInt hx hown (mvT hZ (hw _ (List.mem_of_getElem? (i := 1) rfl))) (g := (mkF m 42 #[.val (.int p0), .val (.int p1), .val (.int p2), .val (.ref b33), .val (.int f), .unset, .unset] [(.int p2)])) rfl (hb hby at_42) _ ?_
    show Steps p.tables e below (T37.setTop (mkF m 44 #[.val (.int p0), .val (.int p1), .val (.int p2), .val (.ref b33), .val (.int f), .unset, .unset] [(.int (2147483647 : Int32)), (.int p2)])) _
    refine XS.iand X37.here hx rfl (hb hby at_44) rfl ?_
    show Steps p.tables e below (T37.setTop (mkF m 45 #[.val (.int p0), .val (.int p1), .val (.int p2), .val (.ref b33), .val (.int f), .unset, .unset] [(.int (p2 &&& (2147483647 : Int32)))])) _
    refine XS.iconst X37.here hx rfl (hb hby at_45) ?_
    show Steps p.tables e below (T37.setTop (mkF m 46 #[.val (.int p0), .val (.int p1), .val (.int p2), .val (.ref b33), .val (.int f), .unset, .unset] [(.int (5 : Int32)), (.int (p2 &&& (2147483647 : Int32)))])) _
    refine iremM X37 hx rfl (hb hby at_46) rfl (by decide) ?_
    rw [hue]
    show Steps p.tables e below (T37.setTop (mkF m 47 #[.val (.int p0), .val (.int p1), .val (.int p2), .val (.ref b33), .val (.int f), .unset, .unset] [(.int u)])) _
    refine XS.istore X37.here hx rfl (hb hby at_47) rfl (l' := #[.val (.int p0), .val (.int p1), .val (.int p2), .val (.ref b33), .val (.int f), .val (.int u), .unset]) rfl ?_
    show Steps p.tables e below (T37.setTop (mkF m 49 #[.val (.int p0), .val (.int p1), .val (.int p2), .val (.ref b33), .val (.int f), .val (.int u), .unset] [])) _
    refine XS.aloadN X37.here hx rfl (hb hby at_49) rfl rfl ?_
    show Steps p.tables e below (T37.setTop (mkF m 50 #[.val (.int p0), .val (.int p1), .val (.int p2), .val (.ref b33), .val (.int f), .val (.int u), .unset] [(.ref b33)])) _
    refine XS.iconst X37.here hx rfl (hb hby at_50) ?_
    show Steps p.tables e below (T37.setTop (mkF m 51 #[.val (.int p0), .val (.int p1), .val (.int p2), .val (.ref b33), .val (.int f), .val (.int u), .unset] [(.int (0 : Int32)), (.ref b33)])) _
    refine XS.iload X37.here hx rfl (hb hby at_51) rfl ?_
    show Steps p.tables e below (T37.setTop (mkF m 53 #[.val (.int p0), .val (.int p1), .val (.int p2), .val (.ref b33), .val (.int f), .val (.int u), .unset] [(.int f), (.int (0 : Int32)), (.ref b33)])) _
    refine XS.iload X37.here hx rfl (hb hby at_53) rfl ?_
    show Steps p.tables e below (T37.setTop (mkF m 55 #[.val (.int p0), .val (.int p1), .val (.int p2), .val (.ref b33), .val (.int f), .val (.int u), .unset] [(.int u), (.int f), (.int (0 : Int32)), (.ref b33)])) _
    refine st39 _ ?_
    show Steps p.tables e below (T39.setTop (mkF m 58 #[.val (.int p0), .val (.int p1), .val (.int p2), .val (.ref b33), .val (.int f), .val (.int u), .unset] [(.int (own_okv (0 : Int32) f u b0))])) _
    refine XS.ifNo X39.here hx rfl (hb hby at_58) rfl ((if0 _ _).trans (feq hc58).1) ?_
    show Steps p.tables e below (T39.setTop (mkF m 61 #[.val (.int p0), .val (.int p1), .val (.int p2), .val (.ref b33), .val (.int f), .val (.int u), .unset] [])) _
    refine XS.aloadN X39.here hx rfl (hb hby at_61) rfl rfl ?_
    show Steps p.tables e below (T39.setTop (mkF m 62 #[.val (.int p0), .val (.int p1), .val (.int p2), .val (.ref b33), .val (.int f), .val (.int u), .unset] [(.ref b33)])) _
    refine XS.iconst X39.here hx rfl (hb hby at_62) ?_
    show Steps p.tables e below (T39.setTop (mkF m 63 #[.val (.int p0), .val (.int p1), .val (.int p2), .val (.ref b33), .val (.int f), .val (.int u), .unset] [(.int (1 : Int32)), (.ref b33)])) _
    refine XS.iload X39.here hx rfl (hb hby at_63) rfl ?_
    show Steps p.tables e below (T39.setTop (mkF m 65 #[.val (.int p0), .val (.int p1), .val (.int p2), .val (.ref b33), .val (.int f), .val (.int u), .unset] [(.int f), (.int (1 : Int32)), (.ref b33)])) _
    refine XS.iload X39.here hx rfl (hb hby at_65) rfl ?_
    show Steps p.tables e below (T39.setTop (mkF m 67 #[.val (.int p0), .val (.int p1), .val (.int p2), .val (.ref b33), .val (.int f), .val (.int u), .unset] [(.int u), (.int f), (.int (1 : Int32)), (.ref b33)])) _
    refine st40 _ ?_
    show Steps p.tables e below (T40.setTop (mkF m 70 #[.val (.int p0), .val (.int p1), .val (.int p2), .val (.ref b33), .val (.int f), .val (.int u), .unset] [(.int (own_okv (1 : Int32) f u b1))])) _
    refine XS.ifNo X40.here hx rfl (hb hby at_70) rfl ((if0 _ _).trans (feq hc70).1) ?_
    show Steps p.tables e below (T40.setTop (mkF m 73 #[.val (.int p0), .val (.int p1), .val (.int p2), .val (.ref b33), .val (.int f), .val (.int u), .unset] [])) _
    refine XS.aloadN X40.here hx rfl (hb hby at_73) rfl rfl ?_
    show Steps p.tables e below (T40.setTop (mkF m 74 #[.val (.int p0), .val (.int p1), .val (.int p2), .val (.ref b33), .val (.int f), .val (.int u), .unset] [(.ref b33)])) _
    refine XS.iconst X40.here hx rfl (hb hby at_74) ?_
    show Steps p.tables e below (T40.setTop (mkF m 75 #[.val (.int p0), .val (.int p1), .val (.int p2), .val (.ref b33), .val (.int f), .val (.int u), .unset] [(.int (2 : Int32)), (.ref b33)])) _
    refine XS.iload X40.here hx rfl (hb hby at_75) rfl ?_
    show Steps p.tables e below (T40.setTop (mkF m 77 #[.val (.int p0), .val (.int p1), .val (.int p2), .val (.ref b33), .val (.int f), .val (.int u), .unset] [(.int f), (.int (2 : Int32)), (.ref b33)])) _
    refine XS.iload X40.here hx rfl (hb hby at_77) rfl ?_
    show Steps p.tables e below (T40.setTop (mkF m 79 #[.val (.int p0), .val (.int p1), .val (.int p2), .val (.ref b33), .val (.int f), .val (.int u), .unset] [(.int u), (.int f), (.int (2 : Int32)), (.ref b33)])) _
    refine st41 _ ?_
    show Steps p.tables e below (T41.setTop (mkF m 82 #[.val (.int p0), .val (.int p1), .val (.int p2), .val (.ref b33), .val (.int f), .val (.int u), .unset] [(.int (own_okv (2 : Int32) f u b2))])) _
    refine XS.ifNo X41.here hx rfl (hb hby at_82) rfl ((if0 _ _).trans (feq hc82).1) ?_
    show Steps p.tables e below (T41.setTop (mkF m 85 #[.val (.int p0), .val (.int p1), .val (.int p2), .val (.ref b33), .val (.int f), .val (.int u), .unset] [])) _
    refine XS.aloadN X41.here hx rfl (hb hby at_85) rfl rfl ?_
    show Steps p.tables e below (T41.setTop (mkF m 86 #[.val (.int p0), .val (.int p1), .val (.int p2), .val (.ref b33), .val (.int f), .val (.int u), .unset] [(.ref b33)])) _
    refine XS.iconst X41.here hx rfl (hb hby at_86) ?_
    show Steps p.tables e below (T41.setTop (mkF m 87 #[.val (.int p0), .val (.int p1), .val (.int p2), .val (.ref b33), .val (.int f), .val (.int u), .unset] [(.int (3 : Int32)), (.ref b33)])) _
    refine XS.iload X41.here hx rfl (hb hby at_87) rfl ?_
    show Steps p.tables e below (T41.setTop (mkF m 89 #[.val (.int p0), .val (.int p1), .val (.int p2), .val (.ref b33), .val (.int f), .val (.int u), .unset] [(.int f), (.int (3 : Int32)), (.ref b33)])) _
    refine XS.iload X41.here hx rfl (hb hby at_89) rfl ?_
    show Steps p.tables e below (T41.setTop (mkF m 91 #[.val (.int p0), .val (.int p1), .val (.int p2), .val (.ref b33), .val (.int f), .val (.int u), .unset] [(.int u), (.int f), (.int (3 : Int32)), (.ref b33)])) _
    refine st42 _ ?_
    show Steps p.tables e below (T42.setTop (mkF m 94 #[.val (.int p0), .val (.int p1), .val (.int p2), .val (.ref b33), .val (.int f), .val (.int u), .unset] [(.int (own_okv (3 : Int32) f u b3))])) _
    refine XS.ifYes X42.here hx rfl (pc0 := 94) (pc' := 101) rfl (hb hby at_94) rfl ((if0 _ _).trans (teq hc94).1) (by decide) (by decide) ?_
    show Steps p.tables e below (T42.setTop (mkF m 101 #[.val (.int p0), .val (.int p1), .val (.int p2), .val (.ref b33), .val (.int f), .val (.int u), .unset] [])) _
    refine XS.iconst X42.here hx rfl (hb hby at_101) ?_
    show Steps p.tables e below (T42.setTop (mkF m 102 #[.val (.int p0), .val (.int p1), .val (.int p2), .val (.ref b33), .val (.int f), .val (.int u), .unset] [(.int (0 : Int32))])) _
    refine XS.istore X42.here hx rfl (hb hby at_102) rfl (l' := #[.val (.int p0), .val (.int p1), .val (.int p2), .val (.ref b33), .val (.int f), .val (.int u), .val (.int (0 : Int32))]) rfl ?_
    show Steps p.tables e below (T42.setTop (mkF m 104 #[.val (.int p0), .val (.int p1), .val (.int p2), .val (.ref b33), .val (.int f), .val (.int u), .val (.int (0 : Int32))] [])) _
    refine XS.aloadN X42.here hx rfl (hb hby at_104) rfl rfl ?_
    show Steps p.tables e below (T42.setTop (mkF m 105 #[.val (.int p0), .val (.int p1), .val (.int p2), .val (.ref b33), .val (.int f), .val (.int u), .val (.int (0 : Int32))] [(.ref b33)])) _
    refine XS.iload X42.here hx rfl (hb hby at_105) rfl ?_
    show Steps p.tables e below (T42.setTop (mkF m 107 #[.val (.int p0), .val (.int p1), .val (.int p2), .val (.ref b33), .val (.int f), .val (.int u), .val (.int (0 : Int32))] [(.int f), (.ref b33)])) _
    refine XS.iload X42.here hx rfl (hb hby at_107) rfl ?_
    show Steps p.tables e below (T42.setTop (mkF m 109 #[.val (.int p0), .val (.int p1), .val (.int p2), .val (.ref b33), .val (.int f), .val (.int u), .val (.int (0 : Int32))] [(.int u), (.int f), (.ref b33)])) _
    refine st43 _ ?_
    show Steps p.tables e below (T43.setTop (mkF m 112 #[.val (.int p0), .val (.int p1), .val (.int p2), .val (.ref b33), .val (.int f), .val (.int u), .val (.int (0 : Int32))] [(.int (0 : Int32))])) _
    refine XS.iload X43.here hx rfl (hb hby at_112) rfl ?_
    show Steps p.tables e below (T43.setTop (mkF m 114 #[.val (.int p0), .val (.int p1), .val (.int p2), .val (.ref b33), .val (.int f), .val (.int u), .val (.int (0 : Int32))] [(.int (0 : Int32)), (.int (0 : Int32))])) _
    refine XS.icmpNo X43.here hx rfl (hb hby at_114) rfl (teq (rfl : (0 : Int32) = (0 : Int32))).2 ?_
    show Steps p.tables e below (T43.setTop (mkF m 117 #[.val (.int p0), .val (.int p1), .val (.int p2), .val (.ref b33), .val (.int f), .val (.int u), .val (.int (0 : Int32))] [])) _
    refine XS.iconst X43.here hx rfl (hb hby at_117) ?_
    show Steps p.tables e below (T43.setTop (mkF m 118 #[.val (.int p0), .val (.int p1), .val (.int p2), .val (.ref b33), .val (.int f), .val (.int u), .val (.int (0 : Int32))] [(.int (1 : Int32))])) _
    refine XS.goto X43.here hx rfl (pc0 := 118) (pc' := 122) rfl (hb hby at_118) (by decide) (by decide) ?_
    show Steps p.tables e below (T43.setTop (mkF m 122 #[.val (.int p0), .val (.int p1), .val (.int p2), .val (.ref b33), .val (.int f), .val (.int u), .val (.int (0 : Int32))] [(.int (1 : Int32))])) _
    exact retN X43 hx (t := .boolean) Bd.returns (by simp) (hb hby at_122) hr
  · show (own_Q1 n0) _ T43.heap _
    rw [e43]
    exact ⟨rfl, N43⟩
set_option maxRecDepth 65536 in
set_option maxHeartbeats 40000000 in
theorem own_law_4 (l : Launch) (Z : State) (a0 : Array Value) (hw : ∀ d ∈ tables_1, d.before a0 Z = true) (p0 : Int32) (p1 : Int32) (p2 : Int32) (f : Int32) (u : Int32) (b0 : Int32) (b1 : Int32) (b2 : Int32) (b3 : Int32) (va : Addr) (vc : Cell) (h0 : Heap) (n0 : Nat) (Z0 : n0 ≤ h0.size) (SV : Sta Z h0 "org/antichain/core/EventId" "VALUES" "[B" (.ref va)) (AV : Arr Z h0 va vc .byte) (SZ : vc.slots.size = (128 : Int32).toNatClampNeg) (HV : ∀ b : Int32, ¬ b < 0 → b < 128 → vc.slots[b.toNatClampNeg]? = some (.int (own_dg b))) (hfe : (p1 &&& (2147483647 : Int32)) % (5 : Int32) = f) (hue : (p2 &&& (2147483647 : Int32)) % (5 : Int32) = u) (hf : 0 ≤ f.toInt) (hu : u.toInt ≤ 4) (hb0 : nar .byte (p0.toInt8.toInt32) = b0) (hb1 : nar .byte ((p0 >>> ((8 : Int32) &&& 31)).toInt8.toInt32) = b1) (hb2 : nar .byte ((p0 >>> ((16 : Int32) &&& 31)).toInt8.toInt32) = b2) (hb3 : nar .byte ((p0 >>> ((24 : Int32) &&& 31)).toInt8.toInt32) = b3) (HR : ∀ k : Nat, own_B b0 b1 b2 b3 k < 128) (hbad : ¬ own_bad f u (own_B b0 b1 b2 b3)) (hc58 : ¬ ((own_okv (0 : Int32) f u b0) = (0 : Int32))) (hc70 : ¬ ((own_okv (1 : Int32) f u b1) = (0 : Int32))) (hc82 : ¬ ((own_okv (2 : Int32) f u b2) = (0 : Int32))) (hc94 : ¬ ((own_okv (3 : Int32) f u b3) = (0 : Int32))) :
    Met l Z tables_1 x code maxLocals ret room_1 #[(.int p0), (.int p1), (.int p2)] h0 (own_Q1 n0) := by
  refine MetFree.of_bodySF (plainFor_of_name own_pn_0) hisR ?_
  intro p e s m args below meth c s₁ Bd hml0 hP hK
  obtain ⟨rfl, hZ, hh⟩ := hP
  have hx := Bd.exec
  have hby := Bd.bytes
  have hml : c.maxLocals = 7 := hml0
  have hown : s.vm.findClass "org/antichain/core/EventIdIsLowercaseHexPinLaw" = some m.cls := findClass_of_methodNamed Bd.named
  have hnm := (name_of_methodNamed Bd.named Bd.method).1
  have X0 : Stand p l e room_1 s m #[(.int p0), (.int p1), (.int p2)] below meth c s₁ [] 0 0 := Stand.of_body Bd
  have e0 : s₁.heap = h0 := by rw [← hh, Bd.state]; rfl
  have N0 := Fr.nil n0
  have pre0 : ∀ t_, Steps p.tables e below (s₁.setTop (mkF m 0 #[.val (.int p0), .val (.int p1), .val (.int p2), .unset, .unset, .unset, .unset] [])) t_ → Steps p.tables e below (s₁.setTop (entryFrame m #[(.int p0), (.int p1), (.int p2)] maxLocals)) t_ := fun t_ k_ => castTop (own_ef_3 m p0 p1 p2) k_
  obtain ⟨T44, h44, k44, X44, e44, E44, A44, st44⟩ := newP X0 hx hZ (hw _ (List.mem_of_getElem? (i := 0) rfl)) e0 (g := (mkF m 1 #[.val (.int p0), .val (.int p1), .val (.int p2), .unset, .unset, .unset, .unset] [(.int (4 : Int32))])) rfl (hb hby at_1) rfl (by decide) (cap := 4) (by decide) (by decide) (by decide) (by decide)
  obtain ⟨b44, g44⟩ : ∃ z, z = h0.size := ⟨_, rfl⟩
  rw [← g44] at A44 st44
  have ne_va_b44 : va ≠ b44 := Nat.ne_of_lt (Nat.lt_of_lt_of_le AV.lt (Nat.le_of_eq g44.symm))
  have g_b44 : n0 ≤ b44 := Nat.le_trans Z0 (Nat.le_of_eq g44.symm)
  have SV_44 : Sta Z h44 "org/antichain/core/EventId" "VALUES" "[B" (.ref va) := SV.ext E44
  have AV_44 : Arr Z h44 va vc .byte := AV.ext E44
  have Z_44 : n0 ≤ h44.size := Nat.le_trans Z0 E44.1
  have V_b44 : Arv Z h44 b44 k44 .byte (4 : Int32) [(.int (0 : Int32)), (.int (0 : Int32)), (.int (0 : Int32)), (.int (0 : Int32))] (.int (0 : Int32)) := (Arv.new A44 (by decide)).pad (pad_rep [] (.int (0 : Int32)) 4)
  obtain ⟨cl_b44_8, Ar_b44_8, q_b44_8, S_b44_8, N_b44_8, H_b44_8, G_b44_8⟩ := V_b44
  have hinb44_8 : ¬ ((0 : Int32) < 0 ∨ cl_b44_8.slots.size ≤ ((0 : Int32)).toNatClampNeg) := inb_of S_b44_8 ⟨by decide, by decide⟩
  obtain ⟨T45, h45, X45, e45, W45, st45⟩ := stB X44 hx hZ e44 Ar_b44_8 (j := (0 : Int32)) hinb44_8 (g := (mkF m 8 #[.val (.int p0), .val (.int p1), .val (.int p2), .val (.ref b44), .unset, .unset, .unset] [(.int (p0.toInt8.toInt32)), (.int (0 : Int32)), (.ref b44)])) rfl rfl (hb hby at_8)
  have V_b44_45 : Arv Z h45 b44 k44 .byte (4 : Int32) [(.int (nar .byte (p0.toInt8.toInt32))), (.int (0 : Int32)), (.int (0 : Int32)), (.int (0 : Int32))] (.int (0 : Int32)) := Arv.set Ar_b44_8 q_b44_8 S_b44_8 N_b44_8 H_b44_8 G_b44_8 (fits_nar_byte _) W45 0 rfl (Nat.le_of_ble_eq_true rfl)
  have SV_45 : Sta Z h45 "org/antichain/core/EventId" "VALUES" "[B" (.ref va) := SV_44.wr W45
  have AV_45 : Arr Z h45 va vc .byte := AV_44.other W45 ne_va_b44
  have Z_45 : n0 ≤ h45.size := Nat.le_trans Z_44 (Keep.of_wr W45).1
  have N45 := Fr.snoc X45 N0 g_b44
  obtain ⟨cl_b44_16, Ar_b44_16, q_b44_16, S_b44_16, N_b44_16, H_b44_16, G_b44_16⟩ := V_b44_45
  have hinb44_16 : ¬ ((1 : Int32) < 0 ∨ cl_b44_16.slots.size ≤ ((1 : Int32)).toNatClampNeg) := inb_of S_b44_16 ⟨by decide, by decide⟩
  obtain ⟨T46, h46, X46, e46, W46, st46⟩ := stB X45 hx hZ e45 Ar_b44_16 (j := (1 : Int32)) hinb44_16 (g := (mkF m 16 #[.val (.int p0), .val (.int p1), .val (.int p2), .val (.ref b44), .unset, .unset, .unset] [(.int ((p0 >>> ((8 : Int32) &&& 31)).toInt8.toInt32)), (.int (1 : Int32)), (.ref b44)])) rfl rfl (hb hby at_16)
  have V_b44_46 : Arv Z h46 b44 k44 .byte (4 : Int32) [(.int (nar .byte (p0.toInt8.toInt32))), (.int (nar .byte ((p0 >>> ((8 : Int32) &&& 31)).toInt8.toInt32))), (.int (0 : Int32)), (.int (0 : Int32))] (.int (0 : Int32)) := Arv.set Ar_b44_16 q_b44_16 S_b44_16 N_b44_16 H_b44_16 G_b44_16 (fits_nar_byte _) W46 1 rfl (Nat.le_of_ble_eq_true rfl)
  have SV_46 : Sta Z h46 "org/antichain/core/EventId" "VALUES" "[B" (.ref va) := SV_45.wr W46
  have AV_46 : Arr Z h46 va vc .byte := AV_45.other W46 ne_va_b44
  have Z_46 : n0 ≤ h46.size := Nat.le_trans Z_45 (Keep.of_wr W46).1
  have N46 := Fr.snoc X46 N45 g_b44
  obtain ⟨cl_b44_24, Ar_b44_24, q_b44_24, S_b44_24, N_b44_24, H_b44_24, G_b44_24⟩ := V_b44_46
  have hinb44_24 : ¬ ((2 : Int32) < 0 ∨ cl_b44_24.slots.size ≤ ((2 : Int32)).toNatClampNeg) := inb_of S_b44_24 ⟨by decide, by decide⟩
  obtain ⟨T47, h47, X47, e47, W47, st47⟩ := stB X46 hx hZ e46 Ar_b44_24 (j := (2 : Int32)) hinb44_24 (g := (mkF m 24 #[.val (.int p0), .val (.int p1), .val (.int p2), .val (.ref b44), .unset, .unset, .unset] [(.int ((p0 >>> ((16 : Int32) &&& 31)).toInt8.toInt32)), (.int (2 : Int32)), (.ref b44)])) rfl rfl (hb hby at_24)
  have V_b44_47 : Arv Z h47 b44 k44 .byte (4 : Int32) [(.int (nar .byte (p0.toInt8.toInt32))), (.int (nar .byte ((p0 >>> ((8 : Int32) &&& 31)).toInt8.toInt32))), (.int (nar .byte ((p0 >>> ((16 : Int32) &&& 31)).toInt8.toInt32))), (.int (0 : Int32))] (.int (0 : Int32)) := Arv.set Ar_b44_24 q_b44_24 S_b44_24 N_b44_24 H_b44_24 G_b44_24 (fits_nar_byte _) W47 2 rfl (Nat.le_of_ble_eq_true rfl)
  have SV_47 : Sta Z h47 "org/antichain/core/EventId" "VALUES" "[B" (.ref va) := SV_46.wr W47
  have AV_47 : Arr Z h47 va vc .byte := AV_46.other W47 ne_va_b44
  have Z_47 : n0 ≤ h47.size := Nat.le_trans Z_46 (Keep.of_wr W47).1
  have N47 := Fr.snoc X47 N46 g_b44
  obtain ⟨cl_b44_32, Ar_b44_32, q_b44_32, S_b44_32, N_b44_32, H_b44_32, G_b44_32⟩ := V_b44_47
  have hinb44_32 : ¬ ((3 : Int32) < 0 ∨ cl_b44_32.slots.size ≤ ((3 : Int32)).toNatClampNeg) := inb_of S_b44_32 ⟨by decide, by decide⟩
  obtain ⟨T48, h48, X48, e48, W48, st48⟩ := stB X47 hx hZ e47 Ar_b44_32 (j := (3 : Int32)) hinb44_32 (g := (mkF m 32 #[.val (.int p0), .val (.int p1), .val (.int p2), .val (.ref b44), .unset, .unset, .unset] [(.int ((p0 >>> ((24 : Int32) &&& 31)).toInt8.toInt32)), (.int (3 : Int32)), (.ref b44)])) rfl rfl (hb hby at_32)
  have V_b44_48 : Arv Z h48 b44 k44 .byte (4 : Int32) [(.int (nar .byte (p0.toInt8.toInt32))), (.int (nar .byte ((p0 >>> ((8 : Int32) &&& 31)).toInt8.toInt32))), (.int (nar .byte ((p0 >>> ((16 : Int32) &&& 31)).toInt8.toInt32))), (.int (nar .byte ((p0 >>> ((24 : Int32) &&& 31)).toInt8.toInt32)))] (.int (0 : Int32)) := Arv.set Ar_b44_32 q_b44_32 S_b44_32 N_b44_32 H_b44_32 G_b44_32 (fits_nar_byte _) W48 3 rfl (Nat.le_of_ble_eq_true rfl)
  have SV_48 : Sta Z h48 "org/antichain/core/EventId" "VALUES" "[B" (.ref va) := SV_47.wr W48
  have AV_48 : Arr Z h48 va vc .byte := AV_47.other W48 ne_va_b44
  have Z_48 : n0 ≤ h48.size := Nat.le_trans Z_47 (Keep.of_wr W48).1
  have N48 := Fr.snoc X48 N47 g_b44
  rw [hb0, hb1, hb2, hb3] at V_b44_48
  obtain ⟨cl_b44_o49, Ar_b44_o49, q_b44_o49, S_b44_o49, N_b44_o49, H_b44_o49, G_b44_o49⟩ := V_b44_48
  have hin0 : ¬ ((0 : Int32) < 0 ∨ cl_b44_o49.slots.size ≤ (0 : Int32).toNatClampNeg) := inb_of S_b44_o49 ⟨by decide, by decide⟩
  have hat0 : cl_b44_o49.slots[(0 : Int32).toNatClampNeg]? = some (.int b0) := H_b44_o49.at hin0 rfl
  have hin1 : ¬ ((1 : Int32) < 0 ∨ cl_b44_o49.slots.size ≤ (1 : Int32).toNatClampNeg) := inb_of S_b44_o49 ⟨by decide, by decide⟩
  have hat1 : cl_b44_o49.slots[(1 : Int32).toNatClampNeg]? = some (.int b1) := H_b44_o49.at hin1 rfl
  have hin2 : ¬ ((2 : Int32) < 0 ∨ cl_b44_o49.slots.size ≤ (2 : Int32).toNatClampNeg) := inb_of S_b44_o49 ⟨by decide, by decide⟩
  have hat2 : cl_b44_o49.slots[(2 : Int32).toNatClampNeg]? = some (.int b2) := H_b44_o49.at hin2 rfl
  have hin3 : ¬ ((3 : Int32) < 0 ∨ cl_b44_o49.slots.size ≤ (3 : Int32).toNatClampNeg) := inb_of S_b44_o49 ⟨by decide, by decide⟩
  have hat3 : cl_b44_o49.slots[(3 : Int32).toNatClampNeg]? = some (.int b3) := H_b44_o49.at hin3 rfl
  have SL_b44_o49 : cl_b44_o49.slots.size = 4 := S_b44_o49
  have HB_b44_o49 : ∀ k : Nat, k < 4 → cl_b44_o49.slots[k]? = some (.int (own_B b0 b1 b2 b3 k)) := fun k hk => match k, hk with | 0, _ => hat0 | 1, _ => hat1 | 2, _ => hat2 | 3, _ => hat3 | k + 4, hk => absurd hk (by omega)
  obtain ⟨_, _, ⟨T50, L50, k50, n50⟩, -, X50, ⟨Lc50, hQ50, l50, y50, z50⟩, st50⟩ := Jvm.LawKit.callS X48 hx (y := (⟨"org/antichain/core/EventIdIsLowercaseHexPinLaw", "ok", "([BIII)Z"⟩ : MethodName)) hown (mvT hZ (hw _ (List.mem_of_getElem? (i := 2) rfl))) (mvT hZ (hw _ (List.mem_of_getElem? (i := 3) rfl))) (mvT hZ (hw _ (List.mem_of_getElem? (i := 4) rfl))) (mvT hZ (hw _ (List.mem_of_getElem? (i := 5) rfl))) (by decide) (backOf (W := 0) (own_ok l Z a0 hw b44 (0 : Int32) f u cl_b44_o49 b0 h48 n0 Z_48 Ar_b44_o49 hin0 hat0) hZ (hw _ (List.mem_of_getElem? (i := 5) rfl)) (hw _ (List.mem_of_getElem? (i := 4) rfl)) (by decide) (by decide)) (g := (mkF m 55 #[.val (.int p0), .val (.int p1), .val (.int p2), .val (.ref b44), .val (.int f), .val (.int u), .unset] [(.int u), (.int f), (.int (0 : Int32)), (.ref b44)])) rfl (by rw [hml]; rfl) (argsL := [(.ref b44), (.int (0 : Int32)), (.int f), (.int u)]) (rest := []) (lenOf own_pd_2 rfl) rfl (by show 2 * 0 + _ ≤ _; exact Nat.le_of_eq rfl) (hb hby at_55) (fun _ _ => ⟨rfl, e48, (by decide : 1 + 0 ≤ _), (by decide : 4 + 0 ≤ _)⟩)
  dsimp only [Pt.U, Pt.locs, Pt.cells, Pt.slots] at X50 l50 y50 z50 st50 hQ50
  subst l50 y50 z50
  obtain ⟨rfl, Nq50, eh50⟩ := hQ50
  have N50 := Fr.app N48 Nq50
  have e50 : T50.heap = h48 := eh50
  obtain ⟨_, _, ⟨T51, L51, k51, n51⟩, -, X51, ⟨Lc51, hQ51, l51, y51, z51⟩, st51⟩ := Jvm.LawKit.callS X50 hx (y := (⟨"org/antichain/core/EventIdIsLowercaseHexPinLaw", "ok", "([BIII)Z"⟩ : MethodName)) hown (mvT hZ (hw _ (List.mem_of_getElem? (i := 2) rfl))) (mvT hZ (hw _ (List.mem_of_getElem? (i := 3) rfl))) (mvT hZ (hw _ (List.mem_of_getElem? (i := 4) rfl))) (mvT hZ (hw _ (List.mem_of_getElem? (i := 5) rfl))) (by decide) (backOf (W := 0) (own_ok l Z a0 hw b44 (1 : Int32) f u cl_b44_o49 b1 h48 n0 Z_48 Ar_b44_o49 hin1 hat1) hZ (hw _ (List.mem_of_getElem? (i := 5) rfl)) (hw _ (List.mem_of_getElem? (i := 4) rfl)) (by decide) (by decide)) (g := (mkF m 67 #[.val (.int p0), .val (.int p1), .val (.int p2), .val (.ref b44), .val (.int f), .val (.int u), .unset] [(.int u), (.int f), (.int (1 : Int32)), (.ref b44)])) rfl (by rw [hml]; rfl) (argsL := [(.ref b44), (.int (1 : Int32)), (.int f), (.int u)]) (rest := []) (lenOf own_pd_2 rfl) rfl (by show 2 * 0 + _ ≤ _; exact Nat.le_of_eq rfl) (hb hby at_67) (fun _ _ => ⟨rfl, e50, (by decide : 1 + 0 ≤ _), (by decide : 4 + 0 ≤ _)⟩)
  dsimp only [Pt.U, Pt.locs, Pt.cells, Pt.slots] at X51 l51 y51 z51 st51 hQ51
  subst l51 y51 z51
  obtain ⟨rfl, Nq51, eh51⟩ := hQ51
  have N51 := Fr.app N50 Nq51
  have e51 : T51.heap = h48 := eh51
  obtain ⟨_, _, ⟨T52, L52, k52, n52⟩, -, X52, ⟨Lc52, hQ52, l52, y52, z52⟩, st52⟩ := Jvm.LawKit.callS X51 hx (y := (⟨"org/antichain/core/EventIdIsLowercaseHexPinLaw", "ok", "([BIII)Z"⟩ : MethodName)) hown (mvT hZ (hw _ (List.mem_of_getElem? (i := 2) rfl))) (mvT hZ (hw _ (List.mem_of_getElem? (i := 3) rfl))) (mvT hZ (hw _ (List.mem_of_getElem? (i := 4) rfl))) (mvT hZ (hw _ (List.mem_of_getElem? (i := 5) rfl))) (by decide) (backOf (W := 0) (own_ok l Z a0 hw b44 (2 : Int32) f u cl_b44_o49 b2 h48 n0 Z_48 Ar_b44_o49 hin2 hat2) hZ (hw _ (List.mem_of_getElem? (i := 5) rfl)) (hw _ (List.mem_of_getElem? (i := 4) rfl)) (by decide) (by decide)) (g := (mkF m 79 #[.val (.int p0), .val (.int p1), .val (.int p2), .val (.ref b44), .val (.int f), .val (.int u), .unset] [(.int u), (.int f), (.int (2 : Int32)), (.ref b44)])) rfl (by rw [hml]; rfl) (argsL := [(.ref b44), (.int (2 : Int32)), (.int f), (.int u)]) (rest := []) (lenOf own_pd_2 rfl) rfl (by show 2 * 0 + _ ≤ _; exact Nat.le_of_eq rfl) (hb hby at_79) (fun _ _ => ⟨rfl, e51, (by decide : 1 + 0 ≤ _), (by decide : 4 + 0 ≤ _)⟩)
  dsimp only [Pt.U, Pt.locs, Pt.cells, Pt.slots] at X52 l52 y52 z52 st52 hQ52
  subst l52 y52 z52
  obtain ⟨rfl, Nq52, eh52⟩ := hQ52
  have N52 := Fr.app N51 Nq52
  have e52 : T52.heap = h48 := eh52
  obtain ⟨_, _, ⟨T53, L53, k53, n53⟩, -, X53, ⟨Lc53, hQ53, l53, y53, z53⟩, st53⟩ := Jvm.LawKit.callS X52 hx (y := (⟨"org/antichain/core/EventIdIsLowercaseHexPinLaw", "ok", "([BIII)Z"⟩ : MethodName)) hown (mvT hZ (hw _ (List.mem_of_getElem? (i := 2) rfl))) (mvT hZ (hw _ (List.mem_of_getElem? (i := 3) rfl))) (mvT hZ (hw _ (List.mem_of_getElem? (i := 4) rfl))) (mvT hZ (hw _ (List.mem_of_getElem? (i := 5) rfl))) (by decide) (backOf (W := 0) (own_ok l Z a0 hw b44 (3 : Int32) f u cl_b44_o49 b3 h48 n0 Z_48 Ar_b44_o49 hin3 hat3) hZ (hw _ (List.mem_of_getElem? (i := 5) rfl)) (hw _ (List.mem_of_getElem? (i := 4) rfl)) (by decide) (by decide)) (g := (mkF m 91 #[.val (.int p0), .val (.int p1), .val (.int p2), .val (.ref b44), .val (.int f), .val (.int u), .unset] [(.int u), (.int f), (.int (3 : Int32)), (.ref b44)])) rfl (by rw [hml]; rfl) (argsL := [(.ref b44), (.int (3 : Int32)), (.int f), (.int u)]) (rest := []) (lenOf own_pd_2 rfl) rfl (by show 2 * 0 + _ ≤ _; exact Nat.le_of_eq rfl) (hb hby at_91) (fun _ _ => ⟨rfl, e52, (by decide : 1 + 0 ≤ _), (by decide : 4 + 0 ≤ _)⟩)
  dsimp only [Pt.U, Pt.locs, Pt.cells, Pt.slots] at X53 l53 y53 z53 st53 hQ53
  subst l53 y53 z53
  obtain ⟨rfl, Nq53, eh53⟩ := hQ53
  have N53 := Fr.app N52 Nq53
  have e53 : T53.heap = h48 := eh53
  obtain ⟨_, _, ⟨T54, L54, k54, n54⟩, -, X54, ⟨Lc54, hQ54, l54, y54, z54⟩, st54⟩ := Jvm.LawKit.callS X53 hx (y := (⟨"org/antichain/core/EventId", "isLowercaseHex", "([BII)Z"⟩ : MethodName)) hown (mvT hZ (hw _ (List.mem_of_getElem? (i := 6) rfl))) (mvT hZ (hw _ (List.mem_of_getElem? (i := 7) rfl))) (mvT hZ (hw _ (List.mem_of_getElem? (i := 8) rfl))) (mvT hZ (hw _ (List.mem_of_getElem? (i := 9) rfl))) (by decide) (backOf (W := 0) (own_lh_1 l Z a0 hw b44 f u cl_b44_o49 (own_B b0 b1 b2 b3) va vc h48 n0 Z_48 Ar_b44_o49 SL_b44_o49 HB_b44_o49 HR SV_48 AV_48 SZ HV hf hu hbad) hZ (hw _ (List.mem_of_getElem? (i := 9) rfl)) (hw _ (List.mem_of_getElem? (i := 8) rfl)) (by decide) (by decide)) (g := (mkF m 109 #[.val (.int p0), .val (.int p1), .val (.int p2), .val (.ref b44), .val (.int f), .val (.int u), .val (.int (1 : Int32))] [(.int u), (.int f), (.ref b44)])) rfl (by rw [hml]; rfl) (argsL := [(.ref b44), (.int f), (.int u)]) (rest := []) (lenOf own_pd_3 rfl) rfl (by show 2 * 0 + _ ≤ _; exact Nat.le_of_eq rfl) (hb hby at_109) (fun _ _ => ⟨rfl, e53, (by decide : 1 + 0 ≤ _), (by decide : 4 + 0 ≤ _)⟩)
  dsimp only [Pt.U, Pt.locs, Pt.cells, Pt.slots] at X54 l54 y54 z54 st54 hQ54
  subst l54 y54 z54
  obtain ⟨rfl, Nq54, eh54⟩ := hQ54
  have N54 := Fr.app N53 Nq54
  have e54 : T54.heap = h48 := eh54
  obtain ⟨fs, hr, hrun, hended, hW, hsame⟩ := X54.leave (v := some (.int (1 : Int32))) (fun h => by rw [Bd.returns] at h; cases h)
  refine ⟨_, _, pre0 _ ?_, hrun, hended, _, _, rfl, ?_, ⟨_, rfl⟩, hW, hsame.mono (by decide) (by decide)⟩
  · show Steps p.tables e below (s₁.setTop (mkF m 0 #[.val (.int p0), .val (.int p1), .val (.int p2), .unset, .unset, .unset, .unset] [])) _
    refine XS.iconst X0.here hx rfl (hb hby at_0) ?_
    show Steps p.tables e below (s₁.setTop (mkF m 1 #[.val (.int p0), .val (.int p1), .val (.int p2), .unset, .unset, .unset, .unset] [(.int (4 : Int32))])) _
    refine st44 _ ?_
    show Steps p.tables e below (T44.setTop (mkF m 3 #[.val (.int p0), .val (.int p1), .val (.int p2), .unset, .unset, .unset, .unset] [(.ref b44)])) _
    refine XS.astoreN X44.here hx rfl (hb hby at_3) rfl rfl (l' := #[.val (.int p0), .val (.int p1), .val (.int p2), .val (.ref b44), .unset, .unset, .unset]) rfl ?_
    show Steps p.tables e below (T44.setTop (mkF m 4 #[.val (.int p0), .val (.int p1), .val (.int p2), .val (.ref b44), .unset, .unset, .unset] [])) _
    refine XS.aloadN X44.here hx rfl (hb hby at_4) rfl rfl ?_
    show Steps p.tables e below (T44.setTop (mkF m 5 #[.val (.int p0), .val (.int p1), .val (.int p2), .val (.ref b44), .unset, .unset, .unset] [(.ref b44)])) _
    refine XS.iconst X44.here hx rfl (hb hby at_5) ?_
    show Steps p.tables e below (T44.setTop (mkF m 6 #[.val (.int p0), .val (.int p1), .val (.int p2), .val (.ref b44), .unset, .unset, .unset] [(.int (0 : Int32)), (.ref b44)])) _
    refine XS.iloadN X44.here hx rfl (hb hby at_6) rfl ?_
    show Steps p.tables e below (T44.setTop (mkF m 7 #[.val (.int p0), .val (.int p1), .val (.int p2), .val (.ref b44), .unset, .unset, .unset] [(.int p0), (.int (0 : Int32)), (.ref b44)])) _
    refine XS.i2b X44.here hx rfl (hb hby at_7) rfl ?_
    show Steps p.tables e below (T44.setTop (mkF m 8 #[.val (.int p0), .val (.int p1), .val (.int p2), .val (.ref b44), .unset, .unset, .unset] [(.int (p0.toInt8.toInt32)), (.int (0 : Int32)), (.ref b44)])) _
    refine st45 _ ?_
    show Steps p.tables e below (T45.setTop (mkF m 9 #[.val (.int p0), .val (.int p1), .val (.int p2), .val (.ref b44), .unset, .unset, .unset] [])) _
    refine XS.aloadN X45.here hx rfl (hb hby at_9) rfl rfl ?_
    show Steps p.tables e below (T45.setTop (mkF m 10 #[.val (.int p0), .val (.int p1), .val (.int p2), .val (.ref b44), .unset, .unset, .unset] [(.ref b44)])) _
    refine XS.iconst X45.here hx rfl (hb hby at_10) ?_
    show Steps p.tables e below (T45.setTop (mkF m 11 #[.val (.int p0), .val (.int p1), .val (.int p2), .val (.ref b44), .unset, .unset, .unset] [(.int (1 : Int32)), (.ref b44)])) _
    refine XS.iloadN X45.here hx rfl (hb hby at_11) rfl ?_
    show Steps p.tables e below (T45.setTop (mkF m 12 #[.val (.int p0), .val (.int p1), .val (.int p2), .val (.ref b44), .unset, .unset, .unset] [(.int p0), (.int (1 : Int32)), (.ref b44)])) _
    refine XS.bipush X45.here hx rfl (hb hby at_12) ?_
    show Steps p.tables e below (T45.setTop (mkF m 14 #[.val (.int p0), .val (.int p1), .val (.int p2), .val (.ref b44), .unset, .unset, .unset] [(.int (8 : Int32)), (.int p0), (.int (1 : Int32)), (.ref b44)])) _
    refine XS.ishr X45.here hx rfl (hb hby at_14) rfl ?_
    show Steps p.tables e below (T45.setTop (mkF m 15 #[.val (.int p0), .val (.int p1), .val (.int p2), .val (.ref b44), .unset, .unset, .unset] [(.int (p0 >>> ((8 : Int32) &&& 31))), (.int (1 : Int32)), (.ref b44)])) _
    refine XS.i2b X45.here hx rfl (hb hby at_15) rfl ?_
    show Steps p.tables e below (T45.setTop (mkF m 16 #[.val (.int p0), .val (.int p1), .val (.int p2), .val (.ref b44), .unset, .unset, .unset] [(.int ((p0 >>> ((8 : Int32) &&& 31)).toInt8.toInt32)), (.int (1 : Int32)), (.ref b44)])) _
    refine st46 _ ?_
    show Steps p.tables e below (T46.setTop (mkF m 17 #[.val (.int p0), .val (.int p1), .val (.int p2), .val (.ref b44), .unset, .unset, .unset] [])) _
    refine XS.aloadN X46.here hx rfl (hb hby at_17) rfl rfl ?_
    show Steps p.tables e below (T46.setTop (mkF m 18 #[.val (.int p0), .val (.int p1), .val (.int p2), .val (.ref b44), .unset, .unset, .unset] [(.ref b44)])) _
    refine XS.iconst X46.here hx rfl (hb hby at_18) ?_
    show Steps p.tables e below (T46.setTop (mkF m 19 #[.val (.int p0), .val (.int p1), .val (.int p2), .val (.ref b44), .unset, .unset, .unset] [(.int (2 : Int32)), (.ref b44)])) _
    refine XS.iloadN X46.here hx rfl (hb hby at_19) rfl ?_
    show Steps p.tables e below (T46.setTop (mkF m 20 #[.val (.int p0), .val (.int p1), .val (.int p2), .val (.ref b44), .unset, .unset, .unset] [(.int p0), (.int (2 : Int32)), (.ref b44)])) _
    refine XS.bipush X46.here hx rfl (hb hby at_20) ?_
    show Steps p.tables e below (T46.setTop (mkF m 22 #[.val (.int p0), .val (.int p1), .val (.int p2), .val (.ref b44), .unset, .unset, .unset] [(.int (16 : Int32)), (.int p0), (.int (2 : Int32)), (.ref b44)])) _
    refine XS.ishr X46.here hx rfl (hb hby at_22) rfl ?_
    show Steps p.tables e below (T46.setTop (mkF m 23 #[.val (.int p0), .val (.int p1), .val (.int p2), .val (.ref b44), .unset, .unset, .unset] [(.int (p0 >>> ((16 : Int32) &&& 31))), (.int (2 : Int32)), (.ref b44)])) _
    refine XS.i2b X46.here hx rfl (hb hby at_23) rfl ?_
    show Steps p.tables e below (T46.setTop (mkF m 24 #[.val (.int p0), .val (.int p1), .val (.int p2), .val (.ref b44), .unset, .unset, .unset] [(.int ((p0 >>> ((16 : Int32) &&& 31)).toInt8.toInt32)), (.int (2 : Int32)), (.ref b44)])) _
    refine st47 _ ?_
    show Steps p.tables e below (T47.setTop (mkF m 25 #[.val (.int p0), .val (.int p1), .val (.int p2), .val (.ref b44), .unset, .unset, .unset] [])) _
    refine XS.aloadN X47.here hx rfl (hb hby at_25) rfl rfl ?_
    show Steps p.tables e below (T47.setTop (mkF m 26 #[.val (.int p0), .val (.int p1), .val (.int p2), .val (.ref b44), .unset, .unset, .unset] [(.ref b44)])) _
    refine XS.iconst X47.here hx rfl (hb hby at_26) ?_
    show Steps p.tables e below (T47.setTop (mkF m 27 #[.val (.int p0), .val (.int p1), .val (.int p2), .val (.ref b44), .unset, .unset, .unset] [(.int (3 : Int32)), (.ref b44)])) _
    refine XS.iloadN X47.here hx rfl (hb hby at_27) rfl ?_
    show Steps p.tables e below (T47.setTop (mkF m 28 #[.val (.int p0), .val (.int p1), .val (.int p2), .val (.ref b44), .unset, .unset, .unset] [(.int p0), (.int (3 : Int32)), (.ref b44)])) _
    refine XS.bipush X47.here hx rfl (hb hby at_28) ?_
    show Steps p.tables e below (T47.setTop (mkF m 30 #[.val (.int p0), .val (.int p1), .val (.int p2), .val (.ref b44), .unset, .unset, .unset] [(.int (24 : Int32)), (.int p0), (.int (3 : Int32)), (.ref b44)])) _
    refine XS.ishr X47.here hx rfl (hb hby at_30) rfl ?_
    show Steps p.tables e below (T47.setTop (mkF m 31 #[.val (.int p0), .val (.int p1), .val (.int p2), .val (.ref b44), .unset, .unset, .unset] [(.int (p0 >>> ((24 : Int32) &&& 31))), (.int (3 : Int32)), (.ref b44)])) _
    refine XS.i2b X47.here hx rfl (hb hby at_31) rfl ?_
    show Steps p.tables e below (T47.setTop (mkF m 32 #[.val (.int p0), .val (.int p1), .val (.int p2), .val (.ref b44), .unset, .unset, .unset] [(.int ((p0 >>> ((24 : Int32) &&& 31)).toInt8.toInt32)), (.int (3 : Int32)), (.ref b44)])) _
    refine st48 _ ?_
    show Steps p.tables e below (T48.setTop (mkF m 33 #[.val (.int p0), .val (.int p1), .val (.int p2), .val (.ref b44), .unset, .unset, .unset] [])) _
    refine XS.iloadN X48.here hx rfl (hb hby at_33) rfl ?_
    show Steps p.tables e below (T48.setTop (mkF m 34 #[.val (.int p0), .val (.int p1), .val (.int p2), .val (.ref b44), .unset, .unset, .unset] [(.int p1)])) _
    refine X48.ldcInt hx hown (mvT hZ (hw _ (List.mem_of_getElem? (i := 1) rfl))) (g := (mkF m 34 #[.val (.int p0), .val (.int p1), .val (.int p2), .val (.ref b44), .unset, .unset, .unset] [(.int p1)])) rfl (hb hby at_34) _ ?_
    show Steps p.tables e below (T48.setTop (mkF m 36 #[.val (.int p0), .val (.int p1), .val (.int p2), .val (.ref b44), .unset, .unset, .unset] [(.int (2147483647 : Int32)), (.int p1)])) _
    refine XS.iand X48.here hx rfl (hb hby at_36) rfl ?_
    show Steps p.tables e below (T48.setTop (mkF m 37 #[.val (.int p0), .val (.int p1), .val (.int p2), .val (.ref b44), .unset, .unset, .unset] [(.int (p1 &&& (2147483647 : Int32)))])) _
    refine XS.iconst X48.here hx rfl (hb hby at_37) ?_
    show Steps p.tables e below (T48.setTop (mkF m 38 #[.val (.int p0), .val (.int p1), .val (.int p2), .val (.ref b44), .unset, .unset, .unset] [(.int (5 : Int32)), (.int (p1 &&& (2147483647 : Int32)))])) _
    refine iremM X48 hx rfl (hb hby at_38) rfl (by decide) ?_
    rw [hfe]
    show Steps p.tables e below (T48.setTop (mkF m 39 #[.val (.int p0), .val (.int p1), .val (.int p2), .val (.ref b44), .unset, .unset, .unset] [(.int f)])) _
    refine XS.istore X48.here hx rfl (hb hby at_39) rfl (l' := #[.val (.int p0), .val (.int p1), .val (.int p2), .val (.ref b44), .val (.int f), .unset, .unset]) rfl ?_
    show Steps p.tables e below (T48.setTop (mkF m 41 #[.val (.int p0), .val (.int p1), .val (.int p2), .val (.ref b44), .val (.int f), .unset, .unset] [])) _
    refine XS.iloadN X48.here hx rfl (hb hby at_41) rfl ?_
    show Steps p.tables e below (T48.setTop (mkF m 42 #[.val (.int p0), .val (.int p1), .val (.int p2), .val (.ref b44), .val (.int f), .unset, .unset] [(.int p2)])) _
    refine X48.ldcInt hx hown (mvT hZ (hw _ (List.mem_of_getElem? (i := 1) rfl))) (g := (mkF m 42 #[.val (.int p0), .val (.int p1), .val (.int p2), .val (.ref b44), .val (.int f), .unset, .unset] [(.int p2)])) rfl (hb hby at_42) _ ?_
    show Steps p.tables e below (T48.setTop (mkF m 44 #[.val (.int p0), .val (.int p1), .val (.int p2), .val (.ref b44), .val (.int f), .unset, .unset] [(.int (2147483647 : Int32)), (.int p2)])) _
    refine XS.iand X48.here hx rfl (hb hby at_44) rfl ?_
    show Steps p.tables e below (T48.setTop (mkF m 45 #[.val (.int p0), .val (.int p1), .val (.int p2), .val (.ref b44), .val (.int f), .unset, .unset] [(.int (p2 &&& (2147483647 : Int32)))])) _
    refine XS.iconst X48.here hx rfl (hb hby at_45) ?_
    show Steps p.tables e below (T48.setTop (mkF m 46 #[.val (.int p0), .val (.int p1), .val (.int p2), .val (.ref b44), .val (.int f), .unset, .unset] [(.int (5 : Int32)), (.int (p2 &&& (2147483647 : Int32)))])) _
    refine iremM X48 hx rfl (hb hby at_46) rfl (by decide) ?_
    rw [hue]
    show Steps p.tables e below (T48.setTop (mkF m 47 #[.val (.int p0), .val (.int p1), .val (.int p2), .val (.ref b44), .val (.int f), .unset, .unset] [(.int u)])) _
    refine XS.istore X48.here hx rfl (hb hby at_47) rfl (l' := #[.val (.int p0), .val (.int p1), .val (.int p2), .val (.ref b44), .val (.int f), .val (.int u), .unset]) rfl ?_
    show Steps p.tables e below (T48.setTop (mkF m 49 #[.val (.int p0), .val (.int p1), .val (.int p2), .val (.ref b44), .val (.int f), .val (.int u), .unset] [])) _
    refine XS.aloadN X48.here hx rfl (hb hby at_49) rfl rfl ?_
    show Steps p.tables e below (T48.setTop (mkF m 50 #[.val (.int p0), .val (.int p1), .val (.int p2), .val (.ref b44), .val (.int f), .val (.int u), .unset] [(.ref b44)])) _
    refine XS.iconst X48.here hx rfl (hb hby at_50) ?_
    show Steps p.tables e below (T48.setTop (mkF m 51 #[.val (.int p0), .val (.int p1), .val (.int p2), .val (.ref b44), .val (.int f), .val (.int u), .unset] [(.int (0 : Int32)), (.ref b44)])) _
    refine XS.iload X48.here hx rfl (hb hby at_51) rfl ?_
    show Steps p.tables e below (T48.setTop (mkF m 53 #[.val (.int p0), .val (.int p1), .val (.int p2), .val (.ref b44), .val (.int f), .val (.int u), .unset] [(.int f), (.int (0 : Int32)), (.ref b44)])) _
    refine XS.iload X48.here hx rfl (hb hby at_53) rfl ?_
    show Steps p.tables e below (T48.setTop (mkF m 55 #[.val (.int p0), .val (.int p1), .val (.int p2), .val (.ref b44), .val (.int f), .val (.int u), .unset] [(.int u), (.int f), (.int (0 : Int32)), (.ref b44)])) _
    refine st50 _ ?_
    show Steps p.tables e below (T50.setTop (mkF m 58 #[.val (.int p0), .val (.int p1), .val (.int p2), .val (.ref b44), .val (.int f), .val (.int u), .unset] [(.int (own_okv (0 : Int32) f u b0))])) _
    refine XS.ifNo X50.here hx rfl (hb hby at_58) rfl ((if0 _ _).trans (feq hc58).1) ?_
    show Steps p.tables e below (T50.setTop (mkF m 61 #[.val (.int p0), .val (.int p1), .val (.int p2), .val (.ref b44), .val (.int f), .val (.int u), .unset] [])) _
    refine XS.aloadN X50.here hx rfl (hb hby at_61) rfl rfl ?_
    show Steps p.tables e below (T50.setTop (mkF m 62 #[.val (.int p0), .val (.int p1), .val (.int p2), .val (.ref b44), .val (.int f), .val (.int u), .unset] [(.ref b44)])) _
    refine XS.iconst X50.here hx rfl (hb hby at_62) ?_
    show Steps p.tables e below (T50.setTop (mkF m 63 #[.val (.int p0), .val (.int p1), .val (.int p2), .val (.ref b44), .val (.int f), .val (.int u), .unset] [(.int (1 : Int32)), (.ref b44)])) _
    refine XS.iload X50.here hx rfl (hb hby at_63) rfl ?_
    show Steps p.tables e below (T50.setTop (mkF m 65 #[.val (.int p0), .val (.int p1), .val (.int p2), .val (.ref b44), .val (.int f), .val (.int u), .unset] [(.int f), (.int (1 : Int32)), (.ref b44)])) _
    refine XS.iload X50.here hx rfl (hb hby at_65) rfl ?_
    show Steps p.tables e below (T50.setTop (mkF m 67 #[.val (.int p0), .val (.int p1), .val (.int p2), .val (.ref b44), .val (.int f), .val (.int u), .unset] [(.int u), (.int f), (.int (1 : Int32)), (.ref b44)])) _
    refine st51 _ ?_
    show Steps p.tables e below (T51.setTop (mkF m 70 #[.val (.int p0), .val (.int p1), .val (.int p2), .val (.ref b44), .val (.int f), .val (.int u), .unset] [(.int (own_okv (1 : Int32) f u b1))])) _
    refine XS.ifNo X51.here hx rfl (hb hby at_70) rfl ((if0 _ _).trans (feq hc70).1) ?_
    show Steps p.tables e below (T51.setTop (mkF m 73 #[.val (.int p0), .val (.int p1), .val (.int p2), .val (.ref b44), .val (.int f), .val (.int u), .unset] [])) _
    refine XS.aloadN X51.here hx rfl (hb hby at_73) rfl rfl ?_
    show Steps p.tables e below (T51.setTop (mkF m 74 #[.val (.int p0), .val (.int p1), .val (.int p2), .val (.ref b44), .val (.int f), .val (.int u), .unset] [(.ref b44)])) _
    refine XS.iconst X51.here hx rfl (hb hby at_74) ?_
    show Steps p.tables e below (T51.setTop (mkF m 75 #[.val (.int p0), .val (.int p1), .val (.int p2), .val (.ref b44), .val (.int f), .val (.int u), .unset] [(.int (2 : Int32)), (.ref b44)])) _
    refine XS.iload X51.here hx rfl (hb hby at_75) rfl ?_
    show Steps p.tables e below (T51.setTop (mkF m 77 #[.val (.int p0), .val (.int p1), .val (.int p2), .val (.ref b44), .val (.int f), .val (.int u), .unset] [(.int f), (.int (2 : Int32)), (.ref b44)])) _
    refine XS.iload X51.here hx rfl (hb hby at_77) rfl ?_
    show Steps p.tables e below (T51.setTop (mkF m 79 #[.val (.int p0), .val (.int p1), .val (.int p2), .val (.ref b44), .val (.int f), .val (.int u), .unset] [(.int u), (.int f), (.int (2 : Int32)), (.ref b44)])) _
    refine st52 _ ?_
    show Steps p.tables e below (T52.setTop (mkF m 82 #[.val (.int p0), .val (.int p1), .val (.int p2), .val (.ref b44), .val (.int f), .val (.int u), .unset] [(.int (own_okv (2 : Int32) f u b2))])) _
    refine XS.ifNo X52.here hx rfl (hb hby at_82) rfl ((if0 _ _).trans (feq hc82).1) ?_
    show Steps p.tables e below (T52.setTop (mkF m 85 #[.val (.int p0), .val (.int p1), .val (.int p2), .val (.ref b44), .val (.int f), .val (.int u), .unset] [])) _
    refine XS.aloadN X52.here hx rfl (hb hby at_85) rfl rfl ?_
    show Steps p.tables e below (T52.setTop (mkF m 86 #[.val (.int p0), .val (.int p1), .val (.int p2), .val (.ref b44), .val (.int f), .val (.int u), .unset] [(.ref b44)])) _
    refine XS.iconst X52.here hx rfl (hb hby at_86) ?_
    show Steps p.tables e below (T52.setTop (mkF m 87 #[.val (.int p0), .val (.int p1), .val (.int p2), .val (.ref b44), .val (.int f), .val (.int u), .unset] [(.int (3 : Int32)), (.ref b44)])) _
    refine XS.iload X52.here hx rfl (hb hby at_87) rfl ?_
    show Steps p.tables e below (T52.setTop (mkF m 89 #[.val (.int p0), .val (.int p1), .val (.int p2), .val (.ref b44), .val (.int f), .val (.int u), .unset] [(.int f), (.int (3 : Int32)), (.ref b44)])) _
    refine XS.iload X52.here hx rfl (hb hby at_89) rfl ?_
    show Steps p.tables e below (T52.setTop (mkF m 91 #[.val (.int p0), .val (.int p1), .val (.int p2), .val (.ref b44), .val (.int f), .val (.int u), .unset] [(.int u), (.int f), (.int (3 : Int32)), (.ref b44)])) _
    refine st53 _ ?_
    show Steps p.tables e below (T53.setTop (mkF m 94 #[.val (.int p0), .val (.int p1), .val (.int p2), .val (.ref b44), .val (.int f), .val (.int u), .unset] [(.int (own_okv (3 : Int32) f u b3))])) _
    refine XS.ifNo X53.here hx rfl (hb hby at_94) rfl ((if0 _ _).trans (feq hc94).1) ?_
    show Steps p.tables e below (T53.setTop (mkF m 97 #[.val (.int p0), .val (.int p1), .val (.int p2), .val (.ref b44), .val (.int f), .val (.int u), .unset] [])) _
    refine XS.iconst X53.here hx rfl (hb hby at_97) ?_
    show Steps p.tables e below (T53.setTop (mkF m 98 #[.val (.int p0), .val (.int p1), .val (.int p2), .val (.ref b44), .val (.int f), .val (.int u), .unset] [(.int (1 : Int32))])) _
    refine XS.goto X53.here hx rfl (pc0 := 98) (pc' := 102) rfl (hb hby at_98) (by decide) (by decide) ?_
    show Steps p.tables e below (T53.setTop (mkF m 102 #[.val (.int p0), .val (.int p1), .val (.int p2), .val (.ref b44), .val (.int f), .val (.int u), .unset] [(.int (1 : Int32))])) _
    refine XS.istore X53.here hx rfl (hb hby at_102) rfl (l' := #[.val (.int p0), .val (.int p1), .val (.int p2), .val (.ref b44), .val (.int f), .val (.int u), .val (.int (1 : Int32))]) rfl ?_
    show Steps p.tables e below (T53.setTop (mkF m 104 #[.val (.int p0), .val (.int p1), .val (.int p2), .val (.ref b44), .val (.int f), .val (.int u), .val (.int (1 : Int32))] [])) _
    refine XS.aloadN X53.here hx rfl (hb hby at_104) rfl rfl ?_
    show Steps p.tables e below (T53.setTop (mkF m 105 #[.val (.int p0), .val (.int p1), .val (.int p2), .val (.ref b44), .val (.int f), .val (.int u), .val (.int (1 : Int32))] [(.ref b44)])) _
    refine XS.iload X53.here hx rfl (hb hby at_105) rfl ?_
    show Steps p.tables e below (T53.setTop (mkF m 107 #[.val (.int p0), .val (.int p1), .val (.int p2), .val (.ref b44), .val (.int f), .val (.int u), .val (.int (1 : Int32))] [(.int f), (.ref b44)])) _
    refine XS.iload X53.here hx rfl (hb hby at_107) rfl ?_
    show Steps p.tables e below (T53.setTop (mkF m 109 #[.val (.int p0), .val (.int p1), .val (.int p2), .val (.ref b44), .val (.int f), .val (.int u), .val (.int (1 : Int32))] [(.int u), (.int f), (.ref b44)])) _
    refine st54 _ ?_
    show Steps p.tables e below (T54.setTop (mkF m 112 #[.val (.int p0), .val (.int p1), .val (.int p2), .val (.ref b44), .val (.int f), .val (.int u), .val (.int (1 : Int32))] [(.int (1 : Int32))])) _
    refine XS.iload X54.here hx rfl (hb hby at_112) rfl ?_
    show Steps p.tables e below (T54.setTop (mkF m 114 #[.val (.int p0), .val (.int p1), .val (.int p2), .val (.ref b44), .val (.int f), .val (.int u), .val (.int (1 : Int32))] [(.int (1 : Int32)), (.int (1 : Int32))])) _
    refine XS.icmpNo X54.here hx rfl (hb hby at_114) rfl (teq (rfl : (1 : Int32) = (1 : Int32))).2 ?_
    show Steps p.tables e below (T54.setTop (mkF m 117 #[.val (.int p0), .val (.int p1), .val (.int p2), .val (.ref b44), .val (.int f), .val (.int u), .val (.int (1 : Int32))] [])) _
    refine XS.iconst X54.here hx rfl (hb hby at_117) ?_
    show Steps p.tables e below (T54.setTop (mkF m 118 #[.val (.int p0), .val (.int p1), .val (.int p2), .val (.ref b44), .val (.int f), .val (.int u), .val (.int (1 : Int32))] [(.int (1 : Int32))])) _
    refine XS.goto X54.here hx rfl (pc0 := 118) (pc' := 122) rfl (hb hby at_118) (by decide) (by decide) ?_
    show Steps p.tables e below (T54.setTop (mkF m 122 #[.val (.int p0), .val (.int p1), .val (.int p2), .val (.ref b44), .val (.int f), .val (.int u), .val (.int (1 : Int32))] [(.int (1 : Int32))])) _
    exact retN X54 hx (t := .boolean) Bd.returns (by simp) (hb hby at_122) hr
  · show (own_Q1 n0) _ T54.heap _
    rw [e54]
    exact ⟨rfl, N54⟩
theorem own_eqI {args : Array Value} {s : State} {t : Term} {k : Int32} {idx : List Nat} (h : (Jvm.Cond.eq t (.int k)).value args s none s idx = some true) : t.eval args s none idx s = some (.int k) := by
  simp only [Cond.value, Term.eval] at h
  cases ht : t.eval args s none idx s with
  | none => simp [ht] at h
  | some x => cases x <;> simp [ht] at h ⊢; exact h
theorem own_eqL {args : Array Value} {s : State} {t : Term} {k : Int64} {idx : List Nat} (h : (Jvm.Cond.eq t (.long k)).value args s none s idx = some true) : t.eval args s none idx s = some (.long k) := by
  simp only [Cond.value, Term.eval] at h
  cases ht : t.eval args s none idx s with
  | none => simp [ht] at h
  | some x => cases x <;> simp [ht] at h ⊢; exact h
theorem own_len {args : Array Value} {s : State} {t : Term} {a : Addr} {cl : Cell} {ty : FieldType} {z : Int32} (ht : t.eval args s none [] s = some (.ref a)) (A : Arr s s.heap a cl ty) (h : (Term.length t).eval args s none [] s = some (.int z)) : cl.slots.size < 2 ^ 31 ∧ cl.slots.size.toInt32 = z := by
  have ha := A.fin (Vm.Alike.refl _)
  by_cases hn : cl.slots.size < 2 ^ 31
  · have q := (len_f ht ha hn).symm.trans h
    exact ⟨hn, Value.int.inj (Option.some.inj q)⟩
  · simp [Term.eval, ht, ha, hn] at h
theorem own_size {n : Nat} {z : Int32} (q : n < 2 ^ 31) (e : n.toInt32 = z) : n = z.toNatClampNeg := by
  rw [← e]; simp only [Int32.toNatClampNeg, len_toInt q]; rfl
theorem own_rem (p : Int32) : ∃ k : Nat, k < 5 ∧ (p &&& (2147483647 : Int32)) % (5 : Int32) = Int32.ofNat k := by
  have h1 := (c_and p 2147483647 (by decide)).1
  have h2 := (c_iremV (p &&& (2147483647 : Int32)) 5).1 h1 (by decide)
  have h7 : (5 : Int32).toInt = 5 := by decide
  rw [h7] at h2
  refine ⟨((p &&& (2147483647 : Int32)) % (5 : Int32)).toInt.toNat, by omega, ?_⟩
  apply Int32.toInt_inj.mp
  rw [Int32.toInt_ofNat_of_lt (by omega)]
  omega
theorem own_remI (p f : Int32) (h : (p &&& (2147483647 : Int32)) % (5 : Int32) = f) : 0 ≤ f.toInt ∧ f.toInt ≤ 4 := by
  obtain ⟨k, hk, e⟩ := own_rem p
  rw [← h, e, Int32.toInt_ofNat_of_lt (by omega)]
  omega
theorem own_byte (x b : Int32) (h : nar .byte x = b) : b < 128 := by
  have e : nar .byte x = x.toInt8.toInt32 := rfl
  have q := c_i2b x
  have e128 : (128 : Int32).toInt = 128 := by decide
  rw [← h, e, Int32.lt_iff_toInt_lt]
  omega
theorem own_okv0 (i f u b : Int32) : own_okv i f u b = 0 ↔ ¬ i < f ∧ i < u ∧ own_hx b = 0 := by
  have n10 : ¬ ((1 : Int32) = 0) := by decide
  unfold own_okv
  by_cases h1 : i < f <;> by_cases h2 : i < u <;> by_cases h3 : own_hx b = 0 <;> simp [h1, h2, h3, n10]
theorem own_bad_of (f u : Int32) (b0 b1 b2 b3 : Int32) (k : Nat) (hk : k < 4) (h : own_okv (Int32.ofNat k) f u (own_B b0 b1 b2 b3 k) = 0) : own_bad f u (own_B b0 b1 b2 b3) := by
  obtain ⟨h1, h2, h3⟩ := (own_okv0 _ _ _ _).mp h
  rw [Int32.lt_iff_toInt_lt, Int32.toInt_ofNat_of_lt (by omega)] at h1 h2
  exact ⟨k, by omega, h2, h3⟩
theorem own_bad_to (f u : Int32) (b0 b1 b2 b3 : Int32) (hf : 0 ≤ f.toInt) (hu : u.toInt ≤ 4) (h : own_bad f u (own_B b0 b1 b2 b3)) : ∃ k : Nat, k < 4 ∧ own_okv (Int32.ofNat k) f u (own_B b0 b1 b2 b3 k) = 0 := by
  obtain ⟨j, h1, h2, h3⟩ := h
  refine ⟨j, by omega, (own_okv0 _ _ _ _).mpr ⟨?_, ?_, h3⟩⟩ <;> rw [Int32.lt_iff_toInt_lt, Int32.toInt_ofNat_of_lt (by omega)] <;> omega
theorem own_eqT {args : Array Value} {s : State} {t u : Term} {k : Int32} {idx : List Nat} (h : (Jvm.Cond.eq t u).value args s none s idx = some true) (hu : u.eval args s none idx s = some (.int k)) : t.eval args s none idx s = some (.int k) := Cond.eq_int (by simp [Cond.holds, h]) hu
set_option maxRecDepth 65536 in
set_option maxHeartbeats 40000000 in
theorem comes_1 {Post : Tables → Env → Array Value → State → Outcome → State → Prop} (hpost : ∀ tb e args s v u, (limb_1_1.after args s (.returned v) u = true ∧ limb_1_2.after args s (.returned v) u = true ∧ True) → FrameEnd s (.returned v) u (Jvm.fieldLocs frame_1_writes args s ++ Jvm.arrayLocs frame_1_arrays args s ++ Jvm.staticLocs frame_1_statics s) 16 128 → Post tb e args s (.returned v) u) :
    ArmFor flags0 classFile x code maxLocals ret World_1 tables_1 room_1 Calls_1 rest_1 Pre_1 Post := by
  intro l hfl _ _ p e ha hc hk s m args below hf hA hF happ hP
  obtain ⟨hcalls, hrest, hpre⟩ := hP
  obtain ⟨-, -, -, hnamed, -, -, -, hat⟩ := (Spec.applies_iff hf).mp happ
  obtain ⟨hg, hn⟩ := and_e (Cond.before_iff.mp (show (Jvm.Cond.and given_1 narrow_1).before args s = true from hpre))
  obtain ⟨hgc, hg0⟩ := and_e hg
  obtain ⟨ga0, hg1⟩ := and_e hg0
  obtain ⟨ga1, hg2⟩ := and_e hg1
  have ga2 := hg2
  obtain ⟨w0, w1, w2, rfl⟩ : ∃ w0 w1 w2 : Value, args = #[w0, w1, w2] := by
    have hs : args.size = 3 := by simpa [Cond.value, given_1] using hgc
    obtain ⟨L⟩ := args
    match L, hs with
    | [w0, w1, w2], _ => exact ⟨w0, w1, w2, rfl⟩
  have hw := fun d (hd : d ∈ tables_1) => atoms_spec (ws := Jvm.Cond.code x code maxLocals ret :: tables_1) hat d (List.mem_cons_of_mem _ hd)
  have hfit : Fit s := fun {y c} hc i hi => by
    obtain ⟨ha, rfl⟩ := Array.getElem?_eq_some_iff.mp hc
    have q := List.all_eq_true.mp ((Array.all_eq_true_iff_forall_mem.mp hF) _ (Array.getElem_mem ha)) i (List.mem_range.mpr hi)
    simpa [Array.getElem?_eq_getElem hi] using q
  obtain ⟨i0, ei0⟩ := is_v ga0
  obtain rfl : w0 = (.int i0) := Option.some.inj ei0
  obtain ⟨i1, ei1⟩ := is_v ga1
  obtain rfl : w1 = (.int i1) := Option.some.inj ei1
  obtain ⟨i2, ei2⟩ := is_v ga2
  obtain rfl : w2 = (.int i2) := Option.some.inj ei2
  obtain ⟨na0, nb0⟩ := and_e hn
  obtain ⟨na1, nb1⟩ := and_e nb0
  obtain ⟨na2, nb2⟩ := and_e nb1
  obtain ⟨na3, nb3⟩ := and_e nb2
  obtain ⟨na4, nb4⟩ := and_e nb3
  obtain ⟨na5, nb5⟩ := and_e nb4
  obtain ⟨va, evA⟩ := arr_v na0
  obtain ⟨vc, AV⟩ := Arr.start evA na0
  have SV := Sta.start evA (Or.inr ⟨(hw _ (List.mem_of_getElem? (i := 8) rfl)), (hw _ (List.mem_of_getElem? (i := 17) rfl))⟩)
  obtain ⟨hl1, hl2⟩ := own_len evA AV (own_eqI na1)
  have SZ := own_size hl1 hl2
  have HV : ∀ b : Int32, ¬ b < 0 → b < 128 → vc.slots[b.toNatClampNeg]? = some (.int (own_dg b)) := by
    intro b hb0 hb1
    have hlt : b.toNatClampNeg < vc.slots.size := Nat.lt_of_not_le fun q => inb_of SZ ⟨hb0, hb1⟩ (Or.inr q)
    have ix : (Term.index 0).eval #[.int i0, .int i1, .int i2] s none [b.toNatClampNeg] s = some (.int b) := idx_at hb0
    have ha := AV.fin (Vm.Alike.refl _)
    have evA' : (Term.static "org/antichain/core/EventId" "VALUES" "[B").eval #[.int i0, .int i1, .int i2] s none [b.toNatClampNeg] s = some (.ref va) := evA
    have fin : ∀ v : Int32, (Term.elem (Term.static "org/antichain/core/EventId" "VALUES" "[B") (Term.index 0)).eval #[.int i0, .int i1, .int i2] s none [b.toNatClampNeg] s = some (.int v) → vc.slots[b.toNatClampNeg]? = some (.int v) := fun v q => (elem_in q evA' ix AV.1).2
    unfold own_dg
    rw [if_neg hb0]
    have le_of : ∀ k : Int32, ¬ b < k → k ≤ b := fun k q => by rw [Int32.lt_iff_toInt_lt] at q; rw [Int32.le_iff_toInt_le]; omega
    have nle_of : ∀ k : Int32, b < k → ¬ k ≤ b := fun k q => by rw [Int32.lt_iff_toInt_lt] at q; rw [Int32.le_iff_toInt_le]; omega
    have lt_tr : ∀ k k' : Int32, b < k → k.toInt ≤ k'.toInt → b < k' := fun k k' q r => by rw [Int32.lt_iff_toInt_lt] at *; omega
    by_cases h48 : b < 48
    · rw [if_pos h48]
      have q := Cond.all_elim evA ha na2 _ hlt
      rw [Cond.or_of_right (nay (Cond.le_ints (Term.int_eval _) ix) (nle_of _ h48))] at q
      exact fin _ (own_eqI q)
    rw [if_neg h48]
    by_cases h58 : b < 58
    · rw [if_pos h58]
      have q := Cond.all_elim evA ha na3 _ hlt
      rw [Cond.or_of_right (nay (Cond.lt_ints ix (Term.int_eval _)) h48), Cond.or_of_right (nay (Cond.le_ints (Term.int_eval _) ix) (nle_of _ h58))] at q
      exact fin _ (own_eqT q (Term.sub_int ix (Term.int_eval _)))
    rw [if_neg h58]
    by_cases h97 : b < 97
    · rw [if_pos h97]
      have q := Cond.all_elim evA ha na4 _ hlt
      rw [Cond.or_of_right (nay (Cond.lt_ints ix (Term.int_eval _)) h58), Cond.or_of_right (nay (Cond.le_ints (Term.int_eval _) ix) (nle_of _ h97))] at q
      exact fin _ (own_eqI q)
    rw [if_neg h97]
    by_cases h103 : b < 103
    · rw [if_pos h103]
      have q := Cond.all_elim evA ha na5 _ hlt
      rw [Cond.or_of_right (nay (Cond.lt_ints ix (Term.int_eval _)) h97), Cond.or_of_right (nay (Cond.le_ints (Term.int_eval _) ix) (nle_of _ h103))] at q
      exact fin _ (own_eqT q (Term.sub_int ix (Term.int_eval _)))
    rw [if_neg h103]
    have q := Cond.all_elim evA ha nb5 _ hlt
    rw [Cond.or_of_right (nay (Cond.lt_ints ix (Term.int_eval _)) h103)] at q
    exact fin _ (own_eqI q)
  obtain ⟨f, hfe⟩ : ∃ f, (i1 &&& (2147483647 : Int32)) % (5 : Int32) = f := ⟨_, rfl⟩
  obtain ⟨u, hue⟩ : ∃ u, (i2 &&& (2147483647 : Int32)) % (5 : Int32) = u := ⟨_, rfl⟩
  have hf0 := (own_remI _ _ hfe).1
  have hu4 := (own_remI _ _ hue).2
  obtain ⟨b0, hb0⟩ : ∃ b, nar .byte (i0.toInt8.toInt32) = b := ⟨_, rfl⟩
  obtain ⟨b1, hb1⟩ : ∃ b, nar .byte ((i0 >>> ((8 : Int32) &&& 31)).toInt8.toInt32) = b := ⟨_, rfl⟩
  obtain ⟨b2, hb2⟩ : ∃ b, nar .byte ((i0 >>> ((16 : Int32) &&& 31)).toInt8.toInt32) = b := ⟨_, rfl⟩
  obtain ⟨b3, hb3⟩ : ∃ b, nar .byte ((i0 >>> ((24 : Int32) &&& 31)).toInt8.toInt32) = b := ⟨_, rfl⟩
  have HR : ∀ k : Nat, own_B b0 b1 b2 b3 k < 128 := fun k => match k with | 0 => own_byte _ _ hb0 | 1 => own_byte _ _ hb1 | 2 => own_byte _ _ hb2 | k + 3 => own_byte _ _ hb3
  have hmet : Met l s tables_1 x code maxLocals ret room_1 #[(.int i0), (.int i1), (.int i2)] s.heap (own_Q1 s.heap.size) := by
    by_cases c0 : own_okv (0 : Int32) f u b0 = (0 : Int32)
    · exact own_law_0 l s _ hw i0 i1 i2 f u b0 b1 b2 b3 va vc s.heap s.heap.size (Nat.le_refl _) SV AV SZ HV hfe hue hf0 hu4 hb0 hb1 hb2 hb3 HR (own_bad_of f u b0 b1 b2 b3 0 (by decide) c0) c0
    by_cases c1 : own_okv (1 : Int32) f u b1 = (0 : Int32)
    · exact own_law_1 l s _ hw i0 i1 i2 f u b0 b1 b2 b3 va vc s.heap s.heap.size (Nat.le_refl _) SV AV SZ HV hfe hue hf0 hu4 hb0 hb1 hb2 hb3 HR (own_bad_of f u b0 b1 b2 b3 1 (by decide) c1) c0 c1
    by_cases c2 : own_okv (2 : Int32) f u b2 = (0 : Int32)
    · exact own_law_2 l s _ hw i0 i1 i2 f u b0 b1 b2 b3 va vc s.heap s.heap.size (Nat.le_refl _) SV AV SZ HV hfe hue hf0 hu4 hb0 hb1 hb2 hb3 HR (own_bad_of f u b0 b1 b2 b3 2 (by decide) c2) c0 c1 c2
    by_cases c3 : own_okv (3 : Int32) f u b3 = (0 : Int32)
    · exact own_law_3 l s _ hw i0 i1 i2 f u b0 b1 b2 b3 va vc s.heap s.heap.size (Nat.le_refl _) SV AV SZ HV hfe hue hf0 hu4 hb0 hb1 hb2 hb3 HR (own_bad_of f u b0 b1 b2 b3 3 (by decide) c3) c0 c1 c2 c3
    refine own_law_4 l s _ hw i0 i1 i2 f u b0 b1 b2 b3 va vc s.heap s.heap.size (Nat.le_refl _) SV AV SZ HV hfe hue hf0 hu4 hb0 hb1 hb2 hb3 HR (fun q => ?_) c0 c1 c2 c3
    obtain ⟨k, hk, e⟩ := own_bad_to f u b0 b1 b2 b3 hf0 hu4 q
    match k, hk, e with
    | 0, _, e => exact c0 e
    | 1, _, e => exact c1 e
    | 2, _, e => exact c2 e
    | 3, _, e => exact c3 e
    | k + 4, hk, _ => exact absurd hk (by omega)
  obtain ⟨n, o, h1, h2, h3, _, L, rfl, ⟨rfl, N⟩, hq⟩ := hmet p e ha hc hk s m _ below hf ((Spec.applies_iff_loose hf).mp happ).1 ⟨rfl, State.Warmed39.refl s, rfl⟩ trivial
  refine ⟨n, _, h1, h2, h3, hpost _ _ _ _ _ _ ⟨Cond.after_iff.mpr rfl, Cond.after_iff.mpr (eq_i res_at (Term.int_eval (1)) rfl), trivial⟩ ⟨hq.1, hq.2.1, (hq.2.2.sift fun y hy => Or.inr (N y hy)).mono (by decide) (by decide)⟩⟩
theorem main_1_1 : Claimed_1_1 := comes_1 fun _ _ _ _ _ _ h hF => ⟨h.1, hF⟩
theorem main_1_2 : Claimed_1_2 := comes_1 fun _ _ _ _ _ _ h hF => ⟨h.2.1, hF⟩
end Jvm.Pilot.@@N@@
namespace Jvm.Pilot.@@N@@
open Jvm Jvm.ClassFile Sem Op Lib Jvm.Free Jvm.Stand Jvm.Pilot.@@N@@.Jvm.D
/-! MADE BY PROGRAM (witnessworld.py) out of the Statement's table words and the real class files: 10 classes; the members and pool entries that the words name. The judged class is class 1, her method 3. -/
namespace start1
open Jvm.ClassFile
def u (s : String) : CpInfo := .utf8 (stringToUtf16 s)
/-- a pool by its gaps: so many unusable entries, then the entry; so many at the end -/
def gap : Nat → List CpInfo → List CpInfo
  | 0, r => r
  | n + 1, r => .unusable :: gap n r
def poolList (es : List (Nat × CpInfo)) (last : Nat) : List CpInfo := es.foldr (fun e r => gap e.1 (e.2 :: r)) (gap last [])
def pool (es : List (Nat × CpInfo)) (last : Nat) : Array CpInfo := ⟨poolList es last⟩
def fileOf (pool : Array CpInfo) (this : Nat) (attrs : Array Attribute := #[]) (ms : Array MethodInfo := #[]) (fl : Nat := 33) (sup : Nat := 0) (ifs : Array Nat := #[]) (fds : Array FieldInfo := #[]) : ClassFile where
  minorVersion := 0
  majorVersion := 65
  constantPool := pool
  accessFlags := fl
  thisClass := this
  superClass := sup
  interfaces := ifs
  fields := fds
  methods := ms
  attributes := attrs
def plain (name : String) (sup : Option ClassId) : Class where
  name := name
  kind := .ordinary
  loader := none
  accessFlags := 33
  super := sup
  interfaces := #[]
  cf := none
  fields := #[]
  methods := #[]
  instanceTypes := #[]
  staticTypes := #[]
  resolved := #[]
  callSites := []
  init := .initialized
  statics := none
  mirror := none

def pool0 : Array CpInfo := pool [(5, u "<init>"), (0, u "()V"), (1, .class_ 10), (1, u "java/lang/Object")] 113

def k0m0 : Method := { name := "<init>", desc := "()V", sig := { parameters := [], returnType := none }, accessFlags := 1, code := none }
/-- java/lang/Object -/
def k0 : Class := { plain "java/lang/Object" none with
  accessFlags := 33
  interfaces := #[]
  cf := some (fileOf pool0 8 #[] #[{ accessFlags := 1, nameIndex := 5, descriptorIndex := 6, attributes := #[] }] 33 0 #[] #[])
  fields := #[]
  methods := #[k0m0]
  instanceTypes := #[]
  staticTypes := #[]
  resolved := Array.replicate 124 none
  statics := none }

def pool1 : Array CpInfo := pool [(2, .class_ 4), (1, u "java/lang/Object"), (0, u "<init>"), (0, u "()V"), (0, .methodref 8 9), (0, .class_ 10), (0, .nameAndType 11 12), (0, u "org/antichain/core/EventIdIsLowercaseHexPinLaw"), (0, u "hex"), (0, u "(B)Z"), (0, .integer 2147483647), (0, .methodref 8 15), (0, .nameAndType 16 17), (0, u "ok"), (0, u "([BIII)Z"), (0, .methodref 19 20), (0, .class_ 21), (0, .nameAndType 22 23), (0, u "org/antichain/core/EventId"), (0, u "isLowercaseHex"), (0, u "([BII)Z"), (3, u "law"), (0, u "(III)Z")] 4

def k1m0 : Method := { name := "<init>", desc := "()V", sig := { parameters := [], returnType := none }, accessFlags := 1, code := none }
def k1c1 : Code := { maxStack := 2, maxLocals := 1, code := method_2_code, exceptionTable := #[], attributes := #[] }
def k1m1 : Method := { name := "hex", desc := "(B)Z", sig := { parameters := [.byte], returnType := some .boolean }, accessFlags := 10, code := some k1c1 }
def k1c2 : Code := { maxStack := 2, maxLocals := 4, code := method_3_code, exceptionTable := #[], attributes := #[] }
def k1m2 : Method := { name := "ok", desc := "([BIII)Z", sig := { parameters := [(.array .byte), .int, .int, .int], returnType := some .boolean }, accessFlags := 10, code := some k1c2 }
def k1c3 : Code := { maxStack := 4, maxLocals := 7, code := code, exceptionTable := #[], attributes := #[] }
def k1m3 : Method := { name := "law", desc := "(III)Z", sig := { parameters := [.int, .int, .int], returnType := some .boolean }, accessFlags := 9, code := some k1c3 }
/-- org/antichain/core/EventIdIsLowercaseHexPinLaw -/
def k1 : Class := { plain "org/antichain/core/EventIdIsLowercaseHexPinLaw" (some 0) with
  accessFlags := 49
  interfaces := #[]
  cf := some (fileOf pool1 8 #[] #[{ accessFlags := 1, nameIndex := 5, descriptorIndex := 6, attributes := #[] }, { accessFlags := 10, nameIndex := 11, descriptorIndex := 12, attributes := #[] }, { accessFlags := 10, nameIndex := 16, descriptorIndex := 17, attributes := #[] }, { accessFlags := 9, nameIndex := 27, descriptorIndex := 28, attributes := #[] }] 49 2 #[] #[])
  fields := #[]
  methods := #[k1m0, k1m1, k1m2, k1m3]
  instanceTypes := #[]
  staticTypes := #[]
  resolved := Array.replicate 33 none
  statics := none }

def pool2 : Array CpInfo := pool [(1, .class_ 2), (0, u "java/lang/Comparable"), (0, .class_ 4), (0, u "java/lang/Object")] 7

/-- java/lang/Comparable -/
def k2 : Class := { plain "java/lang/Comparable" (some 0) with
  accessFlags := 1537
  interfaces := #[]
  cf := some (fileOf pool2 1 #[] #[] 1537 3 #[] #[])
  fields := #[]
  methods := #[]
  instanceTypes := #[]
  staticTypes := #[]
  resolved := Array.replicate 12 none
  statics := none }

def pool3 : Array CpInfo := pool [(2, .class_ 4), (1, u "java/lang/Object"), (3, .class_ 10), (1, u "org/antichain/core/EventId"), (0, u "hash"), (0, u "[B"), (4, u "leading"), (0, u "J"), (29, .methodref 8 49), (0, .nameAndType 50 51), (0, u "digit"), (0, u "(I)I"), (21, .fieldref 8 74), (0, .nameAndType 75 12), (0, u "VALUES"), (17, u "HEX"), (0, u "Ljava/util/HexFormat;"), (8, u "DIGITS"), (39, .class_ 144), (0, u "java/lang/Comparable"), (0, u "BYTES"), (0, u "I"), (14, u "isLowercaseHex"), (0, u "([BII)Z")] 29

def k3c0 : Code := { maxStack := 3, maxLocals := 5, code := prog_20_method_8_code, exceptionTable := #[], attributes := #[] }
def k3m0 : Method := { name := "isLowercaseHex", desc := "([BII)Z", sig := { parameters := [(.array .byte), .int, .int], returnType := some .boolean }, accessFlags := 8, code := some k3c0 }
def k3c1 : Code := { maxStack := 2, maxLocals := 1, code := prog_20_method_9_code, exceptionTable := #[], attributes := #[] }
def k3m1 : Method := { name := "digit", desc := "(I)I", sig := { parameters := [.int], returnType := some .int }, accessFlags := 10, code := some k3c1 }
/-- org/antichain/core/EventId -/
def k3 : Class := { plain "org/antichain/core/EventId" (some 0) with
  accessFlags := 49
  interfaces := #[2]
  cf := some (fileOf pool3 8 #[] #[{ accessFlags := 8, nameIndex := 161, descriptorIndex := 162, attributes := #[] }, { accessFlags := 10, nameIndex := 50, descriptorIndex := 51, attributes := #[] }] 49 2 #[143] #[{ accessFlags := 25, nameIndex := 145, descriptorIndex := 146, attributes := #[] }, { accessFlags := 26, nameIndex := 93, descriptorIndex := 94, attributes := #[] }, { accessFlags := 26, nameIndex := 103, descriptorIndex := 12, attributes := #[] }, { accessFlags := 26, nameIndex := 75, descriptorIndex := 12, attributes := #[] }, { accessFlags := 18, nameIndex := 11, descriptorIndex := 12, attributes := #[] }, { accessFlags := 18, nameIndex := 17, descriptorIndex := 18, attributes := #[] }])
  fields := #[{ name := "BYTES", type := .int, accessFlags := 25, slot := 0, constantValue := 0 }, { name := "HEX", type := (.object "java/util/HexFormat"), accessFlags := 26, slot := 1, constantValue := 0 }, { name := "DIGITS", type := (.array .byte), accessFlags := 26, slot := 2, constantValue := 0 }, { name := "VALUES", type := (.array .byte), accessFlags := 26, slot := 3, constantValue := 0 }, { name := "hash", type := (.array .byte), accessFlags := 18, slot := 0, constantValue := 0 }, { name := "leading", type := .long, accessFlags := 18, slot := 1, constantValue := 0 }]
  methods := #[k3m0, k3m1]
  instanceTypes := #[(.array .byte), .long]
  staticTypes := #[.int, (.object "java/util/HexFormat"), (.array .byte), (.array .byte)]
  resolved := Array.replicate 192 none
  statics := some 0 }

def pool4 : Array CpInfo := pool [(1, u "java/lang/Cloneable"), (0, .class_ 1), (0, u "java/lang/Object"), (0, .class_ 3)] 3

/-- java/lang/Cloneable -/
def k4 : Class := { plain "java/lang/Cloneable" (some 0) with
  accessFlags := 1537
  interfaces := #[]
  cf := some (fileOf pool4 2 #[] #[] 1537 4 #[] #[])
  fields := #[]
  methods := #[]
  instanceTypes := #[]
  staticTypes := #[]
  resolved := Array.replicate 8 none
  statics := none }

def pool5 : Array CpInfo := pool [(1, u "java/io/Serializable"), (0, .class_ 1), (0, u "java/lang/Object"), (0, .class_ 3)] 3

/-- java/io/Serializable -/
def k5 : Class := { plain "java/io/Serializable" (some 0) with
  accessFlags := 1537
  interfaces := #[]
  cf := some (fileOf pool5 2 #[] #[] 1537 4 #[] #[])
  fields := #[]
  methods := #[]
  instanceTypes := #[]
  staticTypes := #[]
  resolved := Array.replicate 8 none
  statics := none }

/-- the primitive byte -/
def k6 : Class := { plain "byte" none with kind := .primitive 'B', accessFlags := 0x411 }
/-- [B -/
def k7 : Class := { plain "[B" (some 0) with kind := .array 6 .byte, interfaces := #[4, 5], accessFlags := 1041 }

/-- the primitive int -/
def k8 : Class := { plain "int" none with kind := .primitive 'I', accessFlags := 0x411 }
/-- [I -/
def k9 : Class := { plain "[I" (some 0) with kind := .array 8 .int, interfaces := #[4, 5], accessFlags := 1041 }

def heap : Heap := #[{ cls := 3, slots := #[.int 0, .null, .null, .ref 1], vm := .statics 3 },
  { cls := 7, slots := #[.int (-1), .int (-1), .int (-1), .int (-1), .int (-1), .int (-1), .int (-1), .int (-1), .int (-1), .int (-1), .int (-1), .int (-1), .int (-1), .int (-1), .int (-1), .int (-1), .int (-1), .int (-1), .int (-1), .int (-1), .int (-1), .int (-1), .int (-1), .int (-1), .int (-1), .int (-1), .int (-1), .int (-1), .int (-1), .int (-1), .int (-1), .int (-1), .int (-1), .int (-1), .int (-1), .int (-1), .int (-1), .int (-1), .int (-1), .int (-1), .int (-1), .int (-1), .int (-1), .int (-1), .int (-1), .int (-1), .int (-1), .int (-1), .int (0), .int (1), .int (2), .int (3), .int (4), .int (5), .int (6), .int (7), .int (8), .int (9), .int (-1), .int (-1), .int (-1), .int (-1), .int (-1), .int (-1), .int (-1), .int (-1), .int (-1), .int (-1), .int (-1), .int (-1), .int (-1), .int (-1), .int (-1), .int (-1), .int (-1), .int (-1), .int (-1), .int (-1), .int (-1), .int (-1), .int (-1), .int (-1), .int (-1), .int (-1), .int (-1), .int (-1), .int (-1), .int (-1), .int (-1), .int (-1), .int (-1), .int (-1), .int (-1), .int (-1), .int (-1), .int (-1), .int (-1), .int (10), .int (11), .int (12), .int (13), .int (14), .int (15), .int (-1), .int (-1), .int (-1), .int (-1), .int (-1), .int (-1), .int (-1), .int (-1), .int (-1), .int (-1), .int (-1), .int (-1), .int (-1), .int (-1), .int (-1), .int (-1), .int (-1), .int (-1), .int (-1), .int (-1), .int (-1), .int (-1), .int (-1), .int (-1), .int (-1)], vm := .none }]
def classes : Array Class := #[k0, k1, k2, k3, k4, k5, k6, k7, k8, k9]
def interned : List (Array UInt16 × Addr) := []
def slotsUsed : Nat := 132
def theMethod : MethodId := ⟨1, 3⟩
def args0 : Array Value := #[.int 5, .int 1, .int 3]
def aboutOver (below : List Frame) : State where
  vm := { classes := classes, interned := interned.toArray }
  heap := heap
  slotsUsed := slotsUsed
  threads := #[{ frames := .invoking theMethod args0 :: below }]
def below0 : List Frame := [.native { method := ⟨0, 0⟩, args := #[] }]
def about1 : State := aboutOver below0
def p0 : Program := .bare "" "" ""
def e0 : Env := launch0.env 0 0 0
theorem w_frames : about1.frames = Frame.invoking theMethod args0 :: below0 := rfl
set_option maxRecDepth 65536 in
theorem w_args : argsFit about1.vm theMethod args0 = true := by decide +kernel
set_option maxRecDepth 65536 in
theorem w_heap : heapFits about1 = true := by decide +kernel
set_option maxRecDepth 65536 in
theorem w_runnable : about1.curStatus? = some .runnable := by decide +kernel
set_option maxRecDepth 65536 in
theorem w_alone : about1.alone = true := by decide +kernel
set_option maxRecDepth 65536 in
theorem w_named : about1.methodNamed? x = some theMethod := by decide +kernel
set_option maxRecDepth 65536 in
theorem w_hears : about1.hears theMethod below0 = true := by decide +kernel
set_option maxRecDepth 65536 in
theorem w_ripe : about1.ripe theMethod args0 below0 = true := by decide +kernel
theorem w_running : about1.status = .running := rfl
set_option maxRecDepth 65536 in
theorem w_room : about1.hasRoom e0.platform room_1 = true :=
  launch0.hasRoom_least _ room_1 (by decide +kernel) (by decide +kernel) (by decide +kernel) (by decide +kernel) (by decide +kernel) (by decide +kernel)
theorem allAtoms_all (ts : List Jvm.Cond) (a : Array Jvm.Value) (st : Jvm.State) : (allAtoms ts).before a st = ts.all (fun c => c.before a st) := by
  induction ts with
  | nil => rfl
  | cons c t ih =>
    show (Jvm.Cond.and c (allAtoms t)).before a st = _
    rw [Jvm.Cond.before_and, ih, List.all_cons]
def words1 : List Jvm.Cond := Jvm.Cond.code x code maxLocals ret :: tables_1
/-- a 'code' word, met by the world's own term for the bytes: nothing is compared byte by byte -/
theorem code_word {y : MethodName} {bytes : ByteArray} {mx : Nat} {rt : Option FieldType} {a : Array Value} {s : State} {m : MethodId} {meth : Method} {c : Code} (h1 : s.methodNamed? y = some m) (h2 : s.vm.method? m = some meth) (h3 : meth.code = some c) (h4 : c.code = bytes)
    (h5 : (c.maxLocals == mx && c.exceptionTable.isEmpty && decide (c.maxStack ≤ mostOperands) && decide (meth.sig.returnType = rt) && !meth.locks && decide (parseMethodDescriptor y.desc = some meth.sig)) = true) : (Jvm.Cond.code y bytes mx rt).before a s = true := by
  simp only [Bool.and_eq_true, beq_iff_eq, Bool.not_eq_true', decide_eq_true_eq] at h5
  obtain ⟨⟨⟨⟨⟨g1, g2⟩, g3⟩, g4⟩, g5⟩, g6⟩ := h5
  simp [Cond.before, Cond.holds, Cond.value, h1, h2, h3, h4, g1, g2, g3, g4, g5, g6]
def isCode : Jvm.Cond → Bool
  | .code _ _ _ _ => true
  | _ => false
theorem all_split {L : List Jvm.Cond} {P : Jvm.Cond → Bool} (h1 : L.all (fun c => isCode c || P c) = true) (h2 : ∀ c ∈ L.filter isCode, P c = true) : L.all P = true := by
  refine List.all_eq_true.mpr fun c hc => ?_
  have h := List.all_eq_true.mp h1 c hc
  rcases Bool.eq_false_or_eq_true (isCode c) with hi | hi
  · exact h2 c (List.mem_filter.mpr ⟨hc, hi⟩)
  · simpa [hi] using h
set_option maxRecDepth 65536 in
theorem w_c0 : (Jvm.Cond.code x code maxLocals ret).before args0 about1 = true := code_word (m := ⟨1, 3⟩) (meth := k1m3) (c := k1c3) (by decide +kernel) rfl rfl rfl (by decide +kernel)
set_option maxRecDepth 65536 in
theorem w_c1 : (Jvm.Cond.code ({ cls := "org/antichain/core/EventIdIsLowercaseHexPinLaw", name := "ok", desc := "([BIII)Z" } : Jvm.MethodName) method_3_code (4 : Nat) (Option.some Jvm.ClassFile.FieldType.boolean)).before args0 about1 = true := code_word (m := ⟨1, 2⟩) (meth := k1m2) (c := k1c2) (by decide +kernel) rfl rfl rfl (by decide +kernel)
set_option maxRecDepth 65536 in
theorem w_c2 : (Jvm.Cond.code ({ cls := "org/antichain/core/EventId", name := "isLowercaseHex", desc := "([BII)Z" } : Jvm.MethodName) prog_20_method_8_code (5 : Nat) (Option.some Jvm.ClassFile.FieldType.boolean)).before args0 about1 = true := code_word (m := ⟨3, 0⟩) (meth := k3m0) (c := k3c0) (by decide +kernel) rfl rfl rfl (by decide +kernel)
set_option maxRecDepth 65536 in
theorem w_c3 : (Jvm.Cond.code ({ cls := "org/antichain/core/EventIdIsLowercaseHexPinLaw", name := "hex", desc := "(B)Z" } : Jvm.MethodName) method_2_code (1 : Nat) (Option.some Jvm.ClassFile.FieldType.boolean)).before args0 about1 = true := code_word (m := ⟨1, 1⟩) (meth := k1m1) (c := k1c1) (by decide +kernel) rfl rfl rfl (by decide +kernel)
set_option maxRecDepth 65536 in
theorem w_c4 : (Jvm.Cond.code ({ cls := "org/antichain/core/EventId", name := "digit", desc := "(I)I" } : Jvm.MethodName) prog_20_method_9_code (1 : Nat) (Option.some Jvm.ClassFile.FieldType.int)).before args0 about1 = true := code_word (m := ⟨3, 1⟩) (meth := k3m1) (c := k3c1) (by decide +kernel) rfl rfl rfl (by decide +kernel)
def codes1 : List Jvm.Cond := [Jvm.Cond.code x code maxLocals ret, Jvm.Cond.code ({ cls := "org/antichain/core/EventIdIsLowercaseHexPinLaw", name := "ok", desc := "([BIII)Z" } : Jvm.MethodName) method_3_code (4 : Nat) (Option.some Jvm.ClassFile.FieldType.boolean), Jvm.Cond.code ({ cls := "org/antichain/core/EventId", name := "isLowercaseHex", desc := "([BII)Z" } : Jvm.MethodName) prog_20_method_8_code (5 : Nat) (Option.some Jvm.ClassFile.FieldType.boolean), Jvm.Cond.code ({ cls := "org/antichain/core/EventIdIsLowercaseHexPinLaw", name := "hex", desc := "(B)Z" } : Jvm.MethodName) method_2_code (1 : Nat) (Option.some Jvm.ClassFile.FieldType.boolean), Jvm.Cond.code ({ cls := "org/antichain/core/EventId", name := "digit", desc := "(I)I" } : Jvm.MethodName) prog_20_method_9_code (1 : Nat) (Option.some Jvm.ClassFile.FieldType.int)]
set_option maxRecDepth 65536 in
theorem codes_eq : words1.filter isCode = codes1 := rfl
theorem w_codes : ∀ c ∈ words1.filter isCode, c.before args0 about1 = true := by
  rw [codes_eq]
  intro c hc
  simp only [codes1, List.mem_cons, List.not_mem_nil, or_false] at hc
  rcases hc with rfl | rfl | rfl | rfl | rfl
  · exact w_c0
  · exact w_c1
  · exact w_c2
  · exact w_c3
  · exact w_c4
set_option maxRecDepth 65536 in
theorem w_t1 : words1.all (fun c => isCode c || c.before args0 about1) = true := by decide +kernel
theorem w_tables : (allAtoms (Jvm.Cond.code x code maxLocals ret :: tables_1)).before args0 about1 = true := by
  rw [allAtoms_all]
  show words1.all (fun c => c.before args0 about1) = true
  refine all_split ?_ w_codes
  rw [w_t1]
set_option maxRecDepth 65536 in
theorem w_case : (Jvm.Cond.and given_1 narrow_1).before args0 about1 = true := by decide +kernel
theorem w_applies : (headSpec (Jvm.Cond.code x code maxLocals ret :: tables_1) room_1).applies x e0.platform about1 = true :=
  (Spec.applies_iff w_frames).mpr ⟨w_running, w_runnable, w_alone, w_named, w_hears, w_ripe, w_room, w_tables⟩
theorem atStart : AtStart classFile x code maxLocals ret World_1 tables_1 room_1 Calls_1 rest_1 Pre_1 launch0 p0 e0 about1 theMethod args0 below0 :=
  ⟨lists_1, trivial, launch0.admits_env _ _ _, launch0.least_env, fairChoices_fair.cas, fairChoices_fair.clock, w_frames, w_args, w_heap, w_applies, trivial, trivial, w_case⟩
end start1
theorem witness_1 : WitnessClaimed_1 := ⟨start1.p0, start1.e0, start1.about1, start1.theMethod, start1.args0, start1.below0, start1.atStart⟩
end Jvm.Pilot.@@N@@
