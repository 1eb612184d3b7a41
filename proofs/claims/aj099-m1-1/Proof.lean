import JvmDerived
import JvmDerived.Pilot.@@N@@Statement
import JvmDerived.Pilot.@@N@@Code
set_option linter.unusedVariables false
set_option linter.unusedSimpArgs false
namespace Jvm.RoadKit
open Sem ClassFile Op Lib Jvm.Stand Jvm.Free Jvm.LawKit
section New
variable {p : Program} {l : Launch} {e : Env} {R : Room} {s : State} {m : MethodId} {args : Array Value} {below : List Frame} {meth : Method} {c : Code} {T : State} {locs : List Loc} {cells slots : Nat}
theorem retI (X : Stand p l e R s m args below meth c T locs cells slots) (hx : p.tables.exec = Jvm.exec) {pc : Nat} {Ls : Array Slot} {z : Int32} {rest : List Value} (hret : meth.sig.returnType = some .int) (hd : decode c.code pc = .ok (.ireturn, 1)) {fs : List Frame}
    (hl : ∀ (f : JFrame) (acts : List Action), f.method = m → f.locked = none → f.entered = [] → (doReturn e (T.setTop f) acts (some (.int z))).1 = T.setFrames fs) : Steps p.tables e below (T.setTop (mkF m pc Ls (.int z :: rest))) (T.setFrames fs) := by
  have hm' : T.vm.method? m = some meth := X.method'
  have hn : narrow .int (.int z) = .int z := rfl
  show Steps p.tables e below (T.setTop { method := m, pc := pc, locals := Ls, stack := _ :: rest, locked := none }) _
  jvm_step X.here [X.here.top, hx, hd, hm', hret, hn]
  first | (intro acts; rw [hl _ acts rfl rfl rfl]) | rw [hl _ _ rfl rfl rfl]
  exact Steps.refl _
end New
theorem own_sta_keep {Z : State} {h h' : Heap} {C n d : String} {w : Value} {ws : List Addr} (F : Sta Z h C n d w) (K : Keep h h' ws) (q : ∀ x ∈ ws, ∃ c : Cell, h[x]? = some c ∧ c.vm.isStatics = false) : Sta Z h' C n d w := by
  obtain ⟨cf, i, k, f, st, cell, h1, h2, h3, h4, h5, h6, h7⟩ := F
  refine ⟨cf, i, k, f, st, cell, h1, h2, h3, h4, K.2.1 st cell h5 (fun hm => ?_), h6, h7⟩
  obtain ⟨c, g1, g2⟩ := q st hm
  cases h5.symm.trans g1
  rw [h6] at g2; cases g2
theorem own_exa_ns {Z : State} {h : Heap} {a : Addr} {C : String} (F : Exa Z h a C) : ∃ c : Cell, h[a]? = some c ∧ c.vm.isStatics = false := by
  obtain ⟨cell, k, h1, -, -, h4, -⟩ := F
  exact ⟨cell, h1, h4⟩
theorem own_arv_ns {Z : State} {h : Heap} {a : Addr} {k : ClassId} {ty : FieldType} {z : Int32} {vs : List Value} {d : Value} (F : Arv Z h a k ty z vs d) : ∃ c : Cell, h[a]? = some c ∧ c.vm.isStatics = false := by
  obtain ⟨cell, A, -⟩ := F
  exact ⟨cell, A.1, A.plain⟩
theorem own_arv {Z : State} {h : Heap} {a : Addr} {k : ClassId} {ty : FieldType} {z : Int32} {vs : List Value} {d : Value} (F : Arh Z h a k ty z [] vs d) : Arv Z h a k ty z vs d := F
theorem own_eqv {Z : State} {args : Array Value} {t u : Term} {v : Value} (hv : (∃ k, v = .int k) ∨ ∃ a, v = .ref a) (hu : u.eval args Z none [] Z = some v) (h : (Jvm.Cond.eq t u).value args Z none Z [] = some true) : t.eval args Z none [] Z = some v := by
  simp only [Jvm.Cond.value, hu] at h
  cases ht : t.eval args Z none [] Z with
  | none => simp [ht] at h
  | some x => rcases hv with ⟨k, rfl⟩ | ⟨a, rfl⟩ <;> cases x <;> simp [ht] at h ⊢ <;> exact h
theorem own_len {Z : State} {args : Array Value} {t : Term} {a : Addr} {cl : Cell} {ty : FieldType} {z : Int32} (ev : t.eval args Z none [] Z = some (.ref a)) (A : Arr Z Z.heap a cl ty) (h : (Term.length t).eval args Z none [] Z = some (.int z)) : cl.slots.size < 2 ^ 31 ∧ cl.slots.size.toInt32 = z := by
  obtain ⟨a', cell, ha', hat, hv⟩ := Term.length_spec h
  cases ev.symm.trans ha'
  cases A.1.symm.trans (State.arrayAt?_spec hat).1
  cases hv
  refine ⟨?_, rfl⟩
  by_cases q : cl.slots.size < 2 ^ 31
  · exact q
  · exfalso
    simp [Term.eval, ev, hat, q] at h
end Jvm.RoadKit
namespace Jvm.Pilot.@@N@@
open Jvm Jvm.ClassFile Sem Op Lib Jvm.Free Jvm.Stand Jvm.LawKit Jvm.RoadKit Bundle Jvm.Pilot.@@N@@.Jvm.D
theorem d8_0 : decode jdk_41_method_11_code 0 = .ok (.iload_n 0, 1) := by decide +kernel
theorem d8_1 : decode jdk_41_method_11_code 1 = .ok (.ifCond .lt 8, 3) := by decide +kernel
theorem d8_4 : decode jdk_41_method_11_code 4 = .ok (.iload_n 0, 1) := by decide +kernel
theorem d8_5 : decode jdk_41_method_11_code 5 = .ok (.iload_n 1, 1) := by decide +kernel
theorem d8_6 : decode jdk_41_method_11_code 6 = .ok (.if_icmp .lt 10, 3) := by decide +kernel
theorem d8_16 : decode jdk_41_method_11_code 16 = .ok (.iload_n 0, 1) := by decide +kernel
theorem d8_17 : decode jdk_41_method_11_code 17 = .ok (.ireturn, 1) := by decide +kernel
theorem pn0 : plainName "jdk/internal/util/Preconditions" = true := by first | (simp [plainName, overriddenIn]; done) | decide +kernel
theorem ef8 (m : MethodId) (p1 : Int32) (p2 : Int32) (v3 : Value) (hv3 : v3.category = 1) : entryFrame m #[(.int p1), (.int p2), v3] 3 = (mkF m 0 #[.val (.int p1), .val (.int p2), .val v3] []) := by
  cases v3 <;> first | (exfalso; revert hv3; decide) | (exfalso; exact absurd hv3 (by show ¬ (2 = 1); decide)) | (simp [entryFrame, mkF, argsToLocals, Value.category]; done) | rfl
def Q8 (Z : State) (p1 : Int32) (p2 : Int32) (v3 : Value) (h0 : Heap) (n0 : Nat) (v : Option Value) (h : Heap) (L : List Loc) : Prop := v = some (.int p1) ∧ L = [] ∧ h = h0
set_option maxRecDepth 65536 in
set_option maxHeartbeats 40000000 in
theorem rm8 (l : Launch) (Z : State) (a0 : Array Value) (hw : ∀ d ∈ tables_1, d.before a0 Z = true) (ws : List Jvm.Cond) (p1 : Int32) (p2 : Int32) (v3 : Value) (h0 : Heap) (n0 : Nat) (Z0 : n0 ≤ h0.size) (hrv : v3.isRef = true) (hc1 : ¬ (p1 < (0 : Int32))) (hc6 : p1 < p2) :
    MetFree l (⟨"jdk/internal/util/Preconditions", "checkIndex", "(IILjava/util/function/BiFunction;)I"⟩ : MethodName) (head1 (Jvm.Cond.code (⟨"jdk/internal/util/Preconditions", "checkIndex", "(IILjava/util/function/BiFunction;)I"⟩ : MethodName) jdk_41_method_11_code 3 (some .int) :: ws) ({ frames := 0, cells := 0, slots := 0, locals := 0 } : Room)) (fun a U => a = #[(.int p1), (.int p2), v3] ∧ Z.Warmed39 U.vm ∧ U.heap = h0) (fun _ _ _ _ _ => True) (fun _ U o U' => ∃ v L, o = .returned v ∧ Q8 Z p1 p2 v3 h0 n0 v U'.heap L ∧ FrameEnd U o U' L ({ frames := 0, cells := 0, slots := 0, locals := 0 } : Room).cells ({ frames := 0, cells := 0, slots := 0, locals := 0 } : Room).slots) := by
  refine MetFree.of_bodySF (plainFor_of_name pn0) hisR ?_
  intro p e s m args below meth c s₁ Bd hml0 hP hK
  obtain ⟨rfl, hZ, hh⟩ := hP
  have hx := Bd.exec
  have hby := Bd.bytes
  have hml : c.maxLocals = 3 := hml0
  have hown : s.vm.findClass "jdk/internal/util/Preconditions" = some m.cls := findClass_of_methodNamed Bd.named
  have hnm := (name_of_methodNamed Bd.named Bd.method).1
  have X0 : Stand p l e ({ frames := 0, cells := 0, slots := 0, locals := 0 } : Room) s m #[(.int p1), (.int p2), v3] below meth c s₁ [] 0 0 := Stand.of_body Bd
  have e0 : s₁.heap = h0 := by rw [← hh, Bd.state]; rfl
  have N0 := Fr.nil n0
  have pre0 : ∀ t, Steps p.tables e below (s₁.setTop (mkF m 0 #[.val (.int p1), .val (.int p2), .val v3] [])) t → Steps p.tables e below (s₁.setTop (entryFrame m #[(.int p1), (.int p2), v3] 3)) t := fun t k => castTop (ef8 m p1 p2 v3 (Jvm.Free.XT.cat1 hrv)) k
  obtain ⟨fs, hr, hrun, hended, hW, hsame⟩ := X0.leave (v := some (.int p1)) (fun h => by rw [Bd.returns] at h; cases h)
  refine ⟨_, _, pre0 _ ?_, hrun, hended, _, _, rfl, ?_, ⟨_, rfl⟩, hW, hsame.mono (by decide) (by decide)⟩
  · show Steps p.tables e below (s₁.setTop (mkF m 0 #[.val (.int p1), .val (.int p2), .val v3] [])) _
    refine XS.iloadN X0.here hx rfl (hb hby d8_0) rfl ?_
    show Steps p.tables e below (s₁.setTop (mkF m 1 #[.val (.int p1), .val (.int p2), .val v3] [(.int p1)])) _
    refine XS.ifNo X0.here hx rfl (hb hby d8_1) rfl ((if0 _ _).trans (flt hc1).1) ?_
    show Steps p.tables e below (s₁.setTop (mkF m 4 #[.val (.int p1), .val (.int p2), .val v3] [])) _
    refine XS.iloadN X0.here hx rfl (hb hby d8_4) rfl ?_
    show Steps p.tables e below (s₁.setTop (mkF m 5 #[.val (.int p1), .val (.int p2), .val v3] [(.int p1)])) _
    refine XS.iloadN X0.here hx rfl (hb hby d8_5) rfl ?_
    show Steps p.tables e below (s₁.setTop (mkF m 6 #[.val (.int p1), .val (.int p2), .val v3] [(.int p2), (.int p1)])) _
    refine XS.icmpYes X0.here hx rfl (pc0 := 6) (pc' := 16) rfl (hb hby d8_6) rfl (tlt hc6).1 (by decide) (by decide) ?_
    show Steps p.tables e below (s₁.setTop (mkF m 16 #[.val (.int p1), .val (.int p2), .val v3] [])) _
    refine XS.iloadN X0.here hx rfl (hb hby d8_16) rfl ?_
    show Steps p.tables e below (s₁.setTop (mkF m 17 #[.val (.int p1), .val (.int p2), .val v3] [(.int p1)])) _
    exact retI X0 hx Bd.returns (hb hby d8_17) hr
  · show Q8 Z p1 p2 v3 h0 n0 _ s₁.heap _
    rw [e0]
    exact ⟨rfl, rfl, rfl⟩
theorem d7_0 : decode jdk_42_method_155_code 0 = .ok (.iload_n 0, 1) := by decide +kernel
theorem d7_1 : decode jdk_42_method_155_code 1 = .ok (.iload_n 1, 1) := by decide +kernel
theorem d7_2 : decode jdk_42_method_155_code 2 = .ok (.getstatic 1053, 3) := by decide +kernel
theorem d7_5 : decode jdk_42_method_155_code 5 = .ok (.invokestatic 1059, 3) := by decide +kernel
theorem d7_8 : decode jdk_42_method_155_code 8 = .ok (.pop, 1) := by decide +kernel
theorem d7_9 : decode jdk_42_method_155_code 9 = .ok (.return_, 1) := by decide +kernel
theorem pd0 : parseMethodDescriptor "(IILjava/util/function/BiFunction;)I" = some ⟨[.int, .int, (.object "java/util/function/BiFunction")], some .int⟩ := by decide +kernel
theorem pn1 : plainName "java/lang/String" = true := by first | (simp [plainName, overriddenIn]; done) | decide +kernel
theorem ef7 (m : MethodId) (p1 : Int32) (p2 : Int32) : entryFrame m #[(.int p1), (.int p2)] 2 = (mkF m 0 #[.val (.int p1), .val (.int p2)] []) := by first | (simp [entryFrame, mkF, argsToLocals, Value.category]; done) | rfl
def Q7 (Z : State) (p1 : Int32) (p2 : Int32) (w_SIOOBE_FORMATTER : Value) (h0 : Heap) (n0 : Nat) (v : Option Value) (h : Heap) (L : List Loc) : Prop := v = none ∧ L = [] ∧ h = h0
set_option maxRecDepth 65536 in
set_option maxHeartbeats 40000000 in
theorem rm7 (l : Launch) (Z : State) (a0 : Array Value) (hw : ∀ d ∈ tables_1, d.before a0 Z = true) (ws : List Jvm.Cond) (p1 : Int32) (p2 : Int32) (w_SIOOBE_FORMATTER : Value) (h0 : Heap) (n0 : Nat) (Z0 : n0 ≤ h0.size) (S_SIOOBE_FORMATTER : Sta Z h0 "jdk/internal/util/Preconditions" "SIOOBE_FORMATTER" "Ljava/util/function/BiFunction;" w_SIOOBE_FORMATTER) (hSF : w_SIOOBE_FORMATTER.isRef = true) (hlo : ¬ (p1 < (0 : Int32))) (hhi : p1 < p2) :
    MetFree l (⟨"java/lang/String", "checkIndex", "(II)V"⟩ : MethodName) (head1 (Jvm.Cond.code (⟨"java/lang/String", "checkIndex", "(II)V"⟩ : MethodName) jdk_42_method_155_code 2 none :: ws) ({ frames := 1, cells := 0, slots := 0, locals := 14 } : Room)) (fun a U => a = #[(.int p1), (.int p2)] ∧ Z.Warmed39 U.vm ∧ U.heap = h0) (fun _ _ _ _ _ => True) (fun _ U o U' => ∃ v L, o = .returned v ∧ Q7 Z p1 p2 w_SIOOBE_FORMATTER h0 n0 v U'.heap L ∧ FrameEnd U o U' L ({ frames := 1, cells := 0, slots := 0, locals := 14 } : Room).cells ({ frames := 1, cells := 0, slots := 0, locals := 14 } : Room).slots) := by
  refine MetFree.of_bodySF (plainFor_of_name pn1) hisR ?_
  intro p e s m args below meth c s₁ Bd hml0 hP hK
  obtain ⟨rfl, hZ, hh⟩ := hP
  have hx := Bd.exec
  have hby := Bd.bytes
  have hml : c.maxLocals = 2 := hml0
  have hown : s.vm.findClass "java/lang/String" = some m.cls := findClass_of_methodNamed Bd.named
  have hnm := (name_of_methodNamed Bd.named Bd.method).1
  have X0 : Stand p l e ({ frames := 1, cells := 0, slots := 0, locals := 14 } : Room) s m #[(.int p1), (.int p2)] below meth c s₁ [] 0 0 := Stand.of_body Bd
  have e0 : s₁.heap = h0 := by rw [← hh, Bd.state]; rfl
  have N0 := Fr.nil n0
  have pre0 : ∀ t, Steps p.tables e below (s₁.setTop (mkF m 0 #[.val (.int p1), .val (.int p2)] [])) t → Steps p.tables e below (s₁.setTop (entryFrame m #[(.int p1), (.int p2)] 2)) t := fun t k => castTop (ef7 m p1 p2) k
  obtain ⟨T1, X1, e1, st1⟩ := getS2 X0 hx hZ hown (host := "") (Or.inl (hw _ (List.mem_of_getElem? (i := 46) rfl))) Via.refl e0 S_SIOOBE_FORMATTER (g := (mkF m 2 #[.val (.int p1), .val (.int p2)] [(.int p2), (.int p1)])) rfl (hb hby d7_2)
  obtain ⟨_, _, ⟨T2, L2, k2, n2⟩, -, X2, ⟨Lc2, hQ2, l2, y2, z2⟩, st2⟩ := Jvm.LawKit.callS X1 hx (y := (⟨"jdk/internal/util/Preconditions", "checkIndex", "(IILjava/util/function/BiFunction;)I"⟩ : MethodName)) hown (mvT hZ (hw _ (List.mem_of_getElem? (i := 48) rfl))) (mvT hZ (hw _ (List.mem_of_getElem? (i := 49) rfl))) (mvT hZ (hw _ (List.mem_of_getElem? (i := 47) rfl))) (mvT hZ (hw _ (List.mem_of_getElem? (i := 50) rfl))) (by decide) (backOf (W := 0) (rm8 l Z a0 hw [] p1 p2 w_SIOOBE_FORMATTER  h0 n0 (Nat.le_trans Z0 (Keep.refl h0 []).1)  (hSF : w_SIOOBE_FORMATTER.isRef = true) (hlo : ¬ (p1 < (0 : Int32))) (hhi : p1 < p2)) hZ (hw _ (List.mem_of_getElem? (i := 50) rfl)) (hw _ (List.mem_of_getElem? (i := 47) rfl)) (by decide) (by decide)) (g := (mkF m 5 #[.val (.int p1), .val (.int p2)] [w_SIOOBE_FORMATTER, (.int p2), (.int p1)])) rfl (by rw [hml]; rfl) (argsL := [(.int p1), (.int p2), w_SIOOBE_FORMATTER]) (rest := []) (lenOf pd0 rfl) rfl (by show 2 * 0 + _ ≤ _; exact Nat.le_of_eq rfl) (hb hby d7_5) (fun _ _ => ⟨rfl, e1, (by decide : 0 + 0 ≤ _), (by decide : 0 + 0 ≤ _)⟩)
  dsimp only [Pt.U, Pt.locs, Pt.cells, Pt.slots] at X2 l2 y2 z2 st2 hQ2
  subst l2 y2 z2
  obtain ⟨rfl, rfl, e2⟩ := hQ2
  have N2 := Fr.app N0 (Fr.nil n0)
  obtain ⟨fs, hr, hrun, hended, hW, hsame⟩ := X2.leave (v := none) (fun _ => rfl)
  refine ⟨_, _, pre0 _ ?_, hrun, hended, _, _, rfl, ?_, ⟨_, rfl⟩, hW, hsame.mono (by decide) (by decide)⟩
  · show Steps p.tables e below (s₁.setTop (mkF m 0 #[.val (.int p1), .val (.int p2)] [])) _
    refine XS.iloadN X0.here hx rfl (hb hby d7_0) rfl ?_
    show Steps p.tables e below (s₁.setTop (mkF m 1 #[.val (.int p1), .val (.int p2)] [(.int p1)])) _
    refine XS.iloadN X0.here hx rfl (hb hby d7_1) rfl ?_
    show Steps p.tables e below (s₁.setTop (mkF m 2 #[.val (.int p1), .val (.int p2)] [(.int p2), (.int p1)])) _
    refine st1 _ ?_
    show Steps p.tables e below (T1.setTop (mkF m 5 #[.val (.int p1), .val (.int p2)] [w_SIOOBE_FORMATTER, (.int p2), (.int p1)])) _
    refine st2 _ ?_
    show Steps p.tables e below (T2.setTop (mkF m 8 #[.val (.int p1), .val (.int p2)] [(.int p1)])) _
    refine XS.pop X2.here hx rfl (hb hby d7_8) rfl rfl ?_
    show Steps p.tables e below (T2.setTop (mkF m 9 #[.val (.int p1), .val (.int p2)] [])) _
    exact X2.returnOut hx Bd.returns (hb hby d7_9) hr
  · show Q7 Z p1 p2 w_SIOOBE_FORMATTER h0 n0 _ T2.heap _
    rw [e2]
    exact ⟨rfl, rfl, rfl⟩
theorem d6_0 : decode jdk_43_method_2_code 0 = .ok (.iload_n 1, 1) := by decide +kernel
theorem d6_1 : decode jdk_43_method_2_code 1 = .ok (.aload_n 0, 1) := by decide +kernel
theorem d6_2 : decode jdk_43_method_2_code 2 = .ok (.arraylength, 1) := by decide +kernel
theorem d6_3 : decode jdk_43_method_2_code 3 = .ok (.invokestatic 9, 3) := by decide +kernel
theorem d6_6 : decode jdk_43_method_2_code 6 = .ok (.aload_n 0, 1) := by decide +kernel
theorem d6_7 : decode jdk_43_method_2_code 7 = .ok (.iload_n 1, 1) := by decide +kernel
theorem d6_8 : decode jdk_43_method_2_code 8 = .ok (.baload, 1) := by decide +kernel
theorem d6_9 : decode jdk_43_method_2_code 9 = .ok (.sipush 255, 3) := by decide +kernel
theorem d6_12 : decode jdk_43_method_2_code 12 = .ok (.iand, 1) := by decide +kernel
theorem d6_13 : decode jdk_43_method_2_code 13 = .ok (.i2c, 1) := by decide +kernel
theorem d6_14 : decode jdk_43_method_2_code 14 = .ok (.ireturn, 1) := by decide +kernel
theorem pd1 : parseMethodDescriptor "(II)V" = some ⟨[.int, .int], none⟩ := by decide +kernel
theorem pn2 : plainName "java/lang/StringLatin1" = true := by first | (simp [plainName, overriddenIn]; done) | decide +kernel
theorem ef6 (m : MethodId) (a1 : Addr) : entryFrame m #[(.ref a1), (.int (0 : Int32))] 2 = (mkF m 0 #[.val (.ref a1), .val (.int (0 : Int32))] []) := by first | (simp [entryFrame, mkF, argsToLocals, Value.category]; done) | rfl
def Q6 (Z : State) (a1 : Addr) (ka : ClassId) (x0 : Int32) (x1 : Int32) (w_SIOOBE_FORMATTER : Value) (h0 : Heap) (n0 : Nat) (v : Option Value) (h : Heap) (L : List Loc) : Prop := v = some (.int (nar .char ((x0 &&& (255 : Int32)).toUInt32.toUInt16.toUInt32.toInt32))) ∧ L = [] ∧ h = h0
set_option maxRecDepth 65536 in
set_option maxHeartbeats 40000000 in
theorem rm6 (l : Launch) (Z : State) (a0 : Array Value) (hw : ∀ d ∈ tables_1, d.before a0 Z = true) (ws : List Jvm.Cond) (a1 : Addr) (ka : ClassId) (x0 : Int32) (x1 : Int32) (w_SIOOBE_FORMATTER : Value) (h0 : Heap) (n0 : Nat) (Z0 : n0 ≤ h0.size) (V_a1 : Arv Z h0 a1 ka .byte (2 : Int32) [(.int x0), (.int x1)] (.int (0 : Int32))) (S_SIOOBE_FORMATTER : Sta Z h0 "jdk/internal/util/Preconditions" "SIOOBE_FORMATTER" "Ljava/util/function/BiFunction;" w_SIOOBE_FORMATTER) (hSF : w_SIOOBE_FORMATTER.isRef = true) :
    MetFree l (⟨"java/lang/StringLatin1", "charAt", "([BI)C"⟩ : MethodName) (head1 (Jvm.Cond.code (⟨"java/lang/StringLatin1", "charAt", "([BI)C"⟩ : MethodName) jdk_43_method_2_code 2 (some .char) :: ws) ({ frames := 2, cells := 0, slots := 0, locals := 27 } : Room)) (fun a U => a = #[(.ref a1), (.int (0 : Int32))] ∧ Z.Warmed39 U.vm ∧ U.heap = h0) (fun _ _ _ _ _ => True) (fun _ U o U' => ∃ v L, o = .returned v ∧ Q6 Z a1 ka x0 x1 w_SIOOBE_FORMATTER h0 n0 v U'.heap L ∧ FrameEnd U o U' L ({ frames := 2, cells := 0, slots := 0, locals := 27 } : Room).cells ({ frames := 2, cells := 0, slots := 0, locals := 27 } : Room).slots) := by
  refine MetFree.of_bodySF (plainFor_of_name pn2) hisR ?_
  intro p e s m args below meth c s₁ Bd hml0 hP hK
  obtain ⟨rfl, hZ, hh⟩ := hP
  have hx := Bd.exec
  have hby := Bd.bytes
  have hml : c.maxLocals = 2 := hml0
  have hown : s.vm.findClass "java/lang/StringLatin1" = some m.cls := findClass_of_methodNamed Bd.named
  have hnm := (name_of_methodNamed Bd.named Bd.method).1
  have X0 : Stand p l e ({ frames := 2, cells := 0, slots := 0, locals := 27 } : Room) s m #[(.ref a1), (.int (0 : Int32))] below meth c s₁ [] 0 0 := Stand.of_body Bd
  have e0 : s₁.heap = h0 := by rw [← hh, Bd.state]; rfl
  have N0 := Fr.nil n0
  have pre0 : ∀ t, Steps p.tables e below (s₁.setTop (mkF m 0 #[.val (.ref a1), .val (.int (0 : Int32))] [])) t → Steps p.tables e below (s₁.setTop (entryFrame m #[(.ref a1), (.int (0 : Int32))] 2)) t := fun t k => castTop (ef6 m a1) k
  obtain ⟨cl_a1_2_1, Ar_a1_2_1, -, S_a1_2_1, N_a1_2_1, -, -⟩ := id V_a1
  obtain ⟨_, _, ⟨T2, L2, k2, n2⟩, -, X2, ⟨Lc2, hQ2, l2, y2, z2⟩, st2⟩ := Jvm.LawKit.callS X0 hx (y := (⟨"java/lang/String", "checkIndex", "(II)V"⟩ : MethodName)) hown (mvT hZ (hw _ (List.mem_of_getElem? (i := 43) rfl))) (mvT hZ (hw _ (List.mem_of_getElem? (i := 44) rfl))) (mvT hZ (hw _ (List.mem_of_getElem? (i := 27) rfl))) (mvT hZ (hw _ (List.mem_of_getElem? (i := 45) rfl))) (by decide) (backOf (W := 0) (rm7 l Z a0 hw [] (0 : Int32) (2 : Int32) w_SIOOBE_FORMATTER h0 n0 (Nat.le_trans Z0 (Keep.refl h0 []).1) S_SIOOBE_FORMATTER (hSF : w_SIOOBE_FORMATTER.isRef = true) (by decide : ¬ ((0 : Int32) < (0 : Int32))) (by decide : (0 : Int32) < (2 : Int32))) hZ (hw _ (List.mem_of_getElem? (i := 45) rfl)) (hw _ (List.mem_of_getElem? (i := 27) rfl)) (by decide) (by decide)) (g := (mkF m 3 #[.val (.ref a1), .val (.int (0 : Int32))] [(.int (2 : Int32)), (.int (0 : Int32))])) rfl (by rw [hml]; rfl) (argsL := [(.int (0 : Int32)), (.int (2 : Int32))]) (rest := []) (lenOf pd1 rfl) rfl (by show 2 * 0 + _ ≤ _; exact Nat.le_of_eq rfl) (hb hby d6_3) (fun _ _ => ⟨rfl, e0, (by decide : 0 + 0 ≤ _), (by decide : 0 + 0 ≤ _)⟩)
  dsimp only [Pt.U, Pt.locs, Pt.cells, Pt.slots] at X2 l2 y2 z2 st2 hQ2
  subst l2 y2 z2
  obtain ⟨rfl, rfl, e2⟩ := hQ2
  have N2 := Fr.app N0 (Fr.nil n0)
  obtain ⟨cl_a1_8_3, Ar_a1_8_3, q_a1_8_3, S_a1_8_3, N_a1_8_3, H_a1_8_3, G_a1_8_3⟩ := id V_a1
  have hin_a1_8_3 : ¬ ((0 : Int32) < 0 ∨ cl_a1_8_3.slots.size ≤ ((0 : Int32) : Int32).toNatClampNeg) := inb_of S_a1_8_3 ⟨by decide, by decide⟩
  obtain ⟨fs, hr, hrun, hended, hW, hsame⟩ := X2.leave (v := some (.int (nar .char ((x0 &&& (255 : Int32)).toUInt32.toUInt16.toUInt32.toInt32)))) (fun h => by rw [Bd.returns] at h; cases h)
  refine ⟨_, _, pre0 _ ?_, hrun, hended, _, _, rfl, ?_, ⟨_, rfl⟩, hW, hsame.mono (by decide) (by decide)⟩
  · show Steps p.tables e below (s₁.setTop (mkF m 0 #[.val (.ref a1), .val (.int (0 : Int32))] [])) _
    refine XS.iloadN X0.here hx rfl (hb hby d6_0) rfl ?_
    show Steps p.tables e below (s₁.setTop (mkF m 1 #[.val (.ref a1), .val (.int (0 : Int32))] [(.int (0 : Int32))])) _
    refine XS.aloadN X0.here hx rfl (hb hby d6_1) rfl rfl ?_
    show Steps p.tables e below (s₁.setTop (mkF m 2 #[.val (.ref a1), .val (.int (0 : Int32))] [(.ref a1), (.int (0 : Int32))])) _
    refine X0.arraylength hx (by rw [e0]; exact Ar_a1_2_1.1) (State.isArrayOf_alike hZ.alike Ar_a1_2_1.2.1) (g := (mkF m 2 #[.val (.ref a1), .val (.int (0 : Int32))] [(.ref a1), (.int (0 : Int32))])) rfl rfl (hb hby d6_2) _ ?_
    rw [len_of S_a1_2_1 N_a1_2_1]
    show Steps p.tables e below (s₁.setTop (mkF m 3 #[.val (.ref a1), .val (.int (0 : Int32))] [(.int (2 : Int32)), (.int (0 : Int32))])) _
    refine st2 _ ?_
    show Steps p.tables e below (T2.setTop (mkF m 6 #[.val (.ref a1), .val (.int (0 : Int32))] [])) _
    refine XS.aloadN X2.here hx rfl (hb hby d6_6) rfl rfl ?_
    show Steps p.tables e below (T2.setTop (mkF m 7 #[.val (.ref a1), .val (.int (0 : Int32))] [(.ref a1)])) _
    refine XS.iloadN X2.here hx rfl (hb hby d6_7) rfl ?_
    show Steps p.tables e below (T2.setTop (mkF m 8 #[.val (.ref a1), .val (.int (0 : Int32))] [(.int (0 : Int32)), (.ref a1)])) _
    refine X2.baloadBytes hx (j := (0 : Int32)) (v := (.int x0)) (by rw [e2]; exact Ar_a1_8_3.1) (State.isArrayOf_alike hZ.alike Ar_a1_8_3.2.1) Ar_a1_8_3.2.2 hin_a1_8_3 (H_a1_8_3.at hin_a1_8_3 rfl) (g := (mkF m 8 #[.val (.ref a1), .val (.int (0 : Int32))] [(.int (0 : Int32)), (.ref a1)])) rfl rfl (hb hby d6_8) _ ?_
    show Steps p.tables e below (T2.setTop (mkF m 9 #[.val (.ref a1), .val (.int (0 : Int32))] [(.int x0)])) _
    refine XS.sipush X2.here hx rfl (hb hby d6_9) ?_
    show Steps p.tables e below (T2.setTop (mkF m 12 #[.val (.ref a1), .val (.int (0 : Int32))] [(.int (255 : Int32)), (.int x0)])) _
    refine XS.iand X2.here hx rfl (hb hby d6_12) rfl ?_
    show Steps p.tables e below (T2.setTop (mkF m 13 #[.val (.ref a1), .val (.int (0 : Int32))] [(.int (x0 &&& (255 : Int32)))])) _
    refine XS.i2c X2.here hx rfl (hb hby d6_13) rfl ?_
    show Steps p.tables e below (T2.setTop (mkF m 14 #[.val (.ref a1), .val (.int (0 : Int32))] [(.int ((x0 &&& (255 : Int32)).toUInt32.toUInt16.toUInt32.toInt32))])) _
    exact retN X2 hx (t := .char) Bd.returns (by simp) (hb hby d6_14) hr
  · show Q6 Z a1 ka x0 x1 w_SIOOBE_FORMATTER h0 n0 _ T2.heap _
    rw [e2]
    exact ⟨rfl, rfl, rfl⟩
theorem d5_0 : decode jdk_42_method_154_code 0 = .ok (.getstatic 38, 3) := by decide +kernel
theorem d5_3 : decode jdk_42_method_154_code 3 = .ok (.ifCond .eq 14, 3) := by decide +kernel
theorem d5_6 : decode jdk_42_method_154_code 6 = .ok (.aload_n 0, 1) := by decide +kernel
theorem d5_7 : decode jdk_42_method_154_code 7 = .ok (.getfield 15, 3) := by decide +kernel
theorem d5_10 : decode jdk_42_method_154_code 10 = .ok (.ifCond .ne 7, 3) := by decide +kernel
theorem d5_13 : decode jdk_42_method_154_code 13 = .ok (.iconst 1, 1) := by decide +kernel
theorem d5_14 : decode jdk_42_method_154_code 14 = .ok (.goto 4, 3) := by decide +kernel
theorem d5_18 : decode jdk_42_method_154_code 18 = .ok (.ireturn, 1) := by decide +kernel
theorem ef5 (m : MethodId) (a1 : Addr) : entryFrame m #[(.ref a1)] 1 = (mkF m 0 #[.val (.ref a1)] []) := by first | (simp [entryFrame, mkF, argsToLocals, Value.category]; done) | rfl
def Q5 (Z : State) (a1 : Addr) (w_COMPACT_STRINGS : Int32) (h0 : Heap) (n0 : Nat) (v : Option Value) (h : Heap) (L : List Loc) : Prop := v = some (.int (1 : Int32)) ∧ L = [] ∧ h = h0
set_option maxRecDepth 65536 in
set_option maxHeartbeats 40000000 in
theorem rm5 (l : Launch) (Z : State) (a0 : Array Value) (hw : ∀ d ∈ tables_1, d.before a0 Z = true) (ws : List Jvm.Cond) (a1 : Addr) (w_COMPACT_STRINGS : Int32) (h0 : Heap) (n0 : Nat) (Z0 : n0 ≤ h0.size) (F_coder_a1 : Fld Z h0 a1 "java/lang/String" "coder" "B" (.int (0 : Int32))) (S_COMPACT_STRINGS : Sta Z h0 "java/lang/String" "COMPACT_STRINGS" "Z" (.int w_COMPACT_STRINGS)) (hc3 : ¬ (w_COMPACT_STRINGS = (0 : Int32))) :
    MetFree l (⟨"java/lang/String", "isLatin1", "()Z"⟩ : MethodName) (head1 (Jvm.Cond.code (⟨"java/lang/String", "isLatin1", "()Z"⟩ : MethodName) jdk_42_method_154_code 1 (some .boolean) :: ws) ({ frames := 0, cells := 0, slots := 0, locals := 0 } : Room)) (fun a U => a = #[(.ref a1)] ∧ Z.Warmed39 U.vm ∧ U.heap = h0) (fun _ _ _ _ _ => True) (fun _ U o U' => ∃ v L, o = .returned v ∧ Q5 Z a1 w_COMPACT_STRINGS h0 n0 v U'.heap L ∧ FrameEnd U o U' L ({ frames := 0, cells := 0, slots := 0, locals := 0 } : Room).cells ({ frames := 0, cells := 0, slots := 0, locals := 0 } : Room).slots) := by
  refine MetFree.of_bodySF (plainFor_of_name pn1) hisR ?_
  intro p e s m args below meth c s₁ Bd hml0 hP hK
  obtain ⟨rfl, hZ, hh⟩ := hP
  have hx := Bd.exec
  have hby := Bd.bytes
  have hml : c.maxLocals = 1 := hml0
  have hown : s.vm.findClass "java/lang/String" = some m.cls := findClass_of_methodNamed Bd.named
  have hnm := (name_of_methodNamed Bd.named Bd.method).1
  have X0 : Stand p l e ({ frames := 0, cells := 0, slots := 0, locals := 0 } : Room) s m #[(.ref a1)] below meth c s₁ [] 0 0 := Stand.of_body Bd
  have e0 : s₁.heap = h0 := by rw [← hh, Bd.state]; rfl
  have N0 := Fr.nil n0
  have pre0 : ∀ t, Steps p.tables e below (s₁.setTop (mkF m 0 #[.val (.ref a1)] [])) t → Steps p.tables e below (s₁.setTop (entryFrame m #[(.ref a1)] 1)) t := fun t k => castTop (ef5 m a1) k
  obtain ⟨T1, X1, e1, st1⟩ := getS2 X0 hx hZ hown (host := "") (Or.inl (hw _ (List.mem_of_getElem? (i := 34) rfl))) Via.refl e0 S_COMPACT_STRINGS (g := (mkF m 0 #[.val (.ref a1)] [])) rfl (hb hby d5_0)
  obtain ⟨T2, X2, e2, st2⟩ := getF X1 hx hZ hown (host := "") (Or.inl (hw _ (List.mem_of_getElem? (i := 35) rfl))) Via.refl e1 F_coder_a1 (g := (mkF m 7 #[.val (.ref a1)] [(.ref a1)])) rfl rfl (hb hby d5_7)
  obtain ⟨fs, hr, hrun, hended, hW, hsame⟩ := X2.leave (v := some (.int (1 : Int32))) (fun h => by rw [Bd.returns] at h; cases h)
  refine ⟨_, _, pre0 _ ?_, hrun, hended, _, _, rfl, ?_, ⟨_, rfl⟩, hW, hsame.mono (by decide) (by decide)⟩
  · show Steps p.tables e below (s₁.setTop (mkF m 0 #[.val (.ref a1)] [])) _
    refine st1 _ ?_
    show Steps p.tables e below (T1.setTop (mkF m 3 #[.val (.ref a1)] [(.int w_COMPACT_STRINGS)])) _
    refine XS.ifNo X1.here hx rfl (hb hby d5_3) rfl ((if0 _ _).trans (feq hc3).1) ?_
    show Steps p.tables e below (T1.setTop (mkF m 6 #[.val (.ref a1)] [])) _
    refine XS.aloadN X1.here hx rfl (hb hby d5_6) rfl rfl ?_
    show Steps p.tables e below (T1.setTop (mkF m 7 #[.val (.ref a1)] [(.ref a1)])) _
    refine st2 _ ?_
    show Steps p.tables e below (T2.setTop (mkF m 10 #[.val (.ref a1)] [(.int (0 : Int32))])) _
    refine XS.ifNo X2.here hx rfl (hb hby d5_10) rfl ((if0 _ _).trans (teq (by decide : (0 : Int32) = (0 : Int32))).2) ?_
    show Steps p.tables e below (T2.setTop (mkF m 13 #[.val (.ref a1)] [])) _
    refine XS.iconst X2.here hx rfl (hb hby d5_13) ?_
    show Steps p.tables e below (T2.setTop (mkF m 14 #[.val (.ref a1)] [(.int (1 : Int32))])) _
    refine XS.goto X2.here hx rfl (pc0 := 14) (pc' := 18) rfl (hb hby d5_14) (by decide) (by decide) ?_
    show Steps p.tables e below (T2.setTop (mkF m 18 #[.val (.ref a1)] [(.int (1 : Int32))])) _
    exact retN X2 hx (t := .boolean) Bd.returns (by simp) (hb hby d5_18) hr
  · show Q5 Z a1 w_COMPACT_STRINGS h0 n0 _ T2.heap _
    rw [e2]
    exact ⟨rfl, rfl, rfl⟩
theorem d4_0 : decode jdk_42_method_56_code 0 = .ok (.aload_n 0, 1) := by decide +kernel
theorem d4_1 : decode jdk_42_method_56_code 1 = .ok (.invokevirtual 492, 3) := by decide +kernel
theorem d4_4 : decode jdk_42_method_56_code 4 = .ok (.ifCond .eq 12, 3) := by decide +kernel
theorem d4_7 : decode jdk_42_method_56_code 7 = .ok (.aload_n 0, 1) := by decide +kernel
theorem d4_8 : decode jdk_42_method_56_code 8 = .ok (.getfield 9, 3) := by decide +kernel
theorem d4_11 : decode jdk_42_method_56_code 11 = .ok (.iload_n 1, 1) := by decide +kernel
theorem d4_12 : decode jdk_42_method_56_code 12 = .ok (.invokestatic 495, 3) := by decide +kernel
theorem d4_15 : decode jdk_42_method_56_code 15 = .ok (.ireturn, 1) := by decide +kernel
theorem pd2 : parseMethodDescriptor "()Z" = some ⟨[], some .boolean⟩ := by decide +kernel
theorem pd3 : parseMethodDescriptor "([BI)C" = some ⟨[(.array .byte), .int], some .char⟩ := by decide +kernel
theorem ef4 (m : MethodId) (a1 : Addr) : entryFrame m #[(.ref a1), (.int (0 : Int32))] 2 = (mkF m 0 #[.val (.ref a1), .val (.int (0 : Int32))] []) := by first | (simp [entryFrame, mkF, argsToLocals, Value.category]; done) | rfl
def Q4 (Z : State) (a1 : Addr) (w_value_a1 : Addr) (ka : ClassId) (x0 : Int32) (x1 : Int32) (w_SIOOBE_FORMATTER : Value) (w_COMPACT_STRINGS : Int32) (h0 : Heap) (n0 : Nat) (v : Option Value) (h : Heap) (L : List Loc) : Prop := v = some (.int (nar .char (nar .char ((x0 &&& (255 : Int32)).toUInt32.toUInt16.toUInt32.toInt32)))) ∧ L = [] ∧ h = h0
set_option maxRecDepth 65536 in
set_option maxHeartbeats 40000000 in
theorem rm4 (l : Launch) (Z : State) (a0 : Array Value) (hw : ∀ d ∈ tables_1, d.before a0 Z = true) (ws : List Jvm.Cond) (a1 : Addr) (w_value_a1 : Addr) (ka : ClassId) (x0 : Int32) (x1 : Int32) (w_SIOOBE_FORMATTER : Value) (w_COMPACT_STRINGS : Int32) (h0 : Heap) (n0 : Nat) (Z0 : n0 ≤ h0.size) (E_a1 : Exa Z h0 a1 "java/lang/String") (F_coder_a1 : Fld Z h0 a1 "java/lang/String" "coder" "B" (.int (0 : Int32))) (F_value_a1 : Fld Z h0 a1 "java/lang/String" "value" "[B" (.ref w_value_a1)) (V_w_value_a1 : Arv Z h0 w_value_a1 ka .byte (2 : Int32) [(.int x0), (.int x1)] (.int (0 : Int32))) (S_SIOOBE_FORMATTER : Sta Z h0 "jdk/internal/util/Preconditions" "SIOOBE_FORMATTER" "Ljava/util/function/BiFunction;" w_SIOOBE_FORMATTER) (S_COMPACT_STRINGS : Sta Z h0 "java/lang/String" "COMPACT_STRINGS" "Z" (.int w_COMPACT_STRINGS)) (hSF : w_SIOOBE_FORMATTER.isRef = true) (hCS : ¬ (w_COMPACT_STRINGS = (0 : Int32))) :
    MetFree l (⟨"java/lang/String", "charAt", "(I)C"⟩ : MethodName) (head1 (Jvm.Cond.code (⟨"java/lang/String", "charAt", "(I)C"⟩ : MethodName) jdk_42_method_56_code 2 (some .char) :: ws) ({ frames := 3, cells := 0, slots := 0, locals := 40 } : Room)) (fun a U => a = #[(.ref a1), (.int (0 : Int32))] ∧ Z.Warmed39 U.vm ∧ U.heap = h0) (fun _ _ _ _ _ => True) (fun _ U o U' => ∃ v L, o = .returned v ∧ Q4 Z a1 w_value_a1 ka x0 x1 w_SIOOBE_FORMATTER w_COMPACT_STRINGS h0 n0 v U'.heap L ∧ FrameEnd U o U' L ({ frames := 3, cells := 0, slots := 0, locals := 40 } : Room).cells ({ frames := 3, cells := 0, slots := 0, locals := 40 } : Room).slots) := by
  refine MetFree.of_bodySF (plainFor_of_name pn1) hisR ?_
  intro p e s m args below meth c s₁ Bd hml0 hP hK
  obtain ⟨rfl, hZ, hh⟩ := hP
  have hx := Bd.exec
  have hby := Bd.bytes
  have hml : c.maxLocals = 2 := hml0
  have hown : s.vm.findClass "java/lang/String" = some m.cls := findClass_of_methodNamed Bd.named
  have hnm := (name_of_methodNamed Bd.named Bd.method).1
  have X0 : Stand p l e ({ frames := 3, cells := 0, slots := 0, locals := 40 } : Room) s m #[(.ref a1), (.int (0 : Int32))] below meth c s₁ [] 0 0 := Stand.of_body Bd
  have e0 : s₁.heap = h0 := by rw [← hh, Bd.state]; rfl
  have N0 := Fr.nil n0
  have pre0 : ∀ t, Steps p.tables e below (s₁.setTop (mkF m 0 #[.val (.ref a1), .val (.int (0 : Int32))] [])) t → Steps p.tables e below (s₁.setTop (entryFrame m #[(.ref a1), (.int (0 : Int32))] 2)) t := fun t k => castTop (ef4 m a1) k
  obtain ⟨cq1, kq1, q1a, q1b, q1c⟩ := isOf hZ e0 E_a1
  obtain ⟨_, _, ⟨T1, L1, k1, n1⟩, -, X1, ⟨Lc1, hQ1, l1, y1, z1⟩, st1⟩ := X0.virtualBack hx (y := (⟨"java/lang/String", "isLatin1", "()Z"⟩ : MethodName)) (z := (⟨"java/lang/String", "isLatin1", "()Z"⟩ : MethodName)) hown (mvT hZ (hw _ (List.mem_of_getElem? (i := 29) rfl))) (mvT hZ (hw _ (List.mem_of_getElem? (i := 30) rfl))) (notFace_of_selects (args := #[]) (mvT hZ (hw _ (List.mem_of_getElem? (i := 32) rfl)))) (mvT hZ (hw _ (List.mem_of_getElem? (i := 32) rfl))) (mvT hZ (hw _ (List.mem_of_getElem? (i := 31) rfl))) (by decide) (backOf (W := 0) (rm5 l Z a0 hw [] a1 w_COMPACT_STRINGS h0 n0 (Nat.le_trans Z0 (Keep.refl h0 []).1) F_coder_a1 S_COMPACT_STRINGS (hCS : ¬ (w_COMPACT_STRINGS = (0 : Int32)))) hZ (hw _ (List.mem_of_getElem? (i := 33) rfl)) (hw _ (List.mem_of_getElem? (i := 27) rfl)) (by decide) (by decide)) q1a q1c (g := (mkF m 1 #[.val (.ref a1), .val (.int (0 : Int32))] [(.ref a1)])) rfl (by rw [hml]; rfl) (Steps.refl _) (argsL := []) (rest := []) (lenOf pd2 rfl) rfl (by show 2 * 0 + _ ≤ _; exact Nat.le_of_eq rfl) (hb hby d4_1) (fun _ _ => ⟨rfl, e0, (by decide : 0 + 0 ≤ _), (by decide : 0 + 0 ≤ _)⟩)
  dsimp only [Pt.U, Pt.locs, Pt.cells, Pt.slots] at X1 l1 y1 z1 st1 hQ1
  subst l1 y1 z1
  obtain ⟨rfl, rfl, e1⟩ := hQ1
  have N1 := Fr.app N0 (Fr.nil n0)
  obtain ⟨T2, X2, e2, st2⟩ := getF X1 hx hZ hown (host := "") (Or.inl (hw _ (List.mem_of_getElem? (i := 37) rfl))) Via.refl e1 F_value_a1 (g := (mkF m 8 #[.val (.ref a1), .val (.int (0 : Int32))] [(.ref a1)])) rfl rfl (hb hby d4_8)
  obtain ⟨_, _, ⟨T3, L3, k3, n3⟩, -, X3, ⟨Lc3, hQ3, l3, y3, z3⟩, st3⟩ := Jvm.LawKit.callS X2 hx (y := (⟨"java/lang/StringLatin1", "charAt", "([BI)C"⟩ : MethodName)) hown (mvT hZ (hw _ (List.mem_of_getElem? (i := 39) rfl))) (mvT hZ (hw _ (List.mem_of_getElem? (i := 40) rfl))) (mvT hZ (hw _ (List.mem_of_getElem? (i := 41) rfl))) (mvT hZ (hw _ (List.mem_of_getElem? (i := 42) rfl))) (by decide) (backOf (W := 0) (rm6 l Z a0 hw [] w_value_a1 ka x0 x1 w_SIOOBE_FORMATTER h0 n0 (Nat.le_trans Z0 (Keep.refl h0 []).1) V_w_value_a1 S_SIOOBE_FORMATTER (hSF : w_SIOOBE_FORMATTER.isRef = true)) hZ (hw _ (List.mem_of_getElem? (i := 42) rfl)) (hw _ (List.mem_of_getElem? (i := 41) rfl)) (by decide) (by decide)) (g := (mkF m 12 #[.val (.ref a1), .val (.int (0 : Int32))] [(.int (0 : Int32)), (.ref w_value_a1)])) rfl (by rw [hml]; rfl) (argsL := [(.ref w_value_a1), (.int (0 : Int32))]) (rest := []) (lenOf pd3 rfl) rfl (by show 2 * 0 + _ ≤ _; exact Nat.le_of_eq rfl) (hb hby d4_12) (fun _ _ => ⟨rfl, e2, (by decide : 0 + 0 ≤ _), (by decide : 0 + 0 ≤ _)⟩)
  dsimp only [Pt.U, Pt.locs, Pt.cells, Pt.slots] at X3 l3 y3 z3 st3 hQ3
  subst l3 y3 z3
  obtain ⟨rfl, rfl, e3⟩ := hQ3
  have N3 := Fr.app N1 (Fr.nil n0)
  obtain ⟨fs, hr, hrun, hended, hW, hsame⟩ := X3.leave (v := some (.int (nar .char (nar .char ((x0 &&& (255 : Int32)).toUInt32.toUInt16.toUInt32.toInt32))))) (fun h => by rw [Bd.returns] at h; cases h)
  refine ⟨_, _, pre0 _ ?_, hrun, hended, _, _, rfl, ?_, ⟨_, rfl⟩, hW, hsame.mono (by decide) (by decide)⟩
  · show Steps p.tables e below (s₁.setTop (mkF m 0 #[.val (.ref a1), .val (.int (0 : Int32))] [])) _
    refine XS.aloadN X0.here hx rfl (hb hby d4_0) rfl rfl ?_
    show Steps p.tables e below (s₁.setTop (mkF m 1 #[.val (.ref a1), .val (.int (0 : Int32))] [(.ref a1)])) _
    refine st1.trans ?_
    show Steps p.tables e below (T1.setTop (mkF m 4 #[.val (.ref a1), .val (.int (0 : Int32))] [(.int (1 : Int32))])) _
    refine XS.ifNo X1.here hx rfl (hb hby d4_4) rfl ((if0 _ _).trans (feq (by decide : ¬ ((1 : Int32) = (0 : Int32)))).1) ?_
    show Steps p.tables e below (T1.setTop (mkF m 7 #[.val (.ref a1), .val (.int (0 : Int32))] [])) _
    refine XS.aloadN X1.here hx rfl (hb hby d4_7) rfl rfl ?_
    show Steps p.tables e below (T1.setTop (mkF m 8 #[.val (.ref a1), .val (.int (0 : Int32))] [(.ref a1)])) _
    refine st2 _ ?_
    show Steps p.tables e below (T2.setTop (mkF m 11 #[.val (.ref a1), .val (.int (0 : Int32))] [(.ref w_value_a1)])) _
    refine XS.iloadN X2.here hx rfl (hb hby d4_11) rfl ?_
    show Steps p.tables e below (T2.setTop (mkF m 12 #[.val (.ref a1), .val (.int (0 : Int32))] [(.int (0 : Int32)), (.ref w_value_a1)])) _
    refine st3 _ ?_
    show Steps p.tables e below (T3.setTop (mkF m 15 #[.val (.ref a1), .val (.int (0 : Int32))] [(.int (nar .char ((x0 &&& (255 : Int32)).toUInt32.toUInt16.toUInt32.toInt32)))])) _
    exact retN X3 hx (t := .char) Bd.returns (by simp) (hb hby d4_15) hr
  · show Q4 Z a1 w_value_a1 ka x0 x1 w_SIOOBE_FORMATTER w_COMPACT_STRINGS h0 n0 _ T3.heap _
    rw [e3]
    exact ⟨rfl, rfl, rfl⟩
theorem d1_0 : decode method_2_code 0 = .ok (.iload_n 0, 1) := by decide +kernel
theorem d1_1 : decode method_2_code 1 = .ok (.ifCond .ne 7, 3) := by decide +kernel
theorem d1_4 : decode method_2_code 4 = .ok (.getstatic 7, 3) := by decide +kernel
theorem d1_7 : decode method_2_code 7 = .ok (.areturn, 1) := by decide +kernel
theorem d1_8 : decode method_2_code 8 = .ok (.iload_n 0, 1) := by decide +kernel
theorem d1_9 : decode method_2_code 9 = .ok (.iconst 1, 1) := by decide +kernel
theorem d1_10 : decode method_2_code 10 = .ok (.if_icmp .ne 7, 3) := by decide +kernel
theorem d1_13 : decode method_2_code 13 = .ok (.getstatic 13, 3) := by decide +kernel
theorem d1_16 : decode method_2_code 16 = .ok (.areturn, 1) := by decide +kernel
theorem d1_17 : decode method_2_code 17 = .ok (.iload_n 0, 1) := by decide +kernel
theorem d1_18 : decode method_2_code 18 = .ok (.iconst 2, 1) := by decide +kernel
theorem d1_19 : decode method_2_code 19 = .ok (.if_icmp .ne 7, 3) := by decide +kernel
theorem d1_22 : decode method_2_code 22 = .ok (.getstatic 16, 3) := by decide +kernel
theorem d1_25 : decode method_2_code 25 = .ok (.areturn, 1) := by decide +kernel
theorem d1_26 : decode method_2_code 26 = .ok (.getstatic 19, 3) := by decide +kernel
theorem d1_29 : decode method_2_code 29 = .ok (.areturn, 1) := by decide +kernel
def res1 (p1 : Int32) (w_INSERT : Addr) (w_UPDATE_BEFORE : Addr) (w_UPDATE_AFTER : Addr) (w_DELETE : Addr) : Addr := if p1 = (0 : Int32) then w_INSERT else if p1 = (1 : Int32) then w_UPDATE_BEFORE else if p1 = (2 : Int32) then w_UPDATE_AFTER else w_DELETE
theorem pn3 : plainName "com/example/tidemark/tidemark/table/RowKindIsRetractionPinLaw" = true := by first | (simp [plainName, overriddenIn]; done) | decide +kernel
theorem ef1 (m : MethodId) (p1 : Int32) : entryFrame m #[(.int p1)] 1 = (mkF m 0 #[.val (.int p1)] []) := by first | (simp [entryFrame, mkF, argsToLocals, Value.category]; done) | rfl
def Q1 (Z : State) (p1 : Int32) (w_INSERT : Addr) (w_UPDATE_BEFORE : Addr) (w_UPDATE_AFTER : Addr) (w_DELETE : Addr) (h0 : Heap) (n0 : Nat) (v : Option Value) (h : Heap) (L : List Loc) : Prop := v = some (.ref (res1 p1 w_INSERT w_UPDATE_BEFORE w_UPDATE_AFTER w_DELETE)) ∧ L = [] ∧ h = h0
set_option maxRecDepth 65536 in
set_option maxHeartbeats 40000000 in
theorem rm1 (l : Launch) (Z : State) (a0 : Array Value) (hw : ∀ d ∈ tables_1, d.before a0 Z = true) (ws : List Jvm.Cond) (p1 : Int32) (w_INSERT : Addr) (w_UPDATE_BEFORE : Addr) (w_UPDATE_AFTER : Addr) (w_DELETE : Addr) (h0 : Heap) (n0 : Nat) (Z0 : n0 ≤ h0.size) (S_INSERT : Sta Z h0 "com/example/tidemark/tidemark/table/RowKind" "INSERT" "Lcom/example/tidemark/tidemark/table/RowKind;" (.ref w_INSERT)) (S_UPDATE_BEFORE : Sta Z h0 "com/example/tidemark/tidemark/table/RowKind" "UPDATE_BEFORE" "Lcom/example/tidemark/tidemark/table/RowKind;" (.ref w_UPDATE_BEFORE)) (S_UPDATE_AFTER : Sta Z h0 "com/example/tidemark/tidemark/table/RowKind" "UPDATE_AFTER" "Lcom/example/tidemark/tidemark/table/RowKind;" (.ref w_UPDATE_AFTER)) (S_DELETE : Sta Z h0 "com/example/tidemark/tidemark/table/RowKind" "DELETE" "Lcom/example/tidemark/tidemark/table/RowKind;" (.ref w_DELETE)) :
    MetFree l (⟨"com/example/tidemark/tidemark/table/RowKindIsRetractionPinLaw", "pick", "(I)Lcom/example/tidemark/tidemark/table/RowKind;"⟩ : MethodName) (head1 (Jvm.Cond.code (⟨"com/example/tidemark/tidemark/table/RowKindIsRetractionPinLaw", "pick", "(I)Lcom/example/tidemark/tidemark/table/RowKind;"⟩ : MethodName) method_2_code 1 (some (.object "com/example/tidemark/tidemark/table/RowKind")) :: ws) ({ frames := 0, cells := 0, slots := 0, locals := 0 } : Room)) (fun a U => a = #[(.int p1)] ∧ Z.Warmed39 U.vm ∧ U.heap = h0) (fun _ _ _ _ _ => True) (fun _ U o U' => ∃ v L, o = .returned v ∧ Q1 Z p1 w_INSERT w_UPDATE_BEFORE w_UPDATE_AFTER w_DELETE h0 n0 v U'.heap L ∧ FrameEnd U o U' L ({ frames := 0, cells := 0, slots := 0, locals := 0 } : Room).cells ({ frames := 0, cells := 0, slots := 0, locals := 0 } : Room).slots) := by
  refine MetFree.of_bodySF (plainFor_of_name pn3) hisR ?_
  intro p e s m args below meth c s₁ Bd hml0 hP hK
  obtain ⟨rfl, hZ, hh⟩ := hP
  have hx := Bd.exec
  have hby := Bd.bytes
  have hml : c.maxLocals = 1 := hml0
  have hown : s.vm.findClass "com/example/tidemark/tidemark/table/RowKindIsRetractionPinLaw" = some m.cls := findClass_of_methodNamed Bd.named
  have hnm := (name_of_methodNamed Bd.named Bd.method).1
  have X0 : Stand p l e ({ frames := 0, cells := 0, slots := 0, locals := 0 } : Room) s m #[(.int p1)] below meth c s₁ [] 0 0 := Stand.of_body Bd
  have e0 : s₁.heap = h0 := by rw [← hh, Bd.state]; rfl
  have N0 := Fr.nil n0
  have pre0 : ∀ t, Steps p.tables e below (s₁.setTop (mkF m 0 #[.val (.int p1)] [])) t → Steps p.tables e below (s₁.setTop (entryFrame m #[(.int p1)] 1)) t := fun t k => castTop (ef1 m p1) k
  have pre1 : ∀ t, Steps p.tables e below (s₁.setTop (mkF m 1 #[.val (.int p1)] [(.int p1)])) t → Steps p.tables e below (s₁.setTop (entryFrame m #[(.int p1)] 1)) t := by
    intro t kt
    refine pre0 _ ?_
    show Steps p.tables e below (s₁.setTop (mkF m 0 #[.val (.int p1)] [])) _
    refine XS.iloadN X0.here hx rfl (hb hby d1_0) rfl ?_
    exact kt
  by_cases hc1_2 : p1 = (0 : Int32)
  · obtain ⟨T3, X3, e3, st3⟩ := getS2 X0 hx hZ hown (host := "") (Or.inl (hw _ (List.mem_of_getElem? (i := 4) rfl))) Via.refl e0 S_INSERT (g := (mkF m 4 #[.val (.int p1)] [])) rfl (hb hby d1_4)
    obtain ⟨fs, hr, hrun, hended, hW, hsame⟩ := X3.leave (v := some (.ref w_INSERT)) (fun h => by rw [Bd.returns] at h; cases h)
    refine ⟨_, _, pre1 _ ?_, hrun, hended, _, _, rfl, ?_, ⟨_, rfl⟩, hW, hsame.mono (by decide) (by decide)⟩
    · show Steps p.tables e below (s₁.setTop (mkF m 1 #[.val (.int p1)] [(.int p1)])) _
      refine XS.ifNo X0.here hx rfl (hb hby d1_1) rfl ((if0 _ _).trans (teq hc1_2).2) ?_
      show Steps p.tables e below (s₁.setTop (mkF m 4 #[.val (.int p1)] [])) _
      refine st3 _ ?_
      show Steps p.tables e below (T3.setTop (mkF m 7 #[.val (.int p1)] [(.ref w_INSERT)])) _
      exact retOut X3 hx Bd.returns rfl (Or.inr (Or.inr (Or.inr (Or.inr ⟨rfl, rfl, rfl⟩)))) (hb hby d1_7) hr
    · show Q1 Z p1 w_INSERT w_UPDATE_BEFORE w_UPDATE_AFTER w_DELETE h0 n0 _ T3.heap _
      rw [e3]
      exact ⟨by rw [res1, if_pos hc1_2], rfl, rfl⟩
  · have pre4 : ∀ t, Steps p.tables e below (s₁.setTop (mkF m 10 #[.val (.int p1)] [(.int (1 : Int32)), (.int p1)])) t → Steps p.tables e below (s₁.setTop (entryFrame m #[(.int p1)] 1)) t := by
      intro t kt
      refine pre1 _ ?_
      show Steps p.tables e below (s₁.setTop (mkF m 1 #[.val (.int p1)] [(.int p1)])) _
      refine XS.ifYes X0.here hx rfl (pc0 := 1) (pc' := 8) rfl (hb hby d1_1) rfl ((if0 _ _).trans (feq hc1_2).2) (by decide) (by decide) ?_
      show Steps p.tables e below (s₁.setTop (mkF m 8 #[.val (.int p1)] [])) _
      refine XS.iloadN X0.here hx rfl (hb hby d1_8) rfl ?_
      show Steps p.tables e below (s₁.setTop (mkF m 9 #[.val (.int p1)] [(.int p1)])) _
      refine XS.iconst X0.here hx rfl (hb hby d1_9) ?_
      exact kt
    by_cases hc10_5 : p1 = (1 : Int32)
    · obtain ⟨T6, X6, e6, st6⟩ := getS2 X0 hx hZ hown (host := "") (Or.inl (hw _ (List.mem_of_getElem? (i := 54) rfl))) Via.refl e0 S_UPDATE_BEFORE (g := (mkF m 13 #[.val (.int p1)] [])) rfl (hb hby d1_13)
      obtain ⟨fs, hr, hrun, hended, hW, hsame⟩ := X6.leave (v := some (.ref w_UPDATE_BEFORE)) (fun h => by rw [Bd.returns] at h; cases h)
      refine ⟨_, _, pre4 _ ?_, hrun, hended, _, _, rfl, ?_, ⟨_, rfl⟩, hW, hsame.mono (by decide) (by decide)⟩
      · show Steps p.tables e below (s₁.setTop (mkF m 10 #[.val (.int p1)] [(.int (1 : Int32)), (.int p1)])) _
        refine XS.icmpNo X0.here hx rfl (hb hby d1_10) rfl (teq hc10_5).2 ?_
        show Steps p.tables e below (s₁.setTop (mkF m 13 #[.val (.int p1)] [])) _
        refine st6 _ ?_
        show Steps p.tables e below (T6.setTop (mkF m 16 #[.val (.int p1)] [(.ref w_UPDATE_BEFORE)])) _
        exact retOut X6 hx Bd.returns rfl (Or.inr (Or.inr (Or.inr (Or.inr ⟨rfl, rfl, rfl⟩)))) (hb hby d1_16) hr
      · show Q1 Z p1 w_INSERT w_UPDATE_BEFORE w_UPDATE_AFTER w_DELETE h0 n0 _ T6.heap _
        rw [e6]
        exact ⟨by rw [res1, if_neg hc1_2, if_pos hc10_5], rfl, rfl⟩
    · have pre7 : ∀ t, Steps p.tables e below (s₁.setTop (mkF m 19 #[.val (.int p1)] [(.int (2 : Int32)), (.int p1)])) t → Steps p.tables e below (s₁.setTop (entryFrame m #[(.int p1)] 1)) t := by
        intro t kt
        refine pre4 _ ?_
        show Steps p.tables e below (s₁.setTop (mkF m 10 #[.val (.int p1)] [(.int (1 : Int32)), (.int p1)])) _
        refine XS.icmpYes X0.here hx rfl (pc0 := 10) (pc' := 17) rfl (hb hby d1_10) rfl (feq hc10_5).2 (by decide) (by decide) ?_
        show Steps p.tables e below (s₁.setTop (mkF m 17 #[.val (.int p1)] [])) _
        refine XS.iloadN X0.here hx rfl (hb hby d1_17) rfl ?_
        show Steps p.tables e below (s₁.setTop (mkF m 18 #[.val (.int p1)] [(.int p1)])) _
        refine XS.iconst X0.here hx rfl (hb hby d1_18) ?_
        exact kt
      by_cases hc19_8 : p1 = (2 : Int32)
      · obtain ⟨T9, X9, e9, st9⟩ := getS2 X0 hx hZ hown (host := "") (Or.inl (hw _ (List.mem_of_getElem? (i := 52) rfl))) Via.refl e0 S_UPDATE_AFTER (g := (mkF m 22 #[.val (.int p1)] [])) rfl (hb hby d1_22)
        obtain ⟨fs, hr, hrun, hended, hW, hsame⟩ := X9.leave (v := some (.ref w_UPDATE_AFTER)) (fun h => by rw [Bd.returns] at h; cases h)
        refine ⟨_, _, pre7 _ ?_, hrun, hended, _, _, rfl, ?_, ⟨_, rfl⟩, hW, hsame.mono (by decide) (by decide)⟩
        · show Steps p.tables e below (s₁.setTop (mkF m 19 #[.val (.int p1)] [(.int (2 : Int32)), (.int p1)])) _
          refine XS.icmpNo X0.here hx rfl (hb hby d1_19) rfl (teq hc19_8).2 ?_
          show Steps p.tables e below (s₁.setTop (mkF m 22 #[.val (.int p1)] [])) _
          refine st9 _ ?_
          show Steps p.tables e below (T9.setTop (mkF m 25 #[.val (.int p1)] [(.ref w_UPDATE_AFTER)])) _
          exact retOut X9 hx Bd.returns rfl (Or.inr (Or.inr (Or.inr (Or.inr ⟨rfl, rfl, rfl⟩)))) (hb hby d1_25) hr
        · show Q1 Z p1 w_INSERT w_UPDATE_BEFORE w_UPDATE_AFTER w_DELETE h0 n0 _ T9.heap _
          rw [e9]
          exact ⟨by rw [res1, if_neg hc1_2, if_neg hc10_5, if_pos hc19_8], rfl, rfl⟩
      · obtain ⟨T10, X10, e10, st10⟩ := getS2 X0 hx hZ hown (host := "") (Or.inl (hw _ (List.mem_of_getElem? (i := 51) rfl))) Via.refl e0 S_DELETE (g := (mkF m 26 #[.val (.int p1)] [])) rfl (hb hby d1_26)
        obtain ⟨fs, hr, hrun, hended, hW, hsame⟩ := X10.leave (v := some (.ref w_DELETE)) (fun h => by rw [Bd.returns] at h; cases h)
        refine ⟨_, _, pre7 _ ?_, hrun, hended, _, _, rfl, ?_, ⟨_, rfl⟩, hW, hsame.mono (by decide) (by decide)⟩
        · show Steps p.tables e below (s₁.setTop (mkF m 19 #[.val (.int p1)] [(.int (2 : Int32)), (.int p1)])) _
          refine XS.icmpYes X0.here hx rfl (pc0 := 19) (pc' := 26) rfl (hb hby d1_19) rfl (feq hc19_8).2 (by decide) (by decide) ?_
          show Steps p.tables e below (s₁.setTop (mkF m 26 #[.val (.int p1)] [])) _
          refine st10 _ ?_
          show Steps p.tables e below (T10.setTop (mkF m 29 #[.val (.int p1)] [(.ref w_DELETE)])) _
          exact retOut X10 hx Bd.returns rfl (Or.inr (Or.inr (Or.inr (Or.inr ⟨rfl, rfl, rfl⟩)))) (hb hby d1_29) hr
        · show Q1 Z p1 w_INSERT w_UPDATE_BEFORE w_UPDATE_AFTER w_DELETE h0 n0 _ T10.heap _
          rw [e10]
          exact ⟨by rw [res1, if_neg hc1_2, if_neg hc10_5, if_neg hc19_8], rfl, rfl⟩
theorem d2_0 : decode prog_28_method_8_code 0 = .ok (.aload_n 0, 1) := by decide +kernel
theorem d2_1 : decode prog_28_method_8_code 1 = .ok (.getstatic 7, 3) := by decide +kernel
theorem d2_4 : decode prog_28_method_8_code 4 = .ok (.if_acmp .eq 10, 3) := by decide +kernel
theorem d2_7 : decode prog_28_method_8_code 7 = .ok (.aload_n 0, 1) := by decide +kernel
theorem d2_8 : decode prog_28_method_8_code 8 = .ok (.getstatic 13, 3) := by decide +kernel
theorem d2_11 : decode prog_28_method_8_code 11 = .ok (.if_acmp .ne 7, 3) := by decide +kernel
theorem d2_14 : decode prog_28_method_8_code 14 = .ok (.iconst 1, 1) := by decide +kernel
theorem d2_15 : decode prog_28_method_8_code 15 = .ok (.goto 4, 3) := by decide +kernel
theorem d2_18 : decode prog_28_method_8_code 18 = .ok (.iconst 0, 1) := by decide +kernel
theorem d2_19 : decode prog_28_method_8_code 19 = .ok (.ireturn, 1) := by decide +kernel
def res2 (a1 : Addr) (w_UPDATE_BEFORE : Addr) (w_DELETE : Addr) : Int32 := if a1 = w_UPDATE_BEFORE then (1 : Int32) else if a1 = w_DELETE then (1 : Int32) else (0 : Int32)
theorem pn4 : plainName "com/example/tidemark/tidemark/table/RowKind" = true := by first | (simp [plainName, overriddenIn]; done) | decide +kernel
theorem ef2 (m : MethodId) (a1 : Addr) : entryFrame m #[(.ref a1)] 1 = (mkF m 0 #[.val (.ref a1)] []) := by first | (simp [entryFrame, mkF, argsToLocals, Value.category]; done) | rfl
def Q2 (Z : State) (a1 : Addr) (w_UPDATE_BEFORE : Addr) (w_DELETE : Addr) (h0 : Heap) (n0 : Nat) (v : Option Value) (h : Heap) (L : List Loc) : Prop := v = some (.int (res2 a1 w_UPDATE_BEFORE w_DELETE)) ∧ L = [] ∧ h = h0
set_option maxRecDepth 65536 in
set_option maxHeartbeats 40000000 in
theorem rm2 (l : Launch) (Z : State) (a0 : Array Value) (hw : ∀ d ∈ tables_1, d.before a0 Z = true) (ws : List Jvm.Cond) (a1 : Addr) (w_UPDATE_BEFORE : Addr) (w_DELETE : Addr) (h0 : Heap) (n0 : Nat) (Z0 : n0 ≤ h0.size) (S_UPDATE_BEFORE : Sta Z h0 "com/example/tidemark/tidemark/table/RowKind" "UPDATE_BEFORE" "Lcom/example/tidemark/tidemark/table/RowKind;" (.ref w_UPDATE_BEFORE)) (S_DELETE : Sta Z h0 "com/example/tidemark/tidemark/table/RowKind" "DELETE" "Lcom/example/tidemark/tidemark/table/RowKind;" (.ref w_DELETE)) :
    MetFree l (⟨"com/example/tidemark/tidemark/table/RowKind", "isRetraction", "()Z"⟩ : MethodName) (head1 (Jvm.Cond.code (⟨"com/example/tidemark/tidemark/table/RowKind", "isRetraction", "()Z"⟩ : MethodName) prog_28_method_8_code 1 (some .boolean) :: ws) ({ frames := 0, cells := 0, slots := 0, locals := 0 } : Room)) (fun a U => a = #[(.ref a1)] ∧ Z.Warmed39 U.vm ∧ U.heap = h0) (fun _ _ _ _ _ => True) (fun _ U o U' => ∃ v L, o = .returned v ∧ Q2 Z a1 w_UPDATE_BEFORE w_DELETE h0 n0 v U'.heap L ∧ FrameEnd U o U' L ({ frames := 0, cells := 0, slots := 0, locals := 0 } : Room).cells ({ frames := 0, cells := 0, slots := 0, locals := 0 } : Room).slots) := by
  refine MetFree.of_bodySF (plainFor_of_name pn4) hisR ?_
  intro p e s m args below meth c s₁ Bd hml0 hP hK
  obtain ⟨rfl, hZ, hh⟩ := hP
  have hx := Bd.exec
  have hby := Bd.bytes
  have hml : c.maxLocals = 1 := hml0
  have hown : s.vm.findClass "com/example/tidemark/tidemark/table/RowKind" = some m.cls := findClass_of_methodNamed Bd.named
  have hnm := (name_of_methodNamed Bd.named Bd.method).1
  have X0 : Stand p l e ({ frames := 0, cells := 0, slots := 0, locals := 0 } : Room) s m #[(.ref a1)] below meth c s₁ [] 0 0 := Stand.of_body Bd
  have e0 : s₁.heap = h0 := by rw [← hh, Bd.state]; rfl
  have N0 := Fr.nil n0
  have pre0 : ∀ t, Steps p.tables e below (s₁.setTop (mkF m 0 #[.val (.ref a1)] [])) t → Steps p.tables e below (s₁.setTop (entryFrame m #[(.ref a1)] 1)) t := fun t k => castTop (ef2 m a1) k
  obtain ⟨T1, X1, e1, st1⟩ := getS2 X0 hx hZ hown (host := "") (Or.inl (hw _ (List.mem_of_getElem? (i := 12) rfl))) Via.refl e0 S_UPDATE_BEFORE (g := (mkF m 1 #[.val (.ref a1)] [(.ref a1)])) rfl (hb hby d2_1)
  have pre2 : ∀ t, Steps p.tables e below (T1.setTop (mkF m 4 #[.val (.ref a1)] [(.ref w_UPDATE_BEFORE), (.ref a1)])) t → Steps p.tables e below (s₁.setTop (entryFrame m #[(.ref a1)] 1)) t := by
    intro t kt
    refine pre0 _ ?_
    show Steps p.tables e below (s₁.setTop (mkF m 0 #[.val (.ref a1)] [])) _
    refine XS.aloadN X0.here hx rfl (hb hby d2_0) rfl rfl ?_
    show Steps p.tables e below (s₁.setTop (mkF m 1 #[.val (.ref a1)] [(.ref a1)])) _
    refine st1 _ ?_
    exact kt
  by_cases hc4_3 : a1 = w_UPDATE_BEFORE
  · obtain ⟨fs, hr, hrun, hended, hW, hsame⟩ := X1.leave (v := some (.int (1 : Int32))) (fun h => by rw [Bd.returns] at h; cases h)
    refine ⟨_, _, pre2 _ ?_, hrun, hended, _, _, rfl, ?_, ⟨_, rfl⟩, hW, hsame.mono (by decide) (by decide)⟩
    · show Steps p.tables e below (T1.setTop (mkF m 4 #[.val (.ref a1)] [(.ref w_UPDATE_BEFORE), (.ref a1)])) _
      refine Jvm.RoadKit.acmp (g := (mkF m 4 #[.val (.ref a1)] [(.ref w_UPDATE_BEFORE), (.ref a1)])) X1 hx rfl rfl rfl (pc0 := 4) (pc' := 14) (same := true) rfl (hb hby d2_4) rfl (decide_eq_true (congrArg Value.ref hc4_3)) (by decide) (by decide) ?_
      show Steps p.tables e below (T1.setTop (mkF m 14 #[.val (.ref a1)] [])) _
      refine XS.iconst X1.here hx rfl (hb hby d2_14) ?_
      show Steps p.tables e below (T1.setTop (mkF m 15 #[.val (.ref a1)] [(.int (1 : Int32))])) _
      refine XS.goto X1.here hx rfl (pc0 := 15) (pc' := 19) rfl (hb hby d2_15) (by decide) (by decide) ?_
      show Steps p.tables e below (T1.setTop (mkF m 19 #[.val (.ref a1)] [(.int (1 : Int32))])) _
      exact retN X1 hx (t := .boolean) Bd.returns (by simp) (hb hby d2_19) hr
    · show Q2 Z a1 w_UPDATE_BEFORE w_DELETE h0 n0 _ T1.heap _
      rw [e1]
      exact ⟨by rw [res2, if_pos hc4_3], rfl, rfl⟩
  · obtain ⟨T4, X4, e4, st4⟩ := getS2 X1 hx hZ hown (host := "") (Or.inl (hw _ (List.mem_of_getElem? (i := 14) rfl))) Via.refl e1 S_DELETE (g := (mkF m 8 #[.val (.ref a1)] [(.ref a1)])) rfl (hb hby d2_8)
    have pre5 : ∀ t, Steps p.tables e below (T4.setTop (mkF m 11 #[.val (.ref a1)] [(.ref w_DELETE), (.ref a1)])) t → Steps p.tables e below (s₁.setTop (entryFrame m #[(.ref a1)] 1)) t := by
      intro t kt
      refine pre2 _ ?_
      show Steps p.tables e below (T1.setTop (mkF m 4 #[.val (.ref a1)] [(.ref w_UPDATE_BEFORE), (.ref a1)])) _
      refine Jvm.RoadKit.acmp (g := (mkF m 4 #[.val (.ref a1)] [(.ref w_UPDATE_BEFORE), (.ref a1)])) X1 hx rfl rfl rfl (pc0 := 4) (pc' := 7) (same := false) rfl (hb hby d2_4) rfl (decide_eq_false fun q => hc4_3 (Value.ref.inj q)) (by decide) (by decide) ?_
      show Steps p.tables e below (T1.setTop (mkF m 7 #[.val (.ref a1)] [])) _
      refine XS.aloadN X1.here hx rfl (hb hby d2_7) rfl rfl ?_
      show Steps p.tables e below (T1.setTop (mkF m 8 #[.val (.ref a1)] [(.ref a1)])) _
      refine st4 _ ?_
      exact kt
    by_cases hc11_6 : a1 = w_DELETE
    · obtain ⟨fs, hr, hrun, hended, hW, hsame⟩ := X4.leave (v := some (.int (1 : Int32))) (fun h => by rw [Bd.returns] at h; cases h)
      refine ⟨_, _, pre5 _ ?_, hrun, hended, _, _, rfl, ?_, ⟨_, rfl⟩, hW, hsame.mono (by decide) (by decide)⟩
      · show Steps p.tables e below (T4.setTop (mkF m 11 #[.val (.ref a1)] [(.ref w_DELETE), (.ref a1)])) _
        refine Jvm.RoadKit.acmp (g := (mkF m 11 #[.val (.ref a1)] [(.ref w_DELETE), (.ref a1)])) X4 hx rfl rfl rfl (pc0 := 11) (pc' := 14) (same := true) rfl (hb hby d2_11) rfl (decide_eq_true (congrArg Value.ref hc11_6)) (by decide) (by decide) ?_
        show Steps p.tables e below (T4.setTop (mkF m 14 #[.val (.ref a1)] [])) _
        refine XS.iconst X4.here hx rfl (hb hby d2_14) ?_
        show Steps p.tables e below (T4.setTop (mkF m 15 #[.val (.ref a1)] [(.int (1 : Int32))])) _
        refine XS.goto X4.here hx rfl (pc0 := 15) (pc' := 19) rfl (hb hby d2_15) (by decide) (by decide) ?_
        show Steps p.tables e below (T4.setTop (mkF m 19 #[.val (.ref a1)] [(.int (1 : Int32))])) _
        exact retN X4 hx (t := .boolean) Bd.returns (by simp) (hb hby d2_19) hr
      · show Q2 Z a1 w_UPDATE_BEFORE w_DELETE h0 n0 _ T4.heap _
        rw [e4]
        exact ⟨by rw [res2, if_neg hc4_3, if_pos hc11_6], rfl, rfl⟩
    · obtain ⟨fs, hr, hrun, hended, hW, hsame⟩ := X4.leave (v := some (.int (0 : Int32))) (fun h => by rw [Bd.returns] at h; cases h)
      refine ⟨_, _, pre5 _ ?_, hrun, hended, _, _, rfl, ?_, ⟨_, rfl⟩, hW, hsame.mono (by decide) (by decide)⟩
      · show Steps p.tables e below (T4.setTop (mkF m 11 #[.val (.ref a1)] [(.ref w_DELETE), (.ref a1)])) _
        refine Jvm.RoadKit.acmp (g := (mkF m 11 #[.val (.ref a1)] [(.ref w_DELETE), (.ref a1)])) X4 hx rfl rfl rfl (pc0 := 11) (pc' := 18) (same := false) rfl (hb hby d2_11) rfl (decide_eq_false fun q => hc11_6 (Value.ref.inj q)) (by decide) (by decide) ?_
        show Steps p.tables e below (T4.setTop (mkF m 18 #[.val (.ref a1)] [])) _
        refine XS.iconst X4.here hx rfl (hb hby d2_18) ?_
        show Steps p.tables e below (T4.setTop (mkF m 19 #[.val (.ref a1)] [(.int (0 : Int32))])) _
        exact retN X4 hx (t := .boolean) Bd.returns (by simp) (hb hby d2_19) hr
      · show Q2 Z a1 w_UPDATE_BEFORE w_DELETE h0 n0 _ T4.heap _
        rw [e4]
        exact ⟨by rw [res2, if_neg hc4_3, if_neg hc11_6], rfl, rfl⟩
theorem d3_0 : decode prog_28_method_6_code 0 = .ok (.aload_n 0, 1) := by decide +kernel
theorem d3_1 : decode prog_28_method_6_code 1 = .ok (.getfield 35, 3) := by decide +kernel
theorem d3_4 : decode prog_28_method_6_code 4 = .ok (.areturn, 1) := by decide +kernel
theorem ef3 (m : MethodId) (a1 : Addr) : entryFrame m #[(.ref a1)] 1 = (mkF m 0 #[.val (.ref a1)] []) := by first | (simp [entryFrame, mkF, argsToLocals, Value.category]; done) | rfl
def Q3 (Z : State) (a1 : Addr) (w_shortName_a1 : Addr) (h0 : Heap) (n0 : Nat) (v : Option Value) (h : Heap) (L : List Loc) : Prop := v = some (.ref w_shortName_a1) ∧ L = [] ∧ h = h0
set_option maxRecDepth 65536 in
set_option maxHeartbeats 40000000 in
theorem rm3 (l : Launch) (Z : State) (a0 : Array Value) (hw : ∀ d ∈ tables_1, d.before a0 Z = true) (ws : List Jvm.Cond) (a1 : Addr) (w_shortName_a1 : Addr) (h0 : Heap) (n0 : Nat) (Z0 : n0 ≤ h0.size) (F_shortName_a1 : Fld Z h0 a1 "com/example/tidemark/tidemark/table/RowKind" "shortName" "Ljava/lang/String;" (.ref w_shortName_a1)) :
    MetFree l (⟨"com/example/tidemark/tidemark/table/RowKind", "shortName", "()Ljava/lang/String;"⟩ : MethodName) (head1 (Jvm.Cond.code (⟨"com/example/tidemark/tidemark/table/RowKind", "shortName", "()Ljava/lang/String;"⟩ : MethodName) prog_28_method_6_code 1 (some (.object "java/lang/String")) :: ws) ({ frames := 0, cells := 0, slots := 0, locals := 0 } : Room)) (fun a U => a = #[(.ref a1)] ∧ Z.Warmed39 U.vm ∧ U.heap = h0) (fun _ _ _ _ _ => True) (fun _ U o U' => ∃ v L, o = .returned v ∧ Q3 Z a1 w_shortName_a1 h0 n0 v U'.heap L ∧ FrameEnd U o U' L ({ frames := 0, cells := 0, slots := 0, locals := 0 } : Room).cells ({ frames := 0, cells := 0, slots := 0, locals := 0 } : Room).slots) := by
  refine MetFree.of_bodySF (plainFor_of_name pn4) hisR ?_
  intro p e s m args below meth c s₁ Bd hml0 hP hK
  obtain ⟨rfl, hZ, hh⟩ := hP
  have hx := Bd.exec
  have hby := Bd.bytes
  have hml : c.maxLocals = 1 := hml0
  have hown : s.vm.findClass "com/example/tidemark/tidemark/table/RowKind" = some m.cls := findClass_of_methodNamed Bd.named
  have hnm := (name_of_methodNamed Bd.named Bd.method).1
  have X0 : Stand p l e ({ frames := 0, cells := 0, slots := 0, locals := 0 } : Room) s m #[(.ref a1)] below meth c s₁ [] 0 0 := Stand.of_body Bd
  have e0 : s₁.heap = h0 := by rw [← hh, Bd.state]; rfl
  have N0 := Fr.nil n0
  have pre0 : ∀ t, Steps p.tables e below (s₁.setTop (mkF m 0 #[.val (.ref a1)] [])) t → Steps p.tables e below (s₁.setTop (entryFrame m #[(.ref a1)] 1)) t := fun t k => castTop (ef3 m a1) k
  obtain ⟨T1, X1, e1, st1⟩ := getF X0 hx hZ hown (host := "") (Or.inl (hw _ (List.mem_of_getElem? (i := 21) rfl))) Via.refl e0 F_shortName_a1 (g := (mkF m 1 #[.val (.ref a1)] [(.ref a1)])) rfl rfl (hb hby d3_1)
  obtain ⟨fs, hr, hrun, hended, hW, hsame⟩ := X1.leave (v := some (.ref w_shortName_a1)) (fun h => by rw [Bd.returns] at h; cases h)
  refine ⟨_, _, pre0 _ ?_, hrun, hended, _, _, rfl, ?_, ⟨_, rfl⟩, hW, hsame.mono (by decide) (by decide)⟩
  · show Steps p.tables e below (s₁.setTop (mkF m 0 #[.val (.ref a1)] [])) _
    refine XS.aloadN X0.here hx rfl (hb hby d3_0) rfl rfl ?_
    show Steps p.tables e below (s₁.setTop (mkF m 1 #[.val (.ref a1)] [(.ref a1)])) _
    refine st1 _ ?_
    show Steps p.tables e below (T1.setTop (mkF m 4 #[.val (.ref a1)] [(.ref w_shortName_a1)])) _
    exact retOut X1 hx Bd.returns rfl (Or.inr (Or.inr (Or.inr (Or.inr ⟨rfl, rfl, rfl⟩)))) (hb hby d3_4) hr
  · show Q3 Z a1 w_shortName_a1 h0 n0 _ T1.heap _
    rw [e1]
    exact ⟨rfl, rfl, rfl⟩
def own4a (i : Int32) (v0 v1 v2 v3 : Addr) : Addr := if i = (0 : Int32) then v0 else if i = (1 : Int32) then v1 else if i = (2 : Int32) then v2 else v3
def own4k (i : Int32) (v0 v1 v2 v3 : ClassId) : ClassId := if i = (0 : Int32) then v0 else if i = (1 : Int32) then v1 else if i = (2 : Int32) then v2 else v3
def own4i (i : Int32) (v0 v1 v2 v3 : Int32) : Int32 := if i = (0 : Int32) then v0 else if i = (1 : Int32) then v1 else if i = (2 : Int32) then v2 else v3
theorem own_range_4 {i : Int32} (h0 : 0 ≤ i.toInt) (h1 : i.toInt < 4) : i = (0 : Int32) ∨ i = (1 : Int32) ∨ i = (2 : Int32) ∨ i = (3 : Int32) := by
  have h : i.toInt = 0 ∨ i.toInt = 1 ∨ i.toInt = 2 ∨ i.toInt = 3 := by omega
  rcases h with h | h | h | h
  · exact Or.inl (Int32.toInt_inj.mp (h.trans (by decide)))
  · exact Or.inr (Or.inl (Int32.toInt_inj.mp (h.trans (by decide))))
  · exact Or.inr (Or.inr (Or.inl (Int32.toInt_inj.mp (h.trans (by decide)))))
  · exact Or.inr (Or.inr (Or.inr ((Int32.toInt_inj.mp (h.trans (by decide))))))
theorem own_pk (i : Int32) (w_INSERT w_UPDATE_BEFORE w_UPDATE_AFTER w_DELETE : Addr) (hr : i = (0 : Int32) ∨ i = (1 : Int32) ∨ i = (2 : Int32) ∨ i = (3 : Int32)) : (res1 i w_INSERT w_UPDATE_BEFORE w_UPDATE_AFTER w_DELETE) = own4a i w_INSERT w_UPDATE_BEFORE w_UPDATE_AFTER w_DELETE := by
  rcases hr with rfl | rfl | rfl | rfl <;> rfl
theorem own_exa {Z : State} {h : Heap} {C : String} (i : Int32) (hr : i = (0 : Int32) ∨ i = (1 : Int32) ∨ i = (2 : Int32) ∨ i = (3 : Int32)) {a b c d : Addr} (E0 : Exa Z h a C) (E1 : Exa Z h b C) (E2 : Exa Z h c C) (E3 : Exa Z h d C) : Exa Z h (own4a i a b c d) C := by
  rcases hr with rfl | rfl | rfl | rfl <;> assumption
theorem own_fldr {Z : State} {h : Heap} {C n dd : String} (i : Int32) (hr : i = (0 : Int32) ∨ i = (1 : Int32) ∨ i = (2 : Int32) ∨ i = (3 : Int32)) {a b c d a' b' c' d' : Addr} (E0 : Fld Z h a C n dd (.ref a')) (E1 : Fld Z h b C n dd (.ref b')) (E2 : Fld Z h c C n dd (.ref c')) (E3 : Fld Z h d C n dd (.ref d')) : Fld Z h (own4a i a b c d) C n dd (.ref (own4a i a' b' c' d')) := by
  rcases hr with rfl | rfl | rfl | rfl <;> assumption
theorem own_fldv {Z : State} {h : Heap} {C n dd : String} {v : Value} (i : Int32) (hr : i = (0 : Int32) ∨ i = (1 : Int32) ∨ i = (2 : Int32) ∨ i = (3 : Int32)) {a b c d : Addr} (E0 : Fld Z h a C n dd v) (E1 : Fld Z h b C n dd v) (E2 : Fld Z h c C n dd v) (E3 : Fld Z h d C n dd v) : Fld Z h (own4a i a b c d) C n dd v := by
  rcases hr with rfl | rfl | rfl | rfl <;> assumption
theorem own_arv2 {Z : State} {h : Heap} (i : Int32) (hr : i = (0 : Int32) ∨ i = (1 : Int32) ∨ i = (2 : Int32) ∨ i = (3 : Int32)) {a b c d : Addr} {k0 k1 k2 k3 : ClassId} {x0 x1 x2 x3 y0 y1 y2 y3 : Int32} (E0 : Arv Z h a k0 .byte (2 : Int32) [(.int x0), (.int y0)] (.int (0 : Int32))) (E1 : Arv Z h b k1 .byte (2 : Int32) [(.int x1), (.int y1)] (.int (0 : Int32))) (E2 : Arv Z h c k2 .byte (2 : Int32) [(.int x2), (.int y2)] (.int (0 : Int32))) (E3 : Arv Z h d k3 .byte (2 : Int32) [(.int x3), (.int y3)] (.int (0 : Int32))) :
    Arv Z h (own4a i a b c d) (own4k i k0 k1 k2 k3) .byte (2 : Int32) [(.int (own4i i x0 x1 x2 x3)), (.int (own4i i y0 y1 y2 y3))] (.int (0 : Int32)) := by
  rcases hr with rfl | rfl | rfl | rfl <;> assumption
theorem own_r3 (x : Int32) : (x &&& (3 : Int32)) = (0 : Int32) ∨ (x &&& (3 : Int32)) = (1 : Int32) ∨ (x &&& (3 : Int32)) = (2 : Int32) ∨ (x &&& (3 : Int32)) = (3 : Int32) := by
  have e : (x &&& (3 : Int32)).toInt = x.toInt % (2 ^ 2 : Nat) := c_mask x _ 2 (by decide) (by decide)
  exact own_range_4 (i := x &&& (3 : Int32)) (by omega) (by omega)
def mg0_11_s0 (p1 : Int32) : Int32 := if (p1 &&& (3 : Int32)) = (1 : Int32) then (1 : Int32) else if (p1 &&& (3 : Int32)) = (3 : Int32) then (1 : Int32) else (0 : Int32)
def mg0_41_s0 (p1 : Int32) : Int32 := if (nar .char (nar .char (((own4i (p1 &&& (3 : Int32)) (43 : Int32) (45 : Int32) (43 : Int32) (45 : Int32)) &&& (255 : Int32)).toUInt32.toUInt16.toUInt32.toInt32))) = (45 : Int32) then (1 : Int32) else (0 : Int32)
def res0 (p1 : Int32) (w_INSERT : Addr) (w_UPDATE_BEFORE : Addr) (w_UPDATE_AFTER : Addr) (w_DELETE : Addr) : Int32 := if (res2 (own4a (p1 &&& (3 : Int32)) w_INSERT w_UPDATE_BEFORE w_UPDATE_AFTER w_DELETE) w_UPDATE_BEFORE w_DELETE) = (mg0_11_s0 p1) then (if (res2 (own4a (p1 &&& (3 : Int32)) w_INSERT w_UPDATE_BEFORE w_UPDATE_AFTER w_DELETE) w_UPDATE_BEFORE w_DELETE) = (mg0_41_s0 p1) then (1 : Int32) else (0 : Int32)) else (0 : Int32)
theorem pd4 : parseMethodDescriptor "(I)Lcom/example/tidemark/tidemark/table/RowKind;" = some ⟨[.int], some (.object "com/example/tidemark/tidemark/table/RowKind")⟩ := by decide +kernel
theorem pd5 : parseMethodDescriptor "()Ljava/lang/String;" = some ⟨[], some (.object "java/lang/String")⟩ := by decide +kernel
theorem pd6 : parseMethodDescriptor "(I)C" = some ⟨[.int], some .char⟩ := by decide +kernel
theorem ef0 (m : MethodId) (p1 : Int32) : entryFrame m #[(.int p1)] maxLocals = (mkF m 0 #[.val (.int p1), .unset, .unset, .unset, .unset, .unset] []) := by first | (simp [entryFrame, mkF, argsToLocals, Value.category, maxLocals]; done) | rfl
def Q0 (Z : State) (p1 : Int32) (w_INSERT : Addr) (w_UPDATE_BEFORE : Addr) (w_UPDATE_AFTER : Addr) (w_DELETE : Addr) (w_INSERT_shortName : Addr) (w_INSERT_shortName_value : Addr) (k_INSERT : ClassId) (w_UPDATE_BEFORE_shortName : Addr) (w_UPDATE_BEFORE_shortName_value : Addr) (k_UPDATE_BEFORE : ClassId) (w_UPDATE_AFTER_shortName : Addr) (w_UPDATE_AFTER_shortName_value : Addr) (k_UPDATE_AFTER : ClassId) (w_DELETE_shortName : Addr) (w_DELETE_shortName_value : Addr) (k_DELETE : ClassId) (w_SIOOBE_FORMATTER : Value) (w_COMPACT_STRINGS : Int32) (h0 : Heap) (n0 : Nat) (v : Option Value) (h : Heap) (L : List Loc) : Prop := v = some (.int (res0 p1 w_INSERT w_UPDATE_BEFORE w_UPDATE_AFTER w_DELETE)) ∧ Fr n0 L
set_option maxRecDepth 65536 in
set_option maxHeartbeats 40000000 in
theorem rm0 (l : Launch) (Z : State) (a0 : Array Value) (hw : ∀ d ∈ tables_1, d.before a0 Z = true) (ws : List Jvm.Cond) (p1 : Int32) (w_INSERT : Addr) (w_UPDATE_BEFORE : Addr) (w_UPDATE_AFTER : Addr) (w_DELETE : Addr) (w_INSERT_shortName : Addr) (w_INSERT_shortName_value : Addr) (k_INSERT : ClassId) (w_UPDATE_BEFORE_shortName : Addr) (w_UPDATE_BEFORE_shortName_value : Addr) (k_UPDATE_BEFORE : ClassId) (w_UPDATE_AFTER_shortName : Addr) (w_UPDATE_AFTER_shortName_value : Addr) (k_UPDATE_AFTER : ClassId) (w_DELETE_shortName : Addr) (w_DELETE_shortName_value : Addr) (k_DELETE : ClassId) (w_SIOOBE_FORMATTER : Value) (w_COMPACT_STRINGS : Int32) (h0 : Heap) (n0 : Nat) (Z0 : n0 ≤ h0.size) (S_INSERT : Sta Z h0 "com/example/tidemark/tidemark/table/RowKind" "INSERT" "Lcom/example/tidemark/tidemark/table/RowKind;" (.ref w_INSERT)) (E_w_INSERT : Exa Z h0 w_INSERT "com/example/tidemark/tidemark/table/RowKind") (S_UPDATE_BEFORE : Sta Z h0 "com/example/tidemark/tidemark/table/RowKind" "UPDATE_BEFORE" "Lcom/example/tidemark/tidemark/table/RowKind;" (.ref w_UPDATE_BEFORE)) (E_w_UPDATE_BEFORE : Exa Z h0 w_UPDATE_BEFORE "com/example/tidemark/tidemark/table/RowKind") (S_UPDATE_AFTER : Sta Z h0 "com/example/tidemark/tidemark/table/RowKind" "UPDATE_AFTER" "Lcom/example/tidemark/tidemark/table/RowKind;" (.ref w_UPDATE_AFTER)) (E_w_UPDATE_AFTER : Exa Z h0 w_UPDATE_AFTER "com/example/tidemark/tidemark/table/RowKind") (S_DELETE : Sta Z h0 "com/example/tidemark/tidemark/table/RowKind" "DELETE" "Lcom/example/tidemark/tidemark/table/RowKind;" (.ref w_DELETE)) (E_w_DELETE : Exa Z h0 w_DELETE "com/example/tidemark/tidemark/table/RowKind") (F_shortName_w_INSERT : Fld Z h0 w_INSERT "com/example/tidemark/tidemark/table/RowKind" "shortName" "Ljava/lang/String;" (.ref w_INSERT_shortName)) (E_w_INSERT_shortName : Exa Z h0 w_INSERT_shortName "java/lang/String") (F_coder_w_INSERT_shortName : Fld Z h0 w_INSERT_shortName "java/lang/String" "coder" "B" (.int (0 : Int32))) (F_value_w_INSERT_shortName : Fld Z h0 w_INSERT_shortName "java/lang/String" "value" "[B" (.ref w_INSERT_shortName_value)) (V_w_INSERT_shortName_value : Arv Z h0 w_INSERT_shortName_value k_INSERT .byte (2 : Int32) [(.int (43 : Int32)), (.int (73 : Int32))] (.int (0 : Int32))) (F_shortName_w_UPDATE_BEFORE : Fld Z h0 w_UPDATE_BEFORE "com/example/tidemark/tidemark/table/RowKind" "shortName" "Ljava/lang/String;" (.ref w_UPDATE_BEFORE_shortName)) (E_w_UPDATE_BEFORE_shortName : Exa Z h0 w_UPDATE_BEFORE_shortName "java/lang/String") (F_coder_w_UPDATE_BEFORE_shortName : Fld Z h0 w_UPDATE_BEFORE_shortName "java/lang/String" "coder" "B" (.int (0 : Int32))) (F_value_w_UPDATE_BEFORE_shortName : Fld Z h0 w_UPDATE_BEFORE_shortName "java/lang/String" "value" "[B" (.ref w_UPDATE_BEFORE_shortName_value)) (V_w_UPDATE_BEFORE_shortName_value : Arv Z h0 w_UPDATE_BEFORE_shortName_value k_UPDATE_BEFORE .byte (2 : Int32) [(.int (45 : Int32)), (.int (85 : Int32))] (.int (0 : Int32))) (F_shortName_w_UPDATE_AFTER : Fld Z h0 w_UPDATE_AFTER "com/example/tidemark/tidemark/table/RowKind" "shortName" "Ljava/lang/String;" (.ref w_UPDATE_AFTER_shortName)) (E_w_UPDATE_AFTER_shortName : Exa Z h0 w_UPDATE_AFTER_shortName "java/lang/String") (F_coder_w_UPDATE_AFTER_shortName : Fld Z h0 w_UPDATE_AFTER_shortName "java/lang/String" "coder" "B" (.int (0 : Int32))) (F_value_w_UPDATE_AFTER_shortName : Fld Z h0 w_UPDATE_AFTER_shortName "java/lang/String" "value" "[B" (.ref w_UPDATE_AFTER_shortName_value)) (V_w_UPDATE_AFTER_shortName_value : Arv Z h0 w_UPDATE_AFTER_shortName_value k_UPDATE_AFTER .byte (2 : Int32) [(.int (43 : Int32)), (.int (85 : Int32))] (.int (0 : Int32))) (F_shortName_w_DELETE : Fld Z h0 w_DELETE "com/example/tidemark/tidemark/table/RowKind" "shortName" "Ljava/lang/String;" (.ref w_DELETE_shortName)) (E_w_DELETE_shortName : Exa Z h0 w_DELETE_shortName "java/lang/String") (F_coder_w_DELETE_shortName : Fld Z h0 w_DELETE_shortName "java/lang/String" "coder" "B" (.int (0 : Int32))) (F_value_w_DELETE_shortName : Fld Z h0 w_DELETE_shortName "java/lang/String" "value" "[B" (.ref w_DELETE_shortName_value)) (V_w_DELETE_shortName_value : Arv Z h0 w_DELETE_shortName_value k_DELETE .byte (2 : Int32) [(.int (45 : Int32)), (.int (68 : Int32))] (.int (0 : Int32))) (S_SIOOBE_FORMATTER : Sta Z h0 "jdk/internal/util/Preconditions" "SIOOBE_FORMATTER" "Ljava/util/function/BiFunction;" w_SIOOBE_FORMATTER) (S_COMPACT_STRINGS : Sta Z h0 "java/lang/String" "COMPACT_STRINGS" "Z" (.int w_COMPACT_STRINGS)) (hSF : w_SIOOBE_FORMATTER.isRef = true) (hCS : ¬ (w_COMPACT_STRINGS = (0 : Int32))) :
    MetFree l x (head1 (Jvm.Cond.code x code maxLocals ret :: ws) room_1) (fun a U => a = #[(.int p1)] ∧ Z.Warmed39 U.vm ∧ U.heap = h0) (fun _ _ _ _ _ => True) (fun _ U o U' => ∃ v L, o = .returned v ∧ Q0 Z p1 w_INSERT w_UPDATE_BEFORE w_UPDATE_AFTER w_DELETE w_INSERT_shortName w_INSERT_shortName_value k_INSERT w_UPDATE_BEFORE_shortName w_UPDATE_BEFORE_shortName_value k_UPDATE_BEFORE w_UPDATE_AFTER_shortName w_UPDATE_AFTER_shortName_value k_UPDATE_AFTER w_DELETE_shortName w_DELETE_shortName_value k_DELETE w_SIOOBE_FORMATTER w_COMPACT_STRINGS h0 n0 v U'.heap L ∧ FrameEnd U o U' L room_1.cells room_1.slots) := by
  refine MetFree.of_bodySF (plainFor_of_name pn3) hisR ?_
  intro p e s m args below meth c s₁ Bd hml0 hP hK
  obtain ⟨rfl, hZ, hh⟩ := hP
  have hx := Bd.exec
  have hby := Bd.bytes
  have hml : c.maxLocals = 6 := hml0
  have hown : s.vm.findClass "com/example/tidemark/tidemark/table/RowKindIsRetractionPinLaw" = some m.cls := findClass_of_methodNamed Bd.named
  have hnm := (name_of_methodNamed Bd.named Bd.method).1
  have X0 : Stand p l e room_1 s m #[(.int p1)] below meth c s₁ [] 0 0 := Stand.of_body Bd
  have e0 : s₁.heap = h0 := by rw [← hh, Bd.state]; rfl
  have N0 := Fr.nil n0
  have pre0 : ∀ t, Steps p.tables e below (s₁.setTop (mkF m 0 #[.val (.int p1), .unset, .unset, .unset, .unset, .unset] [])) t → Steps p.tables e below (s₁.setTop (entryFrame m #[(.int p1)] maxLocals)) t := fun t k => castTop (ef0 m p1) k
  obtain ⟨_, _, ⟨T1, L1, k1, n1⟩, -, X1, ⟨Lc1, hQ1, l1, y1, z1⟩, st1⟩ := Jvm.LawKit.callS X0 hx (y := (⟨"com/example/tidemark/tidemark/table/RowKindIsRetractionPinLaw", "pick", "(I)Lcom/example/tidemark/tidemark/table/RowKind;"⟩ : MethodName)) hown (mvT hZ (hw _ (List.mem_of_getElem? (i := 0) rfl))) (mvT hZ (hw _ (List.mem_of_getElem? (i := 1) rfl))) (mvT hZ (hw _ (List.mem_of_getElem? (i := 2) rfl))) (mvT hZ (hw _ (List.mem_of_getElem? (i := 3) rfl))) (by decide) (backOf (W := 0) (rm1 l Z a0 hw [] (p1 &&& (3 : Int32)) w_INSERT w_UPDATE_BEFORE w_UPDATE_AFTER w_DELETE h0 n0 (Nat.le_trans Z0 (Keep.refl h0 []).1) S_INSERT S_UPDATE_BEFORE S_UPDATE_AFTER S_DELETE ) hZ (hw _ (List.mem_of_getElem? (i := 3) rfl)) (hw _ (List.mem_of_getElem? (i := 2) rfl)) (by decide) (by decide)) (g := (mkF m 5 #[.val (.int p1), .val (.int (p1 &&& (3 : Int32))), .unset, .unset, .unset, .unset] [(.int (p1 &&& (3 : Int32)))])) rfl (by rw [hml]; rfl) (argsL := [(.int (p1 &&& (3 : Int32)))]) (rest := []) (lenOf pd4 rfl) rfl (by show 2 * 0 + _ ≤ _; exact Nat.le_of_eq rfl) (hb hby at_5) (fun _ _ => ⟨rfl, e0, (by decide : 0 + 0 ≤ _), (by decide : 0 + 0 ≤ _)⟩)
  dsimp only [Pt.U, Pt.locs, Pt.cells, Pt.slots] at X1 l1 y1 z1 st1 hQ1
  subst l1 y1 z1
  obtain ⟨rfl, rfl, e1⟩ := hQ1
  have N1 := Fr.app N0 (Fr.nil n0)
  have hrg := own_r3 p1
  have hpk := own_pk (p1 &&& (3 : Int32)) w_INSERT w_UPDATE_BEFORE w_UPDATE_AFTER w_DELETE hrg
  rw [hpk] at st1
  have E_r := own_exa (p1 &&& (3 : Int32)) hrg E_w_INSERT E_w_UPDATE_BEFORE E_w_UPDATE_AFTER E_w_DELETE
  have F_r := own_fldr (p1 &&& (3 : Int32)) hrg F_shortName_w_INSERT F_shortName_w_UPDATE_BEFORE F_shortName_w_UPDATE_AFTER F_shortName_w_DELETE
  have E_s := own_exa (p1 &&& (3 : Int32)) hrg E_w_INSERT_shortName E_w_UPDATE_BEFORE_shortName E_w_UPDATE_AFTER_shortName E_w_DELETE_shortName
  have F_sc := own_fldv (p1 &&& (3 : Int32)) hrg F_coder_w_INSERT_shortName F_coder_w_UPDATE_BEFORE_shortName F_coder_w_UPDATE_AFTER_shortName F_coder_w_DELETE_shortName
  have F_sv := own_fldr (p1 &&& (3 : Int32)) hrg F_value_w_INSERT_shortName F_value_w_UPDATE_BEFORE_shortName F_value_w_UPDATE_AFTER_shortName F_value_w_DELETE_shortName
  have V_s := own_arv2 (p1 &&& (3 : Int32)) hrg V_w_INSERT_shortName_value V_w_UPDATE_BEFORE_shortName_value V_w_UPDATE_AFTER_shortName_value V_w_DELETE_shortName_value
  have pre2 : ∀ t, Steps p.tables e below (T1.setTop (mkF m 11 #[.val (.int p1), .val (.int (p1 &&& (3 : Int32))), .val (.ref (own4a (p1 &&& (3 : Int32)) w_INSERT w_UPDATE_BEFORE w_UPDATE_AFTER w_DELETE)), .unset, .unset, .unset] [(.int (1 : Int32)), (.int (p1 &&& (3 : Int32)))])) t → Steps p.tables e below (s₁.setTop (entryFrame m #[(.int p1)] maxLocals)) t := by
    intro t kt
    refine pre0 _ ?_
    show Steps p.tables e below (s₁.setTop (mkF m 0 #[.val (.int p1), .unset, .unset, .unset, .unset, .unset] [])) _
    refine XS.iloadN X0.here hx rfl (hb hby at_0) rfl ?_
    show Steps p.tables e below (s₁.setTop (mkF m 1 #[.val (.int p1), .unset, .unset, .unset, .unset, .unset] [(.int p1)])) _
    refine XS.iconst X0.here hx rfl (hb hby at_1) ?_
    show Steps p.tables e below (s₁.setTop (mkF m 2 #[.val (.int p1), .unset, .unset, .unset, .unset, .unset] [(.int (3 : Int32)), (.int p1)])) _
    refine XS.iand X0.here hx rfl (hb hby at_2) rfl ?_
    show Steps p.tables e below (s₁.setTop (mkF m 3 #[.val (.int p1), .unset, .unset, .unset, .unset, .unset] [(.int (p1 &&& (3 : Int32)))])) _
    refine XS.istoreN X0.here hx rfl (hb hby at_3) rfl (l' := #[.val (.int p1), .val (.int (p1 &&& (3 : Int32))), .unset, .unset, .unset, .unset]) rfl ?_
    show Steps p.tables e below (s₁.setTop (mkF m 4 #[.val (.int p1), .val (.int (p1 &&& (3 : Int32))), .unset, .unset, .unset, .unset] [])) _
    refine XS.iloadN X0.here hx rfl (hb hby at_4) rfl ?_
    show Steps p.tables e below (s₁.setTop (mkF m 5 #[.val (.int p1), .val (.int (p1 &&& (3 : Int32))), .unset, .unset, .unset, .unset] [(.int (p1 &&& (3 : Int32)))])) _
    refine st1 _ ?_
    show Steps p.tables e below (T1.setTop (mkF m 8 #[.val (.int p1), .val (.int (p1 &&& (3 : Int32))), .unset, .unset, .unset, .unset] [(.ref (own4a (p1 &&& (3 : Int32)) w_INSERT w_UPDATE_BEFORE w_UPDATE_AFTER w_DELETE))])) _
    refine XS.astoreN X1.here hx rfl (hb hby at_8) rfl rfl (l' := #[.val (.int p1), .val (.int (p1 &&& (3 : Int32))), .val (.ref (own4a (p1 &&& (3 : Int32)) w_INSERT w_UPDATE_BEFORE w_UPDATE_AFTER w_DELETE)), .unset, .unset, .unset]) rfl ?_
    show Steps p.tables e below (T1.setTop (mkF m 9 #[.val (.int p1), .val (.int (p1 &&& (3 : Int32))), .val (.ref (own4a (p1 &&& (3 : Int32)) w_INSERT w_UPDATE_BEFORE w_UPDATE_AFTER w_DELETE)), .unset, .unset, .unset] [])) _
    refine XS.iloadN X1.here hx rfl (hb hby at_9) rfl ?_
    show Steps p.tables e below (T1.setTop (mkF m 10 #[.val (.int p1), .val (.int (p1 &&& (3 : Int32))), .val (.ref (own4a (p1 &&& (3 : Int32)) w_INSERT w_UPDATE_BEFORE w_UPDATE_AFTER w_DELETE)), .unset, .unset, .unset] [(.int (p1 &&& (3 : Int32)))])) _
    refine XS.iconst X1.here hx rfl (hb hby at_10) ?_
    exact kt
  have pre6 : ∀ t, Steps p.tables e below (T1.setTop (mkF m 24 #[.val (.int p1), .val (.int (p1 &&& (3 : Int32))), .val (.ref (own4a (p1 &&& (3 : Int32)) w_INSERT w_UPDATE_BEFORE w_UPDATE_AFTER w_DELETE)), .unset, .unset, .unset] [(.int (mg0_11_s0 p1))])) t → Steps p.tables e below (s₁.setTop (entryFrame m #[(.int p1)] maxLocals)) t := by
    intro t kt
    by_cases hc11_3 : (p1 &&& (3 : Int32)) = (1 : Int32)
    · rw [show (mg0_11_s0 p1) = (1 : Int32) from by rw [mg0_11_s0, if_pos hc11_3]] at kt
      refine pre2 _ ?_
      show Steps p.tables e below (T1.setTop (mkF m 11 #[.val (.int p1), .val (.int (p1 &&& (3 : Int32))), .val (.ref (own4a (p1 &&& (3 : Int32)) w_INSERT w_UPDATE_BEFORE w_UPDATE_AFTER w_DELETE)), .unset, .unset, .unset] [(.int (1 : Int32)), (.int (p1 &&& (3 : Int32)))])) _
      refine XS.icmpYes X1.here hx rfl (pc0 := 11) (pc' := 19) rfl (hb hby at_11) rfl (teq hc11_3).1 (by decide) (by decide) ?_
      show Steps p.tables e below (T1.setTop (mkF m 19 #[.val (.int p1), .val (.int (p1 &&& (3 : Int32))), .val (.ref (own4a (p1 &&& (3 : Int32)) w_INSERT w_UPDATE_BEFORE w_UPDATE_AFTER w_DELETE)), .unset, .unset, .unset] [])) _
      refine XS.iconst X1.here hx rfl (hb hby at_19) ?_
      show Steps p.tables e below (T1.setTop (mkF m 20 #[.val (.int p1), .val (.int (p1 &&& (3 : Int32))), .val (.ref (own4a (p1 &&& (3 : Int32)) w_INSERT w_UPDATE_BEFORE w_UPDATE_AFTER w_DELETE)), .unset, .unset, .unset] [(.int (1 : Int32))])) _
      refine XS.goto X1.here hx rfl (pc0 := 20) (pc' := 24) rfl (hb hby at_20) (by decide) (by decide) ?_
      exact kt
    · have pre4 : ∀ t, Steps p.tables e below (T1.setTop (mkF m 16 #[.val (.int p1), .val (.int (p1 &&& (3 : Int32))), .val (.ref (own4a (p1 &&& (3 : Int32)) w_INSERT w_UPDATE_BEFORE w_UPDATE_AFTER w_DELETE)), .unset, .unset, .unset] [(.int (3 : Int32)), (.int (p1 &&& (3 : Int32)))])) t → Steps p.tables e below (s₁.setTop (entryFrame m #[(.int p1)] maxLocals)) t := by
        intro t kt
        refine pre2 _ ?_
        show Steps p.tables e below (T1.setTop (mkF m 11 #[.val (.int p1), .val (.int (p1 &&& (3 : Int32))), .val (.ref (own4a (p1 &&& (3 : Int32)) w_INSERT w_UPDATE_BEFORE w_UPDATE_AFTER w_DELETE)), .unset, .unset, .unset] [(.int (1 : Int32)), (.int (p1 &&& (3 : Int32)))])) _
        refine XS.icmpNo X1.here hx rfl (hb hby at_11) rfl (feq hc11_3).1 ?_
        show Steps p.tables e below (T1.setTop (mkF m 14 #[.val (.int p1), .val (.int (p1 &&& (3 : Int32))), .val (.ref (own4a (p1 &&& (3 : Int32)) w_INSERT w_UPDATE_BEFORE w_UPDATE_AFTER w_DELETE)), .unset, .unset, .unset] [])) _
        refine XS.iloadN X1.here hx rfl (hb hby at_14) rfl ?_
        show Steps p.tables e below (T1.setTop (mkF m 15 #[.val (.int p1), .val (.int (p1 &&& (3 : Int32))), .val (.ref (own4a (p1 &&& (3 : Int32)) w_INSERT w_UPDATE_BEFORE w_UPDATE_AFTER w_DELETE)), .unset, .unset, .unset] [(.int (p1 &&& (3 : Int32)))])) _
        refine XS.iconst X1.here hx rfl (hb hby at_15) ?_
        exact kt
      by_cases hc16_5 : (p1 &&& (3 : Int32)) = (3 : Int32)
      · rw [show (mg0_11_s0 p1) = (1 : Int32) from by rw [mg0_11_s0, if_neg hc11_3, if_pos hc16_5]] at kt
        refine pre4 _ ?_
        show Steps p.tables e below (T1.setTop (mkF m 16 #[.val (.int p1), .val (.int (p1 &&& (3 : Int32))), .val (.ref (own4a (p1 &&& (3 : Int32)) w_INSERT w_UPDATE_BEFORE w_UPDATE_AFTER w_DELETE)), .unset, .unset, .unset] [(.int (3 : Int32)), (.int (p1 &&& (3 : Int32)))])) _
        refine XS.icmpNo X1.here hx rfl (hb hby at_16) rfl (teq hc16_5).2 ?_
        show Steps p.tables e below (T1.setTop (mkF m 19 #[.val (.int p1), .val (.int (p1 &&& (3 : Int32))), .val (.ref (own4a (p1 &&& (3 : Int32)) w_INSERT w_UPDATE_BEFORE w_UPDATE_AFTER w_DELETE)), .unset, .unset, .unset] [])) _
        refine XS.iconst X1.here hx rfl (hb hby at_19) ?_
        show Steps p.tables e below (T1.setTop (mkF m 20 #[.val (.int p1), .val (.int (p1 &&& (3 : Int32))), .val (.ref (own4a (p1 &&& (3 : Int32)) w_INSERT w_UPDATE_BEFORE w_UPDATE_AFTER w_DELETE)), .unset, .unset, .unset] [(.int (1 : Int32))])) _
        refine XS.goto X1.here hx rfl (pc0 := 20) (pc' := 24) rfl (hb hby at_20) (by decide) (by decide) ?_
        exact kt
      · rw [show (mg0_11_s0 p1) = (0 : Int32) from by rw [mg0_11_s0, if_neg hc11_3, if_neg hc16_5]] at kt
        refine pre4 _ ?_
        show Steps p.tables e below (T1.setTop (mkF m 16 #[.val (.int p1), .val (.int (p1 &&& (3 : Int32))), .val (.ref (own4a (p1 &&& (3 : Int32)) w_INSERT w_UPDATE_BEFORE w_UPDATE_AFTER w_DELETE)), .unset, .unset, .unset] [(.int (3 : Int32)), (.int (p1 &&& (3 : Int32)))])) _
        refine XS.icmpYes X1.here hx rfl (pc0 := 16) (pc' := 23) rfl (hb hby at_16) rfl (feq hc16_5).2 (by decide) (by decide) ?_
        show Steps p.tables e below (T1.setTop (mkF m 23 #[.val (.int p1), .val (.int (p1 &&& (3 : Int32))), .val (.ref (own4a (p1 &&& (3 : Int32)) w_INSERT w_UPDATE_BEFORE w_UPDATE_AFTER w_DELETE)), .unset, .unset, .unset] [])) _
        refine XS.iconst X1.here hx rfl (hb hby at_23) ?_
        exact kt
  obtain ⟨cq7, kq7, q7a, q7b, q7c⟩ := isOf hZ e1 E_r
  obtain ⟨_, _, ⟨T7, L7, k7, n7⟩, -, X7, ⟨Lc7, hQ7, l7, y7, z7⟩, st7⟩ := X1.virtualBack hx (y := (⟨"com/example/tidemark/tidemark/table/RowKind", "isRetraction", "()Z"⟩ : MethodName)) (z := (⟨"com/example/tidemark/tidemark/table/RowKind", "isRetraction", "()Z"⟩ : MethodName)) hown (mvT hZ (hw _ (List.mem_of_getElem? (i := 7) rfl))) (mvT hZ (hw _ (List.mem_of_getElem? (i := 8) rfl))) (notFace_of_selects (args := #[]) (mvT hZ (hw _ (List.mem_of_getElem? (i := 10) rfl)))) (mvT hZ (hw _ (List.mem_of_getElem? (i := 10) rfl))) (mvT hZ (hw _ (List.mem_of_getElem? (i := 9) rfl))) (by decide) (backOf (W := 0) (rm2 l Z a0 hw [] (own4a (p1 &&& (3 : Int32)) w_INSERT w_UPDATE_BEFORE w_UPDATE_AFTER w_DELETE) w_UPDATE_BEFORE w_DELETE h0 n0 (Nat.le_trans Z0 (Keep.refl h0 []).1) S_UPDATE_BEFORE S_DELETE ) hZ (hw _ (List.mem_of_getElem? (i := 11) rfl)) (hw _ (List.mem_of_getElem? (i := 5) rfl)) (by decide) (by decide)) q7a q7c (g := (mkF m 26 #[.val (.int p1), .val (.int (p1 &&& (3 : Int32))), .val (.ref (own4a (p1 &&& (3 : Int32)) w_INSERT w_UPDATE_BEFORE w_UPDATE_AFTER w_DELETE)), .val (.int (mg0_11_s0 p1)), .unset, .unset] [(.ref (own4a (p1 &&& (3 : Int32)) w_INSERT w_UPDATE_BEFORE w_UPDATE_AFTER w_DELETE))])) rfl (by rw [hml]; rfl) (Steps.refl _) (argsL := []) (rest := []) (lenOf pd2 rfl) rfl (by show 2 * 0 + _ ≤ _; exact Nat.le_of_eq rfl) (hb hby at_26) (fun _ _ => ⟨rfl, e1, (by decide : 0 + 0 ≤ _), (by decide : 0 + 0 ≤ _)⟩)
  dsimp only [Pt.U, Pt.locs, Pt.cells, Pt.slots] at X7 l7 y7 z7 st7 hQ7
  subst l7 y7 z7
  obtain ⟨rfl, rfl, e7⟩ := hQ7
  have N7 := Fr.app N1 (Fr.nil n0)
  obtain ⟨cq8, kq8, q8a, q8b, q8c⟩ := isOf hZ e7 E_r
  obtain ⟨_, _, ⟨T8, L8, k8, n8⟩, -, X8, ⟨Lc8, hQ8, l8, y8, z8⟩, st8⟩ := X7.virtualBack hx (y := (⟨"com/example/tidemark/tidemark/table/RowKind", "shortName", "()Ljava/lang/String;"⟩ : MethodName)) (z := (⟨"com/example/tidemark/tidemark/table/RowKind", "shortName", "()Ljava/lang/String;"⟩ : MethodName)) hown (mvT hZ (hw _ (List.mem_of_getElem? (i := 16) rfl))) (mvT hZ (hw _ (List.mem_of_getElem? (i := 17) rfl))) (notFace_of_selects (args := #[]) (mvT hZ (hw _ (List.mem_of_getElem? (i := 19) rfl)))) (mvT hZ (hw _ (List.mem_of_getElem? (i := 19) rfl))) (mvT hZ (hw _ (List.mem_of_getElem? (i := 18) rfl))) (by decide) (backOf (W := 0) (rm3 l Z a0 hw [] (own4a (p1 &&& (3 : Int32)) w_INSERT w_UPDATE_BEFORE w_UPDATE_AFTER w_DELETE) (own4a (p1 &&& (3 : Int32)) w_INSERT_shortName w_UPDATE_BEFORE_shortName w_UPDATE_AFTER_shortName w_DELETE_shortName) h0 n0 (Nat.le_trans Z0 (Keep.refl h0 []).1) F_r ) hZ (hw _ (List.mem_of_getElem? (i := 20) rfl)) (hw _ (List.mem_of_getElem? (i := 5) rfl)) (by decide) (by decide)) q8a q8c (g := (mkF m 32 #[.val (.int p1), .val (.int (p1 &&& (3 : Int32))), .val (.ref (own4a (p1 &&& (3 : Int32)) w_INSERT w_UPDATE_BEFORE w_UPDATE_AFTER w_DELETE)), .val (.int (mg0_11_s0 p1)), .val (.int (res2 (own4a (p1 &&& (3 : Int32)) w_INSERT w_UPDATE_BEFORE w_UPDATE_AFTER w_DELETE) w_UPDATE_BEFORE w_DELETE)), .unset] [(.ref (own4a (p1 &&& (3 : Int32)) w_INSERT w_UPDATE_BEFORE w_UPDATE_AFTER w_DELETE))])) rfl (by rw [hml]; rfl) (Steps.refl _) (argsL := []) (rest := []) (lenOf pd5 rfl) rfl (by show 2 * 0 + _ ≤ _; exact Nat.le_of_eq rfl) (hb hby at_32) (fun _ _ => ⟨rfl, e7, (by decide : 0 + 0 ≤ _), (by decide : 0 + 0 ≤ _)⟩)
  dsimp only [Pt.U, Pt.locs, Pt.cells, Pt.slots] at X8 l8 y8 z8 st8 hQ8
  subst l8 y8 z8
  obtain ⟨rfl, rfl, e8⟩ := hQ8
  have N8 := Fr.app N7 (Fr.nil n0)
  obtain ⟨cq9, kq9, q9a, q9b, q9c⟩ := isOf hZ e8 E_s
  obtain ⟨_, _, ⟨T9, L9, k9, n9⟩, -, X9, ⟨Lc9, hQ9, l9, y9, z9⟩, st9⟩ := X8.virtualBack hx (y := (⟨"java/lang/String", "charAt", "(I)C"⟩ : MethodName)) (z := (⟨"java/lang/String", "charAt", "(I)C"⟩ : MethodName)) hown (mvT hZ (hw _ (List.mem_of_getElem? (i := 23) rfl))) (mvT hZ (hw _ (List.mem_of_getElem? (i := 24) rfl))) (notFace_of_selects (args := #[]) (mvT hZ (hw _ (List.mem_of_getElem? (i := 26) rfl)))) (mvT hZ (hw _ (List.mem_of_getElem? (i := 26) rfl))) (mvT hZ (hw _ (List.mem_of_getElem? (i := 25) rfl))) (by decide) (backOf (W := 0) (rm4 l Z a0 hw [] (own4a (p1 &&& (3 : Int32)) w_INSERT_shortName w_UPDATE_BEFORE_shortName w_UPDATE_AFTER_shortName w_DELETE_shortName) (own4a (p1 &&& (3 : Int32)) w_INSERT_shortName_value w_UPDATE_BEFORE_shortName_value w_UPDATE_AFTER_shortName_value w_DELETE_shortName_value) (own4k (p1 &&& (3 : Int32)) k_INSERT k_UPDATE_BEFORE k_UPDATE_AFTER k_DELETE) (own4i (p1 &&& (3 : Int32)) (43 : Int32) (45 : Int32) (43 : Int32) (45 : Int32)) (own4i (p1 &&& (3 : Int32)) (73 : Int32) (85 : Int32) (85 : Int32) (68 : Int32)) w_SIOOBE_FORMATTER w_COMPACT_STRINGS h0 n0 (Nat.le_trans Z0 (Keep.refl h0 []).1) E_s F_sc F_sv V_s S_SIOOBE_FORMATTER S_COMPACT_STRINGS (hSF : w_SIOOBE_FORMATTER.isRef = true) (hCS : ¬ (w_COMPACT_STRINGS = (0 : Int32)))) hZ (hw _ (List.mem_of_getElem? (i := 28) rfl)) (hw _ (List.mem_of_getElem? (i := 27) rfl)) (by decide) (by decide)) q9a q9c (g := (mkF m 36 #[.val (.int p1), .val (.int (p1 &&& (3 : Int32))), .val (.ref (own4a (p1 &&& (3 : Int32)) w_INSERT w_UPDATE_BEFORE w_UPDATE_AFTER w_DELETE)), .val (.int (mg0_11_s0 p1)), .val (.int (res2 (own4a (p1 &&& (3 : Int32)) w_INSERT w_UPDATE_BEFORE w_UPDATE_AFTER w_DELETE) w_UPDATE_BEFORE w_DELETE)), .unset] [(.int (0 : Int32)), (.ref (own4a (p1 &&& (3 : Int32)) w_INSERT_shortName w_UPDATE_BEFORE_shortName w_UPDATE_AFTER_shortName w_DELETE_shortName))])) rfl (by rw [hml]; rfl) (Steps.refl _) (argsL := [(.int (0 : Int32))]) (rest := []) (lenOf pd6 rfl) rfl (by show 2 * 0 + _ ≤ _; exact Nat.le_of_eq rfl) (hb hby at_36) (fun _ _ => ⟨rfl, e8, (by decide : 0 + 0 ≤ _), (by decide : 0 + 0 ≤ _)⟩)
  dsimp only [Pt.U, Pt.locs, Pt.cells, Pt.slots] at X9 l9 y9 z9 st9 hQ9
  subst l9 y9 z9
  obtain ⟨rfl, rfl, e9⟩ := hQ9
  have N9 := Fr.app N8 (Fr.nil n0)
  have pre10 : ∀ t, Steps p.tables e below (T9.setTop (mkF m 41 #[.val (.int p1), .val (.int (p1 &&& (3 : Int32))), .val (.ref (own4a (p1 &&& (3 : Int32)) w_INSERT w_UPDATE_BEFORE w_UPDATE_AFTER w_DELETE)), .val (.int (mg0_11_s0 p1)), .val (.int (res2 (own4a (p1 &&& (3 : Int32)) w_INSERT w_UPDATE_BEFORE w_UPDATE_AFTER w_DELETE) w_UPDATE_BEFORE w_DELETE)), .unset] [(.int (45 : Int32)), (.int (nar .char (nar .char (((own4i (p1 &&& (3 : Int32)) (43 : Int32) (45 : Int32) (43 : Int32) (45 : Int32)) &&& (255 : Int32)).toUInt32.toUInt16.toUInt32.toInt32))))])) t → Steps p.tables e below (s₁.setTop (entryFrame m #[(.int p1)] maxLocals)) t := by
    intro t kt
    refine pre6 _ ?_
    show Steps p.tables e below (T1.setTop (mkF m 24 #[.val (.int p1), .val (.int (p1 &&& (3 : Int32))), .val (.ref (own4a (p1 &&& (3 : Int32)) w_INSERT w_UPDATE_BEFORE w_UPDATE_AFTER w_DELETE)), .unset, .unset, .unset] [(.int (mg0_11_s0 p1))])) _
    refine XS.istoreN X1.here hx rfl (hb hby at_24) rfl (l' := #[.val (.int p1), .val (.int (p1 &&& (3 : Int32))), .val (.ref (own4a (p1 &&& (3 : Int32)) w_INSERT w_UPDATE_BEFORE w_UPDATE_AFTER w_DELETE)), .val (.int (mg0_11_s0 p1)), .unset, .unset]) rfl ?_
    show Steps p.tables e below (T1.setTop (mkF m 25 #[.val (.int p1), .val (.int (p1 &&& (3 : Int32))), .val (.ref (own4a (p1 &&& (3 : Int32)) w_INSERT w_UPDATE_BEFORE w_UPDATE_AFTER w_DELETE)), .val (.int (mg0_11_s0 p1)), .unset, .unset] [])) _
    refine XS.aloadN X1.here hx rfl (hb hby at_25) rfl rfl ?_
    show Steps p.tables e below (T1.setTop (mkF m 26 #[.val (.int p1), .val (.int (p1 &&& (3 : Int32))), .val (.ref (own4a (p1 &&& (3 : Int32)) w_INSERT w_UPDATE_BEFORE w_UPDATE_AFTER w_DELETE)), .val (.int (mg0_11_s0 p1)), .unset, .unset] [(.ref (own4a (p1 &&& (3 : Int32)) w_INSERT w_UPDATE_BEFORE w_UPDATE_AFTER w_DELETE))])) _
    refine st7.trans ?_
    show Steps p.tables e below (T7.setTop (mkF m 29 #[.val (.int p1), .val (.int (p1 &&& (3 : Int32))), .val (.ref (own4a (p1 &&& (3 : Int32)) w_INSERT w_UPDATE_BEFORE w_UPDATE_AFTER w_DELETE)), .val (.int (mg0_11_s0 p1)), .unset, .unset] [(.int (res2 (own4a (p1 &&& (3 : Int32)) w_INSERT w_UPDATE_BEFORE w_UPDATE_AFTER w_DELETE) w_UPDATE_BEFORE w_DELETE))])) _
    refine XS.istore X7.here hx rfl (hb hby at_29) rfl (l' := #[.val (.int p1), .val (.int (p1 &&& (3 : Int32))), .val (.ref (own4a (p1 &&& (3 : Int32)) w_INSERT w_UPDATE_BEFORE w_UPDATE_AFTER w_DELETE)), .val (.int (mg0_11_s0 p1)), .val (.int (res2 (own4a (p1 &&& (3 : Int32)) w_INSERT w_UPDATE_BEFORE w_UPDATE_AFTER w_DELETE) w_UPDATE_BEFORE w_DELETE)), .unset]) rfl ?_
    show Steps p.tables e below (T7.setTop (mkF m 31 #[.val (.int p1), .val (.int (p1 &&& (3 : Int32))), .val (.ref (own4a (p1 &&& (3 : Int32)) w_INSERT w_UPDATE_BEFORE w_UPDATE_AFTER w_DELETE)), .val (.int (mg0_11_s0 p1)), .val (.int (res2 (own4a (p1 &&& (3 : Int32)) w_INSERT w_UPDATE_BEFORE w_UPDATE_AFTER w_DELETE) w_UPDATE_BEFORE w_DELETE)), .unset] [])) _
    refine XS.aloadN X7.here hx rfl (hb hby at_31) rfl rfl ?_
    show Steps p.tables e below (T7.setTop (mkF m 32 #[.val (.int p1), .val (.int (p1 &&& (3 : Int32))), .val (.ref (own4a (p1 &&& (3 : Int32)) w_INSERT w_UPDATE_BEFORE w_UPDATE_AFTER w_DELETE)), .val (.int (mg0_11_s0 p1)), .val (.int (res2 (own4a (p1 &&& (3 : Int32)) w_INSERT w_UPDATE_BEFORE w_UPDATE_AFTER w_DELETE) w_UPDATE_BEFORE w_DELETE)), .unset] [(.ref (own4a (p1 &&& (3 : Int32)) w_INSERT w_UPDATE_BEFORE w_UPDATE_AFTER w_DELETE))])) _
    refine st8.trans ?_
    show Steps p.tables e below (T8.setTop (mkF m 35 #[.val (.int p1), .val (.int (p1 &&& (3 : Int32))), .val (.ref (own4a (p1 &&& (3 : Int32)) w_INSERT w_UPDATE_BEFORE w_UPDATE_AFTER w_DELETE)), .val (.int (mg0_11_s0 p1)), .val (.int (res2 (own4a (p1 &&& (3 : Int32)) w_INSERT w_UPDATE_BEFORE w_UPDATE_AFTER w_DELETE) w_UPDATE_BEFORE w_DELETE)), .unset] [(.ref (own4a (p1 &&& (3 : Int32)) w_INSERT_shortName w_UPDATE_BEFORE_shortName w_UPDATE_AFTER_shortName w_DELETE_shortName))])) _
    refine XS.iconst X8.here hx rfl (hb hby at_35) ?_
    show Steps p.tables e below (T8.setTop (mkF m 36 #[.val (.int p1), .val (.int (p1 &&& (3 : Int32))), .val (.ref (own4a (p1 &&& (3 : Int32)) w_INSERT w_UPDATE_BEFORE w_UPDATE_AFTER w_DELETE)), .val (.int (mg0_11_s0 p1)), .val (.int (res2 (own4a (p1 &&& (3 : Int32)) w_INSERT w_UPDATE_BEFORE w_UPDATE_AFTER w_DELETE) w_UPDATE_BEFORE w_DELETE)), .unset] [(.int (0 : Int32)), (.ref (own4a (p1 &&& (3 : Int32)) w_INSERT_shortName w_UPDATE_BEFORE_shortName w_UPDATE_AFTER_shortName w_DELETE_shortName))])) _
    refine st9.trans ?_
    show Steps p.tables e below (T9.setTop (mkF m 39 #[.val (.int p1), .val (.int (p1 &&& (3 : Int32))), .val (.ref (own4a (p1 &&& (3 : Int32)) w_INSERT w_UPDATE_BEFORE w_UPDATE_AFTER w_DELETE)), .val (.int (mg0_11_s0 p1)), .val (.int (res2 (own4a (p1 &&& (3 : Int32)) w_INSERT w_UPDATE_BEFORE w_UPDATE_AFTER w_DELETE) w_UPDATE_BEFORE w_DELETE)), .unset] [(.int (nar .char (nar .char (((own4i (p1 &&& (3 : Int32)) (43 : Int32) (45 : Int32) (43 : Int32) (45 : Int32)) &&& (255 : Int32)).toUInt32.toUInt16.toUInt32.toInt32))))])) _
    refine XS.bipush X9.here hx rfl (hb hby at_39) ?_
    exact kt
  have pre12 : ∀ t, Steps p.tables e below (T9.setTop (mkF m 49 #[.val (.int p1), .val (.int (p1 &&& (3 : Int32))), .val (.ref (own4a (p1 &&& (3 : Int32)) w_INSERT w_UPDATE_BEFORE w_UPDATE_AFTER w_DELETE)), .val (.int (mg0_11_s0 p1)), .val (.int (res2 (own4a (p1 &&& (3 : Int32)) w_INSERT w_UPDATE_BEFORE w_UPDATE_AFTER w_DELETE) w_UPDATE_BEFORE w_DELETE)), .unset] [(.int (mg0_41_s0 p1))])) t → Steps p.tables e below (s₁.setTop (entryFrame m #[(.int p1)] maxLocals)) t := by
    intro t kt
    by_cases hc41_11 : (nar .char (nar .char (((own4i (p1 &&& (3 : Int32)) (43 : Int32) (45 : Int32) (43 : Int32) (45 : Int32)) &&& (255 : Int32)).toUInt32.toUInt16.toUInt32.toInt32))) = (45 : Int32)
    · rw [show (mg0_41_s0 p1) = (1 : Int32) from by rw [mg0_41_s0, if_pos hc41_11]] at kt
      refine pre10 _ ?_
      show Steps p.tables e below (T9.setTop (mkF m 41 #[.val (.int p1), .val (.int (p1 &&& (3 : Int32))), .val (.ref (own4a (p1 &&& (3 : Int32)) w_INSERT w_UPDATE_BEFORE w_UPDATE_AFTER w_DELETE)), .val (.int (mg0_11_s0 p1)), .val (.int (res2 (own4a (p1 &&& (3 : Int32)) w_INSERT w_UPDATE_BEFORE w_UPDATE_AFTER w_DELETE) w_UPDATE_BEFORE w_DELETE)), .unset] [(.int (45 : Int32)), (.int (nar .char (nar .char (((own4i (p1 &&& (3 : Int32)) (43 : Int32) (45 : Int32) (43 : Int32) (45 : Int32)) &&& (255 : Int32)).toUInt32.toUInt16.toUInt32.toInt32))))])) _
      refine XS.icmpNo X9.here hx rfl (hb hby at_41) rfl (teq hc41_11).2 ?_
      show Steps p.tables e below (T9.setTop (mkF m 44 #[.val (.int p1), .val (.int (p1 &&& (3 : Int32))), .val (.ref (own4a (p1 &&& (3 : Int32)) w_INSERT w_UPDATE_BEFORE w_UPDATE_AFTER w_DELETE)), .val (.int (mg0_11_s0 p1)), .val (.int (res2 (own4a (p1 &&& (3 : Int32)) w_INSERT w_UPDATE_BEFORE w_UPDATE_AFTER w_DELETE) w_UPDATE_BEFORE w_DELETE)), .unset] [])) _
      refine XS.iconst X9.here hx rfl (hb hby at_44) ?_
      show Steps p.tables e below (T9.setTop (mkF m 45 #[.val (.int p1), .val (.int (p1 &&& (3 : Int32))), .val (.ref (own4a (p1 &&& (3 : Int32)) w_INSERT w_UPDATE_BEFORE w_UPDATE_AFTER w_DELETE)), .val (.int (mg0_11_s0 p1)), .val (.int (res2 (own4a (p1 &&& (3 : Int32)) w_INSERT w_UPDATE_BEFORE w_UPDATE_AFTER w_DELETE) w_UPDATE_BEFORE w_DELETE)), .unset] [(.int (1 : Int32))])) _
      refine XS.goto X9.here hx rfl (pc0 := 45) (pc' := 49) rfl (hb hby at_45) (by decide) (by decide) ?_
      exact kt
    · rw [show (mg0_41_s0 p1) = (0 : Int32) from by rw [mg0_41_s0, if_neg hc41_11]] at kt
      refine pre10 _ ?_
      show Steps p.tables e below (T9.setTop (mkF m 41 #[.val (.int p1), .val (.int (p1 &&& (3 : Int32))), .val (.ref (own4a (p1 &&& (3 : Int32)) w_INSERT w_UPDATE_BEFORE w_UPDATE_AFTER w_DELETE)), .val (.int (mg0_11_s0 p1)), .val (.int (res2 (own4a (p1 &&& (3 : Int32)) w_INSERT w_UPDATE_BEFORE w_UPDATE_AFTER w_DELETE) w_UPDATE_BEFORE w_DELETE)), .unset] [(.int (45 : Int32)), (.int (nar .char (nar .char (((own4i (p1 &&& (3 : Int32)) (43 : Int32) (45 : Int32) (43 : Int32) (45 : Int32)) &&& (255 : Int32)).toUInt32.toUInt16.toUInt32.toInt32))))])) _
      refine XS.icmpYes X9.here hx rfl (pc0 := 41) (pc' := 48) rfl (hb hby at_41) rfl (feq hc41_11).2 (by decide) (by decide) ?_
      show Steps p.tables e below (T9.setTop (mkF m 48 #[.val (.int p1), .val (.int (p1 &&& (3 : Int32))), .val (.ref (own4a (p1 &&& (3 : Int32)) w_INSERT w_UPDATE_BEFORE w_UPDATE_AFTER w_DELETE)), .val (.int (mg0_11_s0 p1)), .val (.int (res2 (own4a (p1 &&& (3 : Int32)) w_INSERT w_UPDATE_BEFORE w_UPDATE_AFTER w_DELETE) w_UPDATE_BEFORE w_DELETE)), .unset] [])) _
      refine XS.iconst X9.here hx rfl (hb hby at_48) ?_
      exact kt
  have pre13 : ∀ t, Steps p.tables e below (T9.setTop (mkF m 54 #[.val (.int p1), .val (.int (p1 &&& (3 : Int32))), .val (.ref (own4a (p1 &&& (3 : Int32)) w_INSERT w_UPDATE_BEFORE w_UPDATE_AFTER w_DELETE)), .val (.int (mg0_11_s0 p1)), .val (.int (res2 (own4a (p1 &&& (3 : Int32)) w_INSERT w_UPDATE_BEFORE w_UPDATE_AFTER w_DELETE) w_UPDATE_BEFORE w_DELETE)), .val (.int (mg0_41_s0 p1))] [(.int (mg0_11_s0 p1)), (.int (res2 (own4a (p1 &&& (3 : Int32)) w_INSERT w_UPDATE_BEFORE w_UPDATE_AFTER w_DELETE) w_UPDATE_BEFORE w_DELETE))])) t → Steps p.tables e below (s₁.setTop (entryFrame m #[(.int p1)] maxLocals)) t := by
    intro t kt
    refine pre12 _ ?_
    show Steps p.tables e below (T9.setTop (mkF m 49 #[.val (.int p1), .val (.int (p1 &&& (3 : Int32))), .val (.ref (own4a (p1 &&& (3 : Int32)) w_INSERT w_UPDATE_BEFORE w_UPDATE_AFTER w_DELETE)), .val (.int (mg0_11_s0 p1)), .val (.int (res2 (own4a (p1 &&& (3 : Int32)) w_INSERT w_UPDATE_BEFORE w_UPDATE_AFTER w_DELETE) w_UPDATE_BEFORE w_DELETE)), .unset] [(.int (mg0_41_s0 p1))])) _
    refine XS.istore X9.here hx rfl (hb hby at_49) rfl (l' := #[.val (.int p1), .val (.int (p1 &&& (3 : Int32))), .val (.ref (own4a (p1 &&& (3 : Int32)) w_INSERT w_UPDATE_BEFORE w_UPDATE_AFTER w_DELETE)), .val (.int (mg0_11_s0 p1)), .val (.int (res2 (own4a (p1 &&& (3 : Int32)) w_INSERT w_UPDATE_BEFORE w_UPDATE_AFTER w_DELETE) w_UPDATE_BEFORE w_DELETE)), .val (.int (mg0_41_s0 p1))]) rfl ?_
    show Steps p.tables e below (T9.setTop (mkF m 51 #[.val (.int p1), .val (.int (p1 &&& (3 : Int32))), .val (.ref (own4a (p1 &&& (3 : Int32)) w_INSERT w_UPDATE_BEFORE w_UPDATE_AFTER w_DELETE)), .val (.int (mg0_11_s0 p1)), .val (.int (res2 (own4a (p1 &&& (3 : Int32)) w_INSERT w_UPDATE_BEFORE w_UPDATE_AFTER w_DELETE) w_UPDATE_BEFORE w_DELETE)), .val (.int (mg0_41_s0 p1))] [])) _
    refine XS.iload X9.here hx rfl (hb hby at_51) rfl ?_
    show Steps p.tables e below (T9.setTop (mkF m 53 #[.val (.int p1), .val (.int (p1 &&& (3 : Int32))), .val (.ref (own4a (p1 &&& (3 : Int32)) w_INSERT w_UPDATE_BEFORE w_UPDATE_AFTER w_DELETE)), .val (.int (mg0_11_s0 p1)), .val (.int (res2 (own4a (p1 &&& (3 : Int32)) w_INSERT w_UPDATE_BEFORE w_UPDATE_AFTER w_DELETE) w_UPDATE_BEFORE w_DELETE)), .val (.int (mg0_41_s0 p1))] [(.int (res2 (own4a (p1 &&& (3 : Int32)) w_INSERT w_UPDATE_BEFORE w_UPDATE_AFTER w_DELETE) w_UPDATE_BEFORE w_DELETE))])) _
    refine XS.iloadN X9.here hx rfl (hb hby at_53) rfl ?_
    exact kt
  by_cases hc54_14 : (res2 (own4a (p1 &&& (3 : Int32)) w_INSERT w_UPDATE_BEFORE w_UPDATE_AFTER w_DELETE) w_UPDATE_BEFORE w_DELETE) = (mg0_11_s0 p1)
  · have pre15 : ∀ t, Steps p.tables e below (T9.setTop (mkF m 61 #[.val (.int p1), .val (.int (p1 &&& (3 : Int32))), .val (.ref (own4a (p1 &&& (3 : Int32)) w_INSERT w_UPDATE_BEFORE w_UPDATE_AFTER w_DELETE)), .val (.int (mg0_11_s0 p1)), .val (.int (res2 (own4a (p1 &&& (3 : Int32)) w_INSERT w_UPDATE_BEFORE w_UPDATE_AFTER w_DELETE) w_UPDATE_BEFORE w_DELETE)), .val (.int (mg0_41_s0 p1))] [(.int (mg0_41_s0 p1)), (.int (res2 (own4a (p1 &&& (3 : Int32)) w_INSERT w_UPDATE_BEFORE w_UPDATE_AFTER w_DELETE) w_UPDATE_BEFORE w_DELETE))])) t → Steps p.tables e below (s₁.setTop (entryFrame m #[(.int p1)] maxLocals)) t := by
      intro t kt
      refine pre13 _ ?_
      show Steps p.tables e below (T9.setTop (mkF m 54 #[.val (.int p1), .val (.int (p1 &&& (3 : Int32))), .val (.ref (own4a (p1 &&& (3 : Int32)) w_INSERT w_UPDATE_BEFORE w_UPDATE_AFTER w_DELETE)), .val (.int (mg0_11_s0 p1)), .val (.int (res2 (own4a (p1 &&& (3 : Int32)) w_INSERT w_UPDATE_BEFORE w_UPDATE_AFTER w_DELETE) w_UPDATE_BEFORE w_DELETE)), .val (.int (mg0_41_s0 p1))] [(.int (mg0_11_s0 p1)), (.int (res2 (own4a (p1 &&& (3 : Int32)) w_INSERT w_UPDATE_BEFORE w_UPDATE_AFTER w_DELETE) w_UPDATE_BEFORE w_DELETE))])) _
      refine XS.icmpNo X9.here hx rfl (hb hby at_54) rfl (teq hc54_14).2 ?_
      show Steps p.tables e below (T9.setTop (mkF m 57 #[.val (.int p1), .val (.int (p1 &&& (3 : Int32))), .val (.ref (own4a (p1 &&& (3 : Int32)) w_INSERT w_UPDATE_BEFORE w_UPDATE_AFTER w_DELETE)), .val (.int (mg0_11_s0 p1)), .val (.int (res2 (own4a (p1 &&& (3 : Int32)) w_INSERT w_UPDATE_BEFORE w_UPDATE_AFTER w_DELETE) w_UPDATE_BEFORE w_DELETE)), .val (.int (mg0_41_s0 p1))] [])) _
      refine XS.iload X9.here hx rfl (hb hby at_57) rfl ?_
      show Steps p.tables e below (T9.setTop (mkF m 59 #[.val (.int p1), .val (.int (p1 &&& (3 : Int32))), .val (.ref (own4a (p1 &&& (3 : Int32)) w_INSERT w_UPDATE_BEFORE w_UPDATE_AFTER w_DELETE)), .val (.int (mg0_11_s0 p1)), .val (.int (res2 (own4a (p1 &&& (3 : Int32)) w_INSERT w_UPDATE_BEFORE w_UPDATE_AFTER w_DELETE) w_UPDATE_BEFORE w_DELETE)), .val (.int (mg0_41_s0 p1))] [(.int (res2 (own4a (p1 &&& (3 : Int32)) w_INSERT w_UPDATE_BEFORE w_UPDATE_AFTER w_DELETE) w_UPDATE_BEFORE w_DELETE))])) _
      refine XS.iload X9.here hx rfl (hb hby at_59) rfl ?_
      exact kt
    by_cases hc61_16 : (res2 (own4a (p1 &&& (3 : Int32)) w_INSERT w_UPDATE_BEFORE w_UPDATE_AFTER w_DELETE) w_UPDATE_BEFORE w_DELETE) = (mg0_41_s0 p1)
    · obtain ⟨fs, hr, hrun, hended, hW, hsame⟩ := X9.leave (v := some (.int (1 : Int32))) (fun h => by rw [Bd.returns] at h; cases h)
      refine ⟨_, _, pre15 _ ?_, hrun, hended, _, _, rfl, ?_, ⟨_, rfl⟩, hW, hsame.mono (by decide) (by decide)⟩
      · show Steps p.tables e below (T9.setTop (mkF m 61 #[.val (.int p1), .val (.int (p1 &&& (3 : Int32))), .val (.ref (own4a (p1 &&& (3 : Int32)) w_INSERT w_UPDATE_BEFORE w_UPDATE_AFTER w_DELETE)), .val (.int (mg0_11_s0 p1)), .val (.int (res2 (own4a (p1 &&& (3 : Int32)) w_INSERT w_UPDATE_BEFORE w_UPDATE_AFTER w_DELETE) w_UPDATE_BEFORE w_DELETE)), .val (.int (mg0_41_s0 p1))] [(.int (mg0_41_s0 p1)), (.int (res2 (own4a (p1 &&& (3 : Int32)) w_INSERT w_UPDATE_BEFORE w_UPDATE_AFTER w_DELETE) w_UPDATE_BEFORE w_DELETE))])) _
        refine XS.icmpNo X9.here hx rfl (hb hby at_61) rfl (teq hc61_16).2 ?_
        show Steps p.tables e below (T9.setTop (mkF m 64 #[.val (.int p1), .val (.int (p1 &&& (3 : Int32))), .val (.ref (own4a (p1 &&& (3 : Int32)) w_INSERT w_UPDATE_BEFORE w_UPDATE_AFTER w_DELETE)), .val (.int (mg0_11_s0 p1)), .val (.int (res2 (own4a (p1 &&& (3 : Int32)) w_INSERT w_UPDATE_BEFORE w_UPDATE_AFTER w_DELETE) w_UPDATE_BEFORE w_DELETE)), .val (.int (mg0_41_s0 p1))] [])) _
        refine XS.iconst X9.here hx rfl (hb hby at_64) ?_
        show Steps p.tables e below (T9.setTop (mkF m 65 #[.val (.int p1), .val (.int (p1 &&& (3 : Int32))), .val (.ref (own4a (p1 &&& (3 : Int32)) w_INSERT w_UPDATE_BEFORE w_UPDATE_AFTER w_DELETE)), .val (.int (mg0_11_s0 p1)), .val (.int (res2 (own4a (p1 &&& (3 : Int32)) w_INSERT w_UPDATE_BEFORE w_UPDATE_AFTER w_DELETE) w_UPDATE_BEFORE w_DELETE)), .val (.int (mg0_41_s0 p1))] [(.int (1 : Int32))])) _
        refine XS.goto X9.here hx rfl (pc0 := 65) (pc' := 69) rfl (hb hby at_65) (by decide) (by decide) ?_
        show Steps p.tables e below (T9.setTop (mkF m 69 #[.val (.int p1), .val (.int (p1 &&& (3 : Int32))), .val (.ref (own4a (p1 &&& (3 : Int32)) w_INSERT w_UPDATE_BEFORE w_UPDATE_AFTER w_DELETE)), .val (.int (mg0_11_s0 p1)), .val (.int (res2 (own4a (p1 &&& (3 : Int32)) w_INSERT w_UPDATE_BEFORE w_UPDATE_AFTER w_DELETE) w_UPDATE_BEFORE w_DELETE)), .val (.int (mg0_41_s0 p1))] [(.int (1 : Int32))])) _
        exact retN X9 hx (t := .boolean) Bd.returns (by simp) (hb hby at_69) hr
      · show Q0 Z p1 w_INSERT w_UPDATE_BEFORE w_UPDATE_AFTER w_DELETE w_INSERT_shortName w_INSERT_shortName_value k_INSERT w_UPDATE_BEFORE_shortName w_UPDATE_BEFORE_shortName_value k_UPDATE_BEFORE w_UPDATE_AFTER_shortName w_UPDATE_AFTER_shortName_value k_UPDATE_AFTER w_DELETE_shortName w_DELETE_shortName_value k_DELETE w_SIOOBE_FORMATTER w_COMPACT_STRINGS h0 n0 _ T9.heap _
        rw [e9]
        exact ⟨by rw [res0, if_pos hc54_14, if_pos hc61_16], N9⟩
    · obtain ⟨fs, hr, hrun, hended, hW, hsame⟩ := X9.leave (v := some (.int (0 : Int32))) (fun h => by rw [Bd.returns] at h; cases h)
      refine ⟨_, _, pre15 _ ?_, hrun, hended, _, _, rfl, ?_, ⟨_, rfl⟩, hW, hsame.mono (by decide) (by decide)⟩
      · show Steps p.tables e below (T9.setTop (mkF m 61 #[.val (.int p1), .val (.int (p1 &&& (3 : Int32))), .val (.ref (own4a (p1 &&& (3 : Int32)) w_INSERT w_UPDATE_BEFORE w_UPDATE_AFTER w_DELETE)), .val (.int (mg0_11_s0 p1)), .val (.int (res2 (own4a (p1 &&& (3 : Int32)) w_INSERT w_UPDATE_BEFORE w_UPDATE_AFTER w_DELETE) w_UPDATE_BEFORE w_DELETE)), .val (.int (mg0_41_s0 p1))] [(.int (mg0_41_s0 p1)), (.int (res2 (own4a (p1 &&& (3 : Int32)) w_INSERT w_UPDATE_BEFORE w_UPDATE_AFTER w_DELETE) w_UPDATE_BEFORE w_DELETE))])) _
        refine XS.icmpYes X9.here hx rfl (pc0 := 61) (pc' := 68) rfl (hb hby at_61) rfl (feq hc61_16).2 (by decide) (by decide) ?_
        show Steps p.tables e below (T9.setTop (mkF m 68 #[.val (.int p1), .val (.int (p1 &&& (3 : Int32))), .val (.ref (own4a (p1 &&& (3 : Int32)) w_INSERT w_UPDATE_BEFORE w_UPDATE_AFTER w_DELETE)), .val (.int (mg0_11_s0 p1)), .val (.int (res2 (own4a (p1 &&& (3 : Int32)) w_INSERT w_UPDATE_BEFORE w_UPDATE_AFTER w_DELETE) w_UPDATE_BEFORE w_DELETE)), .val (.int (mg0_41_s0 p1))] [])) _
        refine XS.iconst X9.here hx rfl (hb hby at_68) ?_
        show Steps p.tables e below (T9.setTop (mkF m 69 #[.val (.int p1), .val (.int (p1 &&& (3 : Int32))), .val (.ref (own4a (p1 &&& (3 : Int32)) w_INSERT w_UPDATE_BEFORE w_UPDATE_AFTER w_DELETE)), .val (.int (mg0_11_s0 p1)), .val (.int (res2 (own4a (p1 &&& (3 : Int32)) w_INSERT w_UPDATE_BEFORE w_UPDATE_AFTER w_DELETE) w_UPDATE_BEFORE w_DELETE)), .val (.int (mg0_41_s0 p1))] [(.int (0 : Int32))])) _
        exact retN X9 hx (t := .boolean) Bd.returns (by simp) (hb hby at_69) hr
      · show Q0 Z p1 w_INSERT w_UPDATE_BEFORE w_UPDATE_AFTER w_DELETE w_INSERT_shortName w_INSERT_shortName_value k_INSERT w_UPDATE_BEFORE_shortName w_UPDATE_BEFORE_shortName_value k_UPDATE_BEFORE w_UPDATE_AFTER_shortName w_UPDATE_AFTER_shortName_value k_UPDATE_AFTER w_DELETE_shortName w_DELETE_shortName_value k_DELETE w_SIOOBE_FORMATTER w_COMPACT_STRINGS h0 n0 _ T9.heap _
        rw [e9]
        exact ⟨by rw [res0, if_pos hc54_14, if_neg hc61_16], N9⟩
  · obtain ⟨fs, hr, hrun, hended, hW, hsame⟩ := X9.leave (v := some (.int (0 : Int32))) (fun h => by rw [Bd.returns] at h; cases h)
    refine ⟨_, _, pre13 _ ?_, hrun, hended, _, _, rfl, ?_, ⟨_, rfl⟩, hW, hsame.mono (by decide) (by decide)⟩
    · show Steps p.tables e below (T9.setTop (mkF m 54 #[.val (.int p1), .val (.int (p1 &&& (3 : Int32))), .val (.ref (own4a (p1 &&& (3 : Int32)) w_INSERT w_UPDATE_BEFORE w_UPDATE_AFTER w_DELETE)), .val (.int (mg0_11_s0 p1)), .val (.int (res2 (own4a (p1 &&& (3 : Int32)) w_INSERT w_UPDATE_BEFORE w_UPDATE_AFTER w_DELETE) w_UPDATE_BEFORE w_DELETE)), .val (.int (mg0_41_s0 p1))] [(.int (mg0_11_s0 p1)), (.int (res2 (own4a (p1 &&& (3 : Int32)) w_INSERT w_UPDATE_BEFORE w_UPDATE_AFTER w_DELETE) w_UPDATE_BEFORE w_DELETE))])) _
      refine XS.icmpYes X9.here hx rfl (pc0 := 54) (pc' := 68) rfl (hb hby at_54) rfl (feq hc54_14).2 (by decide) (by decide) ?_
      show Steps p.tables e below (T9.setTop (mkF m 68 #[.val (.int p1), .val (.int (p1 &&& (3 : Int32))), .val (.ref (own4a (p1 &&& (3 : Int32)) w_INSERT w_UPDATE_BEFORE w_UPDATE_AFTER w_DELETE)), .val (.int (mg0_11_s0 p1)), .val (.int (res2 (own4a (p1 &&& (3 : Int32)) w_INSERT w_UPDATE_BEFORE w_UPDATE_AFTER w_DELETE) w_UPDATE_BEFORE w_DELETE)), .val (.int (mg0_41_s0 p1))] [])) _
      refine XS.iconst X9.here hx rfl (hb hby at_68) ?_
      show Steps p.tables e below (T9.setTop (mkF m 69 #[.val (.int p1), .val (.int (p1 &&& (3 : Int32))), .val (.ref (own4a (p1 &&& (3 : Int32)) w_INSERT w_UPDATE_BEFORE w_UPDATE_AFTER w_DELETE)), .val (.int (mg0_11_s0 p1)), .val (.int (res2 (own4a (p1 &&& (3 : Int32)) w_INSERT w_UPDATE_BEFORE w_UPDATE_AFTER w_DELETE) w_UPDATE_BEFORE w_DELETE)), .val (.int (mg0_41_s0 p1))] [(.int (0 : Int32))])) _
      exact retN X9 hx (t := .boolean) Bd.returns (by simp) (hb hby at_69) hr
    · show Q0 Z p1 w_INSERT w_UPDATE_BEFORE w_UPDATE_AFTER w_DELETE w_INSERT_shortName w_INSERT_shortName_value k_INSERT w_UPDATE_BEFORE_shortName w_UPDATE_BEFORE_shortName_value k_UPDATE_BEFORE w_UPDATE_AFTER_shortName w_UPDATE_AFTER_shortName_value k_UPDATE_AFTER w_DELETE_shortName w_DELETE_shortName_value k_DELETE w_SIOOBE_FORMATTER w_COMPACT_STRINGS h0 n0 _ T9.heap _
      rw [e9]
      exact ⟨by rw [res0, if_neg hc54_14], N9⟩
theorem own_fin (p1 : Int32) (w_INSERT w_UPDATE_BEFORE w_UPDATE_AFTER w_DELETE : Addr) (h1 : w_INSERT ≠ w_UPDATE_BEFORE) (h2 : w_INSERT ≠ w_DELETE) (h3 : w_UPDATE_AFTER ≠ w_UPDATE_BEFORE) (h4 : w_UPDATE_AFTER ≠ w_DELETE) : (res0 p1 w_INSERT w_UPDATE_BEFORE w_UPDATE_AFTER w_DELETE) = 1 := by
  have e3 := own_r3 p1
  unfold res0 mg0_11_s0 mg0_41_s0
  generalize (p1 &&& (3 : Int32)) = i at e3
  rcases e3 with rfl | rfl | rfl | rfl
  · simp [own4a, own4i, res2, h1, h2]; decide
  · simp [own4a, own4i, res2]; decide
  · simp [own4a, own4i, res2, h3, h4]; decide
  · simp [own4a, own4i, res2]; decide
set_option maxRecDepth 65536 in
set_option maxHeartbeats 40000000 in
theorem comes_1 {Post : Tables → Env → Array Value → State → Outcome → State → Prop} (hpost : ∀ tb e args s v u, (limb_1_1.after args s (.returned v) u = true ∧ limb_1_2.after args s (.returned v) u = true ∧ True) → FrameEnd s (.returned v) u (Jvm.fieldLocs frame_1_writes args s ++ Jvm.arrayLocs frame_1_arrays args s ++ Jvm.staticLocs frame_1_statics s) 0 0 → Post tb e args s (.returned v) u) :
    ArmFor flags0 classFile x code maxLocals ret World_1 tables_1 room_1 Calls_1 rest_1 Pre_1 Post := by
  intro l hfl _ _ p e ha hc hk s m args below hf hA hF happ hP
  obtain ⟨hcalls, hrest, hpre⟩ := hP
  obtain ⟨-, -, -, hnamed, -, -, -, hat⟩ := (Spec.applies_iff hf).mp happ
  obtain ⟨hg, hn⟩ := and_e (Cond.before_iff.mp (show (Jvm.Cond.and given_1 narrow_1).before args s = true from hpre))
  obtain ⟨ga0, gb0⟩ := and_e hg
  obtain ⟨w0, rfl⟩ : ∃ w0 : Value, args = #[w0] := by
    have hs : args.size = 1 := by simpa [Cond.value, given_1] using ga0
    obtain ⟨L⟩ := args
    match L, hs with
    | [w0], _ => exact ⟨w0, rfl⟩
  have hw := fun d (hd : d ∈ tables_1) => atoms_spec (ws := Jvm.Cond.code x code maxLocals ret :: tables_1) hat d (List.mem_cons_of_mem _ hd)
  have hfit : Fit s := fun {y c} hc i hi => by
    obtain ⟨ha, rfl⟩ := Array.getElem?_eq_some_iff.mp hc
    have q := List.all_eq_true.mp ((Array.all_eq_true_iff_forall_mem.mp hF) _ (Array.getElem_mem ha)) i (List.mem_range.mpr hi)
    simpa [Array.getElem?_eq_getElem hi] using q
  obtain ⟨i0, ei0⟩ := is_v gb0
  obtain rfl : w0 = (.int i0) := Option.some.inj ei0
  obtain ⟨hsets, hown0⟩ := atoms_of _ (rest_1_c_eq ▸ (show rest_1_c.before _ s = true from hrest))
  have n5 := not_v (Cond.before_iff.mp (hsets _ (List.mem_of_getElem? (i := 2) rfl)))
  obtain ⟨w_COMPACT_STRINGS, e10⟩ := is_v (Cond.before_iff.mp (hsets _ (List.mem_of_getElem? (i := 1) rfl)))
  have S_COMPACT_STRINGS : Sta s s.heap "java/lang/String" "COMPACT_STRINGS" "Z" (.int w_COMPACT_STRINGS) := Sta.start e10 (Or.inl (hsets _ (List.mem_of_getElem? (i := 0) rfl)))
  obtain ⟨w_SIOOBE_FORMATTER, e14, hSF⟩ := isR_v (Cond.before_iff.mp (hsets _ (List.mem_of_getElem? (i := 8) rfl)))
  have S_SIOOBE_FORMATTER : Sta s s.heap "jdk/internal/util/Preconditions" "SIOOBE_FORMATTER" "Ljava/util/function/BiFunction;" w_SIOOBE_FORMATTER := Sta.start e14 (Or.inl (hsets _ (List.mem_of_getElem? (i := 7) rfl)))
  have hCS : ¬ (w_COMPACT_STRINGS = (0 : Int32)) := gotF (Cond.eq_ints e10 (Term.int_eval (0))) n5
  obtain ⟨na1, nb1⟩ := and_e hn
  obtain ⟨na2, nb2⟩ := and_e nb1
  obtain ⟨na3, nb3⟩ := and_e nb2
  obtain ⟨na4, nb4⟩ := and_e nb3
  obtain ⟨na5, nb5⟩ := and_e nb4
  obtain ⟨na6, nb6⟩ := and_e nb5
  obtain ⟨na7, nb7⟩ := and_e nb6
  obtain ⟨na8, nb8⟩ := and_e nb7
  obtain ⟨na9, nb9⟩ := and_e nb8
  obtain ⟨na10, nb10⟩ := and_e nb9
  obtain ⟨na11, nb11⟩ := and_e nb10
  obtain ⟨na12, nb12⟩ := and_e nb11
  obtain ⟨na13, nb13⟩ := and_e nb12
  obtain ⟨na14, nb14⟩ := and_e nb13
  obtain ⟨na15, nb15⟩ := and_e nb14
  obtain ⟨na16, nb16⟩ := and_e nb15
  obtain ⟨na17, nb17⟩ := and_e nb16
  obtain ⟨na18, nb18⟩ := and_e nb17
  obtain ⟨na19, nb19⟩ := and_e nb18
  obtain ⟨na20, nb20⟩ := and_e nb19
  obtain ⟨na21, nb21⟩ := and_e nb20
  obtain ⟨na22, nb22⟩ := and_e nb21
  obtain ⟨na23, nb23⟩ := and_e nb22
  obtain ⟨na24, nb24⟩ := and_e nb23
  obtain ⟨na25, nb25⟩ := and_e nb24
  obtain ⟨na26, nb26⟩ := and_e nb25
  obtain ⟨na27, nb27⟩ := and_e nb26
  obtain ⟨na28, nb28⟩ := and_e nb27
  obtain ⟨na29, nb29⟩ := and_e nb28
  obtain ⟨na30, nb30⟩ := and_e nb29
  obtain ⟨na31, nb31⟩ := and_e nb30
  obtain ⟨w_INSERT, ev_INSERT⟩ := exa_v na1
  have S_INSERT := Sta.start ev_INSERT (Or.inr ⟨(hw _ (List.mem_of_getElem? (i := 5) rfl)), (hw _ (List.mem_of_getElem? (i := 6) rfl))⟩)
  have E_w_INSERT := Exa.start ev_INSERT na1
  obtain ⟨w_UPDATE_BEFORE, ev_UPDATE_BEFORE⟩ := exa_v na2
  have S_UPDATE_BEFORE := Sta.start ev_UPDATE_BEFORE (Or.inr ⟨(hw _ (List.mem_of_getElem? (i := 5) rfl)), (hw _ (List.mem_of_getElem? (i := 13) rfl))⟩)
  have E_w_UPDATE_BEFORE := Exa.start ev_UPDATE_BEFORE na2
  have F_ordinal_w_INSERT := Fld.start ((fld_at ev_INSERT).symm.trans (own_eqv (Or.inl ⟨_, rfl⟩) (Term.int_eval _) na3))
  have F_ordinal_w_UPDATE_BEFORE := Fld.start ((fld_at ev_UPDATE_BEFORE).symm.trans (own_eqv (Or.inl ⟨_, rfl⟩) (Term.int_eval _) na4))
  obtain ⟨w_DELETE, ev_DELETE⟩ := exa_v na5
  have S_DELETE := Sta.start ev_DELETE (Or.inr ⟨(hw _ (List.mem_of_getElem? (i := 5) rfl)), (hw _ (List.mem_of_getElem? (i := 15) rfl))⟩)
  have E_w_DELETE := Exa.start ev_DELETE na5
  have F_ordinal_w_DELETE := Fld.start ((fld_at ev_DELETE).symm.trans (own_eqv (Or.inl ⟨_, rfl⟩) (Term.int_eval _) na6))
  obtain ⟨w_INSERT_shortName, ev_INSERT_shortName⟩ := exa_v na7
  have F_shortName_w_INSERT := Fld.start ((fld_at ev_INSERT).symm.trans ev_INSERT_shortName)
  have E_w_INSERT_shortName := Exa.start ev_INSERT_shortName na7
  have F_coder_w_INSERT_shortName := Fld.start ((fld_at ev_INSERT_shortName).symm.trans (own_eqv (Or.inl ⟨_, rfl⟩) (Term.int_eval _) na8))
  obtain ⟨w_INSERT_shortName_value, ev_INSERT_shortName_value⟩ := arr_v na9
  have F_value_w_INSERT_shortName := Fld.start ((fld_at ev_INSERT_shortName).symm.trans ev_INSERT_shortName_value)
  obtain ⟨cl_INSERT_shortName_value, A_INSERT_shortName_value⟩ := Arr.start ev_INSERT_shortName_value na9
  have L_INSERT_shortName_value := own_len ev_INSERT_shortName_value A_INSERT_shortName_value (own_eqv (Or.inl ⟨_, rfl⟩) (Term.int_eval _) na10)
  have el_INSERT_shortName_value_0 := (elem_in (own_eqv (Or.inl ⟨_, rfl⟩) (Term.int_eval _) na11) ev_INSERT_shortName_value (Term.int_eval _) A_INSERT_shortName_value.1).2
  obtain ⟨w_DELETE_shortName, ev_DELETE_shortName⟩ := exa_v na12
  have F_shortName_w_DELETE := Fld.start ((fld_at ev_DELETE).symm.trans ev_DELETE_shortName)
  have E_w_DELETE_shortName := Exa.start ev_DELETE_shortName na12
  have F_coder_w_DELETE_shortName := Fld.start ((fld_at ev_DELETE_shortName).symm.trans (own_eqv (Or.inl ⟨_, rfl⟩) (Term.int_eval _) na13))
  obtain ⟨w_DELETE_shortName_value, ev_DELETE_shortName_value⟩ := arr_v na14
  have F_value_w_DELETE_shortName := Fld.start ((fld_at ev_DELETE_shortName).symm.trans ev_DELETE_shortName_value)
  obtain ⟨cl_DELETE_shortName_value, A_DELETE_shortName_value⟩ := Arr.start ev_DELETE_shortName_value na14
  have L_DELETE_shortName_value := own_len ev_DELETE_shortName_value A_DELETE_shortName_value (own_eqv (Or.inl ⟨_, rfl⟩) (Term.int_eval _) na15)
  have el_DELETE_shortName_value_0 := (elem_in (own_eqv (Or.inl ⟨_, rfl⟩) (Term.int_eval _) na16) ev_DELETE_shortName_value (Term.int_eval _) A_DELETE_shortName_value.1).2
  obtain ⟨w_UPDATE_AFTER, ev_UPDATE_AFTER⟩ := exa_v na17
  have S_UPDATE_AFTER := Sta.start ev_UPDATE_AFTER (Or.inr ⟨(hw _ (List.mem_of_getElem? (i := 5) rfl)), (hw _ (List.mem_of_getElem? (i := 53) rfl))⟩)
  have E_w_UPDATE_AFTER := Exa.start ev_UPDATE_AFTER na17
  have F_ordinal_w_UPDATE_AFTER := Fld.start ((fld_at ev_UPDATE_AFTER).symm.trans (own_eqv (Or.inl ⟨_, rfl⟩) (Term.int_eval _) na18))
  obtain ⟨w_UPDATE_AFTER_shortName, ev_UPDATE_AFTER_shortName⟩ := exa_v na19
  have F_shortName_w_UPDATE_AFTER := Fld.start ((fld_at ev_UPDATE_AFTER).symm.trans ev_UPDATE_AFTER_shortName)
  have E_w_UPDATE_AFTER_shortName := Exa.start ev_UPDATE_AFTER_shortName na19
  have F_coder_w_UPDATE_AFTER_shortName := Fld.start ((fld_at ev_UPDATE_AFTER_shortName).symm.trans (own_eqv (Or.inl ⟨_, rfl⟩) (Term.int_eval _) na20))
  obtain ⟨w_UPDATE_AFTER_shortName_value, ev_UPDATE_AFTER_shortName_value⟩ := arr_v na21
  have F_value_w_UPDATE_AFTER_shortName := Fld.start ((fld_at ev_UPDATE_AFTER_shortName).symm.trans ev_UPDATE_AFTER_shortName_value)
  obtain ⟨cl_UPDATE_AFTER_shortName_value, A_UPDATE_AFTER_shortName_value⟩ := Arr.start ev_UPDATE_AFTER_shortName_value na21
  have L_UPDATE_AFTER_shortName_value := own_len ev_UPDATE_AFTER_shortName_value A_UPDATE_AFTER_shortName_value (own_eqv (Or.inl ⟨_, rfl⟩) (Term.int_eval _) na22)
  have el_UPDATE_AFTER_shortName_value_0 := (elem_in (own_eqv (Or.inl ⟨_, rfl⟩) (Term.int_eval _) na23) ev_UPDATE_AFTER_shortName_value (Term.int_eval _) A_UPDATE_AFTER_shortName_value.1).2
  obtain ⟨w_UPDATE_BEFORE_shortName, ev_UPDATE_BEFORE_shortName⟩ := exa_v na24
  have F_shortName_w_UPDATE_BEFORE := Fld.start ((fld_at ev_UPDATE_BEFORE).symm.trans ev_UPDATE_BEFORE_shortName)
  have E_w_UPDATE_BEFORE_shortName := Exa.start ev_UPDATE_BEFORE_shortName na24
  have F_coder_w_UPDATE_BEFORE_shortName := Fld.start ((fld_at ev_UPDATE_BEFORE_shortName).symm.trans (own_eqv (Or.inl ⟨_, rfl⟩) (Term.int_eval _) na25))
  obtain ⟨w_UPDATE_BEFORE_shortName_value, ev_UPDATE_BEFORE_shortName_value⟩ := arr_v na26
  have F_value_w_UPDATE_BEFORE_shortName := Fld.start ((fld_at ev_UPDATE_BEFORE_shortName).symm.trans ev_UPDATE_BEFORE_shortName_value)
  obtain ⟨cl_UPDATE_BEFORE_shortName_value, A_UPDATE_BEFORE_shortName_value⟩ := Arr.start ev_UPDATE_BEFORE_shortName_value na26
  have L_UPDATE_BEFORE_shortName_value := own_len ev_UPDATE_BEFORE_shortName_value A_UPDATE_BEFORE_shortName_value (own_eqv (Or.inl ⟨_, rfl⟩) (Term.int_eval _) na27)
  have el_UPDATE_BEFORE_shortName_value_0 := (elem_in (own_eqv (Or.inl ⟨_, rfl⟩) (Term.int_eval _) na28) ev_UPDATE_BEFORE_shortName_value (Term.int_eval _) A_UPDATE_BEFORE_shortName_value.1).2
  have el_INSERT_shortName_value_1 := (elem_in (own_eqv (Or.inl ⟨_, rfl⟩) (Term.int_eval _) na29) ev_INSERT_shortName_value (Term.int_eval _) A_INSERT_shortName_value.1).2
  have el_DELETE_shortName_value_1 := (elem_in (own_eqv (Or.inl ⟨_, rfl⟩) (Term.int_eval _) na30) ev_DELETE_shortName_value (Term.int_eval _) A_DELETE_shortName_value.1).2
  have el_UPDATE_AFTER_shortName_value_1 := (elem_in (own_eqv (Or.inl ⟨_, rfl⟩) (Term.int_eval _) na31) ev_UPDATE_AFTER_shortName_value (Term.int_eval _) A_UPDATE_AFTER_shortName_value.1).2
  have el_UPDATE_BEFORE_shortName_value_1 := (elem_in (own_eqv (Or.inl ⟨_, rfl⟩) (Term.int_eval _) nb31) ev_UPDATE_BEFORE_shortName_value (Term.int_eval _) A_UPDATE_BEFORE_shortName_value.1).2
  have V_w_INSERT_shortName_value : Arv s s.heap w_INSERT_shortName_value cl_INSERT_shortName_value.cls .byte (2 : Int32) [(.int (43 : Int32)), (.int (73 : Int32))] (.int (0 : Int32)) := Arv.start hfit A_INSERT_shortName_value L_INSERT_shortName_value.1 L_INSERT_shortName_value.2 (by decide) rfl ⟨el_INSERT_shortName_value_0, el_INSERT_shortName_value_1, trivial⟩
  have V_w_DELETE_shortName_value : Arv s s.heap w_DELETE_shortName_value cl_DELETE_shortName_value.cls .byte (2 : Int32) [(.int (45 : Int32)), (.int (68 : Int32))] (.int (0 : Int32)) := Arv.start hfit A_DELETE_shortName_value L_DELETE_shortName_value.1 L_DELETE_shortName_value.2 (by decide) rfl ⟨el_DELETE_shortName_value_0, el_DELETE_shortName_value_1, trivial⟩
  have V_w_UPDATE_AFTER_shortName_value : Arv s s.heap w_UPDATE_AFTER_shortName_value cl_UPDATE_AFTER_shortName_value.cls .byte (2 : Int32) [(.int (43 : Int32)), (.int (85 : Int32))] (.int (0 : Int32)) := Arv.start hfit A_UPDATE_AFTER_shortName_value L_UPDATE_AFTER_shortName_value.1 L_UPDATE_AFTER_shortName_value.2 (by decide) rfl ⟨el_UPDATE_AFTER_shortName_value_0, el_UPDATE_AFTER_shortName_value_1, trivial⟩
  have V_w_UPDATE_BEFORE_shortName_value : Arv s s.heap w_UPDATE_BEFORE_shortName_value cl_UPDATE_BEFORE_shortName_value.cls .byte (2 : Int32) [(.int (45 : Int32)), (.int (85 : Int32))] (.int (0 : Int32)) := Arv.start hfit A_UPDATE_BEFORE_shortName_value L_UPDATE_BEFORE_shortName_value.1 L_UPDATE_BEFORE_shortName_value.2 (by decide) rfl ⟨el_UPDATE_BEFORE_shortName_value_0, el_UPDATE_BEFORE_shortName_value_1, trivial⟩
  obtain ⟨n, o, h1, h2, h3, _, L, rfl, ⟨rfl, N⟩, hq⟩ := rm0 l s _ hw tables_1 i0 w_INSERT w_UPDATE_BEFORE w_UPDATE_AFTER w_DELETE w_INSERT_shortName w_INSERT_shortName_value cl_INSERT_shortName_value.cls w_UPDATE_BEFORE_shortName w_UPDATE_BEFORE_shortName_value cl_UPDATE_BEFORE_shortName_value.cls w_UPDATE_AFTER_shortName w_UPDATE_AFTER_shortName_value cl_UPDATE_AFTER_shortName_value.cls w_DELETE_shortName w_DELETE_shortName_value cl_DELETE_shortName_value.cls w_SIOOBE_FORMATTER w_COMPACT_STRINGS s.heap s.heap.size (Nat.le_refl _) S_INSERT E_w_INSERT S_UPDATE_BEFORE E_w_UPDATE_BEFORE S_UPDATE_AFTER E_w_UPDATE_AFTER S_DELETE E_w_DELETE F_shortName_w_INSERT E_w_INSERT_shortName F_coder_w_INSERT_shortName F_value_w_INSERT_shortName V_w_INSERT_shortName_value F_shortName_w_UPDATE_BEFORE E_w_UPDATE_BEFORE_shortName F_coder_w_UPDATE_BEFORE_shortName F_value_w_UPDATE_BEFORE_shortName V_w_UPDATE_BEFORE_shortName_value F_shortName_w_UPDATE_AFTER E_w_UPDATE_AFTER_shortName F_coder_w_UPDATE_AFTER_shortName F_value_w_UPDATE_AFTER_shortName V_w_UPDATE_AFTER_shortName_value F_shortName_w_DELETE E_w_DELETE_shortName F_coder_w_DELETE_shortName F_value_w_DELETE_shortName V_w_DELETE_shortName_value S_SIOOBE_FORMATTER S_COMPACT_STRINGS hSF hCS p e ha hc hk s m _ below hf ((Spec.applies_iff_loose hf).mp happ).1 ⟨rfl, State.Warmed39.refl s, rfl⟩ trivial
  have hfin : (res0 i0 w_INSERT w_UPDATE_BEFORE w_UPDATE_AFTER w_DELETE) = (1 : Int32) := own_fin i0 w_INSERT w_UPDATE_BEFORE w_UPDATE_AFTER w_DELETE (Fld.ne F_ordinal_w_INSERT F_ordinal_w_UPDATE_BEFORE (by decide)) (Fld.ne F_ordinal_w_INSERT F_ordinal_w_DELETE (by decide)) (Fld.ne F_ordinal_w_UPDATE_AFTER F_ordinal_w_UPDATE_BEFORE (by decide)) (Fld.ne F_ordinal_w_UPDATE_AFTER F_ordinal_w_DELETE (by decide))
  refine ⟨n, _, h1, h2, h3, hpost _ _ _ _ _ _ ⟨Cond.after_iff.mpr rfl, Cond.after_iff.mpr (eq_i res_at (Term.int_eval (1)) (by rw [hfin])), trivial⟩ ⟨hq.1, hq.2.1, (hq.2.2.sift fun y hy => Or.inr (N y hy)).mono (by decide) (by decide)⟩⟩
theorem main_1_1 : Claimed_1_1 := comes_1 fun _ _ _ _ _ _ h hF => ⟨h.1, hF⟩
theorem main_1_2 : Claimed_1_2 := comes_1 fun _ _ _ _ _ _ h hF => ⟨h.2.1, hF⟩
end Jvm.Pilot.@@N@@
namespace Jvm.Pilot.@@N@@
open Jvm Jvm.ClassFile Sem Op Lib Jvm.Free Jvm.Stand Jvm.Pilot.@@N@@.Jvm.D
/-! MADE BY PROGRAM (witnessworld.py) out of the Statement's table words and the real class files: 18 classes; the members and pool entries that the words name. The judged class is class 1, her method 2. -/
namespace start1
open Jvm.ClassFile
def u (s : String) : CpInfo := .utf8 (stringToUtf16 s)
/-- a pool by its gaps: so many unusable entries, then the entry; so many at the end -/
def gap : Nat → List CpInfo → List CpInfo
  | 0, r => r
  | n + 1, r => .unusable :: gap n r
def poolList (es : List (Nat × CpInfo)) (last : Nat) : List CpInfo := es.foldr (fun e r => gap e.1 (e.2 :: r)) (gap last [])
def pool (es : List (Nat × CpInfo)) (last : Nat) : Array CpInfo := ⟨poolList es last⟩
def fileOf (pool : Array CpInfo) (this : Nat) (attrs : Array Attribute := #[]) (ms : Array MethodInfo := #[]) (fl : Nat := 33) (sup : Nat := 0) (ifs : Array Nat := #[]) (fds : Array FieldInfo := #[]) : ClassFile where
  minorVersion := 0
  majorVersion := 65
  constantPool := pool
  accessFlags := fl
  thisClass := this
  superClass := sup
  interfaces := ifs
  fields := fds
  methods := ms
  attributes := attrs
def plain (name : String) (sup : Option ClassId) : Class where
  name := name
  kind := .ordinary
  loader := none
  accessFlags := 33
  super := sup
  interfaces := #[]
  cf := none
  fields := #[]
  methods := #[]
  instanceTypes := #[]
  staticTypes := #[]
  resolved := #[]
  callSites := []
  init := .initialized
  statics := none
  mirror := none

def pool0 : Array CpInfo := pool [(5, u "<init>"), (0, u "()V"), (1, .class_ 10), (1, u "java/lang/Object")] 113

def k0m0 : Method := { name := "<init>", desc := "()V", sig := { parameters := [], returnType := none }, accessFlags := 1, code := none }
/-- java/lang/Object -/
def k0 : Class := { plain "java/lang/Object" none with
  accessFlags := 33
  interfaces := #[]
  cf := some (fileOf pool0 8 #[] #[{ accessFlags := 1, nameIndex := 5, descriptorIndex := 6, attributes := #[] }] 33 0 #[] #[])
  fields := #[]
  methods := #[k0m0]
  instanceTypes := #[]
  staticTypes := #[]
  resolved := Array.replicate 124 none
  statics := none }

def pool1 : Array CpInfo := pool [(2, .class_ 4), (1, u "java/lang/Object"), (0, u "<init>"), (0, u "()V"), (0, .fieldref 8 9), (0, .class_ 10), (0, .nameAndType 11 12), (0, u "com/example/tidemark/tidemark/table/RowKind"), (0, u "INSERT"), (0, u "Lcom/example/tidemark/tidemark/table/RowKind;"), (0, .fieldref 8 14), (0, .nameAndType 15 12), (0, u "UPDATE_BEFORE"), (0, .fieldref 8 17), (0, .nameAndType 18 12), (0, u "UPDATE_AFTER"), (0, .fieldref 8 20), (0, .nameAndType 21 12), (0, u "DELETE"), (0, .methodref 23 24), (0, .class_ 25), (0, .nameAndType 26 27), (0, u "com/example/tidemark/tidemark/table/RowKindIsRetractionPinLaw"), (0, u "pick"), (0, u "(I)Lcom/example/tidemark/tidemark/table/RowKind;"), (0, .methodref 8 29), (0, .nameAndType 30 31), (0, u "isRetraction"), (0, u "()Z"), (0, .methodref 8 33), (0, .nameAndType 34 35), (0, u "shortName"), (0, u "()Ljava/lang/String;"), (0, .methodref 37 38), (0, .class_ 39), (0, .nameAndType 40 41), (0, u "java/lang/String"), (0, u "charAt"), (0, u "(I)C"), (3, u "law"), (0, u "(I)Z")] 2

def k1m0 : Method := { name := "<init>", desc := "()V", sig := { parameters := [], returnType := none }, accessFlags := 2, code := none }
def k1c1 : Code := { maxStack := 2, maxLocals := 1, code := method_2_code, exceptionTable := #[], attributes := #[] }
def k1m1 : Method := { name := "pick", desc := "(I)Lcom/example/tidemark/tidemark/table/RowKind;", sig := { parameters := [.int], returnType := some (.object "com/example/tidemark/tidemark/table/RowKind") }, accessFlags := 10, code := some k1c1 }
def k1c2 : Code := { maxStack := 2, maxLocals := 6, code := code, exceptionTable := #[], attributes := #[] }
def k1m2 : Method := { name := "law", desc := "(I)Z", sig := { parameters := [.int], returnType := some .boolean }, accessFlags := 9, code := some k1c2 }
/-- com/example/tidemark/tidemark/table/RowKindIsRetractionPinLaw -/
def k1 : Class := { plain "com/example/tidemark/tidemark/table/RowKindIsRetractionPinLaw" (some 0) with
  accessFlags := 49
  interfaces := #[]
  cf := some (fileOf pool1 23 #[] #[{ accessFlags := 2, nameIndex := 5, descriptorIndex := 6, attributes := #[] }, { accessFlags := 10, nameIndex := 26, descriptorIndex := 27, attributes := #[] }, { accessFlags := 9, nameIndex := 45, descriptorIndex := 46, attributes := #[] }] 49 2 #[] #[])
  fields := #[]
  methods := #[k1m0, k1m1, k1m2]
  instanceTypes := #[]
  staticTypes := #[]
  resolved := Array.replicate 49 none
  statics := none }

def pool2 : Array CpInfo := pool [(1, .class_ 2), (0, u "java/lang/constant/Constable"), (0, .class_ 4), (0, u "java/lang/Object")] 6

/-- java/lang/constant/Constable -/
def k2 : Class := { plain "java/lang/constant/Constable" (some 0) with
  accessFlags := 1537
  interfaces := #[]
  cf := some (fileOf pool2 1 #[] #[] 1537 3 #[] #[])
  fields := #[]
  methods := #[]
  instanceTypes := #[]
  staticTypes := #[]
  resolved := Array.replicate 11 none
  statics := none }

def pool3 : Array CpInfo := pool [(1, .class_ 2), (0, u "java/lang/Comparable"), (0, .class_ 4), (0, u "java/lang/Object")] 7

/-- java/lang/Comparable -/
def k3 : Class := { plain "java/lang/Comparable" (some 0) with
  accessFlags := 1537
  interfaces := #[]
  cf := some (fileOf pool3 1 #[] #[] 1537 3 #[] #[])
  fields := #[]
  methods := #[]
  instanceTypes := #[]
  staticTypes := #[]
  resolved := Array.replicate 12 none
  statics := none }

def pool4 : Array CpInfo := pool [(1, .class_ 2), (0, u "java/io/Serializable"), (0, .class_ 4), (0, u "java/lang/Object")] 2

/-- java/io/Serializable -/
def k4 : Class := { plain "java/io/Serializable" (some 0) with
  accessFlags := 1537
  interfaces := #[]
  cf := some (fileOf pool4 1 #[] #[] 1537 3 #[] #[])
  fields := #[]
  methods := #[]
  instanceTypes := #[]
  staticTypes := #[]
  resolved := Array.replicate 7 none
  statics := none }

def pool5 : Array CpInfo := pool [(2, .class_ 4), (1, u "java/lang/Enum"), (0, u "name"), (0, u "Ljava/lang/String;"), (2, u "ordinal"), (0, u "I"), (1, .class_ 14), (1, u "java/lang/Object"), (4, u "hash"), (86, .class_ 108), (1, u "java/lang/Enum$EnumDesc"), (2, .class_ 112), (0, u "java/lang/constant/Constable"), (0, .class_ 114), (0, u "java/lang/Comparable"), (0, .class_ 116), (0, u "java/io/Serializable")] 87

/-- java/lang/Enum -/
def k5 : Class := { plain "java/lang/Enum" (some 0) with
  accessFlags := 1057
  interfaces := #[2, 3, 4]
  cf := some (fileOf pool5 2 #[.nestMembers #[106]] #[] 1057 12 #[111, 113, 115] #[{ accessFlags := 18, nameIndex := 5, descriptorIndex := 6, attributes := #[] }, { accessFlags := 18, nameIndex := 9, descriptorIndex := 10, attributes := #[] }, { accessFlags := 2, nameIndex := 19, descriptorIndex := 10, attributes := #[] }])
  fields := #[{ name := "name", type := (.object "java/lang/String"), accessFlags := 18, slot := 0, constantValue := 0 }, { name := "ordinal", type := .int, accessFlags := 18, slot := 1, constantValue := 0 }, { name := "hash", type := .int, accessFlags := 2, slot := 2, constantValue := 0 }]
  methods := #[]
  instanceTypes := #[(.object "java/lang/String"), .int, .int]
  staticTypes := #[]
  resolved := Array.replicate 204 none
  statics := none }

def pool6 : Array CpInfo := pool [(1, .class_ 2), (0, u "com/example/tidemark/tidemark/table/RowKind"), (2, u "INSERT"), (0, u "Lcom/example/tidemark/tidemark/table/RowKind;"), (0, .fieldref 1 8), (0, .nameAndType 9 6), (0, u "UPDATE_BEFORE"), (2, u "UPDATE_AFTER"), (0, .fieldref 1 14), (0, .nameAndType 15 6), (0, u "DELETE"), (2, u "$VALUES"), (0, u "[Lcom/example/tidemark/tidemark/table/RowKind;"), (6, .class_ 28), (1, u "java/lang/Enum"), (6, .fieldref 1 36), (0, .nameAndType 37 38), (0, u "shortName"), (0, u "Ljava/lang/String;"), (2, u "value"), (0, u "B"), (49, u "()Ljava/lang/String;"), (1, u "isRetraction"), (0, u "()Z")] 22

def k6c0 : Code := { maxStack := 1, maxLocals := 1, code := prog_28_method_6_code, exceptionTable := #[], attributes := #[] }
def k6m0 : Method := { name := "shortName", desc := "()Ljava/lang/String;", sig := { parameters := [], returnType := some (.object "java/lang/String") }, accessFlags := 1, code := some k6c0 }
def k6c1 : Code := { maxStack := 2, maxLocals := 1, code := prog_28_method_8_code, exceptionTable := #[], attributes := #[] }
def k6m1 : Method := { name := "isRetraction", desc := "()Z", sig := { parameters := [], returnType := some .boolean }, accessFlags := 1, code := some k6c1 }
/-- com/example/tidemark/tidemark/table/RowKind -/
def k6 : Class := { plain "com/example/tidemark/tidemark/table/RowKind" (some 5) with
  accessFlags := 16433
  interfaces := #[]
  cf := some (fileOf pool6 1 #[] #[{ accessFlags := 1, nameIndex := 37, descriptorIndex := 92, attributes := #[] }, { accessFlags := 1, nameIndex := 94, descriptorIndex := 95, attributes := #[] }] 16433 26 #[] #[{ accessFlags := 16409, nameIndex := 5, descriptorIndex := 6, attributes := #[] }, { accessFlags := 16409, nameIndex := 9, descriptorIndex := 6, attributes := #[] }, { accessFlags := 16409, nameIndex := 12, descriptorIndex := 6, attributes := #[] }, { accessFlags := 16409, nameIndex := 15, descriptorIndex := 6, attributes := #[] }, { accessFlags := 18, nameIndex := 37, descriptorIndex := 38, attributes := #[] }, { accessFlags := 18, nameIndex := 41, descriptorIndex := 42, attributes := #[] }, { accessFlags := 4122, nameIndex := 18, descriptorIndex := 19, attributes := #[] }])
  fields := #[{ name := "INSERT", type := (.object "com/example/tidemark/tidemark/table/RowKind"), accessFlags := 16409, slot := 0, constantValue := 0 }, { name := "UPDATE_BEFORE", type := (.object "com/example/tidemark/tidemark/table/RowKind"), accessFlags := 16409, slot := 1, constantValue := 0 }, { name := "UPDATE_AFTER", type := (.object "com/example/tidemark/tidemark/table/RowKind"), accessFlags := 16409, slot := 2, constantValue := 0 }, { name := "DELETE", type := (.object "com/example/tidemark/tidemark/table/RowKind"), accessFlags := 16409, slot := 3, constantValue := 0 }, { name := "shortName", type := (.object "java/lang/String"), accessFlags := 18, slot := 3, constantValue := 0 }, { name := "value", type := .byte, accessFlags := 18, slot := 4, constantValue := 0 }, { name := "$VALUES", type := (.array (.object "com/example/tidemark/tidemark/table/RowKind")), accessFlags := 4122, slot := 4, constantValue := 0 }]
  methods := #[k6m0, k6m1]
  instanceTypes := #[(.object "java/lang/String"), .int, .int, (.object "java/lang/String"), .byte]
  staticTypes := #[(.object "com/example/tidemark/tidemark/table/RowKind"), (.object "com/example/tidemark/tidemark/table/RowKind"), (.object "com/example/tidemark/tidemark/table/RowKind"), (.object "com/example/tidemark/tidemark/table/RowKind"), (.array (.object "com/example/tidemark/tidemark/table/RowKind"))]
  resolved := Array.replicate 118 none
  statics := some 0 }

def pool7 : Array CpInfo := pool [(2, .class_ 4), (1, u "java/lang/CharSequence"), (42, .class_ 48), (0, u "java/lang/CharSequence$1CodePointIterator"), (10, .class_ 60), (0, u "java/lang/CharSequence$1CharIterator"), (5, .class_ 67), (0, u "java/lang/Object")] 63

/-- java/lang/CharSequence -/
def k7 : Class := { plain "java/lang/CharSequence" (some 0) with
  accessFlags := 1537
  interfaces := #[]
  cf := some (fileOf pool7 2 #[.nestMembers #[47, 59]] #[] 1537 66 #[] #[])
  fields := #[]
  methods := #[]
  instanceTypes := #[]
  staticTypes := #[]
  resolved := Array.replicate 131 none
  statics := none }

def pool8 : Array CpInfo := pool [(1, .class_ 2), (0, u "java/lang/constant/ConstantDesc"), (0, .class_ 4), (0, u "java/lang/Object")] 32

/-- java/lang/constant/ConstantDesc -/
def k8 : Class := { plain "java/lang/constant/ConstantDesc" (some 0) with
  accessFlags := 1537
  interfaces := #[]
  cf := some (fileOf pool8 1 #[] #[] 1537 3 #[] #[])
  fields := #[]
  methods := #[]
  instanceTypes := #[]
  staticTypes := #[]
  resolved := Array.replicate 37 none
  statics := none }

def pool9 : Array CpInfo := pool [(2, .class_ 4), (1, u "java/lang/Object"), (0, u "<init>"), (0, u "()V"), (2, .fieldref 10 11), (0, .class_ 12), (0, .nameAndType 13 14), (0, u "java/lang/String"), (0, u "value"), (0, u "[B"), (0, .fieldref 10 16), (0, .nameAndType 17 18), (0, u "coder"), (0, u "B"), (2, u "hash"), (0, u "I"), (2, u "hashIsZero"), (0, u "Z"), (11, .fieldref 10 39), (0, .nameAndType 40 26), (0, u "COMPACT_STRINGS"), (66, .class_ 109), (1, u "java/lang/StringLatin1"), (32, u "()Z"), (220, u "([BI)C"), (27, u "(II)V"), (35, u "(I)C"), (64, .methodref 10 493), (0, .nameAndType 494 142), (0, u "isLatin1"), (0, .methodref 107 496), (0, .nameAndType 497 363), (0, u "charAt"), (3, u "checkIndex"), (73, .class_ 576), (0, u "java/lang/CharSequence"), (22, u "CASE_INSENSITIVE_ORDER"), (0, u "Ljava/util/Comparator;"), (452, .fieldref 1054 1055), (0, .class_ 1056), (0, .nameAndType 1057 1058), (0, u "jdk/internal/util/Preconditions"), (0, u "SIOOBE_FORMATTER"), (0, u "Ljava/util/function/BiFunction;"), (0, .methodref 1054 1060), (0, .nameAndType 501 1061), (0, u "(IILjava/util/function/BiFunction;)I"), (39, u "serialPersistentFields"), (0, u "[Ljava/io/ObjectStreamField;"), (0, .class_ 1104), (0, u "java/lang/String$CaseInsensitiveComparator"), (1, .class_ 1107), (0, u "java/io/Serializable"), (0, .class_ 1109), (0, u "java/lang/Comparable"), (0, .class_ 1111), (0, u "java/lang/constant/Constable"), (0, .class_ 1113), (0, u "java/lang/constant/ConstantDesc"), (2, u "serialVersionUID"), (0, u "J"), (3, u "REPL"), (0, u "C"), (2, u "LATIN1"), (1, u "UTF16")] 323

def k9m0 : Method := { name := "<init>", desc := "()V", sig := { parameters := [], returnType := none }, accessFlags := 1, code := none }
def k9c1 : Code := { maxStack := 2, maxLocals := 2, code := jdk_42_method_56_code, exceptionTable := #[], attributes := #[] }
def k9m1 : Method := { name := "charAt", desc := "(I)C", sig := { parameters := [.int], returnType := some .char }, accessFlags := 1, code := some k9c1 }
def k9c2 : Code := { maxStack := 1, maxLocals := 1, code := jdk_42_method_154_code, exceptionTable := #[], attributes := #[] }
def k9m2 : Method := { name := "isLatin1", desc := "()Z", sig := { parameters := [], returnType := some .boolean }, accessFlags := 0, code := some k9c2 }
def k9c3 : Code := { maxStack := 3, maxLocals := 2, code := jdk_42_method_155_code, exceptionTable := #[], attributes := #[] }
def k9m3 : Method := { name := "checkIndex", desc := "(II)V", sig := { parameters := [.int, .int], returnType := none }, accessFlags := 8, code := some k9c3 }
/-- java/lang/String -/
def k9 : Class := { plain "java/lang/String" (some 0) with
  accessFlags := 49
  interfaces := #[4, 3, 7, 2, 8]
  cf := some (fileOf pool9 10 #[.nestMembers #[1103]] #[{ accessFlags := 1, nameIndex := 5, descriptorIndex := 6, attributes := #[] }, { accessFlags := 1, nameIndex := 497, descriptorIndex := 427, attributes := #[] }, { accessFlags := 0, nameIndex := 494, descriptorIndex := 142, attributes := #[] }, { accessFlags := 8, nameIndex := 501, descriptorIndex := 391, attributes := #[] }] 49 2 #[1106, 1108, 575, 1110, 1112] #[{ accessFlags := 18, nameIndex := 13, descriptorIndex := 14, attributes := #[] }, { accessFlags := 18, nameIndex := 17, descriptorIndex := 18, attributes := #[] }, { accessFlags := 2, nameIndex := 21, descriptorIndex := 22, attributes := #[] }, { accessFlags := 2, nameIndex := 25, descriptorIndex := 26, attributes := #[] }, { accessFlags := 26, nameIndex := 1116, descriptorIndex := 1117, attributes := #[] }, { accessFlags := 24, nameIndex := 40, descriptorIndex := 26, attributes := #[] }, { accessFlags := 26, nameIndex := 1101, descriptorIndex := 1102, attributes := #[] }, { accessFlags := 26, nameIndex := 1121, descriptorIndex := 1122, attributes := #[] }, { accessFlags := 25, nameIndex := 599, descriptorIndex := 600, attributes := #[] }, { accessFlags := 24, nameIndex := 1125, descriptorIndex := 18, attributes := #[] }, { accessFlags := 24, nameIndex := 1127, descriptorIndex := 18, attributes := #[] }])
  fields := #[{ name := "value", type := (.array .byte), accessFlags := 18, slot := 0, constantValue := 0 }, { name := "coder", type := .byte, accessFlags := 18, slot := 1, constantValue := 0 }, { name := "hash", type := .int, accessFlags := 2, slot := 2, constantValue := 0 }, { name := "hashIsZero", type := .boolean, accessFlags := 2, slot := 3, constantValue := 0 }, { name := "serialVersionUID", type := .long, accessFlags := 26, slot := 0, constantValue := 0 }, { name := "COMPACT_STRINGS", type := .boolean, accessFlags := 24, slot := 1, constantValue := 0 }, { name := "serialPersistentFields", type := (.array (.object "java/io/ObjectStreamField")), accessFlags := 26, slot := 2, constantValue := 0 }, { name := "REPL", type := .char, accessFlags := 26, slot := 3, constantValue := 0 }, { name := "CASE_INSENSITIVE_ORDER", type := (.object "java/util/Comparator"), accessFlags := 25, slot := 4, constantValue := 0 }, { name := "LATIN1", type := .byte, accessFlags := 24, slot := 5, constantValue := 0 }, { name := "UTF16", type := .byte, accessFlags := 24, slot := 6, constantValue := 0 }]
  methods := #[k9m0, k9m1, k9m2, k9m3]
  instanceTypes := #[(.array .byte), .byte, .int, .boolean]
  staticTypes := #[.long, .boolean, (.array (.object "java/io/ObjectStreamField")), .char, (.object "java/util/Comparator"), .byte, .byte]
  resolved := Array.replicate 1451 none
  statics := some 1 }

def pool10 : Array CpInfo := pool [(1, .class_ 2), (0, u "java/lang/String"), (1, .class_ 6), (1, u "java/lang/Object"), (0, u "<init>"), (0, u "()V"), (0, .methodref 1 10), (0, .nameAndType 11 12), (0, u "checkIndex"), (0, u "(II)V"), (1, .class_ 16), (1, u "java/lang/StringLatin1"), (36, u "([BI)C"), (67, u "$assertionsDisabled"), (0, u "Z"), (98, .class_ 223), (1, u "java/lang/StringLatin1$LinesSpliterator"), (28, u "charAt"), (137, .class_ 391), (0, u "java/lang/StringLatin1$CharsSpliterator")] 3

def k10m0 : Method := { name := "<init>", desc := "()V", sig := { parameters := [], returnType := none }, accessFlags := 0, code := none }
def k10c1 : Code := { maxStack := 2, maxLocals := 2, code := jdk_43_method_2_code, exceptionTable := #[], attributes := #[] }
def k10m1 : Method := { name := "charAt", desc := "([BI)C", sig := { parameters := [(.array .byte), .int], returnType := some .char }, accessFlags := 9, code := some k10c1 }
/-- java/lang/StringLatin1 -/
def k10 : Class := { plain "java/lang/StringLatin1" (some 0) with
  accessFlags := 48
  interfaces := #[]
  cf := some (fileOf pool10 14 #[.nestMembers #[390, 221]] #[{ accessFlags := 0, nameIndex := 7, descriptorIndex := 8, attributes := #[] }, { accessFlags := 9, nameIndex := 252, descriptorIndex := 53, attributes := #[] }] 48 4 #[] #[{ accessFlags := 4120, nameIndex := 121, descriptorIndex := 122, attributes := #[] }])
  fields := #[{ name := "$assertionsDisabled", type := .boolean, accessFlags := 4120, slot := 0, constantValue := 0 }]
  methods := #[k10m0, k10m1]
  instanceTypes := #[]
  staticTypes := #[.boolean]
  resolved := Array.replicate 395 none
  statics := none }

def pool11 : Array CpInfo := pool [(2, .class_ 4), (1, u "java/lang/Object"), (0, u "<init>"), (0, u "()V"), (17, .class_ 26), (1, u "jdk/internal/util/Preconditions"), (6, u "checkIndex"), (21, .class_ 56), (0, u "jdk/internal/util/Preconditions$4"), (57, .class_ 115), (0, u "jdk/internal/util/Preconditions$1"), (7, u "SIOOBE_FORMATTER"), (0, u "Ljava/util/function/BiFunction;"), (0, .class_ 126), (0, u "jdk/internal/util/Preconditions$2"), (3, u "AIOOBE_FORMATTER"), (0, .class_ 132), (0, u "jdk/internal/util/Preconditions$3"), (3, u "IOOBE_FORMATTER"), (41, u "(IILjava/util/function/BiFunction;)I")] 15

def k11m0 : Method := { name := "<init>", desc := "()V", sig := { parameters := [], returnType := none }, accessFlags := 1, code := none }
def k11c1 : Code := { maxStack := 3, maxLocals := 3, code := jdk_41_method_11_code, exceptionTable := #[], attributes := #[] }
def k11m1 : Method := { name := "checkIndex", desc := "(IILjava/util/function/BiFunction;)I", sig := { parameters := [.int, .int, (.object "java/util/function/BiFunction")], returnType := some .int }, accessFlags := 9, code := some k11c1 }
/-- jdk/internal/util/Preconditions -/
def k11 : Class := { plain "jdk/internal/util/Preconditions" (some 0) with
  accessFlags := 33
  interfaces := #[]
  cf := some (fileOf pool11 24 #[.nestMembers #[55, 131, 125, 114]] #[{ accessFlags := 1, nameIndex := 5, descriptorIndex := 6, attributes := #[] }, { accessFlags := 9, nameIndex := 33, descriptorIndex := 178, attributes := #[] }] 33 2 #[] #[{ accessFlags := 25, nameIndex := 123, descriptorIndex := 124, attributes := #[] }, { accessFlags := 25, nameIndex := 130, descriptorIndex := 124, attributes := #[] }, { accessFlags := 25, nameIndex := 136, descriptorIndex := 124, attributes := #[] }])
  fields := #[{ name := "SIOOBE_FORMATTER", type := (.object "java/util/function/BiFunction"), accessFlags := 25, slot := 0, constantValue := 0 }, { name := "AIOOBE_FORMATTER", type := (.object "java/util/function/BiFunction"), accessFlags := 25, slot := 1, constantValue := 0 }, { name := "IOOBE_FORMATTER", type := (.object "java/util/function/BiFunction"), accessFlags := 25, slot := 2, constantValue := 0 }]
  methods := #[k11m0, k11m1]
  instanceTypes := #[]
  staticTypes := #[(.object "java/util/function/BiFunction"), (.object "java/util/function/BiFunction"), (.object "java/util/function/BiFunction")]
  resolved := Array.replicate 194 none
  statics := some 2 }

def pool12 : Array CpInfo := pool [(9, u "<init>"), (6, .class_ 18), (1, u "java/lang/Object"), (0, u "()V"), (1, .class_ 23), (1, u "jdk/internal/util/ArraysSupport"), (0, u "LOG2_ARRAY_LONG_INDEX_SCALE"), (0, u "I"), (2, u "U"), (0, u "Ljdk/internal/misc/Unsafe;"), (8, u "BIG_ENDIAN"), (0, u "Z"), (8, u "LOG2_BYTE_BIT_SIZE"), (4, u "LOG2_ARRAY_INT_INDEX_SCALE"), (54, u "JLA"), (0, u "Ljdk/internal/access/JavaLangAccess;"), (11, u "LOG2_ARRAY_BOOLEAN_INDEX_SCALE"), (9, u "LOG2_ARRAY_BYTE_INDEX_SCALE"), (5, u "LOG2_ARRAY_CHAR_INDEX_SCALE"), (5, u "LOG2_ARRAY_SHORT_INDEX_SCALE"), (18, u "LOG2_ARRAY_FLOAT_INDEX_SCALE"), (24, u "LOG2_ARRAY_DOUBLE_INDEX_SCALE"), (89, u "T_BOOLEAN"), (2, u "T_CHAR"), (1, u "T_FLOAT"), (1, u "T_DOUBLE"), (1, u "T_BYTE"), (1, u "T_SHORT"), (1, u "T_INT"), (1, u "T_LONG"), (1, u "SOFT_MAX_ARRAY_LENGTH")] 83

def k12m0 : Method := { name := "<init>", desc := "()V", sig := { parameters := [], returnType := none }, accessFlags := 2, code := none }
/-- jdk/internal/util/ArraysSupport -/
def k12 : Class := { plain "jdk/internal/util/ArraysSupport" (some 0) with
  accessFlags := 33
  interfaces := #[]
  cf := some (fileOf pool12 21 #[] #[{ accessFlags := 2, nameIndex := 9, descriptorIndex := 19, attributes := #[] }] 33 16 #[] #[{ accessFlags := 24, nameIndex := 28, descriptorIndex := 29, attributes := #[] }, { accessFlags := 26, nameIndex := 38, descriptorIndex := 39, attributes := #[] }, { accessFlags := 25, nameIndex := 121, descriptorIndex := 25, attributes := #[] }, { accessFlags := 25, nameIndex := 131, descriptorIndex := 25, attributes := #[] }, { accessFlags := 25, nameIndex := 137, descriptorIndex := 25, attributes := #[] }, { accessFlags := 25, nameIndex := 143, descriptorIndex := 25, attributes := #[] }, { accessFlags := 25, nameIndex := 53, descriptorIndex := 25, attributes := #[] }, { accessFlags := 25, nameIndex := 24, descriptorIndex := 25, attributes := #[] }, { accessFlags := 25, nameIndex := 162, descriptorIndex := 25, attributes := #[] }, { accessFlags := 25, nameIndex := 187, descriptorIndex := 25, attributes := #[] }, { accessFlags := 26, nameIndex := 48, descriptorIndex := 25, attributes := #[] }, { accessFlags := 25, nameIndex := 277, descriptorIndex := 25, attributes := #[] }, { accessFlags := 25, nameIndex := 280, descriptorIndex := 25, attributes := #[] }, { accessFlags := 25, nameIndex := 282, descriptorIndex := 25, attributes := #[] }, { accessFlags := 25, nameIndex := 284, descriptorIndex := 25, attributes := #[] }, { accessFlags := 25, nameIndex := 286, descriptorIndex := 25, attributes := #[] }, { accessFlags := 25, nameIndex := 288, descriptorIndex := 25, attributes := #[] }, { accessFlags := 25, nameIndex := 290, descriptorIndex := 25, attributes := #[] }, { accessFlags := 25, nameIndex := 292, descriptorIndex := 25, attributes := #[] }, { accessFlags := 26, nameIndex := 108, descriptorIndex := 109, attributes := #[] }, { accessFlags := 25, nameIndex := 294, descriptorIndex := 25, attributes := #[] }])
  fields := #[{ name := "U", type := (.object "jdk/internal/misc/Unsafe"), accessFlags := 24, slot := 0, constantValue := 0 }, { name := "BIG_ENDIAN", type := .boolean, accessFlags := 26, slot := 1, constantValue := 0 }, { name := "LOG2_ARRAY_BOOLEAN_INDEX_SCALE", type := .int, accessFlags := 25, slot := 2, constantValue := 0 }, { name := "LOG2_ARRAY_BYTE_INDEX_SCALE", type := .int, accessFlags := 25, slot := 3, constantValue := 0 }, { name := "LOG2_ARRAY_CHAR_INDEX_SCALE", type := .int, accessFlags := 25, slot := 4, constantValue := 0 }, { name := "LOG2_ARRAY_SHORT_INDEX_SCALE", type := .int, accessFlags := 25, slot := 5, constantValue := 0 }, { name := "LOG2_ARRAY_INT_INDEX_SCALE", type := .int, accessFlags := 25, slot := 6, constantValue := 0 }, { name := "LOG2_ARRAY_LONG_INDEX_SCALE", type := .int, accessFlags := 25, slot := 7, constantValue := 0 }, { name := "LOG2_ARRAY_FLOAT_INDEX_SCALE", type := .int, accessFlags := 25, slot := 8, constantValue := 0 }, { name := "LOG2_ARRAY_DOUBLE_INDEX_SCALE", type := .int, accessFlags := 25, slot := 9, constantValue := 0 }, { name := "LOG2_BYTE_BIT_SIZE", type := .int, accessFlags := 26, slot := 10, constantValue := 0 }, { name := "T_BOOLEAN", type := .int, accessFlags := 25, slot := 11, constantValue := 0 }, { name := "T_CHAR", type := .int, accessFlags := 25, slot := 12, constantValue := 0 }, { name := "T_FLOAT", type := .int, accessFlags := 25, slot := 13, constantValue := 0 }, { name := "T_DOUBLE", type := .int, accessFlags := 25, slot := 14, constantValue := 0 }, { name := "T_BYTE", type := .int, accessFlags := 25, slot := 15, constantValue := 0 }, { name := "T_SHORT", type := .int, accessFlags := 25, slot := 16, constantValue := 0 }, { name := "T_INT", type := .int, accessFlags := 25, slot := 17, constantValue := 0 }, { name := "T_LONG", type := .int, accessFlags := 25, slot := 18, constantValue := 0 }, { name := "JLA", type := (.object "jdk/internal/access/JavaLangAccess"), accessFlags := 26, slot := 19, constantValue := 0 }, { name := "SOFT_MAX_ARRAY_LENGTH", type := .int, accessFlags := 25, slot := 20, constantValue := 0 }]
  methods := #[k12m0]
  instanceTypes := #[]
  staticTypes := #[(.object "jdk/internal/misc/Unsafe"), .boolean, .int, .int, .int, .int, .int, .int, .int, .int, .int, .int, .int, .int, .int, .int, .int, .int, .int, (.object "jdk/internal/access/JavaLangAccess"), .int]
  resolved := Array.replicate 378 none
  statics := none }

def pool13 : Array CpInfo := pool [(1, u "java/lang/Cloneable"), (0, .class_ 1), (0, u "java/lang/Object"), (0, .class_ 3)] 3

/-- java/lang/Cloneable -/
def k13 : Class := { plain "java/lang/Cloneable" (some 0) with
  accessFlags := 1537
  interfaces := #[]
  cf := some (fileOf pool13 2 #[] #[] 1537 4 #[] #[])
  fields := #[]
  methods := #[]
  instanceTypes := #[]
  staticTypes := #[]
  resolved := Array.replicate 8 none
  statics := none }

/-- the primitive byte -/
def k14 : Class := { plain "byte" none with kind := .primitive 'B', accessFlags := 0x411 }
/-- [B -/
def k15 : Class := { plain "[B" (some 0) with kind := .array 14 .byte, interfaces := #[13, 4], accessFlags := 1041 }

/-- the primitive int -/
def k16 : Class := { plain "int" none with kind := .primitive 'I', accessFlags := 0x411 }
/-- [I -/
def k17 : Class := { plain "[I" (some 0) with kind := .array 16 .int, interfaces := #[13, 4], accessFlags := 1041 }

def heap : Heap := #[{ cls := 6, slots := #[.ref 3, .ref 6, .ref 9, .ref 12, .null], vm := .statics 6 },
  { cls := 9, slots := #[.long 0, .int 1, .null, .int 0, .null, .int 0, .int 0], vm := .statics 9 },
  { cls := 11, slots := #[.null, .null, .null], vm := .statics 11 },
  { cls := 6, slots := #[.null, .int 0, .int 0, .ref 4, .int 0], vm := .none },
  { cls := 9, slots := #[.ref 5, .int 0, .int 0, .int 0], vm := .none },
  { cls := 15, slots := #[.int 43, .int 73], vm := .none },
  { cls := 6, slots := #[.null, .int 1, .int 0, .ref 7, .int 0], vm := .none },
  { cls := 9, slots := #[.ref 8, .int 0, .int 0, .int 0], vm := .none },
  { cls := 15, slots := #[.int 45, .int 85], vm := .none },
  { cls := 6, slots := #[.null, .int 2, .int 0, .ref 10, .int 0], vm := .none },
  { cls := 9, slots := #[.ref 11, .int 0, .int 0, .int 0], vm := .none },
  { cls := 15, slots := #[.int 43, .int 85], vm := .none },
  { cls := 6, slots := #[.null, .int 3, .int 0, .ref 13, .int 0], vm := .none },
  { cls := 9, slots := #[.ref 14, .int 0, .int 0, .int 0], vm := .none },
  { cls := 15, slots := #[.int 45, .int 68], vm := .none }]
def classes : Array Class := #[k0, k1, k2, k3, k4, k5, k6, k7, k8, k9, k10, k11, k12, k13, k14, k15, k16, k17]
def interned : List (Array UInt16 × Addr) := []
def slotsUsed : Nat := 59
def theMethod : MethodId := ⟨1, 2⟩
def args0 : Array Value := #[.int 1]
def aboutOver (below : List Frame) : State where
  vm := { classes := classes, interned := interned.toArray }
  heap := heap
  slotsUsed := slotsUsed
  threads := #[{ frames := .invoking theMethod args0 :: below }]
def below0 : List Frame := [.native { method := ⟨0, 0⟩, args := #[] }]
def about1 : State := aboutOver below0
def p0 : Program := .bare "" "" ""
def e0 : Env := launch0.env 0 0 0
theorem w_frames : about1.frames = Frame.invoking theMethod args0 :: below0 := rfl
set_option maxRecDepth 65536 in
theorem w_args : argsFit about1.vm theMethod args0 = true := by decide +kernel
set_option maxRecDepth 65536 in
theorem w_heap : heapFits about1 = true := by decide +kernel
set_option maxRecDepth 65536 in
theorem w_runnable : about1.curStatus? = some .runnable := by decide +kernel
set_option maxRecDepth 65536 in
theorem w_alone : about1.alone = true := by decide +kernel
set_option maxRecDepth 65536 in
theorem w_named : about1.methodNamed? x = some theMethod := by decide +kernel
set_option maxRecDepth 65536 in
theorem w_hears : about1.hears theMethod below0 = true := by decide +kernel
set_option maxRecDepth 65536 in
theorem w_ripe : about1.ripe theMethod args0 below0 = true := by decide +kernel
theorem w_running : about1.status = .running := rfl
set_option maxRecDepth 65536 in
theorem w_room : about1.hasRoom e0.platform room_1 = true :=
  launch0.hasRoom_least _ room_1 (by decide +kernel) (by decide +kernel) (by decide +kernel) (by decide +kernel) (by decide +kernel) (by decide +kernel)
theorem allAtoms_all (ts : List Jvm.Cond) (a : Array Jvm.Value) (st : Jvm.State) : (allAtoms ts).before a st = ts.all (fun c => c.before a st) := by
  induction ts with
  | nil => rfl
  | cons c t ih =>
    show (Jvm.Cond.and c (allAtoms t)).before a st = _
    rw [Jvm.Cond.before_and, ih, List.all_cons]
def words1 : List Jvm.Cond := Jvm.Cond.code x code maxLocals ret :: tables_1
/-- a 'code' word, met by the world's own term for the bytes: nothing is compared byte by byte -/
theorem code_word {y : MethodName} {bytes : ByteArray} {mx : Nat} {rt : Option FieldType} {a : Array Value} {s : State} {m : MethodId} {meth : Method} {c : Code} (h1 : s.methodNamed? y = some m) (h2 : s.vm.method? m = some meth) (h3 : meth.code = some c) (h4 : c.code = bytes)
    (h5 : (c.maxLocals == mx && c.exceptionTable.isEmpty && decide (c.maxStack ≤ mostOperands) && decide (meth.sig.returnType = rt) && !meth.locks && decide (parseMethodDescriptor y.desc = some meth.sig)) = true) : (Jvm.Cond.code y bytes mx rt).before a s = true := by
  simp only [Bool.and_eq_true, beq_iff_eq, Bool.not_eq_true', decide_eq_true_eq] at h5
  obtain ⟨⟨⟨⟨⟨g1, g2⟩, g3⟩, g4⟩, g5⟩, g6⟩ := h5
  simp [Cond.before, Cond.holds, Cond.value, h1, h2, h3, h4, g1, g2, g3, g4, g5, g6]
def isCode : Jvm.Cond → Bool
  | .code _ _ _ _ => true
  | _ => false
theorem all_split {L : List Jvm.Cond} {P : Jvm.Cond → Bool} (h1 : L.all (fun c => isCode c || P c) = true) (h2 : ∀ c ∈ L.filter isCode, P c = true) : L.all P = true := by
  refine List.all_eq_true.mpr fun c hc => ?_
  have h := List.all_eq_true.mp h1 c hc
  rcases Bool.eq_false_or_eq_true (isCode c) with hi | hi
  · exact h2 c (List.mem_filter.mpr ⟨hc, hi⟩)
  · simpa [hi] using h
set_option maxRecDepth 65536 in
theorem w_c0 : (Jvm.Cond.code x code maxLocals ret).before args0 about1 = true := code_word (m := ⟨1, 2⟩) (meth := k1m2) (c := k1c2) (by decide +kernel) rfl rfl rfl (by decide +kernel)
set_option maxRecDepth 65536 in
theorem w_c1 : (Jvm.Cond.code ({ cls := "com/example/tidemark/tidemark/table/RowKindIsRetractionPinLaw", name := "pick", desc := "(I)Lcom/example/tidemark/tidemark/table/RowKind;" } : Jvm.MethodName) method_2_code (1 : Nat) (Option.some (Jvm.ClassFile.FieldType.object "com/example/tidemark/tidemark/table/RowKind"))).before args0 about1 = true := code_word (m := ⟨1, 1⟩) (meth := k1m1) (c := k1c1) (by decide +kernel) rfl rfl rfl (by decide +kernel)
set_option maxRecDepth 65536 in
theorem w_c2 : (Jvm.Cond.code ({ cls := "com/example/tidemark/tidemark/table/RowKind", name := "isRetraction", desc := "()Z" } : Jvm.MethodName) prog_28_method_8_code (1 : Nat) (Option.some Jvm.ClassFile.FieldType.boolean)).before args0 about1 = true := code_word (m := ⟨6, 1⟩) (meth := k6m1) (c := k6c1) (by decide +kernel) rfl rfl rfl (by decide +kernel)
set_option maxRecDepth 65536 in
theorem w_c3 : (Jvm.Cond.code ({ cls := "com/example/tidemark/tidemark/table/RowKind", name := "shortName", desc := "()Ljava/lang/String;" } : Jvm.MethodName) prog_28_method_6_code (1 : Nat) (Option.some (Jvm.ClassFile.FieldType.object "java/lang/String"))).before args0 about1 = true := code_word (m := ⟨6, 0⟩) (meth := k6m0) (c := k6c0) (by decide +kernel) rfl rfl rfl (by decide +kernel)
set_option maxRecDepth 65536 in
theorem w_c4 : (Jvm.Cond.code ({ cls := "java/lang/String", name := "charAt", desc := "(I)C" } : Jvm.MethodName) jdk_42_method_56_code (2 : Nat) (Option.some Jvm.ClassFile.FieldType.char)).before args0 about1 = true := code_word (m := ⟨9, 1⟩) (meth := k9m1) (c := k9c1) (by decide +kernel) rfl rfl rfl (by decide +kernel)
set_option maxRecDepth 65536 in
theorem w_c5 : (Jvm.Cond.code ({ cls := "java/lang/String", name := "isLatin1", desc := "()Z" } : Jvm.MethodName) jdk_42_method_154_code (1 : Nat) (Option.some Jvm.ClassFile.FieldType.boolean)).before args0 about1 = true := code_word (m := ⟨9, 2⟩) (meth := k9m2) (c := k9c2) (by decide +kernel) rfl rfl rfl (by decide +kernel)
set_option maxRecDepth 65536 in
theorem w_c6 : (Jvm.Cond.code ({ cls := "java/lang/StringLatin1", name := "charAt", desc := "([BI)C" } : Jvm.MethodName) jdk_43_method_2_code (2 : Nat) (Option.some Jvm.ClassFile.FieldType.char)).before args0 about1 = true := code_word (m := ⟨10, 1⟩) (meth := k10m1) (c := k10c1) (by decide +kernel) rfl rfl rfl (by decide +kernel)
set_option maxRecDepth 65536 in
theorem w_c7 : (Jvm.Cond.code ({ cls := "java/lang/String", name := "checkIndex", desc := "(II)V" } : Jvm.MethodName) jdk_42_method_155_code (2 : Nat) (Option.none : Option Jvm.ClassFile.FieldType)).before args0 about1 = true := code_word (m := ⟨9, 3⟩) (meth := k9m3) (c := k9c3) (by decide +kernel) rfl rfl rfl (by decide +kernel)
set_option maxRecDepth 65536 in
theorem w_c8 : (Jvm.Cond.code ({ cls := "jdk/internal/util/Preconditions", name := "checkIndex", desc := "(IILjava/util/function/BiFunction;)I" } : Jvm.MethodName) jdk_41_method_11_code (3 : Nat) (Option.some Jvm.ClassFile.FieldType.int)).before args0 about1 = true := code_word (m := ⟨11, 1⟩) (meth := k11m1) (c := k11c1) (by decide +kernel) rfl rfl rfl (by decide +kernel)
def codes1 : List Jvm.Cond := [Jvm.Cond.code x code maxLocals ret, Jvm.Cond.code ({ cls := "com/example/tidemark/tidemark/table/RowKindIsRetractionPinLaw", name := "pick", desc := "(I)Lcom/example/tidemark/tidemark/table/RowKind;" } : Jvm.MethodName) method_2_code (1 : Nat) (Option.some (Jvm.ClassFile.FieldType.object "com/example/tidemark/tidemark/table/RowKind")), Jvm.Cond.code ({ cls := "com/example/tidemark/tidemark/table/RowKind", name := "isRetraction", desc := "()Z" } : Jvm.MethodName) prog_28_method_8_code (1 : Nat) (Option.some Jvm.ClassFile.FieldType.boolean), Jvm.Cond.code ({ cls := "com/example/tidemark/tidemark/table/RowKind", name := "shortName", desc := "()Ljava/lang/String;" } : Jvm.MethodName) prog_28_method_6_code (1 : Nat) (Option.some (Jvm.ClassFile.FieldType.object "java/lang/String")), Jvm.Cond.code ({ cls := "java/lang/String", name := "charAt", desc := "(I)C" } : Jvm.MethodName) jdk_42_method_56_code (2 : Nat) (Option.some Jvm.ClassFile.FieldType.char), Jvm.Cond.code ({ cls := "java/lang/String", name := "isLatin1", desc := "()Z" } : Jvm.MethodName) jdk_42_method_154_code (1 : Nat) (Option.some Jvm.ClassFile.FieldType.boolean), Jvm.Cond.code ({ cls := "java/lang/StringLatin1", name := "charAt", desc := "([BI)C" } : Jvm.MethodName) jdk_43_method_2_code (2 : Nat) (Option.some Jvm.ClassFile.FieldType.char), Jvm.Cond.code ({ cls := "java/lang/String", name := "checkIndex", desc := "(II)V" } : Jvm.MethodName) jdk_42_method_155_code (2 : Nat) (Option.none : Option Jvm.ClassFile.FieldType), Jvm.Cond.code ({ cls := "jdk/internal/util/Preconditions", name := "checkIndex", desc := "(IILjava/util/function/BiFunction;)I" } : Jvm.MethodName) jdk_41_method_11_code (3 : Nat) (Option.some Jvm.ClassFile.FieldType.int)]
set_option maxRecDepth 65536 in
theorem codes_eq : words1.filter isCode = codes1 := rfl
theorem w_codes : ∀ c ∈ words1.filter isCode, c.before args0 about1 = true := by
  rw [codes_eq]
  intro c hc
  simp only [codes1, List.mem_cons, List.not_mem_nil, or_false] at hc
  rcases hc with rfl | rfl | rfl | rfl | rfl | rfl | rfl | rfl | rfl
  · exact w_c0
  · exact w_c1
  · exact w_c2
  · exact w_c3
  · exact w_c4
  · exact w_c5
  · exact w_c6
  · exact w_c7
  · exact w_c8
set_option maxRecDepth 65536 in
theorem w_t1 : (words1.take 24).all (fun c => isCode c || c.before args0 about1) = true := by decide +kernel
set_option maxRecDepth 65536 in
theorem w_t2 : ((words1.drop 24).take 24).all (fun c => isCode c || c.before args0 about1) = true := by decide +kernel
set_option maxRecDepth 65536 in
theorem w_t3 : ((words1.drop 24).drop 24).all (fun c => isCode c || c.before args0 about1) = true := by decide +kernel
theorem w_tables : (allAtoms (Jvm.Cond.code x code maxLocals ret :: tables_1)).before args0 about1 = true := by
  rw [allAtoms_all]
  show words1.all (fun c => c.before args0 about1) = true
  refine all_split ?_ w_codes
  rw [← List.take_append_drop 24 words1, List.all_append, w_t1, ← List.take_append_drop 24 (words1.drop 24), List.all_append, w_t2, w_t3]
  rfl
set_option maxRecDepth 65536 in
theorem w_rest : rest_1_c.before args0 about1 = true := by decide +kernel
set_option maxRecDepth 65536 in
theorem w_case : (Jvm.Cond.and given_1 narrow_1).before args0 about1 = true := by decide +kernel
theorem w_applies : (headSpec (Jvm.Cond.code x code maxLocals ret :: tables_1) room_1).applies x e0.platform about1 = true :=
  (Spec.applies_iff w_frames).mpr ⟨w_running, w_runnable, w_alone, w_named, w_hears, w_ripe, w_room, w_tables⟩
theorem atStart : AtStart classFile x code maxLocals ret World_1 tables_1 room_1 Calls_1 rest_1 Pre_1 launch0 p0 e0 about1 theMethod args0 below0 :=
  ⟨lists_1, trivial, launch0.admits_env _ _ _, launch0.least_env, fairChoices_fair.cas, fairChoices_fair.clock, w_frames, w_args, w_heap, w_applies, trivial, w_rest, w_case⟩
end start1
theorem witness_1 : WitnessClaimed_1 := ⟨start1.p0, start1.e0, start1.about1, start1.theMethod, start1.args0, start1.below0, start1.atStart⟩
end Jvm.Pilot.@@N@@
