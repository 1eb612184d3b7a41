import JvmDerived
import JvmDerived.Pilot.@@N@@Statement
import JvmDerived.Pilot.@@N@@Code
set_option linter.unusedVariables false
set_option linter.unusedSimpArgs false
namespace Jvm.RoadKit
open Sem ClassFile Op Lib Jvm.Stand Jvm.Free Jvm.LawKit
section New
variable {p : Program} {l : Launch} {e : Env} {R : Room} {s : State} {m : MethodId} {args : Array Value} {below : List Frame} {meth : Method} {c : Code} {T : State} {locs : List Loc} {cells slots : Nat}
theorem retI (X : Stand p l e R s m args below meth c T locs cells slots) (hx : p.tables.exec = Jvm.exec) {pc : Nat} {Ls : Array Slot} {z : Int32} {rest : List Value} (hret : meth.sig.returnType = some .int) (hd : decode c.code pc = .ok (.ireturn, 1)) {fs : List Frame}
    (hl : ∀ (f : JFrame) (acts : List Action), f.method = m → f.locked = none → f.entered = [] → (doReturn e (T.setTop f) acts (some (.int z))).1 = T.setFrames fs) : Steps p.tables e below (T.setTop (mkF m pc Ls (.int z :: rest))) (T.setFrames fs) := by
  have hm' : T.vm.method? m = some meth := X.method'
  have hn : narrow .int (.int z) = .int z := rfl
  show Steps p.tables e below (T.setTop { method := m, pc := pc, locals := Ls, stack := _ :: rest, locked := none }) _
  jvm_step X.here [X.here.top, hx, hd, hm', hret, hn]
  first | (intro acts; rw [hl _ acts rfl rfl rfl]) | rw [hl _ _ rfl rfl rfl]
  exact Steps.refl _
end New
theorem own_sta_keep {Z : State} {h h' : Heap} {C n d : String} {w : Value} {ws : List Addr} (F : Sta Z h C n d w) (K : Keep h h' ws) (q : ∀ x ∈ ws, ∃ c : Cell, h[x]? = some c ∧ c.vm.isStatics = false) : Sta Z h' C n d w := by
  obtain ⟨cf, i, k, f, st, cell, h1, h2, h3, h4, h5, h6, h7⟩ := F
  refine ⟨cf, i, k, f, st, cell, h1, h2, h3, h4, K.2.1 st cell h5 (fun hm => ?_), h6, h7⟩
  obtain ⟨c, g1, g2⟩ := q st hm
  cases h5.symm.trans g1
  rw [h6] at g2; cases g2
theorem own_exa_ns {Z : State} {h : Heap} {a : Addr} {C : String} (F : Exa Z h a C) : ∃ c : Cell, h[a]? = some c ∧ c.vm.isStatics = false := by
  obtain ⟨cell, k, h1, -, -, h4, -⟩ := F
  exact ⟨cell, h1, h4⟩
theorem own_arv_ns {Z : State} {h : Heap} {a : Addr} {k : ClassId} {ty : FieldType} {z : Int32} {vs : List Value} {d : Value} (F : Arv Z h a k ty z vs d) : ∃ c : Cell, h[a]? = some c ∧ c.vm.isStatics = false := by
  obtain ⟨cell, A, -⟩ := F
  exact ⟨cell, A.1, A.plain⟩
theorem own_arv {Z : State} {h : Heap} {a : Addr} {k : ClassId} {ty : FieldType} {z : Int32} {vs : List Value} {d : Value} (F : Arh Z h a k ty z [] vs d) : Arv Z h a k ty z vs d := F
theorem own_eqv {Z : State} {args : Array Value} {t u : Term} {v : Value} (hv : (∃ k, v = .int k) ∨ ∃ a, v = .ref a) (hu : u.eval args Z none [] Z = some v) (h : (Jvm.Cond.eq t u).value args Z none Z [] = some true) : t.eval args Z none [] Z = some v := by
  simp only [Jvm.Cond.value, hu] at h
  cases ht : t.eval args Z none [] Z with
  | none => simp [ht] at h
  | some x => rcases hv with ⟨k, rfl⟩ | ⟨a, rfl⟩ <;> cases x <;> simp [ht] at h ⊢ <;> exact h
theorem own_len {Z : State} {args : Array Value} {t : Term} {a : Addr} {cl : Cell} {ty : FieldType} {z : Int32} (ev : t.eval args Z none [] Z = some (.ref a)) (A : Arr Z Z.heap a cl ty) (h : (Term.length t).eval args Z none [] Z = some (.int z)) : cl.slots.size < 2 ^ 31 ∧ cl.slots.size.toInt32 = z := by
  obtain ⟨a', cell, ha', hat, hv⟩ := Term.length_spec h
  cases ev.symm.trans ha'
  cases A.1.symm.trans (State.arrayAt?_spec hat).1
  cases hv
  refine ⟨?_, rfl⟩
  by_cases q : cl.slots.size < 2 ^ 31
  · exact q
  · exfalso
    simp [Term.eval, ev, hat, q] at h
end Jvm.RoadKit
namespace Jvm.Pilot.@@N@@
open Jvm Jvm.ClassFile Sem Op Lib Jvm.Free Jvm.Stand Jvm.LawKit Jvm.RoadKit Bundle Jvm.Pilot.@@N@@.Jvm.D
theorem d6_0 : decode jdk_29_method_69_code 0 = .ok (.iload_n 0, 1) := by decide +kernel
theorem d6_1 : decode jdk_29_method_69_code 1 = .ok (.iload_n 1, 1) := by decide +kernel
theorem d6_2 : decode jdk_29_method_69_code 2 = .ok (.if_icmp .gt 7, 3) := by decide +kernel
theorem d6_5 : decode jdk_29_method_69_code 5 = .ok (.iload_n 0, 1) := by decide +kernel
theorem d6_6 : decode jdk_29_method_69_code 6 = .ok (.goto 4, 3) := by decide +kernel
theorem d6_9 : decode jdk_29_method_69_code 9 = .ok (.iload_n 1, 1) := by decide +kernel
theorem d6_10 : decode jdk_29_method_69_code 10 = .ok (.ireturn, 1) := by decide +kernel
def res6 (p1 : Int32) (p2 : Int32) : Int32 := if p2 < p1 then p2 else p1
theorem ef6 (m : MethodId) (p1 : Int32) (p2 : Int32) : entryFrame m #[(.int p1), (.int p2)] 2 = (mkF m 0 #[.val (.int p1), .val (.int p2)] []) := by first | (simp [entryFrame, mkF, argsToLocals, Value.category]; done) | rfl
def Q6 (Z : State) (p1 : Int32) (p2 : Int32) (h0 : Heap) (n0 : Nat) (v : Option Value) (h : Heap) (L : List Loc) : Prop := v = some (.int (res6 p1 p2)) ∧ L = [] ∧ h = h0
set_option maxRecDepth 65536 in
set_option maxHeartbeats 40000000 in
theorem rm6 (l : Launch) (Z : State) (a0 : Array Value) (hw : ∀ d ∈ tables_1, d.before a0 Z = true) (ws : List Jvm.Cond) (p1 : Int32) (p2 : Int32) (h0 : Heap) (n0 : Nat) (Z0 : n0 ≤ h0.size) :
    MetFree l (⟨"java/lang/Math", "min", "(II)I"⟩ : MethodName) (head1 (Jvm.Cond.code (⟨"java/lang/Math", "min", "(II)I"⟩ : MethodName) jdk_29_method_69_code 2 (some .int) :: ws) ({ frames := 0, cells := 0, slots := 0, locals := 0 } : Room)) (fun a U => a = #[(.int p1), (.int p2)] ∧ Z.Warmed39 U.vm ∧ U.heap = h0) (fun _ _ _ _ _ => True) (fun _ U o U' => ∃ v L, o = .returned v ∧ Q6 Z p1 p2 h0 n0 v U'.heap L ∧ FrameEnd U o U' L ({ frames := 0, cells := 0, slots := 0, locals := 0 } : Room).cells ({ frames := 0, cells := 0, slots := 0, locals := 0 } : Room).slots) := by
  refine MetFree.of_bodySF (Jvm.Free.JP.mathPlain rfl (by decide +kernel)) hisR ?_
  intro p e s m args below meth c s₁ Bd hml0 hP hK
  obtain ⟨rfl, hZ, hh⟩ := hP
  have hx := Bd.exec
  have hby := Bd.bytes
  have hml : c.maxLocals = 2 := hml0
  have hown : s.vm.findClass "java/lang/Math" = some m.cls := findClass_of_methodNamed Bd.named
  have hnm := (name_of_methodNamed Bd.named Bd.method).1
  have X0 : Stand p l e ({ frames := 0, cells := 0, slots := 0, locals := 0 } : Room) s m #[(.int p1), (.int p2)] below meth c s₁ [] 0 0 := Stand.of_body Bd
  have e0 : s₁.heap = h0 := by rw [← hh, Bd.state]; rfl
  have N0 := Fr.nil n0
  have pre0 : ∀ t, Steps p.tables e below (s₁.setTop (mkF m 0 #[.val (.int p1), .val (.int p2)] [])) t → Steps p.tables e below (s₁.setTop (entryFrame m #[(.int p1), (.int p2)] 2)) t := fun t k => castTop (ef6 m p1 p2) k
  have pre1 : ∀ t, Steps p.tables e below (s₁.setTop (mkF m 2 #[.val (.int p1), .val (.int p2)] [(.int p2), (.int p1)])) t → Steps p.tables e below (s₁.setTop (entryFrame m #[(.int p1), (.int p2)] 2)) t := by
    intro t kt
    refine pre0 _ ?_
    show Steps p.tables e below (s₁.setTop (mkF m 0 #[.val (.int p1), .val (.int p2)] [])) _
    refine XS.iloadN X0.here hx rfl (hb hby d6_0) rfl ?_
    refine XS.iloadN X0.here hx rfl (hb hby d6_1) rfl ?_
    exact kt
  by_cases hc2_2 : p2 < p1
  · obtain ⟨fs, hr, hrun, hended, hW, hsame⟩ := X0.leave (v := some (.int p2)) (fun h => by rw [Bd.returns] at h; cases h)
    refine ⟨_, _, pre1 _ ?_, hrun, hended, _, _, rfl, ?_, ⟨_, rfl⟩, hW, hsame.mono (by decide) (by decide)⟩
    · show Steps p.tables e below (s₁.setTop (mkF m 2 #[.val (.int p1), .val (.int p2)] [(.int p2), (.int p1)])) _
      refine XS.icmpYes X0.here hx rfl (pc0 := 2) (pc' := 9) rfl (hb hby d6_2) rfl (tlt hc2_2).2.2.1 (by decide) (by decide) ?_
      show Steps p.tables e below (s₁.setTop (mkF m 9 #[.val (.int p1), .val (.int p2)] [])) _
      refine XS.iloadN X0.here hx rfl (hb hby d6_9) rfl ?_
      show Steps p.tables e below (s₁.setTop (mkF m 10 #[.val (.int p1), .val (.int p2)] [(.int p2)])) _
      exact retI X0 hx Bd.returns (hb hby d6_10) hr
    · show Q6 Z p1 p2 h0 n0 _ s₁.heap _
      rw [e0]
      exact ⟨by rw [res6, if_pos hc2_2], rfl, rfl⟩
  · obtain ⟨fs, hr, hrun, hended, hW, hsame⟩ := X0.leave (v := some (.int p1)) (fun h => by rw [Bd.returns] at h; cases h)
    refine ⟨_, _, pre1 _ ?_, hrun, hended, _, _, rfl, ?_, ⟨_, rfl⟩, hW, hsame.mono (by decide) (by decide)⟩
    · show Steps p.tables e below (s₁.setTop (mkF m 2 #[.val (.int p1), .val (.int p2)] [(.int p2), (.int p1)])) _
      refine XS.icmpNo X0.here hx rfl (hb hby d6_2) rfl (flt hc2_2).2.2.1 ?_
      show Steps p.tables e below (s₁.setTop (mkF m 5 #[.val (.int p1), .val (.int p2)] [])) _
      refine XS.iloadN X0.here hx rfl (hb hby d6_5) rfl ?_
      refine XS.goto X0.here hx rfl (pc0 := 6) (pc' := 10) rfl (hb hby d6_6) (by decide) (by decide) ?_
      show Steps p.tables e below (s₁.setTop (mkF m 10 #[.val (.int p1), .val (.int p2)] [(.int p1)])) _
      exact retI X0 hx Bd.returns (hb hby d6_10) hr
    · show Q6 Z p1 p2 h0 n0 _ s₁.heap _
      rw [e0]
      exact ⟨by rw [res6, if_neg hc2_2], rfl, rfl⟩
theorem d1_0 : decode method_2_code 0 = .ok (.iload_n 1, 1) := by decide +kernel
theorem d1_1 : decode method_2_code 1 = .ok (.iload_n 2, 1) := by decide +kernel
theorem d1_2 : decode method_2_code 2 = .ok (.iushr, 1) := by decide +kernel
theorem d1_3 : decode method_2_code 3 = .ok (.iconst 1, 1) := by decide +kernel
theorem d1_4 : decode method_2_code 4 = .ok (.iand, 1) := by decide +kernel
theorem d1_5 : decode method_2_code 5 = .ok (.ifCond .eq 5, 3) := by decide +kernel
theorem d1_8 : decode method_2_code 8 = .ok (.iconst (-1), 1) := by decide +kernel
theorem d1_9 : decode method_2_code 9 = .ok (.ireturn, 1) := by decide +kernel
theorem d1_10 : decode method_2_code 10 = .ok (.iload_n 0, 1) := by decide +kernel
theorem d1_11 : decode method_2_code 11 = .ok (.bipush 8, 2) := by decide +kernel
theorem d1_13 : decode method_2_code 13 = .ok (.iload_n 2, 1) := by decide +kernel
theorem d1_14 : decode method_2_code 14 = .ok (.imul, 1) := by decide +kernel
theorem d1_15 : decode method_2_code 15 = .ok (.iushr, 1) := by decide +kernel
theorem d1_16 : decode method_2_code 16 = .ok (.i2b, 1) := by decide +kernel
theorem d1_17 : decode method_2_code 17 = .ok (.ireturn, 1) := by decide +kernel
def res1 (p1 : Int32) (p2 : Int32) (p3 : Int32) : Int32 := if (((p2.toUInt32 >>> (p3 &&& 31).toUInt32).toInt32) &&& (1 : Int32)) = (0 : Int32) then (nar .byte (((p1.toUInt32 >>> (((8 : Int32) * p3) &&& 31).toUInt32).toInt32).toInt8.toInt32)) else (-1 : Int32)
theorem pn0 : plainName "com/example/elliott_bay/elliottbay/store/KeysEndPinLaw" = true := by first | (simp [plainName, overriddenIn]; done) | decide +kernel
theorem ef1 (m : MethodId) (p1 : Int32) (p2 : Int32) (p3 : Int32) : entryFrame m #[(.int p1), (.int p2), (.int p3)] 3 = (mkF m 0 #[.val (.int p1), .val (.int p2), .val (.int p3)] []) := by first | (simp [entryFrame, mkF, argsToLocals, Value.category]; done) | rfl
def Q1 (Z : State) (p1 : Int32) (p2 : Int32) (p3 : Int32) (h0 : Heap) (n0 : Nat) (v : Option Value) (h : Heap) (L : List Loc) : Prop := v = some (.int (res1 p1 p2 p3)) ∧ L = [] ∧ h = h0
set_option maxRecDepth 65536 in
set_option maxHeartbeats 40000000 in
theorem rm1 (l : Launch) (Z : State) (a0 : Array Value) (hw : ∀ d ∈ tables_1, d.before a0 Z = true) (ws : List Jvm.Cond) (p1 : Int32) (p2 : Int32) (p3 : Int32) (h0 : Heap) (n0 : Nat) (Z0 : n0 ≤ h0.size) :
    MetFree l (⟨"com/example/elliott_bay/elliottbay/store/KeysEndPinLaw", "pick", "(III)B"⟩ : MethodName) (head1 (Jvm.Cond.code (⟨"com/example/elliott_bay/elliottbay/store/KeysEndPinLaw", "pick", "(III)B"⟩ : MethodName) method_2_code 3 (some .byte) :: ws) ({ frames := 0, cells := 0, slots := 0, locals := 0 } : Room)) (fun a U => a = #[(.int p1), (.int p2), (.int p3)] ∧ Z.Warmed39 U.vm ∧ U.heap = h0) (fun _ _ _ _ _ => True) (fun _ U o U' => ∃ v L, o = .returned v ∧ Q1 Z p1 p2 p3 h0 n0 v U'.heap L ∧ FrameEnd U o U' L ({ frames := 0, cells := 0, slots := 0, locals := 0 } : Room).cells ({ frames := 0, cells := 0, slots := 0, locals := 0 } : Room).slots) := by
  refine MetFree.of_bodySF (plainFor_of_name pn0) hisR ?_
  intro p e s m args below meth c s₁ Bd hml0 hP hK
  obtain ⟨rfl, hZ, hh⟩ := hP
  have hx := Bd.exec
  have hby := Bd.bytes
  have hml : c.maxLocals = 3 := hml0
  have hown : s.vm.findClass "com/example/elliott_bay/elliottbay/store/KeysEndPinLaw" = some m.cls := findClass_of_methodNamed Bd.named
  have hnm := (name_of_methodNamed Bd.named Bd.method).1
  have X0 : Stand p l e ({ frames := 0, cells := 0, slots := 0, locals := 0 } : Room) s m #[(.int p1), (.int p2), (.int p3)] below meth c s₁ [] 0 0 := Stand.of_body Bd
  have e0 : s₁.heap = h0 := by rw [← hh, Bd.state]; rfl
  have N0 := Fr.nil n0
  have pre0 : ∀ t, Steps p.tables e below (s₁.setTop (mkF m 0 #[.val (.int p1), .val (.int p2), .val (.int p3)] [])) t → Steps p.tables e below (s₁.setTop (entryFrame m #[(.int p1), (.int p2), (.int p3)] 3)) t := fun t k => castTop (ef1 m p1 p2 p3) k
  have pre1 : ∀ t, Steps p.tables e below (s₁.setTop (mkF m 5 #[.val (.int p1), .val (.int p2), .val (.int p3)] [(.int (((p2.toUInt32 >>> (p3 &&& 31).toUInt32).toInt32) &&& (1 : Int32)))])) t → Steps p.tables e below (s₁.setTop (entryFrame m #[(.int p1), (.int p2), (.int p3)] 3)) t := by
    intro t kt
    refine pre0 _ ?_
    show Steps p.tables e below (s₁.setTop (mkF m 0 #[.val (.int p1), .val (.int p2), .val (.int p3)] [])) _
    refine XS.iloadN X0.here hx rfl (hb hby d1_0) rfl ?_
    refine XS.iloadN X0.here hx rfl (hb hby d1_1) rfl ?_
    refine XS.iushr X0.here hx rfl (hb hby d1_2) rfl ?_
    show Steps p.tables e below (s₁.setTop (mkF m 3 #[.val (.int p1), .val (.int p2), .val (.int p3)] [(.int ((p2.toUInt32 >>> (p3 &&& 31).toUInt32).toInt32))])) _
    refine XS.iconst X0.here hx rfl (hb hby d1_3) ?_
    refine XS.iand X0.here hx rfl (hb hby d1_4) rfl ?_
    exact kt
  by_cases hc5_2 : (((p2.toUInt32 >>> (p3 &&& 31).toUInt32).toInt32) &&& (1 : Int32)) = (0 : Int32)
  · obtain ⟨fs, hr, hrun, hended, hW, hsame⟩ := X0.leave (v := some (.int (nar .byte (((p1.toUInt32 >>> (((8 : Int32) * p3) &&& 31).toUInt32).toInt32).toInt8.toInt32)))) (fun h => by rw [Bd.returns] at h; cases h)
    refine ⟨_, _, pre1 _ ?_, hrun, hended, _, _, rfl, ?_, ⟨_, rfl⟩, hW, hsame.mono (by decide) (by decide)⟩
    · show Steps p.tables e below (s₁.setTop (mkF m 5 #[.val (.int p1), .val (.int p2), .val (.int p3)] [(.int (((p2.toUInt32 >>> (p3 &&& 31).toUInt32).toInt32) &&& (1 : Int32)))])) _
      refine XS.ifYes X0.here hx rfl (pc0 := 5) (pc' := 10) rfl (hb hby d1_5) rfl ((if0 _ _).trans (teq hc5_2).1) (by decide) (by decide) ?_
      show Steps p.tables e below (s₁.setTop (mkF m 10 #[.val (.int p1), .val (.int p2), .val (.int p3)] [])) _
      refine XS.iloadN X0.here hx rfl (hb hby d1_10) rfl ?_
      refine XS.bipush X0.here hx rfl (hb hby d1_11) ?_
      refine XS.iloadN X0.here hx rfl (hb hby d1_13) rfl ?_
      show Steps p.tables e below (s₁.setTop (mkF m 14 #[.val (.int p1), .val (.int p2), .val (.int p3)] [(.int p3), (.int (8 : Int32)), (.int p1)])) _
      refine XS.imul X0.here hx rfl (hb hby d1_14) rfl ?_
      refine XS.iushr X0.here hx rfl (hb hby d1_15) rfl ?_
      refine XS.i2b X0.here hx rfl (hb hby d1_16) rfl ?_
      show Steps p.tables e below (s₁.setTop (mkF m 17 #[.val (.int p1), .val (.int p2), .val (.int p3)] [(.int (((p1.toUInt32 >>> (((8 : Int32) * p3) &&& 31).toUInt32).toInt32).toInt8.toInt32))])) _
      exact retN X0 hx (t := .byte) Bd.returns (by simp) (hb hby d1_17) hr
    · show Q1 Z p1 p2 p3 h0 n0 _ s₁.heap _
      rw [e0]
      exact ⟨by rw [res1, if_pos hc5_2], rfl, rfl⟩
  · obtain ⟨fs, hr, hrun, hended, hW, hsame⟩ := X0.leave (v := some (.int (-1 : Int32))) (fun h => by rw [Bd.returns] at h; cases h)
    refine ⟨_, _, pre1 _ ?_, hrun, hended, _, _, rfl, ?_, ⟨_, rfl⟩, hW, hsame.mono (by decide) (by decide)⟩
    · show Steps p.tables e below (s₁.setTop (mkF m 5 #[.val (.int p1), .val (.int p2), .val (.int p3)] [(.int (((p2.toUInt32 >>> (p3 &&& 31).toUInt32).toInt32) &&& (1 : Int32)))])) _
      refine XS.ifNo X0.here hx rfl (hb hby d1_5) rfl ((if0 _ _).trans (feq hc5_2).1) ?_
      show Steps p.tables e below (s₁.setTop (mkF m 8 #[.val (.int p1), .val (.int p2), .val (.int p3)] [])) _
      refine XS.iconst X0.here hx rfl (hb hby d1_8) ?_
      show Steps p.tables e below (s₁.setTop (mkF m 9 #[.val (.int p1), .val (.int p2), .val (.int p3)] [(.int (-1 : Int32))])) _
      exact retN X0 hx (t := .byte) Bd.returns (by simp) (hb hby d1_9) hr
    · show Q1 Z p1 p2 p3 h0 n0 _ s₁.heap _
      rw [e0]
      exact ⟨by rw [res1, if_neg hc5_2], rfl, rfl⟩
theorem d2_0 : decode method_4_code 0 = .ok (.iload_n 0, 1) := by decide +kernel
theorem d2_1 : decode method_4_code 1 = .ok (.iconst 4, 1) := by decide +kernel
theorem d2_2 : decode method_4_code 2 = .ok (.if_icmp .lt 11, 3) := by decide +kernel
theorem d2_5 : decode method_4_code 5 = .ok (.iload 4, 2) := by decide +kernel
theorem d2_7 : decode method_4_code 7 = .ok (.iconst (-1), 1) := by decide +kernel
theorem d2_8 : decode method_4_code 8 = .ok (.if_icmp .eq 5, 3) := by decide +kernel
theorem d2_11 : decode method_4_code 11 = .ok (.iconst 3, 1) := by decide +kernel
theorem d2_12 : decode method_4_code 12 = .ok (.ireturn, 1) := by decide +kernel
theorem d2_13 : decode method_4_code 13 = .ok (.iload_n 0, 1) := by decide +kernel
theorem d2_14 : decode method_4_code 14 = .ok (.iconst 3, 1) := by decide +kernel
theorem d2_15 : decode method_4_code 15 = .ok (.if_icmp .lt 10, 3) := by decide +kernel
theorem d2_18 : decode method_4_code 18 = .ok (.iload_n 3, 1) := by decide +kernel
theorem d2_19 : decode method_4_code 19 = .ok (.iconst (-1), 1) := by decide +kernel
theorem d2_20 : decode method_4_code 20 = .ok (.if_icmp .eq 5, 3) := by decide +kernel
theorem d2_23 : decode method_4_code 23 = .ok (.iconst 2, 1) := by decide +kernel
theorem d2_24 : decode method_4_code 24 = .ok (.ireturn, 1) := by decide +kernel
theorem d2_25 : decode method_4_code 25 = .ok (.iload_n 0, 1) := by decide +kernel
theorem d2_26 : decode method_4_code 26 = .ok (.iconst 2, 1) := by decide +kernel
theorem d2_27 : decode method_4_code 27 = .ok (.if_icmp .lt 10, 3) := by decide +kernel
theorem d2_30 : decode method_4_code 30 = .ok (.iload_n 2, 1) := by decide +kernel
theorem d2_31 : decode method_4_code 31 = .ok (.iconst (-1), 1) := by decide +kernel
theorem d2_32 : decode method_4_code 32 = .ok (.if_icmp .eq 5, 3) := by decide +kernel
theorem d2_35 : decode method_4_code 35 = .ok (.iconst 1, 1) := by decide +kernel
theorem d2_36 : decode method_4_code 36 = .ok (.ireturn, 1) := by decide +kernel
theorem d2_37 : decode method_4_code 37 = .ok (.iload_n 1, 1) := by decide +kernel
theorem d2_38 : decode method_4_code 38 = .ok (.iconst (-1), 1) := by decide +kernel
theorem d2_39 : decode method_4_code 39 = .ok (.if_icmp .eq 5, 3) := by decide +kernel
theorem d2_42 : decode method_4_code 42 = .ok (.iconst 0, 1) := by decide +kernel
theorem d2_43 : decode method_4_code 43 = .ok (.ireturn, 1) := by decide +kernel
theorem d2_44 : decode method_4_code 44 = .ok (.iconst (-1), 1) := by decide +kernel
theorem d2_45 : decode method_4_code 45 = .ok (.ireturn, 1) := by decide +kernel
def res2 (p1 : Int32) (p2 : Int32) (p3 : Int32) (p4 : Int32) (p5 : Int32) : Int32 := if p1 < (4 : Int32) then (if p1 < (3 : Int32) then (if p1 < (2 : Int32) then (if p2 = (-1 : Int32) then (-1 : Int32) else (0 : Int32)) else if p3 = (-1 : Int32) then (if p2 = (-1 : Int32) then (-1 : Int32) else (0 : Int32)) else (1 : Int32)) else if p4 = (-1 : Int32) then (if p1 < (2 : Int32) then (if p2 = (-1 : Int32) then (-1 : Int32) else (0 : Int32)) else if p3 = (-1 : Int32) then (if p2 = (-1 : Int32) then (-1 : Int32) else (0 : Int32)) else (1 : Int32)) else (2 : Int32)) else if p5 = (-1 : Int32) then (if p1 < (3 : Int32) then (if p1 < (2 : Int32) then (if p2 = (-1 : Int32) then (-1 : Int32) else (0 : Int32)) else if p3 = (-1 : Int32) then (if p2 = (-1 : Int32) then (-1 : Int32) else (0 : Int32)) else (1 : Int32)) else if p4 = (-1 : Int32) then (if p1 < (2 : Int32) then (if p2 = (-1 : Int32) then (-1 : Int32) else (0 : Int32)) else if p3 = (-1 : Int32) then (if p2 = (-1 : Int32) then (-1 : Int32) else (0 : Int32)) else (1 : Int32)) else (2 : Int32)) else (3 : Int32)
theorem ef2 (m : MethodId) (p1 : Int32) (p2 : Int32) (p3 : Int32) (p4 : Int32) (p5 : Int32) : entryFrame m #[(.int p1), (.int p2), (.int p3), (.int p4), (.int p5)] 5 = (mkF m 0 #[.val (.int p1), .val (.int p2), .val (.int p3), .val (.int p4), .val (.int p5)] []) := by first | (simp [entryFrame, mkF, argsToLocals, Value.category]; done) | rfl
def Q2 (Z : State) (p1 : Int32) (p2 : Int32) (p3 : Int32) (p4 : Int32) (p5 : Int32) (h0 : Heap) (n0 : Nat) (v : Option Value) (h : Heap) (L : List Loc) : Prop := v = some (.int (res2 p1 p2 p3 p4 p5)) ∧ L = [] ∧ h = h0
set_option maxRecDepth 65536 in
set_option maxHeartbeats 40000000 in
theorem rm2 (l : Launch) (Z : State) (a0 : Array Value) (hw : ∀ d ∈ tables_1, d.before a0 Z = true) (ws : List Jvm.Cond) (p1 : Int32) (p2 : Int32) (p3 : Int32) (p4 : Int32) (p5 : Int32) (h0 : Heap) (n0 : Nat) (Z0 : n0 ≤ h0.size) :
    MetFree l (⟨"com/example/elliott_bay/elliottbay/store/KeysEndPinLaw", "lastNonFF", "(IBBBB)I"⟩ : MethodName) (head1 (Jvm.Cond.code (⟨"com/example/elliott_bay/elliottbay/store/KeysEndPinLaw", "lastNonFF", "(IBBBB)I"⟩ : MethodName) method_4_code 5 (some .int) :: ws) ({ frames := 0, cells := 0, slots := 0, locals := 0 } : Room)) (fun a U => a = #[(.int p1), (.int p2), (.int p3), (.int p4), (.int p5)] ∧ Z.Warmed39 U.vm ∧ U.heap = h0) (fun _ _ _ _ _ => True) (fun _ U o U' => ∃ v L, o = .returned v ∧ Q2 Z p1 p2 p3 p4 p5 h0 n0 v U'.heap L ∧ FrameEnd U o U' L ({ frames := 0, cells := 0, slots := 0, locals := 0 } : Room).cells ({ frames := 0, cells := 0, slots := 0, locals := 0 } : Room).slots) := by
  refine MetFree.of_bodySF (plainFor_of_name pn0) hisR ?_
  intro p e s m args below meth c s₁ Bd hml0 hP hK
  obtain ⟨rfl, hZ, hh⟩ := hP
  have hx := Bd.exec
  have hby := Bd.bytes
  have hml : c.maxLocals = 5 := hml0
  have hown : s.vm.findClass "com/example/elliott_bay/elliottbay/store/KeysEndPinLaw" = some m.cls := findClass_of_methodNamed Bd.named
  have hnm := (name_of_methodNamed Bd.named Bd.method).1
  have X0 : Stand p l e ({ frames := 0, cells := 0, slots := 0, locals := 0 } : Room) s m #[(.int p1), (.int p2), (.int p3), (.int p4), (.int p5)] below meth c s₁ [] 0 0 := Stand.of_body Bd
  have e0 : s₁.heap = h0 := by rw [← hh, Bd.state]; rfl
  have N0 := Fr.nil n0
  have pre0 : ∀ t, Steps p.tables e below (s₁.setTop (mkF m 0 #[.val (.int p1), .val (.int p2), .val (.int p3), .val (.int p4), .val (.int p5)] [])) t → Steps p.tables e below (s₁.setTop (entryFrame m #[(.int p1), (.int p2), (.int p3), (.int p4), (.int p5)] 5)) t := fun t k => castTop (ef2 m p1 p2 p3 p4 p5) k
  have pre1 : ∀ t, Steps p.tables e below (s₁.setTop (mkF m 2 #[.val (.int p1), .val (.int p2), .val (.int p3), .val (.int p4), .val (.int p5)] [(.int (4 : Int32)), (.int p1)])) t → Steps p.tables e below (s₁.setTop (entryFrame m #[(.int p1), (.int p2), (.int p3), (.int p4), (.int p5)] 5)) t := by
    intro t kt
    refine pre0 _ ?_
    show Steps p.tables e below (s₁.setTop (mkF m 0 #[.val (.int p1), .val (.int p2), .val (.int p3), .val (.int p4), .val (.int p5)] [])) _
    refine XS.iloadN X0.here hx rfl (hb hby d2_0) rfl ?_
    refine XS.iconst X0.here hx rfl (hb hby d2_1) ?_
    exact kt
  by_cases hc2_2 : p1 < (4 : Int32)
  · have pre3 : ∀ t, Steps p.tables e below (s₁.setTop (mkF m 15 #[.val (.int p1), .val (.int p2), .val (.int p3), .val (.int p4), .val (.int p5)] [(.int (3 : Int32)), (.int p1)])) t → Steps p.tables e below (s₁.setTop (entryFrame m #[(.int p1), (.int p2), (.int p3), (.int p4), (.int p5)] 5)) t := by
      intro t kt
      refine pre1 _ ?_
      show Steps p.tables e below (s₁.setTop (mkF m 2 #[.val (.int p1), .val (.int p2), .val (.int p3), .val (.int p4), .val (.int p5)] [(.int (4 : Int32)), (.int p1)])) _
      refine XS.icmpYes X0.here hx rfl (pc0 := 2) (pc' := 13) rfl (hb hby d2_2) rfl (tlt hc2_2).1 (by decide) (by decide) ?_
      show Steps p.tables e below (s₁.setTop (mkF m 13 #[.val (.int p1), .val (.int p2), .val (.int p3), .val (.int p4), .val (.int p5)] [])) _
      refine XS.iloadN X0.here hx rfl (hb hby d2_13) rfl ?_
      refine XS.iconst X0.here hx rfl (hb hby d2_14) ?_
      exact kt
    by_cases hc15_4 : p1 < (3 : Int32)
    · have pre5 : ∀ t, Steps p.tables e below (s₁.setTop (mkF m 27 #[.val (.int p1), .val (.int p2), .val (.int p3), .val (.int p4), .val (.int p5)] [(.int (2 : Int32)), (.int p1)])) t → Steps p.tables e below (s₁.setTop (entryFrame m #[(.int p1), (.int p2), (.int p3), (.int p4), (.int p5)] 5)) t := by
        intro t kt
        refine pre3 _ ?_
        show Steps p.tables e below (s₁.setTop (mkF m 15 #[.val (.int p1), .val (.int p2), .val (.int p3), .val (.int p4), .val (.int p5)] [(.int (3 : Int32)), (.int p1)])) _
        refine XS.icmpYes X0.here hx rfl (pc0 := 15) (pc' := 25) rfl (hb hby d2_15) rfl (tlt hc15_4).1 (by decide) (by decide) ?_
        show Steps p.tables e below (s₁.setTop (mkF m 25 #[.val (.int p1), .val (.int p2), .val (.int p3), .val (.int p4), .val (.int p5)] [])) _
        refine XS.iloadN X0.here hx rfl (hb hby d2_25) rfl ?_
        refine XS.iconst X0.here hx rfl (hb hby d2_26) ?_
        exact kt
      by_cases hc27_6 : p1 < (2 : Int32)
      · have pre7 : ∀ t, Steps p.tables e below (s₁.setTop (mkF m 39 #[.val (.int p1), .val (.int p2), .val (.int p3), .val (.int p4), .val (.int p5)] [(.int (-1 : Int32)), (.int p2)])) t → Steps p.tables e below (s₁.setTop (entryFrame m #[(.int p1), (.int p2), (.int p3), (.int p4), (.int p5)] 5)) t := by
          intro t kt
          refine pre5 _ ?_
          show Steps p.tables e below (s₁.setTop (mkF m 27 #[.val (.int p1), .val (.int p2), .val (.int p3), .val (.int p4), .val (.int p5)] [(.int (2 : Int32)), (.int p1)])) _
          refine XS.icmpYes X0.here hx rfl (pc0 := 27) (pc' := 37) rfl (hb hby d2_27) rfl (tlt hc27_6).1 (by decide) (by decide) ?_
          show Steps p.tables e below (s₁.setTop (mkF m 37 #[.val (.int p1), .val (.int p2), .val (.int p3), .val (.int p4), .val (.int p5)] [])) _
          refine XS.iloadN X0.here hx rfl (hb hby d2_37) rfl ?_
          refine XS.iconst X0.here hx rfl (hb hby d2_38) ?_
          exact kt
        by_cases hc39_8 : p2 = (-1 : Int32)
        · obtain ⟨fs, hr, hrun, hended, hW, hsame⟩ := X0.leave (v := some (.int (-1 : Int32))) (fun h => by rw [Bd.returns] at h; cases h)
          refine ⟨_, _, pre7 _ ?_, hrun, hended, _, _, rfl, ?_, ⟨_, rfl⟩, hW, hsame.mono (by decide) (by decide)⟩
          · show Steps p.tables e below (s₁.setTop (mkF m 39 #[.val (.int p1), .val (.int p2), .val (.int p3), .val (.int p4), .val (.int p5)] [(.int (-1 : Int32)), (.int p2)])) _
            refine XS.icmpYes X0.here hx rfl (pc0 := 39) (pc' := 44) rfl (hb hby d2_39) rfl (teq hc39_8).1 (by decide) (by decide) ?_
            show Steps p.tables e below (s₁.setTop (mkF m 44 #[.val (.int p1), .val (.int p2), .val (.int p3), .val (.int p4), .val (.int p5)] [])) _
            refine XS.iconst X0.here hx rfl (hb hby d2_44) ?_
            show Steps p.tables e below (s₁.setTop (mkF m 45 #[.val (.int p1), .val (.int p2), .val (.int p3), .val (.int p4), .val (.int p5)] [(.int (-1 : Int32))])) _
            exact retI X0 hx Bd.returns (hb hby d2_45) hr
          · show Q2 Z p1 p2 p3 p4 p5 h0 n0 _ s₁.heap _
            rw [e0]
            exact ⟨by rw [res2, if_pos hc2_2, if_pos hc15_4, if_pos hc27_6, if_pos hc39_8], rfl, rfl⟩
        · obtain ⟨fs, hr, hrun, hended, hW, hsame⟩ := X0.leave (v := some (.int (0 : Int32))) (fun h => by rw [Bd.returns] at h; cases h)
          refine ⟨_, _, pre7 _ ?_, hrun, hended, _, _, rfl, ?_, ⟨_, rfl⟩, hW, hsame.mono (by decide) (by decide)⟩
          · show Steps p.tables e below (s₁.setTop (mkF m 39 #[.val (.int p1), .val (.int p2), .val (.int p3), .val (.int p4), .val (.int p5)] [(.int (-1 : Int32)), (.int p2)])) _
            refine XS.icmpNo X0.here hx rfl (hb hby d2_39) rfl (feq hc39_8).1 ?_
            show Steps p.tables e below (s₁.setTop (mkF m 42 #[.val (.int p1), .val (.int p2), .val (.int p3), .val (.int p4), .val (.int p5)] [])) _
            refine XS.iconst X0.here hx rfl (hb hby d2_42) ?_
            show Steps p.tables e below (s₁.setTop (mkF m 43 #[.val (.int p1), .val (.int p2), .val (.int p3), .val (.int p4), .val (.int p5)] [(.int (0 : Int32))])) _
            exact retI X0 hx Bd.returns (hb hby d2_43) hr
          · show Q2 Z p1 p2 p3 p4 p5 h0 n0 _ s₁.heap _
            rw [e0]
            exact ⟨by rw [res2, if_pos hc2_2, if_pos hc15_4, if_pos hc27_6, if_neg hc39_8], rfl, rfl⟩
      · have pre9 : ∀ t, Steps p.tables e below (s₁.setTop (mkF m 32 #[.val (.int p1), .val (.int p2), .val (.int p3), .val (.int p4), .val (.int p5)] [(.int (-1 : Int32)), (.int p3)])) t → Steps p.tables e below (s₁.setTop (entryFrame m #[(.int p1), (.int p2), (.int p3), (.int p4), (.int p5)] 5)) t := by
          intro t kt
          refine pre5 _ ?_
          show Steps p.tables e below (s₁.setTop (mkF m 27 #[.val (.int p1), .val (.int p2), .val (.int p3), .val (.int p4), .val (.int p5)] [(.int (2 : Int32)), (.int p1)])) _
          refine XS.icmpNo X0.here hx rfl (hb hby d2_27) rfl (flt hc27_6).1 ?_
          show Steps p.tables e below (s₁.setTop (mkF m 30 #[.val (.int p1), .val (.int p2), .val (.int p3), .val (.int p4), .val (.int p5)] [])) _
          refine XS.iloadN X0.here hx rfl (hb hby d2_30) rfl ?_
          refine XS.iconst X0.here hx rfl (hb hby d2_31) ?_
          exact kt
        by_cases hc32_10 : p3 = (-1 : Int32)
        · have pre11 : ∀ t, Steps p.tables e below (s₁.setTop (mkF m 39 #[.val (.int p1), .val (.int p2), .val (.int p3), .val (.int p4), .val (.int p5)] [(.int (-1 : Int32)), (.int p2)])) t → Steps p.tables e below (s₁.setTop (entryFrame m #[(.int p1), (.int p2), (.int p3), (.int p4), (.int p5)] 5)) t := by
            intro t kt
            refine pre9 _ ?_
            show Steps p.tables e below (s₁.setTop (mkF m 32 #[.val (.int p1), .val (.int p2), .val (.int p3), .val (.int p4), .val (.int p5)] [(.int (-1 : Int32)), (.int p3)])) _
            refine XS.icmpYes X0.here hx rfl (pc0 := 32) (pc' := 37) rfl (hb hby d2_32) rfl (teq hc32_10).1 (by decide) (by decide) ?_
            show Steps p.tables e below (s₁.setTop (mkF m 37 #[.val (.int p1), .val (.int p2), .val (.int p3), .val (.int p4), .val (.int p5)] [])) _
            refine XS.iloadN X0.here hx rfl (hb hby d2_37) rfl ?_
            refine XS.iconst X0.here hx rfl (hb hby d2_38) ?_
            exact kt
          by_cases hc39_12 : p2 = (-1 : Int32)
          · obtain ⟨fs, hr, hrun, hended, hW, hsame⟩ := X0.leave (v := some (.int (-1 : Int32))) (fun h => by rw [Bd.returns] at h; cases h)
            refine ⟨_, _, pre11 _ ?_, hrun, hended, _, _, rfl, ?_, ⟨_, rfl⟩, hW, hsame.mono (by decide) (by decide)⟩
            · show Steps p.tables e below (s₁.setTop (mkF m 39 #[.val (.int p1), .val (.int p2), .val (.int p3), .val (.int p4), .val (.int p5)] [(.int (-1 : Int32)), (.int p2)])) _
              refine XS.icmpYes X0.here hx rfl (pc0 := 39) (pc' := 44) rfl (hb hby d2_39) rfl (teq hc39_12).1 (by decide) (by decide) ?_
              show Steps p.tables e below (s₁.setTop (mkF m 44 #[.val (.int p1), .val (.int p2), .val (.int p3), .val (.int p4), .val (.int p5)] [])) _
              refine XS.iconst X0.here hx rfl (hb hby d2_44) ?_
              show Steps p.tables e below (s₁.setTop (mkF m 45 #[.val (.int p1), .val (.int p2), .val (.int p3), .val (.int p4), .val (.int p5)] [(.int (-1 : Int32))])) _
              exact retI X0 hx Bd.returns (hb hby d2_45) hr
            · show Q2 Z p1 p2 p3 p4 p5 h0 n0 _ s₁.heap _
              rw [e0]
              exact ⟨by rw [res2, if_pos hc2_2, if_pos hc15_4, if_neg hc27_6, if_pos hc32_10, if_pos hc39_12], rfl, rfl⟩
          · obtain ⟨fs, hr, hrun, hended, hW, hsame⟩ := X0.leave (v := some (.int (0 : Int32))) (fun h => by rw [Bd.returns] at h; cases h)
            refine ⟨_, _, pre11 _ ?_, hrun, hended, _, _, rfl, ?_, ⟨_, rfl⟩, hW, hsame.mono (by decide) (by decide)⟩
            · show Steps p.tables e below (s₁.setTop (mkF m 39 #[.val (.int p1), .val (.int p2), .val (.int p3), .val (.int p4), .val (.int p5)] [(.int (-1 : Int32)), (.int p2)])) _
              refine XS.icmpNo X0.here hx rfl (hb hby d2_39) rfl (feq hc39_12).1 ?_
              show Steps p.tables e below (s₁.setTop (mkF m 42 #[.val (.int p1), .val (.int p2), .val (.int p3), .val (.int p4), .val (.int p5)] [])) _
              refine XS.iconst X0.here hx rfl (hb hby d2_42) ?_
              show Steps p.tables e below (s₁.setTop (mkF m 43 #[.val (.int p1), .val (.int p2), .val (.int p3), .val (.int p4), .val (.int p5)] [(.int (0 : Int32))])) _
              exact retI X0 hx Bd.returns (hb hby d2_43) hr
            · show Q2 Z p1 p2 p3 p4 p5 h0 n0 _ s₁.heap _
              rw [e0]
              exact ⟨by rw [res2, if_pos hc2_2, if_pos hc15_4, if_neg hc27_6, if_pos hc32_10, if_neg hc39_12], rfl, rfl⟩
        · obtain ⟨fs, hr, hrun, hended, hW, hsame⟩ := X0.leave (v := some (.int (1 : Int32))) (fun h => by rw [Bd.returns] at h; cases h)
          refine ⟨_, _, pre9 _ ?_, hrun, hended, _, _, rfl, ?_, ⟨_, rfl⟩, hW, hsame.mono (by decide) (by decide)⟩
          · show Steps p.tables e below (s₁.setTop (mkF m 32 #[.val (.int p1), .val (.int p2), .val (.int p3), .val (.int p4), .val (.int p5)] [(.int (-1 : Int32)), (.int p3)])) _
            refine XS.icmpNo X0.here hx rfl (hb hby d2_32) rfl (feq hc32_10).1 ?_
            show Steps p.tables e below (s₁.setTop (mkF m 35 #[.val (.int p1), .val (.int p2), .val (.int p3), .val (.int p4), .val (.int p5)] [])) _
            refine XS.iconst X0.here hx rfl (hb hby d2_35) ?_
            show Steps p.tables e below (s₁.setTop (mkF m 36 #[.val (.int p1), .val (.int p2), .val (.int p3), .val (.int p4), .val (.int p5)] [(.int (1 : Int32))])) _
            exact retI X0 hx Bd.returns (hb hby d2_36) hr
          · show Q2 Z p1 p2 p3 p4 p5 h0 n0 _ s₁.heap _
            rw [e0]
            exact ⟨by rw [res2, if_pos hc2_2, if_pos hc15_4, if_neg hc27_6, if_neg hc32_10], rfl, rfl⟩
    · have pre13 : ∀ t, Steps p.tables e below (s₁.setTop (mkF m 20 #[.val (.int p1), .val (.int p2), .val (.int p3), .val (.int p4), .val (.int p5)] [(.int (-1 : Int32)), (.int p4)])) t → Steps p.tables e below (s₁.setTop (entryFrame m #[(.int p1), (.int p2), (.int p3), (.int p4), (.int p5)] 5)) t := by
        intro t kt
        refine pre3 _ ?_
        show Steps p.tables e below (s₁.setTop (mkF m 15 #[.val (.int p1), .val (.int p2), .val (.int p3), .val (.int p4), .val (.int p5)] [(.int (3 : Int32)), (.int p1)])) _
        refine XS.icmpNo X0.here hx rfl (hb hby d2_15) rfl (flt hc15_4).1 ?_
        show Steps p.tables e below (s₁.setTop (mkF m 18 #[.val (.int p1), .val (.int p2), .val (.int p3), .val (.int p4), .val (.int p5)] [])) _
        refine XS.iloadN X0.here hx rfl (hb hby d2_18) rfl ?_
        refine XS.iconst X0.here hx rfl (hb hby d2_19) ?_
        exact kt
      by_cases hc20_14 : p4 = (-1 : Int32)
      · have pre15 : ∀ t, Steps p.tables e below (s₁.setTop (mkF m 27 #[.val (.int p1), .val (.int p2), .val (.int p3), .val (.int p4), .val (.int p5)] [(.int (2 : Int32)), (.int p1)])) t → Steps p.tables e below (s₁.setTop (entryFrame m #[(.int p1), (.int p2), (.int p3), (.int p4), (.int p5)] 5)) t := by
          intro t kt
          refine pre13 _ ?_
          show Steps p.tables e below (s₁.setTop (mkF m 20 #[.val (.int p1), .val (.int p2), .val (.int p3), .val (.int p4), .val (.int p5)] [(.int (-1 : Int32)), (.int p4)])) _
          refine XS.icmpYes X0.here hx rfl (pc0 := 20) (pc' := 25) rfl (hb hby d2_20) rfl (teq hc20_14).1 (by decide) (by decide) ?_
          show Steps p.tables e below (s₁.setTop (mkF m 25 #[.val (.int p1), .val (.int p2), .val (.int p3), .val (.int p4), .val (.int p5)] [])) _
          refine XS.iloadN X0.here hx rfl (hb hby d2_25) rfl ?_
          refine XS.iconst X0.here hx rfl (hb hby d2_26) ?_
          exact kt
        by_cases hc27_16 : p1 < (2 : Int32)
        · have pre17 : ∀ t, Steps p.tables e below (s₁.setTop (mkF m 39 #[.val (.int p1), .val (.int p2), .val (.int p3), .val (.int p4), .val (.int p5)] [(.int (-1 : Int32)), (.int p2)])) t → Steps p.tables e below (s₁.setTop (entryFrame m #[(.int p1), (.int p2), (.int p3), (.int p4), (.int p5)] 5)) t := by
            intro t kt
            refine pre15 _ ?_
            show Steps p.tables e below (s₁.setTop (mkF m 27 #[.val (.int p1), .val (.int p2), .val (.int p3), .val (.int p4), .val (.int p5)] [(.int (2 : Int32)), (.int p1)])) _
            refine XS.icmpYes X0.here hx rfl (pc0 := 27) (pc' := 37) rfl (hb hby d2_27) rfl (tlt hc27_16).1 (by decide) (by decide) ?_
            show Steps p.tables e below (s₁.setTop (mkF m 37 #[.val (.int p1), .val (.int p2), .val (.int p3), .val (.int p4), .val (.int p5)] [])) _
            refine XS.iloadN X0.here hx rfl (hb hby d2_37) rfl ?_
            refine XS.iconst X0.here hx rfl (hb hby d2_38) ?_
            exact kt
          by_cases hc39_18 : p2 = (-1 : Int32)
          · obtain ⟨fs, hr, hrun, hended, hW, hsame⟩ := X0.leave (v := some (.int (-1 : Int32))) (fun h => by rw [Bd.returns] at h; cases h)
            refine ⟨_, _, pre17 _ ?_, hrun, hended, _, _, rfl, ?_, ⟨_, rfl⟩, hW, hsame.mono (by decide) (by decide)⟩
            · show Steps p.tables e below (s₁.setTop (mkF m 39 #[.val (.int p1), .val (.int p2), .val (.int p3), .val (.int p4), .val (.int p5)] [(.int (-1 : Int32)), (.int p2)])) _
              refine XS.icmpYes X0.here hx rfl (pc0 := 39) (pc' := 44) rfl (hb hby d2_39) rfl (teq hc39_18).1 (by decide) (by decide) ?_
              show Steps p.tables e below (s₁.setTop (mkF m 44 #[.val (.int p1), .val (.int p2), .val (.int p3), .val (.int p4), .val (.int p5)] [])) _
              refine XS.iconst X0.here hx rfl (hb hby d2_44) ?_
              show Steps p.tables e below (s₁.setTop (mkF m 45 #[.val (.int p1), .val (.int p2), .val (.int p3), .val (.int p4), .val (.int p5)] [(.int (-1 : Int32))])) _
              exact retI X0 hx Bd.returns (hb hby d2_45) hr
            · show Q2 Z p1 p2 p3 p4 p5 h0 n0 _ s₁.heap _
              rw [e0]
              exact ⟨by rw [res2, if_pos hc2_2, if_neg hc15_4, if_pos hc20_14, if_pos hc27_16, if_pos hc39_18], rfl, rfl⟩
          · obtain ⟨fs, hr, hrun, hended, hW, hsame⟩ := X0.leave (v := some (.int (0 : Int32))) (fun h => by rw [Bd.returns] at h; cases h)
            refine ⟨_, _, pre17 _ ?_, hrun, hended, _, _, rfl, ?_, ⟨_, rfl⟩, hW, hsame.mono (by decide) (by decide)⟩
            · show Steps p.tables e below (s₁.setTop (mkF m 39 #[.val (.int p1), .val (.int p2), .val (.int p3), .val (.int p4), .val (.int p5)] [(.int (-1 : Int32)), (.int p2)])) _
              refine XS.icmpNo X0.here hx rfl (hb hby d2_39) rfl (feq hc39_18).1 ?_
              show Steps p.tables e below (s₁.setTop (mkF m 42 #[.val (.int p1), .val (.int p2), .val (.int p3), .val (.int p4), .val (.int p5)] [])) _
              refine XS.iconst X0.here hx rfl (hb hby d2_42) ?_
              show Steps p.tables e below (s₁.setTop (mkF m 43 #[.val (.int p1), .val (.int p2), .val (.int p3), .val (.int p4), .val (.int p5)] [(.int (0 : Int32))])) _
              exact retI X0 hx Bd.returns (hb hby d2_43) hr
            · show Q2 Z p1 p2 p3 p4 p5 h0 n0 _ s₁.heap _
              rw [e0]
              exact ⟨by rw [res2, if_pos hc2_2, if_neg hc15_4, if_pos hc20_14, if_pos hc27_16, if_neg hc39_18], rfl, rfl⟩
        · have pre19 : ∀ t, Steps p.tables e below (s₁.setTop (mkF m 32 #[.val (.int p1), .val (.int p2), .val (.int p3), .val (.int p4), .val (.int p5)] [(.int (-1 : Int32)), (.int p3)])) t → Steps p.tables e below (s₁.setTop (entryFrame m #[(.int p1), (.int p2), (.int p3), (.int p4), (.int p5)] 5)) t := by
            intro t kt
            refine pre15 _ ?_
            show Steps p.tables e below (s₁.setTop (mkF m 27 #[.val (.int p1), .val (.int p2), .val (.int p3), .val (.int p4), .val (.int p5)] [(.int (2 : Int32)), (.int p1)])) _
            refine XS.icmpNo X0.here hx rfl (hb hby d2_27) rfl (flt hc27_16).1 ?_
            show Steps p.tables e below (s₁.setTop (mkF m 30 #[.val (.int p1), .val (.int p2), .val (.int p3), .val (.int p4), .val (.int p5)] [])) _
            refine XS.iloadN X0.here hx rfl (hb hby d2_30) rfl ?_
            refine XS.iconst X0.here hx rfl (hb hby d2_31) ?_
            exact kt
          by_cases hc32_20 : p3 = (-1 : Int32)
          · have pre21 : ∀ t, Steps p.tables e below (s₁.setTop (mkF m 39 #[.val (.int p1), .val (.int p2), .val (.int p3), .val (.int p4), .val (.int p5)] [(.int (-1 : Int32)), (.int p2)])) t → Steps p.tables e below (s₁.setTop (entryFrame m #[(.int p1), (.int p2), (.int p3), (.int p4), (.int p5)] 5)) t := by
              intro t kt
              refine pre19 _ ?_
              show Steps p.tables e below (s₁.setTop (mkF m 32 #[.val (.int p1), .val (.int p2), .val (.int p3), .val (.int p4), .val (.int p5)] [(.int (-1 : Int32)), (.int p3)])) _
              refine XS.icmpYes X0.here hx rfl (pc0 := 32) (pc' := 37) rfl (hb hby d2_32) rfl (teq hc32_20).1 (by decide) (by decide) ?_
              show Steps p.tables e below (s₁.setTop (mkF m 37 #[.val (.int p1), .val (.int p2), .val (.int p3), .val (.int p4), .val (.int p5)] [])) _
              refine XS.iloadN X0.here hx rfl (hb hby d2_37) rfl ?_
              refine XS.iconst X0.here hx rfl (hb hby d2_38) ?_
              exact kt
            by_cases hc39_22 : p2 = (-1 : Int32)
            · obtain ⟨fs, hr, hrun, hended, hW, hsame⟩ := X0.leave (v := some (.int (-1 : Int32))) (fun h => by rw [Bd.returns] at h; cases h)
              refine ⟨_, _, pre21 _ ?_, hrun, hended, _, _, rfl, ?_, ⟨_, rfl⟩, hW, hsame.mono (by decide) (by decide)⟩
              · show Steps p.tables e below (s₁.setTop (mkF m 39 #[.val (.int p1), .val (.int p2), .val (.int p3), .val (.int p4), .val (.int p5)] [(.int (-1 : Int32)), (.int p2)])) _
                refine XS.icmpYes X0.here hx rfl (pc0 := 39) (pc' := 44) rfl (hb hby d2_39) rfl (teq hc39_22).1 (by decide) (by decide) ?_
                show Steps p.tables e below (s₁.setTop (mkF m 44 #[.val (.int p1), .val (.int p2), .val (.int p3), .val (.int p4), .val (.int p5)] [])) _
                refine XS.iconst X0.here hx rfl (hb hby d2_44) ?_
                show Steps p.tables e below (s₁.setTop (mkF m 45 #[.val (.int p1), .val (.int p2), .val (.int p3), .val (.int p4), .val (.int p5)] [(.int (-1 : Int32))])) _
                exact retI X0 hx Bd.returns (hb hby d2_45) hr
              · show Q2 Z p1 p2 p3 p4 p5 h0 n0 _ s₁.heap _
                rw [e0]
                exact ⟨by rw [res2, if_pos hc2_2, if_neg hc15_4, if_pos hc20_14, if_neg hc27_16, if_pos hc32_20, if_pos hc39_22], rfl, rfl⟩
            · obtain ⟨fs, hr, hrun, hended, hW, hsame⟩ := X0.leave (v := some (.int (0 : Int32))) (fun h => by rw [Bd.returns] at h; cases h)
              refine ⟨_, _, pre21 _ ?_, hrun, hended, _, _, rfl, ?_, ⟨_, rfl⟩, hW, hsame.mono (by decide) (by decide)⟩
              · show Steps p.tables e below (s₁.setTop (mkF m 39 #[.val (.int p1), .val (.int p2), .val (.int p3), .val (.int p4), .val (.int p5)] [(.int (-1 : Int32)), (.int p2)])) _
                refine XS.icmpNo X0.here hx rfl (hb hby d2_39) rfl (feq hc39_22).1 ?_
                show Steps p.tables e below (s₁.setTop (mkF m 42 #[.val (.int p1), .val (.int p2), .val (.int p3), .val (.int p4), .val (.int p5)] [])) _
                refine XS.iconst X0.here hx rfl (hb hby d2_42) ?_
                show Steps p.tables e below (s₁.setTop (mkF m 43 #[.val (.int p1), .val (.int p2), .val (.int p3), .val (.int p4), .val (.int p5)] [(.int (0 : Int32))])) _
                exact retI X0 hx Bd.returns (hb hby d2_43) hr
              · show Q2 Z p1 p2 p3 p4 p5 h0 n0 _ s₁.heap _
                rw [e0]
                exact ⟨by rw [res2, if_pos hc2_2, if_neg hc15_4, if_pos hc20_14, if_neg hc27_16, if_pos hc32_20, if_neg hc39_22], rfl, rfl⟩
          · obtain ⟨fs, hr, hrun, hended, hW, hsame⟩ := X0.leave (v := some (.int (1 : Int32))) (fun h => by rw [Bd.returns] at h; cases h)
            refine ⟨_, _, pre19 _ ?_, hrun, hended, _, _, rfl, ?_, ⟨_, rfl⟩, hW, hsame.mono (by decide) (by decide)⟩
            · show Steps p.tables e below (s₁.setTop (mkF m 32 #[.val (.int p1), .val (.int p2), .val (.int p3), .val (.int p4), .val (.int p5)] [(.int (-1 : Int32)), (.int p3)])) _
              refine XS.icmpNo X0.here hx rfl (hb hby d2_32) rfl (feq hc32_20).1 ?_
              show Steps p.tables e below (s₁.setTop (mkF m 35 #[.val (.int p1), .val (.int p2), .val (.int p3), .val (.int p4), .val (.int p5)] [])) _
              refine XS.iconst X0.here hx rfl (hb hby d2_35) ?_
              show Steps p.tables e below (s₁.setTop (mkF m 36 #[.val (.int p1), .val (.int p2), .val (.int p3), .val (.int p4), .val (.int p5)] [(.int (1 : Int32))])) _
              exact retI X0 hx Bd.returns (hb hby d2_36) hr
            · show Q2 Z p1 p2 p3 p4 p5 h0 n0 _ s₁.heap _
              rw [e0]
              exact ⟨by rw [res2, if_pos hc2_2, if_neg hc15_4, if_pos hc20_14, if_neg hc27_16, if_neg hc32_20], rfl, rfl⟩
      · obtain ⟨fs, hr, hrun, hended, hW, hsame⟩ := X0.leave (v := some (.int (2 : Int32))) (fun h => by rw [Bd.returns] at h; cases h)
        refine ⟨_, _, pre13 _ ?_, hrun, hended, _, _, rfl, ?_, ⟨_, rfl⟩, hW, hsame.mono (by decide) (by decide)⟩
        · show Steps p.tables e below (s₁.setTop (mkF m 20 #[.val (.int p1), .val (.int p2), .val (.int p3), .val (.int p4), .val (.int p5)] [(.int (-1 : Int32)), (.int p4)])) _
          refine XS.icmpNo X0.here hx rfl (hb hby d2_20) rfl (feq hc20_14).1 ?_
          show Steps p.tables e below (s₁.setTop (mkF m 23 #[.val (.int p1), .val (.int p2), .val (.int p3), .val (.int p4), .val (.int p5)] [])) _
          refine XS.iconst X0.here hx rfl (hb hby d2_23) ?_
          show Steps p.tables e below (s₁.setTop (mkF m 24 #[.val (.int p1), .val (.int p2), .val (.int p3), .val (.int p4), .val (.int p5)] [(.int (2 : Int32))])) _
          exact retI X0 hx Bd.returns (hb hby d2_24) hr
        · show Q2 Z p1 p2 p3 p4 p5 h0 n0 _ s₁.heap _
          rw [e0]
          exact ⟨by rw [res2, if_pos hc2_2, if_neg hc15_4, if_neg hc20_14], rfl, rfl⟩
  · have pre23 : ∀ t, Steps p.tables e below (s₁.setTop (mkF m 8 #[.val (.int p1), .val (.int p2), .val (.int p3), .val (.int p4), .val (.int p5)] [(.int (-1 : Int32)), (.int p5)])) t → Steps p.tables e below (s₁.setTop (entryFrame m #[(.int p1), (.int p2), (.int p3), (.int p4), (.int p5)] 5)) t := by
      intro t kt
      refine pre1 _ ?_
      show Steps p.tables e below (s₁.setTop (mkF m 2 #[.val (.int p1), .val (.int p2), .val (.int p3), .val (.int p4), .val (.int p5)] [(.int (4 : Int32)), (.int p1)])) _
      refine XS.icmpNo X0.here hx rfl (hb hby d2_2) rfl (flt hc2_2).1 ?_
      show Steps p.tables e below (s₁.setTop (mkF m 5 #[.val (.int p1), .val (.int p2), .val (.int p3), .val (.int p4), .val (.int p5)] [])) _
      refine XS.iload X0.here hx rfl (hb hby d2_5) rfl ?_
      refine XS.iconst X0.here hx rfl (hb hby d2_7) ?_
      exact kt
    by_cases hc8_24 : p5 = (-1 : Int32)
    · have pre25 : ∀ t, Steps p.tables e below (s₁.setTop (mkF m 15 #[.val (.int p1), .val (.int p2), .val (.int p3), .val (.int p4), .val (.int p5)] [(.int (3 : Int32)), (.int p1)])) t → Steps p.tables e below (s₁.setTop (entryFrame m #[(.int p1), (.int p2), (.int p3), (.int p4), (.int p5)] 5)) t := by
        intro t kt
        refine pre23 _ ?_
        show Steps p.tables e below (s₁.setTop (mkF m 8 #[.val (.int p1), .val (.int p2), .val (.int p3), .val (.int p4), .val (.int p5)] [(.int (-1 : Int32)), (.int p5)])) _
        refine XS.icmpYes X0.here hx rfl (pc0 := 8) (pc' := 13) rfl (hb hby d2_8) rfl (teq hc8_24).1 (by decide) (by decide) ?_
        show Steps p.tables e below (s₁.setTop (mkF m 13 #[.val (.int p1), .val (.int p2), .val (.int p3), .val (.int p4), .val (.int p5)] [])) _
        refine XS.iloadN X0.here hx rfl (hb hby d2_13) rfl ?_
        refine XS.iconst X0.here hx rfl (hb hby d2_14) ?_
        exact kt
      by_cases hc15_26 : p1 < (3 : Int32)
      · have pre27 : ∀ t, Steps p.tables e below (s₁.setTop (mkF m 27 #[.val (.int p1), .val (.int p2), .val (.int p3), .val (.int p4), .val (.int p5)] [(.int (2 : Int32)), (.int p1)])) t → Steps p.tables e below (s₁.setTop (entryFrame m #[(.int p1), (.int p2), (.int p3), (.int p4), (.int p5)] 5)) t := by
          intro t kt
          refine pre25 _ ?_
          show Steps p.tables e below (s₁.setTop (mkF m 15 #[.val (.int p1), .val (.int p2), .val (.int p3), .val (.int p4), .val (.int p5)] [(.int (3 : Int32)), (.int p1)])) _
          refine XS.icmpYes X0.here hx rfl (pc0 := 15) (pc' := 25) rfl (hb hby d2_15) rfl (tlt hc15_26).1 (by decide) (by decide) ?_
          show Steps p.tables e below (s₁.setTop (mkF m 25 #[.val (.int p1), .val (.int p2), .val (.int p3), .val (.int p4), .val (.int p5)] [])) _
          refine XS.iloadN X0.here hx rfl (hb hby d2_25) rfl ?_
          refine XS.iconst X0.here hx rfl (hb hby d2_26) ?_
          exact kt
        by_cases hc27_28 : p1 < (2 : Int32)
        · have pre29 : ∀ t, Steps p.tables e below (s₁.setTop (mkF m 39 #[.val (.int p1), .val (.int p2), .val (.int p3), .val (.int p4), .val (.int p5)] [(.int (-1 : Int32)), (.int p2)])) t → Steps p.tables e below (s₁.setTop (entryFrame m #[(.int p1), (.int p2), (.int p3), (.int p4), (.int p5)] 5)) t := by
            intro t kt
            refine pre27 _ ?_
            show Steps p.tables e below (s₁.setTop (mkF m 27 #[.val (.int p1), .val (.int p2), .val (.int p3), .val (.int p4), .val (.int p5)] [(.int (2 : Int32)), (.int p1)])) _
            refine XS.icmpYes X0.here hx rfl (pc0 := 27) (pc' := 37) rfl (hb hby d2_27) rfl (tlt hc27_28).1 (by decide) (by decide) ?_
            show Steps p.tables e below (s₁.setTop (mkF m 37 #[.val (.int p1), .val (.int p2), .val (.int p3), .val (.int p4), .val (.int p5)] [])) _
            refine XS.iloadN X0.here hx rfl (hb hby d2_37) rfl ?_
            refine XS.iconst X0.here hx rfl (hb hby d2_38) ?_
            exact kt
          by_cases hc39_30 : p2 = (-1 : Int32)
          · obtain ⟨fs, hr, hrun, hended, hW, hsame⟩ := X0.leave (v := some (.int (-1 : Int32))) (fun h => by rw [Bd.returns] at h; cases h)
            refine ⟨_, _, pre29 _ ?_, hrun, hended, _, _, rfl, ?_, ⟨_, rfl⟩, hW, hsame.mono (by decide) (by decide)⟩
            · show Steps p.tables e below (s₁.setTop (mkF m 39 #[.val (.int p1), .val (.int p2), .val (.int p3), .val (.int p4), .val (.int p5)] [(.int (-1 : Int32)), (.int p2)])) _
              refine XS.icmpYes X0.here hx rfl (pc0 := 39) (pc' := 44) rfl (hb hby d2_39) rfl (teq hc39_30).1 (by decide) (by decide) ?_
              show Steps p.tables e below (s₁.setTop (mkF m 44 #[.val (.int p1), .val (.int p2), .val (.int p3), .val (.int p4), .val (.int p5)] [])) _
              refine XS.iconst X0.here hx rfl (hb hby d2_44) ?_
              show Steps p.tables e below (s₁.setTop (mkF m 45 #[.val (.int p1), .val (.int p2), .val (.int p3), .val (.int p4), .val (.int p5)] [(.int (-1 : Int32))])) _
              exact retI X0 hx Bd.returns (hb hby d2_45) hr
            · show Q2 Z p1 p2 p3 p4 p5 h0 n0 _ s₁.heap _
              rw [e0]
              exact ⟨by rw [res2, if_neg hc2_2, if_pos hc8_24, if_pos hc15_26, if_pos hc27_28, if_pos hc39_30], rfl, rfl⟩
          · obtain ⟨fs, hr, hrun, hended, hW, hsame⟩ := X0.leave (v := some (.int (0 : Int32))) (fun h => by rw [Bd.returns] at h; cases h)
            refine ⟨_, _, pre29 _ ?_, hrun, hended, _, _, rfl, ?_, ⟨_, rfl⟩, hW, hsame.mono (by decide) (by decide)⟩
            · show Steps p.tables e below (s₁.setTop (mkF m 39 #[.val (.int p1), .val (.int p2), .val (.int p3), .val (.int p4), .val (.int p5)] [(.int (-1 : Int32)), (.int p2)])) _
              refine XS.icmpNo X0.here hx rfl (hb hby d2_39) rfl (feq hc39_30).1 ?_
              show Steps p.tables e below (s₁.setTop (mkF m 42 #[.val (.int p1), .val (.int p2), .val (.int p3), .val (.int p4), .val (.int p5)] [])) _
              refine XS.iconst X0.here hx rfl (hb hby d2_42) ?_
              show Steps p.tables e below (s₁.setTop (mkF m 43 #[.val (.int p1), .val (.int p2), .val (.int p3), .val (.int p4), .val (.int p5)] [(.int (0 : Int32))])) _
              exact retI X0 hx Bd.returns (hb hby d2_43) hr
            · show Q2 Z p1 p2 p3 p4 p5 h0 n0 _ s₁.heap _
              rw [e0]
              exact ⟨by rw [res2, if_neg hc2_2, if_pos hc8_24, if_pos hc15_26, if_pos hc27_28, if_neg hc39_30], rfl, rfl⟩
        · have pre31 : ∀ t, Steps p.tables e below (s₁.setTop (mkF m 32 #[.val (.int p1), .val (.int p2), .val (.int p3), .val (.int p4), .val (.int p5)] [(.int (-1 : Int32)), (.int p3)])) t → Steps p.tables e below (s₁.setTop (entryFrame m #[(.int p1), (.int p2), (.int p3), (.int p4), (.int p5)] 5)) t := by
            intro t kt
            refine pre27 _ ?_
            show Steps p.tables e below (s₁.setTop (mkF m 27 #[.val (.int p1), .val (.int p2), .val (.int p3), .val (.int p4), .val (.int p5)] [(.int (2 : Int32)), (.int p1)])) _
            refine XS.icmpNo X0.here hx rfl (hb hby d2_27) rfl (flt hc27_28).1 ?_
            show Steps p.tables e below (s₁.setTop (mkF m 30 #[.val (.int p1), .val (.int p2), .val (.int p3), .val (.int p4), .val (.int p5)] [])) _
            refine XS.iloadN X0.here hx rfl (hb hby d2_30) rfl ?_
            refine XS.iconst X0.here hx rfl (hb hby d2_31) ?_
            exact kt
          by_cases hc32_32 : p3 = (-1 : Int32)
          · have pre33 : ∀ t, Steps p.tables e below (s₁.setTop (mkF m 39 #[.val (.int p1), .val (.int p2), .val (.int p3), .val (.int p4), .val (.int p5)] [(.int (-1 : Int32)), (.int p2)])) t → Steps p.tables e below (s₁.setTop (entryFrame m #[(.int p1), (.int p2), (.int p3), (.int p4), (.int p5)] 5)) t := by
              intro t kt
              refine pre31 _ ?_
              show Steps p.tables e below (s₁.setTop (mkF m 32 #[.val (.int p1), .val (.int p2), .val (.int p3), .val (.int p4), .val (.int p5)] [(.int (-1 : Int32)), (.int p3)])) _
              refine XS.icmpYes X0.here hx rfl (pc0 := 32) (pc' := 37) rfl (hb hby d2_32) rfl (teq hc32_32).1 (by decide) (by decide) ?_
              show Steps p.tables e below (s₁.setTop (mkF m 37 #[.val (.int p1), .val (.int p2), .val (.int p3), .val (.int p4), .val (.int p5)] [])) _
              refine XS.iloadN X0.here hx rfl (hb hby d2_37) rfl ?_
              refine XS.iconst X0.here hx rfl (hb hby d2_38) ?_
              exact kt
            by_cases hc39_34 : p2 = (-1 : Int32)
            · obtain ⟨fs, hr, hrun, hended, hW, hsame⟩ := X0.leave (v := some (.int (-1 : Int32))) (fun h => by rw [Bd.returns] at h; cases h)
              refine ⟨_, _, pre33 _ ?_, hrun, hended, _, _, rfl, ?_, ⟨_, rfl⟩, hW, hsame.mono (by decide) (by decide)⟩
              · show Steps p.tables e below (s₁.setTop (mkF m 39 #[.val (.int p1), .val (.int p2), .val (.int p3), .val (.int p4), .val (.int p5)] [(.int (-1 : Int32)), (.int p2)])) _
                refine XS.icmpYes X0.here hx rfl (pc0 := 39) (pc' := 44) rfl (hb hby d2_39) rfl (teq hc39_34).1 (by decide) (by decide) ?_
                show Steps p.tables e below (s₁.setTop (mkF m 44 #[.val (.int p1), .val (.int p2), .val (.int p3), .val (.int p4), .val (.int p5)] [])) _
                refine XS.iconst X0.here hx rfl (hb hby d2_44) ?_
                show Steps p.tables e below (s₁.setTop (mkF m 45 #[.val (.int p1), .val (.int p2), .val (.int p3), .val (.int p4), .val (.int p5)] [(.int (-1 : Int32))])) _
                exact retI X0 hx Bd.returns (hb hby d2_45) hr
              · show Q2 Z p1 p2 p3 p4 p5 h0 n0 _ s₁.heap _
                rw [e0]
                exact ⟨by rw [res2, if_neg hc2_2, if_pos hc8_24, if_pos hc15_26, if_neg hc27_28, if_pos hc32_32, if_pos hc39_34], rfl, rfl⟩
            · obtain ⟨fs, hr, hrun, hended, hW, hsame⟩ := X0.leave (v := some (.int (0 : Int32))) (fun h => by rw [Bd.returns] at h; cases h)
              refine ⟨_, _, pre33 _ ?_, hrun, hended, _, _, rfl, ?_, ⟨_, rfl⟩, hW, hsame.mono (by decide) (by decide)⟩
              · show Steps p.tables e below (s₁.setTop (mkF m 39 #[.val (.int p1), .val (.int p2), .val (.int p3), .val (.int p4), .val (.int p5)] [(.int (-1 : Int32)), (.int p2)])) _
                refine XS.icmpNo X0.here hx rfl (hb hby d2_39) rfl (feq hc39_34).1 ?_
                show Steps p.tables e below (s₁.setTop (mkF m 42 #[.val (.int p1), .val (.int p2), .val (.int p3), .val (.int p4), .val (.int p5)] [])) _
                refine XS.iconst X0.here hx rfl (hb hby d2_42) ?_
                show Steps p.tables e below (s₁.setTop (mkF m 43 #[.val (.int p1), .val (.int p2), .val (.int p3), .val (.int p4), .val (.int p5)] [(.int (0 : Int32))])) _
                exact retI X0 hx Bd.returns (hb hby d2_43) hr
              · show Q2 Z p1 p2 p3 p4 p5 h0 n0 _ s₁.heap _
                rw [e0]
                exact ⟨by rw [res2, if_neg hc2_2, if_pos hc8_24, if_pos hc15_26, if_neg hc27_28, if_pos hc32_32, if_neg hc39_34], rfl, rfl⟩
          · obtain ⟨fs, hr, hrun, hended, hW, hsame⟩ := X0.leave (v := some (.int (1 : Int32))) (fun h => by rw [Bd.returns] at h; cases h)
            refine ⟨_, _, pre31 _ ?_, hrun, hended, _, _, rfl, ?_, ⟨_, rfl⟩, hW, hsame.mono (by decide) (by decide)⟩
            · show Steps p.tables e below (s₁.setTop (mkF m 32 #[.val (.int p1), .val (.int p2), .val (.int p3), .val (.int p4), .val (.int p5)] [(.int (-1 : Int32)), (.int p3)])) _
              refine XS.icmpNo X0.here hx rfl (hb hby d2_32) rfl (feq hc32_32).1 ?_
              show Steps p.tables e below (s₁.setTop (mkF m 35 #[.val (.int p1), .val (.int p2), .val (.int p3), .val (.int p4), .val (.int p5)] [])) _
              refine XS.iconst X0.here hx rfl (hb hby d2_35) ?_
              show Steps p.tables e below (s₁.setTop (mkF m 36 #[.val (.int p1), .val (.int p2), .val (.int p3), .val (.int p4), .val (.int p5)] [(.int (1 : Int32))])) _
              exact retI X0 hx Bd.returns (hb hby d2_36) hr
            · show Q2 Z p1 p2 p3 p4 p5 h0 n0 _ s₁.heap _
              rw [e0]
              exact ⟨by rw [res2, if_neg hc2_2, if_pos hc8_24, if_pos hc15_26, if_neg hc27_28, if_neg hc32_32], rfl, rfl⟩
      · have pre35 : ∀ t, Steps p.tables e below (s₁.setTop (mkF m 20 #[.val (.int p1), .val (.int p2), .val (.int p3), .val (.int p4), .val (.int p5)] [(.int (-1 : Int32)), (.int p4)])) t → Steps p.tables e below (s₁.setTop (entryFrame m #[(.int p1), (.int p2), (.int p3), (.int p4), (.int p5)] 5)) t := by
          intro t kt
          refine pre25 _ ?_
          show Steps p.tables e below (s₁.setTop (mkF m 15 #[.val (.int p1), .val (.int p2), .val (.int p3), .val (.int p4), .val (.int p5)] [(.int (3 : Int32)), (.int p1)])) _
          refine XS.icmpNo X0.here hx rfl (hb hby d2_15) rfl (flt hc15_26).1 ?_
          show Steps p.tables e below (s₁.setTop (mkF m 18 #[.val (.int p1), .val (.int p2), .val (.int p3), .val (.int p4), .val (.int p5)] [])) _
          refine XS.iloadN X0.here hx rfl (hb hby d2_18) rfl ?_
          refine XS.iconst X0.here hx rfl (hb hby d2_19) ?_
          exact kt
        by_cases hc20_36 : p4 = (-1 : Int32)
        · have pre37 : ∀ t, Steps p.tables e below (s₁.setTop (mkF m 27 #[.val (.int p1), .val (.int p2), .val (.int p3), .val (.int p4), .val (.int p5)] [(.int (2 : Int32)), (.int p1)])) t → Steps p.tables e below (s₁.setTop (entryFrame m #[(.int p1), (.int p2), (.int p3), (.int p4), (.int p5)] 5)) t := by
            intro t kt
            refine pre35 _ ?_
            show Steps p.tables e below (s₁.setTop (mkF m 20 #[.val (.int p1), .val (.int p2), .val (.int p3), .val (.int p4), .val (.int p5)] [(.int (-1 : Int32)), (.int p4)])) _
            refine XS.icmpYes X0.here hx rfl (pc0 := 20) (pc' := 25) rfl (hb hby d2_20) rfl (teq hc20_36).1 (by decide) (by decide) ?_
            show Steps p.tables e below (s₁.setTop (mkF m 25 #[.val (.int p1), .val (.int p2), .val (.int p3), .val (.int p4), .val (.int p5)] [])) _
            refine XS.iloadN X0.here hx rfl (hb hby d2_25) rfl ?_
            refine XS.iconst X0.here hx rfl (hb hby d2_26) ?_
            exact kt
          by_cases hc27_38 : p1 < (2 : Int32)
          · have pre39 : ∀ t, Steps p.tables e below (s₁.setTop (mkF m 39 #[.val (.int p1), .val (.int p2), .val (.int p3), .val (.int p4), .val (.int p5)] [(.int (-1 : Int32)), (.int p2)])) t → Steps p.tables e below (s₁.setTop (entryFrame m #[(.int p1), (.int p2), (.int p3), (.int p4), (.int p5)] 5)) t := by
              intro t kt
              refine pre37 _ ?_
              show Steps p.tables e below (s₁.setTop (mkF m 27 #[.val (.int p1), .val (.int p2), .val (.int p3), .val (.int p4), .val (.int p5)] [(.int (2 : Int32)), (.int p1)])) _
              refine XS.icmpYes X0.here hx rfl (pc0 := 27) (pc' := 37) rfl (hb hby d2_27) rfl (tlt hc27_38).1 (by decide) (by decide) ?_
              show Steps p.tables e below (s₁.setTop (mkF m 37 #[.val (.int p1), .val (.int p2), .val (.int p3), .val (.int p4), .val (.int p5)] [])) _
              refine XS.iloadN X0.here hx rfl (hb hby d2_37) rfl ?_
              refine XS.iconst X0.here hx rfl (hb hby d2_38) ?_
              exact kt
            by_cases hc39_40 : p2 = (-1 : Int32)
            · obtain ⟨fs, hr, hrun, hended, hW, hsame⟩ := X0.leave (v := some (.int (-1 : Int32))) (fun h => by rw [Bd.returns] at h; cases h)
              refine ⟨_, _, pre39 _ ?_, hrun, hended, _, _, rfl, ?_, ⟨_, rfl⟩, hW, hsame.mono (by decide) (by decide)⟩
              · show Steps p.tables e below (s₁.setTop (mkF m 39 #[.val (.int p1), .val (.int p2), .val (.int p3), .val (.int p4), .val (.int p5)] [(.int (-1 : Int32)), (.int p2)])) _
                refine XS.icmpYes X0.here hx rfl (pc0 := 39) (pc' := 44) rfl (hb hby d2_39) rfl (teq hc39_40).1 (by decide) (by decide) ?_
                show Steps p.tables e below (s₁.setTop (mkF m 44 #[.val (.int p1), .val (.int p2), .val (.int p3), .val (.int p4), .val (.int p5)] [])) _
                refine XS.iconst X0.here hx rfl (hb hby d2_44) ?_
                show Steps p.tables e below (s₁.setTop (mkF m 45 #[.val (.int p1), .val (.int p2), .val (.int p3), .val (.int p4), .val (.int p5)] [(.int (-1 : Int32))])) _
                exact retI X0 hx Bd.returns (hb hby d2_45) hr
              · show Q2 Z p1 p2 p3 p4 p5 h0 n0 _ s₁.heap _
                rw [e0]
                exact ⟨by rw [res2, if_neg hc2_2, if_pos hc8_24, if_neg hc15_26, if_pos hc20_36, if_pos hc27_38, if_pos hc39_40], rfl, rfl⟩
            · obtain ⟨fs, hr, hrun, hended, hW, hsame⟩ := X0.leave (v := some (.int (0 : Int32))) (fun h => by rw [Bd.returns] at h; cases h)
              refine ⟨_, _, pre39 _ ?_, hrun, hended, _, _, rfl, ?_, ⟨_, rfl⟩, hW, hsame.mono (by decide) (by decide)⟩
              · show Steps p.tables e below (s₁.setTop (mkF m 39 #[.val (.int p1), .val (.int p2), .val (.int p3), .val (.int p4), .val (.int p5)] [(.int (-1 : Int32)), (.int p2)])) _
                refine XS.icmpNo X0.here hx rfl (hb hby d2_39) rfl (feq hc39_40).1 ?_
                show Steps p.tables e below (s₁.setTop (mkF m 42 #[.val (.int p1), .val (.int p2), .val (.int p3), .val (.int p4), .val (.int p5)] [])) _
                refine XS.iconst X0.here hx rfl (hb hby d2_42) ?_
                show Steps p.tables e below (s₁.setTop (mkF m 43 #[.val (.int p1), .val (.int p2), .val (.int p3), .val (.int p4), .val (.int p5)] [(.int (0 : Int32))])) _
                exact retI X0 hx Bd.returns (hb hby d2_43) hr
              · show Q2 Z p1 p2 p3 p4 p5 h0 n0 _ s₁.heap _
                rw [e0]
                exact ⟨by rw [res2, if_neg hc2_2, if_pos hc8_24, if_neg hc15_26, if_pos hc20_36, if_pos hc27_38, if_neg hc39_40], rfl, rfl⟩
          · have pre41 : ∀ t, Steps p.tables e below (s₁.setTop (mkF m 32 #[.val (.int p1), .val (.int p2), .val (.int p3), .val (.int p4), .val (.int p5)] [(.int (-1 : Int32)), (.int p3)])) t → Steps p.tables e below (s₁.setTop (entryFrame m #[(.int p1), (.int p2), (.int p3), (.int p4), (.int p5)] 5)) t := by
              intro t kt
              refine pre37 _ ?_
              show Steps p.tables e below (s₁.setTop (mkF m 27 #[.val (.int p1), .val (.int p2), .val (.int p3), .val (.int p4), .val (.int p5)] [(.int (2 : Int32)), (.int p1)])) _
              refine XS.icmpNo X0.here hx rfl (hb hby d2_27) rfl (flt hc27_38).1 ?_
              show Steps p.tables e below (s₁.setTop (mkF m 30 #[.val (.int p1), .val (.int p2), .val (.int p3), .val (.int p4), .val (.int p5)] [])) _
              refine XS.iloadN X0.here hx rfl (hb hby d2_30) rfl ?_
              refine XS.iconst X0.here hx rfl (hb hby d2_31) ?_
              exact kt
            by_cases hc32_42 : p3 = (-1 : Int32)
            · have pre43 : ∀ t, Steps p.tables e below (s₁.setTop (mkF m 39 #[.val (.int p1), .val (.int p2), .val (.int p3), .val (.int p4), .val (.int p5)] [(.int (-1 : Int32)), (.int p2)])) t → Steps p.tables e below (s₁.setTop (entryFrame m #[(.int p1), (.int p2), (.int p3), (.int p4), (.int p5)] 5)) t := by
                intro t kt
                refine pre41 _ ?_
                show Steps p.tables e below (s₁.setTop (mkF m 32 #[.val (.int p1), .val (.int p2), .val (.int p3), .val (.int p4), .val (.int p5)] [(.int (-1 : Int32)), (.int p3)])) _
                refine XS.icmpYes X0.here hx rfl (pc0 := 32) (pc' := 37) rfl (hb hby d2_32) rfl (teq hc32_42).1 (by decide) (by decide) ?_
                show Steps p.tables e below (s₁.setTop (mkF m 37 #[.val (.int p1), .val (.int p2), .val (.int p3), .val (.int p4), .val (.int p5)] [])) _
                refine XS.iloadN X0.here hx rfl (hb hby d2_37) rfl ?_
                refine XS.iconst X0.here hx rfl (hb hby d2_38) ?_
                exact kt
              by_cases hc39_44 : p2 = (-1 : Int32)
              · obtain ⟨fs, hr, hrun, hended, hW, hsame⟩ := X0.leave (v := some (.int (-1 : Int32))) (fun h => by rw [Bd.returns] at h; cases h)
                refine ⟨_, _, pre43 _ ?_, hrun, hended, _, _, rfl, ?_, ⟨_, rfl⟩, hW, hsame.mono (by decide) (by decide)⟩
                · show Steps p.tables e below (s₁.setTop (mkF m 39 #[.val (.int p1), .val (.int p2), .val (.int p3), .val (.int p4), .val (.int p5)] [(.int (-1 : Int32)), (.int p2)])) _
                  refine XS.icmpYes X0.here hx rfl (pc0 := 39) (pc' := 44) rfl (hb hby d2_39) rfl (teq hc39_44).1 (by decide) (by decide) ?_
                  show Steps p.tables e below (s₁.setTop (mkF m 44 #[.val (.int p1), .val (.int p2), .val (.int p3), .val (.int p4), .val (.int p5)] [])) _
                  refine XS.iconst X0.here hx rfl (hb hby d2_44) ?_
                  show Steps p.tables e below (s₁.setTop (mkF m 45 #[.val (.int p1), .val (.int p2), .val (.int p3), .val (.int p4), .val (.int p5)] [(.int (-1 : Int32))])) _
                  exact retI X0 hx Bd.returns (hb hby d2_45) hr
                · show Q2 Z p1 p2 p3 p4 p5 h0 n0 _ s₁.heap _
                  rw [e0]
                  exact ⟨by rw [res2, if_neg hc2_2, if_pos hc8_24, if_neg hc15_26, if_pos hc20_36, if_neg hc27_38, if_pos hc32_42, if_pos hc39_44], rfl, rfl⟩
              · obtain ⟨fs, hr, hrun, hended, hW, hsame⟩ := X0.leave (v := some (.int (0 : Int32))) (fun h => by rw [Bd.returns] at h; cases h)
                refine ⟨_, _, pre43 _ ?_, hrun, hended, _, _, rfl, ?_, ⟨_, rfl⟩, hW, hsame.mono (by decide) (by decide)⟩
                · show Steps p.tables e below (s₁.setTop (mkF m 39 #[.val (.int p1), .val (.int p2), .val (.int p3), .val (.int p4), .val (.int p5)] [(.int (-1 : Int32)), (.int p2)])) _
                  refine XS.icmpNo X0.here hx rfl (hb hby d2_39) rfl (feq hc39_44).1 ?_
                  show Steps p.tables e below (s₁.setTop (mkF m 42 #[.val (.int p1), .val (.int p2), .val (.int p3), .val (.int p4), .val (.int p5)] [])) _
                  refine XS.iconst X0.here hx rfl (hb hby d2_42) ?_
                  show Steps p.tables e below (s₁.setTop (mkF m 43 #[.val (.int p1), .val (.int p2), .val (.int p3), .val (.int p4), .val (.int p5)] [(.int (0 : Int32))])) _
                  exact retI X0 hx Bd.returns (hb hby d2_43) hr
                · show Q2 Z p1 p2 p3 p4 p5 h0 n0 _ s₁.heap _
                  rw [e0]
                  exact ⟨by rw [res2, if_neg hc2_2, if_pos hc8_24, if_neg hc15_26, if_pos hc20_36, if_neg hc27_38, if_pos hc32_42, if_neg hc39_44], rfl, rfl⟩
            · obtain ⟨fs, hr, hrun, hended, hW, hsame⟩ := X0.leave (v := some (.int (1 : Int32))) (fun h => by rw [Bd.returns] at h; cases h)
              refine ⟨_, _, pre41 _ ?_, hrun, hended, _, _, rfl, ?_, ⟨_, rfl⟩, hW, hsame.mono (by decide) (by decide)⟩
              · show Steps p.tables e below (s₁.setTop (mkF m 32 #[.val (.int p1), .val (.int p2), .val (.int p3), .val (.int p4), .val (.int p5)] [(.int (-1 : Int32)), (.int p3)])) _
                refine XS.icmpNo X0.here hx rfl (hb hby d2_32) rfl (feq hc32_42).1 ?_
                show Steps p.tables e below (s₁.setTop (mkF m 35 #[.val (.int p1), .val (.int p2), .val (.int p3), .val (.int p4), .val (.int p5)] [])) _
                refine XS.iconst X0.here hx rfl (hb hby d2_35) ?_
                show Steps p.tables e below (s₁.setTop (mkF m 36 #[.val (.int p1), .val (.int p2), .val (.int p3), .val (.int p4), .val (.int p5)] [(.int (1 : Int32))])) _
                exact retI X0 hx Bd.returns (hb hby d2_36) hr
              · show Q2 Z p1 p2 p3 p4 p5 h0 n0 _ s₁.heap _
                rw [e0]
                exact ⟨by rw [res2, if_neg hc2_2, if_pos hc8_24, if_neg hc15_26, if_pos hc20_36, if_neg hc27_38, if_neg hc32_42], rfl, rfl⟩
        · obtain ⟨fs, hr, hrun, hended, hW, hsame⟩ := X0.leave (v := some (.int (2 : Int32))) (fun h => by rw [Bd.returns] at h; cases h)
          refine ⟨_, _, pre35 _ ?_, hrun, hended, _, _, rfl, ?_, ⟨_, rfl⟩, hW, hsame.mono (by decide) (by decide)⟩
          · show Steps p.tables e below (s₁.setTop (mkF m 20 #[.val (.int p1), .val (.int p2), .val (.int p3), .val (.int p4), .val (.int p5)] [(.int (-1 : Int32)), (.int p4)])) _
            refine XS.icmpNo X0.here hx rfl (hb hby d2_20) rfl (feq hc20_36).1 ?_
            show Steps p.tables e below (s₁.setTop (mkF m 23 #[.val (.int p1), .val (.int p2), .val (.int p3), .val (.int p4), .val (.int p5)] [])) _
            refine XS.iconst X0.here hx rfl (hb hby d2_23) ?_
            show Steps p.tables e below (s₁.setTop (mkF m 24 #[.val (.int p1), .val (.int p2), .val (.int p3), .val (.int p4), .val (.int p5)] [(.int (2 : Int32))])) _
            exact retI X0 hx Bd.returns (hb hby d2_24) hr
          · show Q2 Z p1 p2 p3 p4 p5 h0 n0 _ s₁.heap _
            rw [e0]
            exact ⟨by rw [res2, if_neg hc2_2, if_pos hc8_24, if_neg hc15_26, if_neg hc20_36], rfl, rfl⟩
    · obtain ⟨fs, hr, hrun, hended, hW, hsame⟩ := X0.leave (v := some (.int (3 : Int32))) (fun h => by rw [Bd.returns] at h; cases h)
      refine ⟨_, _, pre23 _ ?_, hrun, hended, _, _, rfl, ?_, ⟨_, rfl⟩, hW, hsame.mono (by decide) (by decide)⟩
      · show Steps p.tables e below (s₁.setTop (mkF m 8 #[.val (.int p1), .val (.int p2), .val (.int p3), .val (.int p4), .val (.int p5)] [(.int (-1 : Int32)), (.int p5)])) _
        refine XS.icmpNo X0.here hx rfl (hb hby d2_8) rfl (feq hc8_24).1 ?_
        show Steps p.tables e below (s₁.setTop (mkF m 11 #[.val (.int p1), .val (.int p2), .val (.int p3), .val (.int p4), .val (.int p5)] [])) _
        refine XS.iconst X0.here hx rfl (hb hby d2_11) ?_
        show Steps p.tables e below (s₁.setTop (mkF m 12 #[.val (.int p1), .val (.int p2), .val (.int p3), .val (.int p4), .val (.int p5)] [(.int (3 : Int32))])) _
        exact retI X0 hx Bd.returns (hb hby d2_12) hr
      · show Q2 Z p1 p2 p3 p4 p5 h0 n0 _ s₁.heap _
        rw [e0]
        exact ⟨by rw [res2, if_neg hc2_2, if_neg hc8_24], rfl, rfl⟩
theorem d3_0 : decode method_3_code 0 = .ok (.iload_n 0, 1) := by decide +kernel
theorem d3_1 : decode method_3_code 1 = .ok (.iconst 1, 1) := by decide +kernel
theorem d3_2 : decode method_3_code 2 = .ok (.if_icmp .ne 11, 3) := by decide +kernel
theorem d3_5 : decode method_3_code 5 = .ok (.iconst 1, 1) := by decide +kernel
theorem d3_6 : decode method_3_code 6 = .ok (.newarray .byte, 2) := by decide +kernel
theorem d3_8 : decode method_3_code 8 = .ok (.dup, 1) := by decide +kernel
theorem d3_9 : decode method_3_code 9 = .ok (.iconst 0, 1) := by decide +kernel
theorem d3_10 : decode method_3_code 10 = .ok (.iload_n 1, 1) := by decide +kernel
theorem d3_11 : decode method_3_code 11 = .ok (.bastore, 1) := by decide +kernel
theorem d3_12 : decode method_3_code 12 = .ok (.areturn, 1) := by decide +kernel
theorem ef_make_1 (m : MethodId) (p1 : Int32) (p2 : Int32) (p3 : Int32) (p4 : Int32) : entryFrame m #[(.int (1 : Int32)), (.int p1), (.int p2), (.int p3), (.int p4)] 5 = (mkF m 0 #[.val (.int (1 : Int32)), .val (.int p1), .val (.int p2), .val (.int p3), .val (.int p4)] []) := by first | (simp [entryFrame, mkF, argsToLocals, Value.category]; done) | rfl
def Q_make_1 (Z : State) (p1 : Int32) (p2 : Int32) (p3 : Int32) (p4 : Int32) (h0 : Heap) (n0 : Nat) (v : Option Value) (h : Heap) (L : List Loc) : Prop := ∃ (b1 : Addr) (k1 : ClassId), v = some (.ref b1) ∧ Fr n0 L ∧ Keep h0 h [] ∧ h0.size ≤ b1 ∧ Arv Z h b1 k1 .byte (1 : Int32) [(.int (nar .byte p1))] (.int (0 : Int32)) ∧ Exa Z h b1 "[B"
set_option maxRecDepth 65536 in
set_option maxHeartbeats 40000000 in
theorem rm_make_1 (l : Launch) (Z : State) (a0 : Array Value) (hw : ∀ d ∈ tables_1, d.before a0 Z = true) (ws : List Jvm.Cond) (p1 : Int32) (p2 : Int32) (p3 : Int32) (p4 : Int32) (h0 : Heap) (n0 : Nat) (Z0 : n0 ≤ h0.size) :
    MetFree l (⟨"com/example/elliott_bay/elliottbay/store/KeysEndPinLaw", "make", "(IBBBB)[B"⟩ : MethodName) (head1 (Jvm.Cond.code (⟨"com/example/elliott_bay/elliottbay/store/KeysEndPinLaw", "make", "(IBBBB)[B"⟩ : MethodName) method_3_code 5 (some (.array .byte)) :: ws) ({ frames := 0, cells := 1, slots := 1, locals := 0 } : Room)) (fun a U => a = #[(.int (1 : Int32)), (.int p1), (.int p2), (.int p3), (.int p4)] ∧ Z.Warmed39 U.vm ∧ U.heap = h0) (fun _ _ _ _ _ => True) (fun _ U o U' => ∃ v L, o = .returned v ∧ Q_make_1 Z p1 p2 p3 p4 h0 n0 v U'.heap L ∧ FrameEnd U o U' L ({ frames := 0, cells := 1, slots := 1, locals := 0 } : Room).cells ({ frames := 0, cells := 1, slots := 1, locals := 0 } : Room).slots) := by
  refine MetFree.of_bodySF (plainFor_of_name pn0) hisR ?_
  intro p e s m args below meth c s₁ Bd hml0 hP hK
  obtain ⟨rfl, hZ, hh⟩ := hP
  have hx := Bd.exec
  have hby := Bd.bytes
  have hml : c.maxLocals = 5 := hml0
  have hown : s.vm.findClass "com/example/elliott_bay/elliottbay/store/KeysEndPinLaw" = some m.cls := findClass_of_methodNamed Bd.named
  have hnm := (name_of_methodNamed Bd.named Bd.method).1
  have X0 : Stand p l e ({ frames := 0, cells := 1, slots := 1, locals := 0 } : Room) s m #[(.int (1 : Int32)), (.int p1), (.int p2), (.int p3), (.int p4)] below meth c s₁ [] 0 0 := Stand.of_body Bd
  have e0 : s₁.heap = h0 := by rw [← hh, Bd.state]; rfl
  have N0 := Fr.nil n0
  have pre0 : ∀ t, Steps p.tables e below (s₁.setTop (mkF m 0 #[.val (.int (1 : Int32)), .val (.int p1), .val (.int p2), .val (.int p3), .val (.int p4)] [])) t → Steps p.tables e below (s₁.setTop (entryFrame m #[(.int (1 : Int32)), (.int p1), (.int p2), (.int p3), (.int p4)] 5)) t := fun t k => castTop (ef_make_1 m p1 p2 p3 p4) k
  obtain ⟨T1, h1, k1, X1, e1, E1, A1, B1, st1⟩ := newPE X0 hx hZ (hw _ (List.mem_of_getElem? (i := 10) rfl)) e0 (g := (mkF m 6 #[.val (.int (1 : Int32)), .val (.int p1), .val (.int p2), .val (.int p3), .val (.int p4)] [(.int (1 : Int32))])) rfl (hb hby d3_6) rfl (by decide) (cap := 1) (by decide) (by decide) (by decide) (by decide) (ad := "[B") (by decide)
  obtain ⟨b1, g1⟩ : ∃ z, z = h0.size := ⟨_, rfl⟩
  rw [← g1] at A1 B1 st1
  have sz_b1 : h0.size ≤ b1 := Nat.le_trans (Keep.refl h0 []).1 (Nat.le_of_eq g1.symm)
  have g_b1 : n0 ≤ b1 := Nat.le_trans Z0 sz_b1
  have K1 : Keep h0 h1 [] := (Keep.refl h0 []).ext E1
  have V_b1 : Arv Z h1 b1 k1 .byte (1 : Int32) [(.int (0 : Int32))] (.int (0 : Int32)) := (Arv.new A1 (by decide)).pad (pad_rep [] (.int (0 : Int32)) 1)
  obtain ⟨cl_b1_11_2, Ar_b1_11_2, q_b1_11_2, S_b1_11_2, N_b1_11_2, H_b1_11_2, G_b1_11_2⟩ := id V_b1
  have hin_b1_11_2 : ¬ ((0 : Int32) < 0 ∨ cl_b1_11_2.slots.size ≤ ((0 : Int32) : Int32).toNatClampNeg) := inb_of S_b1_11_2 ⟨by decide, by decide⟩
  obtain ⟨T3, h3, X3, e3, W3, st3⟩ := stB X1 hx hZ e1 Ar_b1_11_2 (j := (0 : Int32)) hin_b1_11_2 (g := (mkF m 11 #[.val (.int (1 : Int32)), .val (.int p1), .val (.int p2), .val (.int p3), .val (.int p4)] [(.int p1), (.int (0 : Int32)), (.ref b1), (.ref b1)])) rfl rfl (hb hby d3_11)
  have V_b1_11_2 : Arv Z h3 b1 k1 .byte (1 : Int32) [(.int (nar .byte p1))] (.int (0 : Int32)) := Arv.set Ar_b1_11_2 q_b1_11_2 S_b1_11_2 N_b1_11_2 H_b1_11_2 G_b1_11_2 (fits_nar_byte _) W3 0 rfl (Nat.le_of_ble_eq_true rfl)
  have K3 : Keep h0 h3 [] := K1.wr W3 (Or.inr sz_b1)
  have N3 := Fr.snoc X3 N0 g_b1
  obtain ⟨fs, hr, hrun, hended, hW, hsame⟩ := X3.leave (v := some (.ref b1)) (fun h => by rw [Bd.returns] at h; cases h)
  refine ⟨_, _, pre0 _ ?_, hrun, hended, _, _, rfl, ?_, ⟨_, rfl⟩, hW, hsame.mono (by decide) (by decide)⟩
  · show Steps p.tables e below (s₁.setTop (mkF m 0 #[.val (.int (1 : Int32)), .val (.int p1), .val (.int p2), .val (.int p3), .val (.int p4)] [])) _
    refine XS.iloadN X0.here hx rfl (hb hby d3_0) rfl ?_
    refine XS.iconst X0.here hx rfl (hb hby d3_1) ?_
    refine XS.icmpNo X0.here hx rfl (hb hby d3_2) rfl (teq (by decide : (1 : Int32) = (1 : Int32))).2 ?_
    show Steps p.tables e below (s₁.setTop (mkF m 5 #[.val (.int (1 : Int32)), .val (.int p1), .val (.int p2), .val (.int p3), .val (.int p4)] [])) _
    refine XS.iconst X0.here hx rfl (hb hby d3_5) ?_
    show Steps p.tables e below (s₁.setTop (mkF m 6 #[.val (.int (1 : Int32)), .val (.int p1), .val (.int p2), .val (.int p3), .val (.int p4)] [(.int (1 : Int32))])) _
    refine st1 _ ?_
    show Steps p.tables e below (T1.setTop (mkF m 8 #[.val (.int (1 : Int32)), .val (.int p1), .val (.int p2), .val (.int p3), .val (.int p4)] [(.ref b1)])) _
    refine XS.dup X1.here hx rfl (hb hby d3_8) rfl rfl ?_
    refine XS.iconst X1.here hx rfl (hb hby d3_9) ?_
    show Steps p.tables e below (T1.setTop (mkF m 10 #[.val (.int (1 : Int32)), .val (.int p1), .val (.int p2), .val (.int p3), .val (.int p4)] [(.int (0 : Int32)), (.ref b1), (.ref b1)])) _
    refine XS.iloadN X1.here hx rfl (hb hby d3_10) rfl ?_
    show Steps p.tables e below (T1.setTop (mkF m 11 #[.val (.int (1 : Int32)), .val (.int p1), .val (.int p2), .val (.int p3), .val (.int p4)] [(.int p1), (.int (0 : Int32)), (.ref b1), (.ref b1)])) _
    refine st3 _ ?_
    show Steps p.tables e below (T3.setTop (mkF m 12 #[.val (.int (1 : Int32)), .val (.int p1), .val (.int p2), .val (.int p3), .val (.int p4)] [(.ref b1)])) _
    exact retOut X3 hx Bd.returns rfl (Or.inr (Or.inr (Or.inr (Or.inr ⟨rfl, rfl, rfl⟩)))) (hb hby d3_12) hr
  · show Q_make_1 Z p1 p2 p3 p4 h0 n0 _ T3.heap _
    rw [e3]
    exact ⟨b1, k1, rfl, N3, K3, sz_b1, V_b1_11_2, (B1.wr W3)⟩
theorem d3_13 : decode method_3_code 13 = .ok (.iload_n 0, 1) := by decide +kernel
theorem d3_14 : decode method_3_code 14 = .ok (.iconst 2, 1) := by decide +kernel
theorem d3_15 : decode method_3_code 15 = .ok (.if_icmp .ne 15, 3) := by decide +kernel
theorem d3_18 : decode method_3_code 18 = .ok (.iconst 2, 1) := by decide +kernel
theorem d3_19 : decode method_3_code 19 = .ok (.newarray .byte, 2) := by decide +kernel
theorem d3_21 : decode method_3_code 21 = .ok (.dup, 1) := by decide +kernel
theorem d3_22 : decode method_3_code 22 = .ok (.iconst 0, 1) := by decide +kernel
theorem d3_23 : decode method_3_code 23 = .ok (.iload_n 1, 1) := by decide +kernel
theorem d3_24 : decode method_3_code 24 = .ok (.bastore, 1) := by decide +kernel
theorem d3_25 : decode method_3_code 25 = .ok (.dup, 1) := by decide +kernel
theorem d3_26 : decode method_3_code 26 = .ok (.iconst 1, 1) := by decide +kernel
theorem d3_27 : decode method_3_code 27 = .ok (.iload_n 2, 1) := by decide +kernel
theorem d3_28 : decode method_3_code 28 = .ok (.bastore, 1) := by decide +kernel
theorem d3_29 : decode method_3_code 29 = .ok (.areturn, 1) := by decide +kernel
theorem ef_make_2 (m : MethodId) (p1 : Int32) (p2 : Int32) (p3 : Int32) (p4 : Int32) : entryFrame m #[(.int (2 : Int32)), (.int p1), (.int p2), (.int p3), (.int p4)] 5 = (mkF m 0 #[.val (.int (2 : Int32)), .val (.int p1), .val (.int p2), .val (.int p3), .val (.int p4)] []) := by first | (simp [entryFrame, mkF, argsToLocals, Value.category]; done) | rfl
def Q_make_2 (Z : State) (p1 : Int32) (p2 : Int32) (p3 : Int32) (p4 : Int32) (h0 : Heap) (n0 : Nat) (v : Option Value) (h : Heap) (L : List Loc) : Prop := ∃ (b1 : Addr) (k1 : ClassId), v = some (.ref b1) ∧ Fr n0 L ∧ Keep h0 h [] ∧ h0.size ≤ b1 ∧ Arv Z h b1 k1 .byte (2 : Int32) [(.int (nar .byte p1)), (.int (nar .byte p2))] (.int (0 : Int32)) ∧ Exa Z h b1 "[B"
set_option maxRecDepth 65536 in
set_option maxHeartbeats 40000000 in
theorem rm_make_2 (l : Launch) (Z : State) (a0 : Array Value) (hw : ∀ d ∈ tables_1, d.before a0 Z = true) (ws : List Jvm.Cond) (p1 : Int32) (p2 : Int32) (p3 : Int32) (p4 : Int32) (h0 : Heap) (n0 : Nat) (Z0 : n0 ≤ h0.size) :
    MetFree l (⟨"com/example/elliott_bay/elliottbay/store/KeysEndPinLaw", "make", "(IBBBB)[B"⟩ : MethodName) (head1 (Jvm.Cond.code (⟨"com/example/elliott_bay/elliottbay/store/KeysEndPinLaw", "make", "(IBBBB)[B"⟩ : MethodName) method_3_code 5 (some (.array .byte)) :: ws) ({ frames := 0, cells := 1, slots := 2, locals := 0 } : Room)) (fun a U => a = #[(.int (2 : Int32)), (.int p1), (.int p2), (.int p3), (.int p4)] ∧ Z.Warmed39 U.vm ∧ U.heap = h0) (fun _ _ _ _ _ => True) (fun _ U o U' => ∃ v L, o = .returned v ∧ Q_make_2 Z p1 p2 p3 p4 h0 n0 v U'.heap L ∧ FrameEnd U o U' L ({ frames := 0, cells := 1, slots := 2, locals := 0 } : Room).cells ({ frames := 0, cells := 1, slots := 2, locals := 0 } : Room).slots) := by
  refine MetFree.of_bodySF (plainFor_of_name pn0) hisR ?_
  intro p e s m args below meth c s₁ Bd hml0 hP hK
  obtain ⟨rfl, hZ, hh⟩ := hP
  have hx := Bd.exec
  have hby := Bd.bytes
  have hml : c.maxLocals = 5 := hml0
  have hown : s.vm.findClass "com/example/elliott_bay/elliottbay/store/KeysEndPinLaw" = some m.cls := findClass_of_methodNamed Bd.named
  have hnm := (name_of_methodNamed Bd.named Bd.method).1
  have X0 : Stand p l e ({ frames := 0, cells := 1, slots := 2, locals := 0 } : Room) s m #[(.int (2 : Int32)), (.int p1), (.int p2), (.int p3), (.int p4)] below meth c s₁ [] 0 0 := Stand.of_body Bd
  have e0 : s₁.heap = h0 := by rw [← hh, Bd.state]; rfl
  have N0 := Fr.nil n0
  have pre0 : ∀ t, Steps p.tables e below (s₁.setTop (mkF m 0 #[.val (.int (2 : Int32)), .val (.int p1), .val (.int p2), .val (.int p3), .val (.int p4)] [])) t → Steps p.tables e below (s₁.setTop (entryFrame m #[(.int (2 : Int32)), (.int p1), (.int p2), (.int p3), (.int p4)] 5)) t := fun t k => castTop (ef_make_2 m p1 p2 p3 p4) k
  obtain ⟨T1, h1, k1, X1, e1, E1, A1, B1, st1⟩ := newPE X0 hx hZ (hw _ (List.mem_of_getElem? (i := 10) rfl)) e0 (g := (mkF m 19 #[.val (.int (2 : Int32)), .val (.int p1), .val (.int p2), .val (.int p3), .val (.int p4)] [(.int (2 : Int32))])) rfl (hb hby d3_19) rfl (by decide) (cap := 2) (by decide) (by decide) (by decide) (by decide) (ad := "[B") (by decide)
  obtain ⟨b1, g1⟩ : ∃ z, z = h0.size := ⟨_, rfl⟩
  rw [← g1] at A1 B1 st1
  have sz_b1 : h0.size ≤ b1 := Nat.le_trans (Keep.refl h0 []).1 (Nat.le_of_eq g1.symm)
  have g_b1 : n0 ≤ b1 := Nat.le_trans Z0 sz_b1
  have K1 : Keep h0 h1 [] := (Keep.refl h0 []).ext E1
  have V_b1 : Arv Z h1 b1 k1 .byte (2 : Int32) [(.int (0 : Int32)), (.int (0 : Int32))] (.int (0 : Int32)) := (Arv.new A1 (by decide)).pad (pad_rep [] (.int (0 : Int32)) 2)
  obtain ⟨cl_b1_24_2, Ar_b1_24_2, q_b1_24_2, S_b1_24_2, N_b1_24_2, H_b1_24_2, G_b1_24_2⟩ := id V_b1
  have hin_b1_24_2 : ¬ ((0 : Int32) < 0 ∨ cl_b1_24_2.slots.size ≤ ((0 : Int32) : Int32).toNatClampNeg) := inb_of S_b1_24_2 ⟨by decide, by decide⟩
  obtain ⟨T3, h3, X3, e3, W3, st3⟩ := stB X1 hx hZ e1 Ar_b1_24_2 (j := (0 : Int32)) hin_b1_24_2 (g := (mkF m 24 #[.val (.int (2 : Int32)), .val (.int p1), .val (.int p2), .val (.int p3), .val (.int p4)] [(.int p1), (.int (0 : Int32)), (.ref b1), (.ref b1)])) rfl rfl (hb hby d3_24)
  have V_b1_24_2 : Arv Z h3 b1 k1 .byte (2 : Int32) [(.int (nar .byte p1)), (.int (0 : Int32))] (.int (0 : Int32)) := Arv.set Ar_b1_24_2 q_b1_24_2 S_b1_24_2 N_b1_24_2 H_b1_24_2 G_b1_24_2 (fits_nar_byte _) W3 0 rfl (Nat.le_of_ble_eq_true rfl)
  have K3 : Keep h0 h3 [] := K1.wr W3 (Or.inr sz_b1)
  have N3 := Fr.snoc X3 N0 g_b1
  obtain ⟨cl_b1_28_4, Ar_b1_28_4, q_b1_28_4, S_b1_28_4, N_b1_28_4, H_b1_28_4, G_b1_28_4⟩ := id V_b1_24_2
  have hin_b1_28_4 : ¬ ((1 : Int32) < 0 ∨ cl_b1_28_4.slots.size ≤ ((1 : Int32) : Int32).toNatClampNeg) := inb_of S_b1_28_4 ⟨by decide, by decide⟩
  obtain ⟨T5, h5, X5, e5, W5, st5⟩ := stB X3 hx hZ e3 Ar_b1_28_4 (j := (1 : Int32)) hin_b1_28_4 (g := (mkF m 28 #[.val (.int (2 : Int32)), .val (.int p1), .val (.int p2), .val (.int p3), .val (.int p4)] [(.int p2), (.int (1 : Int32)), (.ref b1), (.ref b1)])) rfl rfl (hb hby d3_28)
  have V_b1_28_4 : Arv Z h5 b1 k1 .byte (2 : Int32) [(.int (nar .byte p1)), (.int (nar .byte p2))] (.int (0 : Int32)) := Arv.set Ar_b1_28_4 q_b1_28_4 S_b1_28_4 N_b1_28_4 H_b1_28_4 G_b1_28_4 (fits_nar_byte _) W5 1 rfl (Nat.le_of_ble_eq_true rfl)
  have K5 : Keep h0 h5 [] := K3.wr W5 (Or.inr sz_b1)
  have N5 := Fr.snoc X5 N3 g_b1
  obtain ⟨fs, hr, hrun, hended, hW, hsame⟩ := X5.leave (v := some (.ref b1)) (fun h => by rw [Bd.returns] at h; cases h)
  refine ⟨_, _, pre0 _ ?_, hrun, hended, _, _, rfl, ?_, ⟨_, rfl⟩, hW, hsame.mono (by decide) (by decide)⟩
  · show Steps p.tables e below (s₁.setTop (mkF m 0 #[.val (.int (2 : Int32)), .val (.int p1), .val (.int p2), .val (.int p3), .val (.int p4)] [])) _
    refine XS.iloadN X0.here hx rfl (hb hby d3_0) rfl ?_
    refine XS.iconst X0.here hx rfl (hb hby d3_1) ?_
    refine XS.icmpYes X0.here hx rfl (pc0 := 2) (pc' := 13) rfl (hb hby d3_2) rfl (feq (by decide : ¬ ((2 : Int32) = (1 : Int32)))).2 (by decide) (by decide) ?_
    show Steps p.tables e below (s₁.setTop (mkF m 13 #[.val (.int (2 : Int32)), .val (.int p1), .val (.int p2), .val (.int p3), .val (.int p4)] [])) _
    refine XS.iloadN X0.here hx rfl (hb hby d3_13) rfl ?_
    refine XS.iconst X0.here hx rfl (hb hby d3_14) ?_
    refine XS.icmpNo X0.here hx rfl (hb hby d3_15) rfl (teq (by decide : (2 : Int32) = (2 : Int32))).2 ?_
    show Steps p.tables e below (s₁.setTop (mkF m 18 #[.val (.int (2 : Int32)), .val (.int p1), .val (.int p2), .val (.int p3), .val (.int p4)] [])) _
    refine XS.iconst X0.here hx rfl (hb hby d3_18) ?_
    show Steps p.tables e below (s₁.setTop (mkF m 19 #[.val (.int (2 : Int32)), .val (.int p1), .val (.int p2), .val (.int p3), .val (.int p4)] [(.int (2 : Int32))])) _
    refine st1 _ ?_
    show Steps p.tables e below (T1.setTop (mkF m 21 #[.val (.int (2 : Int32)), .val (.int p1), .val (.int p2), .val (.int p3), .val (.int p4)] [(.ref b1)])) _
    refine XS.dup X1.here hx rfl (hb hby d3_21) rfl rfl ?_
    refine XS.iconst X1.here hx rfl (hb hby d3_22) ?_
    show Steps p.tables e below (T1.setTop (mkF m 23 #[.val (.int (2 : Int32)), .val (.int p1), .val (.int p2), .val (.int p3), .val (.int p4)] [(.int (0 : Int32)), (.ref b1), (.ref b1)])) _
    refine XS.iloadN X1.here hx rfl (hb hby d3_23) rfl ?_
    show Steps p.tables e below (T1.setTop (mkF m 24 #[.val (.int (2 : Int32)), .val (.int p1), .val (.int p2), .val (.int p3), .val (.int p4)] [(.int p1), (.int (0 : Int32)), (.ref b1), (.ref b1)])) _
    refine st3 _ ?_
    show Steps p.tables e below (T3.setTop (mkF m 25 #[.val (.int (2 : Int32)), .val (.int p1), .val (.int p2), .val (.int p3), .val (.int p4)] [(.ref b1)])) _
    refine XS.dup X3.here hx rfl (hb hby d3_25) rfl rfl ?_
    refine XS.iconst X3.here hx rfl (hb hby d3_26) ?_
    show Steps p.tables e below (T3.setTop (mkF m 27 #[.val (.int (2 : Int32)), .val (.int p1), .val (.int p2), .val (.int p3), .val (.int p4)] [(.int (1 : Int32)), (.ref b1), (.ref b1)])) _
    refine XS.iloadN X3.here hx rfl (hb hby d3_27) rfl ?_
    show Steps p.tables e below (T3.setTop (mkF m 28 #[.val (.int (2 : Int32)), .val (.int p1), .val (.int p2), .val (.int p3), .val (.int p4)] [(.int p2), (.int (1 : Int32)), (.ref b1), (.ref b1)])) _
    refine st5 _ ?_
    show Steps p.tables e below (T5.setTop (mkF m 29 #[.val (.int (2 : Int32)), .val (.int p1), .val (.int p2), .val (.int p3), .val (.int p4)] [(.ref b1)])) _
    exact retOut X5 hx Bd.returns rfl (Or.inr (Or.inr (Or.inr (Or.inr ⟨rfl, rfl, rfl⟩)))) (hb hby d3_29) hr
  · show Q_make_2 Z p1 p2 p3 p4 h0 n0 _ T5.heap _
    rw [e5]
    exact ⟨b1, k1, rfl, N5, K5, sz_b1, V_b1_28_4, ((B1.wr W3).wr W5)⟩
theorem d3_30 : decode method_3_code 30 = .ok (.iload_n 0, 1) := by decide +kernel
theorem d3_31 : decode method_3_code 31 = .ok (.iconst 3, 1) := by decide +kernel
theorem d3_32 : decode method_3_code 32 = .ok (.if_icmp .ne 19, 3) := by decide +kernel
theorem d3_35 : decode method_3_code 35 = .ok (.iconst 3, 1) := by decide +kernel
theorem d3_36 : decode method_3_code 36 = .ok (.newarray .byte, 2) := by decide +kernel
theorem d3_38 : decode method_3_code 38 = .ok (.dup, 1) := by decide +kernel
theorem d3_39 : decode method_3_code 39 = .ok (.iconst 0, 1) := by decide +kernel
theorem d3_40 : decode method_3_code 40 = .ok (.iload_n 1, 1) := by decide +kernel
theorem d3_41 : decode method_3_code 41 = .ok (.bastore, 1) := by decide +kernel
theorem d3_42 : decode method_3_code 42 = .ok (.dup, 1) := by decide +kernel
theorem d3_43 : decode method_3_code 43 = .ok (.iconst 1, 1) := by decide +kernel
theorem d3_44 : decode method_3_code 44 = .ok (.iload_n 2, 1) := by decide +kernel
theorem d3_45 : decode method_3_code 45 = .ok (.bastore, 1) := by decide +kernel
theorem d3_46 : decode method_3_code 46 = .ok (.dup, 1) := by decide +kernel
theorem d3_47 : decode method_3_code 47 = .ok (.iconst 2, 1) := by decide +kernel
theorem d3_48 : decode method_3_code 48 = .ok (.iload_n 3, 1) := by decide +kernel
theorem d3_49 : decode method_3_code 49 = .ok (.bastore, 1) := by decide +kernel
theorem d3_50 : decode method_3_code 50 = .ok (.areturn, 1) := by decide +kernel
theorem ef_make_3 (m : MethodId) (p1 : Int32) (p2 : Int32) (p3 : Int32) (p4 : Int32) : entryFrame m #[(.int (3 : Int32)), (.int p1), (.int p2), (.int p3), (.int p4)] 5 = (mkF m 0 #[.val (.int (3 : Int32)), .val (.int p1), .val (.int p2), .val (.int p3), .val (.int p4)] []) := by first | (simp [entryFrame, mkF, argsToLocals, Value.category]; done) | rfl
def Q_make_3 (Z : State) (p1 : Int32) (p2 : Int32) (p3 : Int32) (p4 : Int32) (h0 : Heap) (n0 : Nat) (v : Option Value) (h : Heap) (L : List Loc) : Prop := ∃ (b1 : Addr) (k1 : ClassId), v = some (.ref b1) ∧ Fr n0 L ∧ Keep h0 h [] ∧ h0.size ≤ b1 ∧ Arv Z h b1 k1 .byte (3 : Int32) [(.int (nar .byte p1)), (.int (nar .byte p2)), (.int (nar .byte p3))] (.int (0 : Int32)) ∧ Exa Z h b1 "[B"
set_option maxRecDepth 65536 in
set_option maxHeartbeats 40000000 in
theorem rm_make_3 (l : Launch) (Z : State) (a0 : Array Value) (hw : ∀ d ∈ tables_1, d.before a0 Z = true) (ws : List Jvm.Cond) (p1 : Int32) (p2 : Int32) (p3 : Int32) (p4 : Int32) (h0 : Heap) (n0 : Nat) (Z0 : n0 ≤ h0.size) :
    MetFree l (⟨"com/example/elliott_bay/elliottbay/store/KeysEndPinLaw", "make", "(IBBBB)[B"⟩ : MethodName) (head1 (Jvm.Cond.code (⟨"com/example/elliott_bay/elliottbay/store/KeysEndPinLaw", "make", "(IBBBB)[B"⟩ : MethodName) method_3_code 5 (some (.array .byte)) :: ws) ({ frames := 0, cells := 1, slots := 3, locals := 0 } : Room)) (fun a U => a = #[(.int (3 : Int32)), (.int p1), (.int p2), (.int p3), (.int p4)] ∧ Z.Warmed39 U.vm ∧ U.heap = h0) (fun _ _ _ _ _ => True) (fun _ U o U' => ∃ v L, o = .returned v ∧ Q_make_3 Z p1 p2 p3 p4 h0 n0 v U'.heap L ∧ FrameEnd U o U' L ({ frames := 0, cells := 1, slots := 3, locals := 0 } : Room).cells ({ frames := 0, cells := 1, slots := 3, locals := 0 } : Room).slots) := by
  refine MetFree.of_bodySF (plainFor_of_name pn0) hisR ?_
  intro p e s m args below meth c s₁ Bd hml0 hP hK
  obtain ⟨rfl, hZ, hh⟩ := hP
  have hx := Bd.exec
  have hby := Bd.bytes
  have hml : c.maxLocals = 5 := hml0
  have hown : s.vm.findClass "com/example/elliott_bay/elliottbay/store/KeysEndPinLaw" = some m.cls := findClass_of_methodNamed Bd.named
  have hnm := (name_of_methodNamed Bd.named Bd.method).1
  have X0 : Stand p l e ({ frames := 0, cells := 1, slots := 3, locals := 0 } : Room) s m #[(.int (3 : Int32)), (.int p1), (.int p2), (.int p3), (.int p4)] below meth c s₁ [] 0 0 := Stand.of_body Bd
  have e0 : s₁.heap = h0 := by rw [← hh, Bd.state]; rfl
  have N0 := Fr.nil n0
  have pre0 : ∀ t, Steps p.tables e below (s₁.setTop (mkF m 0 #[.val (.int (3 : Int32)), .val (.int p1), .val (.int p2), .val (.int p3), .val (.int p4)] [])) t → Steps p.tables e below (s₁.setTop (entryFrame m #[(.int (3 : Int32)), (.int p1), (.int p2), (.int p3), (.int p4)] 5)) t := fun t k => castTop (ef_make_3 m p1 p2 p3 p4) k
  obtain ⟨T1, h1, k1, X1, e1, E1, A1, B1, st1⟩ := newPE X0 hx hZ (hw _ (List.mem_of_getElem? (i := 10) rfl)) e0 (g := (mkF m 36 #[.val (.int (3 : Int32)), .val (.int p1), .val (.int p2), .val (.int p3), .val (.int p4)] [(.int (3 : Int32))])) rfl (hb hby d3_36) rfl (by decide) (cap := 3) (by decide) (by decide) (by decide) (by decide) (ad := "[B") (by decide)
  obtain ⟨b1, g1⟩ : ∃ z, z = h0.size := ⟨_, rfl⟩
  rw [← g1] at A1 B1 st1
  have sz_b1 : h0.size ≤ b1 := Nat.le_trans (Keep.refl h0 []).1 (Nat.le_of_eq g1.symm)
  have g_b1 : n0 ≤ b1 := Nat.le_trans Z0 sz_b1
  have K1 : Keep h0 h1 [] := (Keep.refl h0 []).ext E1
  have V_b1 : Arv Z h1 b1 k1 .byte (3 : Int32) [(.int (0 : Int32)), (.int (0 : Int32)), (.int (0 : Int32))] (.int (0 : Int32)) := (Arv.new A1 (by decide)).pad (pad_rep [] (.int (0 : Int32)) 3)
  obtain ⟨cl_b1_41_2, Ar_b1_41_2, q_b1_41_2, S_b1_41_2, N_b1_41_2, H_b1_41_2, G_b1_41_2⟩ := id V_b1
  have hin_b1_41_2 : ¬ ((0 : Int32) < 0 ∨ cl_b1_41_2.slots.size ≤ ((0 : Int32) : Int32).toNatClampNeg) := inb_of S_b1_41_2 ⟨by decide, by decide⟩
  obtain ⟨T3, h3, X3, e3, W3, st3⟩ := stB X1 hx hZ e1 Ar_b1_41_2 (j := (0 : Int32)) hin_b1_41_2 (g := (mkF m 41 #[.val (.int (3 : Int32)), .val (.int p1), .val (.int p2), .val (.int p3), .val (.int p4)] [(.int p1), (.int (0 : Int32)), (.ref b1), (.ref b1)])) rfl rfl (hb hby d3_41)
  have V_b1_41_2 : Arv Z h3 b1 k1 .byte (3 : Int32) [(.int (nar .byte p1)), (.int (0 : Int32)), (.int (0 : Int32))] (.int (0 : Int32)) := Arv.set Ar_b1_41_2 q_b1_41_2 S_b1_41_2 N_b1_41_2 H_b1_41_2 G_b1_41_2 (fits_nar_byte _) W3 0 rfl (Nat.le_of_ble_eq_true rfl)
  have K3 : Keep h0 h3 [] := K1.wr W3 (Or.inr sz_b1)
  have N3 := Fr.snoc X3 N0 g_b1
  obtain ⟨cl_b1_45_4, Ar_b1_45_4, q_b1_45_4, S_b1_45_4, N_b1_45_4, H_b1_45_4, G_b1_45_4⟩ := id V_b1_41_2
  have hin_b1_45_4 : ¬ ((1 : Int32) < 0 ∨ cl_b1_45_4.slots.size ≤ ((1 : Int32) : Int32).toNatClampNeg) := inb_of S_b1_45_4 ⟨by decide, by decide⟩
  obtain ⟨T5, h5, X5, e5, W5, st5⟩ := stB X3 hx hZ e3 Ar_b1_45_4 (j := (1 : Int32)) hin_b1_45_4 (g := (mkF m 45 #[.val (.int (3 : Int32)), .val (.int p1), .val (.int p2), .val (.int p3), .val (.int p4)] [(.int p2), (.int (1 : Int32)), (.ref b1), (.ref b1)])) rfl rfl (hb hby d3_45)
  have V_b1_45_4 : Arv Z h5 b1 k1 .byte (3 : Int32) [(.int (nar .byte p1)), (.int (nar .byte p2)), (.int (0 : Int32))] (.int (0 : Int32)) := Arv.set Ar_b1_45_4 q_b1_45_4 S_b1_45_4 N_b1_45_4 H_b1_45_4 G_b1_45_4 (fits_nar_byte _) W5 1 rfl (Nat.le_of_ble_eq_true rfl)
  have K5 : Keep h0 h5 [] := K3.wr W5 (Or.inr sz_b1)
  have N5 := Fr.snoc X5 N3 g_b1
  obtain ⟨cl_b1_49_6, Ar_b1_49_6, q_b1_49_6, S_b1_49_6, N_b1_49_6, H_b1_49_6, G_b1_49_6⟩ := id V_b1_45_4
  have hin_b1_49_6 : ¬ ((2 : Int32) < 0 ∨ cl_b1_49_6.slots.size ≤ ((2 : Int32) : Int32).toNatClampNeg) := inb_of S_b1_49_6 ⟨by decide, by decide⟩
  obtain ⟨T7, h7, X7, e7, W7, st7⟩ := stB X5 hx hZ e5 Ar_b1_49_6 (j := (2 : Int32)) hin_b1_49_6 (g := (mkF m 49 #[.val (.int (3 : Int32)), .val (.int p1), .val (.int p2), .val (.int p3), .val (.int p4)] [(.int p3), (.int (2 : Int32)), (.ref b1), (.ref b1)])) rfl rfl (hb hby d3_49)
  have V_b1_49_6 : Arv Z h7 b1 k1 .byte (3 : Int32) [(.int (nar .byte p1)), (.int (nar .byte p2)), (.int (nar .byte p3))] (.int (0 : Int32)) := Arv.set Ar_b1_49_6 q_b1_49_6 S_b1_49_6 N_b1_49_6 H_b1_49_6 G_b1_49_6 (fits_nar_byte _) W7 2 rfl (Nat.le_of_ble_eq_true rfl)
  have K7 : Keep h0 h7 [] := K5.wr W7 (Or.inr sz_b1)
  have N7 := Fr.snoc X7 N5 g_b1
  obtain ⟨fs, hr, hrun, hended, hW, hsame⟩ := X7.leave (v := some (.ref b1)) (fun h => by rw [Bd.returns] at h; cases h)
  refine ⟨_, _, pre0 _ ?_, hrun, hended, _, _, rfl, ?_, ⟨_, rfl⟩, hW, hsame.mono (by decide) (by decide)⟩
  · show Steps p.tables e below (s₁.setTop (mkF m 0 #[.val (.int (3 : Int32)), .val (.int p1), .val (.int p2), .val (.int p3), .val (.int p4)] [])) _
    refine XS.iloadN X0.here hx rfl (hb hby d3_0) rfl ?_
    refine XS.iconst X0.here hx rfl (hb hby d3_1) ?_
    refine XS.icmpYes X0.here hx rfl (pc0 := 2) (pc' := 13) rfl (hb hby d3_2) rfl (feq (by decide : ¬ ((3 : Int32) = (1 : Int32)))).2 (by decide) (by decide) ?_
    show Steps p.tables e below (s₁.setTop (mkF m 13 #[.val (.int (3 : Int32)), .val (.int p1), .val (.int p2), .val (.int p3), .val (.int p4)] [])) _
    refine XS.iloadN X0.here hx rfl (hb hby d3_13) rfl ?_
    refine XS.iconst X0.here hx rfl (hb hby d3_14) ?_
    refine XS.icmpYes X0.here hx rfl (pc0 := 15) (pc' := 30) rfl (hb hby d3_15) rfl (feq (by decide : ¬ ((3 : Int32) = (2 : Int32)))).2 (by decide) (by decide) ?_
    show Steps p.tables e below (s₁.setTop (mkF m 30 #[.val (.int (3 : Int32)), .val (.int p1), .val (.int p2), .val (.int p3), .val (.int p4)] [])) _
    refine XS.iloadN X0.here hx rfl (hb hby d3_30) rfl ?_
    refine XS.iconst X0.here hx rfl (hb hby d3_31) ?_
    refine XS.icmpNo X0.here hx rfl (hb hby d3_32) rfl (teq (by decide : (3 : Int32) = (3 : Int32))).2 ?_
    show Steps p.tables e below (s₁.setTop (mkF m 35 #[.val (.int (3 : Int32)), .val (.int p1), .val (.int p2), .val (.int p3), .val (.int p4)] [])) _
    refine XS.iconst X0.here hx rfl (hb hby d3_35) ?_
    show Steps p.tables e below (s₁.setTop (mkF m 36 #[.val (.int (3 : Int32)), .val (.int p1), .val (.int p2), .val (.int p3), .val (.int p4)] [(.int (3 : Int32))])) _
    refine st1 _ ?_
    show Steps p.tables e below (T1.setTop (mkF m 38 #[.val (.int (3 : Int32)), .val (.int p1), .val (.int p2), .val (.int p3), .val (.int p4)] [(.ref b1)])) _
    refine XS.dup X1.here hx rfl (hb hby d3_38) rfl rfl ?_
    refine XS.iconst X1.here hx rfl (hb hby d3_39) ?_
    show Steps p.tables e below (T1.setTop (mkF m 40 #[.val (.int (3 : Int32)), .val (.int p1), .val (.int p2), .val (.int p3), .val (.int p4)] [(.int (0 : Int32)), (.ref b1), (.ref b1)])) _
    refine XS.iloadN X1.here hx rfl (hb hby d3_40) rfl ?_
    show Steps p.tables e below (T1.setTop (mkF m 41 #[.val (.int (3 : Int32)), .val (.int p1), .val (.int p2), .val (.int p3), .val (.int p4)] [(.int p1), (.int (0 : Int32)), (.ref b1), (.ref b1)])) _
    refine st3 _ ?_
    show Steps p.tables e below (T3.setTop (mkF m 42 #[.val (.int (3 : Int32)), .val (.int p1), .val (.int p2), .val (.int p3), .val (.int p4)] [(.ref b1)])) _
    refine XS.dup X3.here hx rfl (hb hby d3_42) rfl rfl ?_
    refine XS.iconst X3.here hx rfl (hb hby d3_43) ?_
    show Steps p.tables e below (T3.setTop (mkF m 44 #[.val (.int (3 : Int32)), .val (.int p1), .val (.int p2), .val (.int p3), .val (.int p4)] [(.int (1 : Int32)), (.ref b1), (.ref b1)])) _
    refine XS.iloadN X3.here hx rfl (hb hby d3_44) rfl ?_
    show Steps p.tables e below (T3.setTop (mkF m 45 #[.val (.int (3 : Int32)), .val (.int p1), .val (.int p2), .val (.int p3), .val (.int p4)] [(.int p2), (.int (1 : Int32)), (.ref b1), (.ref b1)])) _
    refine st5 _ ?_
    show Steps p.tables e below (T5.setTop (mkF m 46 #[.val (.int (3 : Int32)), .val (.int p1), .val (.int p2), .val (.int p3), .val (.int p4)] [(.ref b1)])) _
    refine XS.dup X5.here hx rfl (hb hby d3_46) rfl rfl ?_
    refine XS.iconst X5.here hx rfl (hb hby d3_47) ?_
    show Steps p.tables e below (T5.setTop (mkF m 48 #[.val (.int (3 : Int32)), .val (.int p1), .val (.int p2), .val (.int p3), .val (.int p4)] [(.int (2 : Int32)), (.ref b1), (.ref b1)])) _
    refine XS.iloadN X5.here hx rfl (hb hby d3_48) rfl ?_
    show Steps p.tables e below (T5.setTop (mkF m 49 #[.val (.int (3 : Int32)), .val (.int p1), .val (.int p2), .val (.int p3), .val (.int p4)] [(.int p3), (.int (2 : Int32)), (.ref b1), (.ref b1)])) _
    refine st7 _ ?_
    show Steps p.tables e below (T7.setTop (mkF m 50 #[.val (.int (3 : Int32)), .val (.int p1), .val (.int p2), .val (.int p3), .val (.int p4)] [(.ref b1)])) _
    exact retOut X7 hx Bd.returns rfl (Or.inr (Or.inr (Or.inr (Or.inr ⟨rfl, rfl, rfl⟩)))) (hb hby d3_50) hr
  · show Q_make_3 Z p1 p2 p3 p4 h0 n0 _ T7.heap _
    rw [e7]
    exact ⟨b1, k1, rfl, N7, K7, sz_b1, V_b1_49_6, (((B1.wr W3).wr W5).wr W7)⟩
theorem d3_51 : decode method_3_code 51 = .ok (.iconst 4, 1) := by decide +kernel
theorem d3_52 : decode method_3_code 52 = .ok (.newarray .byte, 2) := by decide +kernel
theorem d3_54 : decode method_3_code 54 = .ok (.dup, 1) := by decide +kernel
theorem d3_55 : decode method_3_code 55 = .ok (.iconst 0, 1) := by decide +kernel
theorem d3_56 : decode method_3_code 56 = .ok (.iload_n 1, 1) := by decide +kernel
theorem d3_57 : decode method_3_code 57 = .ok (.bastore, 1) := by decide +kernel
theorem d3_58 : decode method_3_code 58 = .ok (.dup, 1) := by decide +kernel
theorem d3_59 : decode method_3_code 59 = .ok (.iconst 1, 1) := by decide +kernel
theorem d3_60 : decode method_3_code 60 = .ok (.iload_n 2, 1) := by decide +kernel
theorem d3_61 : decode method_3_code 61 = .ok (.bastore, 1) := by decide +kernel
theorem d3_62 : decode method_3_code 62 = .ok (.dup, 1) := by decide +kernel
theorem d3_63 : decode method_3_code 63 = .ok (.iconst 2, 1) := by decide +kernel
theorem d3_64 : decode method_3_code 64 = .ok (.iload_n 3, 1) := by decide +kernel
theorem d3_65 : decode method_3_code 65 = .ok (.bastore, 1) := by decide +kernel
theorem d3_66 : decode method_3_code 66 = .ok (.dup, 1) := by decide +kernel
theorem d3_67 : decode method_3_code 67 = .ok (.iconst 3, 1) := by decide +kernel
theorem d3_68 : decode method_3_code 68 = .ok (.iload 4, 2) := by decide +kernel
theorem d3_70 : decode method_3_code 70 = .ok (.bastore, 1) := by decide +kernel
theorem d3_71 : decode method_3_code 71 = .ok (.areturn, 1) := by decide +kernel
theorem ef_make_4 (m : MethodId) (p1 : Int32) (p2 : Int32) (p3 : Int32) (p4 : Int32) : entryFrame m #[(.int (4 : Int32)), (.int p1), (.int p2), (.int p3), (.int p4)] 5 = (mkF m 0 #[.val (.int (4 : Int32)), .val (.int p1), .val (.int p2), .val (.int p3), .val (.int p4)] []) := by first | (simp [entryFrame, mkF, argsToLocals, Value.category]; done) | rfl
def Q_make_4 (Z : State) (p1 : Int32) (p2 : Int32) (p3 : Int32) (p4 : Int32) (h0 : Heap) (n0 : Nat) (v : Option Value) (h : Heap) (L : List Loc) : Prop := ∃ (b1 : Addr) (k1 : ClassId), v = some (.ref b1) ∧ Fr n0 L ∧ Keep h0 h [] ∧ h0.size ≤ b1 ∧ Arv Z h b1 k1 .byte (4 : Int32) [(.int (nar .byte p1)), (.int (nar .byte p2)), (.int (nar .byte p3)), (.int (nar .byte p4))] (.int (0 : Int32)) ∧ Exa Z h b1 "[B"
set_option maxRecDepth 65536 in
set_option maxHeartbeats 40000000 in
theorem rm_make_4 (l : Launch) (Z : State) (a0 : Array Value) (hw : ∀ d ∈ tables_1, d.before a0 Z = true) (ws : List Jvm.Cond) (p1 : Int32) (p2 : Int32) (p3 : Int32) (p4 : Int32) (h0 : Heap) (n0 : Nat) (Z0 : n0 ≤ h0.size) :
    MetFree l (⟨"com/example/elliott_bay/elliottbay/store/KeysEndPinLaw", "make", "(IBBBB)[B"⟩ : MethodName) (head1 (Jvm.Cond.code (⟨"com/example/elliott_bay/elliottbay/store/KeysEndPinLaw", "make", "(IBBBB)[B"⟩ : MethodName) method_3_code 5 (some (.array .byte)) :: ws) ({ frames := 0, cells := 1, slots := 4, locals := 0 } : Room)) (fun a U => a = #[(.int (4 : Int32)), (.int p1), (.int p2), (.int p3), (.int p4)] ∧ Z.Warmed39 U.vm ∧ U.heap = h0) (fun _ _ _ _ _ => True) (fun _ U o U' => ∃ v L, o = .returned v ∧ Q_make_4 Z p1 p2 p3 p4 h0 n0 v U'.heap L ∧ FrameEnd U o U' L ({ frames := 0, cells := 1, slots := 4, locals := 0 } : Room).cells ({ frames := 0, cells := 1, slots := 4, locals := 0 } : Room).slots) := by
  refine MetFree.of_bodySF (plainFor_of_name pn0) hisR ?_
  intro p e s m args below meth c s₁ Bd hml0 hP hK
  obtain ⟨rfl, hZ, hh⟩ := hP
  have hx := Bd.exec
  have hby := Bd.bytes
  have hml : c.maxLocals = 5 := hml0
  have hown : s.vm.findClass "com/example/elliott_bay/elliottbay/store/KeysEndPinLaw" = some m.cls := findClass_of_methodNamed Bd.named
  have hnm := (name_of_methodNamed Bd.named Bd.method).1
  have X0 : Stand p l e ({ frames := 0, cells := 1, slots := 4, locals := 0 } : Room) s m #[(.int (4 : Int32)), (.int p1), (.int p2), (.int p3), (.int p4)] below meth c s₁ [] 0 0 := Stand.of_body Bd
  have e0 : s₁.heap = h0 := by rw [← hh, Bd.state]; rfl
  have N0 := Fr.nil n0
  have pre0 : ∀ t, Steps p.tables e below (s₁.setTop (mkF m 0 #[.val (.int (4 : Int32)), .val (.int p1), .val (.int p2), .val (.int p3), .val (.int p4)] [])) t → Steps p.tables e below (s₁.setTop (entryFrame m #[(.int (4 : Int32)), (.int p1), (.int p2), (.int p3), (.int p4)] 5)) t := fun t k => castTop (ef_make_4 m p1 p2 p3 p4) k
  obtain ⟨T1, h1, k1, X1, e1, E1, A1, B1, st1⟩ := newPE X0 hx hZ (hw _ (List.mem_of_getElem? (i := 10) rfl)) e0 (g := (mkF m 52 #[.val (.int (4 : Int32)), .val (.int p1), .val (.int p2), .val (.int p3), .val (.int p4)] [(.int (4 : Int32))])) rfl (hb hby d3_52) rfl (by decide) (cap := 4) (by decide) (by decide) (by decide) (by decide) (ad := "[B") (by decide)
  obtain ⟨b1, g1⟩ : ∃ z, z = h0.size := ⟨_, rfl⟩
  rw [← g1] at A1 B1 st1
  have sz_b1 : h0.size ≤ b1 := Nat.le_trans (Keep.refl h0 []).1 (Nat.le_of_eq g1.symm)
  have g_b1 : n0 ≤ b1 := Nat.le_trans Z0 sz_b1
  have K1 : Keep h0 h1 [] := (Keep.refl h0 []).ext E1
  have V_b1 : Arv Z h1 b1 k1 .byte (4 : Int32) [(.int (0 : Int32)), (.int (0 : Int32)), (.int (0 : Int32)), (.int (0 : Int32))] (.int (0 : Int32)) := (Arv.new A1 (by decide)).pad (pad_rep [] (.int (0 : Int32)) 4)
  obtain ⟨cl_b1_57_2, Ar_b1_57_2, q_b1_57_2, S_b1_57_2, N_b1_57_2, H_b1_57_2, G_b1_57_2⟩ := id V_b1
  have hin_b1_57_2 : ¬ ((0 : Int32) < 0 ∨ cl_b1_57_2.slots.size ≤ ((0 : Int32) : Int32).toNatClampNeg) := inb_of S_b1_57_2 ⟨by decide, by decide⟩
  obtain ⟨T3, h3, X3, e3, W3, st3⟩ := stB X1 hx hZ e1 Ar_b1_57_2 (j := (0 : Int32)) hin_b1_57_2 (g := (mkF m 57 #[.val (.int (4 : Int32)), .val (.int p1), .val (.int p2), .val (.int p3), .val (.int p4)] [(.int p1), (.int (0 : Int32)), (.ref b1), (.ref b1)])) rfl rfl (hb hby d3_57)
  have V_b1_57_2 : Arv Z h3 b1 k1 .byte (4 : Int32) [(.int (nar .byte p1)), (.int (0 : Int32)), (.int (0 : Int32)), (.int (0 : Int32))] (.int (0 : Int32)) := Arv.set Ar_b1_57_2 q_b1_57_2 S_b1_57_2 N_b1_57_2 H_b1_57_2 G_b1_57_2 (fits_nar_byte _) W3 0 rfl (Nat.le_of_ble_eq_true rfl)
  have K3 : Keep h0 h3 [] := K1.wr W3 (Or.inr sz_b1)
  have N3 := Fr.snoc X3 N0 g_b1
  obtain ⟨cl_b1_61_4, Ar_b1_61_4, q_b1_61_4, S_b1_61_4, N_b1_61_4, H_b1_61_4, G_b1_61_4⟩ := id V_b1_57_2
  have hin_b1_61_4 : ¬ ((1 : Int32) < 0 ∨ cl_b1_61_4.slots.size ≤ ((1 : Int32) : Int32).toNatClampNeg) := inb_of S_b1_61_4 ⟨by decide, by decide⟩
  obtain ⟨T5, h5, X5, e5, W5, st5⟩ := stB X3 hx hZ e3 Ar_b1_61_4 (j := (1 : Int32)) hin_b1_61_4 (g := (mkF m 61 #[.val (.int (4 : Int32)), .val (.int p1), .val (.int p2), .val (.int p3), .val (.int p4)] [(.int p2), (.int (1 : Int32)), (.ref b1), (.ref b1)])) rfl rfl (hb hby d3_61)
  have V_b1_61_4 : Arv Z h5 b1 k1 .byte (4 : Int32) [(.int (nar .byte p1)), (.int (nar .byte p2)), (.int (0 : Int32)), (.int (0 : Int32))] (.int (0 : Int32)) := Arv.set Ar_b1_61_4 q_b1_61_4 S_b1_61_4 N_b1_61_4 H_b1_61_4 G_b1_61_4 (fits_nar_byte _) W5 1 rfl (Nat.le_of_ble_eq_true rfl)
  have K5 : Keep h0 h5 [] := K3.wr W5 (Or.inr sz_b1)
  have N5 := Fr.snoc X5 N3 g_b1
  obtain ⟨cl_b1_65_6, Ar_b1_65_6, q_b1_65_6, S_b1_65_6, N_b1_65_6, H_b1_65_6, G_b1_65_6⟩ := id V_b1_61_4
  have hin_b1_65_6 : ¬ ((2 : Int32) < 0 ∨ cl_b1_65_6.slots.size ≤ ((2 : Int32) : Int32).toNatClampNeg) := inb_of S_b1_65_6 ⟨by decide, by decide⟩
  obtain ⟨T7, h7, X7, e7, W7, st7⟩ := stB X5 hx hZ e5 Ar_b1_65_6 (j := (2 : Int32)) hin_b1_65_6 (g := (mkF m 65 #[.val (.int (4 : Int32)), .val (.int p1), .val (.int p2), .val (.int p3), .val (.int p4)] [(.int p3), (.int (2 : Int32)), (.ref b1), (.ref b1)])) rfl rfl (hb hby d3_65)
  have V_b1_65_6 : Arv Z h7 b1 k1 .byte (4 : Int32) [(.int (nar .byte p1)), (.int (nar .byte p2)), (.int (nar .byte p3)), (.int (0 : Int32))] (.int (0 : Int32)) := Arv.set Ar_b1_65_6 q_b1_65_6 S_b1_65_6 N_b1_65_6 H_b1_65_6 G_b1_65_6 (fits_nar_byte _) W7 2 rfl (Nat.le_of_ble_eq_true rfl)
  have K7 : Keep h0 h7 [] := K5.wr W7 (Or.inr sz_b1)
  have N7 := Fr.snoc X7 N5 g_b1
  obtain ⟨cl_b1_70_8, Ar_b1_70_8, q_b1_70_8, S_b1_70_8, N_b1_70_8, H_b1_70_8, G_b1_70_8⟩ := id V_b1_65_6
  have hin_b1_70_8 : ¬ ((3 : Int32) < 0 ∨ cl_b1_70_8.slots.size ≤ ((3 : Int32) : Int32).toNatClampNeg) := inb_of S_b1_70_8 ⟨by decide, by decide⟩
  obtain ⟨T9, h9, X9, e9, W9, st9⟩ := stB X7 hx hZ e7 Ar_b1_70_8 (j := (3 : Int32)) hin_b1_70_8 (g := (mkF m 70 #[.val (.int (4 : Int32)), .val (.int p1), .val (.int p2), .val (.int p3), .val (.int p4)] [(.int p4), (.int (3 : Int32)), (.ref b1), (.ref b1)])) rfl rfl (hb hby d3_70)
  have V_b1_70_8 : Arv Z h9 b1 k1 .byte (4 : Int32) [(.int (nar .byte p1)), (.int (nar .byte p2)), (.int (nar .byte p3)), (.int (nar .byte p4))] (.int (0 : Int32)) := Arv.set Ar_b1_70_8 q_b1_70_8 S_b1_70_8 N_b1_70_8 H_b1_70_8 G_b1_70_8 (fits_nar_byte _) W9 3 rfl (Nat.le_of_ble_eq_true rfl)
  have K9 : Keep h0 h9 [] := K7.wr W9 (Or.inr sz_b1)
  have N9 := Fr.snoc X9 N7 g_b1
  obtain ⟨fs, hr, hrun, hended, hW, hsame⟩ := X9.leave (v := some (.ref b1)) (fun h => by rw [Bd.returns] at h; cases h)
  refine ⟨_, _, pre0 _ ?_, hrun, hended, _, _, rfl, ?_, ⟨_, rfl⟩, hW, hsame.mono (by decide) (by decide)⟩
  · show Steps p.tables e below (s₁.setTop (mkF m 0 #[.val (.int (4 : Int32)), .val (.int p1), .val (.int p2), .val (.int p3), .val (.int p4)] [])) _
    refine XS.iloadN X0.here hx rfl (hb hby d3_0) rfl ?_
    refine XS.iconst X0.here hx rfl (hb hby d3_1) ?_
    refine XS.icmpYes X0.here hx rfl (pc0 := 2) (pc' := 13) rfl (hb hby d3_2) rfl (feq (by decide : ¬ ((4 : Int32) = (1 : Int32)))).2 (by decide) (by decide) ?_
    show Steps p.tables e below (s₁.setTop (mkF m 13 #[.val (.int (4 : Int32)), .val (.int p1), .val (.int p2), .val (.int p3), .val (.int p4)] [])) _
    refine XS.iloadN X0.here hx rfl (hb hby d3_13) rfl ?_
    refine XS.iconst X0.here hx rfl (hb hby d3_14) ?_
    refine XS.icmpYes X0.here hx rfl (pc0 := 15) (pc' := 30) rfl (hb hby d3_15) rfl (feq (by decide : ¬ ((4 : Int32) = (2 : Int32)))).2 (by decide) (by decide) ?_
    show Steps p.tables e below (s₁.setTop (mkF m 30 #[.val (.int (4 : Int32)), .val (.int p1), .val (.int p2), .val (.int p3), .val (.int p4)] [])) _
    refine XS.iloadN X0.here hx rfl (hb hby d3_30) rfl ?_
    refine XS.iconst X0.here hx rfl (hb hby d3_31) ?_
    refine XS.icmpYes X0.here hx rfl (pc0 := 32) (pc' := 51) rfl (hb hby d3_32) rfl (feq (by decide : ¬ ((4 : Int32) = (3 : Int32)))).2 (by decide) (by decide) ?_
    show Steps p.tables e below (s₁.setTop (mkF m 51 #[.val (.int (4 : Int32)), .val (.int p1), .val (.int p2), .val (.int p3), .val (.int p4)] [])) _
    refine XS.iconst X0.here hx rfl (hb hby d3_51) ?_
    show Steps p.tables e below (s₁.setTop (mkF m 52 #[.val (.int (4 : Int32)), .val (.int p1), .val (.int p2), .val (.int p3), .val (.int p4)] [(.int (4 : Int32))])) _
    refine st1 _ ?_
    show Steps p.tables e below (T1.setTop (mkF m 54 #[.val (.int (4 : Int32)), .val (.int p1), .val (.int p2), .val (.int p3), .val (.int p4)] [(.ref b1)])) _
    refine XS.dup X1.here hx rfl (hb hby d3_54) rfl rfl ?_
    refine XS.iconst X1.here hx rfl (hb hby d3_55) ?_
    show Steps p.tables e below (T1.setTop (mkF m 56 #[.val (.int (4 : Int32)), .val (.int p1), .val (.int p2), .val (.int p3), .val (.int p4)] [(.int (0 : Int32)), (.ref b1), (.ref b1)])) _
    refine XS.iloadN X1.here hx rfl (hb hby d3_56) rfl ?_
    show Steps p.tables e below (T1.setTop (mkF m 57 #[.val (.int (4 : Int32)), .val (.int p1), .val (.int p2), .val (.int p3), .val (.int p4)] [(.int p1), (.int (0 : Int32)), (.ref b1), (.ref b1)])) _
    refine st3 _ ?_
    show Steps p.tables e below (T3.setTop (mkF m 58 #[.val (.int (4 : Int32)), .val (.int p1), .val (.int p2), .val (.int p3), .val (.int p4)] [(.ref b1)])) _
    refine XS.dup X3.here hx rfl (hb hby d3_58) rfl rfl ?_
    refine XS.iconst X3.here hx rfl (hb hby d3_59) ?_
    show Steps p.tables e below (T3.setTop (mkF m 60 #[.val (.int (4 : Int32)), .val (.int p1), .val (.int p2), .val (.int p3), .val (.int p4)] [(.int (1 : Int32)), (.ref b1), (.ref b1)])) _
    refine XS.iloadN X3.here hx rfl (hb hby d3_60) rfl ?_
    show Steps p.tables e below (T3.setTop (mkF m 61 #[.val (.int (4 : Int32)), .val (.int p1), .val (.int p2), .val (.int p3), .val (.int p4)] [(.int p2), (.int (1 : Int32)), (.ref b1), (.ref b1)])) _
    refine st5 _ ?_
    show Steps p.tables e below (T5.setTop (mkF m 62 #[.val (.int (4 : Int32)), .val (.int p1), .val (.int p2), .val (.int p3), .val (.int p4)] [(.ref b1)])) _
    refine XS.dup X5.here hx rfl (hb hby d3_62) rfl rfl ?_
    refine XS.iconst X5.here hx rfl (hb hby d3_63) ?_
    show Steps p.tables e below (T5.setTop (mkF m 64 #[.val (.int (4 : Int32)), .val (.int p1), .val (.int p2), .val (.int p3), .val (.int p4)] [(.int (2 : Int32)), (.ref b1), (.ref b1)])) _
    refine XS.iloadN X5.here hx rfl (hb hby d3_64) rfl ?_
    show Steps p.tables e below (T5.setTop (mkF m 65 #[.val (.int (4 : Int32)), .val (.int p1), .val (.int p2), .val (.int p3), .val (.int p4)] [(.int p3), (.int (2 : Int32)), (.ref b1), (.ref b1)])) _
    refine st7 _ ?_
    show Steps p.tables e below (T7.setTop (mkF m 66 #[.val (.int (4 : Int32)), .val (.int p1), .val (.int p2), .val (.int p3), .val (.int p4)] [(.ref b1)])) _
    refine XS.dup X7.here hx rfl (hb hby d3_66) rfl rfl ?_
    refine XS.iconst X7.here hx rfl (hb hby d3_67) ?_
    show Steps p.tables e below (T7.setTop (mkF m 68 #[.val (.int (4 : Int32)), .val (.int p1), .val (.int p2), .val (.int p3), .val (.int p4)] [(.int (3 : Int32)), (.ref b1), (.ref b1)])) _
    refine XS.iload X7.here hx rfl (hb hby d3_68) rfl ?_
    show Steps p.tables e below (T7.setTop (mkF m 70 #[.val (.int (4 : Int32)), .val (.int p1), .val (.int p2), .val (.int p3), .val (.int p4)] [(.int p4), (.int (3 : Int32)), (.ref b1), (.ref b1)])) _
    refine st9 _ ?_
    show Steps p.tables e below (T9.setTop (mkF m 71 #[.val (.int (4 : Int32)), .val (.int p1), .val (.int p2), .val (.int p3), .val (.int p4)] [(.ref b1)])) _
    exact retOut X9 hx Bd.returns rfl (Or.inr (Or.inr (Or.inr (Or.inr ⟨rfl, rfl, rfl⟩)))) (hb hby d3_71) hr
  · show Q_make_4 Z p1 p2 p3 p4 h0 n0 _ T9.heap _
    rw [e9]
    exact ⟨b1, k1, rfl, N9, K9, sz_b1, V_b1_70_8, ((((B1.wr W3).wr W5).wr W7).wr W9)⟩
theorem d5_0 : decode jdk_65_method_121_code 0 = .ok (.iload_n 1, 1) := by decide +kernel
theorem d5_1 : decode jdk_65_method_121_code 1 = .ok (.aload_n 0, 1) := by decide +kernel
theorem d5_2 : decode jdk_65_method_121_code 2 = .ok (.arraylength, 1) := by decide +kernel
theorem d5_3 : decode jdk_65_method_121_code 3 = .ok (.if_icmp .ne 11, 3) := by decide +kernel
theorem d5_6 : decode jdk_65_method_121_code 6 = .ok (.aload_n 0, 1) := by decide +kernel
theorem d5_7 : decode jdk_65_method_121_code 7 = .ok (.invokevirtual 310, 3) := by decide +kernel
theorem d5_10 : decode jdk_65_method_121_code 10 = .ok (.checkcast 311, 3) := by decide +kernel
theorem d5_13 : decode jdk_65_method_121_code 13 = .ok (.areturn, 1) := by decide +kernel
theorem pn1 : plainName "java/util/Arrays" = true := by first | (simp [plainName, overriddenIn]; done) | decide +kernel
theorem ef_copy_1_1 (m : MethodId) (a1 : Addr) : entryFrame m #[(.ref a1), (.int (1 : Int32))] 3 = (mkF m 0 #[.val (.ref a1), .val (.int (1 : Int32)), .unset] []) := by first | (simp [entryFrame, mkF, argsToLocals, Value.category]; done) | rfl
def Q_copy_1_1 (Z : State) (a1 : Addr) (ka : ClassId) (x0 : Int32) (h0 : Heap) (n0 : Nat) (v : Option Value) (h : Heap) (L : List Loc) : Prop := ∃ (b2 : Addr), v = some (.ref b2) ∧ Fr n0 L ∧ Keep h0 h [] ∧ h0.size ≤ b2 ∧ Arv Z h b2 ka .byte (1 : Int32) [(.int x0)] (.int (0 : Int32)) ∧ Exa Z h b2 "[B"
set_option maxRecDepth 65536 in
set_option maxHeartbeats 40000000 in
theorem rm_copy_1_1 (l : Launch) (Z : State) (a0 : Array Value) (hw : ∀ d ∈ tables_1, d.before a0 Z = true) (ws : List Jvm.Cond) (a1 : Addr) (ka : ClassId) (x0 : Int32) (h0 : Heap) (n0 : Nat) (Z0 : n0 ≤ h0.size) (V_a1 : Arv Z h0 a1 ka .byte (1 : Int32) [(.int x0)] (.int (0 : Int32))) (E_a1 : Exa Z h0 a1 "[B") :
    MetFree l (⟨"java/util/Arrays", "copyOf", "([BI)[B"⟩ : MethodName) (head1 (Jvm.Cond.code (⟨"java/util/Arrays", "copyOf", "([BI)[B"⟩ : MethodName) jdk_65_method_121_code 3 (some (.array .byte)) :: ws) ({ frames := 1, cells := 1, slots := 1, locals := 14 } : Room)) (fun a U => a = #[(.ref a1), (.int (1 : Int32))] ∧ Z.Warmed39 U.vm ∧ U.heap = h0) (fun _ _ _ _ _ => True) (fun _ U o U' => ∃ v L, o = .returned v ∧ Q_copy_1_1 Z a1 ka x0 h0 n0 v U'.heap L ∧ FrameEnd U o U' L ({ frames := 1, cells := 1, slots := 1, locals := 14 } : Room).cells ({ frames := 1, cells := 1, slots := 1, locals := 14 } : Room).slots) := by
  refine MetFree.of_bodySF (plainFor_of_name pn1) hisR ?_
  intro p e s m args below meth c s₁ Bd hml0 hP hK
  obtain ⟨rfl, hZ, hh⟩ := hP
  have hx := Bd.exec
  have hby := Bd.bytes
  have hml : c.maxLocals = 3 := hml0
  have hown : s.vm.findClass "java/util/Arrays" = some m.cls := findClass_of_methodNamed Bd.named
  have hnm := (name_of_methodNamed Bd.named Bd.method).1
  have X0 : Stand p l e ({ frames := 1, cells := 1, slots := 1, locals := 14 } : Room) s m #[(.ref a1), (.int (1 : Int32))] below meth c s₁ [] 0 0 := Stand.of_body Bd
  have e0 : s₁.heap = h0 := by rw [← hh, Bd.state]; rfl
  have N0 := Fr.nil n0
  have pre0 : ∀ t, Steps p.tables e below (s₁.setTop (mkF m 0 #[.val (.ref a1), .val (.int (1 : Int32)), .unset] [])) t → Steps p.tables e below (s₁.setTop (entryFrame m #[(.ref a1), (.int (1 : Int32))] 3)) t := fun t k => castTop (ef_copy_1_1 m a1) k
  obtain ⟨cl_a1_2_1, Ar_a1_2_1, -, S_a1_2_1, N_a1_2_1, -, -⟩ := id V_a1
  obtain ⟨T2, h2, X2, e2, E2, A2, B2, st2⟩ := cloneH X0 hx hZ hown (hw _ (List.mem_of_getElem? (i := 19) rfl)) (hw _ (List.mem_of_getElem? (i := 20) rfl)) (hw _ (List.mem_of_getElem? (i := 24) rfl)) (hw _ (List.mem_of_getElem? (i := 22) rfl)) (hw _ (List.mem_of_getElem? (i := 23) rfl)) (hw _ (List.mem_of_getElem? (i := 25) rfl)) e0 (V_a1).arh E_a1 (g := (mkF m 7 #[.val (.ref a1), .val (.int (1 : Int32)), .unset] [(.ref a1)])) rfl (by rw [hml]; rfl) rfl (hb hby d5_7) (by decide) (W := 0) (cap := 1) (by show 2 * 0 + _ ≤ _; exact Nat.le_of_eq rfl) (by decide) (by decide) (by decide) (by decide)
  obtain ⟨b2, g2⟩ : ∃ z, z = h0.size := ⟨_, rfl⟩
  rw [← g2] at A2 B2 st2
  have sz_b2 : h0.size ≤ b2 := Nat.le_trans (Keep.refl h0 []).1 (Nat.le_of_eq g2.symm)
  have g_b2 : n0 ≤ b2 := Nat.le_trans Z0 sz_b2
  have K2 : Keep h0 h2 [] := (Keep.refl h0 []).ext E2
  have V_b2 := own_arv A2
  obtain ⟨T3, X3, e3, st3⟩ := castY X2 hx hZ hown (hw _ (List.mem_of_getElem? (i := 26) rfl)) e2 (Ins.self B2) (g := (mkF m 10 #[.val (.ref a1), .val (.int (1 : Int32)), .unset] [(.ref b2)])) rfl rfl (hb hby d5_10)
  obtain ⟨fs, hr, hrun, hended, hW, hsame⟩ := X3.leave (v := some (.ref b2)) (fun h => by rw [Bd.returns] at h; cases h)
  refine ⟨_, _, pre0 _ ?_, hrun, hended, _, _, rfl, ?_, ⟨_, rfl⟩, hW, hsame.mono (by decide) (by decide)⟩
  · show Steps p.tables e below (s₁.setTop (mkF m 0 #[.val (.ref a1), .val (.int (1 : Int32)), .unset] [])) _
    refine XS.iloadN X0.here hx rfl (hb hby d5_0) rfl ?_
    refine XS.aloadN X0.here hx rfl (hb hby d5_1) rfl rfl ?_
    refine X0.arraylength hx (by rw [e0]; exact Ar_a1_2_1.1) (State.isArrayOf_alike hZ.alike Ar_a1_2_1.2.1) (g := (mkF m 2 #[.val (.ref a1), .val (.int (1 : Int32)), .unset] [(.ref a1), (.int (1 : Int32))])) rfl rfl (hb hby d5_2) _ ?_
    rw [len_of S_a1_2_1 N_a1_2_1]
    show Steps p.tables e below (s₁.setTop (mkF m 3 #[.val (.ref a1), .val (.int (1 : Int32)), .unset] [(.int (1 : Int32)), (.int (1 : Int32))])) _
    refine XS.icmpNo X0.here hx rfl (hb hby d5_3) rfl (teq (by decide : (1 : Int32) = (1 : Int32))).2 ?_
    refine XS.aloadN X0.here hx rfl (hb hby d5_6) rfl rfl ?_
    show Steps p.tables e below (s₁.setTop (mkF m 7 #[.val (.ref a1), .val (.int (1 : Int32)), .unset] [(.ref a1)])) _
    refine st2 _ ?_
    show Steps p.tables e below (T2.setTop (mkF m 10 #[.val (.ref a1), .val (.int (1 : Int32)), .unset] [(.ref b2)])) _
    refine st3 _ ?_
    show Steps p.tables e below (T3.setTop (mkF m 13 #[.val (.ref a1), .val (.int (1 : Int32)), .unset] [(.ref b2)])) _
    exact retOut X3 hx Bd.returns rfl (Or.inr (Or.inr (Or.inr (Or.inr ⟨rfl, rfl, rfl⟩)))) (hb hby d5_13) hr
  · show Q_copy_1_1 Z a1 ka x0 h0 n0 _ T3.heap _
    rw [e3]
    exact ⟨b2, rfl, N0, K2, sz_b2, V_b2, B2⟩
theorem d5_14 : decode jdk_65_method_121_code 14 = .ok (.iload_n 1, 1) := by decide +kernel
theorem d5_15 : decode jdk_65_method_121_code 15 = .ok (.newarray .byte, 2) := by decide +kernel
theorem d5_17 : decode jdk_65_method_121_code 17 = .ok (.astore_n 2, 1) := by decide +kernel
theorem d5_18 : decode jdk_65_method_121_code 18 = .ok (.aload_n 0, 1) := by decide +kernel
theorem d5_19 : decode jdk_65_method_121_code 19 = .ok (.iconst 0, 1) := by decide +kernel
theorem d5_20 : decode jdk_65_method_121_code 20 = .ok (.aload_n 2, 1) := by decide +kernel
theorem d5_21 : decode jdk_65_method_121_code 21 = .ok (.iconst 0, 1) := by decide +kernel
theorem d5_22 : decode jdk_65_method_121_code 22 = .ok (.aload_n 0, 1) := by decide +kernel
theorem d5_23 : decode jdk_65_method_121_code 23 = .ok (.arraylength, 1) := by decide +kernel
theorem d5_24 : decode jdk_65_method_121_code 24 = .ok (.iload_n 1, 1) := by decide +kernel
theorem d5_25 : decode jdk_65_method_121_code 25 = .ok (.invokestatic 304, 3) := by decide +kernel
theorem d5_28 : decode jdk_65_method_121_code 28 = .ok (.invokestatic 150, 3) := by decide +kernel
theorem d5_31 : decode jdk_65_method_121_code 31 = .ok (.aload_n 2, 1) := by decide +kernel
theorem d5_32 : decode jdk_65_method_121_code 32 = .ok (.areturn, 1) := by decide +kernel
theorem pd0 : parseMethodDescriptor "(II)I" = some ⟨[.int, .int], some .int⟩ := by decide +kernel
theorem ef_copy_2_1 (m : MethodId) (a1 : Addr) : entryFrame m #[(.ref a1), (.int (1 : Int32))] 3 = (mkF m 0 #[.val (.ref a1), .val (.int (1 : Int32)), .unset] []) := by first | (simp [entryFrame, mkF, argsToLocals, Value.category]; done) | rfl
def Q_copy_2_1 (Z : State) (a1 : Addr) (ka : ClassId) (x0 : Int32) (x1 : Int32) (h0 : Heap) (n0 : Nat) (v : Option Value) (h : Heap) (L : List Loc) : Prop := ∃ (b2 : Addr) (k2 : ClassId), v = some (.ref b2) ∧ Fr n0 L ∧ Keep h0 h [] ∧ h0.size ≤ b2 ∧ Arv Z h b2 k2 .byte (1 : Int32) [(.int x0)] (.int (0 : Int32))
set_option maxRecDepth 65536 in
set_option maxHeartbeats 40000000 in
theorem rm_copy_2_1 (l : Launch) (Z : State) (a0 : Array Value) (hw : ∀ d ∈ tables_1, d.before a0 Z = true) (ws : List Jvm.Cond) (a1 : Addr) (ka : ClassId) (x0 : Int32) (x1 : Int32) (h0 : Heap) (n0 : Nat) (Z0 : n0 ≤ h0.size) (V_a1 : Arv Z h0 a1 ka .byte (2 : Int32) [(.int x0), (.int x1)] (.int (0 : Int32))) (E_a1 : Exa Z h0 a1 "[B") :
    MetFree l (⟨"java/util/Arrays", "copyOf", "([BI)[B"⟩ : MethodName) (head1 (Jvm.Cond.code (⟨"java/util/Arrays", "copyOf", "([BI)[B"⟩ : MethodName) jdk_65_method_121_code 3 (some (.array .byte)) :: ws) ({ frames := 1, cells := 1, slots := 1, locals := 18 } : Room)) (fun a U => a = #[(.ref a1), (.int (1 : Int32))] ∧ Z.Warmed39 U.vm ∧ U.heap = h0) (fun _ _ _ _ _ => True) (fun _ U o U' => ∃ v L, o = .returned v ∧ Q_copy_2_1 Z a1 ka x0 x1 h0 n0 v U'.heap L ∧ FrameEnd U o U' L ({ frames := 1, cells := 1, slots := 1, locals := 18 } : Room).cells ({ frames := 1, cells := 1, slots := 1, locals := 18 } : Room).slots) := by
  refine MetFree.of_bodySF (plainFor_of_name pn1) hisR ?_
  intro p e s m args below meth c s₁ Bd hml0 hP hK
  obtain ⟨rfl, hZ, hh⟩ := hP
  have hx := Bd.exec
  have hby := Bd.bytes
  have hml : c.maxLocals = 3 := hml0
  have hown : s.vm.findClass "java/util/Arrays" = some m.cls := findClass_of_methodNamed Bd.named
  have hnm := (name_of_methodNamed Bd.named Bd.method).1
  have X0 : Stand p l e ({ frames := 1, cells := 1, slots := 1, locals := 18 } : Room) s m #[(.ref a1), (.int (1 : Int32))] below meth c s₁ [] 0 0 := Stand.of_body Bd
  have e0 : s₁.heap = h0 := by rw [← hh, Bd.state]; rfl
  have N0 := Fr.nil n0
  have pre0 : ∀ t, Steps p.tables e below (s₁.setTop (mkF m 0 #[.val (.ref a1), .val (.int (1 : Int32)), .unset] [])) t → Steps p.tables e below (s₁.setTop (entryFrame m #[(.ref a1), (.int (1 : Int32))] 3)) t := fun t k => castTop (ef_copy_2_1 m a1) k
  obtain ⟨cl_a1_2_1, Ar_a1_2_1, -, S_a1_2_1, N_a1_2_1, -, -⟩ := id V_a1
  obtain ⟨T2, h2, k2, X2, e2, E2, A2, st2⟩ := newP X0 hx hZ (hw _ (List.mem_of_getElem? (i := 10) rfl)) e0 (g := (mkF m 15 #[.val (.ref a1), .val (.int (1 : Int32)), .unset] [(.int (1 : Int32))])) rfl (hb hby d5_15) rfl (by decide) (cap := 1) (by decide) (by decide) (by decide) (by decide)
  obtain ⟨b2, g2⟩ : ∃ z, z = h0.size := ⟨_, rfl⟩
  rw [← g2] at A2 st2
  have sz_b2 : h0.size ≤ b2 := Nat.le_trans (Keep.refl h0 []).1 (Nat.le_of_eq g2.symm)
  have g_b2 : n0 ≤ b2 := Nat.le_trans Z0 sz_b2
  have K2 : Keep h0 h2 [] := (Keep.refl h0 []).ext E2
  have V_b2 : Arv Z h2 b2 k2 .byte (1 : Int32) [(.int (0 : Int32))] (.int (0 : Int32)) := (Arv.new A2 (by decide)).pad (pad_rep [] (.int (0 : Int32)) 1)
  obtain ⟨cl_a1_23_3, Ar_a1_23_3, -, S_a1_23_3, N_a1_23_3, -, -⟩ := id (V_a1.ext E2)
  obtain ⟨_, _, ⟨T4, L4, k4, n4⟩, -, X4, ⟨Lc4, hQ4, l4, y4, z4⟩, st4⟩ := Jvm.LawKit.callS X2 hx (y := (⟨"java/lang/Math", "min", "(II)I"⟩ : MethodName)) hown (mvT hZ (hw _ (List.mem_of_getElem? (i := 28) rfl))) (mvT hZ (hw _ (List.mem_of_getElem? (i := 29) rfl))) (mvT hZ (hw _ (List.mem_of_getElem? (i := 30) rfl))) (mvT hZ (hw _ (List.mem_of_getElem? (i := 31) rfl))) (by decide) (backOf (W := 4) (rm6 l Z a0 hw [] (2 : Int32) (1 : Int32)  h2 n0 (Nat.le_trans Z0 K2.1)  ) hZ (hw _ (List.mem_of_getElem? (i := 31) rfl)) (hw _ (List.mem_of_getElem? (i := 30) rfl)) (by decide) (by decide)) (g := (mkF m 25 #[.val (.ref a1), .val (.int (1 : Int32)), .val (.ref b2)] [(.int (1 : Int32)), (.int (2 : Int32)), (.int (0 : Int32)), (.ref b2), (.int (0 : Int32)), (.ref a1)])) rfl (by rw [hml]; rfl) (argsL := [(.int (2 : Int32)), (.int (1 : Int32))]) (rest := [(.int (0 : Int32)), (.ref b2), (.int (0 : Int32)), (.ref a1)]) (lenOf pd0 rfl) rfl (by show 2 * 0 + _ ≤ _; exact Nat.le_of_eq rfl) (hb hby d5_25) (fun _ _ => ⟨rfl, e2, (by decide : 1 + 0 ≤ _), (by decide : 1 + 0 ≤ _)⟩)
  dsimp only [Pt.U, Pt.locs, Pt.cells, Pt.slots] at X4 l4 y4 z4 st4 hQ4
  subst l4 y4 z4
  obtain ⟨rfl, rfl, e4⟩ := hQ4
  have N4 := Fr.app N0 (Fr.nil n0)
  have ev4 : (res6 (2 : Int32) (1 : Int32)) = (1 : Int32) := by first | rfl | decide
  rw [ev4] at st4
  obtain ⟨T5, h5, L5, X5, e5, N5, K5, V5, st5⟩ := cpA X4 hx hZ hown (hw _ (List.mem_of_getElem? (i := 32) rfl)) (hw _ (List.mem_of_getElem? (i := 35) rfl)) (hw _ (List.mem_of_getElem? (i := 33) rfl)) (hw _ (List.mem_of_getElem? (i := 34) rfl)) e4 (V_a1.ext E2) V_b2 (us := [(.int x0)]) (Or.inl ⟨rfl, rfl⟩) (by decide) (by decide) (by decide) (by decide) (by decide) rfl (by decide) N4 g_b2 (g := (mkF m 28 #[.val (.ref a1), .val (.int (1 : Int32)), .val (.ref b2)] [(.int (1 : Int32)), (.int (0 : Int32)), (.ref b2), (.int (0 : Int32)), (.ref a1)])) rfl (by rw [hml]; rfl) rfl (hb hby d5_28) (by decide) (W := 0) (by show 2 * 0 + _ ≤ _; exact Nat.le_of_eq rfl) (by decide)
  have VV5 : Arv Z h5 b2 k2 .byte (1 : Int32) [(.int x0)] (.int (0 : Int32)) := V5
  have KK5 : Keep h0 h5 [] := K2.trans K5 (allS (Or.inr sz_b2) all0)
  obtain ⟨fs, hr, hrun, hended, hW, hsame⟩ := X5.leave (v := some (.ref b2)) (fun h => by rw [Bd.returns] at h; cases h)
  refine ⟨_, _, pre0 _ ?_, hrun, hended, _, _, rfl, ?_, ⟨_, rfl⟩, hW, hsame.mono (by decide) (by decide)⟩
  · show Steps p.tables e below (s₁.setTop (mkF m 0 #[.val (.ref a1), .val (.int (1 : Int32)), .unset] [])) _
    refine XS.iloadN X0.here hx rfl (hb hby d5_0) rfl ?_
    refine XS.aloadN X0.here hx rfl (hb hby d5_1) rfl rfl ?_
    refine X0.arraylength hx (by rw [e0]; exact Ar_a1_2_1.1) (State.isArrayOf_alike hZ.alike Ar_a1_2_1.2.1) (g := (mkF m 2 #[.val (.ref a1), .val (.int (1 : Int32)), .unset] [(.ref a1), (.int (1 : Int32))])) rfl rfl (hb hby d5_2) _ ?_
    rw [len_of S_a1_2_1 N_a1_2_1]
    show Steps p.tables e below (s₁.setTop (mkF m 3 #[.val (.ref a1), .val (.int (1 : Int32)), .unset] [(.int (2 : Int32)), (.int (1 : Int32))])) _
    refine XS.icmpYes X0.here hx rfl (pc0 := 3) (pc' := 14) rfl (hb hby d5_3) rfl (feq (by decide : ¬ ((1 : Int32) = (2 : Int32)))).2 (by decide) (by decide) ?_
    refine XS.iloadN X0.here hx rfl (hb hby d5_14) rfl ?_
    show Steps p.tables e below (s₁.setTop (mkF m 15 #[.val (.ref a1), .val (.int (1 : Int32)), .unset] [(.int (1 : Int32))])) _
    refine st2 _ ?_
    show Steps p.tables e below (T2.setTop (mkF m 17 #[.val (.ref a1), .val (.int (1 : Int32)), .unset] [(.ref b2)])) _
    refine XS.astoreN X2.here hx rfl (hb hby d5_17) rfl rfl (l' := #[.val (.ref a1), .val (.int (1 : Int32)), .val (.ref b2)]) rfl ?_
    show Steps p.tables e below (T2.setTop (mkF m 18 #[.val (.ref a1), .val (.int (1 : Int32)), .val (.ref b2)] [])) _
    refine XS.aloadN X2.here hx rfl (hb hby d5_18) rfl rfl ?_
    refine XS.iconst X2.here hx rfl (hb hby d5_19) ?_
    refine XS.aloadN X2.here hx rfl (hb hby d5_20) rfl rfl ?_
    show Steps p.tables e below (T2.setTop (mkF m 21 #[.val (.ref a1), .val (.int (1 : Int32)), .val (.ref b2)] [(.ref b2), (.int (0 : Int32)), (.ref a1)])) _
    refine XS.iconst X2.here hx rfl (hb hby d5_21) ?_
    refine XS.aloadN X2.here hx rfl (hb hby d5_22) rfl rfl ?_
    refine X2.arraylength hx (by rw [e2]; exact Ar_a1_23_3.1) (State.isArrayOf_alike hZ.alike Ar_a1_23_3.2.1) (g := (mkF m 23 #[.val (.ref a1), .val (.int (1 : Int32)), .val (.ref b2)] [(.ref a1), (.int (0 : Int32)), (.ref b2), (.int (0 : Int32)), (.ref a1)])) rfl rfl (hb hby d5_23) _ ?_
    rw [len_of S_a1_23_3 N_a1_23_3]
    show Steps p.tables e below (T2.setTop (mkF m 24 #[.val (.ref a1), .val (.int (1 : Int32)), .val (.ref b2)] [(.int (2 : Int32)), (.int (0 : Int32)), (.ref b2), (.int (0 : Int32)), (.ref a1)])) _
    refine XS.iloadN X2.here hx rfl (hb hby d5_24) rfl ?_
    show Steps p.tables e below (T2.setTop (mkF m 25 #[.val (.ref a1), .val (.int (1 : Int32)), .val (.ref b2)] [(.int (1 : Int32)), (.int (2 : Int32)), (.int (0 : Int32)), (.ref b2), (.int (0 : Int32)), (.ref a1)])) _
    refine st4 _ ?_
    show Steps p.tables e below (T4.setTop (mkF m 28 #[.val (.ref a1), .val (.int (1 : Int32)), .val (.ref b2)] [(.int (1 : Int32)), (.int (0 : Int32)), (.ref b2), (.int (0 : Int32)), (.ref a1)])) _
    refine st5 _ ?_
    show Steps p.tables e below (T5.setTop (mkF m 31 #[.val (.ref a1), .val (.int (1 : Int32)), .val (.ref b2)] [])) _
    refine XS.aloadN X5.here hx rfl (hb hby d5_31) rfl rfl ?_
    show Steps p.tables e below (T5.setTop (mkF m 32 #[.val (.ref a1), .val (.int (1 : Int32)), .val (.ref b2)] [(.ref b2)])) _
    exact retOut X5 hx Bd.returns rfl (Or.inr (Or.inr (Or.inr (Or.inr ⟨rfl, rfl, rfl⟩)))) (hb hby d5_32) hr
  · show Q_copy_2_1 Z a1 ka x0 x1 h0 n0 _ T5.heap _
    rw [e5]
    exact ⟨b2, k2, rfl, N5, KK5, sz_b2, VV5⟩
theorem ef_copy_2_2 (m : MethodId) (a1 : Addr) : entryFrame m #[(.ref a1), (.int (2 : Int32))] 3 = (mkF m 0 #[.val (.ref a1), .val (.int (2 : Int32)), .unset] []) := by first | (simp [entryFrame, mkF, argsToLocals, Value.category]; done) | rfl
def Q_copy_2_2 (Z : State) (a1 : Addr) (ka : ClassId) (x0 : Int32) (x1 : Int32) (h0 : Heap) (n0 : Nat) (v : Option Value) (h : Heap) (L : List Loc) : Prop := ∃ (b2 : Addr), v = some (.ref b2) ∧ Fr n0 L ∧ Keep h0 h [] ∧ h0.size ≤ b2 ∧ Arv Z h b2 ka .byte (2 : Int32) [(.int x0), (.int x1)] (.int (0 : Int32)) ∧ Exa Z h b2 "[B"
set_option maxRecDepth 65536 in
set_option maxHeartbeats 40000000 in
theorem rm_copy_2_2 (l : Launch) (Z : State) (a0 : Array Value) (hw : ∀ d ∈ tables_1, d.before a0 Z = true) (ws : List Jvm.Cond) (a1 : Addr) (ka : ClassId) (x0 : Int32) (x1 : Int32) (h0 : Heap) (n0 : Nat) (Z0 : n0 ≤ h0.size) (V_a1 : Arv Z h0 a1 ka .byte (2 : Int32) [(.int x0), (.int x1)] (.int (0 : Int32))) (E_a1 : Exa Z h0 a1 "[B") :
    MetFree l (⟨"java/util/Arrays", "copyOf", "([BI)[B"⟩ : MethodName) (head1 (Jvm.Cond.code (⟨"java/util/Arrays", "copyOf", "([BI)[B"⟩ : MethodName) jdk_65_method_121_code 3 (some (.array .byte)) :: ws) ({ frames := 1, cells := 1, slots := 2, locals := 14 } : Room)) (fun a U => a = #[(.ref a1), (.int (2 : Int32))] ∧ Z.Warmed39 U.vm ∧ U.heap = h0) (fun _ _ _ _ _ => True) (fun _ U o U' => ∃ v L, o = .returned v ∧ Q_copy_2_2 Z a1 ka x0 x1 h0 n0 v U'.heap L ∧ FrameEnd U o U' L ({ frames := 1, cells := 1, slots := 2, locals := 14 } : Room).cells ({ frames := 1, cells := 1, slots := 2, locals := 14 } : Room).slots) := by
  refine MetFree.of_bodySF (plainFor_of_name pn1) hisR ?_
  intro p e s m args below meth c s₁ Bd hml0 hP hK
  obtain ⟨rfl, hZ, hh⟩ := hP
  have hx := Bd.exec
  have hby := Bd.bytes
  have hml : c.maxLocals = 3 := hml0
  have hown : s.vm.findClass "java/util/Arrays" = some m.cls := findClass_of_methodNamed Bd.named
  have hnm := (name_of_methodNamed Bd.named Bd.method).1
  have X0 : Stand p l e ({ frames := 1, cells := 1, slots := 2, locals := 14 } : Room) s m #[(.ref a1), (.int (2 : Int32))] below meth c s₁ [] 0 0 := Stand.of_body Bd
  have e0 : s₁.heap = h0 := by rw [← hh, Bd.state]; rfl
  have N0 := Fr.nil n0
  have pre0 : ∀ t, Steps p.tables e below (s₁.setTop (mkF m 0 #[.val (.ref a1), .val (.int (2 : Int32)), .unset] [])) t → Steps p.tables e below (s₁.setTop (entryFrame m #[(.ref a1), (.int (2 : Int32))] 3)) t := fun t k => castTop (ef_copy_2_2 m a1) k
  obtain ⟨cl_a1_2_1, Ar_a1_2_1, -, S_a1_2_1, N_a1_2_1, -, -⟩ := id V_a1
  obtain ⟨T2, h2, X2, e2, E2, A2, B2, st2⟩ := cloneH X0 hx hZ hown (hw _ (List.mem_of_getElem? (i := 19) rfl)) (hw _ (List.mem_of_getElem? (i := 20) rfl)) (hw _ (List.mem_of_getElem? (i := 24) rfl)) (hw _ (List.mem_of_getElem? (i := 22) rfl)) (hw _ (List.mem_of_getElem? (i := 23) rfl)) (hw _ (List.mem_of_getElem? (i := 25) rfl)) e0 (V_a1).arh E_a1 (g := (mkF m 7 #[.val (.ref a1), .val (.int (2 : Int32)), .unset] [(.ref a1)])) rfl (by rw [hml]; rfl) rfl (hb hby d5_7) (by decide) (W := 0) (cap := 2) (by show 2 * 0 + _ ≤ _; exact Nat.le_of_eq rfl) (by decide) (by decide) (by decide) (by decide)
  obtain ⟨b2, g2⟩ : ∃ z, z = h0.size := ⟨_, rfl⟩
  rw [← g2] at A2 B2 st2
  have sz_b2 : h0.size ≤ b2 := Nat.le_trans (Keep.refl h0 []).1 (Nat.le_of_eq g2.symm)
  have g_b2 : n0 ≤ b2 := Nat.le_trans Z0 sz_b2
  have K2 : Keep h0 h2 [] := (Keep.refl h0 []).ext E2
  have V_b2 := own_arv A2
  obtain ⟨T3, X3, e3, st3⟩ := castY X2 hx hZ hown (hw _ (List.mem_of_getElem? (i := 26) rfl)) e2 (Ins.self B2) (g := (mkF m 10 #[.val (.ref a1), .val (.int (2 : Int32)), .unset] [(.ref b2)])) rfl rfl (hb hby d5_10)
  obtain ⟨fs, hr, hrun, hended, hW, hsame⟩ := X3.leave (v := some (.ref b2)) (fun h => by rw [Bd.returns] at h; cases h)
  refine ⟨_, _, pre0 _ ?_, hrun, hended, _, _, rfl, ?_, ⟨_, rfl⟩, hW, hsame.mono (by decide) (by decide)⟩
  · show Steps p.tables e below (s₁.setTop (mkF m 0 #[.val (.ref a1), .val (.int (2 : Int32)), .unset] [])) _
    refine XS.iloadN X0.here hx rfl (hb hby d5_0) rfl ?_
    refine XS.aloadN X0.here hx rfl (hb hby d5_1) rfl rfl ?_
    refine X0.arraylength hx (by rw [e0]; exact Ar_a1_2_1.1) (State.isArrayOf_alike hZ.alike Ar_a1_2_1.2.1) (g := (mkF m 2 #[.val (.ref a1), .val (.int (2 : Int32)), .unset] [(.ref a1), (.int (2 : Int32))])) rfl rfl (hb hby d5_2) _ ?_
    rw [len_of S_a1_2_1 N_a1_2_1]
    show Steps p.tables e below (s₁.setTop (mkF m 3 #[.val (.ref a1), .val (.int (2 : Int32)), .unset] [(.int (2 : Int32)), (.int (2 : Int32))])) _
    refine XS.icmpNo X0.here hx rfl (hb hby d5_3) rfl (teq (by decide : (2 : Int32) = (2 : Int32))).2 ?_
    refine XS.aloadN X0.here hx rfl (hb hby d5_6) rfl rfl ?_
    show Steps p.tables e below (s₁.setTop (mkF m 7 #[.val (.ref a1), .val (.int (2 : Int32)), .unset] [(.ref a1)])) _
    refine st2 _ ?_
    show Steps p.tables e below (T2.setTop (mkF m 10 #[.val (.ref a1), .val (.int (2 : Int32)), .unset] [(.ref b2)])) _
    refine st3 _ ?_
    show Steps p.tables e below (T3.setTop (mkF m 13 #[.val (.ref a1), .val (.int (2 : Int32)), .unset] [(.ref b2)])) _
    exact retOut X3 hx Bd.returns rfl (Or.inr (Or.inr (Or.inr (Or.inr ⟨rfl, rfl, rfl⟩)))) (hb hby d5_13) hr
  · show Q_copy_2_2 Z a1 ka x0 x1 h0 n0 _ T3.heap _
    rw [e3]
    exact ⟨b2, rfl, N0, K2, sz_b2, V_b2, B2⟩
theorem ef_copy_3_1 (m : MethodId) (a1 : Addr) : entryFrame m #[(.ref a1), (.int (1 : Int32))] 3 = (mkF m 0 #[.val (.ref a1), .val (.int (1 : Int32)), .unset] []) := by first | (simp [entryFrame, mkF, argsToLocals, Value.category]; done) | rfl
def Q_copy_3_1 (Z : State) (a1 : Addr) (ka : ClassId) (x0 : Int32) (x1 : Int32) (x2 : Int32) (h0 : Heap) (n0 : Nat) (v : Option Value) (h : Heap) (L : List Loc) : Prop := ∃ (b2 : Addr) (k2 : ClassId), v = some (.ref b2) ∧ Fr n0 L ∧ Keep h0 h [] ∧ h0.size ≤ b2 ∧ Arv Z h b2 k2 .byte (1 : Int32) [(.int x0)] (.int (0 : Int32))
set_option maxRecDepth 65536 in
set_option maxHeartbeats 40000000 in
theorem rm_copy_3_1 (l : Launch) (Z : State) (a0 : Array Value) (hw : ∀ d ∈ tables_1, d.before a0 Z = true) (ws : List Jvm.Cond) (a1 : Addr) (ka : ClassId) (x0 : Int32) (x1 : Int32) (x2 : Int32) (h0 : Heap) (n0 : Nat) (Z0 : n0 ≤ h0.size) (V_a1 : Arv Z h0 a1 ka .byte (3 : Int32) [(.int x0), (.int x1), (.int x2)] (.int (0 : Int32))) (E_a1 : Exa Z h0 a1 "[B") :
    MetFree l (⟨"java/util/Arrays", "copyOf", "([BI)[B"⟩ : MethodName) (head1 (Jvm.Cond.code (⟨"java/util/Arrays", "copyOf", "([BI)[B"⟩ : MethodName) jdk_65_method_121_code 3 (some (.array .byte)) :: ws) ({ frames := 1, cells := 1, slots := 1, locals := 18 } : Room)) (fun a U => a = #[(.ref a1), (.int (1 : Int32))] ∧ Z.Warmed39 U.vm ∧ U.heap = h0) (fun _ _ _ _ _ => True) (fun _ U o U' => ∃ v L, o = .returned v ∧ Q_copy_3_1 Z a1 ka x0 x1 x2 h0 n0 v U'.heap L ∧ FrameEnd U o U' L ({ frames := 1, cells := 1, slots := 1, locals := 18 } : Room).cells ({ frames := 1, cells := 1, slots := 1, locals := 18 } : Room).slots) := by
  refine MetFree.of_bodySF (plainFor_of_name pn1) hisR ?_
  intro p e s m args below meth c s₁ Bd hml0 hP hK
  obtain ⟨rfl, hZ, hh⟩ := hP
  have hx := Bd.exec
  have hby := Bd.bytes
  have hml : c.maxLocals = 3 := hml0
  have hown : s.vm.findClass "java/util/Arrays" = some m.cls := findClass_of_methodNamed Bd.named
  have hnm := (name_of_methodNamed Bd.named Bd.method).1
  have X0 : Stand p l e ({ frames := 1, cells := 1, slots := 1, locals := 18 } : Room) s m #[(.ref a1), (.int (1 : Int32))] below meth c s₁ [] 0 0 := Stand.of_body Bd
  have e0 : s₁.heap = h0 := by rw [← hh, Bd.state]; rfl
  have N0 := Fr.nil n0
  have pre0 : ∀ t, Steps p.tables e below (s₁.setTop (mkF m 0 #[.val (.ref a1), .val (.int (1 : Int32)), .unset] [])) t → Steps p.tables e below (s₁.setTop (entryFrame m #[(.ref a1), (.int (1 : Int32))] 3)) t := fun t k => castTop (ef_copy_3_1 m a1) k
  obtain ⟨cl_a1_2_1, Ar_a1_2_1, -, S_a1_2_1, N_a1_2_1, -, -⟩ := id V_a1
  obtain ⟨T2, h2, k2, X2, e2, E2, A2, st2⟩ := newP X0 hx hZ (hw _ (List.mem_of_getElem? (i := 10) rfl)) e0 (g := (mkF m 15 #[.val (.ref a1), .val (.int (1 : Int32)), .unset] [(.int (1 : Int32))])) rfl (hb hby d5_15) rfl (by decide) (cap := 1) (by decide) (by decide) (by decide) (by decide)
  obtain ⟨b2, g2⟩ : ∃ z, z = h0.size := ⟨_, rfl⟩
  rw [← g2] at A2 st2
  have sz_b2 : h0.size ≤ b2 := Nat.le_trans (Keep.refl h0 []).1 (Nat.le_of_eq g2.symm)
  have g_b2 : n0 ≤ b2 := Nat.le_trans Z0 sz_b2
  have K2 : Keep h0 h2 [] := (Keep.refl h0 []).ext E2
  have V_b2 : Arv Z h2 b2 k2 .byte (1 : Int32) [(.int (0 : Int32))] (.int (0 : Int32)) := (Arv.new A2 (by decide)).pad (pad_rep [] (.int (0 : Int32)) 1)
  obtain ⟨cl_a1_23_3, Ar_a1_23_3, -, S_a1_23_3, N_a1_23_3, -, -⟩ := id (V_a1.ext E2)
  obtain ⟨_, _, ⟨T4, L4, k4, n4⟩, -, X4, ⟨Lc4, hQ4, l4, y4, z4⟩, st4⟩ := Jvm.LawKit.callS X2 hx (y := (⟨"java/lang/Math", "min", "(II)I"⟩ : MethodName)) hown (mvT hZ (hw _ (List.mem_of_getElem? (i := 28) rfl))) (mvT hZ (hw _ (List.mem_of_getElem? (i := 29) rfl))) (mvT hZ (hw _ (List.mem_of_getElem? (i := 30) rfl))) (mvT hZ (hw _ (List.mem_of_getElem? (i := 31) rfl))) (by decide) (backOf (W := 4) (rm6 l Z a0 hw [] (3 : Int32) (1 : Int32)  h2 n0 (Nat.le_trans Z0 K2.1)  ) hZ (hw _ (List.mem_of_getElem? (i := 31) rfl)) (hw _ (List.mem_of_getElem? (i := 30) rfl)) (by decide) (by decide)) (g := (mkF m 25 #[.val (.ref a1), .val (.int (1 : Int32)), .val (.ref b2)] [(.int (1 : Int32)), (.int (3 : Int32)), (.int (0 : Int32)), (.ref b2), (.int (0 : Int32)), (.ref a1)])) rfl (by rw [hml]; rfl) (argsL := [(.int (3 : Int32)), (.int (1 : Int32))]) (rest := [(.int (0 : Int32)), (.ref b2), (.int (0 : Int32)), (.ref a1)]) (lenOf pd0 rfl) rfl (by show 2 * 0 + _ ≤ _; exact Nat.le_of_eq rfl) (hb hby d5_25) (fun _ _ => ⟨rfl, e2, (by decide : 1 + 0 ≤ _), (by decide : 1 + 0 ≤ _)⟩)
  dsimp only [Pt.U, Pt.locs, Pt.cells, Pt.slots] at X4 l4 y4 z4 st4 hQ4
  subst l4 y4 z4
  obtain ⟨rfl, rfl, e4⟩ := hQ4
  have N4 := Fr.app N0 (Fr.nil n0)
  have ev4 : (res6 (3 : Int32) (1 : Int32)) = (1 : Int32) := by first | rfl | decide
  rw [ev4] at st4
  obtain ⟨T5, h5, L5, X5, e5, N5, K5, V5, st5⟩ := cpA X4 hx hZ hown (hw _ (List.mem_of_getElem? (i := 32) rfl)) (hw _ (List.mem_of_getElem? (i := 35) rfl)) (hw _ (List.mem_of_getElem? (i := 33) rfl)) (hw _ (List.mem_of_getElem? (i := 34) rfl)) e4 (V_a1.ext E2) V_b2 (us := [(.int x0)]) (Or.inl ⟨rfl, rfl⟩) (by decide) (by decide) (by decide) (by decide) (by decide) rfl (by decide) N4 g_b2 (g := (mkF m 28 #[.val (.ref a1), .val (.int (1 : Int32)), .val (.ref b2)] [(.int (1 : Int32)), (.int (0 : Int32)), (.ref b2), (.int (0 : Int32)), (.ref a1)])) rfl (by rw [hml]; rfl) rfl (hb hby d5_28) (by decide) (W := 0) (by show 2 * 0 + _ ≤ _; exact Nat.le_of_eq rfl) (by decide)
  have VV5 : Arv Z h5 b2 k2 .byte (1 : Int32) [(.int x0)] (.int (0 : Int32)) := V5
  have KK5 : Keep h0 h5 [] := K2.trans K5 (allS (Or.inr sz_b2) all0)
  obtain ⟨fs, hr, hrun, hended, hW, hsame⟩ := X5.leave (v := some (.ref b2)) (fun h => by rw [Bd.returns] at h; cases h)
  refine ⟨_, _, pre0 _ ?_, hrun, hended, _, _, rfl, ?_, ⟨_, rfl⟩, hW, hsame.mono (by decide) (by decide)⟩
  · show Steps p.tables e below (s₁.setTop (mkF m 0 #[.val (.ref a1), .val (.int (1 : Int32)), .unset] [])) _
    refine XS.iloadN X0.here hx rfl (hb hby d5_0) rfl ?_
    refine XS.aloadN X0.here hx rfl (hb hby d5_1) rfl rfl ?_
    refine X0.arraylength hx (by rw [e0]; exact Ar_a1_2_1.1) (State.isArrayOf_alike hZ.alike Ar_a1_2_1.2.1) (g := (mkF m 2 #[.val (.ref a1), .val (.int (1 : Int32)), .unset] [(.ref a1), (.int (1 : Int32))])) rfl rfl (hb hby d5_2) _ ?_
    rw [len_of S_a1_2_1 N_a1_2_1]
    show Steps p.tables e below (s₁.setTop (mkF m 3 #[.val (.ref a1), .val (.int (1 : Int32)), .unset] [(.int (3 : Int32)), (.int (1 : Int32))])) _
    refine XS.icmpYes X0.here hx rfl (pc0 := 3) (pc' := 14) rfl (hb hby d5_3) rfl (feq (by decide : ¬ ((1 : Int32) = (3 : Int32)))).2 (by decide) (by decide) ?_
    refine XS.iloadN X0.here hx rfl (hb hby d5_14) rfl ?_
    show Steps p.tables e below (s₁.setTop (mkF m 15 #[.val (.ref a1), .val (.int (1 : Int32)), .unset] [(.int (1 : Int32))])) _
    refine st2 _ ?_
    show Steps p.tables e below (T2.setTop (mkF m 17 #[.val (.ref a1), .val (.int (1 : Int32)), .unset] [(.ref b2)])) _
    refine XS.astoreN X2.here hx rfl (hb hby d5_17) rfl rfl (l' := #[.val (.ref a1), .val (.int (1 : Int32)), .val (.ref b2)]) rfl ?_
    show Steps p.tables e below (T2.setTop (mkF m 18 #[.val (.ref a1), .val (.int (1 : Int32)), .val (.ref b2)] [])) _
    refine XS.aloadN X2.here hx rfl (hb hby d5_18) rfl rfl ?_
    refine XS.iconst X2.here hx rfl (hb hby d5_19) ?_
    refine XS.aloadN X2.here hx rfl (hb hby d5_20) rfl rfl ?_
    show Steps p.tables e below (T2.setTop (mkF m 21 #[.val (.ref a1), .val (.int (1 : Int32)), .val (.ref b2)] [(.ref b2), (.int (0 : Int32)), (.ref a1)])) _
    refine XS.iconst X2.here hx rfl (hb hby d5_21) ?_
    refine XS.aloadN X2.here hx rfl (hb hby d5_22) rfl rfl ?_
    refine X2.arraylength hx (by rw [e2]; exact Ar_a1_23_3.1) (State.isArrayOf_alike hZ.alike Ar_a1_23_3.2.1) (g := (mkF m 23 #[.val (.ref a1), .val (.int (1 : Int32)), .val (.ref b2)] [(.ref a1), (.int (0 : Int32)), (.ref b2), (.int (0 : Int32)), (.ref a1)])) rfl rfl (hb hby d5_23) _ ?_
    rw [len_of S_a1_23_3 N_a1_23_3]
    show Steps p.tables e below (T2.setTop (mkF m 24 #[.val (.ref a1), .val (.int (1 : Int32)), .val (.ref b2)] [(.int (3 : Int32)), (.int (0 : Int32)), (.ref b2), (.int (0 : Int32)), (.ref a1)])) _
    refine XS.iloadN X2.here hx rfl (hb hby d5_24) rfl ?_
    show Steps p.tables e below (T2.setTop (mkF m 25 #[.val (.ref a1), .val (.int (1 : Int32)), .val (.ref b2)] [(.int (1 : Int32)), (.int (3 : Int32)), (.int (0 : Int32)), (.ref b2), (.int (0 : Int32)), (.ref a1)])) _
    refine st4 _ ?_
    show Steps p.tables e below (T4.setTop (mkF m 28 #[.val (.ref a1), .val (.int (1 : Int32)), .val (.ref b2)] [(.int (1 : Int32)), (.int (0 : Int32)), (.ref b2), (.int (0 : Int32)), (.ref a1)])) _
    refine st5 _ ?_
    show Steps p.tables e below (T5.setTop (mkF m 31 #[.val (.ref a1), .val (.int (1 : Int32)), .val (.ref b2)] [])) _
    refine XS.aloadN X5.here hx rfl (hb hby d5_31) rfl rfl ?_
    show Steps p.tables e below (T5.setTop (mkF m 32 #[.val (.ref a1), .val (.int (1 : Int32)), .val (.ref b2)] [(.ref b2)])) _
    exact retOut X5 hx Bd.returns rfl (Or.inr (Or.inr (Or.inr (Or.inr ⟨rfl, rfl, rfl⟩)))) (hb hby d5_32) hr
  · show Q_copy_3_1 Z a1 ka x0 x1 x2 h0 n0 _ T5.heap _
    rw [e5]
    exact ⟨b2, k2, rfl, N5, KK5, sz_b2, VV5⟩
theorem ef_copy_3_2 (m : MethodId) (a1 : Addr) : entryFrame m #[(.ref a1), (.int (2 : Int32))] 3 = (mkF m 0 #[.val (.ref a1), .val (.int (2 : Int32)), .unset] []) := by first | (simp [entryFrame, mkF, argsToLocals, Value.category]; done) | rfl
def Q_copy_3_2 (Z : State) (a1 : Addr) (ka : ClassId) (x0 : Int32) (x1 : Int32) (x2 : Int32) (h0 : Heap) (n0 : Nat) (v : Option Value) (h : Heap) (L : List Loc) : Prop := ∃ (b2 : Addr) (k2 : ClassId), v = some (.ref b2) ∧ Fr n0 L ∧ Keep h0 h [] ∧ h0.size ≤ b2 ∧ Arv Z h b2 k2 .byte (2 : Int32) [(.int x0), (.int x1)] (.int (0 : Int32))
set_option maxRecDepth 65536 in
set_option maxHeartbeats 40000000 in
theorem rm_copy_3_2 (l : Launch) (Z : State) (a0 : Array Value) (hw : ∀ d ∈ tables_1, d.before a0 Z = true) (ws : List Jvm.Cond) (a1 : Addr) (ka : ClassId) (x0 : Int32) (x1 : Int32) (x2 : Int32) (h0 : Heap) (n0 : Nat) (Z0 : n0 ≤ h0.size) (V_a1 : Arv Z h0 a1 ka .byte (3 : Int32) [(.int x0), (.int x1), (.int x2)] (.int (0 : Int32))) (E_a1 : Exa Z h0 a1 "[B") :
    MetFree l (⟨"java/util/Arrays", "copyOf", "([BI)[B"⟩ : MethodName) (head1 (Jvm.Cond.code (⟨"java/util/Arrays", "copyOf", "([BI)[B"⟩ : MethodName) jdk_65_method_121_code 3 (some (.array .byte)) :: ws) ({ frames := 1, cells := 1, slots := 2, locals := 18 } : Room)) (fun a U => a = #[(.ref a1), (.int (2 : Int32))] ∧ Z.Warmed39 U.vm ∧ U.heap = h0) (fun _ _ _ _ _ => True) (fun _ U o U' => ∃ v L, o = .returned v ∧ Q_copy_3_2 Z a1 ka x0 x1 x2 h0 n0 v U'.heap L ∧ FrameEnd U o U' L ({ frames := 1, cells := 1, slots := 2, locals := 18 } : Room).cells ({ frames := 1, cells := 1, slots := 2, locals := 18 } : Room).slots) := by
  refine MetFree.of_bodySF (plainFor_of_name pn1) hisR ?_
  intro p e s m args below meth c s₁ Bd hml0 hP hK
  obtain ⟨rfl, hZ, hh⟩ := hP
  have hx := Bd.exec
  have hby := Bd.bytes
  have hml : c.maxLocals = 3 := hml0
  have hown : s.vm.findClass "java/util/Arrays" = some m.cls := findClass_of_methodNamed Bd.named
  have hnm := (name_of_methodNamed Bd.named Bd.method).1
  have X0 : Stand p l e ({ frames := 1, cells := 1, slots := 2, locals := 18 } : Room) s m #[(.ref a1), (.int (2 : Int32))] below meth c s₁ [] 0 0 := Stand.of_body Bd
  have e0 : s₁.heap = h0 := by rw [← hh, Bd.state]; rfl
  have N0 := Fr.nil n0
  have pre0 : ∀ t, Steps p.tables e below (s₁.setTop (mkF m 0 #[.val (.ref a1), .val (.int (2 : Int32)), .unset] [])) t → Steps p.tables e below (s₁.setTop (entryFrame m #[(.ref a1), (.int (2 : Int32))] 3)) t := fun t k => castTop (ef_copy_3_2 m a1) k
  obtain ⟨cl_a1_2_1, Ar_a1_2_1, -, S_a1_2_1, N_a1_2_1, -, -⟩ := id V_a1
  obtain ⟨T2, h2, k2, X2, e2, E2, A2, st2⟩ := newP X0 hx hZ (hw _ (List.mem_of_getElem? (i := 10) rfl)) e0 (g := (mkF m 15 #[.val (.ref a1), .val (.int (2 : Int32)), .unset] [(.int (2 : Int32))])) rfl (hb hby d5_15) rfl (by decide) (cap := 2) (by decide) (by decide) (by decide) (by decide)
  obtain ⟨b2, g2⟩ : ∃ z, z = h0.size := ⟨_, rfl⟩
  rw [← g2] at A2 st2
  have sz_b2 : h0.size ≤ b2 := Nat.le_trans (Keep.refl h0 []).1 (Nat.le_of_eq g2.symm)
  have g_b2 : n0 ≤ b2 := Nat.le_trans Z0 sz_b2
  have K2 : Keep h0 h2 [] := (Keep.refl h0 []).ext E2
  have V_b2 : Arv Z h2 b2 k2 .byte (2 : Int32) [(.int (0 : Int32)), (.int (0 : Int32))] (.int (0 : Int32)) := (Arv.new A2 (by decide)).pad (pad_rep [] (.int (0 : Int32)) 2)
  obtain ⟨cl_a1_23_3, Ar_a1_23_3, -, S_a1_23_3, N_a1_23_3, -, -⟩ := id (V_a1.ext E2)
  obtain ⟨_, _, ⟨T4, L4, k4, n4⟩, -, X4, ⟨Lc4, hQ4, l4, y4, z4⟩, st4⟩ := Jvm.LawKit.callS X2 hx (y := (⟨"java/lang/Math", "min", "(II)I"⟩ : MethodName)) hown (mvT hZ (hw _ (List.mem_of_getElem? (i := 28) rfl))) (mvT hZ (hw _ (List.mem_of_getElem? (i := 29) rfl))) (mvT hZ (hw _ (List.mem_of_getElem? (i := 30) rfl))) (mvT hZ (hw _ (List.mem_of_getElem? (i := 31) rfl))) (by decide) (backOf (W := 4) (rm6 l Z a0 hw [] (3 : Int32) (2 : Int32)  h2 n0 (Nat.le_trans Z0 K2.1)  ) hZ (hw _ (List.mem_of_getElem? (i := 31) rfl)) (hw _ (List.mem_of_getElem? (i := 30) rfl)) (by decide) (by decide)) (g := (mkF m 25 #[.val (.ref a1), .val (.int (2 : Int32)), .val (.ref b2)] [(.int (2 : Int32)), (.int (3 : Int32)), (.int (0 : Int32)), (.ref b2), (.int (0 : Int32)), (.ref a1)])) rfl (by rw [hml]; rfl) (argsL := [(.int (3 : Int32)), (.int (2 : Int32))]) (rest := [(.int (0 : Int32)), (.ref b2), (.int (0 : Int32)), (.ref a1)]) (lenOf pd0 rfl) rfl (by show 2 * 0 + _ ≤ _; exact Nat.le_of_eq rfl) (hb hby d5_25) (fun _ _ => ⟨rfl, e2, (by decide : 1 + 0 ≤ _), (by decide : 2 + 0 ≤ _)⟩)
  dsimp only [Pt.U, Pt.locs, Pt.cells, Pt.slots] at X4 l4 y4 z4 st4 hQ4
  subst l4 y4 z4
  obtain ⟨rfl, rfl, e4⟩ := hQ4
  have N4 := Fr.app N0 (Fr.nil n0)
  have ev4 : (res6 (3 : Int32) (2 : Int32)) = (2 : Int32) := by first | rfl | decide
  rw [ev4] at st4
  obtain ⟨T5, h5, L5, X5, e5, N5, K5, V5, st5⟩ := cpA X4 hx hZ hown (hw _ (List.mem_of_getElem? (i := 32) rfl)) (hw _ (List.mem_of_getElem? (i := 35) rfl)) (hw _ (List.mem_of_getElem? (i := 33) rfl)) (hw _ (List.mem_of_getElem? (i := 34) rfl)) e4 (V_a1.ext E2) V_b2 (us := [(.int x0), (.int x1)]) (Or.inl ⟨rfl, rfl⟩) (by decide) (by decide) (by decide) (by decide) (by decide) rfl (by decide) N4 g_b2 (g := (mkF m 28 #[.val (.ref a1), .val (.int (2 : Int32)), .val (.ref b2)] [(.int (2 : Int32)), (.int (0 : Int32)), (.ref b2), (.int (0 : Int32)), (.ref a1)])) rfl (by rw [hml]; rfl) rfl (hb hby d5_28) (by decide) (W := 0) (by show 2 * 0 + _ ≤ _; exact Nat.le_of_eq rfl) (by decide)
  have VV5 : Arv Z h5 b2 k2 .byte (2 : Int32) [(.int x0), (.int x1)] (.int (0 : Int32)) := V5
  have KK5 : Keep h0 h5 [] := K2.trans K5 (allS (Or.inr sz_b2) all0)
  obtain ⟨fs, hr, hrun, hended, hW, hsame⟩ := X5.leave (v := some (.ref b2)) (fun h => by rw [Bd.returns] at h; cases h)
  refine ⟨_, _, pre0 _ ?_, hrun, hended, _, _, rfl, ?_, ⟨_, rfl⟩, hW, hsame.mono (by decide) (by decide)⟩
  · show Steps p.tables e below (s₁.setTop (mkF m 0 #[.val (.ref a1), .val (.int (2 : Int32)), .unset] [])) _
    refine XS.iloadN X0.here hx rfl (hb hby d5_0) rfl ?_
    refine XS.aloadN X0.here hx rfl (hb hby d5_1) rfl rfl ?_
    refine X0.arraylength hx (by rw [e0]; exact Ar_a1_2_1.1) (State.isArrayOf_alike hZ.alike Ar_a1_2_1.2.1) (g := (mkF m 2 #[.val (.ref a1), .val (.int (2 : Int32)), .unset] [(.ref a1), (.int (2 : Int32))])) rfl rfl (hb hby d5_2) _ ?_
    rw [len_of S_a1_2_1 N_a1_2_1]
    show Steps p.tables e below (s₁.setTop (mkF m 3 #[.val (.ref a1), .val (.int (2 : Int32)), .unset] [(.int (3 : Int32)), (.int (2 : Int32))])) _
    refine XS.icmpYes X0.here hx rfl (pc0 := 3) (pc' := 14) rfl (hb hby d5_3) rfl (feq (by decide : ¬ ((2 : Int32) = (3 : Int32)))).2 (by decide) (by decide) ?_
    refine XS.iloadN X0.here hx rfl (hb hby d5_14) rfl ?_
    show Steps p.tables e below (s₁.setTop (mkF m 15 #[.val (.ref a1), .val (.int (2 : Int32)), .unset] [(.int (2 : Int32))])) _
    refine st2 _ ?_
    show Steps p.tables e below (T2.setTop (mkF m 17 #[.val (.ref a1), .val (.int (2 : Int32)), .unset] [(.ref b2)])) _
    refine XS.astoreN X2.here hx rfl (hb hby d5_17) rfl rfl (l' := #[.val (.ref a1), .val (.int (2 : Int32)), .val (.ref b2)]) rfl ?_
    show Steps p.tables e below (T2.setTop (mkF m 18 #[.val (.ref a1), .val (.int (2 : Int32)), .val (.ref b2)] [])) _
    refine XS.aloadN X2.here hx rfl (hb hby d5_18) rfl rfl ?_
    refine XS.iconst X2.here hx rfl (hb hby d5_19) ?_
    refine XS.aloadN X2.here hx rfl (hb hby d5_20) rfl rfl ?_
    show Steps p.tables e below (T2.setTop (mkF m 21 #[.val (.ref a1), .val (.int (2 : Int32)), .val (.ref b2)] [(.ref b2), (.int (0 : Int32)), (.ref a1)])) _
    refine XS.iconst X2.here hx rfl (hb hby d5_21) ?_
    refine XS.aloadN X2.here hx rfl (hb hby d5_22) rfl rfl ?_
    refine X2.arraylength hx (by rw [e2]; exact Ar_a1_23_3.1) (State.isArrayOf_alike hZ.alike Ar_a1_23_3.2.1) (g := (mkF m 23 #[.val (.ref a1), .val (.int (2 : Int32)), .val (.ref b2)] [(.ref a1), (.int (0 : Int32)), (.ref b2), (.int (0 : Int32)), (.ref a1)])) rfl rfl (hb hby d5_23) _ ?_
    rw [len_of S_a1_23_3 N_a1_23_3]
    show Steps p.tables e below (T2.setTop (mkF m 24 #[.val (.ref a1), .val (.int (2 : Int32)), .val (.ref b2)] [(.int (3 : Int32)), (.int (0 : Int32)), (.ref b2), (.int (0 : Int32)), (.ref a1)])) _
    refine XS.iloadN X2.here hx rfl (hb hby d5_24) rfl ?_
    show Steps p.tables e below (T2.setTop (mkF m 25 #[.val (.ref a1), .val (.int (2 : Int32)), .val (.ref b2)] [(.int (2 : Int32)), (.int (3 : Int32)), (.int (0 : Int32)), (.ref b2), (.int (0 : Int32)), (.ref a1)])) _
    refine st4 _ ?_
    show Steps p.tables e below (T4.setTop (mkF m 28 #[.val (.ref a1), .val (.int (2 : Int32)), .val (.ref b2)] [(.int (2 : Int32)), (.int (0 : Int32)), (.ref b2), (.int (0 : Int32)), (.ref a1)])) _
    refine st5 _ ?_
    show Steps p.tables e below (T5.setTop (mkF m 31 #[.val (.ref a1), .val (.int (2 : Int32)), .val (.ref b2)] [])) _
    refine XS.aloadN X5.here hx rfl (hb hby d5_31) rfl rfl ?_
    show Steps p.tables e below (T5.setTop (mkF m 32 #[.val (.ref a1), .val (.int (2 : Int32)), .val (.ref b2)] [(.ref b2)])) _
    exact retOut X5 hx Bd.returns rfl (Or.inr (Or.inr (Or.inr (Or.inr ⟨rfl, rfl, rfl⟩)))) (hb hby d5_32) hr
  · show Q_copy_3_2 Z a1 ka x0 x1 x2 h0 n0 _ T5.heap _
    rw [e5]
    exact ⟨b2, k2, rfl, N5, KK5, sz_b2, VV5⟩
theorem ef_copy_3_3 (m : MethodId) (a1 : Addr) : entryFrame m #[(.ref a1), (.int (3 : Int32))] 3 = (mkF m 0 #[.val (.ref a1), .val (.int (3 : Int32)), .unset] []) := by first | (simp [entryFrame, mkF, argsToLocals, Value.category]; done) | rfl
def Q_copy_3_3 (Z : State) (a1 : Addr) (ka : ClassId) (x0 : Int32) (x1 : Int32) (x2 : Int32) (h0 : Heap) (n0 : Nat) (v : Option Value) (h : Heap) (L : List Loc) : Prop := ∃ (b2 : Addr), v = some (.ref b2) ∧ Fr n0 L ∧ Keep h0 h [] ∧ h0.size ≤ b2 ∧ Arv Z h b2 ka .byte (3 : Int32) [(.int x0), (.int x1), (.int x2)] (.int (0 : Int32)) ∧ Exa Z h b2 "[B"
set_option maxRecDepth 65536 in
set_option maxHeartbeats 40000000 in
theorem rm_copy_3_3 (l : Launch) (Z : State) (a0 : Array Value) (hw : ∀ d ∈ tables_1, d.before a0 Z = true) (ws : List Jvm.Cond) (a1 : Addr) (ka : ClassId) (x0 : Int32) (x1 : Int32) (x2 : Int32) (h0 : Heap) (n0 : Nat) (Z0 : n0 ≤ h0.size) (V_a1 : Arv Z h0 a1 ka .byte (3 : Int32) [(.int x0), (.int x1), (.int x2)] (.int (0 : Int32))) (E_a1 : Exa Z h0 a1 "[B") :
    MetFree l (⟨"java/util/Arrays", "copyOf", "([BI)[B"⟩ : MethodName) (head1 (Jvm.Cond.code (⟨"java/util/Arrays", "copyOf", "([BI)[B"⟩ : MethodName) jdk_65_method_121_code 3 (some (.array .byte)) :: ws) ({ frames := 1, cells := 1, slots := 3, locals := 14 } : Room)) (fun a U => a = #[(.ref a1), (.int (3 : Int32))] ∧ Z.Warmed39 U.vm ∧ U.heap = h0) (fun _ _ _ _ _ => True) (fun _ U o U' => ∃ v L, o = .returned v ∧ Q_copy_3_3 Z a1 ka x0 x1 x2 h0 n0 v U'.heap L ∧ FrameEnd U o U' L ({ frames := 1, cells := 1, slots := 3, locals := 14 } : Room).cells ({ frames := 1, cells := 1, slots := 3, locals := 14 } : Room).slots) := by
  refine MetFree.of_bodySF (plainFor_of_name pn1) hisR ?_
  intro p e s m args below meth c s₁ Bd hml0 hP hK
  obtain ⟨rfl, hZ, hh⟩ := hP
  have hx := Bd.exec
  have hby := Bd.bytes
  have hml : c.maxLocals = 3 := hml0
  have hown : s.vm.findClass "java/util/Arrays" = some m.cls := findClass_of_methodNamed Bd.named
  have hnm := (name_of_methodNamed Bd.named Bd.method).1
  have X0 : Stand p l e ({ frames := 1, cells := 1, slots := 3, locals := 14 } : Room) s m #[(.ref a1), (.int (3 : Int32))] below meth c s₁ [] 0 0 := Stand.of_body Bd
  have e0 : s₁.heap = h0 := by rw [← hh, Bd.state]; rfl
  have N0 := Fr.nil n0
  have pre0 : ∀ t, Steps p.tables e below (s₁.setTop (mkF m 0 #[.val (.ref a1), .val (.int (3 : Int32)), .unset] [])) t → Steps p.tables e below (s₁.setTop (entryFrame m #[(.ref a1), (.int (3 : Int32))] 3)) t := fun t k => castTop (ef_copy_3_3 m a1) k
  obtain ⟨cl_a1_2_1, Ar_a1_2_1, -, S_a1_2_1, N_a1_2_1, -, -⟩ := id V_a1
  obtain ⟨T2, h2, X2, e2, E2, A2, B2, st2⟩ := cloneH X0 hx hZ hown (hw _ (List.mem_of_getElem? (i := 19) rfl)) (hw _ (List.mem_of_getElem? (i := 20) rfl)) (hw _ (List.mem_of_getElem? (i := 24) rfl)) (hw _ (List.mem_of_getElem? (i := 22) rfl)) (hw _ (List.mem_of_getElem? (i := 23) rfl)) (hw _ (List.mem_of_getElem? (i := 25) rfl)) e0 (V_a1).arh E_a1 (g := (mkF m 7 #[.val (.ref a1), .val (.int (3 : Int32)), .unset] [(.ref a1)])) rfl (by rw [hml]; rfl) rfl (hb hby d5_7) (by decide) (W := 0) (cap := 3) (by show 2 * 0 + _ ≤ _; exact Nat.le_of_eq rfl) (by decide) (by decide) (by decide) (by decide)
  obtain ⟨b2, g2⟩ : ∃ z, z = h0.size := ⟨_, rfl⟩
  rw [← g2] at A2 B2 st2
  have sz_b2 : h0.size ≤ b2 := Nat.le_trans (Keep.refl h0 []).1 (Nat.le_of_eq g2.symm)
  have g_b2 : n0 ≤ b2 := Nat.le_trans Z0 sz_b2
  have K2 : Keep h0 h2 [] := (Keep.refl h0 []).ext E2
  have V_b2 := own_arv A2
  obtain ⟨T3, X3, e3, st3⟩ := castY X2 hx hZ hown (hw _ (List.mem_of_getElem? (i := 26) rfl)) e2 (Ins.self B2) (g := (mkF m 10 #[.val (.ref a1), .val (.int (3 : Int32)), .unset] [(.ref b2)])) rfl rfl (hb hby d5_10)
  obtain ⟨fs, hr, hrun, hended, hW, hsame⟩ := X3.leave (v := some (.ref b2)) (fun h => by rw [Bd.returns] at h; cases h)
  refine ⟨_, _, pre0 _ ?_, hrun, hended, _, _, rfl, ?_, ⟨_, rfl⟩, hW, hsame.mono (by decide) (by decide)⟩
  · show Steps p.tables e below (s₁.setTop (mkF m 0 #[.val (.ref a1), .val (.int (3 : Int32)), .unset] [])) _
    refine XS.iloadN X0.here hx rfl (hb hby d5_0) rfl ?_
    refine XS.aloadN X0.here hx rfl (hb hby d5_1) rfl rfl ?_
    refine X0.arraylength hx (by rw [e0]; exact Ar_a1_2_1.1) (State.isArrayOf_alike hZ.alike Ar_a1_2_1.2.1) (g := (mkF m 2 #[.val (.ref a1), .val (.int (3 : Int32)), .unset] [(.ref a1), (.int (3 : Int32))])) rfl rfl (hb hby d5_2) _ ?_
    rw [len_of S_a1_2_1 N_a1_2_1]
    show Steps p.tables e below (s₁.setTop (mkF m 3 #[.val (.ref a1), .val (.int (3 : Int32)), .unset] [(.int (3 : Int32)), (.int (3 : Int32))])) _
    refine XS.icmpNo X0.here hx rfl (hb hby d5_3) rfl (teq (by decide : (3 : Int32) = (3 : Int32))).2 ?_
    refine XS.aloadN X0.here hx rfl (hb hby d5_6) rfl rfl ?_
    show Steps p.tables e below (s₁.setTop (mkF m 7 #[.val (.ref a1), .val (.int (3 : Int32)), .unset] [(.ref a1)])) _
    refine st2 _ ?_
    show Steps p.tables e below (T2.setTop (mkF m 10 #[.val (.ref a1), .val (.int (3 : Int32)), .unset] [(.ref b2)])) _
    refine st3 _ ?_
    show Steps p.tables e below (T3.setTop (mkF m 13 #[.val (.ref a1), .val (.int (3 : Int32)), .unset] [(.ref b2)])) _
    exact retOut X3 hx Bd.returns rfl (Or.inr (Or.inr (Or.inr (Or.inr ⟨rfl, rfl, rfl⟩)))) (hb hby d5_13) hr
  · show Q_copy_3_3 Z a1 ka x0 x1 x2 h0 n0 _ T3.heap _
    rw [e3]
    exact ⟨b2, rfl, N0, K2, sz_b2, V_b2, B2⟩
theorem ef_copy_4_1 (m : MethodId) (a1 : Addr) : entryFrame m #[(.ref a1), (.int (1 : Int32))] 3 = (mkF m 0 #[.val (.ref a1), .val (.int (1 : Int32)), .unset] []) := by first | (simp [entryFrame, mkF, argsToLocals, Value.category]; done) | rfl
def Q_copy_4_1 (Z : State) (a1 : Addr) (ka : ClassId) (x0 : Int32) (x1 : Int32) (x2 : Int32) (x3 : Int32) (h0 : Heap) (n0 : Nat) (v : Option Value) (h : Heap) (L : List Loc) : Prop := ∃ (b2 : Addr) (k2 : ClassId), v = some (.ref b2) ∧ Fr n0 L ∧ Keep h0 h [] ∧ h0.size ≤ b2 ∧ Arv Z h b2 k2 .byte (1 : Int32) [(.int x0)] (.int (0 : Int32))
set_option maxRecDepth 65536 in
set_option maxHeartbeats 40000000 in
theorem rm_copy_4_1 (l : Launch) (Z : State) (a0 : Array Value) (hw : ∀ d ∈ tables_1, d.before a0 Z = true) (ws : List Jvm.Cond) (a1 : Addr) (ka : ClassId) (x0 : Int32) (x1 : Int32) (x2 : Int32) (x3 : Int32) (h0 : Heap) (n0 : Nat) (Z0 : n0 ≤ h0.size) (V_a1 : Arv Z h0 a1 ka .byte (4 : Int32) [(.int x0), (.int x1), (.int x2), (.int x3)] (.int (0 : Int32))) (E_a1 : Exa Z h0 a1 "[B") :
    MetFree l (⟨"java/util/Arrays", "copyOf", "([BI)[B"⟩ : MethodName) (head1 (Jvm.Cond.code (⟨"java/util/Arrays", "copyOf", "([BI)[B"⟩ : MethodName) jdk_65_method_121_code 3 (some (.array .byte)) :: ws) ({ frames := 1, cells := 1, slots := 1, locals := 18 } : Room)) (fun a U => a = #[(.ref a1), (.int (1 : Int32))] ∧ Z.Warmed39 U.vm ∧ U.heap = h0) (fun _ _ _ _ _ => True) (fun _ U o U' => ∃ v L, o = .returned v ∧ Q_copy_4_1 Z a1 ka x0 x1 x2 x3 h0 n0 v U'.heap L ∧ FrameEnd U o U' L ({ frames := 1, cells := 1, slots := 1, locals := 18 } : Room).cells ({ frames := 1, cells := 1, slots := 1, locals := 18 } : Room).slots) := by
  refine MetFree.of_bodySF (plainFor_of_name pn1) hisR ?_
  intro p e s m args below meth c s₁ Bd hml0 hP hK
  obtain ⟨rfl, hZ, hh⟩ := hP
  have hx := Bd.exec
  have hby := Bd.bytes
  have hml : c.maxLocals = 3 := hml0
  have hown : s.vm.findClass "java/util/Arrays" = some m.cls := findClass_of_methodNamed Bd.named
  have hnm := (name_of_methodNamed Bd.named Bd.method).1
  have X0 : Stand p l e ({ frames := 1, cells := 1, slots := 1, locals := 18 } : Room) s m #[(.ref a1), (.int (1 : Int32))] below meth c s₁ [] 0 0 := Stand.of_body Bd
  have e0 : s₁.heap = h0 := by rw [← hh, Bd.state]; rfl
  have N0 := Fr.nil n0
  have pre0 : ∀ t, Steps p.tables e below (s₁.setTop (mkF m 0 #[.val (.ref a1), .val (.int (1 : Int32)), .unset] [])) t → Steps p.tables e below (s₁.setTop (entryFrame m #[(.ref a1), (.int (1 : Int32))] 3)) t := fun t k => castTop (ef_copy_4_1 m a1) k
  obtain ⟨cl_a1_2_1, Ar_a1_2_1, -, S_a1_2_1, N_a1_2_1, -, -⟩ := id V_a1
  obtain ⟨T2, h2, k2, X2, e2, E2, A2, st2⟩ := newP X0 hx hZ (hw _ (List.mem_of_getElem? (i := 10) rfl)) e0 (g := (mkF m 15 #[.val (.ref a1), .val (.int (1 : Int32)), .unset] [(.int (1 : Int32))])) rfl (hb hby d5_15) rfl (by decide) (cap := 1) (by decide) (by decide) (by decide) (by decide)
  obtain ⟨b2, g2⟩ : ∃ z, z = h0.size := ⟨_, rfl⟩
  rw [← g2] at A2 st2
  have sz_b2 : h0.size ≤ b2 := Nat.le_trans (Keep.refl h0 []).1 (Nat.le_of_eq g2.symm)
  have g_b2 : n0 ≤ b2 := Nat.le_trans Z0 sz_b2
  have K2 : Keep h0 h2 [] := (Keep.refl h0 []).ext E2
  have V_b2 : Arv Z h2 b2 k2 .byte (1 : Int32) [(.int (0 : Int32))] (.int (0 : Int32)) := (Arv.new A2 (by decide)).pad (pad_rep [] (.int (0 : Int32)) 1)
  obtain ⟨cl_a1_23_3, Ar_a1_23_3, -, S_a1_23_3, N_a1_23_3, -, -⟩ := id (V_a1.ext E2)
  obtain ⟨_, _, ⟨T4, L4, k4, n4⟩, -, X4, ⟨Lc4, hQ4, l4, y4, z4⟩, st4⟩ := Jvm.LawKit.callS X2 hx (y := (⟨"java/lang/Math", "min", "(II)I"⟩ : MethodName)) hown (mvT hZ (hw _ (List.mem_of_getElem? (i := 28) rfl))) (mvT hZ (hw _ (List.mem_of_getElem? (i := 29) rfl))) (mvT hZ (hw _ (List.mem_of_getElem? (i := 30) rfl))) (mvT hZ (hw _ (List.mem_of_getElem? (i := 31) rfl))) (by decide) (backOf (W := 4) (rm6 l Z a0 hw [] (4 : Int32) (1 : Int32)  h2 n0 (Nat.le_trans Z0 K2.1)  ) hZ (hw _ (List.mem_of_getElem? (i := 31) rfl)) (hw _ (List.mem_of_getElem? (i := 30) rfl)) (by decide) (by decide)) (g := (mkF m 25 #[.val (.ref a1), .val (.int (1 : Int32)), .val (.ref b2)] [(.int (1 : Int32)), (.int (4 : Int32)), (.int (0 : Int32)), (.ref b2), (.int (0 : Int32)), (.ref a1)])) rfl (by rw [hml]; rfl) (argsL := [(.int (4 : Int32)), (.int (1 : Int32))]) (rest := [(.int (0 : Int32)), (.ref b2), (.int (0 : Int32)), (.ref a1)]) (lenOf pd0 rfl) rfl (by show 2 * 0 + _ ≤ _; exact Nat.le_of_eq rfl) (hb hby d5_25) (fun _ _ => ⟨rfl, e2, (by decide : 1 + 0 ≤ _), (by decide : 1 + 0 ≤ _)⟩)
  dsimp only [Pt.U, Pt.locs, Pt.cells, Pt.slots] at X4 l4 y4 z4 st4 hQ4
  subst l4 y4 z4
  obtain ⟨rfl, rfl, e4⟩ := hQ4
  have N4 := Fr.app N0 (Fr.nil n0)
  have ev4 : (res6 (4 : Int32) (1 : Int32)) = (1 : Int32) := by first | rfl | decide
  rw [ev4] at st4
  obtain ⟨T5, h5, L5, X5, e5, N5, K5, V5, st5⟩ := cpA X4 hx hZ hown (hw _ (List.mem_of_getElem? (i := 32) rfl)) (hw _ (List.mem_of_getElem? (i := 35) rfl)) (hw _ (List.mem_of_getElem? (i := 33) rfl)) (hw _ (List.mem_of_getElem? (i := 34) rfl)) e4 (V_a1.ext E2) V_b2 (us := [(.int x0)]) (Or.inl ⟨rfl, rfl⟩) (by decide) (by decide) (by decide) (by decide) (by decide) rfl (by decide) N4 g_b2 (g := (mkF m 28 #[.val (.ref a1), .val (.int (1 : Int32)), .val (.ref b2)] [(.int (1 : Int32)), (.int (0 : Int32)), (.ref b2), (.int (0 : Int32)), (.ref a1)])) rfl (by rw [hml]; rfl) rfl (hb hby d5_28) (by decide) (W := 0) (by show 2 * 0 + _ ≤ _; exact Nat.le_of_eq rfl) (by decide)
  have VV5 : Arv Z h5 b2 k2 .byte (1 : Int32) [(.int x0)] (.int (0 : Int32)) := V5
  have KK5 : Keep h0 h5 [] := K2.trans K5 (allS (Or.inr sz_b2) all0)
  obtain ⟨fs, hr, hrun, hended, hW, hsame⟩ := X5.leave (v := some (.ref b2)) (fun h => by rw [Bd.returns] at h; cases h)
  refine ⟨_, _, pre0 _ ?_, hrun, hended, _, _, rfl, ?_, ⟨_, rfl⟩, hW, hsame.mono (by decide) (by decide)⟩
  · show Steps p.tables e below (s₁.setTop (mkF m 0 #[.val (.ref a1), .val (.int (1 : Int32)), .unset] [])) _
    refine XS.iloadN X0.here hx rfl (hb hby d5_0) rfl ?_
    refine XS.aloadN X0.here hx rfl (hb hby d5_1) rfl rfl ?_
    refine X0.arraylength hx (by rw [e0]; exact Ar_a1_2_1.1) (State.isArrayOf_alike hZ.alike Ar_a1_2_1.2.1) (g := (mkF m 2 #[.val (.ref a1), .val (.int (1 : Int32)), .unset] [(.ref a1), (.int (1 : Int32))])) rfl rfl (hb hby d5_2) _ ?_
    rw [len_of S_a1_2_1 N_a1_2_1]
    show Steps p.tables e below (s₁.setTop (mkF m 3 #[.val (.ref a1), .val (.int (1 : Int32)), .unset] [(.int (4 : Int32)), (.int (1 : Int32))])) _
    refine XS.icmpYes X0.here hx rfl (pc0 := 3) (pc' := 14) rfl (hb hby d5_3) rfl (feq (by decide : ¬ ((1 : Int32) = (4 : Int32)))).2 (by decide) (by decide) ?_
    refine XS.iloadN X0.here hx rfl (hb hby d5_14) rfl ?_
    show Steps p.tables e below (s₁.setTop (mkF m 15 #[.val (.ref a1), .val (.int (1 : Int32)), .unset] [(.int (1 : Int32))])) _
    refine st2 _ ?_
    show Steps p.tables e below (T2.setTop (mkF m 17 #[.val (.ref a1), .val (.int (1 : Int32)), .unset] [(.ref b2)])) _
    refine XS.astoreN X2.here hx rfl (hb hby d5_17) rfl rfl (l' := #[.val (.ref a1), .val (.int (1 : Int32)), .val (.ref b2)]) rfl ?_
    show Steps p.tables e below (T2.setTop (mkF m 18 #[.val (.ref a1), .val (.int (1 : Int32)), .val (.ref b2)] [])) _
    refine XS.aloadN X2.here hx rfl (hb hby d5_18) rfl rfl ?_
    refine XS.iconst X2.here hx rfl (hb hby d5_19) ?_
    refine XS.aloadN X2.here hx rfl (hb hby d5_20) rfl rfl ?_
    show Steps p.tables e below (T2.setTop (mkF m 21 #[.val (.ref a1), .val (.int (1 : Int32)), .val (.ref b2)] [(.ref b2), (.int (0 : Int32)), (.ref a1)])) _
    refine XS.iconst X2.here hx rfl (hb hby d5_21) ?_
    refine XS.aloadN X2.here hx rfl (hb hby d5_22) rfl rfl ?_
    refine X2.arraylength hx (by rw [e2]; exact Ar_a1_23_3.1) (State.isArrayOf_alike hZ.alike Ar_a1_23_3.2.1) (g := (mkF m 23 #[.val (.ref a1), .val (.int (1 : Int32)), .val (.ref b2)] [(.ref a1), (.int (0 : Int32)), (.ref b2), (.int (0 : Int32)), (.ref a1)])) rfl rfl (hb hby d5_23) _ ?_
    rw [len_of S_a1_23_3 N_a1_23_3]
    show Steps p.tables e below (T2.setTop (mkF m 24 #[.val (.ref a1), .val (.int (1 : Int32)), .val (.ref b2)] [(.int (4 : Int32)), (.int (0 : Int32)), (.ref b2), (.int (0 : Int32)), (.ref a1)])) _
    refine XS.iloadN X2.here hx rfl (hb hby d5_24) rfl ?_
    show Steps p.tables e below (T2.setTop (mkF m 25 #[.val (.ref a1), .val (.int (1 : Int32)), .val (.ref b2)] [(.int (1 : Int32)), (.int (4 : Int32)), (.int (0 : Int32)), (.ref b2), (.int (0 : Int32)), (.ref a1)])) _
    refine st4 _ ?_
    show Steps p.tables e below (T4.setTop (mkF m 28 #[.val (.ref a1), .val (.int (1 : Int32)), .val (.ref b2)] [(.int (1 : Int32)), (.int (0 : Int32)), (.ref b2), (.int (0 : Int32)), (.ref a1)])) _
    refine st5 _ ?_
    show Steps p.tables e below (T5.setTop (mkF m 31 #[.val (.ref a1), .val (.int (1 : Int32)), .val (.ref b2)] [])) _
    refine XS.aloadN X5.here hx rfl (hb hby d5_31) rfl rfl ?_
    show Steps p.tables e below (T5.setTop (mkF m 32 #[.val (.ref a1), .val (.int (1 : Int32)), .val (.ref b2)] [(.ref b2)])) _
    exact retOut X5 hx Bd.returns rfl (Or.inr (Or.inr (Or.inr (Or.inr ⟨rfl, rfl, rfl⟩)))) (hb hby d5_32) hr
  · show Q_copy_4_1 Z a1 ka x0 x1 x2 x3 h0 n0 _ T5.heap _
    rw [e5]
    exact ⟨b2, k2, rfl, N5, KK5, sz_b2, VV5⟩
theorem ef_copy_4_2 (m : MethodId) (a1 : Addr) : entryFrame m #[(.ref a1), (.int (2 : Int32))] 3 = (mkF m 0 #[.val (.ref a1), .val (.int (2 : Int32)), .unset] []) := by first | (simp [entryFrame, mkF, argsToLocals, Value.category]; done) | rfl
def Q_copy_4_2 (Z : State) (a1 : Addr) (ka : ClassId) (x0 : Int32) (x1 : Int32) (x2 : Int32) (x3 : Int32) (h0 : Heap) (n0 : Nat) (v : Option Value) (h : Heap) (L : List Loc) : Prop := ∃ (b2 : Addr) (k2 : ClassId), v = some (.ref b2) ∧ Fr n0 L ∧ Keep h0 h [] ∧ h0.size ≤ b2 ∧ Arv Z h b2 k2 .byte (2 : Int32) [(.int x0), (.int x1)] (.int (0 : Int32))
set_option maxRecDepth 65536 in
set_option maxHeartbeats 40000000 in
theorem rm_copy_4_2 (l : Launch) (Z : State) (a0 : Array Value) (hw : ∀ d ∈ tables_1, d.before a0 Z = true) (ws : List Jvm.Cond) (a1 : Addr) (ka : ClassId) (x0 : Int32) (x1 : Int32) (x2 : Int32) (x3 : Int32) (h0 : Heap) (n0 : Nat) (Z0 : n0 ≤ h0.size) (V_a1 : Arv Z h0 a1 ka .byte (4 : Int32) [(.int x0), (.int x1), (.int x2), (.int x3)] (.int (0 : Int32))) (E_a1 : Exa Z h0 a1 "[B") :
    MetFree l (⟨"java/util/Arrays", "copyOf", "([BI)[B"⟩ : MethodName) (head1 (Jvm.Cond.code (⟨"java/util/Arrays", "copyOf", "([BI)[B"⟩ : MethodName) jdk_65_method_121_code 3 (some (.array .byte)) :: ws) ({ frames := 1, cells := 1, slots := 2, locals := 18 } : Room)) (fun a U => a = #[(.ref a1), (.int (2 : Int32))] ∧ Z.Warmed39 U.vm ∧ U.heap = h0) (fun _ _ _ _ _ => True) (fun _ U o U' => ∃ v L, o = .returned v ∧ Q_copy_4_2 Z a1 ka x0 x1 x2 x3 h0 n0 v U'.heap L ∧ FrameEnd U o U' L ({ frames := 1, cells := 1, slots := 2, locals := 18 } : Room).cells ({ frames := 1, cells := 1, slots := 2, locals := 18 } : Room).slots) := by
  refine MetFree.of_bodySF (plainFor_of_name pn1) hisR ?_
  intro p e s m args below meth c s₁ Bd hml0 hP hK
  obtain ⟨rfl, hZ, hh⟩ := hP
  have hx := Bd.exec
  have hby := Bd.bytes
  have hml : c.maxLocals = 3 := hml0
  have hown : s.vm.findClass "java/util/Arrays" = some m.cls := findClass_of_methodNamed Bd.named
  have hnm := (name_of_methodNamed Bd.named Bd.method).1
  have X0 : Stand p l e ({ frames := 1, cells := 1, slots := 2, locals := 18 } : Room) s m #[(.ref a1), (.int (2 : Int32))] below meth c s₁ [] 0 0 := Stand.of_body Bd
  have e0 : s₁.heap = h0 := by rw [← hh, Bd.state]; rfl
  have N0 := Fr.nil n0
  have pre0 : ∀ t, Steps p.tables e below (s₁.setTop (mkF m 0 #[.val (.ref a1), .val (.int (2 : Int32)), .unset] [])) t → Steps p.tables e below (s₁.setTop (entryFrame m #[(.ref a1), (.int (2 : Int32))] 3)) t := fun t k => castTop (ef_copy_4_2 m a1) k
  obtain ⟨cl_a1_2_1, Ar_a1_2_1, -, S_a1_2_1, N_a1_2_1, -, -⟩ := id V_a1
  obtain ⟨T2, h2, k2, X2, e2, E2, A2, st2⟩ := newP X0 hx hZ (hw _ (List.mem_of_getElem? (i := 10) rfl)) e0 (g := (mkF m 15 #[.val (.ref a1), .val (.int (2 : Int32)), .unset] [(.int (2 : Int32))])) rfl (hb hby d5_15) rfl (by decide) (cap := 2) (by decide) (by decide) (by decide) (by decide)
  obtain ⟨b2, g2⟩ : ∃ z, z = h0.size := ⟨_, rfl⟩
  rw [← g2] at A2 st2
  have sz_b2 : h0.size ≤ b2 := Nat.le_trans (Keep.refl h0 []).1 (Nat.le_of_eq g2.symm)
  have g_b2 : n0 ≤ b2 := Nat.le_trans Z0 sz_b2
  have K2 : Keep h0 h2 [] := (Keep.refl h0 []).ext E2
  have V_b2 : Arv Z h2 b2 k2 .byte (2 : Int32) [(.int (0 : Int32)), (.int (0 : Int32))] (.int (0 : Int32)) := (Arv.new A2 (by decide)).pad (pad_rep [] (.int (0 : Int32)) 2)
  obtain ⟨cl_a1_23_3, Ar_a1_23_3, -, S_a1_23_3, N_a1_23_3, -, -⟩ := id (V_a1.ext E2)
  obtain ⟨_, _, ⟨T4, L4, k4, n4⟩, -, X4, ⟨Lc4, hQ4, l4, y4, z4⟩, st4⟩ := Jvm.LawKit.callS X2 hx (y := (⟨"java/lang/Math", "min", "(II)I"⟩ : MethodName)) hown (mvT hZ (hw _ (List.mem_of_getElem? (i := 28) rfl))) (mvT hZ (hw _ (List.mem_of_getElem? (i := 29) rfl))) (mvT hZ (hw _ (List.mem_of_getElem? (i := 30) rfl))) (mvT hZ (hw _ (List.mem_of_getElem? (i := 31) rfl))) (by decide) (backOf (W := 4) (rm6 l Z a0 hw [] (4 : Int32) (2 : Int32)  h2 n0 (Nat.le_trans Z0 K2.1)  ) hZ (hw _ (List.mem_of_getElem? (i := 31) rfl)) (hw _ (List.mem_of_getElem? (i := 30) rfl)) (by decide) (by decide)) (g := (mkF m 25 #[.val (.ref a1), .val (.int (2 : Int32)), .val (.ref b2)] [(.int (2 : Int32)), (.int (4 : Int32)), (.int (0 : Int32)), (.ref b2), (.int (0 : Int32)), (.ref a1)])) rfl (by rw [hml]; rfl) (argsL := [(.int (4 : Int32)), (.int (2 : Int32))]) (rest := [(.int (0 : Int32)), (.ref b2), (.int (0 : Int32)), (.ref a1)]) (lenOf pd0 rfl) rfl (by show 2 * 0 + _ ≤ _; exact Nat.le_of_eq rfl) (hb hby d5_25) (fun _ _ => ⟨rfl, e2, (by decide : 1 + 0 ≤ _), (by decide : 2 + 0 ≤ _)⟩)
  dsimp only [Pt.U, Pt.locs, Pt.cells, Pt.slots] at X4 l4 y4 z4 st4 hQ4
  subst l4 y4 z4
  obtain ⟨rfl, rfl, e4⟩ := hQ4
  have N4 := Fr.app N0 (Fr.nil n0)
  have ev4 : (res6 (4 : Int32) (2 : Int32)) = (2 : Int32) := by first | rfl | decide
  rw [ev4] at st4
  obtain ⟨T5, h5, L5, X5, e5, N5, K5, V5, st5⟩ := cpA X4 hx hZ hown (hw _ (List.mem_of_getElem? (i := 32) rfl)) (hw _ (List.mem_of_getElem? (i := 35) rfl)) (hw _ (List.mem_of_getElem? (i := 33) rfl)) (hw _ (List.mem_of_getElem? (i := 34) rfl)) e4 (V_a1.ext E2) V_b2 (us := [(.int x0), (.int x1)]) (Or.inl ⟨rfl, rfl⟩) (by decide) (by decide) (by decide) (by decide) (by decide) rfl (by decide) N4 g_b2 (g := (mkF m 28 #[.val (.ref a1), .val (.int (2 : Int32)), .val (.ref b2)] [(.int (2 : Int32)), (.int (0 : Int32)), (.ref b2), (.int (0 : Int32)), (.ref a1)])) rfl (by rw [hml]; rfl) rfl (hb hby d5_28) (by decide) (W := 0) (by show 2 * 0 + _ ≤ _; exact Nat.le_of_eq rfl) (by decide)
  have VV5 : Arv Z h5 b2 k2 .byte (2 : Int32) [(.int x0), (.int x1)] (.int (0 : Int32)) := V5
  have KK5 : Keep h0 h5 [] := K2.trans K5 (allS (Or.inr sz_b2) all0)
  obtain ⟨fs, hr, hrun, hended, hW, hsame⟩ := X5.leave (v := some (.ref b2)) (fun h => by rw [Bd.returns] at h; cases h)
  refine ⟨_, _, pre0 _ ?_, hrun, hended, _, _, rfl, ?_, ⟨_, rfl⟩, hW, hsame.mono (by decide) (by decide)⟩
  · show Steps p.tables e below (s₁.setTop (mkF m 0 #[.val (.ref a1), .val (.int (2 : Int32)), .unset] [])) _
    refine XS.iloadN X0.here hx rfl (hb hby d5_0) rfl ?_
    refine XS.aloadN X0.here hx rfl (hb hby d5_1) rfl rfl ?_
    refine X0.arraylength hx (by rw [e0]; exact Ar_a1_2_1.1) (State.isArrayOf_alike hZ.alike Ar_a1_2_1.2.1) (g := (mkF m 2 #[.val (.ref a1), .val (.int (2 : Int32)), .unset] [(.ref a1), (.int (2 : Int32))])) rfl rfl (hb hby d5_2) _ ?_
    rw [len_of S_a1_2_1 N_a1_2_1]
    show Steps p.tables e below (s₁.setTop (mkF m 3 #[.val (.ref a1), .val (.int (2 : Int32)), .unset] [(.int (4 : Int32)), (.int (2 : Int32))])) _
    refine XS.icmpYes X0.here hx rfl (pc0 := 3) (pc' := 14) rfl (hb hby d5_3) rfl (feq (by decide : ¬ ((2 : Int32) = (4 : Int32)))).2 (by decide) (by decide) ?_
    refine XS.iloadN X0.here hx rfl (hb hby d5_14) rfl ?_
    show Steps p.tables e below (s₁.setTop (mkF m 15 #[.val (.ref a1), .val (.int (2 : Int32)), .unset] [(.int (2 : Int32))])) _
    refine st2 _ ?_
    show Steps p.tables e below (T2.setTop (mkF m 17 #[.val (.ref a1), .val (.int (2 : Int32)), .unset] [(.ref b2)])) _
    refine XS.astoreN X2.here hx rfl (hb hby d5_17) rfl rfl (l' := #[.val (.ref a1), .val (.int (2 : Int32)), .val (.ref b2)]) rfl ?_
    show Steps p.tables e below (T2.setTop (mkF m 18 #[.val (.ref a1), .val (.int (2 : Int32)), .val (.ref b2)] [])) _
    refine XS.aloadN X2.here hx rfl (hb hby d5_18) rfl rfl ?_
    refine XS.iconst X2.here hx rfl (hb hby d5_19) ?_
    refine XS.aloadN X2.here hx rfl (hb hby d5_20) rfl rfl ?_
    show Steps p.tables e below (T2.setTop (mkF m 21 #[.val (.ref a1), .val (.int (2 : Int32)), .val (.ref b2)] [(.ref b2), (.int (0 : Int32)), (.ref a1)])) _
    refine XS.iconst X2.here hx rfl (hb hby d5_21) ?_
    refine XS.aloadN X2.here hx rfl (hb hby d5_22) rfl rfl ?_
    refine X2.arraylength hx (by rw [e2]; exact Ar_a1_23_3.1) (State.isArrayOf_alike hZ.alike Ar_a1_23_3.2.1) (g := (mkF m 23 #[.val (.ref a1), .val (.int (2 : Int32)), .val (.ref b2)] [(.ref a1), (.int (0 : Int32)), (.ref b2), (.int (0 : Int32)), (.ref a1)])) rfl rfl (hb hby d5_23) _ ?_
    rw [len_of S_a1_23_3 N_a1_23_3]
    show Steps p.tables e below (T2.setTop (mkF m 24 #[.val (.ref a1), .val (.int (2 : Int32)), .val (.ref b2)] [(.int (4 : Int32)), (.int (0 : Int32)), (.ref b2), (.int (0 : Int32)), (.ref a1)])) _
    refine XS.iloadN X2.here hx rfl (hb hby d5_24) rfl ?_
    show Steps p.tables e below (T2.setTop (mkF m 25 #[.val (.ref a1), .val (.int (2 : Int32)), .val (.ref b2)] [(.int (2 : Int32)), (.int (4 : Int32)), (.int (0 : Int32)), (.ref b2), (.int (0 : Int32)), (.ref a1)])) _
    refine st4 _ ?_
    show Steps p.tables e below (T4.setTop (mkF m 28 #[.val (.ref a1), .val (.int (2 : Int32)), .val (.ref b2)] [(.int (2 : Int32)), (.int (0 : Int32)), (.ref b2), (.int (0 : Int32)), (.ref a1)])) _
    refine st5 _ ?_
    show Steps p.tables e below (T5.setTop (mkF m 31 #[.val (.ref a1), .val (.int (2 : Int32)), .val (.ref b2)] [])) _
    refine XS.aloadN X5.here hx rfl (hb hby d5_31) rfl rfl ?_
    show Steps p.tables e below (T5.setTop (mkF m 32 #[.val (.ref a1), .val (.int (2 : Int32)), .val (.ref b2)] [(.ref b2)])) _
    exact retOut X5 hx Bd.returns rfl (Or.inr (Or.inr (Or.inr (Or.inr ⟨rfl, rfl, rfl⟩)))) (hb hby d5_32) hr
  · show Q_copy_4_2 Z a1 ka x0 x1 x2 x3 h0 n0 _ T5.heap _
    rw [e5]
    exact ⟨b2, k2, rfl, N5, KK5, sz_b2, VV5⟩
theorem ef_copy_4_3 (m : MethodId) (a1 : Addr) : entryFrame m #[(.ref a1), (.int (3 : Int32))] 3 = (mkF m 0 #[.val (.ref a1), .val (.int (3 : Int32)), .unset] []) := by first | (simp [entryFrame, mkF, argsToLocals, Value.category]; done) | rfl
def Q_copy_4_3 (Z : State) (a1 : Addr) (ka : ClassId) (x0 : Int32) (x1 : Int32) (x2 : Int32) (x3 : Int32) (h0 : Heap) (n0 : Nat) (v : Option Value) (h : Heap) (L : List Loc) : Prop := ∃ (b2 : Addr) (k2 : ClassId), v = some (.ref b2) ∧ Fr n0 L ∧ Keep h0 h [] ∧ h0.size ≤ b2 ∧ Arv Z h b2 k2 .byte (3 : Int32) [(.int x0), (.int x1), (.int x2)] (.int (0 : Int32))
set_option maxRecDepth 65536 in
set_option maxHeartbeats 40000000 in
theorem rm_copy_4_3 (l : Launch) (Z : State) (a0 : Array Value) (hw : ∀ d ∈ tables_1, d.before a0 Z = true) (ws : List Jvm.Cond) (a1 : Addr) (ka : ClassId) (x0 : Int32) (x1 : Int32) (x2 : Int32) (x3 : Int32) (h0 : Heap) (n0 : Nat) (Z0 : n0 ≤ h0.size) (V_a1 : Arv Z h0 a1 ka .byte (4 : Int32) [(.int x0), (.int x1), (.int x2), (.int x3)] (.int (0 : Int32))) (E_a1 : Exa Z h0 a1 "[B") :
    MetFree l (⟨"java/util/Arrays", "copyOf", "([BI)[B"⟩ : MethodName) (head1 (Jvm.Cond.code (⟨"java/util/Arrays", "copyOf", "([BI)[B"⟩ : MethodName) jdk_65_method_121_code 3 (some (.array .byte)) :: ws) ({ frames := 1, cells := 1, slots := 3, locals := 18 } : Room)) (fun a U => a = #[(.ref a1), (.int (3 : Int32))] ∧ Z.Warmed39 U.vm ∧ U.heap = h0) (fun _ _ _ _ _ => True) (fun _ U o U' => ∃ v L, o = .returned v ∧ Q_copy_4_3 Z a1 ka x0 x1 x2 x3 h0 n0 v U'.heap L ∧ FrameEnd U o U' L ({ frames := 1, cells := 1, slots := 3, locals := 18 } : Room).cells ({ frames := 1, cells := 1, slots := 3, locals := 18 } : Room).slots) := by
  refine MetFree.of_bodySF (plainFor_of_name pn1) hisR ?_
  intro p e s m args below meth c s₁ Bd hml0 hP hK
  obtain ⟨rfl, hZ, hh⟩ := hP
  have hx := Bd.exec
  have hby := Bd.bytes
  have hml : c.maxLocals = 3 := hml0
  have hown : s.vm.findClass "java/util/Arrays" = some m.cls := findClass_of_methodNamed Bd.named
  have hnm := (name_of_methodNamed Bd.named Bd.method).1
  have X0 : Stand p l e ({ frames := 1, cells := 1, slots := 3, locals := 18 } : Room) s m #[(.ref a1), (.int (3 : Int32))] below meth c s₁ [] 0 0 := Stand.of_body Bd
  have e0 : s₁.heap = h0 := by rw [← hh, Bd.state]; rfl
  have N0 := Fr.nil n0
  have pre0 : ∀ t, Steps p.tables e below (s₁.setTop (mkF m 0 #[.val (.ref a1), .val (.int (3 : Int32)), .unset] [])) t → Steps p.tables e below (s₁.setTop (entryFrame m #[(.ref a1), (.int (3 : Int32))] 3)) t := fun t k => castTop (ef_copy_4_3 m a1) k
  obtain ⟨cl_a1_2_1, Ar_a1_2_1, -, S_a1_2_1, N_a1_2_1, -, -⟩ := id V_a1
  obtain ⟨T2, h2, k2, X2, e2, E2, A2, st2⟩ := newP X0 hx hZ (hw _ (List.mem_of_getElem? (i := 10) rfl)) e0 (g := (mkF m 15 #[.val (.ref a1), .val (.int (3 : Int32)), .unset] [(.int (3 : Int32))])) rfl (hb hby d5_15) rfl (by decide) (cap := 3) (by decide) (by decide) (by decide) (by decide)
  obtain ⟨b2, g2⟩ : ∃ z, z = h0.size := ⟨_, rfl⟩
  rw [← g2] at A2 st2
  have sz_b2 : h0.size ≤ b2 := Nat.le_trans (Keep.refl h0 []).1 (Nat.le_of_eq g2.symm)
  have g_b2 : n0 ≤ b2 := Nat.le_trans Z0 sz_b2
  have K2 : Keep h0 h2 [] := (Keep.refl h0 []).ext E2
  have V_b2 : Arv Z h2 b2 k2 .byte (3 : Int32) [(.int (0 : Int32)), (.int (0 : Int32)), (.int (0 : Int32))] (.int (0 : Int32)) := (Arv.new A2 (by decide)).pad (pad_rep [] (.int (0 : Int32)) 3)
  obtain ⟨cl_a1_23_3, Ar_a1_23_3, -, S_a1_23_3, N_a1_23_3, -, -⟩ := id (V_a1.ext E2)
  obtain ⟨_, _, ⟨T4, L4, k4, n4⟩, -, X4, ⟨Lc4, hQ4, l4, y4, z4⟩, st4⟩ := Jvm.LawKit.callS X2 hx (y := (⟨"java/lang/Math", "min", "(II)I"⟩ : MethodName)) hown (mvT hZ (hw _ (List.mem_of_getElem? (i := 28) rfl))) (mvT hZ (hw _ (List.mem_of_getElem? (i := 29) rfl))) (mvT hZ (hw _ (List.mem_of_getElem? (i := 30) rfl))) (mvT hZ (hw _ (List.mem_of_getElem? (i := 31) rfl))) (by decide) (backOf (W := 4) (rm6 l Z a0 hw [] (4 : Int32) (3 : Int32)  h2 n0 (Nat.le_trans Z0 K2.1)  ) hZ (hw _ (List.mem_of_getElem? (i := 31) rfl)) (hw _ (List.mem_of_getElem? (i := 30) rfl)) (by decide) (by decide)) (g := (mkF m 25 #[.val (.ref a1), .val (.int (3 : Int32)), .val (.ref b2)] [(.int (3 : Int32)), (.int (4 : Int32)), (.int (0 : Int32)), (.ref b2), (.int (0 : Int32)), (.ref a1)])) rfl (by rw [hml]; rfl) (argsL := [(.int (4 : Int32)), (.int (3 : Int32))]) (rest := [(.int (0 : Int32)), (.ref b2), (.int (0 : Int32)), (.ref a1)]) (lenOf pd0 rfl) rfl (by show 2 * 0 + _ ≤ _; exact Nat.le_of_eq rfl) (hb hby d5_25) (fun _ _ => ⟨rfl, e2, (by decide : 1 + 0 ≤ _), (by decide : 3 + 0 ≤ _)⟩)
  dsimp only [Pt.U, Pt.locs, Pt.cells, Pt.slots] at X4 l4 y4 z4 st4 hQ4
  subst l4 y4 z4
  obtain ⟨rfl, rfl, e4⟩ := hQ4
  have N4 := Fr.app N0 (Fr.nil n0)
  have ev4 : (res6 (4 : Int32) (3 : Int32)) = (3 : Int32) := by first | rfl | decide
  rw [ev4] at st4
  obtain ⟨T5, h5, L5, X5, e5, N5, K5, V5, st5⟩ := cpA X4 hx hZ hown (hw _ (List.mem_of_getElem? (i := 32) rfl)) (hw _ (List.mem_of_getElem? (i := 35) rfl)) (hw _ (List.mem_of_getElem? (i := 33) rfl)) (hw _ (List.mem_of_getElem? (i := 34) rfl)) e4 (V_a1.ext E2) V_b2 (us := [(.int x0), (.int x1), (.int x2)]) (Or.inl ⟨rfl, rfl⟩) (by decide) (by decide) (by decide) (by decide) (by decide) rfl (by decide) N4 g_b2 (g := (mkF m 28 #[.val (.ref a1), .val (.int (3 : Int32)), .val (.ref b2)] [(.int (3 : Int32)), (.int (0 : Int32)), (.ref b2), (.int (0 : Int32)), (.ref a1)])) rfl (by rw [hml]; rfl) rfl (hb hby d5_28) (by decide) (W := 0) (by show 2 * 0 + _ ≤ _; exact Nat.le_of_eq rfl) (by decide)
  have VV5 : Arv Z h5 b2 k2 .byte (3 : Int32) [(.int x0), (.int x1), (.int x2)] (.int (0 : Int32)) := V5
  have KK5 : Keep h0 h5 [] := K2.trans K5 (allS (Or.inr sz_b2) all0)
  obtain ⟨fs, hr, hrun, hended, hW, hsame⟩ := X5.leave (v := some (.ref b2)) (fun h => by rw [Bd.returns] at h; cases h)
  refine ⟨_, _, pre0 _ ?_, hrun, hended, _, _, rfl, ?_, ⟨_, rfl⟩, hW, hsame.mono (by decide) (by decide)⟩
  · show Steps p.tables e below (s₁.setTop (mkF m 0 #[.val (.ref a1), .val (.int (3 : Int32)), .unset] [])) _
    refine XS.iloadN X0.here hx rfl (hb hby d5_0) rfl ?_
    refine XS.aloadN X0.here hx rfl (hb hby d5_1) rfl rfl ?_
    refine X0.arraylength hx (by rw [e0]; exact Ar_a1_2_1.1) (State.isArrayOf_alike hZ.alike Ar_a1_2_1.2.1) (g := (mkF m 2 #[.val (.ref a1), .val (.int (3 : Int32)), .unset] [(.ref a1), (.int (3 : Int32))])) rfl rfl (hb hby d5_2) _ ?_
    rw [len_of S_a1_2_1 N_a1_2_1]
    show Steps p.tables e below (s₁.setTop (mkF m 3 #[.val (.ref a1), .val (.int (3 : Int32)), .unset] [(.int (4 : Int32)), (.int (3 : Int32))])) _
    refine XS.icmpYes X0.here hx rfl (pc0 := 3) (pc' := 14) rfl (hb hby d5_3) rfl (feq (by decide : ¬ ((3 : Int32) = (4 : Int32)))).2 (by decide) (by decide) ?_
    refine XS.iloadN X0.here hx rfl (hb hby d5_14) rfl ?_
    show Steps p.tables e below (s₁.setTop (mkF m 15 #[.val (.ref a1), .val (.int (3 : Int32)), .unset] [(.int (3 : Int32))])) _
    refine st2 _ ?_
    show Steps p.tables e below (T2.setTop (mkF m 17 #[.val (.ref a1), .val (.int (3 : Int32)), .unset] [(.ref b2)])) _
    refine XS.astoreN X2.here hx rfl (hb hby d5_17) rfl rfl (l' := #[.val (.ref a1), .val (.int (3 : Int32)), .val (.ref b2)]) rfl ?_
    show Steps p.tables e below (T2.setTop (mkF m 18 #[.val (.ref a1), .val (.int (3 : Int32)), .val (.ref b2)] [])) _
    refine XS.aloadN X2.here hx rfl (hb hby d5_18) rfl rfl ?_
    refine XS.iconst X2.here hx rfl (hb hby d5_19) ?_
    refine XS.aloadN X2.here hx rfl (hb hby d5_20) rfl rfl ?_
    show Steps p.tables e below (T2.setTop (mkF m 21 #[.val (.ref a1), .val (.int (3 : Int32)), .val (.ref b2)] [(.ref b2), (.int (0 : Int32)), (.ref a1)])) _
    refine XS.iconst X2.here hx rfl (hb hby d5_21) ?_
    refine XS.aloadN X2.here hx rfl (hb hby d5_22) rfl rfl ?_
    refine X2.arraylength hx (by rw [e2]; exact Ar_a1_23_3.1) (State.isArrayOf_alike hZ.alike Ar_a1_23_3.2.1) (g := (mkF m 23 #[.val (.ref a1), .val (.int (3 : Int32)), .val (.ref b2)] [(.ref a1), (.int (0 : Int32)), (.ref b2), (.int (0 : Int32)), (.ref a1)])) rfl rfl (hb hby d5_23) _ ?_
    rw [len_of S_a1_23_3 N_a1_23_3]
    show Steps p.tables e below (T2.setTop (mkF m 24 #[.val (.ref a1), .val (.int (3 : Int32)), .val (.ref b2)] [(.int (4 : Int32)), (.int (0 : Int32)), (.ref b2), (.int (0 : Int32)), (.ref a1)])) _
    refine XS.iloadN X2.here hx rfl (hb hby d5_24) rfl ?_
    show Steps p.tables e below (T2.setTop (mkF m 25 #[.val (.ref a1), .val (.int (3 : Int32)), .val (.ref b2)] [(.int (3 : Int32)), (.int (4 : Int32)), (.int (0 : Int32)), (.ref b2), (.int (0 : Int32)), (.ref a1)])) _
    refine st4 _ ?_
    show Steps p.tables e below (T4.setTop (mkF m 28 #[.val (.ref a1), .val (.int (3 : Int32)), .val (.ref b2)] [(.int (3 : Int32)), (.int (0 : Int32)), (.ref b2), (.int (0 : Int32)), (.ref a1)])) _
    refine st5 _ ?_
    show Steps p.tables e below (T5.setTop (mkF m 31 #[.val (.ref a1), .val (.int (3 : Int32)), .val (.ref b2)] [])) _
    refine XS.aloadN X5.here hx rfl (hb hby d5_31) rfl rfl ?_
    show Steps p.tables e below (T5.setTop (mkF m 32 #[.val (.ref a1), .val (.int (3 : Int32)), .val (.ref b2)] [(.ref b2)])) _
    exact retOut X5 hx Bd.returns rfl (Or.inr (Or.inr (Or.inr (Or.inr ⟨rfl, rfl, rfl⟩)))) (hb hby d5_32) hr
  · show Q_copy_4_3 Z a1 ka x0 x1 x2 x3 h0 n0 _ T5.heap _
    rw [e5]
    exact ⟨b2, k2, rfl, N5, KK5, sz_b2, VV5⟩
theorem ef_copy_4_4 (m : MethodId) (a1 : Addr) : entryFrame m #[(.ref a1), (.int (4 : Int32))] 3 = (mkF m 0 #[.val (.ref a1), .val (.int (4 : Int32)), .unset] []) := by first | (simp [entryFrame, mkF, argsToLocals, Value.category]; done) | rfl
def Q_copy_4_4 (Z : State) (a1 : Addr) (ka : ClassId) (x0 : Int32) (x1 : Int32) (x2 : Int32) (x3 : Int32) (h0 : Heap) (n0 : Nat) (v : Option Value) (h : Heap) (L : List Loc) : Prop := ∃ (b2 : Addr), v = some (.ref b2) ∧ Fr n0 L ∧ Keep h0 h [] ∧ h0.size ≤ b2 ∧ Arv Z h b2 ka .byte (4 : Int32) [(.int x0), (.int x1), (.int x2), (.int x3)] (.int (0 : Int32)) ∧ Exa Z h b2 "[B"
set_option maxRecDepth 65536 in
set_option maxHeartbeats 40000000 in
theorem rm_copy_4_4 (l : Launch) (Z : State) (a0 : Array Value) (hw : ∀ d ∈ tables_1, d.before a0 Z = true) (ws : List Jvm.Cond) (a1 : Addr) (ka : ClassId) (x0 : Int32) (x1 : Int32) (x2 : Int32) (x3 : Int32) (h0 : Heap) (n0 : Nat) (Z0 : n0 ≤ h0.size) (V_a1 : Arv Z h0 a1 ka .byte (4 : Int32) [(.int x0), (.int x1), (.int x2), (.int x3)] (.int (0 : Int32))) (E_a1 : Exa Z h0 a1 "[B") :
    MetFree l (⟨"java/util/Arrays", "copyOf", "([BI)[B"⟩ : MethodName) (head1 (Jvm.Cond.code (⟨"java/util/Arrays", "copyOf", "([BI)[B"⟩ : MethodName) jdk_65_method_121_code 3 (some (.array .byte)) :: ws) ({ frames := 1, cells := 1, slots := 4, locals := 14 } : Room)) (fun a U => a = #[(.ref a1), (.int (4 : Int32))] ∧ Z.Warmed39 U.vm ∧ U.heap = h0) (fun _ _ _ _ _ => True) (fun _ U o U' => ∃ v L, o = .returned v ∧ Q_copy_4_4 Z a1 ka x0 x1 x2 x3 h0 n0 v U'.heap L ∧ FrameEnd U o U' L ({ frames := 1, cells := 1, slots := 4, locals := 14 } : Room).cells ({ frames := 1, cells := 1, slots := 4, locals := 14 } : Room).slots) := by
  refine MetFree.of_bodySF (plainFor_of_name pn1) hisR ?_
  intro p e s m args below meth c s₁ Bd hml0 hP hK
  obtain ⟨rfl, hZ, hh⟩ := hP
  have hx := Bd.exec
  have hby := Bd.bytes
  have hml : c.maxLocals = 3 := hml0
  have hown : s.vm.findClass "java/util/Arrays" = some m.cls := findClass_of_methodNamed Bd.named
  have hnm := (name_of_methodNamed Bd.named Bd.method).1
  have X0 : Stand p l e ({ frames := 1, cells := 1, slots := 4, locals := 14 } : Room) s m #[(.ref a1), (.int (4 : Int32))] below meth c s₁ [] 0 0 := Stand.of_body Bd
  have e0 : s₁.heap = h0 := by rw [← hh, Bd.state]; rfl
  have N0 := Fr.nil n0
  have pre0 : ∀ t, Steps p.tables e below (s₁.setTop (mkF m 0 #[.val (.ref a1), .val (.int (4 : Int32)), .unset] [])) t → Steps p.tables e below (s₁.setTop (entryFrame m #[(.ref a1), (.int (4 : Int32))] 3)) t := fun t k => castTop (ef_copy_4_4 m a1) k
  obtain ⟨cl_a1_2_1, Ar_a1_2_1, -, S_a1_2_1, N_a1_2_1, -, -⟩ := id V_a1
  obtain ⟨T2, h2, X2, e2, E2, A2, B2, st2⟩ := cloneH X0 hx hZ hown (hw _ (List.mem_of_getElem? (i := 19) rfl)) (hw _ (List.mem_of_getElem? (i := 20) rfl)) (hw _ (List.mem_of_getElem? (i := 24) rfl)) (hw _ (List.mem_of_getElem? (i := 22) rfl)) (hw _ (List.mem_of_getElem? (i := 23) rfl)) (hw _ (List.mem_of_getElem? (i := 25) rfl)) e0 (V_a1).arh E_a1 (g := (mkF m 7 #[.val (.ref a1), .val (.int (4 : Int32)), .unset] [(.ref a1)])) rfl (by rw [hml]; rfl) rfl (hb hby d5_7) (by decide) (W := 0) (cap := 4) (by show 2 * 0 + _ ≤ _; exact Nat.le_of_eq rfl) (by decide) (by decide) (by decide) (by decide)
  obtain ⟨b2, g2⟩ : ∃ z, z = h0.size := ⟨_, rfl⟩
  rw [← g2] at A2 B2 st2
  have sz_b2 : h0.size ≤ b2 := Nat.le_trans (Keep.refl h0 []).1 (Nat.le_of_eq g2.symm)
  have g_b2 : n0 ≤ b2 := Nat.le_trans Z0 sz_b2
  have K2 : Keep h0 h2 [] := (Keep.refl h0 []).ext E2
  have V_b2 := own_arv A2
  obtain ⟨T3, X3, e3, st3⟩ := castY X2 hx hZ hown (hw _ (List.mem_of_getElem? (i := 26) rfl)) e2 (Ins.self B2) (g := (mkF m 10 #[.val (.ref a1), .val (.int (4 : Int32)), .unset] [(.ref b2)])) rfl rfl (hb hby d5_10)
  obtain ⟨fs, hr, hrun, hended, hW, hsame⟩ := X3.leave (v := some (.ref b2)) (fun h => by rw [Bd.returns] at h; cases h)
  refine ⟨_, _, pre0 _ ?_, hrun, hended, _, _, rfl, ?_, ⟨_, rfl⟩, hW, hsame.mono (by decide) (by decide)⟩
  · show Steps p.tables e below (s₁.setTop (mkF m 0 #[.val (.ref a1), .val (.int (4 : Int32)), .unset] [])) _
    refine XS.iloadN X0.here hx rfl (hb hby d5_0) rfl ?_
    refine XS.aloadN X0.here hx rfl (hb hby d5_1) rfl rfl ?_
    refine X0.arraylength hx (by rw [e0]; exact Ar_a1_2_1.1) (State.isArrayOf_alike hZ.alike Ar_a1_2_1.2.1) (g := (mkF m 2 #[.val (.ref a1), .val (.int (4 : Int32)), .unset] [(.ref a1), (.int (4 : Int32))])) rfl rfl (hb hby d5_2) _ ?_
    rw [len_of S_a1_2_1 N_a1_2_1]
    show Steps p.tables e below (s₁.setTop (mkF m 3 #[.val (.ref a1), .val (.int (4 : Int32)), .unset] [(.int (4 : Int32)), (.int (4 : Int32))])) _
    refine XS.icmpNo X0.here hx rfl (hb hby d5_3) rfl (teq (by decide : (4 : Int32) = (4 : Int32))).2 ?_
    refine XS.aloadN X0.here hx rfl (hb hby d5_6) rfl rfl ?_
    show Steps p.tables e below (s₁.setTop (mkF m 7 #[.val (.ref a1), .val (.int (4 : Int32)), .unset] [(.ref a1)])) _
    refine st2 _ ?_
    show Steps p.tables e below (T2.setTop (mkF m 10 #[.val (.ref a1), .val (.int (4 : Int32)), .unset] [(.ref b2)])) _
    refine st3 _ ?_
    show Steps p.tables e below (T3.setTop (mkF m 13 #[.val (.ref a1), .val (.int (4 : Int32)), .unset] [(.ref b2)])) _
    exact retOut X3 hx Bd.returns rfl (Or.inr (Or.inr (Or.inr (Or.inr ⟨rfl, rfl, rfl⟩)))) (hb hby d5_13) hr
  · show Q_copy_4_4 Z a1 ka x0 x1 x2 x3 h0 n0 _ T3.heap _
    rw [e3]
    exact ⟨b2, rfl, N0, K2, sz_b2, V_b2, B2⟩
theorem d4_0 : decode prog_107_method_15_code 0 = .ok (.aload_n 0, 1) := by decide +kernel
theorem d4_1 : decode prog_107_method_15_code 1 = .ok (.arraylength, 1) := by decide +kernel
theorem d4_2 : decode prog_107_method_15_code 2 = .ok (.istore_n 1, 1) := by decide +kernel
theorem d4_3 : decode prog_107_method_15_code 3 = .ok (.aload_n 0, 1) := by decide +kernel
theorem d4_4 : decode prog_107_method_15_code 4 = .ok (.iload_n 1, 1) := by decide +kernel
theorem d4_5 : decode prog_107_method_15_code 5 = .ok (.iconst 1, 1) := by decide +kernel
theorem d4_6 : decode prog_107_method_15_code 6 = .ok (.isub, 1) := by decide +kernel
theorem d4_7 : decode prog_107_method_15_code 7 = .ok (.baload, 1) := by decide +kernel
theorem d4_8 : decode prog_107_method_15_code 8 = .ok (.iconst (-1), 1) := by decide +kernel
theorem d4_9 : decode prog_107_method_15_code 9 = .ok (.if_icmp .ne 9, 3) := by decide +kernel
theorem d4_18 : decode prog_107_method_15_code 18 = .ok (.aload_n 0, 1) := by decide +kernel
theorem d4_19 : decode prog_107_method_15_code 19 = .ok (.iload_n 1, 1) := by decide +kernel
theorem d4_20 : decode prog_107_method_15_code 20 = .ok (.invokestatic 124, 3) := by decide +kernel
theorem d4_23 : decode prog_107_method_15_code 23 = .ok (.astore_n 2, 1) := by decide +kernel
theorem d4_24 : decode prog_107_method_15_code 24 = .ok (.aload_n 2, 1) := by decide +kernel
theorem d4_25 : decode prog_107_method_15_code 25 = .ok (.iload_n 1, 1) := by decide +kernel
theorem d4_26 : decode prog_107_method_15_code 26 = .ok (.iconst 1, 1) := by decide +kernel
theorem d4_27 : decode prog_107_method_15_code 27 = .ok (.isub, 1) := by decide +kernel
theorem d4_28 : decode prog_107_method_15_code 28 = .ok (.dup2, 1) := by decide +kernel
theorem d4_29 : decode prog_107_method_15_code 29 = .ok (.baload, 1) := by decide +kernel
theorem d4_30 : decode prog_107_method_15_code 30 = .ok (.iconst 1, 1) := by decide +kernel
theorem d4_31 : decode prog_107_method_15_code 31 = .ok (.iadd, 1) := by decide +kernel
theorem d4_32 : decode prog_107_method_15_code 32 = .ok (.i2b, 1) := by decide +kernel
theorem d4_33 : decode prog_107_method_15_code 33 = .ok (.bastore, 1) := by decide +kernel
theorem d4_34 : decode prog_107_method_15_code 34 = .ok (.aload_n 2, 1) := by decide +kernel
theorem d4_35 : decode prog_107_method_15_code 35 = .ok (.areturn, 1) := by decide +kernel
theorem pd1 : parseMethodDescriptor "([BI)[B" = some ⟨[(.array .byte), .int], some (.array .byte)⟩ := by decide +kernel
theorem pn2 : plainName "com/example/elliott_bay/elliottbay/store/Keys" = true := by first | (simp [plainName, overriddenIn]; done) | decide +kernel
theorem ef_end_1_0 (m : MethodId) (a1 : Addr) : entryFrame m #[(.ref a1)] 3 = (mkF m 0 #[.val (.ref a1), .unset, .unset] []) := by first | (simp [entryFrame, mkF, argsToLocals, Value.category]; done) | rfl
def Q_end_1_0 (Z : State) (a1 : Addr) (ka : ClassId) (x0 : Int32) (h0 : Heap) (n0 : Nat) (v : Option Value) (h : Heap) (L : List Loc) : Prop := ∃ (b2_3 : Addr), v = some (.ref b2_3) ∧ Fr n0 L ∧ Keep h0 h [] ∧ h0.size ≤ b2_3 ∧ Arv Z h b2_3 ka .byte (1 : Int32) [(.int (nar .byte ((x0 + (1 : Int32)).toInt8.toInt32)))] (.int (0 : Int32)) ∧ Exa Z h b2_3 "[B"
set_option maxRecDepth 65536 in
set_option maxHeartbeats 40000000 in
theorem rm_end_1_0 (l : Launch) (Z : State) (a0 : Array Value) (hw : ∀ d ∈ tables_1, d.before a0 Z = true) (ws : List Jvm.Cond) (a1 : Addr) (ka : ClassId) (x0 : Int32) (h0 : Heap) (n0 : Nat) (Z0 : n0 ≤ h0.size) (V_a1 : Arv Z h0 a1 ka .byte (1 : Int32) [(.int x0)] (.int (0 : Int32))) (E_a1 : Exa Z h0 a1 "[B") (hx0 : ¬ (x0 = (-1 : Int32))) :
    MetFree l (⟨"com/example/elliott_bay/elliottbay/store/Keys", "end", "([B)[B"⟩ : MethodName) (head1 (Jvm.Cond.code (⟨"com/example/elliott_bay/elliottbay/store/Keys", "end", "([B)[B"⟩ : MethodName) prog_107_method_15_code 3 (some (.array .byte)) :: ws) ({ frames := 2, cells := 1, slots := 1, locals := 28 } : Room)) (fun a U => a = #[(.ref a1)] ∧ Z.Warmed39 U.vm ∧ U.heap = h0) (fun _ _ _ _ _ => True) (fun _ U o U' => ∃ v L, o = .returned v ∧ Q_end_1_0 Z a1 ka x0 h0 n0 v U'.heap L ∧ FrameEnd U o U' L ({ frames := 2, cells := 1, slots := 1, locals := 28 } : Room).cells ({ frames := 2, cells := 1, slots := 1, locals := 28 } : Room).slots) := by
  refine MetFree.of_bodySF (plainFor_of_name pn2) hisR ?_
  intro p e s m args below meth c s₁ Bd hml0 hP hK
  obtain ⟨rfl, hZ, hh⟩ := hP
  have hx := Bd.exec
  have hby := Bd.bytes
  have hml : c.maxLocals = 3 := hml0
  have hown : s.vm.findClass "com/example/elliott_bay/elliottbay/store/Keys" = some m.cls := findClass_of_methodNamed Bd.named
  have hnm := (name_of_methodNamed Bd.named Bd.method).1
  have X0 : Stand p l e ({ frames := 2, cells := 1, slots := 1, locals := 28 } : Room) s m #[(.ref a1)] below meth c s₁ [] 0 0 := Stand.of_body Bd
  have e0 : s₁.heap = h0 := by rw [← hh, Bd.state]; rfl
  have N0 := Fr.nil n0
  have pre0 : ∀ t, Steps p.tables e below (s₁.setTop (mkF m 0 #[.val (.ref a1), .unset, .unset] [])) t → Steps p.tables e below (s₁.setTop (entryFrame m #[(.ref a1)] 3)) t := fun t k => castTop (ef_end_1_0 m a1) k
  obtain ⟨cl_a1_1_1, Ar_a1_1_1, -, S_a1_1_1, N_a1_1_1, -, -⟩ := id V_a1
  obtain ⟨cl_a1_7_2, Ar_a1_7_2, q_a1_7_2, S_a1_7_2, N_a1_7_2, H_a1_7_2, G_a1_7_2⟩ := id V_a1
  have hin_a1_7_2 : ¬ ((0 : Int32) < 0 ∨ cl_a1_7_2.slots.size ≤ ((0 : Int32) : Int32).toNatClampNeg) := inb_of S_a1_7_2 ⟨by decide, by decide⟩
  obtain ⟨_, _, ⟨T3, L3, k3, n3⟩, -, X3, ⟨Lc3, hQ3, l3, y3, z3⟩, st3⟩ := Jvm.LawKit.callS X0 hx (y := (⟨"java/util/Arrays", "copyOf", "([BI)[B"⟩ : MethodName)) hown (mvT hZ (hw _ (List.mem_of_getElem? (i := 15) rfl))) (mvT hZ (hw _ (List.mem_of_getElem? (i := 16) rfl))) (mvT hZ (hw _ (List.mem_of_getElem? (i := 17) rfl))) (mvT hZ (hw _ (List.mem_of_getElem? (i := 18) rfl))) (by decide) (backOf (W := 0) (rm_copy_1_1 l Z a0 hw [] a1 ka x0 h0 n0 (Nat.le_trans Z0 (Keep.refl h0 []).1) V_a1 E_a1 ) hZ (hw _ (List.mem_of_getElem? (i := 18) rfl)) (hw _ (List.mem_of_getElem? (i := 17) rfl)) (by decide) (by decide)) (g := (mkF m 20 #[.val (.ref a1), .val (.int (1 : Int32)), .unset] [(.int (1 : Int32)), (.ref a1)])) rfl (by rw [hml]; rfl) (argsL := [(.ref a1), (.int (1 : Int32))]) (rest := []) (lenOf pd1 rfl) rfl (by show 2 * 0 + _ ≤ _; exact Nat.le_of_eq rfl) (hb hby d4_20) (fun _ _ => ⟨rfl, e0, (by decide : 0 + 1 ≤ _), (by decide : 0 + 1 ≤ _)⟩)
  dsimp only [Pt.U, Pt.locs, Pt.cells, Pt.slots] at X3 l3 y3 z3 st3 hQ3
  subst l3 y3 z3
  obtain ⟨b2_3, rfl, N3q, K3, s3_b2, f3_0, f3_1⟩ := hQ3
  have N3 := Fr.app N0 N3q
  have sz_b2_3 : h0.size ≤ b2_3 := Nat.le_trans (Keep.refl h0 []).1 s3_b2
  have g_b2_3 : n0 ≤ b2_3 := Nat.le_trans Z0 sz_b2_3
  have KK3 : Keep h0 T3.heap [] := (Keep.refl h0 []).trans K3 all0
  obtain ⟨cl_b2_3_29_4, Ar_b2_3_29_4, q_b2_3_29_4, S_b2_3_29_4, N_b2_3_29_4, H_b2_3_29_4, G_b2_3_29_4⟩ := id f3_0
  have hin_b2_3_29_4 : ¬ ((0 : Int32) < 0 ∨ cl_b2_3_29_4.slots.size ≤ ((0 : Int32) : Int32).toNatClampNeg) := inb_of S_b2_3_29_4 ⟨by decide, by decide⟩
  obtain ⟨cl_b2_3_33_5, Ar_b2_3_33_5, q_b2_3_33_5, S_b2_3_33_5, N_b2_3_33_5, H_b2_3_33_5, G_b2_3_33_5⟩ := id f3_0
  have hin_b2_3_33_5 : ¬ ((0 : Int32) < 0 ∨ cl_b2_3_33_5.slots.size ≤ ((0 : Int32) : Int32).toNatClampNeg) := inb_of S_b2_3_33_5 ⟨by decide, by decide⟩
  obtain ⟨T6, h6, X6, e6, W6, st6⟩ := stB X3 hx hZ rfl Ar_b2_3_33_5 (j := (0 : Int32)) hin_b2_3_33_5 (g := (mkF m 33 #[.val (.ref a1), .val (.int (1 : Int32)), .val (.ref b2_3)] [(.int ((x0 + (1 : Int32)).toInt8.toInt32)), (.int (0 : Int32)), (.ref b2_3)])) rfl rfl (hb hby d4_33)
  have V_b2_3_33_5 : Arv Z h6 b2_3 ka .byte (1 : Int32) [(.int (nar .byte ((x0 + (1 : Int32)).toInt8.toInt32)))] (.int (0 : Int32)) := Arv.set Ar_b2_3_33_5 q_b2_3_33_5 S_b2_3_33_5 N_b2_3_33_5 H_b2_3_33_5 G_b2_3_33_5 (fits_nar_byte _) W6 0 rfl (Nat.le_of_ble_eq_true rfl)
  have K6 : Keep h0 h6 [] := KK3.wr W6 (Or.inr sz_b2_3)
  have N6 := Fr.snoc X6 N3 g_b2_3
  obtain ⟨fs, hr, hrun, hended, hW, hsame⟩ := X6.leave (v := some (.ref b2_3)) (fun h => by rw [Bd.returns] at h; cases h)
  refine ⟨_, _, pre0 _ ?_, hrun, hended, _, _, rfl, ?_, ⟨_, rfl⟩, hW, hsame.mono (by decide) (by decide)⟩
  · show Steps p.tables e below (s₁.setTop (mkF m 0 #[.val (.ref a1), .unset, .unset] [])) _
    refine XS.aloadN X0.here hx rfl (hb hby d4_0) rfl rfl ?_
    refine X0.arraylength hx (by rw [e0]; exact Ar_a1_1_1.1) (State.isArrayOf_alike hZ.alike Ar_a1_1_1.2.1) (g := (mkF m 1 #[.val (.ref a1), .unset, .unset] [(.ref a1)])) rfl rfl (hb hby d4_1) _ ?_
    rw [len_of S_a1_1_1 N_a1_1_1]
    show Steps p.tables e below (s₁.setTop (mkF m 2 #[.val (.ref a1), .unset, .unset] [(.int (1 : Int32))])) _
    refine XS.istoreN X0.here hx rfl (hb hby d4_2) rfl (l' := #[.val (.ref a1), .val (.int (1 : Int32)), .unset]) rfl ?_
    show Steps p.tables e below (s₁.setTop (mkF m 3 #[.val (.ref a1), .val (.int (1 : Int32)), .unset] [])) _
    refine XS.aloadN X0.here hx rfl (hb hby d4_3) rfl rfl ?_
    refine XS.iloadN X0.here hx rfl (hb hby d4_4) rfl ?_
    refine XS.iconst X0.here hx rfl (hb hby d4_5) ?_
    show Steps p.tables e below (s₁.setTop (mkF m 6 #[.val (.ref a1), .val (.int (1 : Int32)), .unset] [(.int (1 : Int32)), (.int (1 : Int32)), (.ref a1)])) _
    refine XS.isub X0.here hx rfl (hb hby d4_6) rfl ?_
    refine X0.baloadBytes hx (j := (0 : Int32)) (v := (.int x0)) (by rw [e0]; exact Ar_a1_7_2.1) (State.isArrayOf_alike hZ.alike Ar_a1_7_2.2.1) Ar_a1_7_2.2.2 hin_a1_7_2 (H_a1_7_2.at hin_a1_7_2 rfl) (g := (mkF m 7 #[.val (.ref a1), .val (.int (1 : Int32)), .unset] [(.int (0 : Int32)), (.ref a1)])) rfl rfl (hb hby d4_7) _ ?_
    show Steps p.tables e below (s₁.setTop (mkF m 8 #[.val (.ref a1), .val (.int (1 : Int32)), .unset] [(.int x0)])) _
    refine XS.iconst X0.here hx rfl (hb hby d4_8) ?_
    show Steps p.tables e below (s₁.setTop (mkF m 9 #[.val (.ref a1), .val (.int (1 : Int32)), .unset] [(.int (-1 : Int32)), (.int x0)])) _
    refine XS.icmpYes X0.here hx rfl (pc0 := 9) (pc' := 18) rfl (hb hby d4_9) rfl (feq hx0).2 (by decide) (by decide) ?_
    refine XS.aloadN X0.here hx rfl (hb hby d4_18) rfl rfl ?_
    refine XS.iloadN X0.here hx rfl (hb hby d4_19) rfl ?_
    show Steps p.tables e below (s₁.setTop (mkF m 20 #[.val (.ref a1), .val (.int (1 : Int32)), .unset] [(.int (1 : Int32)), (.ref a1)])) _
    refine st3 _ ?_
    show Steps p.tables e below (T3.setTop (mkF m 23 #[.val (.ref a1), .val (.int (1 : Int32)), .unset] [(.ref b2_3)])) _
    refine XS.astoreN X3.here hx rfl (hb hby d4_23) rfl rfl (l' := #[.val (.ref a1), .val (.int (1 : Int32)), .val (.ref b2_3)]) rfl ?_
    refine XS.aloadN X3.here hx rfl (hb hby d4_24) rfl rfl ?_
    refine XS.iloadN X3.here hx rfl (hb hby d4_25) rfl ?_
    show Steps p.tables e below (T3.setTop (mkF m 26 #[.val (.ref a1), .val (.int (1 : Int32)), .val (.ref b2_3)] [(.int (1 : Int32)), (.ref b2_3)])) _
    refine XS.iconst X3.here hx rfl (hb hby d4_26) ?_
    refine XS.isub X3.here hx rfl (hb hby d4_27) rfl ?_
    jvm_step X3.here [X3.here.top, hx, (hb hby d4_28), Value.category]
    show Steps p.tables e below (T3.setTop (mkF m 29 #[.val (.ref a1), .val (.int (1 : Int32)), .val (.ref b2_3)] [(.int (0 : Int32)), (.ref b2_3), (.int (0 : Int32)), (.ref b2_3)])) _
    refine X3.baloadBytes hx (j := (0 : Int32)) (v := (.int x0)) (by exact Ar_b2_3_29_4.1) (State.isArrayOf_alike hZ.alike Ar_b2_3_29_4.2.1) Ar_b2_3_29_4.2.2 hin_b2_3_29_4 (H_b2_3_29_4.at hin_b2_3_29_4 rfl) (g := (mkF m 29 #[.val (.ref a1), .val (.int (1 : Int32)), .val (.ref b2_3)] [(.int (0 : Int32)), (.ref b2_3), (.int (0 : Int32)), (.ref b2_3)])) rfl rfl (hb hby d4_29) _ ?_
    show Steps p.tables e below (T3.setTop (mkF m 30 #[.val (.ref a1), .val (.int (1 : Int32)), .val (.ref b2_3)] [(.int x0), (.int (0 : Int32)), (.ref b2_3)])) _
    refine XS.iconst X3.here hx rfl (hb hby d4_30) ?_
    refine XS.iadd X3.here hx rfl (hb hby d4_31) rfl ?_
    show Steps p.tables e below (T3.setTop (mkF m 32 #[.val (.ref a1), .val (.int (1 : Int32)), .val (.ref b2_3)] [(.int (x0 + (1 : Int32))), (.int (0 : Int32)), (.ref b2_3)])) _
    refine XS.i2b X3.here hx rfl (hb hby d4_32) rfl ?_
    show Steps p.tables e below (T3.setTop (mkF m 33 #[.val (.ref a1), .val (.int (1 : Int32)), .val (.ref b2_3)] [(.int ((x0 + (1 : Int32)).toInt8.toInt32)), (.int (0 : Int32)), (.ref b2_3)])) _
    refine st6 _ ?_
    show Steps p.tables e below (T6.setTop (mkF m 34 #[.val (.ref a1), .val (.int (1 : Int32)), .val (.ref b2_3)] [])) _
    refine XS.aloadN X6.here hx rfl (hb hby d4_34) rfl rfl ?_
    show Steps p.tables e below (T6.setTop (mkF m 35 #[.val (.ref a1), .val (.int (1 : Int32)), .val (.ref b2_3)] [(.ref b2_3)])) _
    exact retOut X6 hx Bd.returns rfl (Or.inr (Or.inr (Or.inr (Or.inr ⟨rfl, rfl, rfl⟩)))) (hb hby d4_35) hr
  · show Q_end_1_0 Z a1 ka x0 h0 n0 _ T6.heap _
    rw [e6]
    exact ⟨b2_3, rfl, N6, K6, sz_b2_3, V_b2_3_33_5, (f3_1.wr W6)⟩
theorem d4_12 : decode prog_107_method_15_code 12 = .ok (.iinc 1 (-1), 3) := by decide +kernel
theorem d4_15 : decode prog_107_method_15_code 15 = .ok (.goto (-12), 3) := by decide +kernel
theorem ef_end_2_0 (m : MethodId) (a1 : Addr) : entryFrame m #[(.ref a1)] 3 = (mkF m 0 #[.val (.ref a1), .unset, .unset] []) := by first | (simp [entryFrame, mkF, argsToLocals, Value.category]; done) | rfl
def Q_end_2_0 (Z : State) (a1 : Addr) (ka : ClassId) (x0 : Int32) (x1 : Int32) (h0 : Heap) (n0 : Nat) (v : Option Value) (h : Heap) (L : List Loc) : Prop := ∃ (b2_4 : Addr) (k2_4 : ClassId), v = some (.ref b2_4) ∧ Fr n0 L ∧ Keep h0 h [] ∧ h0.size ≤ b2_4 ∧ Arv Z h b2_4 k2_4 .byte (1 : Int32) [(.int (nar .byte ((x0 + (1 : Int32)).toInt8.toInt32)))] (.int (0 : Int32))
set_option maxRecDepth 65536 in
set_option maxHeartbeats 40000000 in
theorem rm_end_2_0 (l : Launch) (Z : State) (a0 : Array Value) (hw : ∀ d ∈ tables_1, d.before a0 Z = true) (ws : List Jvm.Cond) (a1 : Addr) (ka : ClassId) (x0 : Int32) (x1 : Int32) (h0 : Heap) (n0 : Nat) (Z0 : n0 ≤ h0.size) (V_a1 : Arv Z h0 a1 ka .byte (2 : Int32) [(.int x0), (.int x1)] (.int (0 : Int32))) (E_a1 : Exa Z h0 a1 "[B") (hx1 : x1 = (-1 : Int32)) (hx0 : ¬ (x0 = (-1 : Int32))) :
    MetFree l (⟨"com/example/elliott_bay/elliottbay/store/Keys", "end", "([B)[B"⟩ : MethodName) (head1 (Jvm.Cond.code (⟨"com/example/elliott_bay/elliottbay/store/Keys", "end", "([B)[B"⟩ : MethodName) prog_107_method_15_code 3 (some (.array .byte)) :: ws) ({ frames := 2, cells := 1, slots := 1, locals := 32 } : Room)) (fun a U => a = #[(.ref a1)] ∧ Z.Warmed39 U.vm ∧ U.heap = h0) (fun _ _ _ _ _ => True) (fun _ U o U' => ∃ v L, o = .returned v ∧ Q_end_2_0 Z a1 ka x0 x1 h0 n0 v U'.heap L ∧ FrameEnd U o U' L ({ frames := 2, cells := 1, slots := 1, locals := 32 } : Room).cells ({ frames := 2, cells := 1, slots := 1, locals := 32 } : Room).slots) := by
  refine MetFree.of_bodySF (plainFor_of_name pn2) hisR ?_
  intro p e s m args below meth c s₁ Bd hml0 hP hK
  obtain ⟨rfl, hZ, hh⟩ := hP
  have hx := Bd.exec
  have hby := Bd.bytes
  have hml : c.maxLocals = 3 := hml0
  have hown : s.vm.findClass "com/example/elliott_bay/elliottbay/store/Keys" = some m.cls := findClass_of_methodNamed Bd.named
  have hnm := (name_of_methodNamed Bd.named Bd.method).1
  have X0 : Stand p l e ({ frames := 2, cells := 1, slots := 1, locals := 32 } : Room) s m #[(.ref a1)] below meth c s₁ [] 0 0 := Stand.of_body Bd
  have e0 : s₁.heap = h0 := by rw [← hh, Bd.state]; rfl
  have N0 := Fr.nil n0
  have pre0 : ∀ t, Steps p.tables e below (s₁.setTop (mkF m 0 #[.val (.ref a1), .unset, .unset] [])) t → Steps p.tables e below (s₁.setTop (entryFrame m #[(.ref a1)] 3)) t := fun t k => castTop (ef_end_2_0 m a1) k
  obtain ⟨cl_a1_1_1, Ar_a1_1_1, -, S_a1_1_1, N_a1_1_1, -, -⟩ := id V_a1
  obtain ⟨cl_a1_7_2, Ar_a1_7_2, q_a1_7_2, S_a1_7_2, N_a1_7_2, H_a1_7_2, G_a1_7_2⟩ := id V_a1
  have hin_a1_7_2 : ¬ ((1 : Int32) < 0 ∨ cl_a1_7_2.slots.size ≤ ((1 : Int32) : Int32).toNatClampNeg) := inb_of S_a1_7_2 ⟨by decide, by decide⟩
  obtain ⟨cl_a1_7_3, Ar_a1_7_3, q_a1_7_3, S_a1_7_3, N_a1_7_3, H_a1_7_3, G_a1_7_3⟩ := id V_a1
  have hin_a1_7_3 : ¬ ((0 : Int32) < 0 ∨ cl_a1_7_3.slots.size ≤ ((0 : Int32) : Int32).toNatClampNeg) := inb_of S_a1_7_3 ⟨by decide, by decide⟩
  obtain ⟨_, _, ⟨T4, L4, k4, n4⟩, -, X4, ⟨Lc4, hQ4, l4, y4, z4⟩, st4⟩ := Jvm.LawKit.callS X0 hx (y := (⟨"java/util/Arrays", "copyOf", "([BI)[B"⟩ : MethodName)) hown (mvT hZ (hw _ (List.mem_of_getElem? (i := 15) rfl))) (mvT hZ (hw _ (List.mem_of_getElem? (i := 16) rfl))) (mvT hZ (hw _ (List.mem_of_getElem? (i := 17) rfl))) (mvT hZ (hw _ (List.mem_of_getElem? (i := 18) rfl))) (by decide) (backOf (W := 0) (rm_copy_2_1 l Z a0 hw [] a1 ka x0 x1 h0 n0 (Nat.le_trans Z0 (Keep.refl h0 []).1) V_a1 E_a1 ) hZ (hw _ (List.mem_of_getElem? (i := 18) rfl)) (hw _ (List.mem_of_getElem? (i := 17) rfl)) (by decide) (by decide)) (g := (mkF m 20 #[.val (.ref a1), .val (.int (1 : Int32)), .unset] [(.int (1 : Int32)), (.ref a1)])) rfl (by rw [hml]; rfl) (argsL := [(.ref a1), (.int (1 : Int32))]) (rest := []) (lenOf pd1 rfl) rfl (by show 2 * 0 + _ ≤ _; exact Nat.le_of_eq rfl) (hb hby d4_20) (fun _ _ => ⟨rfl, e0, (by decide : 0 + 1 ≤ _), (by decide : 0 + 1 ≤ _)⟩)
  dsimp only [Pt.U, Pt.locs, Pt.cells, Pt.slots] at X4 l4 y4 z4 st4 hQ4
  subst l4 y4 z4
  obtain ⟨b2_4, k2_4, rfl, N4q, K4, s4_b2, f4_0⟩ := hQ4
  have N4 := Fr.app N0 N4q
  have sz_b2_4 : h0.size ≤ b2_4 := Nat.le_trans (Keep.refl h0 []).1 s4_b2
  have g_b2_4 : n0 ≤ b2_4 := Nat.le_trans Z0 sz_b2_4
  have KK4 : Keep h0 T4.heap [] := (Keep.refl h0 []).trans K4 all0
  obtain ⟨cl_b2_4_29_5, Ar_b2_4_29_5, q_b2_4_29_5, S_b2_4_29_5, N_b2_4_29_5, H_b2_4_29_5, G_b2_4_29_5⟩ := id f4_0
  have hin_b2_4_29_5 : ¬ ((0 : Int32) < 0 ∨ cl_b2_4_29_5.slots.size ≤ ((0 : Int32) : Int32).toNatClampNeg) := inb_of S_b2_4_29_5 ⟨by decide, by decide⟩
  obtain ⟨cl_b2_4_33_6, Ar_b2_4_33_6, q_b2_4_33_6, S_b2_4_33_6, N_b2_4_33_6, H_b2_4_33_6, G_b2_4_33_6⟩ := id f4_0
  have hin_b2_4_33_6 : ¬ ((0 : Int32) < 0 ∨ cl_b2_4_33_6.slots.size ≤ ((0 : Int32) : Int32).toNatClampNeg) := inb_of S_b2_4_33_6 ⟨by decide, by decide⟩
  obtain ⟨T7, h7, X7, e7, W7, st7⟩ := stB X4 hx hZ rfl Ar_b2_4_33_6 (j := (0 : Int32)) hin_b2_4_33_6 (g := (mkF m 33 #[.val (.ref a1), .val (.int (1 : Int32)), .val (.ref b2_4)] [(.int ((x0 + (1 : Int32)).toInt8.toInt32)), (.int (0 : Int32)), (.ref b2_4)])) rfl rfl (hb hby d4_33)
  have V_b2_4_33_6 : Arv Z h7 b2_4 k2_4 .byte (1 : Int32) [(.int (nar .byte ((x0 + (1 : Int32)).toInt8.toInt32)))] (.int (0 : Int32)) := Arv.set Ar_b2_4_33_6 q_b2_4_33_6 S_b2_4_33_6 N_b2_4_33_6 H_b2_4_33_6 G_b2_4_33_6 (fits_nar_byte _) W7 0 rfl (Nat.le_of_ble_eq_true rfl)
  have K7 : Keep h0 h7 [] := KK4.wr W7 (Or.inr sz_b2_4)
  have N7 := Fr.snoc X7 N4 g_b2_4
  obtain ⟨fs, hr, hrun, hended, hW, hsame⟩ := X7.leave (v := some (.ref b2_4)) (fun h => by rw [Bd.returns] at h; cases h)
  refine ⟨_, _, pre0 _ ?_, hrun, hended, _, _, rfl, ?_, ⟨_, rfl⟩, hW, hsame.mono (by decide) (by decide)⟩
  · show Steps p.tables e below (s₁.setTop (mkF m 0 #[.val (.ref a1), .unset, .unset] [])) _
    refine XS.aloadN X0.here hx rfl (hb hby d4_0) rfl rfl ?_
    refine X0.arraylength hx (by rw [e0]; exact Ar_a1_1_1.1) (State.isArrayOf_alike hZ.alike Ar_a1_1_1.2.1) (g := (mkF m 1 #[.val (.ref a1), .unset, .unset] [(.ref a1)])) rfl rfl (hb hby d4_1) _ ?_
    rw [len_of S_a1_1_1 N_a1_1_1]
    show Steps p.tables e below (s₁.setTop (mkF m 2 #[.val (.ref a1), .unset, .unset] [(.int (2 : Int32))])) _
    refine XS.istoreN X0.here hx rfl (hb hby d4_2) rfl (l' := #[.val (.ref a1), .val (.int (2 : Int32)), .unset]) rfl ?_
    show Steps p.tables e below (s₁.setTop (mkF m 3 #[.val (.ref a1), .val (.int (2 : Int32)), .unset] [])) _
    refine XS.aloadN X0.here hx rfl (hb hby d4_3) rfl rfl ?_
    refine XS.iloadN X0.here hx rfl (hb hby d4_4) rfl ?_
    refine XS.iconst X0.here hx rfl (hb hby d4_5) ?_
    show Steps p.tables e below (s₁.setTop (mkF m 6 #[.val (.ref a1), .val (.int (2 : Int32)), .unset] [(.int (1 : Int32)), (.int (2 : Int32)), (.ref a1)])) _
    refine XS.isub X0.here hx rfl (hb hby d4_6) rfl ?_
    refine X0.baloadBytes hx (j := (1 : Int32)) (v := (.int x1)) (by rw [e0]; exact Ar_a1_7_2.1) (State.isArrayOf_alike hZ.alike Ar_a1_7_2.2.1) Ar_a1_7_2.2.2 hin_a1_7_2 (H_a1_7_2.at hin_a1_7_2 rfl) (g := (mkF m 7 #[.val (.ref a1), .val (.int (2 : Int32)), .unset] [(.int (1 : Int32)), (.ref a1)])) rfl rfl (hb hby d4_7) _ ?_
    show Steps p.tables e below (s₁.setTop (mkF m 8 #[.val (.ref a1), .val (.int (2 : Int32)), .unset] [(.int x1)])) _
    refine XS.iconst X0.here hx rfl (hb hby d4_8) ?_
    show Steps p.tables e below (s₁.setTop (mkF m 9 #[.val (.ref a1), .val (.int (2 : Int32)), .unset] [(.int (-1 : Int32)), (.int x1)])) _
    refine XS.icmpNo X0.here hx rfl (hb hby d4_9) rfl (teq hx1).2 ?_
    refine XS.iinc X0.here hx rfl (hb hby d4_12) rfl (l' := #[.val (.ref a1), .val (.int (1 : Int32)), .unset]) rfl ?_
    refine XS.goto X0.here hx rfl (pc0 := 15) (pc' := 3) rfl (hb hby d4_15) (by decide) (by decide) ?_
    show Steps p.tables e below (s₁.setTop (mkF m 3 #[.val (.ref a1), .val (.int (1 : Int32)), .unset] [])) _
    refine XS.aloadN X0.here hx rfl (hb hby d4_3) rfl rfl ?_
    refine XS.iloadN X0.here hx rfl (hb hby d4_4) rfl ?_
    refine XS.iconst X0.here hx rfl (hb hby d4_5) ?_
    show Steps p.tables e below (s₁.setTop (mkF m 6 #[.val (.ref a1), .val (.int (1 : Int32)), .unset] [(.int (1 : Int32)), (.int (1 : Int32)), (.ref a1)])) _
    refine XS.isub X0.here hx rfl (hb hby d4_6) rfl ?_
    refine X0.baloadBytes hx (j := (0 : Int32)) (v := (.int x0)) (by rw [e0]; exact Ar_a1_7_3.1) (State.isArrayOf_alike hZ.alike Ar_a1_7_3.2.1) Ar_a1_7_3.2.2 hin_a1_7_3 (H_a1_7_3.at hin_a1_7_3 rfl) (g := (mkF m 7 #[.val (.ref a1), .val (.int (1 : Int32)), .unset] [(.int (0 : Int32)), (.ref a1)])) rfl rfl (hb hby d4_7) _ ?_
    show Steps p.tables e below (s₁.setTop (mkF m 8 #[.val (.ref a1), .val (.int (1 : Int32)), .unset] [(.int x0)])) _
    refine XS.iconst X0.here hx rfl (hb hby d4_8) ?_
    show Steps p.tables e below (s₁.setTop (mkF m 9 #[.val (.ref a1), .val (.int (1 : Int32)), .unset] [(.int (-1 : Int32)), (.int x0)])) _
    refine XS.icmpYes X0.here hx rfl (pc0 := 9) (pc' := 18) rfl (hb hby d4_9) rfl (feq hx0).2 (by decide) (by decide) ?_
    refine XS.aloadN X0.here hx rfl (hb hby d4_18) rfl rfl ?_
    refine XS.iloadN X0.here hx rfl (hb hby d4_19) rfl ?_
    show Steps p.tables e below (s₁.setTop (mkF m 20 #[.val (.ref a1), .val (.int (1 : Int32)), .unset] [(.int (1 : Int32)), (.ref a1)])) _
    refine st4 _ ?_
    show Steps p.tables e below (T4.setTop (mkF m 23 #[.val (.ref a1), .val (.int (1 : Int32)), .unset] [(.ref b2_4)])) _
    refine XS.astoreN X4.here hx rfl (hb hby d4_23) rfl rfl (l' := #[.val (.ref a1), .val (.int (1 : Int32)), .val (.ref b2_4)]) rfl ?_
    refine XS.aloadN X4.here hx rfl (hb hby d4_24) rfl rfl ?_
    refine XS.iloadN X4.here hx rfl (hb hby d4_25) rfl ?_
    show Steps p.tables e below (T4.setTop (mkF m 26 #[.val (.ref a1), .val (.int (1 : Int32)), .val (.ref b2_4)] [(.int (1 : Int32)), (.ref b2_4)])) _
    refine XS.iconst X4.here hx rfl (hb hby d4_26) ?_
    refine XS.isub X4.here hx rfl (hb hby d4_27) rfl ?_
    jvm_step X4.here [X4.here.top, hx, (hb hby d4_28), Value.category]
    show Steps p.tables e below (T4.setTop (mkF m 29 #[.val (.ref a1), .val (.int (1 : Int32)), .val (.ref b2_4)] [(.int (0 : Int32)), (.ref b2_4), (.int (0 : Int32)), (.ref b2_4)])) _
    refine X4.baloadBytes hx (j := (0 : Int32)) (v := (.int x0)) (by exact Ar_b2_4_29_5.1) (State.isArrayOf_alike hZ.alike Ar_b2_4_29_5.2.1) Ar_b2_4_29_5.2.2 hin_b2_4_29_5 (H_b2_4_29_5.at hin_b2_4_29_5 rfl) (g := (mkF m 29 #[.val (.ref a1), .val (.int (1 : Int32)), .val (.ref b2_4)] [(.int (0 : Int32)), (.ref b2_4), (.int (0 : Int32)), (.ref b2_4)])) rfl rfl (hb hby d4_29) _ ?_
    show Steps p.tables e below (T4.setTop (mkF m 30 #[.val (.ref a1), .val (.int (1 : Int32)), .val (.ref b2_4)] [(.int x0), (.int (0 : Int32)), (.ref b2_4)])) _
    refine XS.iconst X4.here hx rfl (hb hby d4_30) ?_
    refine XS.iadd X4.here hx rfl (hb hby d4_31) rfl ?_
    show Steps p.tables e below (T4.setTop (mkF m 32 #[.val (.ref a1), .val (.int (1 : Int32)), .val (.ref b2_4)] [(.int (x0 + (1 : Int32))), (.int (0 : Int32)), (.ref b2_4)])) _
    refine XS.i2b X4.here hx rfl (hb hby d4_32) rfl ?_
    show Steps p.tables e below (T4.setTop (mkF m 33 #[.val (.ref a1), .val (.int (1 : Int32)), .val (.ref b2_4)] [(.int ((x0 + (1 : Int32)).toInt8.toInt32)), (.int (0 : Int32)), (.ref b2_4)])) _
    refine st7 _ ?_
    show Steps p.tables e below (T7.setTop (mkF m 34 #[.val (.ref a1), .val (.int (1 : Int32)), .val (.ref b2_4)] [])) _
    refine XS.aloadN X7.here hx rfl (hb hby d4_34) rfl rfl ?_
    show Steps p.tables e below (T7.setTop (mkF m 35 #[.val (.ref a1), .val (.int (1 : Int32)), .val (.ref b2_4)] [(.ref b2_4)])) _
    exact retOut X7 hx Bd.returns rfl (Or.inr (Or.inr (Or.inr (Or.inr ⟨rfl, rfl, rfl⟩)))) (hb hby d4_35) hr
  · show Q_end_2_0 Z a1 ka x0 x1 h0 n0 _ T7.heap _
    rw [e7]
    exact ⟨b2_4, k2_4, rfl, N7, K7, sz_b2_4, V_b2_4_33_6⟩
theorem ef_end_2_1 (m : MethodId) (a1 : Addr) : entryFrame m #[(.ref a1)] 3 = (mkF m 0 #[.val (.ref a1), .unset, .unset] []) := by first | (simp [entryFrame, mkF, argsToLocals, Value.category]; done) | rfl
def Q_end_2_1 (Z : State) (a1 : Addr) (ka : ClassId) (x0 : Int32) (x1 : Int32) (h0 : Heap) (n0 : Nat) (v : Option Value) (h : Heap) (L : List Loc) : Prop := ∃ (b2_3 : Addr), v = some (.ref b2_3) ∧ Fr n0 L ∧ Keep h0 h [] ∧ h0.size ≤ b2_3 ∧ Arv Z h b2_3 ka .byte (2 : Int32) [(.int x0), (.int (nar .byte ((x1 + (1 : Int32)).toInt8.toInt32)))] (.int (0 : Int32)) ∧ Exa Z h b2_3 "[B"
set_option maxRecDepth 65536 in
set_option maxHeartbeats 40000000 in
theorem rm_end_2_1 (l : Launch) (Z : State) (a0 : Array Value) (hw : ∀ d ∈ tables_1, d.before a0 Z = true) (ws : List Jvm.Cond) (a1 : Addr) (ka : ClassId) (x0 : Int32) (x1 : Int32) (h0 : Heap) (n0 : Nat) (Z0 : n0 ≤ h0.size) (V_a1 : Arv Z h0 a1 ka .byte (2 : Int32) [(.int x0), (.int x1)] (.int (0 : Int32))) (E_a1 : Exa Z h0 a1 "[B") (hx1 : ¬ (x1 = (-1 : Int32))) :
    MetFree l (⟨"com/example/elliott_bay/elliottbay/store/Keys", "end", "([B)[B"⟩ : MethodName) (head1 (Jvm.Cond.code (⟨"com/example/elliott_bay/elliottbay/store/Keys", "end", "([B)[B"⟩ : MethodName) prog_107_method_15_code 3 (some (.array .byte)) :: ws) ({ frames := 2, cells := 1, slots := 2, locals := 28 } : Room)) (fun a U => a = #[(.ref a1)] ∧ Z.Warmed39 U.vm ∧ U.heap = h0) (fun _ _ _ _ _ => True) (fun _ U o U' => ∃ v L, o = .returned v ∧ Q_end_2_1 Z a1 ka x0 x1 h0 n0 v U'.heap L ∧ FrameEnd U o U' L ({ frames := 2, cells := 1, slots := 2, locals := 28 } : Room).cells ({ frames := 2, cells := 1, slots := 2, locals := 28 } : Room).slots) := by
  refine MetFree.of_bodySF (plainFor_of_name pn2) hisR ?_
  intro p e s m args below meth c s₁ Bd hml0 hP hK
  obtain ⟨rfl, hZ, hh⟩ := hP
  have hx := Bd.exec
  have hby := Bd.bytes
  have hml : c.maxLocals = 3 := hml0
  have hown : s.vm.findClass "com/example/elliott_bay/elliottbay/store/Keys" = some m.cls := findClass_of_methodNamed Bd.named
  have hnm := (name_of_methodNamed Bd.named Bd.method).1
  have X0 : Stand p l e ({ frames := 2, cells := 1, slots := 2, locals := 28 } : Room) s m #[(.ref a1)] below meth c s₁ [] 0 0 := Stand.of_body Bd
  have e0 : s₁.heap = h0 := by rw [← hh, Bd.state]; rfl
  have N0 := Fr.nil n0
  have pre0 : ∀ t, Steps p.tables e below (s₁.setTop (mkF m 0 #[.val (.ref a1), .unset, .unset] [])) t → Steps p.tables e below (s₁.setTop (entryFrame m #[(.ref a1)] 3)) t := fun t k => castTop (ef_end_2_1 m a1) k
  obtain ⟨cl_a1_1_1, Ar_a1_1_1, -, S_a1_1_1, N_a1_1_1, -, -⟩ := id V_a1
  obtain ⟨cl_a1_7_2, Ar_a1_7_2, q_a1_7_2, S_a1_7_2, N_a1_7_2, H_a1_7_2, G_a1_7_2⟩ := id V_a1
  have hin_a1_7_2 : ¬ ((1 : Int32) < 0 ∨ cl_a1_7_2.slots.size ≤ ((1 : Int32) : Int32).toNatClampNeg) := inb_of S_a1_7_2 ⟨by decide, by decide⟩
  obtain ⟨_, _, ⟨T3, L3, k3, n3⟩, -, X3, ⟨Lc3, hQ3, l3, y3, z3⟩, st3⟩ := Jvm.LawKit.callS X0 hx (y := (⟨"java/util/Arrays", "copyOf", "([BI)[B"⟩ : MethodName)) hown (mvT hZ (hw _ (List.mem_of_getElem? (i := 15) rfl))) (mvT hZ (hw _ (List.mem_of_getElem? (i := 16) rfl))) (mvT hZ (hw _ (List.mem_of_getElem? (i := 17) rfl))) (mvT hZ (hw _ (List.mem_of_getElem? (i := 18) rfl))) (by decide) (backOf (W := 0) (rm_copy_2_2 l Z a0 hw [] a1 ka x0 x1 h0 n0 (Nat.le_trans Z0 (Keep.refl h0 []).1) V_a1 E_a1 ) hZ (hw _ (List.mem_of_getElem? (i := 18) rfl)) (hw _ (List.mem_of_getElem? (i := 17) rfl)) (by decide) (by decide)) (g := (mkF m 20 #[.val (.ref a1), .val (.int (2 : Int32)), .unset] [(.int (2 : Int32)), (.ref a1)])) rfl (by rw [hml]; rfl) (argsL := [(.ref a1), (.int (2 : Int32))]) (rest := []) (lenOf pd1 rfl) rfl (by show 2 * 0 + _ ≤ _; exact Nat.le_of_eq rfl) (hb hby d4_20) (fun _ _ => ⟨rfl, e0, (by decide : 0 + 1 ≤ _), (by decide : 0 + 2 ≤ _)⟩)
  dsimp only [Pt.U, Pt.locs, Pt.cells, Pt.slots] at X3 l3 y3 z3 st3 hQ3
  subst l3 y3 z3
  obtain ⟨b2_3, rfl, N3q, K3, s3_b2, f3_0, f3_1⟩ := hQ3
  have N3 := Fr.app N0 N3q
  have sz_b2_3 : h0.size ≤ b2_3 := Nat.le_trans (Keep.refl h0 []).1 s3_b2
  have g_b2_3 : n0 ≤ b2_3 := Nat.le_trans Z0 sz_b2_3
  have KK3 : Keep h0 T3.heap [] := (Keep.refl h0 []).trans K3 all0
  obtain ⟨cl_b2_3_29_4, Ar_b2_3_29_4, q_b2_3_29_4, S_b2_3_29_4, N_b2_3_29_4, H_b2_3_29_4, G_b2_3_29_4⟩ := id f3_0
  have hin_b2_3_29_4 : ¬ ((1 : Int32) < 0 ∨ cl_b2_3_29_4.slots.size ≤ ((1 : Int32) : Int32).toNatClampNeg) := inb_of S_b2_3_29_4 ⟨by decide, by decide⟩
  obtain ⟨cl_b2_3_33_5, Ar_b2_3_33_5, q_b2_3_33_5, S_b2_3_33_5, N_b2_3_33_5, H_b2_3_33_5, G_b2_3_33_5⟩ := id f3_0
  have hin_b2_3_33_5 : ¬ ((1 : Int32) < 0 ∨ cl_b2_3_33_5.slots.size ≤ ((1 : Int32) : Int32).toNatClampNeg) := inb_of S_b2_3_33_5 ⟨by decide, by decide⟩
  obtain ⟨T6, h6, X6, e6, W6, st6⟩ := stB X3 hx hZ rfl Ar_b2_3_33_5 (j := (1 : Int32)) hin_b2_3_33_5 (g := (mkF m 33 #[.val (.ref a1), .val (.int (2 : Int32)), .val (.ref b2_3)] [(.int ((x1 + (1 : Int32)).toInt8.toInt32)), (.int (1 : Int32)), (.ref b2_3)])) rfl rfl (hb hby d4_33)
  have V_b2_3_33_5 : Arv Z h6 b2_3 ka .byte (2 : Int32) [(.int x0), (.int (nar .byte ((x1 + (1 : Int32)).toInt8.toInt32)))] (.int (0 : Int32)) := Arv.set Ar_b2_3_33_5 q_b2_3_33_5 S_b2_3_33_5 N_b2_3_33_5 H_b2_3_33_5 G_b2_3_33_5 (fits_nar_byte _) W6 1 rfl (Nat.le_of_ble_eq_true rfl)
  have K6 : Keep h0 h6 [] := KK3.wr W6 (Or.inr sz_b2_3)
  have N6 := Fr.snoc X6 N3 g_b2_3
  obtain ⟨fs, hr, hrun, hended, hW, hsame⟩ := X6.leave (v := some (.ref b2_3)) (fun h => by rw [Bd.returns] at h; cases h)
  refine ⟨_, _, pre0 _ ?_, hrun, hended, _, _, rfl, ?_, ⟨_, rfl⟩, hW, hsame.mono (by decide) (by decide)⟩
  · show Steps p.tables e below (s₁.setTop (mkF m 0 #[.val (.ref a1), .unset, .unset] [])) _
    refine XS.aloadN X0.here hx rfl (hb hby d4_0) rfl rfl ?_
    refine X0.arraylength hx (by rw [e0]; exact Ar_a1_1_1.1) (State.isArrayOf_alike hZ.alike Ar_a1_1_1.2.1) (g := (mkF m 1 #[.val (.ref a1), .unset, .unset] [(.ref a1)])) rfl rfl (hb hby d4_1) _ ?_
    rw [len_of S_a1_1_1 N_a1_1_1]
    show Steps p.tables e below (s₁.setTop (mkF m 2 #[.val (.ref a1), .unset, .unset] [(.int (2 : Int32))])) _
    refine XS.istoreN X0.here hx rfl (hb hby d4_2) rfl (l' := #[.val (.ref a1), .val (.int (2 : Int32)), .unset]) rfl ?_
    show Steps p.tables e below (s₁.setTop (mkF m 3 #[.val (.ref a1), .val (.int (2 : Int32)), .unset] [])) _
    refine XS.aloadN X0.here hx rfl (hb hby d4_3) rfl rfl ?_
    refine XS.iloadN X0.here hx rfl (hb hby d4_4) rfl ?_
    refine XS.iconst X0.here hx rfl (hb hby d4_5) ?_
    show Steps p.tables e below (s₁.setTop (mkF m 6 #[.val (.ref a1), .val (.int (2 : Int32)), .unset] [(.int (1 : Int32)), (.int (2 : Int32)), (.ref a1)])) _
    refine XS.isub X0.here hx rfl (hb hby d4_6) rfl ?_
    refine X0.baloadBytes hx (j := (1 : Int32)) (v := (.int x1)) (by rw [e0]; exact Ar_a1_7_2.1) (State.isArrayOf_alike hZ.alike Ar_a1_7_2.2.1) Ar_a1_7_2.2.2 hin_a1_7_2 (H_a1_7_2.at hin_a1_7_2 rfl) (g := (mkF m 7 #[.val (.ref a1), .val (.int (2 : Int32)), .unset] [(.int (1 : Int32)), (.ref a1)])) rfl rfl (hb hby d4_7) _ ?_
    show Steps p.tables e below (s₁.setTop (mkF m 8 #[.val (.ref a1), .val (.int (2 : Int32)), .unset] [(.int x1)])) _
    refine XS.iconst X0.here hx rfl (hb hby d4_8) ?_
    show Steps p.tables e below (s₁.setTop (mkF m 9 #[.val (.ref a1), .val (.int (2 : Int32)), .unset] [(.int (-1 : Int32)), (.int x1)])) _
    refine XS.icmpYes X0.here hx rfl (pc0 := 9) (pc' := 18) rfl (hb hby d4_9) rfl (feq hx1).2 (by decide) (by decide) ?_
    refine XS.aloadN X0.here hx rfl (hb hby d4_18) rfl rfl ?_
    refine XS.iloadN X0.here hx rfl (hb hby d4_19) rfl ?_
    show Steps p.tables e below (s₁.setTop (mkF m 20 #[.val (.ref a1), .val (.int (2 : Int32)), .unset] [(.int (2 : Int32)), (.ref a1)])) _
    refine st3 _ ?_
    show Steps p.tables e below (T3.setTop (mkF m 23 #[.val (.ref a1), .val (.int (2 : Int32)), .unset] [(.ref b2_3)])) _
    refine XS.astoreN X3.here hx rfl (hb hby d4_23) rfl rfl (l' := #[.val (.ref a1), .val (.int (2 : Int32)), .val (.ref b2_3)]) rfl ?_
    refine XS.aloadN X3.here hx rfl (hb hby d4_24) rfl rfl ?_
    refine XS.iloadN X3.here hx rfl (hb hby d4_25) rfl ?_
    show Steps p.tables e below (T3.setTop (mkF m 26 #[.val (.ref a1), .val (.int (2 : Int32)), .val (.ref b2_3)] [(.int (2 : Int32)), (.ref b2_3)])) _
    refine XS.iconst X3.here hx rfl (hb hby d4_26) ?_
    refine XS.isub X3.here hx rfl (hb hby d4_27) rfl ?_
    jvm_step X3.here [X3.here.top, hx, (hb hby d4_28), Value.category]
    show Steps p.tables e below (T3.setTop (mkF m 29 #[.val (.ref a1), .val (.int (2 : Int32)), .val (.ref b2_3)] [(.int (1 : Int32)), (.ref b2_3), (.int (1 : Int32)), (.ref b2_3)])) _
    refine X3.baloadBytes hx (j := (1 : Int32)) (v := (.int x1)) (by exact Ar_b2_3_29_4.1) (State.isArrayOf_alike hZ.alike Ar_b2_3_29_4.2.1) Ar_b2_3_29_4.2.2 hin_b2_3_29_4 (H_b2_3_29_4.at hin_b2_3_29_4 rfl) (g := (mkF m 29 #[.val (.ref a1), .val (.int (2 : Int32)), .val (.ref b2_3)] [(.int (1 : Int32)), (.ref b2_3), (.int (1 : Int32)), (.ref b2_3)])) rfl rfl (hb hby d4_29) _ ?_
    show Steps p.tables e below (T3.setTop (mkF m 30 #[.val (.ref a1), .val (.int (2 : Int32)), .val (.ref b2_3)] [(.int x1), (.int (1 : Int32)), (.ref b2_3)])) _
    refine XS.iconst X3.here hx rfl (hb hby d4_30) ?_
    refine XS.iadd X3.here hx rfl (hb hby d4_31) rfl ?_
    show Steps p.tables e below (T3.setTop (mkF m 32 #[.val (.ref a1), .val (.int (2 : Int32)), .val (.ref b2_3)] [(.int (x1 + (1 : Int32))), (.int (1 : Int32)), (.ref b2_3)])) _
    refine XS.i2b X3.here hx rfl (hb hby d4_32) rfl ?_
    show Steps p.tables e below (T3.setTop (mkF m 33 #[.val (.ref a1), .val (.int (2 : Int32)), .val (.ref b2_3)] [(.int ((x1 + (1 : Int32)).toInt8.toInt32)), (.int (1 : Int32)), (.ref b2_3)])) _
    refine st6 _ ?_
    show Steps p.tables e below (T6.setTop (mkF m 34 #[.val (.ref a1), .val (.int (2 : Int32)), .val (.ref b2_3)] [])) _
    refine XS.aloadN X6.here hx rfl (hb hby d4_34) rfl rfl ?_
    show Steps p.tables e below (T6.setTop (mkF m 35 #[.val (.ref a1), .val (.int (2 : Int32)), .val (.ref b2_3)] [(.ref b2_3)])) _
    exact retOut X6 hx Bd.returns rfl (Or.inr (Or.inr (Or.inr (Or.inr ⟨rfl, rfl, rfl⟩)))) (hb hby d4_35) hr
  · show Q_end_2_1 Z a1 ka x0 x1 h0 n0 _ T6.heap _
    rw [e6]
    exact ⟨b2_3, rfl, N6, K6, sz_b2_3, V_b2_3_33_5, (f3_1.wr W6)⟩
theorem ef_end_3_0 (m : MethodId) (a1 : Addr) : entryFrame m #[(.ref a1)] 3 = (mkF m 0 #[.val (.ref a1), .unset, .unset] []) := by first | (simp [entryFrame, mkF, argsToLocals, Value.category]; done) | rfl
def Q_end_3_0 (Z : State) (a1 : Addr) (ka : ClassId) (x0 : Int32) (x1 : Int32) (x2 : Int32) (h0 : Heap) (n0 : Nat) (v : Option Value) (h : Heap) (L : List Loc) : Prop := ∃ (b2_5 : Addr) (k2_5 : ClassId), v = some (.ref b2_5) ∧ Fr n0 L ∧ Keep h0 h [] ∧ h0.size ≤ b2_5 ∧ Arv Z h b2_5 k2_5 .byte (1 : Int32) [(.int (nar .byte ((x0 + (1 : Int32)).toInt8.toInt32)))] (.int (0 : Int32))
set_option maxRecDepth 65536 in
set_option maxHeartbeats 40000000 in
theorem rm_end_3_0 (l : Launch) (Z : State) (a0 : Array Value) (hw : ∀ d ∈ tables_1, d.before a0 Z = true) (ws : List Jvm.Cond) (a1 : Addr) (ka : ClassId) (x0 : Int32) (x1 : Int32) (x2 : Int32) (h0 : Heap) (n0 : Nat) (Z0 : n0 ≤ h0.size) (V_a1 : Arv Z h0 a1 ka .byte (3 : Int32) [(.int x0), (.int x1), (.int x2)] (.int (0 : Int32))) (E_a1 : Exa Z h0 a1 "[B") (hx2 : x2 = (-1 : Int32)) (hx1 : x1 = (-1 : Int32)) (hx0 : ¬ (x0 = (-1 : Int32))) :
    MetFree l (⟨"com/example/elliott_bay/elliottbay/store/Keys", "end", "([B)[B"⟩ : MethodName) (head1 (Jvm.Cond.code (⟨"com/example/elliott_bay/elliottbay/store/Keys", "end", "([B)[B"⟩ : MethodName) prog_107_method_15_code 3 (some (.array .byte)) :: ws) ({ frames := 2, cells := 1, slots := 1, locals := 32 } : Room)) (fun a U => a = #[(.ref a1)] ∧ Z.Warmed39 U.vm ∧ U.heap = h0) (fun _ _ _ _ _ => True) (fun _ U o U' => ∃ v L, o = .returned v ∧ Q_end_3_0 Z a1 ka x0 x1 x2 h0 n0 v U'.heap L ∧ FrameEnd U o U' L ({ frames := 2, cells := 1, slots := 1, locals := 32 } : Room).cells ({ frames := 2, cells := 1, slots := 1, locals := 32 } : Room).slots) := by
  refine MetFree.of_bodySF (plainFor_of_name pn2) hisR ?_
  intro p e s m args below meth c s₁ Bd hml0 hP hK
  obtain ⟨rfl, hZ, hh⟩ := hP
  have hx := Bd.exec
  have hby := Bd.bytes
  have hml : c.maxLocals = 3 := hml0
  have hown : s.vm.findClass "com/example/elliott_bay/elliottbay/store/Keys" = some m.cls := findClass_of_methodNamed Bd.named
  have hnm := (name_of_methodNamed Bd.named Bd.method).1
  have X0 : Stand p l e ({ frames := 2, cells := 1, slots := 1, locals := 32 } : Room) s m #[(.ref a1)] below meth c s₁ [] 0 0 := Stand.of_body Bd
  have e0 : s₁.heap = h0 := by rw [← hh, Bd.state]; rfl
  have N0 := Fr.nil n0
  have pre0 : ∀ t, Steps p.tables e below (s₁.setTop (mkF m 0 #[.val (.ref a1), .unset, .unset] [])) t → Steps p.tables e below (s₁.setTop (entryFrame m #[(.ref a1)] 3)) t := fun t k => castTop (ef_end_3_0 m a1) k
  obtain ⟨cl_a1_1_1, Ar_a1_1_1, -, S_a1_1_1, N_a1_1_1, -, -⟩ := id V_a1
  obtain ⟨cl_a1_7_2, Ar_a1_7_2, q_a1_7_2, S_a1_7_2, N_a1_7_2, H_a1_7_2, G_a1_7_2⟩ := id V_a1
  have hin_a1_7_2 : ¬ ((2 : Int32) < 0 ∨ cl_a1_7_2.slots.size ≤ ((2 : Int32) : Int32).toNatClampNeg) := inb_of S_a1_7_2 ⟨by decide, by decide⟩
  obtain ⟨cl_a1_7_3, Ar_a1_7_3, q_a1_7_3, S_a1_7_3, N_a1_7_3, H_a1_7_3, G_a1_7_3⟩ := id V_a1
  have hin_a1_7_3 : ¬ ((1 : Int32) < 0 ∨ cl_a1_7_3.slots.size ≤ ((1 : Int32) : Int32).toNatClampNeg) := inb_of S_a1_7_3 ⟨by decide, by decide⟩
  obtain ⟨cl_a1_7_4, Ar_a1_7_4, q_a1_7_4, S_a1_7_4, N_a1_7_4, H_a1_7_4, G_a1_7_4⟩ := id V_a1
  have hin_a1_7_4 : ¬ ((0 : Int32) < 0 ∨ cl_a1_7_4.slots.size ≤ ((0 : Int32) : Int32).toNatClampNeg) := inb_of S_a1_7_4 ⟨by decide, by decide⟩
  obtain ⟨_, _, ⟨T5, L5, k5, n5⟩, -, X5, ⟨Lc5, hQ5, l5, y5, z5⟩, st5⟩ := Jvm.LawKit.callS X0 hx (y := (⟨"java/util/Arrays", "copyOf", "([BI)[B"⟩ : MethodName)) hown (mvT hZ (hw _ (List.mem_of_getElem? (i := 15) rfl))) (mvT hZ (hw _ (List.mem_of_getElem? (i := 16) rfl))) (mvT hZ (hw _ (List.mem_of_getElem? (i := 17) rfl))) (mvT hZ (hw _ (List.mem_of_getElem? (i := 18) rfl))) (by decide) (backOf (W := 0) (rm_copy_3_1 l Z a0 hw [] a1 ka x0 x1 x2 h0 n0 (Nat.le_trans Z0 (Keep.refl h0 []).1) V_a1 E_a1 ) hZ (hw _ (List.mem_of_getElem? (i := 18) rfl)) (hw _ (List.mem_of_getElem? (i := 17) rfl)) (by decide) (by decide)) (g := (mkF m 20 #[.val (.ref a1), .val (.int (1 : Int32)), .unset] [(.int (1 : Int32)), (.ref a1)])) rfl (by rw [hml]; rfl) (argsL := [(.ref a1), (.int (1 : Int32))]) (rest := []) (lenOf pd1 rfl) rfl (by show 2 * 0 + _ ≤ _; exact Nat.le_of_eq rfl) (hb hby d4_20) (fun _ _ => ⟨rfl, e0, (by decide : 0 + 1 ≤ _), (by decide : 0 + 1 ≤ _)⟩)
  dsimp only [Pt.U, Pt.locs, Pt.cells, Pt.slots] at X5 l5 y5 z5 st5 hQ5
  subst l5 y5 z5
  obtain ⟨b2_5, k2_5, rfl, N5q, K5, s5_b2, f5_0⟩ := hQ5
  have N5 := Fr.app N0 N5q
  have sz_b2_5 : h0.size ≤ b2_5 := Nat.le_trans (Keep.refl h0 []).1 s5_b2
  have g_b2_5 : n0 ≤ b2_5 := Nat.le_trans Z0 sz_b2_5
  have KK5 : Keep h0 T5.heap [] := (Keep.refl h0 []).trans K5 all0
  obtain ⟨cl_b2_5_29_6, Ar_b2_5_29_6, q_b2_5_29_6, S_b2_5_29_6, N_b2_5_29_6, H_b2_5_29_6, G_b2_5_29_6⟩ := id f5_0
  have hin_b2_5_29_6 : ¬ ((0 : Int32) < 0 ∨ cl_b2_5_29_6.slots.size ≤ ((0 : Int32) : Int32).toNatClampNeg) := inb_of S_b2_5_29_6 ⟨by decide, by decide⟩
  obtain ⟨cl_b2_5_33_7, Ar_b2_5_33_7, q_b2_5_33_7, S_b2_5_33_7, N_b2_5_33_7, H_b2_5_33_7, G_b2_5_33_7⟩ := id f5_0
  have hin_b2_5_33_7 : ¬ ((0 : Int32) < 0 ∨ cl_b2_5_33_7.slots.size ≤ ((0 : Int32) : Int32).toNatClampNeg) := inb_of S_b2_5_33_7 ⟨by decide, by decide⟩
  obtain ⟨T8, h8, X8, e8, W8, st8⟩ := stB X5 hx hZ rfl Ar_b2_5_33_7 (j := (0 : Int32)) hin_b2_5_33_7 (g := (mkF m 33 #[.val (.ref a1), .val (.int (1 : Int32)), .val (.ref b2_5)] [(.int ((x0 + (1 : Int32)).toInt8.toInt32)), (.int (0 : Int32)), (.ref b2_5)])) rfl rfl (hb hby d4_33)
  have V_b2_5_33_7 : Arv Z h8 b2_5 k2_5 .byte (1 : Int32) [(.int (nar .byte ((x0 + (1 : Int32)).toInt8.toInt32)))] (.int (0 : Int32)) := Arv.set Ar_b2_5_33_7 q_b2_5_33_7 S_b2_5_33_7 N_b2_5_33_7 H_b2_5_33_7 G_b2_5_33_7 (fits_nar_byte _) W8 0 rfl (Nat.le_of_ble_eq_true rfl)
  have K8 : Keep h0 h8 [] := KK5.wr W8 (Or.inr sz_b2_5)
  have N8 := Fr.snoc X8 N5 g_b2_5
  obtain ⟨fs, hr, hrun, hended, hW, hsame⟩ := X8.leave (v := some (.ref b2_5)) (fun h => by rw [Bd.returns] at h; cases h)
  refine ⟨_, _, pre0 _ ?_, hrun, hended, _, _, rfl, ?_, ⟨_, rfl⟩, hW, hsame.mono (by decide) (by decide)⟩
  · show Steps p.tables e below (s₁.setTop (mkF m 0 #[.val (.ref a1), .unset, .unset] [])) _
    refine XS.aloadN X0.here hx rfl (hb hby d4_0) rfl rfl ?_
    refine X0.arraylength hx (by rw [e0]; exact Ar_a1_1_1.1) (State.isArrayOf_alike hZ.alike Ar_a1_1_1.2.1) (g := (mkF m 1 #[.val (.ref a1), .unset, .unset] [(.ref a1)])) rfl rfl (hb hby d4_1) _ ?_
    rw [len_of S_a1_1_1 N_a1_1_1]
    show Steps p.tables e below (s₁.setTop (mkF m 2 #[.val (.ref a1), .unset, .unset] [(.int (3 : Int32))])) _
    refine XS.istoreN X0.here hx rfl (hb hby d4_2) rfl (l' := #[.val (.ref a1), .val (.int (3 : Int32)), .unset]) rfl ?_
    show Steps p.tables e below (s₁.setTop (mkF m 3 #[.val (.ref a1), .val (.int (3 : Int32)), .unset] [])) _
    refine XS.aloadN X0.here hx rfl (hb hby d4_3) rfl rfl ?_
    refine XS.iloadN X0.here hx rfl (hb hby d4_4) rfl ?_
    refine XS.iconst X0.here hx rfl (hb hby d4_5) ?_
    show Steps p.tables e below (s₁.setTop (mkF m 6 #[.val (.ref a1), .val (.int (3 : Int32)), .unset] [(.int (1 : Int32)), (.int (3 : Int32)), (.ref a1)])) _
    refine XS.isub X0.here hx rfl (hb hby d4_6) rfl ?_
    refine X0.baloadBytes hx (j := (2 : Int32)) (v := (.int x2)) (by rw [e0]; exact Ar_a1_7_2.1) (State.isArrayOf_alike hZ.alike Ar_a1_7_2.2.1) Ar_a1_7_2.2.2 hin_a1_7_2 (H_a1_7_2.at hin_a1_7_2 rfl) (g := (mkF m 7 #[.val (.ref a1), .val (.int (3 : Int32)), .unset] [(.int (2 : Int32)), (.ref a1)])) rfl rfl (hb hby d4_7) _ ?_
    show Steps p.tables e below (s₁.setTop (mkF m 8 #[.val (.ref a1), .val (.int (3 : Int32)), .unset] [(.int x2)])) _
    refine XS.iconst X0.here hx rfl (hb hby d4_8) ?_
    show Steps p.tables e below (s₁.setTop (mkF m 9 #[.val (.ref a1), .val (.int (3 : Int32)), .unset] [(.int (-1 : Int32)), (.int x2)])) _
    refine XS.icmpNo X0.here hx rfl (hb hby d4_9) rfl (teq hx2).2 ?_
    refine XS.iinc X0.here hx rfl (hb hby d4_12) rfl (l' := #[.val (.ref a1), .val (.int (2 : Int32)), .unset]) rfl ?_
    refine XS.goto X0.here hx rfl (pc0 := 15) (pc' := 3) rfl (hb hby d4_15) (by decide) (by decide) ?_
    show Steps p.tables e below (s₁.setTop (mkF m 3 #[.val (.ref a1), .val (.int (2 : Int32)), .unset] [])) _
    refine XS.aloadN X0.here hx rfl (hb hby d4_3) rfl rfl ?_
    refine XS.iloadN X0.here hx rfl (hb hby d4_4) rfl ?_
    refine XS.iconst X0.here hx rfl (hb hby d4_5) ?_
    show Steps p.tables e below (s₁.setTop (mkF m 6 #[.val (.ref a1), .val (.int (2 : Int32)), .unset] [(.int (1 : Int32)), (.int (2 : Int32)), (.ref a1)])) _
    refine XS.isub X0.here hx rfl (hb hby d4_6) rfl ?_
    refine X0.baloadBytes hx (j := (1 : Int32)) (v := (.int x1)) (by rw [e0]; exact Ar_a1_7_3.1) (State.isArrayOf_alike hZ.alike Ar_a1_7_3.2.1) Ar_a1_7_3.2.2 hin_a1_7_3 (H_a1_7_3.at hin_a1_7_3 rfl) (g := (mkF m 7 #[.val (.ref a1), .val (.int (2 : Int32)), .unset] [(.int (1 : Int32)), (.ref a1)])) rfl rfl (hb hby d4_7) _ ?_
    show Steps p.tables e below (s₁.setTop (mkF m 8 #[.val (.ref a1), .val (.int (2 : Int32)), .unset] [(.int x1)])) _
    refine XS.iconst X0.here hx rfl (hb hby d4_8) ?_
    show Steps p.tables e below (s₁.setTop (mkF m 9 #[.val (.ref a1), .val (.int (2 : Int32)), .unset] [(.int (-1 : Int32)), (.int x1)])) _
    refine XS.icmpNo X0.here hx rfl (hb hby d4_9) rfl (teq hx1).2 ?_
    refine XS.iinc X0.here hx rfl (hb hby d4_12) rfl (l' := #[.val (.ref a1), .val (.int (1 : Int32)), .unset]) rfl ?_
    refine XS.goto X0.here hx rfl (pc0 := 15) (pc' := 3) rfl (hb hby d4_15) (by decide) (by decide) ?_
    show Steps p.tables e below (s₁.setTop (mkF m 3 #[.val (.ref a1), .val (.int (1 : Int32)), .unset] [])) _
    refine XS.aloadN X0.here hx rfl (hb hby d4_3) rfl rfl ?_
    refine XS.iloadN X0.here hx rfl (hb hby d4_4) rfl ?_
    refine XS.iconst X0.here hx rfl (hb hby d4_5) ?_
    show Steps p.tables e below (s₁.setTop (mkF m 6 #[.val (.ref a1), .val (.int (1 : Int32)), .unset] [(.int (1 : Int32)), (.int (1 : Int32)), (.ref a1)])) _
    refine XS.isub X0.here hx rfl (hb hby d4_6) rfl ?_
    refine X0.baloadBytes hx (j := (0 : Int32)) (v := (.int x0)) (by rw [e0]; exact Ar_a1_7_4.1) (State.isArrayOf_alike hZ.alike Ar_a1_7_4.2.1) Ar_a1_7_4.2.2 hin_a1_7_4 (H_a1_7_4.at hin_a1_7_4 rfl) (g := (mkF m 7 #[.val (.ref a1), .val (.int (1 : Int32)), .unset] [(.int (0 : Int32)), (.ref a1)])) rfl rfl (hb hby d4_7) _ ?_
    show Steps p.tables e below (s₁.setTop (mkF m 8 #[.val (.ref a1), .val (.int (1 : Int32)), .unset] [(.int x0)])) _
    refine XS.iconst X0.here hx rfl (hb hby d4_8) ?_
    show Steps p.tables e below (s₁.setTop (mkF m 9 #[.val (.ref a1), .val (.int (1 : Int32)), .unset] [(.int (-1 : Int32)), (.int x0)])) _
    refine XS.icmpYes X0.here hx rfl (pc0 := 9) (pc' := 18) rfl (hb hby d4_9) rfl (feq hx0).2 (by decide) (by decide) ?_
    refine XS.aloadN X0.here hx rfl (hb hby d4_18) rfl rfl ?_
    refine XS.iloadN X0.here hx rfl (hb hby d4_19) rfl ?_
    show Steps p.tables e below (s₁.setTop (mkF m 20 #[.val (.ref a1), .val (.int (1 : Int32)), .unset] [(.int (1 : Int32)), (.ref a1)])) _
    refine st5 _ ?_
    show Steps p.tables e below (T5.setTop (mkF m 23 #[.val (.ref a1), .val (.int (1 : Int32)), .unset] [(.ref b2_5)])) _
    refine XS.astoreN X5.here hx rfl (hb hby d4_23) rfl rfl (l' := #[.val (.ref a1), .val (.int (1 : Int32)), .val (.ref b2_5)]) rfl ?_
    refine XS.aloadN X5.here hx rfl (hb hby d4_24) rfl rfl ?_
    refine XS.iloadN X5.here hx rfl (hb hby d4_25) rfl ?_
    show Steps p.tables e below (T5.setTop (mkF m 26 #[.val (.ref a1), .val (.int (1 : Int32)), .val (.ref b2_5)] [(.int (1 : Int32)), (.ref b2_5)])) _
    refine XS.iconst X5.here hx rfl (hb hby d4_26) ?_
    refine XS.isub X5.here hx rfl (hb hby d4_27) rfl ?_
    jvm_step X5.here [X5.here.top, hx, (hb hby d4_28), Value.category]
    show Steps p.tables e below (T5.setTop (mkF m 29 #[.val (.ref a1), .val (.int (1 : Int32)), .val (.ref b2_5)] [(.int (0 : Int32)), (.ref b2_5), (.int (0 : Int32)), (.ref b2_5)])) _
    refine X5.baloadBytes hx (j := (0 : Int32)) (v := (.int x0)) (by exact Ar_b2_5_29_6.1) (State.isArrayOf_alike hZ.alike Ar_b2_5_29_6.2.1) Ar_b2_5_29_6.2.2 hin_b2_5_29_6 (H_b2_5_29_6.at hin_b2_5_29_6 rfl) (g := (mkF m 29 #[.val (.ref a1), .val (.int (1 : Int32)), .val (.ref b2_5)] [(.int (0 : Int32)), (.ref b2_5), (.int (0 : Int32)), (.ref b2_5)])) rfl rfl (hb hby d4_29) _ ?_
    show Steps p.tables e below (T5.setTop (mkF m 30 #[.val (.ref a1), .val (.int (1 : Int32)), .val (.ref b2_5)] [(.int x0), (.int (0 : Int32)), (.ref b2_5)])) _
    refine XS.iconst X5.here hx rfl (hb hby d4_30) ?_
    refine XS.iadd X5.here hx rfl (hb hby d4_31) rfl ?_
    show Steps p.tables e below (T5.setTop (mkF m 32 #[.val (.ref a1), .val (.int (1 : Int32)), .val (.ref b2_5)] [(.int (x0 + (1 : Int32))), (.int (0 : Int32)), (.ref b2_5)])) _
    refine XS.i2b X5.here hx rfl (hb hby d4_32) rfl ?_
    show Steps p.tables e below (T5.setTop (mkF m 33 #[.val (.ref a1), .val (.int (1 : Int32)), .val (.ref b2_5)] [(.int ((x0 + (1 : Int32)).toInt8.toInt32)), (.int (0 : Int32)), (.ref b2_5)])) _
    refine st8 _ ?_
    show Steps p.tables e below (T8.setTop (mkF m 34 #[.val (.ref a1), .val (.int (1 : Int32)), .val (.ref b2_5)] [])) _
    refine XS.aloadN X8.here hx rfl (hb hby d4_34) rfl rfl ?_
    show Steps p.tables e below (T8.setTop (mkF m 35 #[.val (.ref a1), .val (.int (1 : Int32)), .val (.ref b2_5)] [(.ref b2_5)])) _
    exact retOut X8 hx Bd.returns rfl (Or.inr (Or.inr (Or.inr (Or.inr ⟨rfl, rfl, rfl⟩)))) (hb hby d4_35) hr
  · show Q_end_3_0 Z a1 ka x0 x1 x2 h0 n0 _ T8.heap _
    rw [e8]
    exact ⟨b2_5, k2_5, rfl, N8, K8, sz_b2_5, V_b2_5_33_7⟩
theorem ef_end_3_1 (m : MethodId) (a1 : Addr) : entryFrame m #[(.ref a1)] 3 = (mkF m 0 #[.val (.ref a1), .unset, .unset] []) := by first | (simp [entryFrame, mkF, argsToLocals, Value.category]; done) | rfl
def Q_end_3_1 (Z : State) (a1 : Addr) (ka : ClassId) (x0 : Int32) (x1 : Int32) (x2 : Int32) (h0 : Heap) (n0 : Nat) (v : Option Value) (h : Heap) (L : List Loc) : Prop := ∃ (b2_4 : Addr) (k2_4 : ClassId), v = some (.ref b2_4) ∧ Fr n0 L ∧ Keep h0 h [] ∧ h0.size ≤ b2_4 ∧ Arv Z h b2_4 k2_4 .byte (2 : Int32) [(.int x0), (.int (nar .byte ((x1 + (1 : Int32)).toInt8.toInt32)))] (.int (0 : Int32))
set_option maxRecDepth 65536 in
set_option maxHeartbeats 40000000 in
theorem rm_end_3_1 (l : Launch) (Z : State) (a0 : Array Value) (hw : ∀ d ∈ tables_1, d.before a0 Z = true) (ws : List Jvm.Cond) (a1 : Addr) (ka : ClassId) (x0 : Int32) (x1 : Int32) (x2 : Int32) (h0 : Heap) (n0 : Nat) (Z0 : n0 ≤ h0.size) (V_a1 : Arv Z h0 a1 ka .byte (3 : Int32) [(.int x0), (.int x1), (.int x2)] (.int (0 : Int32))) (E_a1 : Exa Z h0 a1 "[B") (hx2 : x2 = (-1 : Int32)) (hx1 : ¬ (x1 = (-1 : Int32))) :
    MetFree l (⟨"com/example/elliott_bay/elliottbay/store/Keys", "end", "([B)[B"⟩ : MethodName) (head1 (Jvm.Cond.code (⟨"com/example/elliott_bay/elliottbay/store/Keys", "end", "([B)[B"⟩ : MethodName) prog_107_method_15_code 3 (some (.array .byte)) :: ws) ({ frames := 2, cells := 1, slots := 2, locals := 32 } : Room)) (fun a U => a = #[(.ref a1)] ∧ Z.Warmed39 U.vm ∧ U.heap = h0) (fun _ _ _ _ _ => True) (fun _ U o U' => ∃ v L, o = .returned v ∧ Q_end_3_1 Z a1 ka x0 x1 x2 h0 n0 v U'.heap L ∧ FrameEnd U o U' L ({ frames := 2, cells := 1, slots := 2, locals := 32 } : Room).cells ({ frames := 2, cells := 1, slots := 2, locals := 32 } : Room).slots) := by
  refine MetFree.of_bodySF (plainFor_of_name pn2) hisR ?_
  intro p e s m args below meth c s₁ Bd hml0 hP hK
  obtain ⟨rfl, hZ, hh⟩ := hP
  have hx := Bd.exec
  have hby := Bd.bytes
  have hml : c.maxLocals = 3 := hml0
  have hown : s.vm.findClass "com/example/elliott_bay/elliottbay/store/Keys" = some m.cls := findClass_of_methodNamed Bd.named
  have hnm := (name_of_methodNamed Bd.named Bd.method).1
  have X0 : Stand p l e ({ frames := 2, cells := 1, slots := 2, locals := 32 } : Room) s m #[(.ref a1)] below meth c s₁ [] 0 0 := Stand.of_body Bd
  have e0 : s₁.heap = h0 := by rw [← hh, Bd.state]; rfl
  have N0 := Fr.nil n0
  have pre0 : ∀ t, Steps p.tables e below (s₁.setTop (mkF m 0 #[.val (.ref a1), .unset, .unset] [])) t → Steps p.tables e below (s₁.setTop (entryFrame m #[(.ref a1)] 3)) t := fun t k => castTop (ef_end_3_1 m a1) k
  obtain ⟨cl_a1_1_1, Ar_a1_1_1, -, S_a1_1_1, N_a1_1_1, -, -⟩ := id V_a1
  obtain ⟨cl_a1_7_2, Ar_a1_7_2, q_a1_7_2, S_a1_7_2, N_a1_7_2, H_a1_7_2, G_a1_7_2⟩ := id V_a1
  have hin_a1_7_2 : ¬ ((2 : Int32) < 0 ∨ cl_a1_7_2.slots.size ≤ ((2 : Int32) : Int32).toNatClampNeg) := inb_of S_a1_7_2 ⟨by decide, by decide⟩
  obtain ⟨cl_a1_7_3, Ar_a1_7_3, q_a1_7_3, S_a1_7_3, N_a1_7_3, H_a1_7_3, G_a1_7_3⟩ := id V_a1
  have hin_a1_7_3 : ¬ ((1 : Int32) < 0 ∨ cl_a1_7_3.slots.size ≤ ((1 : Int32) : Int32).toNatClampNeg) := inb_of S_a1_7_3 ⟨by decide, by decide⟩
  obtain ⟨_, _, ⟨T4, L4, k4, n4⟩, -, X4, ⟨Lc4, hQ4, l4, y4, z4⟩, st4⟩ := Jvm.LawKit.callS X0 hx (y := (⟨"java/util/Arrays", "copyOf", "([BI)[B"⟩ : MethodName)) hown (mvT hZ (hw _ (List.mem_of_getElem? (i := 15) rfl))) (mvT hZ (hw _ (List.mem_of_getElem? (i := 16) rfl))) (mvT hZ (hw _ (List.mem_of_getElem? (i := 17) rfl))) (mvT hZ (hw _ (List.mem_of_getElem? (i := 18) rfl))) (by decide) (backOf (W := 0) (rm_copy_3_2 l Z a0 hw [] a1 ka x0 x1 x2 h0 n0 (Nat.le_trans Z0 (Keep.refl h0 []).1) V_a1 E_a1 ) hZ (hw _ (List.mem_of_getElem? (i := 18) rfl)) (hw _ (List.mem_of_getElem? (i := 17) rfl)) (by decide) (by decide)) (g := (mkF m 20 #[.val (.ref a1), .val (.int (2 : Int32)), .unset] [(.int (2 : Int32)), (.ref a1)])) rfl (by rw [hml]; rfl) (argsL := [(.ref a1), (.int (2 : Int32))]) (rest := []) (lenOf pd1 rfl) rfl (by show 2 * 0 + _ ≤ _; exact Nat.le_of_eq rfl) (hb hby d4_20) (fun _ _ => ⟨rfl, e0, (by decide : 0 + 1 ≤ _), (by decide : 0 + 2 ≤ _)⟩)
  dsimp only [Pt.U, Pt.locs, Pt.cells, Pt.slots] at X4 l4 y4 z4 st4 hQ4
  subst l4 y4 z4
  obtain ⟨b2_4, k2_4, rfl, N4q, K4, s4_b2, f4_0⟩ := hQ4
  have N4 := Fr.app N0 N4q
  have sz_b2_4 : h0.size ≤ b2_4 := Nat.le_trans (Keep.refl h0 []).1 s4_b2
  have g_b2_4 : n0 ≤ b2_4 := Nat.le_trans Z0 sz_b2_4
  have KK4 : Keep h0 T4.heap [] := (Keep.refl h0 []).trans K4 all0
  obtain ⟨cl_b2_4_29_5, Ar_b2_4_29_5, q_b2_4_29_5, S_b2_4_29_5, N_b2_4_29_5, H_b2_4_29_5, G_b2_4_29_5⟩ := id f4_0
  have hin_b2_4_29_5 : ¬ ((1 : Int32) < 0 ∨ cl_b2_4_29_5.slots.size ≤ ((1 : Int32) : Int32).toNatClampNeg) := inb_of S_b2_4_29_5 ⟨by decide, by decide⟩
  obtain ⟨cl_b2_4_33_6, Ar_b2_4_33_6, q_b2_4_33_6, S_b2_4_33_6, N_b2_4_33_6, H_b2_4_33_6, G_b2_4_33_6⟩ := id f4_0
  have hin_b2_4_33_6 : ¬ ((1 : Int32) < 0 ∨ cl_b2_4_33_6.slots.size ≤ ((1 : Int32) : Int32).toNatClampNeg) := inb_of S_b2_4_33_6 ⟨by decide, by decide⟩
  obtain ⟨T7, h7, X7, e7, W7, st7⟩ := stB X4 hx hZ rfl Ar_b2_4_33_6 (j := (1 : Int32)) hin_b2_4_33_6 (g := (mkF m 33 #[.val (.ref a1), .val (.int (2 : Int32)), .val (.ref b2_4)] [(.int ((x1 + (1 : Int32)).toInt8.toInt32)), (.int (1 : Int32)), (.ref b2_4)])) rfl rfl (hb hby d4_33)
  have V_b2_4_33_6 : Arv Z h7 b2_4 k2_4 .byte (2 : Int32) [(.int x0), (.int (nar .byte ((x1 + (1 : Int32)).toInt8.toInt32)))] (.int (0 : Int32)) := Arv.set Ar_b2_4_33_6 q_b2_4_33_6 S_b2_4_33_6 N_b2_4_33_6 H_b2_4_33_6 G_b2_4_33_6 (fits_nar_byte _) W7 1 rfl (Nat.le_of_ble_eq_true rfl)
  have K7 : Keep h0 h7 [] := KK4.wr W7 (Or.inr sz_b2_4)
  have N7 := Fr.snoc X7 N4 g_b2_4
  obtain ⟨fs, hr, hrun, hended, hW, hsame⟩ := X7.leave (v := some (.ref b2_4)) (fun h => by rw [Bd.returns] at h; cases h)
  refine ⟨_, _, pre0 _ ?_, hrun, hended, _, _, rfl, ?_, ⟨_, rfl⟩, hW, hsame.mono (by decide) (by decide)⟩
  · show Steps p.tables e below (s₁.setTop (mkF m 0 #[.val (.ref a1), .unset, .unset] [])) _
    refine XS.aloadN X0.here hx rfl (hb hby d4_0) rfl rfl ?_
    refine X0.arraylength hx (by rw [e0]; exact Ar_a1_1_1.1) (State.isArrayOf_alike hZ.alike Ar_a1_1_1.2.1) (g := (mkF m 1 #[.val (.ref a1), .unset, .unset] [(.ref a1)])) rfl rfl (hb hby d4_1) _ ?_
    rw [len_of S_a1_1_1 N_a1_1_1]
    show Steps p.tables e below (s₁.setTop (mkF m 2 #[.val (.ref a1), .unset, .unset] [(.int (3 : Int32))])) _
    refine XS.istoreN X0.here hx rfl (hb hby d4_2) rfl (l' := #[.val (.ref a1), .val (.int (3 : Int32)), .unset]) rfl ?_
    show Steps p.tables e below (s₁.setTop (mkF m 3 #[.val (.ref a1), .val (.int (3 : Int32)), .unset] [])) _
    refine XS.aloadN X0.here hx rfl (hb hby d4_3) rfl rfl ?_
    refine XS.iloadN X0.here hx rfl (hb hby d4_4) rfl ?_
    refine XS.iconst X0.here hx rfl (hb hby d4_5) ?_
    show Steps p.tables e below (s₁.setTop (mkF m 6 #[.val (.ref a1), .val (.int (3 : Int32)), .unset] [(.int (1 : Int32)), (.int (3 : Int32)), (.ref a1)])) _
    refine XS.isub X0.here hx rfl (hb hby d4_6) rfl ?_
    refine X0.baloadBytes hx (j := (2 : Int32)) (v := (.int x2)) (by rw [e0]; exact Ar_a1_7_2.1) (State.isArrayOf_alike hZ.alike Ar_a1_7_2.2.1) Ar_a1_7_2.2.2 hin_a1_7_2 (H_a1_7_2.at hin_a1_7_2 rfl) (g := (mkF m 7 #[.val (.ref a1), .val (.int (3 : Int32)), .unset] [(.int (2 : Int32)), (.ref a1)])) rfl rfl (hb hby d4_7) _ ?_
    show Steps p.tables e below (s₁.setTop (mkF m 8 #[.val (.ref a1), .val (.int (3 : Int32)), .unset] [(.int x2)])) _
    refine XS.iconst X0.here hx rfl (hb hby d4_8) ?_
    show Steps p.tables e below (s₁.setTop (mkF m 9 #[.val (.ref a1), .val (.int (3 : Int32)), .unset] [(.int (-1 : Int32)), (.int x2)])) _
    refine XS.icmpNo X0.here hx rfl (hb hby d4_9) rfl (teq hx2).2 ?_
    refine XS.iinc X0.here hx rfl (hb hby d4_12) rfl (l' := #[.val (.ref a1), .val (.int (2 : Int32)), .unset]) rfl ?_
    refine XS.goto X0.here hx rfl (pc0 := 15) (pc' := 3) rfl (hb hby d4_15) (by decide) (by decide) ?_
    show Steps p.tables e below (s₁.setTop (mkF m 3 #[.val (.ref a1), .val (.int (2 : Int32)), .unset] [])) _
    refine XS.aloadN X0.here hx rfl (hb hby d4_3) rfl rfl ?_
    refine XS.iloadN X0.here hx rfl (hb hby d4_4) rfl ?_
    refine XS.iconst X0.here hx rfl (hb hby d4_5) ?_
    show Steps p.tables e below (s₁.setTop (mkF m 6 #[.val (.ref a1), .val (.int (2 : Int32)), .unset] [(.int (1 : Int32)), (.int (2 : Int32)), (.ref a1)])) _
    refine XS.isub X0.here hx rfl (hb hby d4_6) rfl ?_
    refine X0.baloadBytes hx (j := (1 : Int32)) (v := (.int x1)) (by rw [e0]; exact Ar_a1_7_3.1) (State.isArrayOf_alike hZ.alike Ar_a1_7_3.2.1) Ar_a1_7_3.2.2 hin_a1_7_3 (H_a1_7_3.at hin_a1_7_3 rfl) (g := (mkF m 7 #[.val (.ref a1), .val (.int (2 : Int32)), .unset] [(.int (1 : Int32)), (.ref a1)])) rfl rfl (hb hby d4_7) _ ?_
    show Steps p.tables e below (s₁.setTop (mkF m 8 #[.val (.ref a1), .val (.int (2 : Int32)), .unset] [(.int x1)])) _
    refine XS.iconst X0.here hx rfl (hb hby d4_8) ?_
    show Steps p.tables e below (s₁.setTop (mkF m 9 #[.val (.ref a1), .val (.int (2 : Int32)), .unset] [(.int (-1 : Int32)), (.int x1)])) _
    refine XS.icmpYes X0.here hx rfl (pc0 := 9) (pc' := 18) rfl (hb hby d4_9) rfl (feq hx1).2 (by decide) (by decide) ?_
    refine XS.aloadN X0.here hx rfl (hb hby d4_18) rfl rfl ?_
    refine XS.iloadN X0.here hx rfl (hb hby d4_19) rfl ?_
    show Steps p.tables e below (s₁.setTop (mkF m 20 #[.val (.ref a1), .val (.int (2 : Int32)), .unset] [(.int (2 : Int32)), (.ref a1)])) _
    refine st4 _ ?_
    show Steps p.tables e below (T4.setTop (mkF m 23 #[.val (.ref a1), .val (.int (2 : Int32)), .unset] [(.ref b2_4)])) _
    refine XS.astoreN X4.here hx rfl (hb hby d4_23) rfl rfl (l' := #[.val (.ref a1), .val (.int (2 : Int32)), .val (.ref b2_4)]) rfl ?_
    refine XS.aloadN X4.here hx rfl (hb hby d4_24) rfl rfl ?_
    refine XS.iloadN X4.here hx rfl (hb hby d4_25) rfl ?_
    show Steps p.tables e below (T4.setTop (mkF m 26 #[.val (.ref a1), .val (.int (2 : Int32)), .val (.ref b2_4)] [(.int (2 : Int32)), (.ref b2_4)])) _
    refine XS.iconst X4.here hx rfl (hb hby d4_26) ?_
    refine XS.isub X4.here hx rfl (hb hby d4_27) rfl ?_
    jvm_step X4.here [X4.here.top, hx, (hb hby d4_28), Value.category]
    show Steps p.tables e below (T4.setTop (mkF m 29 #[.val (.ref a1), .val (.int (2 : Int32)), .val (.ref b2_4)] [(.int (1 : Int32)), (.ref b2_4), (.int (1 : Int32)), (.ref b2_4)])) _
    refine X4.baloadBytes hx (j := (1 : Int32)) (v := (.int x1)) (by exact Ar_b2_4_29_5.1) (State.isArrayOf_alike hZ.alike Ar_b2_4_29_5.2.1) Ar_b2_4_29_5.2.2 hin_b2_4_29_5 (H_b2_4_29_5.at hin_b2_4_29_5 rfl) (g := (mkF m 29 #[.val (.ref a1), .val (.int (2 : Int32)), .val (.ref b2_4)] [(.int (1 : Int32)), (.ref b2_4), (.int (1 : Int32)), (.ref b2_4)])) rfl rfl (hb hby d4_29) _ ?_
    show Steps p.tables e below (T4.setTop (mkF m 30 #[.val (.ref a1), .val (.int (2 : Int32)), .val (.ref b2_4)] [(.int x1), (.int (1 : Int32)), (.ref b2_4)])) _
    refine XS.iconst X4.here hx rfl (hb hby d4_30) ?_
    refine XS.iadd X4.here hx rfl (hb hby d4_31) rfl ?_
    show Steps p.tables e below (T4.setTop (mkF m 32 #[.val (.ref a1), .val (.int (2 : Int32)), .val (.ref b2_4)] [(.int (x1 + (1 : Int32))), (.int (1 : Int32)), (.ref b2_4)])) _
    refine XS.i2b X4.here hx rfl (hb hby d4_32) rfl ?_
    show Steps p.tables e below (T4.setTop (mkF m 33 #[.val (.ref a1), .val (.int (2 : Int32)), .val (.ref b2_4)] [(.int ((x1 + (1 : Int32)).toInt8.toInt32)), (.int (1 : Int32)), (.ref b2_4)])) _
    refine st7 _ ?_
    show Steps p.tables e below (T7.setTop (mkF m 34 #[.val (.ref a1), .val (.int (2 : Int32)), .val (.ref b2_4)] [])) _
    refine XS.aloadN X7.here hx rfl (hb hby d4_34) rfl rfl ?_
    show Steps p.tables e below (T7.setTop (mkF m 35 #[.val (.ref a1), .val (.int (2 : Int32)), .val (.ref b2_4)] [(.ref b2_4)])) _
    exact retOut X7 hx Bd.returns rfl (Or.inr (Or.inr (Or.inr (Or.inr ⟨rfl, rfl, rfl⟩)))) (hb hby d4_35) hr
  · show Q_end_3_1 Z a1 ka x0 x1 x2 h0 n0 _ T7.heap _
    rw [e7]
    exact ⟨b2_4, k2_4, rfl, N7, K7, sz_b2_4, V_b2_4_33_6⟩
theorem ef_end_3_2 (m : MethodId) (a1 : Addr) : entryFrame m #[(.ref a1)] 3 = (mkF m 0 #[.val (.ref a1), .unset, .unset] []) := by first | (simp [entryFrame, mkF, argsToLocals, Value.category]; done) | rfl
def Q_end_3_2 (Z : State) (a1 : Addr) (ka : ClassId) (x0 : Int32) (x1 : Int32) (x2 : Int32) (h0 : Heap) (n0 : Nat) (v : Option Value) (h : Heap) (L : List Loc) : Prop := ∃ (b2_3 : Addr), v = some (.ref b2_3) ∧ Fr n0 L ∧ Keep h0 h [] ∧ h0.size ≤ b2_3 ∧ Arv Z h b2_3 ka .byte (3 : Int32) [(.int x0), (.int x1), (.int (nar .byte ((x2 + (1 : Int32)).toInt8.toInt32)))] (.int (0 : Int32)) ∧ Exa Z h b2_3 "[B"
set_option maxRecDepth 65536 in
set_option maxHeartbeats 40000000 in
theorem rm_end_3_2 (l : Launch) (Z : State) (a0 : Array Value) (hw : ∀ d ∈ tables_1, d.before a0 Z = true) (ws : List Jvm.Cond) (a1 : Addr) (ka : ClassId) (x0 : Int32) (x1 : Int32) (x2 : Int32) (h0 : Heap) (n0 : Nat) (Z0 : n0 ≤ h0.size) (V_a1 : Arv Z h0 a1 ka .byte (3 : Int32) [(.int x0), (.int x1), (.int x2)] (.int (0 : Int32))) (E_a1 : Exa Z h0 a1 "[B") (hx2 : ¬ (x2 = (-1 : Int32))) :
    MetFree l (⟨"com/example/elliott_bay/elliottbay/store/Keys", "end", "([B)[B"⟩ : MethodName) (head1 (Jvm.Cond.code (⟨"com/example/elliott_bay/elliottbay/store/Keys", "end", "([B)[B"⟩ : MethodName) prog_107_method_15_code 3 (some (.array .byte)) :: ws) ({ frames := 2, cells := 1, slots := 3, locals := 28 } : Room)) (fun a U => a = #[(.ref a1)] ∧ Z.Warmed39 U.vm ∧ U.heap = h0) (fun _ _ _ _ _ => True) (fun _ U o U' => ∃ v L, o = .returned v ∧ Q_end_3_2 Z a1 ka x0 x1 x2 h0 n0 v U'.heap L ∧ FrameEnd U o U' L ({ frames := 2, cells := 1, slots := 3, locals := 28 } : Room).cells ({ frames := 2, cells := 1, slots := 3, locals := 28 } : Room).slots) := by
  refine MetFree.of_bodySF (plainFor_of_name pn2) hisR ?_
  intro p e s m args below meth c s₁ Bd hml0 hP hK
  obtain ⟨rfl, hZ, hh⟩ := hP
  have hx := Bd.exec
  have hby := Bd.bytes
  have hml : c.maxLocals = 3 := hml0
  have hown : s.vm.findClass "com/example/elliott_bay/elliottbay/store/Keys" = some m.cls := findClass_of_methodNamed Bd.named
  have hnm := (name_of_methodNamed Bd.named Bd.method).1
  have X0 : Stand p l e ({ frames := 2, cells := 1, slots := 3, locals := 28 } : Room) s m #[(.ref a1)] below meth c s₁ [] 0 0 := Stand.of_body Bd
  have e0 : s₁.heap = h0 := by rw [← hh, Bd.state]; rfl
  have N0 := Fr.nil n0
  have pre0 : ∀ t, Steps p.tables e below (s₁.setTop (mkF m 0 #[.val (.ref a1), .unset, .unset] [])) t → Steps p.tables e below (s₁.setTop (entryFrame m #[(.ref a1)] 3)) t := fun t k => castTop (ef_end_3_2 m a1) k
  obtain ⟨cl_a1_1_1, Ar_a1_1_1, -, S_a1_1_1, N_a1_1_1, -, -⟩ := id V_a1
  obtain ⟨cl_a1_7_2, Ar_a1_7_2, q_a1_7_2, S_a1_7_2, N_a1_7_2, H_a1_7_2, G_a1_7_2⟩ := id V_a1
  have hin_a1_7_2 : ¬ ((2 : Int32) < 0 ∨ cl_a1_7_2.slots.size ≤ ((2 : Int32) : Int32).toNatClampNeg) := inb_of S_a1_7_2 ⟨by decide, by decide⟩
  obtain ⟨_, _, ⟨T3, L3, k3, n3⟩, -, X3, ⟨Lc3, hQ3, l3, y3, z3⟩, st3⟩ := Jvm.LawKit.callS X0 hx (y := (⟨"java/util/Arrays", "copyOf", "([BI)[B"⟩ : MethodName)) hown (mvT hZ (hw _ (List.mem_of_getElem? (i := 15) rfl))) (mvT hZ (hw _ (List.mem_of_getElem? (i := 16) rfl))) (mvT hZ (hw _ (List.mem_of_getElem? (i := 17) rfl))) (mvT hZ (hw _ (List.mem_of_getElem? (i := 18) rfl))) (by decide) (backOf (W := 0) (rm_copy_3_3 l Z a0 hw [] a1 ka x0 x1 x2 h0 n0 (Nat.le_trans Z0 (Keep.refl h0 []).1) V_a1 E_a1 ) hZ (hw _ (List.mem_of_getElem? (i := 18) rfl)) (hw _ (List.mem_of_getElem? (i := 17) rfl)) (by decide) (by decide)) (g := (mkF m 20 #[.val (.ref a1), .val (.int (3 : Int32)), .unset] [(.int (3 : Int32)), (.ref a1)])) rfl (by rw [hml]; rfl) (argsL := [(.ref a1), (.int (3 : Int32))]) (rest := []) (lenOf pd1 rfl) rfl (by show 2 * 0 + _ ≤ _; exact Nat.le_of_eq rfl) (hb hby d4_20) (fun _ _ => ⟨rfl, e0, (by decide : 0 + 1 ≤ _), (by decide : 0 + 3 ≤ _)⟩)
  dsimp only [Pt.U, Pt.locs, Pt.cells, Pt.slots] at X3 l3 y3 z3 st3 hQ3
  subst l3 y3 z3
  obtain ⟨b2_3, rfl, N3q, K3, s3_b2, f3_0, f3_1⟩ := hQ3
  have N3 := Fr.app N0 N3q
  have sz_b2_3 : h0.size ≤ b2_3 := Nat.le_trans (Keep.refl h0 []).1 s3_b2
  have g_b2_3 : n0 ≤ b2_3 := Nat.le_trans Z0 sz_b2_3
  have KK3 : Keep h0 T3.heap [] := (Keep.refl h0 []).trans K3 all0
  obtain ⟨cl_b2_3_29_4, Ar_b2_3_29_4, q_b2_3_29_4, S_b2_3_29_4, N_b2_3_29_4, H_b2_3_29_4, G_b2_3_29_4⟩ := id f3_0
  have hin_b2_3_29_4 : ¬ ((2 : Int32) < 0 ∨ cl_b2_3_29_4.slots.size ≤ ((2 : Int32) : Int32).toNatClampNeg) := inb_of S_b2_3_29_4 ⟨by decide, by decide⟩
  obtain ⟨cl_b2_3_33_5, Ar_b2_3_33_5, q_b2_3_33_5, S_b2_3_33_5, N_b2_3_33_5, H_b2_3_33_5, G_b2_3_33_5⟩ := id f3_0
  have hin_b2_3_33_5 : ¬ ((2 : Int32) < 0 ∨ cl_b2_3_33_5.slots.size ≤ ((2 : Int32) : Int32).toNatClampNeg) := inb_of S_b2_3_33_5 ⟨by decide, by decide⟩
  obtain ⟨T6, h6, X6, e6, W6, st6⟩ := stB X3 hx hZ rfl Ar_b2_3_33_5 (j := (2 : Int32)) hin_b2_3_33_5 (g := (mkF m 33 #[.val (.ref a1), .val (.int (3 : Int32)), .val (.ref b2_3)] [(.int ((x2 + (1 : Int32)).toInt8.toInt32)), (.int (2 : Int32)), (.ref b2_3)])) rfl rfl (hb hby d4_33)
  have V_b2_3_33_5 : Arv Z h6 b2_3 ka .byte (3 : Int32) [(.int x0), (.int x1), (.int (nar .byte ((x2 + (1 : Int32)).toInt8.toInt32)))] (.int (0 : Int32)) := Arv.set Ar_b2_3_33_5 q_b2_3_33_5 S_b2_3_33_5 N_b2_3_33_5 H_b2_3_33_5 G_b2_3_33_5 (fits_nar_byte _) W6 2 rfl (Nat.le_of_ble_eq_true rfl)
  have K6 : Keep h0 h6 [] := KK3.wr W6 (Or.inr sz_b2_3)
  have N6 := Fr.snoc X6 N3 g_b2_3
  obtain ⟨fs, hr, hrun, hended, hW, hsame⟩ := X6.leave (v := some (.ref b2_3)) (fun h => by rw [Bd.returns] at h; cases h)
  refine ⟨_, _, pre0 _ ?_, hrun, hended, _, _, rfl, ?_, ⟨_, rfl⟩, hW, hsame.mono (by decide) (by decide)⟩
  · show Steps p.tables e below (s₁.setTop (mkF m 0 #[.val (.ref a1), .unset, .unset] [])) _
    refine XS.aloadN X0.here hx rfl (hb hby d4_0) rfl rfl ?_
    refine X0.arraylength hx (by rw [e0]; exact Ar_a1_1_1.1) (State.isArrayOf_alike hZ.alike Ar_a1_1_1.2.1) (g := (mkF m 1 #[.val (.ref a1), .unset, .unset] [(.ref a1)])) rfl rfl (hb hby d4_1) _ ?_
    rw [len_of S_a1_1_1 N_a1_1_1]
    show Steps p.tables e below (s₁.setTop (mkF m 2 #[.val (.ref a1), .unset, .unset] [(.int (3 : Int32))])) _
    refine XS.istoreN X0.here hx rfl (hb hby d4_2) rfl (l' := #[.val (.ref a1), .val (.int (3 : Int32)), .unset]) rfl ?_
    show Steps p.tables e below (s₁.setTop (mkF m 3 #[.val (.ref a1), .val (.int (3 : Int32)), .unset] [])) _
    refine XS.aloadN X0.here hx rfl (hb hby d4_3) rfl rfl ?_
    refine XS.iloadN X0.here hx rfl (hb hby d4_4) rfl ?_
    refine XS.iconst X0.here hx rfl (hb hby d4_5) ?_
    show Steps p.tables e below (s₁.setTop (mkF m 6 #[.val (.ref a1), .val (.int (3 : Int32)), .unset] [(.int (1 : Int32)), (.int (3 : Int32)), (.ref a1)])) _
    refine XS.isub X0.here hx rfl (hb hby d4_6) rfl ?_
    refine X0.baloadBytes hx (j := (2 : Int32)) (v := (.int x2)) (by rw [e0]; exact Ar_a1_7_2.1) (State.isArrayOf_alike hZ.alike Ar_a1_7_2.2.1) Ar_a1_7_2.2.2 hin_a1_7_2 (H_a1_7_2.at hin_a1_7_2 rfl) (g := (mkF m 7 #[.val (.ref a1), .val (.int (3 : Int32)), .unset] [(.int (2 : Int32)), (.ref a1)])) rfl rfl (hb hby d4_7) _ ?_
    show Steps p.tables e below (s₁.setTop (mkF m 8 #[.val (.ref a1), .val (.int (3 : Int32)), .unset] [(.int x2)])) _
    refine XS.iconst X0.here hx rfl (hb hby d4_8) ?_
    show Steps p.tables e below (s₁.setTop (mkF m 9 #[.val (.ref a1), .val (.int (3 : Int32)), .unset] [(.int (-1 : Int32)), (.int x2)])) _
    refine XS.icmpYes X0.here hx rfl (pc0 := 9) (pc' := 18) rfl (hb hby d4_9) rfl (feq hx2).2 (by decide) (by decide) ?_
    refine XS.aloadN X0.here hx rfl (hb hby d4_18) rfl rfl ?_
    refine XS.iloadN X0.here hx rfl (hb hby d4_19) rfl ?_
    show Steps p.tables e below (s₁.setTop (mkF m 20 #[.val (.ref a1), .val (.int (3 : Int32)), .unset] [(.int (3 : Int32)), (.ref a1)])) _
    refine st3 _ ?_
    show Steps p.tables e below (T3.setTop (mkF m 23 #[.val (.ref a1), .val (.int (3 : Int32)), .unset] [(.ref b2_3)])) _
    refine XS.astoreN X3.here hx rfl (hb hby d4_23) rfl rfl (l' := #[.val (.ref a1), .val (.int (3 : Int32)), .val (.ref b2_3)]) rfl ?_
    refine XS.aloadN X3.here hx rfl (hb hby d4_24) rfl rfl ?_
    refine XS.iloadN X3.here hx rfl (hb hby d4_25) rfl ?_
    show Steps p.tables e below (T3.setTop (mkF m 26 #[.val (.ref a1), .val (.int (3 : Int32)), .val (.ref b2_3)] [(.int (3 : Int32)), (.ref b2_3)])) _
    refine XS.iconst X3.here hx rfl (hb hby d4_26) ?_
    refine XS.isub X3.here hx rfl (hb hby d4_27) rfl ?_
    jvm_step X3.here [X3.here.top, hx, (hb hby d4_28), Value.category]
    show Steps p.tables e below (T3.setTop (mkF m 29 #[.val (.ref a1), .val (.int (3 : Int32)), .val (.ref b2_3)] [(.int (2 : Int32)), (.ref b2_3), (.int (2 : Int32)), (.ref b2_3)])) _
    refine X3.baloadBytes hx (j := (2 : Int32)) (v := (.int x2)) (by exact Ar_b2_3_29_4.1) (State.isArrayOf_alike hZ.alike Ar_b2_3_29_4.2.1) Ar_b2_3_29_4.2.2 hin_b2_3_29_4 (H_b2_3_29_4.at hin_b2_3_29_4 rfl) (g := (mkF m 29 #[.val (.ref a1), .val (.int (3 : Int32)), .val (.ref b2_3)] [(.int (2 : Int32)), (.ref b2_3), (.int (2 : Int32)), (.ref b2_3)])) rfl rfl (hb hby d4_29) _ ?_
    show Steps p.tables e below (T3.setTop (mkF m 30 #[.val (.ref a1), .val (.int (3 : Int32)), .val (.ref b2_3)] [(.int x2), (.int (2 : Int32)), (.ref b2_3)])) _
    refine XS.iconst X3.here hx rfl (hb hby d4_30) ?_
    refine XS.iadd X3.here hx rfl (hb hby d4_31) rfl ?_
    show Steps p.tables e below (T3.setTop (mkF m 32 #[.val (.ref a1), .val (.int (3 : Int32)), .val (.ref b2_3)] [(.int (x2 + (1 : Int32))), (.int (2 : Int32)), (.ref b2_3)])) _
    refine XS.i2b X3.here hx rfl (hb hby d4_32) rfl ?_
    show Steps p.tables e below (T3.setTop (mkF m 33 #[.val (.ref a1), .val (.int (3 : Int32)), .val (.ref b2_3)] [(.int ((x2 + (1 : Int32)).toInt8.toInt32)), (.int (2 : Int32)), (.ref b2_3)])) _
    refine st6 _ ?_
    show Steps p.tables e below (T6.setTop (mkF m 34 #[.val (.ref a1), .val (.int (3 : Int32)), .val (.ref b2_3)] [])) _
    refine XS.aloadN X6.here hx rfl (hb hby d4_34) rfl rfl ?_
    show Steps p.tables e below (T6.setTop (mkF m 35 #[.val (.ref a1), .val (.int (3 : Int32)), .val (.ref b2_3)] [(.ref b2_3)])) _
    exact retOut X6 hx Bd.returns rfl (Or.inr (Or.inr (Or.inr (Or.inr ⟨rfl, rfl, rfl⟩)))) (hb hby d4_35) hr
  · show Q_end_3_2 Z a1 ka x0 x1 x2 h0 n0 _ T6.heap _
    rw [e6]
    exact ⟨b2_3, rfl, N6, K6, sz_b2_3, V_b2_3_33_5, (f3_1.wr W6)⟩
theorem ef_end_4_0 (m : MethodId) (a1 : Addr) : entryFrame m #[(.ref a1)] 3 = (mkF m 0 #[.val (.ref a1), .unset, .unset] []) := by first | (simp [entryFrame, mkF, argsToLocals, Value.category]; done) | rfl
def Q_end_4_0 (Z : State) (a1 : Addr) (ka : ClassId) (x0 : Int32) (x1 : Int32) (x2 : Int32) (x3 : Int32) (h0 : Heap) (n0 : Nat) (v : Option Value) (h : Heap) (L : List Loc) : Prop := ∃ (b2_6 : Addr) (k2_6 : ClassId), v = some (.ref b2_6) ∧ Fr n0 L ∧ Keep h0 h [] ∧ h0.size ≤ b2_6 ∧ Arv Z h b2_6 k2_6 .byte (1 : Int32) [(.int (nar .byte ((x0 + (1 : Int32)).toInt8.toInt32)))] (.int (0 : Int32))
set_option maxRecDepth 65536 in
set_option maxHeartbeats 40000000 in
theorem rm_end_4_0 (l : Launch) (Z : State) (a0 : Array Value) (hw : ∀ d ∈ tables_1, d.before a0 Z = true) (ws : List Jvm.Cond) (a1 : Addr) (ka : ClassId) (x0 : Int32) (x1 : Int32) (x2 : Int32) (x3 : Int32) (h0 : Heap) (n0 : Nat) (Z0 : n0 ≤ h0.size) (V_a1 : Arv Z h0 a1 ka .byte (4 : Int32) [(.int x0), (.int x1), (.int x2), (.int x3)] (.int (0 : Int32))) (E_a1 : Exa Z h0 a1 "[B") (hx3 : x3 = (-1 : Int32)) (hx2 : x2 = (-1 : Int32)) (hx1 : x1 = (-1 : Int32)) (hx0 : ¬ (x0 = (-1 : Int32))) :
    MetFree l (⟨"com/example/elliott_bay/elliottbay/store/Keys", "end", "([B)[B"⟩ : MethodName) (head1 (Jvm.Cond.code (⟨"com/example/elliott_bay/elliottbay/store/Keys", "end", "([B)[B"⟩ : MethodName) prog_107_method_15_code 3 (some (.array .byte)) :: ws) ({ frames := 2, cells := 1, slots := 1, locals := 32 } : Room)) (fun a U => a = #[(.ref a1)] ∧ Z.Warmed39 U.vm ∧ U.heap = h0) (fun _ _ _ _ _ => True) (fun _ U o U' => ∃ v L, o = .returned v ∧ Q_end_4_0 Z a1 ka x0 x1 x2 x3 h0 n0 v U'.heap L ∧ FrameEnd U o U' L ({ frames := 2, cells := 1, slots := 1, locals := 32 } : Room).cells ({ frames := 2, cells := 1, slots := 1, locals := 32 } : Room).slots) := by
  refine MetFree.of_bodySF (plainFor_of_name pn2) hisR ?_
  intro p e s m args below meth c s₁ Bd hml0 hP hK
  obtain ⟨rfl, hZ, hh⟩ := hP
  have hx := Bd.exec
  have hby := Bd.bytes
  have hml : c.maxLocals = 3 := hml0
  have hown : s.vm.findClass "com/example/elliott_bay/elliottbay/store/Keys" = some m.cls := findClass_of_methodNamed Bd.named
  have hnm := (name_of_methodNamed Bd.named Bd.method).1
  have X0 : Stand p l e ({ frames := 2, cells := 1, slots := 1, locals := 32 } : Room) s m #[(.ref a1)] below meth c s₁ [] 0 0 := Stand.of_body Bd
  have e0 : s₁.heap = h0 := by rw [← hh, Bd.state]; rfl
  have N0 := Fr.nil n0
  have pre0 : ∀ t, Steps p.tables e below (s₁.setTop (mkF m 0 #[.val (.ref a1), .unset, .unset] [])) t → Steps p.tables e below (s₁.setTop (entryFrame m #[(.ref a1)] 3)) t := fun t k => castTop (ef_end_4_0 m a1) k
  obtain ⟨cl_a1_1_1, Ar_a1_1_1, -, S_a1_1_1, N_a1_1_1, -, -⟩ := id V_a1
  obtain ⟨cl_a1_7_2, Ar_a1_7_2, q_a1_7_2, S_a1_7_2, N_a1_7_2, H_a1_7_2, G_a1_7_2⟩ := id V_a1
  have hin_a1_7_2 : ¬ ((3 : Int32) < 0 ∨ cl_a1_7_2.slots.size ≤ ((3 : Int32) : Int32).toNatClampNeg) := inb_of S_a1_7_2 ⟨by decide, by decide⟩
  obtain ⟨cl_a1_7_3, Ar_a1_7_3, q_a1_7_3, S_a1_7_3, N_a1_7_3, H_a1_7_3, G_a1_7_3⟩ := id V_a1
  have hin_a1_7_3 : ¬ ((2 : Int32) < 0 ∨ cl_a1_7_3.slots.size ≤ ((2 : Int32) : Int32).toNatClampNeg) := inb_of S_a1_7_3 ⟨by decide, by decide⟩
  obtain ⟨cl_a1_7_4, Ar_a1_7_4, q_a1_7_4, S_a1_7_4, N_a1_7_4, H_a1_7_4, G_a1_7_4⟩ := id V_a1
  have hin_a1_7_4 : ¬ ((1 : Int32) < 0 ∨ cl_a1_7_4.slots.size ≤ ((1 : Int32) : Int32).toNatClampNeg) := inb_of S_a1_7_4 ⟨by decide, by decide⟩
  obtain ⟨cl_a1_7_5, Ar_a1_7_5, q_a1_7_5, S_a1_7_5, N_a1_7_5, H_a1_7_5, G_a1_7_5⟩ := id V_a1
  have hin_a1_7_5 : ¬ ((0 : Int32) < 0 ∨ cl_a1_7_5.slots.size ≤ ((0 : Int32) : Int32).toNatClampNeg) := inb_of S_a1_7_5 ⟨by decide, by decide⟩
  obtain ⟨_, _, ⟨T6, L6, k6, n6⟩, -, X6, ⟨Lc6, hQ6, l6, y6, z6⟩, st6⟩ := Jvm.LawKit.callS X0 hx (y := (⟨"java/util/Arrays", "copyOf", "([BI)[B"⟩ : MethodName)) hown (mvT hZ (hw _ (List.mem_of_getElem? (i := 15) rfl))) (mvT hZ (hw _ (List.mem_of_getElem? (i := 16) rfl))) (mvT hZ (hw _ (List.mem_of_getElem? (i := 17) rfl))) (mvT hZ (hw _ (List.mem_of_getElem? (i := 18) rfl))) (by decide) (backOf (W := 0) (rm_copy_4_1 l Z a0 hw [] a1 ka x0 x1 x2 x3 h0 n0 (Nat.le_trans Z0 (Keep.refl h0 []).1) V_a1 E_a1 ) hZ (hw _ (List.mem_of_getElem? (i := 18) rfl)) (hw _ (List.mem_of_getElem? (i := 17) rfl)) (by decide) (by decide)) (g := (mkF m 20 #[.val (.ref a1), .val (.int (1 : Int32)), .unset] [(.int (1 : Int32)), (.ref a1)])) rfl (by rw [hml]; rfl) (argsL := [(.ref a1), (.int (1 : Int32))]) (rest := []) (lenOf pd1 rfl) rfl (by show 2 * 0 + _ ≤ _; exact Nat.le_of_eq rfl) (hb hby d4_20) (fun _ _ => ⟨rfl, e0, (by decide : 0 + 1 ≤ _), (by decide : 0 + 1 ≤ _)⟩)
  dsimp only [Pt.U, Pt.locs, Pt.cells, Pt.slots] at X6 l6 y6 z6 st6 hQ6
  subst l6 y6 z6
  obtain ⟨b2_6, k2_6, rfl, N6q, K6, s6_b2, f6_0⟩ := hQ6
  have N6 := Fr.app N0 N6q
  have sz_b2_6 : h0.size ≤ b2_6 := Nat.le_trans (Keep.refl h0 []).1 s6_b2
  have g_b2_6 : n0 ≤ b2_6 := Nat.le_trans Z0 sz_b2_6
  have KK6 : Keep h0 T6.heap [] := (Keep.refl h0 []).trans K6 all0
  obtain ⟨cl_b2_6_29_7, Ar_b2_6_29_7, q_b2_6_29_7, S_b2_6_29_7, N_b2_6_29_7, H_b2_6_29_7, G_b2_6_29_7⟩ := id f6_0
  have hin_b2_6_29_7 : ¬ ((0 : Int32) < 0 ∨ cl_b2_6_29_7.slots.size ≤ ((0 : Int32) : Int32).toNatClampNeg) := inb_of S_b2_6_29_7 ⟨by decide, by decide⟩
  obtain ⟨cl_b2_6_33_8, Ar_b2_6_33_8, q_b2_6_33_8, S_b2_6_33_8, N_b2_6_33_8, H_b2_6_33_8, G_b2_6_33_8⟩ := id f6_0
  have hin_b2_6_33_8 : ¬ ((0 : Int32) < 0 ∨ cl_b2_6_33_8.slots.size ≤ ((0 : Int32) : Int32).toNatClampNeg) := inb_of S_b2_6_33_8 ⟨by decide, by decide⟩
  obtain ⟨T9, h9, X9, e9, W9, st9⟩ := stB X6 hx hZ rfl Ar_b2_6_33_8 (j := (0 : Int32)) hin_b2_6_33_8 (g := (mkF m 33 #[.val (.ref a1), .val (.int (1 : Int32)), .val (.ref b2_6)] [(.int ((x0 + (1 : Int32)).toInt8.toInt32)), (.int (0 : Int32)), (.ref b2_6)])) rfl rfl (hb hby d4_33)
  have V_b2_6_33_8 : Arv Z h9 b2_6 k2_6 .byte (1 : Int32) [(.int (nar .byte ((x0 + (1 : Int32)).toInt8.toInt32)))] (.int (0 : Int32)) := Arv.set Ar_b2_6_33_8 q_b2_6_33_8 S_b2_6_33_8 N_b2_6_33_8 H_b2_6_33_8 G_b2_6_33_8 (fits_nar_byte _) W9 0 rfl (Nat.le_of_ble_eq_true rfl)
  have K9 : Keep h0 h9 [] := KK6.wr W9 (Or.inr sz_b2_6)
  have N9 := Fr.snoc X9 N6 g_b2_6
  obtain ⟨fs, hr, hrun, hended, hW, hsame⟩ := X9.leave (v := some (.ref b2_6)) (fun h => by rw [Bd.returns] at h; cases h)
  refine ⟨_, _, pre0 _ ?_, hrun, hended, _, _, rfl, ?_, ⟨_, rfl⟩, hW, hsame.mono (by decide) (by decide)⟩
  · show Steps p.tables e below (s₁.setTop (mkF m 0 #[.val (.ref a1), .unset, .unset] [])) _
    refine XS.aloadN X0.here hx rfl (hb hby d4_0) rfl rfl ?_
    refine X0.arraylength hx (by rw [e0]; exact Ar_a1_1_1.1) (State.isArrayOf_alike hZ.alike Ar_a1_1_1.2.1) (g := (mkF m 1 #[.val (.ref a1), .unset, .unset] [(.ref a1)])) rfl rfl (hb hby d4_1) _ ?_
    rw [len_of S_a1_1_1 N_a1_1_1]
    show Steps p.tables e below (s₁.setTop (mkF m 2 #[.val (.ref a1), .unset, .unset] [(.int (4 : Int32))])) _
    refine XS.istoreN X0.here hx rfl (hb hby d4_2) rfl (l' := #[.val (.ref a1), .val (.int (4 : Int32)), .unset]) rfl ?_
    show Steps p.tables e below (s₁.setTop (mkF m 3 #[.val (.ref a1), .val (.int (4 : Int32)), .unset] [])) _
    refine XS.aloadN X0.here hx rfl (hb hby d4_3) rfl rfl ?_
    refine XS.iloadN X0.here hx rfl (hb hby d4_4) rfl ?_
    refine XS.iconst X0.here hx rfl (hb hby d4_5) ?_
    show Steps p.tables e below (s₁.setTop (mkF m 6 #[.val (.ref a1), .val (.int (4 : Int32)), .unset] [(.int (1 : Int32)), (.int (4 : Int32)), (.ref a1)])) _
    refine XS.isub X0.here hx rfl (hb hby d4_6) rfl ?_
    refine X0.baloadBytes hx (j := (3 : Int32)) (v := (.int x3)) (by rw [e0]; exact Ar_a1_7_2.1) (State.isArrayOf_alike hZ.alike Ar_a1_7_2.2.1) Ar_a1_7_2.2.2 hin_a1_7_2 (H_a1_7_2.at hin_a1_7_2 rfl) (g := (mkF m 7 #[.val (.ref a1), .val (.int (4 : Int32)), .unset] [(.int (3 : Int32)), (.ref a1)])) rfl rfl (hb hby d4_7) _ ?_
    show Steps p.tables e below (s₁.setTop (mkF m 8 #[.val (.ref a1), .val (.int (4 : Int32)), .unset] [(.int x3)])) _
    refine XS.iconst X0.here hx rfl (hb hby d4_8) ?_
    show Steps p.tables e below (s₁.setTop (mkF m 9 #[.val (.ref a1), .val (.int (4 : Int32)), .unset] [(.int (-1 : Int32)), (.int x3)])) _
    refine XS.icmpNo X0.here hx rfl (hb hby d4_9) rfl (teq hx3).2 ?_
    refine XS.iinc X0.here hx rfl (hb hby d4_12) rfl (l' := #[.val (.ref a1), .val (.int (3 : Int32)), .unset]) rfl ?_
    refine XS.goto X0.here hx rfl (pc0 := 15) (pc' := 3) rfl (hb hby d4_15) (by decide) (by decide) ?_
    show Steps p.tables e below (s₁.setTop (mkF m 3 #[.val (.ref a1), .val (.int (3 : Int32)), .unset] [])) _
    refine XS.aloadN X0.here hx rfl (hb hby d4_3) rfl rfl ?_
    refine XS.iloadN X0.here hx rfl (hb hby d4_4) rfl ?_
    refine XS.iconst X0.here hx rfl (hb hby d4_5) ?_
    show Steps p.tables e below (s₁.setTop (mkF m 6 #[.val (.ref a1), .val (.int (3 : Int32)), .unset] [(.int (1 : Int32)), (.int (3 : Int32)), (.ref a1)])) _
    refine XS.isub X0.here hx rfl (hb hby d4_6) rfl ?_
    refine X0.baloadBytes hx (j := (2 : Int32)) (v := (.int x2)) (by rw [e0]; exact Ar_a1_7_3.1) (State.isArrayOf_alike hZ.alike Ar_a1_7_3.2.1) Ar_a1_7_3.2.2 hin_a1_7_3 (H_a1_7_3.at hin_a1_7_3 rfl) (g := (mkF m 7 #[.val (.ref a1), .val (.int (3 : Int32)), .unset] [(.int (2 : Int32)), (.ref a1)])) rfl rfl (hb hby d4_7) _ ?_
    show Steps p.tables e below (s₁.setTop (mkF m 8 #[.val (.ref a1), .val (.int (3 : Int32)), .unset] [(.int x2)])) _
    refine XS.iconst X0.here hx rfl (hb hby d4_8) ?_
    show Steps p.tables e below (s₁.setTop (mkF m 9 #[.val (.ref a1), .val (.int (3 : Int32)), .unset] [(.int (-1 : Int32)), (.int x2)])) _
    refine XS.icmpNo X0.here hx rfl (hb hby d4_9) rfl (teq hx2).2 ?_
    refine XS.iinc X0.here hx rfl (hb hby d4_12) rfl (l' := #[.val (.ref a1), .val (.int (2 : Int32)), .unset]) rfl ?_
    refine XS.goto X0.here hx rfl (pc0 := 15) (pc' := 3) rfl (hb hby d4_15) (by decide) (by decide) ?_
    show Steps p.tables e below (s₁.setTop (mkF m 3 #[.val (.ref a1), .val (.int (2 : Int32)), .unset] [])) _
    refine XS.aloadN X0.here hx rfl (hb hby d4_3) rfl rfl ?_
    refine XS.iloadN X0.here hx rfl (hb hby d4_4) rfl ?_
    refine XS.iconst X0.here hx rfl (hb hby d4_5) ?_
    show Steps p.tables e below (s₁.setTop (mkF m 6 #[.val (.ref a1), .val (.int (2 : Int32)), .unset] [(.int (1 : Int32)), (.int (2 : Int32)), (.ref a1)])) _
    refine XS.isub X0.here hx rfl (hb hby d4_6) rfl ?_
    refine X0.baloadBytes hx (j := (1 : Int32)) (v := (.int x1)) (by rw [e0]; exact Ar_a1_7_4.1) (State.isArrayOf_alike hZ.alike Ar_a1_7_4.2.1) Ar_a1_7_4.2.2 hin_a1_7_4 (H_a1_7_4.at hin_a1_7_4 rfl) (g := (mkF m 7 #[.val (.ref a1), .val (.int (2 : Int32)), .unset] [(.int (1 : Int32)), (.ref a1)])) rfl rfl (hb hby d4_7) _ ?_
    show Steps p.tables e below (s₁.setTop (mkF m 8 #[.val (.ref a1), .val (.int (2 : Int32)), .unset] [(.int x1)])) _
    refine XS.iconst X0.here hx rfl (hb hby d4_8) ?_
    show Steps p.tables e below (s₁.setTop (mkF m 9 #[.val (.ref a1), .val (.int (2 : Int32)), .unset] [(.int (-1 : Int32)), (.int x1)])) _
    refine XS.icmpNo X0.here hx rfl (hb hby d4_9) rfl (teq hx1).2 ?_
    refine XS.iinc X0.here hx rfl (hb hby d4_12) rfl (l' := #[.val (.ref a1), .val (.int (1 : Int32)), .unset]) rfl ?_
    refine XS.goto X0.here hx rfl (pc0 := 15) (pc' := 3) rfl (hb hby d4_15) (by decide) (by decide) ?_
    show Steps p.tables e below (s₁.setTop (mkF m 3 #[.val (.ref a1), .val (.int (1 : Int32)), .unset] [])) _
    refine XS.aloadN X0.here hx rfl (hb hby d4_3) rfl rfl ?_
    refine XS.iloadN X0.here hx rfl (hb hby d4_4) rfl ?_
    refine XS.iconst X0.here hx rfl (hb hby d4_5) ?_
    show Steps p.tables e below (s₁.setTop (mkF m 6 #[.val (.ref a1), .val (.int (1 : Int32)), .unset] [(.int (1 : Int32)), (.int (1 : Int32)), (.ref a1)])) _
    refine XS.isub X0.here hx rfl (hb hby d4_6) rfl ?_
    refine X0.baloadBytes hx (j := (0 : Int32)) (v := (.int x0)) (by rw [e0]; exact Ar_a1_7_5.1) (State.isArrayOf_alike hZ.alike Ar_a1_7_5.2.1) Ar_a1_7_5.2.2 hin_a1_7_5 (H_a1_7_5.at hin_a1_7_5 rfl) (g := (mkF m 7 #[.val (.ref a1), .val (.int (1 : Int32)), .unset] [(.int (0 : Int32)), (.ref a1)])) rfl rfl (hb hby d4_7) _ ?_
    show Steps p.tables e below (s₁.setTop (mkF m 8 #[.val (.ref a1), .val (.int (1 : Int32)), .unset] [(.int x0)])) _
    refine XS.iconst X0.here hx rfl (hb hby d4_8) ?_
    show Steps p.tables e below (s₁.setTop (mkF m 9 #[.val (.ref a1), .val (.int (1 : Int32)), .unset] [(.int (-1 : Int32)), (.int x0)])) _
    refine XS.icmpYes X0.here hx rfl (pc0 := 9) (pc' := 18) rfl (hb hby d4_9) rfl (feq hx0).2 (by decide) (by decide) ?_
    refine XS.aloadN X0.here hx rfl (hb hby d4_18) rfl rfl ?_
    refine XS.iloadN X0.here hx rfl (hb hby d4_19) rfl ?_
    show Steps p.tables e below (s₁.setTop (mkF m 20 #[.val (.ref a1), .val (.int (1 : Int32)), .unset] [(.int (1 : Int32)), (.ref a1)])) _
    refine st6 _ ?_
    show Steps p.tables e below (T6.setTop (mkF m 23 #[.val (.ref a1), .val (.int (1 : Int32)), .unset] [(.ref b2_6)])) _
    refine XS.astoreN X6.here hx rfl (hb hby d4_23) rfl rfl (l' := #[.val (.ref a1), .val (.int (1 : Int32)), .val (.ref b2_6)]) rfl ?_
    refine XS.aloadN X6.here hx rfl (hb hby d4_24) rfl rfl ?_
    refine XS.iloadN X6.here hx rfl (hb hby d4_25) rfl ?_
    show Steps p.tables e below (T6.setTop (mkF m 26 #[.val (.ref a1), .val (.int (1 : Int32)), .val (.ref b2_6)] [(.int (1 : Int32)), (.ref b2_6)])) _
    refine XS.iconst X6.here hx rfl (hb hby d4_26) ?_
    refine XS.isub X6.here hx rfl (hb hby d4_27) rfl ?_
    jvm_step X6.here [X6.here.top, hx, (hb hby d4_28), Value.category]
    show Steps p.tables e below (T6.setTop (mkF m 29 #[.val (.ref a1), .val (.int (1 : Int32)), .val (.ref b2_6)] [(.int (0 : Int32)), (.ref b2_6), (.int (0 : Int32)), (.ref b2_6)])) _
    refine X6.baloadBytes hx (j := (0 : Int32)) (v := (.int x0)) (by exact Ar_b2_6_29_7.1) (State.isArrayOf_alike hZ.alike Ar_b2_6_29_7.2.1) Ar_b2_6_29_7.2.2 hin_b2_6_29_7 (H_b2_6_29_7.at hin_b2_6_29_7 rfl) (g := (mkF m 29 #[.val (.ref a1), .val (.int (1 : Int32)), .val (.ref b2_6)] [(.int (0 : Int32)), (.ref b2_6), (.int (0 : Int32)), (.ref b2_6)])) rfl rfl (hb hby d4_29) _ ?_
    show Steps p.tables e below (T6.setTop (mkF m 30 #[.val (.ref a1), .val (.int (1 : Int32)), .val (.ref b2_6)] [(.int x0), (.int (0 : Int32)), (.ref b2_6)])) _
    refine XS.iconst X6.here hx rfl (hb hby d4_30) ?_
    refine XS.iadd X6.here hx rfl (hb hby d4_31) rfl ?_
    show Steps p.tables e below (T6.setTop (mkF m 32 #[.val (.ref a1), .val (.int (1 : Int32)), .val (.ref b2_6)] [(.int (x0 + (1 : Int32))), (.int (0 : Int32)), (.ref b2_6)])) _
    refine XS.i2b X6.here hx rfl (hb hby d4_32) rfl ?_
    show Steps p.tables e below (T6.setTop (mkF m 33 #[.val (.ref a1), .val (.int (1 : Int32)), .val (.ref b2_6)] [(.int ((x0 + (1 : Int32)).toInt8.toInt32)), (.int (0 : Int32)), (.ref b2_6)])) _
    refine st9 _ ?_
    show Steps p.tables e below (T9.setTop (mkF m 34 #[.val (.ref a1), .val (.int (1 : Int32)), .val (.ref b2_6)] [])) _
    refine XS.aloadN X9.here hx rfl (hb hby d4_34) rfl rfl ?_
    show Steps p.tables e below (T9.setTop (mkF m 35 #[.val (.ref a1), .val (.int (1 : Int32)), .val (.ref b2_6)] [(.ref b2_6)])) _
    exact retOut X9 hx Bd.returns rfl (Or.inr (Or.inr (Or.inr (Or.inr ⟨rfl, rfl, rfl⟩)))) (hb hby d4_35) hr
  · show Q_end_4_0 Z a1 ka x0 x1 x2 x3 h0 n0 _ T9.heap _
    rw [e9]
    exact ⟨b2_6, k2_6, rfl, N9, K9, sz_b2_6, V_b2_6_33_8⟩
theorem ef_end_4_1 (m : MethodId) (a1 : Addr) : entryFrame m #[(.ref a1)] 3 = (mkF m 0 #[.val (.ref a1), .unset, .unset] []) := by first | (simp [entryFrame, mkF, argsToLocals, Value.category]; done) | rfl
def Q_end_4_1 (Z : State) (a1 : Addr) (ka : ClassId) (x0 : Int32) (x1 : Int32) (x2 : Int32) (x3 : Int32) (h0 : Heap) (n0 : Nat) (v : Option Value) (h : Heap) (L : List Loc) : Prop := ∃ (b2_5 : Addr) (k2_5 : ClassId), v = some (.ref b2_5) ∧ Fr n0 L ∧ Keep h0 h [] ∧ h0.size ≤ b2_5 ∧ Arv Z h b2_5 k2_5 .byte (2 : Int32) [(.int x0), (.int (nar .byte ((x1 + (1 : Int32)).toInt8.toInt32)))] (.int (0 : Int32))
set_option maxRecDepth 65536 in
set_option maxHeartbeats 40000000 in
theorem rm_end_4_1 (l : Launch) (Z : State) (a0 : Array Value) (hw : ∀ d ∈ tables_1, d.before a0 Z = true) (ws : List Jvm.Cond) (a1 : Addr) (ka : ClassId) (x0 : Int32) (x1 : Int32) (x2 : Int32) (x3 : Int32) (h0 : Heap) (n0 : Nat) (Z0 : n0 ≤ h0.size) (V_a1 : Arv Z h0 a1 ka .byte (4 : Int32) [(.int x0), (.int x1), (.int x2), (.int x3)] (.int (0 : Int32))) (E_a1 : Exa Z h0 a1 "[B") (hx3 : x3 = (-1 : Int32)) (hx2 : x2 = (-1 : Int32)) (hx1 : ¬ (x1 = (-1 : Int32))) :
    MetFree l (⟨"com/example/elliott_bay/elliottbay/store/Keys", "end", "([B)[B"⟩ : MethodName) (head1 (Jvm.Cond.code (⟨"com/example/elliott_bay/elliottbay/store/Keys", "end", "([B)[B"⟩ : MethodName) prog_107_method_15_code 3 (some (.array .byte)) :: ws) ({ frames := 2, cells := 1, slots := 2, locals := 32 } : Room)) (fun a U => a = #[(.ref a1)] ∧ Z.Warmed39 U.vm ∧ U.heap = h0) (fun _ _ _ _ _ => True) (fun _ U o U' => ∃ v L, o = .returned v ∧ Q_end_4_1 Z a1 ka x0 x1 x2 x3 h0 n0 v U'.heap L ∧ FrameEnd U o U' L ({ frames := 2, cells := 1, slots := 2, locals := 32 } : Room).cells ({ frames := 2, cells := 1, slots := 2, locals := 32 } : Room).slots) := by
  refine MetFree.of_bodySF (plainFor_of_name pn2) hisR ?_
  intro p e s m args below meth c s₁ Bd hml0 hP hK
  obtain ⟨rfl, hZ, hh⟩ := hP
  have hx := Bd.exec
  have hby := Bd.bytes
  have hml : c.maxLocals = 3 := hml0
  have hown : s.vm.findClass "com/example/elliott_bay/elliottbay/store/Keys" = some m.cls := findClass_of_methodNamed Bd.named
  have hnm := (name_of_methodNamed Bd.named Bd.method).1
  have X0 : Stand p l e ({ frames := 2, cells := 1, slots := 2, locals := 32 } : Room) s m #[(.ref a1)] below meth c s₁ [] 0 0 := Stand.of_body Bd
  have e0 : s₁.heap = h0 := by rw [← hh, Bd.state]; rfl
  have N0 := Fr.nil n0
  have pre0 : ∀ t, Steps p.tables e below (s₁.setTop (mkF m 0 #[.val (.ref a1), .unset, .unset] [])) t → Steps p.tables e below (s₁.setTop (entryFrame m #[(.ref a1)] 3)) t := fun t k => castTop (ef_end_4_1 m a1) k
  obtain ⟨cl_a1_1_1, Ar_a1_1_1, -, S_a1_1_1, N_a1_1_1, -, -⟩ := id V_a1
  obtain ⟨cl_a1_7_2, Ar_a1_7_2, q_a1_7_2, S_a1_7_2, N_a1_7_2, H_a1_7_2, G_a1_7_2⟩ := id V_a1
  have hin_a1_7_2 : ¬ ((3 : Int32) < 0 ∨ cl_a1_7_2.slots.size ≤ ((3 : Int32) : Int32).toNatClampNeg) := inb_of S_a1_7_2 ⟨by decide, by decide⟩
  obtain ⟨cl_a1_7_3, Ar_a1_7_3, q_a1_7_3, S_a1_7_3, N_a1_7_3, H_a1_7_3, G_a1_7_3⟩ := id V_a1
  have hin_a1_7_3 : ¬ ((2 : Int32) < 0 ∨ cl_a1_7_3.slots.size ≤ ((2 : Int32) : Int32).toNatClampNeg) := inb_of S_a1_7_3 ⟨by decide, by decide⟩
  obtain ⟨cl_a1_7_4, Ar_a1_7_4, q_a1_7_4, S_a1_7_4, N_a1_7_4, H_a1_7_4, G_a1_7_4⟩ := id V_a1
  have hin_a1_7_4 : ¬ ((1 : Int32) < 0 ∨ cl_a1_7_4.slots.size ≤ ((1 : Int32) : Int32).toNatClampNeg) := inb_of S_a1_7_4 ⟨by decide, by decide⟩
  obtain ⟨_, _, ⟨T5, L5, k5, n5⟩, -, X5, ⟨Lc5, hQ5, l5, y5, z5⟩, st5⟩ := Jvm.LawKit.callS X0 hx (y := (⟨"java/util/Arrays", "copyOf", "([BI)[B"⟩ : MethodName)) hown (mvT hZ (hw _ (List.mem_of_getElem? (i := 15) rfl))) (mvT hZ (hw _ (List.mem_of_getElem? (i := 16) rfl))) (mvT hZ (hw _ (List.mem_of_getElem? (i := 17) rfl))) (mvT hZ (hw _ (List.mem_of_getElem? (i := 18) rfl))) (by decide) (backOf (W := 0) (rm_copy_4_2 l Z a0 hw [] a1 ka x0 x1 x2 x3 h0 n0 (Nat.le_trans Z0 (Keep.refl h0 []).1) V_a1 E_a1 ) hZ (hw _ (List.mem_of_getElem? (i := 18) rfl)) (hw _ (List.mem_of_getElem? (i := 17) rfl)) (by decide) (by decide)) (g := (mkF m 20 #[.val (.ref a1), .val (.int (2 : Int32)), .unset] [(.int (2 : Int32)), (.ref a1)])) rfl (by rw [hml]; rfl) (argsL := [(.ref a1), (.int (2 : Int32))]) (rest := []) (lenOf pd1 rfl) rfl (by show 2 * 0 + _ ≤ _; exact Nat.le_of_eq rfl) (hb hby d4_20) (fun _ _ => ⟨rfl, e0, (by decide : 0 + 1 ≤ _), (by decide : 0 + 2 ≤ _)⟩)
  dsimp only [Pt.U, Pt.locs, Pt.cells, Pt.slots] at X5 l5 y5 z5 st5 hQ5
  subst l5 y5 z5
  obtain ⟨b2_5, k2_5, rfl, N5q, K5, s5_b2, f5_0⟩ := hQ5
  have N5 := Fr.app N0 N5q
  have sz_b2_5 : h0.size ≤ b2_5 := Nat.le_trans (Keep.refl h0 []).1 s5_b2
  have g_b2_5 : n0 ≤ b2_5 := Nat.le_trans Z0 sz_b2_5
  have KK5 : Keep h0 T5.heap [] := (Keep.refl h0 []).trans K5 all0
  obtain ⟨cl_b2_5_29_6, Ar_b2_5_29_6, q_b2_5_29_6, S_b2_5_29_6, N_b2_5_29_6, H_b2_5_29_6, G_b2_5_29_6⟩ := id f5_0
  have hin_b2_5_29_6 : ¬ ((1 : Int32) < 0 ∨ cl_b2_5_29_6.slots.size ≤ ((1 : Int32) : Int32).toNatClampNeg) := inb_of S_b2_5_29_6 ⟨by decide, by decide⟩
  obtain ⟨cl_b2_5_33_7, Ar_b2_5_33_7, q_b2_5_33_7, S_b2_5_33_7, N_b2_5_33_7, H_b2_5_33_7, G_b2_5_33_7⟩ := id f5_0
  have hin_b2_5_33_7 : ¬ ((1 : Int32) < 0 ∨ cl_b2_5_33_7.slots.size ≤ ((1 : Int32) : Int32).toNatClampNeg) := inb_of S_b2_5_33_7 ⟨by decide, by decide⟩
  obtain ⟨T8, h8, X8, e8, W8, st8⟩ := stB X5 hx hZ rfl Ar_b2_5_33_7 (j := (1 : Int32)) hin_b2_5_33_7 (g := (mkF m 33 #[.val (.ref a1), .val (.int (2 : Int32)), .val (.ref b2_5)] [(.int ((x1 + (1 : Int32)).toInt8.toInt32)), (.int (1 : Int32)), (.ref b2_5)])) rfl rfl (hb hby d4_33)
  have V_b2_5_33_7 : Arv Z h8 b2_5 k2_5 .byte (2 : Int32) [(.int x0), (.int (nar .byte ((x1 + (1 : Int32)).toInt8.toInt32)))] (.int (0 : Int32)) := Arv.set Ar_b2_5_33_7 q_b2_5_33_7 S_b2_5_33_7 N_b2_5_33_7 H_b2_5_33_7 G_b2_5_33_7 (fits_nar_byte _) W8 1 rfl (Nat.le_of_ble_eq_true rfl)
  have K8 : Keep h0 h8 [] := KK5.wr W8 (Or.inr sz_b2_5)
  have N8 := Fr.snoc X8 N5 g_b2_5
  obtain ⟨fs, hr, hrun, hended, hW, hsame⟩ := X8.leave (v := some (.ref b2_5)) (fun h => by rw [Bd.returns] at h; cases h)
  refine ⟨_, _, pre0 _ ?_, hrun, hended, _, _, rfl, ?_, ⟨_, rfl⟩, hW, hsame.mono (by decide) (by decide)⟩
  · show Steps p.tables e below (s₁.setTop (mkF m 0 #[.val (.ref a1), .unset, .unset] [])) _
    refine XS.aloadN X0.here hx rfl (hb hby d4_0) rfl rfl ?_
    refine X0.arraylength hx (by rw [e0]; exact Ar_a1_1_1.1) (State.isArrayOf_alike hZ.alike Ar_a1_1_1.2.1) (g := (mkF m 1 #[.val (.ref a1), .unset, .unset] [(.ref a1)])) rfl rfl (hb hby d4_1) _ ?_
    rw [len_of S_a1_1_1 N_a1_1_1]
    show Steps p.tables e below (s₁.setTop (mkF m 2 #[.val (.ref a1), .unset, .unset] [(.int (4 : Int32))])) _
    refine XS.istoreN X0.here hx rfl (hb hby d4_2) rfl (l' := #[.val (.ref a1), .val (.int (4 : Int32)), .unset]) rfl ?_
    show Steps p.tables e below (s₁.setTop (mkF m 3 #[.val (.ref a1), .val (.int (4 : Int32)), .unset] [])) _
    refine XS.aloadN X0.here hx rfl (hb hby d4_3) rfl rfl ?_
    refine XS.iloadN X0.here hx rfl (hb hby d4_4) rfl ?_
    refine XS.iconst X0.here hx rfl (hb hby d4_5) ?_
    show Steps p.tables e below (s₁.setTop (mkF m 6 #[.val (.ref a1), .val (.int (4 : Int32)), .unset] [(.int (1 : Int32)), (.int (4 : Int32)), (.ref a1)])) _
    refine XS.isub X0.here hx rfl (hb hby d4_6) rfl ?_
    refine X0.baloadBytes hx (j := (3 : Int32)) (v := (.int x3)) (by rw [e0]; exact Ar_a1_7_2.1) (State.isArrayOf_alike hZ.alike Ar_a1_7_2.2.1) Ar_a1_7_2.2.2 hin_a1_7_2 (H_a1_7_2.at hin_a1_7_2 rfl) (g := (mkF m 7 #[.val (.ref a1), .val (.int (4 : Int32)), .unset] [(.int (3 : Int32)), (.ref a1)])) rfl rfl (hb hby d4_7) _ ?_
    show Steps p.tables e below (s₁.setTop (mkF m 8 #[.val (.ref a1), .val (.int (4 : Int32)), .unset] [(.int x3)])) _
    refine XS.iconst X0.here hx rfl (hb hby d4_8) ?_
    show Steps p.tables e below (s₁.setTop (mkF m 9 #[.val (.ref a1), .val (.int (4 : Int32)), .unset] [(.int (-1 : Int32)), (.int x3)])) _
    refine XS.icmpNo X0.here hx rfl (hb hby d4_9) rfl (teq hx3).2 ?_
    refine XS.iinc X0.here hx rfl (hb hby d4_12) rfl (l' := #[.val (.ref a1), .val (.int (3 : Int32)), .unset]) rfl ?_
    refine XS.goto X0.here hx rfl (pc0 := 15) (pc' := 3) rfl (hb hby d4_15) (by decide) (by decide) ?_
    show Steps p.tables e below (s₁.setTop (mkF m 3 #[.val (.ref a1), .val (.int (3 : Int32)), .unset] [])) _
    refine XS.aloadN X0.here hx rfl (hb hby d4_3) rfl rfl ?_
    refine XS.iloadN X0.here hx rfl (hb hby d4_4) rfl ?_
    refine XS.iconst X0.here hx rfl (hb hby d4_5) ?_
    show Steps p.tables e below (s₁.setTop (mkF m 6 #[.val (.ref a1), .val (.int (3 : Int32)), .unset] [(.int (1 : Int32)), (.int (3 : Int32)), (.ref a1)])) _
    refine XS.isub X0.here hx rfl (hb hby d4_6) rfl ?_
    refine X0.baloadBytes hx (j := (2 : Int32)) (v := (.int x2)) (by rw [e0]; exact Ar_a1_7_3.1) (State.isArrayOf_alike hZ.alike Ar_a1_7_3.2.1) Ar_a1_7_3.2.2 hin_a1_7_3 (H_a1_7_3.at hin_a1_7_3 rfl) (g := (mkF m 7 #[.val (.ref a1), .val (.int (3 : Int32)), .unset] [(.int (2 : Int32)), (.ref a1)])) rfl rfl (hb hby d4_7) _ ?_
    show Steps p.tables e below (s₁.setTop (mkF m 8 #[.val (.ref a1), .val (.int (3 : Int32)), .unset] [(.int x2)])) _
    refine XS.iconst X0.here hx rfl (hb hby d4_8) ?_
    show Steps p.tables e below (s₁.setTop (mkF m 9 #[.val (.ref a1), .val (.int (3 : Int32)), .unset] [(.int (-1 : Int32)), (.int x2)])) _
    refine XS.icmpNo X0.here hx rfl (hb hby d4_9) rfl (teq hx2).2 ?_
    refine XS.iinc X0.here hx rfl (hb hby d4_12) rfl (l' := #[.val (.ref a1), .val (.int (2 : Int32)), .unset]) rfl ?_
    refine XS.goto X0.here hx rfl (pc0 := 15) (pc' := 3) rfl (hb hby d4_15) (by decide) (by decide) ?_
    show Steps p.tables e below (s₁.setTop (mkF m 3 #[.val (.ref a1), .val (.int (2 : Int32)), .unset] [])) _
    refine XS.aloadN X0.here hx rfl (hb hby d4_3) rfl rfl ?_
    refine XS.iloadN X0.here hx rfl (hb hby d4_4) rfl ?_
    refine XS.iconst X0.here hx rfl (hb hby d4_5) ?_
    show Steps p.tables e below (s₁.setTop (mkF m 6 #[.val (.ref a1), .val (.int (2 : Int32)), .unset] [(.int (1 : Int32)), (.int (2 : Int32)), (.ref a1)])) _
    refine XS.isub X0.here hx rfl (hb hby d4_6) rfl ?_
    refine X0.baloadBytes hx (j := (1 : Int32)) (v := (.int x1)) (by rw [e0]; exact Ar_a1_7_4.1) (State.isArrayOf_alike hZ.alike Ar_a1_7_4.2.1) Ar_a1_7_4.2.2 hin_a1_7_4 (H_a1_7_4.at hin_a1_7_4 rfl) (g := (mkF m 7 #[.val (.ref a1), .val (.int (2 : Int32)), .unset] [(.int (1 : Int32)), (.ref a1)])) rfl rfl (hb hby d4_7) _ ?_
    show Steps p.tables e below (s₁.setTop (mkF m 8 #[.val (.ref a1), .val (.int (2 : Int32)), .unset] [(.int x1)])) _
    refine XS.iconst X0.here hx rfl (hb hby d4_8) ?_
    show Steps p.tables e below (s₁.setTop (mkF m 9 #[.val (.ref a1), .val (.int (2 : Int32)), .unset] [(.int (-1 : Int32)), (.int x1)])) _
    refine XS.icmpYes X0.here hx rfl (pc0 := 9) (pc' := 18) rfl (hb hby d4_9) rfl (feq hx1).2 (by decide) (by decide) ?_
    refine XS.aloadN X0.here hx rfl (hb hby d4_18) rfl rfl ?_
    refine XS.iloadN X0.here hx rfl (hb hby d4_19) rfl ?_
    show Steps p.tables e below (s₁.setTop (mkF m 20 #[.val (.ref a1), .val (.int (2 : Int32)), .unset] [(.int (2 : Int32)), (.ref a1)])) _
    refine st5 _ ?_
    show Steps p.tables e below (T5.setTop (mkF m 23 #[.val (.ref a1), .val (.int (2 : Int32)), .unset] [(.ref b2_5)])) _
    refine XS.astoreN X5.here hx rfl (hb hby d4_23) rfl rfl (l' := #[.val (.ref a1), .val (.int (2 : Int32)), .val (.ref b2_5)]) rfl ?_
    refine XS.aloadN X5.here hx rfl (hb hby d4_24) rfl rfl ?_
    refine XS.iloadN X5.here hx rfl (hb hby d4_25) rfl ?_
    show Steps p.tables e below (T5.setTop (mkF m 26 #[.val (.ref a1), .val (.int (2 : Int32)), .val (.ref b2_5)] [(.int (2 : Int32)), (.ref b2_5)])) _
    refine XS.iconst X5.here hx rfl (hb hby d4_26) ?_
    refine XS.isub X5.here hx rfl (hb hby d4_27) rfl ?_
    jvm_step X5.here [X5.here.top, hx, (hb hby d4_28), Value.category]
    show Steps p.tables e below (T5.setTop (mkF m 29 #[.val (.ref a1), .val (.int (2 : Int32)), .val (.ref b2_5)] [(.int (1 : Int32)), (.ref b2_5), (.int (1 : Int32)), (.ref b2_5)])) _
    refine X5.baloadBytes hx (j := (1 : Int32)) (v := (.int x1)) (by exact Ar_b2_5_29_6.1) (State.isArrayOf_alike hZ.alike Ar_b2_5_29_6.2.1) Ar_b2_5_29_6.2.2 hin_b2_5_29_6 (H_b2_5_29_6.at hin_b2_5_29_6 rfl) (g := (mkF m 29 #[.val (.ref a1), .val (.int (2 : Int32)), .val (.ref b2_5)] [(.int (1 : Int32)), (.ref b2_5), (.int (1 : Int32)), (.ref b2_5)])) rfl rfl (hb hby d4_29) _ ?_
    show Steps p.tables e below (T5.setTop (mkF m 30 #[.val (.ref a1), .val (.int (2 : Int32)), .val (.ref b2_5)] [(.int x1), (.int (1 : Int32)), (.ref b2_5)])) _
    refine XS.iconst X5.here hx rfl (hb hby d4_30) ?_
    refine XS.iadd X5.here hx rfl (hb hby d4_31) rfl ?_
    show Steps p.tables e below (T5.setTop (mkF m 32 #[.val (.ref a1), .val (.int (2 : Int32)), .val (.ref b2_5)] [(.int (x1 + (1 : Int32))), (.int (1 : Int32)), (.ref b2_5)])) _
    refine XS.i2b X5.here hx rfl (hb hby d4_32) rfl ?_
    show Steps p.tables e below (T5.setTop (mkF m 33 #[.val (.ref a1), .val (.int (2 : Int32)), .val (.ref b2_5)] [(.int ((x1 + (1 : Int32)).toInt8.toInt32)), (.int (1 : Int32)), (.ref b2_5)])) _
    refine st8 _ ?_
    show Steps p.tables e below (T8.setTop (mkF m 34 #[.val (.ref a1), .val (.int (2 : Int32)), .val (.ref b2_5)] [])) _
    refine XS.aloadN X8.here hx rfl (hb hby d4_34) rfl rfl ?_
    show Steps p.tables e below (T8.setTop (mkF m 35 #[.val (.ref a1), .val (.int (2 : Int32)), .val (.ref b2_5)] [(.ref b2_5)])) _
    exact retOut X8 hx Bd.returns rfl (Or.inr (Or.inr (Or.inr (Or.inr ⟨rfl, rfl, rfl⟩)))) (hb hby d4_35) hr
  · show Q_end_4_1 Z a1 ka x0 x1 x2 x3 h0 n0 _ T8.heap _
    rw [e8]
    exact ⟨b2_5, k2_5, rfl, N8, K8, sz_b2_5, V_b2_5_33_7⟩
theorem ef_end_4_2 (m : MethodId) (a1 : Addr) : entryFrame m #[(.ref a1)] 3 = (mkF m 0 #[.val (.ref a1), .unset, .unset] []) := by first | (simp [entryFrame, mkF, argsToLocals, Value.category]; done) | rfl
def Q_end_4_2 (Z : State) (a1 : Addr) (ka : ClassId) (x0 : Int32) (x1 : Int32) (x2 : Int32) (x3 : Int32) (h0 : Heap) (n0 : Nat) (v : Option Value) (h : Heap) (L : List Loc) : Prop := ∃ (b2_4 : Addr) (k2_4 : ClassId), v = some (.ref b2_4) ∧ Fr n0 L ∧ Keep h0 h [] ∧ h0.size ≤ b2_4 ∧ Arv Z h b2_4 k2_4 .byte (3 : Int32) [(.int x0), (.int x1), (.int (nar .byte ((x2 + (1 : Int32)).toInt8.toInt32)))] (.int (0 : Int32))
set_option maxRecDepth 65536 in
set_option maxHeartbeats 40000000 in
theorem rm_end_4_2 (l : Launch) (Z : State) (a0 : Array Value) (hw : ∀ d ∈ tables_1, d.before a0 Z = true) (ws : List Jvm.Cond) (a1 : Addr) (ka : ClassId) (x0 : Int32) (x1 : Int32) (x2 : Int32) (x3 : Int32) (h0 : Heap) (n0 : Nat) (Z0 : n0 ≤ h0.size) (V_a1 : Arv Z h0 a1 ka .byte (4 : Int32) [(.int x0), (.int x1), (.int x2), (.int x3)] (.int (0 : Int32))) (E_a1 : Exa Z h0 a1 "[B") (hx3 : x3 = (-1 : Int32)) (hx2 : ¬ (x2 = (-1 : Int32))) :
    MetFree l (⟨"com/example/elliott_bay/elliottbay/store/Keys", "end", "([B)[B"⟩ : MethodName) (head1 (Jvm.Cond.code (⟨"com/example/elliott_bay/elliottbay/store/Keys", "end", "([B)[B"⟩ : MethodName) prog_107_method_15_code 3 (some (.array .byte)) :: ws) ({ frames := 2, cells := 1, slots := 3, locals := 32 } : Room)) (fun a U => a = #[(.ref a1)] ∧ Z.Warmed39 U.vm ∧ U.heap = h0) (fun _ _ _ _ _ => True) (fun _ U o U' => ∃ v L, o = .returned v ∧ Q_end_4_2 Z a1 ka x0 x1 x2 x3 h0 n0 v U'.heap L ∧ FrameEnd U o U' L ({ frames := 2, cells := 1, slots := 3, locals := 32 } : Room).cells ({ frames := 2, cells := 1, slots := 3, locals := 32 } : Room).slots) := by
  refine MetFree.of_bodySF (plainFor_of_name pn2) hisR ?_
  intro p e s m args below meth c s₁ Bd hml0 hP hK
  obtain ⟨rfl, hZ, hh⟩ := hP
  have hx := Bd.exec
  have hby := Bd.bytes
  have hml : c.maxLocals = 3 := hml0
  have hown : s.vm.findClass "com/example/elliott_bay/elliottbay/store/Keys" = some m.cls := findClass_of_methodNamed Bd.named
  have hnm := (name_of_methodNamed Bd.named Bd.method).1
  have X0 : Stand p l e ({ frames := 2, cells := 1, slots := 3, locals := 32 } : Room) s m #[(.ref a1)] below meth c s₁ [] 0 0 := Stand.of_body Bd
  have e0 : s₁.heap = h0 := by rw [← hh, Bd.state]; rfl
  have N0 := Fr.nil n0
  have pre0 : ∀ t, Steps p.tables e below (s₁.setTop (mkF m 0 #[.val (.ref a1), .unset, .unset] [])) t → Steps p.tables e below (s₁.setTop (entryFrame m #[(.ref a1)] 3)) t := fun t k => castTop (ef_end_4_2 m a1) k
  obtain ⟨cl_a1_1_1, Ar_a1_1_1, -, S_a1_1_1, N_a1_1_1, -, -⟩ := id V_a1
  obtain ⟨cl_a1_7_2, Ar_a1_7_2, q_a1_7_2, S_a1_7_2, N_a1_7_2, H_a1_7_2, G_a1_7_2⟩ := id V_a1
  have hin_a1_7_2 : ¬ ((3 : Int32) < 0 ∨ cl_a1_7_2.slots.size ≤ ((3 : Int32) : Int32).toNatClampNeg) := inb_of S_a1_7_2 ⟨by decide, by decide⟩
  obtain ⟨cl_a1_7_3, Ar_a1_7_3, q_a1_7_3, S_a1_7_3, N_a1_7_3, H_a1_7_3, G_a1_7_3⟩ := id V_a1
  have hin_a1_7_3 : ¬ ((2 : Int32) < 0 ∨ cl_a1_7_3.slots.size ≤ ((2 : Int32) : Int32).toNatClampNeg) := inb_of S_a1_7_3 ⟨by decide, by decide⟩
  obtain ⟨_, _, ⟨T4, L4, k4, n4⟩, -, X4, ⟨Lc4, hQ4, l4, y4, z4⟩, st4⟩ := Jvm.LawKit.callS X0 hx (y := (⟨"java/util/Arrays", "copyOf", "([BI)[B"⟩ : MethodName)) hown (mvT hZ (hw _ (List.mem_of_getElem? (i := 15) rfl))) (mvT hZ (hw _ (List.mem_of_getElem? (i := 16) rfl))) (mvT hZ (hw _ (List.mem_of_getElem? (i := 17) rfl))) (mvT hZ (hw _ (List.mem_of_getElem? (i := 18) rfl))) (by decide) (backOf (W := 0) (rm_copy_4_3 l Z a0 hw [] a1 ka x0 x1 x2 x3 h0 n0 (Nat.le_trans Z0 (Keep.refl h0 []).1) V_a1 E_a1 ) hZ (hw _ (List.mem_of_getElem? (i := 18) rfl)) (hw _ (List.mem_of_getElem? (i := 17) rfl)) (by decide) (by decide)) (g := (mkF m 20 #[.val (.ref a1), .val (.int (3 : Int32)), .unset] [(.int (3 : Int32)), (.ref a1)])) rfl (by rw [hml]; rfl) (argsL := [(.ref a1), (.int (3 : Int32))]) (rest := []) (lenOf pd1 rfl) rfl (by show 2 * 0 + _ ≤ _; exact Nat.le_of_eq rfl) (hb hby d4_20) (fun _ _ => ⟨rfl, e0, (by decide : 0 + 1 ≤ _), (by decide : 0 + 3 ≤ _)⟩)
  dsimp only [Pt.U, Pt.locs, Pt.cells, Pt.slots] at X4 l4 y4 z4 st4 hQ4
  subst l4 y4 z4
  obtain ⟨b2_4, k2_4, rfl, N4q, K4, s4_b2, f4_0⟩ := hQ4
  have N4 := Fr.app N0 N4q
  have sz_b2_4 : h0.size ≤ b2_4 := Nat.le_trans (Keep.refl h0 []).1 s4_b2
  have g_b2_4 : n0 ≤ b2_4 := Nat.le_trans Z0 sz_b2_4
  have KK4 : Keep h0 T4.heap [] := (Keep.refl h0 []).trans K4 all0
  obtain ⟨cl_b2_4_29_5, Ar_b2_4_29_5, q_b2_4_29_5, S_b2_4_29_5, N_b2_4_29_5, H_b2_4_29_5, G_b2_4_29_5⟩ := id f4_0
  have hin_b2_4_29_5 : ¬ ((2 : Int32) < 0 ∨ cl_b2_4_29_5.slots.size ≤ ((2 : Int32) : Int32).toNatClampNeg) := inb_of S_b2_4_29_5 ⟨by decide, by decide⟩
  obtain ⟨cl_b2_4_33_6, Ar_b2_4_33_6, q_b2_4_33_6, S_b2_4_33_6, N_b2_4_33_6, H_b2_4_33_6, G_b2_4_33_6⟩ := id f4_0
  have hin_b2_4_33_6 : ¬ ((2 : Int32) < 0 ∨ cl_b2_4_33_6.slots.size ≤ ((2 : Int32) : Int32).toNatClampNeg) := inb_of S_b2_4_33_6 ⟨by decide, by decide⟩
  obtain ⟨T7, h7, X7, e7, W7, st7⟩ := stB X4 hx hZ rfl Ar_b2_4_33_6 (j := (2 : Int32)) hin_b2_4_33_6 (g := (mkF m 33 #[.val (.ref a1), .val (.int (3 : Int32)), .val (.ref b2_4)] [(.int ((x2 + (1 : Int32)).toInt8.toInt32)), (.int (2 : Int32)), (.ref b2_4)])) rfl rfl (hb hby d4_33)
  have V_b2_4_33_6 : Arv Z h7 b2_4 k2_4 .byte (3 : Int32) [(.int x0), (.int x1), (.int (nar .byte ((x2 + (1 : Int32)).toInt8.toInt32)))] (.int (0 : Int32)) := Arv.set Ar_b2_4_33_6 q_b2_4_33_6 S_b2_4_33_6 N_b2_4_33_6 H_b2_4_33_6 G_b2_4_33_6 (fits_nar_byte _) W7 2 rfl (Nat.le_of_ble_eq_true rfl)
  have K7 : Keep h0 h7 [] := KK4.wr W7 (Or.inr sz_b2_4)
  have N7 := Fr.snoc X7 N4 g_b2_4
  obtain ⟨fs, hr, hrun, hended, hW, hsame⟩ := X7.leave (v := some (.ref b2_4)) (fun h => by rw [Bd.returns] at h; cases h)
  refine ⟨_, _, pre0 _ ?_, hrun, hended, _, _, rfl, ?_, ⟨_, rfl⟩, hW, hsame.mono (by decide) (by decide)⟩
  · show Steps p.tables e below (s₁.setTop (mkF m 0 #[.val (.ref a1), .unset, .unset] [])) _
    refine XS.aloadN X0.here hx rfl (hb hby d4_0) rfl rfl ?_
    refine X0.arraylength hx (by rw [e0]; exact Ar_a1_1_1.1) (State.isArrayOf_alike hZ.alike Ar_a1_1_1.2.1) (g := (mkF m 1 #[.val (.ref a1), .unset, .unset] [(.ref a1)])) rfl rfl (hb hby d4_1) _ ?_
    rw [len_of S_a1_1_1 N_a1_1_1]
    show Steps p.tables e below (s₁.setTop (mkF m 2 #[.val (.ref a1), .unset, .unset] [(.int (4 : Int32))])) _
    refine XS.istoreN X0.here hx rfl (hb hby d4_2) rfl (l' := #[.val (.ref a1), .val (.int (4 : Int32)), .unset]) rfl ?_
    show Steps p.tables e below (s₁.setTop (mkF m 3 #[.val (.ref a1), .val (.int (4 : Int32)), .unset] [])) _
    refine XS.aloadN X0.here hx rfl (hb hby d4_3) rfl rfl ?_
    refine XS.iloadN X0.here hx rfl (hb hby d4_4) rfl ?_
    refine XS.iconst X0.here hx rfl (hb hby d4_5) ?_
    show Steps p.tables e below (s₁.setTop (mkF m 6 #[.val (.ref a1), .val (.int (4 : Int32)), .unset] [(.int (1 : Int32)), (.int (4 : Int32)), (.ref a1)])) _
    refine XS.isub X0.here hx rfl (hb hby d4_6) rfl ?_
    refine X0.baloadBytes hx (j := (3 : Int32)) (v := (.int x3)) (by rw [e0]; exact Ar_a1_7_2.1) (State.isArrayOf_alike hZ.alike Ar_a1_7_2.2.1) Ar_a1_7_2.2.2 hin_a1_7_2 (H_a1_7_2.at hin_a1_7_2 rfl) (g := (mkF m 7 #[.val (.ref a1), .val (.int (4 : Int32)), .unset] [(.int (3 : Int32)), (.ref a1)])) rfl rfl (hb hby d4_7) _ ?_
    show Steps p.tables e below (s₁.setTop (mkF m 8 #[.val (.ref a1), .val (.int (4 : Int32)), .unset] [(.int x3)])) _
    refine XS.iconst X0.here hx rfl (hb hby d4_8) ?_
    show Steps p.tables e below (s₁.setTop (mkF m 9 #[.val (.ref a1), .val (.int (4 : Int32)), .unset] [(.int (-1 : Int32)), (.int x3)])) _
    refine XS.icmpNo X0.here hx rfl (hb hby d4_9) rfl (teq hx3).2 ?_
    refine XS.iinc X0.here hx rfl (hb hby d4_12) rfl (l' := #[.val (.ref a1), .val (.int (3 : Int32)), .unset]) rfl ?_
    refine XS.goto X0.here hx rfl (pc0 := 15) (pc' := 3) rfl (hb hby d4_15) (by decide) (by decide) ?_
    show Steps p.tables e below (s₁.setTop (mkF m 3 #[.val (.ref a1), .val (.int (3 : Int32)), .unset] [])) _
    refine XS.aloadN X0.here hx rfl (hb hby d4_3) rfl rfl ?_
    refine XS.iloadN X0.here hx rfl (hb hby d4_4) rfl ?_
    refine XS.iconst X0.here hx rfl (hb hby d4_5) ?_
    show Steps p.tables e below (s₁.setTop (mkF m 6 #[.val (.ref a1), .val (.int (3 : Int32)), .unset] [(.int (1 : Int32)), (.int (3 : Int32)), (.ref a1)])) _
    refine XS.isub X0.here hx rfl (hb hby d4_6) rfl ?_
    refine X0.baloadBytes hx (j := (2 : Int32)) (v := (.int x2)) (by rw [e0]; exact Ar_a1_7_3.1) (State.isArrayOf_alike hZ.alike Ar_a1_7_3.2.1) Ar_a1_7_3.2.2 hin_a1_7_3 (H_a1_7_3.at hin_a1_7_3 rfl) (g := (mkF m 7 #[.val (.ref a1), .val (.int (3 : Int32)), .unset] [(.int (2 : Int32)), (.ref a1)])) rfl rfl (hb hby d4_7) _ ?_
    show Steps p.tables e below (s₁.setTop (mkF m 8 #[.val (.ref a1), .val (.int (3 : Int32)), .unset] [(.int x2)])) _
    refine XS.iconst X0.here hx rfl (hb hby d4_8) ?_
    show Steps p.tables e below (s₁.setTop (mkF m 9 #[.val (.ref a1), .val (.int (3 : Int32)), .unset] [(.int (-1 : Int32)), (.int x2)])) _
    refine XS.icmpYes X0.here hx rfl (pc0 := 9) (pc' := 18) rfl (hb hby d4_9) rfl (feq hx2).2 (by decide) (by decide) ?_
    refine XS.aloadN X0.here hx rfl (hb hby d4_18) rfl rfl ?_
    refine XS.iloadN X0.here hx rfl (hb hby d4_19) rfl ?_
    show Steps p.tables e below (s₁.setTop (mkF m 20 #[.val (.ref a1), .val (.int (3 : Int32)), .unset] [(.int (3 : Int32)), (.ref a1)])) _
    refine st4 _ ?_
    show Steps p.tables e below (T4.setTop (mkF m 23 #[.val (.ref a1), .val (.int (3 : Int32)), .unset] [(.ref b2_4)])) _
    refine XS.astoreN X4.here hx rfl (hb hby d4_23) rfl rfl (l' := #[.val (.ref a1), .val (.int (3 : Int32)), .val (.ref b2_4)]) rfl ?_
    refine XS.aloadN X4.here hx rfl (hb hby d4_24) rfl rfl ?_
    refine XS.iloadN X4.here hx rfl (hb hby d4_25) rfl ?_
    show Steps p.tables e below (T4.setTop (mkF m 26 #[.val (.ref a1), .val (.int (3 : Int32)), .val (.ref b2_4)] [(.int (3 : Int32)), (.ref b2_4)])) _
    refine XS.iconst X4.here hx rfl (hb hby d4_26) ?_
    refine XS.isub X4.here hx rfl (hb hby d4_27) rfl ?_
    jvm_step X4.here [X4.here.top, hx, (hb hby d4_28), Value.category]
    show Steps p.tables e below (T4.setTop (mkF m 29 #[.val (.ref a1), .val (.int (3 : Int32)), .val (.ref b2_4)] [(.int (2 : Int32)), (.ref b2_4), (.int (2 : Int32)), (.ref b2_4)])) _
    refine X4.baloadBytes hx (j := (2 : Int32)) (v := (.int x2)) (by exact Ar_b2_4_29_5.1) (State.isArrayOf_alike hZ.alike Ar_b2_4_29_5.2.1) Ar_b2_4_29_5.2.2 hin_b2_4_29_5 (H_b2_4_29_5.at hin_b2_4_29_5 rfl) (g := (mkF m 29 #[.val (.ref a1), .val (.int (3 : Int32)), .val (.ref b2_4)] [(.int (2 : Int32)), (.ref b2_4), (.int (2 : Int32)), (.ref b2_4)])) rfl rfl (hb hby d4_29) _ ?_
    show Steps p.tables e below (T4.setTop (mkF m 30 #[.val (.ref a1), .val (.int (3 : Int32)), .val (.ref b2_4)] [(.int x2), (.int (2 : Int32)), (.ref b2_4)])) _
    refine XS.iconst X4.here hx rfl (hb hby d4_30) ?_
    refine XS.iadd X4.here hx rfl (hb hby d4_31) rfl ?_
    show Steps p.tables e below (T4.setTop (mkF m 32 #[.val (.ref a1), .val (.int (3 : Int32)), .val (.ref b2_4)] [(.int (x2 + (1 : Int32))), (.int (2 : Int32)), (.ref b2_4)])) _
    refine XS.i2b X4.here hx rfl (hb hby d4_32) rfl ?_
    show Steps p.tables e below (T4.setTop (mkF m 33 #[.val (.ref a1), .val (.int (3 : Int32)), .val (.ref b2_4)] [(.int ((x2 + (1 : Int32)).toInt8.toInt32)), (.int (2 : Int32)), (.ref b2_4)])) _
    refine st7 _ ?_
    show Steps p.tables e below (T7.setTop (mkF m 34 #[.val (.ref a1), .val (.int (3 : Int32)), .val (.ref b2_4)] [])) _
    refine XS.aloadN X7.here hx rfl (hb hby d4_34) rfl rfl ?_
    show Steps p.tables e below (T7.setTop (mkF m 35 #[.val (.ref a1), .val (.int (3 : Int32)), .val (.ref b2_4)] [(.ref b2_4)])) _
    exact retOut X7 hx Bd.returns rfl (Or.inr (Or.inr (Or.inr (Or.inr ⟨rfl, rfl, rfl⟩)))) (hb hby d4_35) hr
  · show Q_end_4_2 Z a1 ka x0 x1 x2 x3 h0 n0 _ T7.heap _
    rw [e7]
    exact ⟨b2_4, k2_4, rfl, N7, K7, sz_b2_4, V_b2_4_33_6⟩
theorem ef_end_4_3 (m : MethodId) (a1 : Addr) : entryFrame m #[(.ref a1)] 3 = (mkF m 0 #[.val (.ref a1), .unset, .unset] []) := by first | (simp [entryFrame, mkF, argsToLocals, Value.category]; done) | rfl
def Q_end_4_3 (Z : State) (a1 : Addr) (ka : ClassId) (x0 : Int32) (x1 : Int32) (x2 : Int32) (x3 : Int32) (h0 : Heap) (n0 : Nat) (v : Option Value) (h : Heap) (L : List Loc) : Prop := ∃ (b2_3 : Addr), v = some (.ref b2_3) ∧ Fr n0 L ∧ Keep h0 h [] ∧ h0.size ≤ b2_3 ∧ Arv Z h b2_3 ka .byte (4 : Int32) [(.int x0), (.int x1), (.int x2), (.int (nar .byte ((x3 + (1 : Int32)).toInt8.toInt32)))] (.int (0 : Int32)) ∧ Exa Z h b2_3 "[B"
set_option maxRecDepth 65536 in
set_option maxHeartbeats 40000000 in
theorem rm_end_4_3 (l : Launch) (Z : State) (a0 : Array Value) (hw : ∀ d ∈ tables_1, d.before a0 Z = true) (ws : List Jvm.Cond) (a1 : Addr) (ka : ClassId) (x0 : Int32) (x1 : Int32) (x2 : Int32) (x3 : Int32) (h0 : Heap) (n0 : Nat) (Z0 : n0 ≤ h0.size) (V_a1 : Arv Z h0 a1 ka .byte (4 : Int32) [(.int x0), (.int x1), (.int x2), (.int x3)] (.int (0 : Int32))) (E_a1 : Exa Z h0 a1 "[B") (hx3 : ¬ (x3 = (-1 : Int32))) :
    MetFree l (⟨"com/example/elliott_bay/elliottbay/store/Keys", "end", "([B)[B"⟩ : MethodName) (head1 (Jvm.Cond.code (⟨"com/example/elliott_bay/elliottbay/store/Keys", "end", "([B)[B"⟩ : MethodName) prog_107_method_15_code 3 (some (.array .byte)) :: ws) ({ frames := 2, cells := 1, slots := 4, locals := 28 } : Room)) (fun a U => a = #[(.ref a1)] ∧ Z.Warmed39 U.vm ∧ U.heap = h0) (fun _ _ _ _ _ => True) (fun _ U o U' => ∃ v L, o = .returned v ∧ Q_end_4_3 Z a1 ka x0 x1 x2 x3 h0 n0 v U'.heap L ∧ FrameEnd U o U' L ({ frames := 2, cells := 1, slots := 4, locals := 28 } : Room).cells ({ frames := 2, cells := 1, slots := 4, locals := 28 } : Room).slots) := by
  refine MetFree.of_bodySF (plainFor_of_name pn2) hisR ?_
  intro p e s m args below meth c s₁ Bd hml0 hP hK
  obtain ⟨rfl, hZ, hh⟩ := hP
  have hx := Bd.exec
  have hby := Bd.bytes
  have hml : c.maxLocals = 3 := hml0
  have hown : s.vm.findClass "com/example/elliott_bay/elliottbay/store/Keys" = some m.cls := findClass_of_methodNamed Bd.named
  have hnm := (name_of_methodNamed Bd.named Bd.method).1
  have X0 : Stand p l e ({ frames := 2, cells := 1, slots := 4, locals := 28 } : Room) s m #[(.ref a1)] below meth c s₁ [] 0 0 := Stand.of_body Bd
  have e0 : s₁.heap = h0 := by rw [← hh, Bd.state]; rfl
  have N0 := Fr.nil n0
  have pre0 : ∀ t, Steps p.tables e below (s₁.setTop (mkF m 0 #[.val (.ref a1), .unset, .unset] [])) t → Steps p.tables e below (s₁.setTop (entryFrame m #[(.ref a1)] 3)) t := fun t k => castTop (ef_end_4_3 m a1) k
  obtain ⟨cl_a1_1_1, Ar_a1_1_1, -, S_a1_1_1, N_a1_1_1, -, -⟩ := id V_a1
  obtain ⟨cl_a1_7_2, Ar_a1_7_2, q_a1_7_2, S_a1_7_2, N_a1_7_2, H_a1_7_2, G_a1_7_2⟩ := id V_a1
  have hin_a1_7_2 : ¬ ((3 : Int32) < 0 ∨ cl_a1_7_2.slots.size ≤ ((3 : Int32) : Int32).toNatClampNeg) := inb_of S_a1_7_2 ⟨by decide, by decide⟩
  obtain ⟨_, _, ⟨T3, L3, k3, n3⟩, -, X3, ⟨Lc3, hQ3, l3, y3, z3⟩, st3⟩ := Jvm.LawKit.callS X0 hx (y := (⟨"java/util/Arrays", "copyOf", "([BI)[B"⟩ : MethodName)) hown (mvT hZ (hw _ (List.mem_of_getElem? (i := 15) rfl))) (mvT hZ (hw _ (List.mem_of_getElem? (i := 16) rfl))) (mvT hZ (hw _ (List.mem_of_getElem? (i := 17) rfl))) (mvT hZ (hw _ (List.mem_of_getElem? (i := 18) rfl))) (by decide) (backOf (W := 0) (rm_copy_4_4 l Z a0 hw [] a1 ka x0 x1 x2 x3 h0 n0 (Nat.le_trans Z0 (Keep.refl h0 []).1) V_a1 E_a1 ) hZ (hw _ (List.mem_of_getElem? (i := 18) rfl)) (hw _ (List.mem_of_getElem? (i := 17) rfl)) (by decide) (by decide)) (g := (mkF m 20 #[.val (.ref a1), .val (.int (4 : Int32)), .unset] [(.int (4 : Int32)), (.ref a1)])) rfl (by rw [hml]; rfl) (argsL := [(.ref a1), (.int (4 : Int32))]) (rest := []) (lenOf pd1 rfl) rfl (by show 2 * 0 + _ ≤ _; exact Nat.le_of_eq rfl) (hb hby d4_20) (fun _ _ => ⟨rfl, e0, (by decide : 0 + 1 ≤ _), (by decide : 0 + 4 ≤ _)⟩)
  dsimp only [Pt.U, Pt.locs, Pt.cells, Pt.slots] at X3 l3 y3 z3 st3 hQ3
  subst l3 y3 z3
  obtain ⟨b2_3, rfl, N3q, K3, s3_b2, f3_0, f3_1⟩ := hQ3
  have N3 := Fr.app N0 N3q
  have sz_b2_3 : h0.size ≤ b2_3 := Nat.le_trans (Keep.refl h0 []).1 s3_b2
  have g_b2_3 : n0 ≤ b2_3 := Nat.le_trans Z0 sz_b2_3
  have KK3 : Keep h0 T3.heap [] := (Keep.refl h0 []).trans K3 all0
  obtain ⟨cl_b2_3_29_4, Ar_b2_3_29_4, q_b2_3_29_4, S_b2_3_29_4, N_b2_3_29_4, H_b2_3_29_4, G_b2_3_29_4⟩ := id f3_0
  have hin_b2_3_29_4 : ¬ ((3 : Int32) < 0 ∨ cl_b2_3_29_4.slots.size ≤ ((3 : Int32) : Int32).toNatClampNeg) := inb_of S_b2_3_29_4 ⟨by decide, by decide⟩
  obtain ⟨cl_b2_3_33_5, Ar_b2_3_33_5, q_b2_3_33_5, S_b2_3_33_5, N_b2_3_33_5, H_b2_3_33_5, G_b2_3_33_5⟩ := id f3_0
  have hin_b2_3_33_5 : ¬ ((3 : Int32) < 0 ∨ cl_b2_3_33_5.slots.size ≤ ((3 : Int32) : Int32).toNatClampNeg) := inb_of S_b2_3_33_5 ⟨by decide, by decide⟩
  obtain ⟨T6, h6, X6, e6, W6, st6⟩ := stB X3 hx hZ rfl Ar_b2_3_33_5 (j := (3 : Int32)) hin_b2_3_33_5 (g := (mkF m 33 #[.val (.ref a1), .val (.int (4 : Int32)), .val (.ref b2_3)] [(.int ((x3 + (1 : Int32)).toInt8.toInt32)), (.int (3 : Int32)), (.ref b2_3)])) rfl rfl (hb hby d4_33)
  have V_b2_3_33_5 : Arv Z h6 b2_3 ka .byte (4 : Int32) [(.int x0), (.int x1), (.int x2), (.int (nar .byte ((x3 + (1 : Int32)).toInt8.toInt32)))] (.int (0 : Int32)) := Arv.set Ar_b2_3_33_5 q_b2_3_33_5 S_b2_3_33_5 N_b2_3_33_5 H_b2_3_33_5 G_b2_3_33_5 (fits_nar_byte _) W6 3 rfl (Nat.le_of_ble_eq_true rfl)
  have K6 : Keep h0 h6 [] := KK3.wr W6 (Or.inr sz_b2_3)
  have N6 := Fr.snoc X6 N3 g_b2_3
  obtain ⟨fs, hr, hrun, hended, hW, hsame⟩ := X6.leave (v := some (.ref b2_3)) (fun h => by rw [Bd.returns] at h; cases h)
  refine ⟨_, _, pre0 _ ?_, hrun, hended, _, _, rfl, ?_, ⟨_, rfl⟩, hW, hsame.mono (by decide) (by decide)⟩
  · show Steps p.tables e below (s₁.setTop (mkF m 0 #[.val (.ref a1), .unset, .unset] [])) _
    refine XS.aloadN X0.here hx rfl (hb hby d4_0) rfl rfl ?_
    refine X0.arraylength hx (by rw [e0]; exact Ar_a1_1_1.1) (State.isArrayOf_alike hZ.alike Ar_a1_1_1.2.1) (g := (mkF m 1 #[.val (.ref a1), .unset, .unset] [(.ref a1)])) rfl rfl (hb hby d4_1) _ ?_
    rw [len_of S_a1_1_1 N_a1_1_1]
    show Steps p.tables e below (s₁.setTop (mkF m 2 #[.val (.ref a1), .unset, .unset] [(.int (4 : Int32))])) _
    refine XS.istoreN X0.here hx rfl (hb hby d4_2) rfl (l' := #[.val (.ref a1), .val (.int (4 : Int32)), .unset]) rfl ?_
    show Steps p.tables e below (s₁.setTop (mkF m 3 #[.val (.ref a1), .val (.int (4 : Int32)), .unset] [])) _
    refine XS.aloadN X0.here hx rfl (hb hby d4_3) rfl rfl ?_
    refine XS.iloadN X0.here hx rfl (hb hby d4_4) rfl ?_
    refine XS.iconst X0.here hx rfl (hb hby d4_5) ?_
    show Steps p.tables e below (s₁.setTop (mkF m 6 #[.val (.ref a1), .val (.int (4 : Int32)), .unset] [(.int (1 : Int32)), (.int (4 : Int32)), (.ref a1)])) _
    refine XS.isub X0.here hx rfl (hb hby d4_6) rfl ?_
    refine X0.baloadBytes hx (j := (3 : Int32)) (v := (.int x3)) (by rw [e0]; exact Ar_a1_7_2.1) (State.isArrayOf_alike hZ.alike Ar_a1_7_2.2.1) Ar_a1_7_2.2.2 hin_a1_7_2 (H_a1_7_2.at hin_a1_7_2 rfl) (g := (mkF m 7 #[.val (.ref a1), .val (.int (4 : Int32)), .unset] [(.int (3 : Int32)), (.ref a1)])) rfl rfl (hb hby d4_7) _ ?_
    show Steps p.tables e below (s₁.setTop (mkF m 8 #[.val (.ref a1), .val (.int (4 : Int32)), .unset] [(.int x3)])) _
    refine XS.iconst X0.here hx rfl (hb hby d4_8) ?_
    show Steps p.tables e below (s₁.setTop (mkF m 9 #[.val (.ref a1), .val (.int (4 : Int32)), .unset] [(.int (-1 : Int32)), (.int x3)])) _
    refine XS.icmpYes X0.here hx rfl (pc0 := 9) (pc' := 18) rfl (hb hby d4_9) rfl (feq hx3).2 (by decide) (by decide) ?_
    refine XS.aloadN X0.here hx rfl (hb hby d4_18) rfl rfl ?_
    refine XS.iloadN X0.here hx rfl (hb hby d4_19) rfl ?_
    show Steps p.tables e below (s₁.setTop (mkF m 20 #[.val (.ref a1), .val (.int (4 : Int32)), .unset] [(.int (4 : Int32)), (.ref a1)])) _
    refine st3 _ ?_
    show Steps p.tables e below (T3.setTop (mkF m 23 #[.val (.ref a1), .val (.int (4 : Int32)), .unset] [(.ref b2_3)])) _
    refine XS.astoreN X3.here hx rfl (hb hby d4_23) rfl rfl (l' := #[.val (.ref a1), .val (.int (4 : Int32)), .val (.ref b2_3)]) rfl ?_
    refine XS.aloadN X3.here hx rfl (hb hby d4_24) rfl rfl ?_
    refine XS.iloadN X3.here hx rfl (hb hby d4_25) rfl ?_
    show Steps p.tables e below (T3.setTop (mkF m 26 #[.val (.ref a1), .val (.int (4 : Int32)), .val (.ref b2_3)] [(.int (4 : Int32)), (.ref b2_3)])) _
    refine XS.iconst X3.here hx rfl (hb hby d4_26) ?_
    refine XS.isub X3.here hx rfl (hb hby d4_27) rfl ?_
    jvm_step X3.here [X3.here.top, hx, (hb hby d4_28), Value.category]
    show Steps p.tables e below (T3.setTop (mkF m 29 #[.val (.ref a1), .val (.int (4 : Int32)), .val (.ref b2_3)] [(.int (3 : Int32)), (.ref b2_3), (.int (3 : Int32)), (.ref b2_3)])) _
    refine X3.baloadBytes hx (j := (3 : Int32)) (v := (.int x3)) (by exact Ar_b2_3_29_4.1) (State.isArrayOf_alike hZ.alike Ar_b2_3_29_4.2.1) Ar_b2_3_29_4.2.2 hin_b2_3_29_4 (H_b2_3_29_4.at hin_b2_3_29_4 rfl) (g := (mkF m 29 #[.val (.ref a1), .val (.int (4 : Int32)), .val (.ref b2_3)] [(.int (3 : Int32)), (.ref b2_3), (.int (3 : Int32)), (.ref b2_3)])) rfl rfl (hb hby d4_29) _ ?_
    show Steps p.tables e below (T3.setTop (mkF m 30 #[.val (.ref a1), .val (.int (4 : Int32)), .val (.ref b2_3)] [(.int x3), (.int (3 : Int32)), (.ref b2_3)])) _
    refine XS.iconst X3.here hx rfl (hb hby d4_30) ?_
    refine XS.iadd X3.here hx rfl (hb hby d4_31) rfl ?_
    show Steps p.tables e below (T3.setTop (mkF m 32 #[.val (.ref a1), .val (.int (4 : Int32)), .val (.ref b2_3)] [(.int (x3 + (1 : Int32))), (.int (3 : Int32)), (.ref b2_3)])) _
    refine XS.i2b X3.here hx rfl (hb hby d4_32) rfl ?_
    show Steps p.tables e below (T3.setTop (mkF m 33 #[.val (.ref a1), .val (.int (4 : Int32)), .val (.ref b2_3)] [(.int ((x3 + (1 : Int32)).toInt8.toInt32)), (.int (3 : Int32)), (.ref b2_3)])) _
    refine st6 _ ?_
    show Steps p.tables e below (T6.setTop (mkF m 34 #[.val (.ref a1), .val (.int (4 : Int32)), .val (.ref b2_3)] [])) _
    refine XS.aloadN X6.here hx rfl (hb hby d4_34) rfl rfl ?_
    show Steps p.tables e below (T6.setTop (mkF m 35 #[.val (.ref a1), .val (.int (4 : Int32)), .val (.ref b2_3)] [(.ref b2_3)])) _
    exact retOut X6 hx Bd.returns rfl (Or.inr (Or.inr (Or.inr (Or.inr ⟨rfl, rfl, rfl⟩)))) (hb hby d4_35) hr
  · show Q_end_4_3 Z a1 ka x0 x1 x2 x3 h0 n0 _ T6.heap _
    rw [e6]
    exact ⟨b2_3, rfl, N6, K6, sz_b2_3, V_b2_3_33_5, (f3_1.wr W6)⟩
theorem own_narb (x : Int32) : nar .byte (x.toInt8.toInt32) = x.toInt8.toInt32 := by
  show x.toInt8.toInt32.toInt8.toInt32 = x.toInt8.toInt32
  simp
theorem own_nar2 (x : Int32) : nar .byte (nar .byte x) = nar .byte x := own_narb x
theorem own_pkb (a b c : Int32) : nar .byte (res1 a b c) = res1 a b c := by
  unfold res1
  split
  · exact own_nar2 _
  · decide
theorem own_l_1_0 {b0 b1 b2 b3 : Int32} (e0 : nar .byte b0 = b0) (e1 : nar .byte b1 = b1) (e2 : nar .byte b2 = b2) (e3 : nar .byte b3 = b3) (h : (res2 (1 : Int32) b0 b1 b2 b3) = (0 : Int32)) : ¬ (nar .byte b0) = (-1 : Int32) := by
  rw [e0]
  revert h
  unfold res2
  repeat' split
  all_goals simp_all
theorem own_l_2_0 {b0 b1 b2 b3 : Int32} (e0 : nar .byte b0 = b0) (e1 : nar .byte b1 = b1) (e2 : nar .byte b2 = b2) (e3 : nar .byte b3 = b3) (h : (res2 (2 : Int32) b0 b1 b2 b3) = (0 : Int32)) : ¬ (nar .byte b0) = (-1 : Int32) ∧ (nar .byte b1) = (-1 : Int32) := by
  rw [e0, e1]
  revert h
  unfold res2
  repeat' split
  all_goals simp_all
theorem own_l_2_1 {b0 b1 b2 b3 : Int32} (e0 : nar .byte b0 = b0) (e1 : nar .byte b1 = b1) (e2 : nar .byte b2 = b2) (e3 : nar .byte b3 = b3) (h : (res2 (2 : Int32) b0 b1 b2 b3) = (1 : Int32)) : ¬ (nar .byte b1) = (-1 : Int32) := by
  rw [e1]
  revert h
  unfold res2
  repeat' split
  all_goals simp_all
theorem own_l_3_0 {b0 b1 b2 b3 : Int32} (e0 : nar .byte b0 = b0) (e1 : nar .byte b1 = b1) (e2 : nar .byte b2 = b2) (e3 : nar .byte b3 = b3) (h : (res2 (3 : Int32) b0 b1 b2 b3) = (0 : Int32)) : ¬ (nar .byte b0) = (-1 : Int32) ∧ (nar .byte b1) = (-1 : Int32) ∧ (nar .byte b2) = (-1 : Int32) := by
  rw [e0, e1, e2]
  revert h
  unfold res2
  repeat' split
  all_goals simp_all
theorem own_l_3_1 {b0 b1 b2 b3 : Int32} (e0 : nar .byte b0 = b0) (e1 : nar .byte b1 = b1) (e2 : nar .byte b2 = b2) (e3 : nar .byte b3 = b3) (h : (res2 (3 : Int32) b0 b1 b2 b3) = (1 : Int32)) : ¬ (nar .byte b1) = (-1 : Int32) ∧ (nar .byte b2) = (-1 : Int32) := by
  rw [e1, e2]
  revert h
  unfold res2
  repeat' split
  all_goals simp_all
theorem own_l_3_2 {b0 b1 b2 b3 : Int32} (e0 : nar .byte b0 = b0) (e1 : nar .byte b1 = b1) (e2 : nar .byte b2 = b2) (e3 : nar .byte b3 = b3) (h : (res2 (3 : Int32) b0 b1 b2 b3) = (2 : Int32)) : ¬ (nar .byte b2) = (-1 : Int32) := by
  rw [e2]
  revert h
  unfold res2
  repeat' split
  all_goals simp_all
theorem own_l_4_0 {b0 b1 b2 b3 : Int32} (e0 : nar .byte b0 = b0) (e1 : nar .byte b1 = b1) (e2 : nar .byte b2 = b2) (e3 : nar .byte b3 = b3) (h : (res2 (4 : Int32) b0 b1 b2 b3) = (0 : Int32)) : ¬ (nar .byte b0) = (-1 : Int32) ∧ (nar .byte b1) = (-1 : Int32) ∧ (nar .byte b2) = (-1 : Int32) ∧ (nar .byte b3) = (-1 : Int32) := by
  rw [e0, e1, e2, e3]
  revert h
  unfold res2
  repeat' split
  all_goals simp_all
theorem own_l_4_1 {b0 b1 b2 b3 : Int32} (e0 : nar .byte b0 = b0) (e1 : nar .byte b1 = b1) (e2 : nar .byte b2 = b2) (e3 : nar .byte b3 = b3) (h : (res2 (4 : Int32) b0 b1 b2 b3) = (1 : Int32)) : ¬ (nar .byte b1) = (-1 : Int32) ∧ (nar .byte b2) = (-1 : Int32) ∧ (nar .byte b3) = (-1 : Int32) := by
  rw [e1, e2, e3]
  revert h
  unfold res2
  repeat' split
  all_goals simp_all
theorem own_l_4_2 {b0 b1 b2 b3 : Int32} (e0 : nar .byte b0 = b0) (e1 : nar .byte b1 = b1) (e2 : nar .byte b2 = b2) (e3 : nar .byte b3 = b3) (h : (res2 (4 : Int32) b0 b1 b2 b3) = (2 : Int32)) : ¬ (nar .byte b2) = (-1 : Int32) ∧ (nar .byte b3) = (-1 : Int32) := by
  rw [e2, e3]
  revert h
  unfold res2
  repeat' split
  all_goals simp_all
theorem own_l_4_3 {b0 b1 b2 b3 : Int32} (e0 : nar .byte b0 = b0) (e1 : nar .byte b1 = b1) (e2 : nar .byte b2 = b2) (e3 : nar .byte b3 = b3) (h : (res2 (4 : Int32) b0 b1 b2 b3) = (3 : Int32)) : ¬ (nar .byte b3) = (-1 : Int32) := by
  rw [e3]
  revert h
  unfold res2
  repeat' split
  all_goals simp_all
theorem own_range_4 {i : Int32} (h0 : 0 ≤ i.toInt) (h1 : i.toInt < 4) : i = (0 : Int32) ∨ i = (1 : Int32) ∨ i = (2 : Int32) ∨ i = (3 : Int32) := by
  have h : i.toInt = 0 ∨ i.toInt = 1 ∨ i.toInt = 2 ∨ i.toInt = 3 := by omega
  rcases h with h | h | h | h
  · exact Or.inl (Int32.toInt_inj.mp (h.trans (by decide)))
  · exact Or.inr (Or.inl (Int32.toInt_inj.mp (h.trans (by decide))))
  · exact Or.inr (Or.inr (Or.inl (Int32.toInt_inj.mp (h.trans (by decide)))))
  · exact Or.inr (Or.inr (Or.inr ((Int32.toInt_inj.mp (h.trans (by decide))))))
theorem own_n (x : Int32) : ((x &&& (3 : Int32)) + (1 : Int32)) = (1 : Int32) ∨ ((x &&& (3 : Int32)) + (1 : Int32)) = (2 : Int32) ∨ ((x &&& (3 : Int32)) + (1 : Int32)) = (3 : Int32) ∨ ((x &&& (3 : Int32)) + (1 : Int32)) = (4 : Int32) := by
  have e : (x &&& (3 : Int32)).toInt = x.toInt % (2 ^ 2 : Nat) := c_mask x _ 2 (by decide) (by decide)
  have h := own_range_4 (i := x &&& (3 : Int32)) (by omega) (by omega)
  rcases h with h | h | h | h <;> rw [h] <;> decide
theorem own_k (n b0 b1 b2 b3 : Int32) (k : Int32) (hk : k = (res2 n b0 b1 b2 b3)) : k = (-1 : Int32) ∨ k = (0 : Int32) ∨ (k = (1 : Int32) ∧ ¬ n < (2 : Int32)) ∨ (k = (2 : Int32) ∧ ¬ n < (3 : Int32)) ∨ (k = (3 : Int32) ∧ ¬ n < (4 : Int32)) := by
  subst hk
  unfold res2
  repeat' split
  all_goals simp_all
theorem own_k1 (b0 b1 b2 b3 : Int32) : (res2 (1 : Int32) b0 b1 b2 b3) = (-1 : Int32) ∨ (res2 (1 : Int32) b0 b1 b2 b3) = (0 : Int32) := by
  have h := own_k (1 : Int32) b0 b1 b2 b3 _ rfl
  rcases h with h | h | ⟨h, q⟩ | ⟨h, q⟩ | ⟨h, q⟩ <;> first | exact absurd (by decide) q | simp [h]
theorem own_k2 (b0 b1 b2 b3 : Int32) : (res2 (2 : Int32) b0 b1 b2 b3) = (-1 : Int32) ∨ (res2 (2 : Int32) b0 b1 b2 b3) = (0 : Int32) ∨ (res2 (2 : Int32) b0 b1 b2 b3) = (1 : Int32) := by
  have h := own_k (2 : Int32) b0 b1 b2 b3 _ rfl
  rcases h with h | h | ⟨h, q⟩ | ⟨h, q⟩ | ⟨h, q⟩ <;> first | exact absurd (by decide) q | simp [h]
theorem own_k3 (b0 b1 b2 b3 : Int32) : (res2 (3 : Int32) b0 b1 b2 b3) = (-1 : Int32) ∨ (res2 (3 : Int32) b0 b1 b2 b3) = (0 : Int32) ∨ (res2 (3 : Int32) b0 b1 b2 b3) = (1 : Int32) ∨ (res2 (3 : Int32) b0 b1 b2 b3) = (2 : Int32) := by
  have h := own_k (3 : Int32) b0 b1 b2 b3 _ rfl
  rcases h with h | h | ⟨h, q⟩ | ⟨h, q⟩ | ⟨h, q⟩ <;> first | exact absurd (by decide) q | simp [h]
theorem own_k4 (b0 b1 b2 b3 : Int32) : (res2 (4 : Int32) b0 b1 b2 b3) = (-1 : Int32) ∨ (res2 (4 : Int32) b0 b1 b2 b3) = (0 : Int32) ∨ (res2 (4 : Int32) b0 b1 b2 b3) = (1 : Int32) ∨ (res2 (4 : Int32) b0 b1 b2 b3) = (2 : Int32) ∨ (res2 (4 : Int32) b0 b1 b2 b3) = (3 : Int32) := by
  have h := own_k (4 : Int32) b0 b1 b2 b3 _ rfl
  rcases h with h | h | ⟨h, q⟩ | ⟨h, q⟩ | ⟨h, q⟩ <;> first | exact absurd (by decide) q | simp [h]
theorem pd2 : parseMethodDescriptor "(III)B" = some ⟨[.int, .int, .int], some .byte⟩ := by decide +kernel
theorem pd3 : parseMethodDescriptor "(IBBBB)I" = some ⟨[.int, .byte, .byte, .byte, .byte], some .int⟩ := by decide +kernel
theorem pd4 : parseMethodDescriptor "(IBBBB)[B" = some ⟨[.int, .byte, .byte, .byte, .byte], some (.array .byte)⟩ := by decide +kernel
theorem pd5 : parseMethodDescriptor "([B)[B" = some ⟨[(.array .byte)], some (.array .byte)⟩ := by decide +kernel
theorem ef0 (m : MethodId) (p1 : Int32) (p2 : Int32) : entryFrame m #[(.int p1), (.int p2)] maxLocals = (mkF m 0 #[.val (.int p1), .val (.int p2), .unset, .unset, .unset, .unset, .unset, .unset, .unset, .unset, .unset, .unset] []) := by first | (simp [entryFrame, mkF, argsToLocals, Value.category, maxLocals]; done) | rfl
def Q0 (Z : State) (p1 : Int32) (p2 : Int32) (h0 : Heap) (n0 : Nat) (v : Option Value) (h : Heap) (L : List Loc) : Prop := v = some (.int (1 : Int32)) ∧ Fr n0 L
set_option maxRecDepth 65536 in
set_option maxHeartbeats 40000000 in
theorem rm0 (l : Launch) (Z : State) (a0 : Array Value) (hw : ∀ d ∈ tables_1, d.before a0 Z = true) (ws : List Jvm.Cond) (p1 : Int32) (p2 : Int32) (h0 : Heap) (n0 : Nat) (Z0 : n0 ≤ h0.size) :
    MetFree l x (head1 (Jvm.Cond.code x code maxLocals ret :: ws) room_1) (fun a U => a = #[(.int p1), (.int p2)] ∧ Z.Warmed39 U.vm ∧ U.heap = h0) (fun _ _ _ _ _ => True) (fun _ U o U' => ∃ v L, o = .returned v ∧ Q0 Z p1 p2 h0 n0 v U'.heap L ∧ FrameEnd U o U' L room_1.cells room_1.slots) := by
  refine MetFree.of_bodySF (plainFor_of_name pn0) hisR ?_
  intro p e s m args below meth c s₁ Bd hml0 hP hK
  obtain ⟨rfl, hZ, hh⟩ := hP
  have hx := Bd.exec
  have hby := Bd.bytes
  have hml : c.maxLocals = 12 := hml0
  have hown : s.vm.findClass "com/example/elliott_bay/elliottbay/store/KeysEndPinLaw" = some m.cls := findClass_of_methodNamed Bd.named
  have hnm := (name_of_methodNamed Bd.named Bd.method).1
  have X0 : Stand p l e room_1 s m #[(.int p1), (.int p2)] below meth c s₁ [] 0 0 := Stand.of_body Bd
  have e0 : s₁.heap = h0 := by rw [← hh, Bd.state]; rfl
  have N0 := Fr.nil n0
  have pre0 : ∀ t, Steps p.tables e below (s₁.setTop (mkF m 0 #[.val (.int p1), .val (.int p2), .unset, .unset, .unset, .unset, .unset, .unset, .unset, .unset, .unset, .unset] [])) t → Steps p.tables e below (s₁.setTop (entryFrame m #[(.int p1), (.int p2)] maxLocals)) t := fun t k => castTop (ef0 m p1 p2) k
  obtain ⟨_, _, ⟨T1, L1, k1, n1⟩, -, X1, ⟨Lc1, hQ1, l1, y1, z1⟩, st1⟩ := Jvm.LawKit.callS X0 hx (y := (⟨"com/example/elliott_bay/elliottbay/store/KeysEndPinLaw", "pick", "(III)B"⟩ : MethodName)) hown (mvT hZ (hw _ (List.mem_of_getElem? (i := 0) rfl))) (mvT hZ (hw _ (List.mem_of_getElem? (i := 1) rfl))) (mvT hZ (hw _ (List.mem_of_getElem? (i := 2) rfl))) (mvT hZ (hw _ (List.mem_of_getElem? (i := 3) rfl))) (by decide) (backOf (W := 0) (rm1 l Z a0 hw [] p1 (((p2.toUInt32 >>> ((2 : Int32) &&& 31).toUInt32).toInt32) &&& (15 : Int32)) (0 : Int32)  h0 n0 (Nat.le_trans Z0 (Keep.refl h0 []).1)  ) hZ (hw _ (List.mem_of_getElem? (i := 3) rfl)) (hw _ (List.mem_of_getElem? (i := 2) rfl)) (by decide) (by decide)) (g := (mkF m 16 #[.val (.int p1), .val (.int p2), .val (.int ((p2 &&& (3 : Int32)) + (1 : Int32))), .val (.int (((p2.toUInt32 >>> ((2 : Int32) &&& 31).toUInt32).toInt32) &&& (15 : Int32))), .unset, .unset, .unset, .unset, .unset, .unset, .unset, .unset] [(.int (0 : Int32)), (.int (((p2.toUInt32 >>> ((2 : Int32) &&& 31).toUInt32).toInt32) &&& (15 : Int32))), (.int p1)])) rfl (by rw [hml]; rfl) (argsL := [(.int p1), (.int (((p2.toUInt32 >>> ((2 : Int32) &&& 31).toUInt32).toInt32) &&& (15 : Int32))), (.int (0 : Int32))]) (rest := []) (lenOf pd2 rfl) rfl (by show 2 * 0 + _ ≤ _; exact Nat.le_of_eq rfl) (hb hby at_16) (fun _ _ => ⟨rfl, e0, (by decide : 0 + 0 ≤ _), (by decide : 0 + 0 ≤ _)⟩)
  dsimp only [Pt.U, Pt.locs, Pt.cells, Pt.slots] at X1 l1 y1 z1 st1 hQ1
  subst l1 y1 z1
  obtain ⟨rfl, rfl, e1⟩ := hQ1
  have N1 := Fr.app N0 (Fr.nil n0)
  obtain ⟨bb0, hbb0⟩ : ∃ z, z = (res1 p1 (((p2.toUInt32 >>> ((2 : Int32) &&& 31).toUInt32).toInt32) &&& (15 : Int32)) (0 : Int32)) := ⟨_, rfl⟩
  rw [← hbb0] at st1
  have e_bb0 : nar .byte bb0 = bb0 := by rw [hbb0]; exact own_pkb _ _ _
  obtain ⟨_, _, ⟨T2, L2, k2, n2⟩, -, X2, ⟨Lc2, hQ2, l2, y2, z2⟩, st2⟩ := Jvm.LawKit.callS X1 hx (y := (⟨"com/example/elliott_bay/elliottbay/store/KeysEndPinLaw", "pick", "(III)B"⟩ : MethodName)) hown (mvT hZ (hw _ (List.mem_of_getElem? (i := 0) rfl))) (mvT hZ (hw _ (List.mem_of_getElem? (i := 1) rfl))) (mvT hZ (hw _ (List.mem_of_getElem? (i := 2) rfl))) (mvT hZ (hw _ (List.mem_of_getElem? (i := 3) rfl))) (by decide) (backOf (W := 0) (rm1 l Z a0 hw [] p1 (((p2.toUInt32 >>> ((2 : Int32) &&& 31).toUInt32).toInt32) &&& (15 : Int32)) (1 : Int32)  h0 n0 (Nat.le_trans Z0 (Keep.refl h0 []).1)  ) hZ (hw _ (List.mem_of_getElem? (i := 3) rfl)) (hw _ (List.mem_of_getElem? (i := 2) rfl)) (by decide) (by decide)) (g := (mkF m 24 #[.val (.int p1), .val (.int p2), .val (.int ((p2 &&& (3 : Int32)) + (1 : Int32))), .val (.int (((p2.toUInt32 >>> ((2 : Int32) &&& 31).toUInt32).toInt32) &&& (15 : Int32))), .val (.int bb0), .unset, .unset, .unset, .unset, .unset, .unset, .unset] [(.int (1 : Int32)), (.int (((p2.toUInt32 >>> ((2 : Int32) &&& 31).toUInt32).toInt32) &&& (15 : Int32))), (.int p1)])) rfl (by rw [hml]; rfl) (argsL := [(.int p1), (.int (((p2.toUInt32 >>> ((2 : Int32) &&& 31).toUInt32).toInt32) &&& (15 : Int32))), (.int (1 : Int32))]) (rest := []) (lenOf pd2 rfl) rfl (by show 2 * 0 + _ ≤ _; exact Nat.le_of_eq rfl) (hb hby at_24) (fun _ _ => ⟨rfl, e1, (by decide : 0 + 0 ≤ _), (by decide : 0 + 0 ≤ _)⟩)
  dsimp only [Pt.U, Pt.locs, Pt.cells, Pt.slots] at X2 l2 y2 z2 st2 hQ2
  subst l2 y2 z2
  obtain ⟨rfl, rfl, e2⟩ := hQ2
  have N2 := Fr.app N1 (Fr.nil n0)
  obtain ⟨bb1, hbb1⟩ : ∃ z, z = (res1 p1 (((p2.toUInt32 >>> ((2 : Int32) &&& 31).toUInt32).toInt32) &&& (15 : Int32)) (1 : Int32)) := ⟨_, rfl⟩
  rw [← hbb1] at st2
  have e_bb1 : nar .byte bb1 = bb1 := by rw [hbb1]; exact own_pkb _ _ _
  obtain ⟨_, _, ⟨T3, L3, k3, n3⟩, -, X3, ⟨Lc3, hQ3, l3, y3, z3⟩, st3⟩ := Jvm.LawKit.callS X2 hx (y := (⟨"com/example/elliott_bay/elliottbay/store/KeysEndPinLaw", "pick", "(III)B"⟩ : MethodName)) hown (mvT hZ (hw _ (List.mem_of_getElem? (i := 0) rfl))) (mvT hZ (hw _ (List.mem_of_getElem? (i := 1) rfl))) (mvT hZ (hw _ (List.mem_of_getElem? (i := 2) rfl))) (mvT hZ (hw _ (List.mem_of_getElem? (i := 3) rfl))) (by decide) (backOf (W := 0) (rm1 l Z a0 hw [] p1 (((p2.toUInt32 >>> ((2 : Int32) &&& 31).toUInt32).toInt32) &&& (15 : Int32)) (2 : Int32)  h0 n0 (Nat.le_trans Z0 (Keep.refl h0 []).1)  ) hZ (hw _ (List.mem_of_getElem? (i := 3) rfl)) (hw _ (List.mem_of_getElem? (i := 2) rfl)) (by decide) (by decide)) (g := (mkF m 32 #[.val (.int p1), .val (.int p2), .val (.int ((p2 &&& (3 : Int32)) + (1 : Int32))), .val (.int (((p2.toUInt32 >>> ((2 : Int32) &&& 31).toUInt32).toInt32) &&& (15 : Int32))), .val (.int bb0), .val (.int bb1), .unset, .unset, .unset, .unset, .unset, .unset] [(.int (2 : Int32)), (.int (((p2.toUInt32 >>> ((2 : Int32) &&& 31).toUInt32).toInt32) &&& (15 : Int32))), (.int p1)])) rfl (by rw [hml]; rfl) (argsL := [(.int p1), (.int (((p2.toUInt32 >>> ((2 : Int32) &&& 31).toUInt32).toInt32) &&& (15 : Int32))), (.int (2 : Int32))]) (rest := []) (lenOf pd2 rfl) rfl (by show 2 * 0 + _ ≤ _; exact Nat.le_of_eq rfl) (hb hby at_32) (fun _ _ => ⟨rfl, e2, (by decide : 0 + 0 ≤ _), (by decide : 0 + 0 ≤ _)⟩)
  dsimp only [Pt.U, Pt.locs, Pt.cells, Pt.slots] at X3 l3 y3 z3 st3 hQ3
  subst l3 y3 z3
  obtain ⟨rfl, rfl, e3⟩ := hQ3
  have N3 := Fr.app N2 (Fr.nil n0)
  obtain ⟨bb2, hbb2⟩ : ∃ z, z = (res1 p1 (((p2.toUInt32 >>> ((2 : Int32) &&& 31).toUInt32).toInt32) &&& (15 : Int32)) (2 : Int32)) := ⟨_, rfl⟩
  rw [← hbb2] at st3
  have e_bb2 : nar .byte bb2 = bb2 := by rw [hbb2]; exact own_pkb _ _ _
  obtain ⟨_, _, ⟨T4, L4, k4, n4⟩, -, X4, ⟨Lc4, hQ4, l4, y4, z4⟩, st4⟩ := Jvm.LawKit.callS X3 hx (y := (⟨"com/example/elliott_bay/elliottbay/store/KeysEndPinLaw", "pick", "(III)B"⟩ : MethodName)) hown (mvT hZ (hw _ (List.mem_of_getElem? (i := 0) rfl))) (mvT hZ (hw _ (List.mem_of_getElem? (i := 1) rfl))) (mvT hZ (hw _ (List.mem_of_getElem? (i := 2) rfl))) (mvT hZ (hw _ (List.mem_of_getElem? (i := 3) rfl))) (by decide) (backOf (W := 0) (rm1 l Z a0 hw [] p1 (((p2.toUInt32 >>> ((2 : Int32) &&& 31).toUInt32).toInt32) &&& (15 : Int32)) (3 : Int32)  h0 n0 (Nat.le_trans Z0 (Keep.refl h0 []).1)  ) hZ (hw _ (List.mem_of_getElem? (i := 3) rfl)) (hw _ (List.mem_of_getElem? (i := 2) rfl)) (by decide) (by decide)) (g := (mkF m 40 #[.val (.int p1), .val (.int p2), .val (.int ((p2 &&& (3 : Int32)) + (1 : Int32))), .val (.int (((p2.toUInt32 >>> ((2 : Int32) &&& 31).toUInt32).toInt32) &&& (15 : Int32))), .val (.int bb0), .val (.int bb1), .val (.int bb2), .unset, .unset, .unset, .unset, .unset] [(.int (3 : Int32)), (.int (((p2.toUInt32 >>> ((2 : Int32) &&& 31).toUInt32).toInt32) &&& (15 : Int32))), (.int p1)])) rfl (by rw [hml]; rfl) (argsL := [(.int p1), (.int (((p2.toUInt32 >>> ((2 : Int32) &&& 31).toUInt32).toInt32) &&& (15 : Int32))), (.int (3 : Int32))]) (rest := []) (lenOf pd2 rfl) rfl (by show 2 * 0 + _ ≤ _; exact Nat.le_of_eq rfl) (hb hby at_40) (fun _ _ => ⟨rfl, e3, (by decide : 0 + 0 ≤ _), (by decide : 0 + 0 ≤ _)⟩)
  dsimp only [Pt.U, Pt.locs, Pt.cells, Pt.slots] at X4 l4 y4 z4 st4 hQ4
  subst l4 y4 z4
  obtain ⟨rfl, rfl, e4⟩ := hQ4
  have N4 := Fr.app N3 (Fr.nil n0)
  obtain ⟨bb3, hbb3⟩ : ∃ z, z = (res1 p1 (((p2.toUInt32 >>> ((2 : Int32) &&& 31).toUInt32).toInt32) &&& (15 : Int32)) (3 : Int32)) := ⟨_, rfl⟩
  rw [← hbb3] at st4
  have e_bb3 : nar .byte bb3 = bb3 := by rw [hbb3]; exact own_pkb _ _ _
  have pre5 : ∀ t, Steps p.tables e below (T4.setTop (mkF m 45 #[.val (.int p1), .val (.int p2), .val (.int ((p2 &&& (3 : Int32)) + (1 : Int32))), .val (.int (((p2.toUInt32 >>> ((2 : Int32) &&& 31).toUInt32).toInt32) &&& (15 : Int32))), .val (.int bb0), .val (.int bb1), .val (.int bb2), .val (.int bb3), .unset, .unset, .unset, .unset] [])) t → Steps p.tables e below (s₁.setTop (entryFrame m #[(.int p1), (.int p2)] maxLocals)) t := by
    intro t kt
    refine pre0 _ ?_
    show Steps p.tables e below (s₁.setTop (mkF m 0 #[.val (.int p1), .val (.int p2), .unset, .unset, .unset, .unset, .unset, .unset, .unset, .unset, .unset, .unset] [])) _
    refine XS.iloadN X0.here hx rfl (hb hby at_0) rfl ?_
    refine XS.iconst X0.here hx rfl (hb hby at_1) ?_
    refine XS.iand X0.here hx rfl (hb hby at_2) rfl ?_
    show Steps p.tables e below (s₁.setTop (mkF m 3 #[.val (.int p1), .val (.int p2), .unset, .unset, .unset, .unset, .unset, .unset, .unset, .unset, .unset, .unset] [(.int (p2 &&& (3 : Int32)))])) _
    refine XS.iconst X0.here hx rfl (hb hby at_3) ?_
    refine XS.iadd X0.here hx rfl (hb hby at_4) rfl ?_
    refine XS.istoreN X0.here hx rfl (hb hby at_5) rfl (l' := #[.val (.int p1), .val (.int p2), .val (.int ((p2 &&& (3 : Int32)) + (1 : Int32))), .unset, .unset, .unset, .unset, .unset, .unset, .unset, .unset, .unset]) rfl ?_
    show Steps p.tables e below (s₁.setTop (mkF m 6 #[.val (.int p1), .val (.int p2), .val (.int ((p2 &&& (3 : Int32)) + (1 : Int32))), .unset, .unset, .unset, .unset, .unset, .unset, .unset, .unset, .unset] [])) _
    refine XS.iloadN X0.here hx rfl (hb hby at_6) rfl ?_
    refine XS.iconst X0.here hx rfl (hb hby at_7) ?_
    refine XS.iushr X0.here hx rfl (hb hby at_8) rfl ?_
    show Steps p.tables e below (s₁.setTop (mkF m 9 #[.val (.int p1), .val (.int p2), .val (.int ((p2 &&& (3 : Int32)) + (1 : Int32))), .unset, .unset, .unset, .unset, .unset, .unset, .unset, .unset, .unset] [(.int ((p2.toUInt32 >>> ((2 : Int32) &&& 31).toUInt32).toInt32))])) _
    refine XS.bipush X0.here hx rfl (hb hby at_9) ?_
    refine XS.iand X0.here hx rfl (hb hby at_11) rfl ?_
    refine XS.istoreN X0.here hx rfl (hb hby at_12) rfl (l' := #[.val (.int p1), .val (.int p2), .val (.int ((p2 &&& (3 : Int32)) + (1 : Int32))), .val (.int (((p2.toUInt32 >>> ((2 : Int32) &&& 31).toUInt32).toInt32) &&& (15 : Int32))), .unset, .unset, .unset, .unset, .unset, .unset, .unset, .unset]) rfl ?_
    show Steps p.tables e below (s₁.setTop (mkF m 13 #[.val (.int p1), .val (.int p2), .val (.int ((p2 &&& (3 : Int32)) + (1 : Int32))), .val (.int (((p2.toUInt32 >>> ((2 : Int32) &&& 31).toUInt32).toInt32) &&& (15 : Int32))), .unset, .unset, .unset, .unset, .unset, .unset, .unset, .unset] [])) _
    refine XS.iloadN X0.here hx rfl (hb hby at_13) rfl ?_
    refine XS.iloadN X0.here hx rfl (hb hby at_14) rfl ?_
    refine XS.iconst X0.here hx rfl (hb hby at_15) ?_
    show Steps p.tables e below (s₁.setTop (mkF m 16 #[.val (.int p1), .val (.int p2), .val (.int ((p2 &&& (3 : Int32)) + (1 : Int32))), .val (.int (((p2.toUInt32 >>> ((2 : Int32) &&& 31).toUInt32).toInt32) &&& (15 : Int32))), .unset, .unset, .unset, .unset, .unset, .unset, .unset, .unset] [(.int (0 : Int32)), (.int (((p2.toUInt32 >>> ((2 : Int32) &&& 31).toUInt32).toInt32) &&& (15 : Int32))), (.int p1)])) _
    refine st1 _ ?_
    show Steps p.tables e below (T1.setTop (mkF m 19 #[.val (.int p1), .val (.int p2), .val (.int ((p2 &&& (3 : Int32)) + (1 : Int32))), .val (.int (((p2.toUInt32 >>> ((2 : Int32) &&& 31).toUInt32).toInt32) &&& (15 : Int32))), .unset, .unset, .unset, .unset, .unset, .unset, .unset, .unset] [(.int bb0)])) _
    refine XS.istore X1.here hx rfl (hb hby at_19) rfl (l' := #[.val (.int p1), .val (.int p2), .val (.int ((p2 &&& (3 : Int32)) + (1 : Int32))), .val (.int (((p2.toUInt32 >>> ((2 : Int32) &&& 31).toUInt32).toInt32) &&& (15 : Int32))), .val (.int bb0), .unset, .unset, .unset, .unset, .unset, .unset, .unset]) rfl ?_
    refine XS.iloadN X1.here hx rfl (hb hby at_21) rfl ?_
    refine XS.iloadN X1.here hx rfl (hb hby at_22) rfl ?_
    show Steps p.tables e below (T1.setTop (mkF m 23 #[.val (.int p1), .val (.int p2), .val (.int ((p2 &&& (3 : Int32)) + (1 : Int32))), .val (.int (((p2.toUInt32 >>> ((2 : Int32) &&& 31).toUInt32).toInt32) &&& (15 : Int32))), .val (.int bb0), .unset, .unset, .unset, .unset, .unset, .unset, .unset] [(.int (((p2.toUInt32 >>> ((2 : Int32) &&& 31).toUInt32).toInt32) &&& (15 : Int32))), (.int p1)])) _
    refine XS.iconst X1.here hx rfl (hb hby at_23) ?_
    show Steps p.tables e below (T1.setTop (mkF m 24 #[.val (.int p1), .val (.int p2), .val (.int ((p2 &&& (3 : Int32)) + (1 : Int32))), .val (.int (((p2.toUInt32 >>> ((2 : Int32) &&& 31).toUInt32).toInt32) &&& (15 : Int32))), .val (.int bb0), .unset, .unset, .unset, .unset, .unset, .unset, .unset] [(.int (1 : Int32)), (.int (((p2.toUInt32 >>> ((2 : Int32) &&& 31).toUInt32).toInt32) &&& (15 : Int32))), (.int p1)])) _
    refine st2 _ ?_
    show Steps p.tables e below (T2.setTop (mkF m 27 #[.val (.int p1), .val (.int p2), .val (.int ((p2 &&& (3 : Int32)) + (1 : Int32))), .val (.int (((p2.toUInt32 >>> ((2 : Int32) &&& 31).toUInt32).toInt32) &&& (15 : Int32))), .val (.int bb0), .unset, .unset, .unset, .unset, .unset, .unset, .unset] [(.int bb1)])) _
    refine XS.istore X2.here hx rfl (hb hby at_27) rfl (l' := #[.val (.int p1), .val (.int p2), .val (.int ((p2 &&& (3 : Int32)) + (1 : Int32))), .val (.int (((p2.toUInt32 >>> ((2 : Int32) &&& 31).toUInt32).toInt32) &&& (15 : Int32))), .val (.int bb0), .val (.int bb1), .unset, .unset, .unset, .unset, .unset, .unset]) rfl ?_
    refine XS.iloadN X2.here hx rfl (hb hby at_29) rfl ?_
    show Steps p.tables e below (T2.setTop (mkF m 30 #[.val (.int p1), .val (.int p2), .val (.int ((p2 &&& (3 : Int32)) + (1 : Int32))), .val (.int (((p2.toUInt32 >>> ((2 : Int32) &&& 31).toUInt32).toInt32) &&& (15 : Int32))), .val (.int bb0), .val (.int bb1), .unset, .unset, .unset, .unset, .unset, .unset] [(.int p1)])) _
    refine XS.iloadN X2.here hx rfl (hb hby at_30) rfl ?_
    refine XS.iconst X2.here hx rfl (hb hby at_31) ?_
    show Steps p.tables e below (T2.setTop (mkF m 32 #[.val (.int p1), .val (.int p2), .val (.int ((p2 &&& (3 : Int32)) + (1 : Int32))), .val (.int (((p2.toUInt32 >>> ((2 : Int32) &&& 31).toUInt32).toInt32) &&& (15 : Int32))), .val (.int bb0), .val (.int bb1), .unset, .unset, .unset, .unset, .unset, .unset] [(.int (2 : Int32)), (.int (((p2.toUInt32 >>> ((2 : Int32) &&& 31).toUInt32).toInt32) &&& (15 : Int32))), (.int p1)])) _
    refine st3 _ ?_
    show Steps p.tables e below (T3.setTop (mkF m 35 #[.val (.int p1), .val (.int p2), .val (.int ((p2 &&& (3 : Int32)) + (1 : Int32))), .val (.int (((p2.toUInt32 >>> ((2 : Int32) &&& 31).toUInt32).toInt32) &&& (15 : Int32))), .val (.int bb0), .val (.int bb1), .unset, .unset, .unset, .unset, .unset, .unset] [(.int bb2)])) _
    refine XS.istore X3.here hx rfl (hb hby at_35) rfl (l' := #[.val (.int p1), .val (.int p2), .val (.int ((p2 &&& (3 : Int32)) + (1 : Int32))), .val (.int (((p2.toUInt32 >>> ((2 : Int32) &&& 31).toUInt32).toInt32) &&& (15 : Int32))), .val (.int bb0), .val (.int bb1), .val (.int bb2), .unset, .unset, .unset, .unset, .unset]) rfl ?_
    show Steps p.tables e below (T3.setTop (mkF m 37 #[.val (.int p1), .val (.int p2), .val (.int ((p2 &&& (3 : Int32)) + (1 : Int32))), .val (.int (((p2.toUInt32 >>> ((2 : Int32) &&& 31).toUInt32).toInt32) &&& (15 : Int32))), .val (.int bb0), .val (.int bb1), .val (.int bb2), .unset, .unset, .unset, .unset, .unset] [])) _
    refine XS.iloadN X3.here hx rfl (hb hby at_37) rfl ?_
    refine XS.iloadN X3.here hx rfl (hb hby at_38) rfl ?_
    refine XS.iconst X3.here hx rfl (hb hby at_39) ?_
    show Steps p.tables e below (T3.setTop (mkF m 40 #[.val (.int p1), .val (.int p2), .val (.int ((p2 &&& (3 : Int32)) + (1 : Int32))), .val (.int (((p2.toUInt32 >>> ((2 : Int32) &&& 31).toUInt32).toInt32) &&& (15 : Int32))), .val (.int bb0), .val (.int bb1), .val (.int bb2), .unset, .unset, .unset, .unset, .unset] [(.int (3 : Int32)), (.int (((p2.toUInt32 >>> ((2 : Int32) &&& 31).toUInt32).toInt32) &&& (15 : Int32))), (.int p1)])) _
    refine st4 _ ?_
    show Steps p.tables e below (T4.setTop (mkF m 43 #[.val (.int p1), .val (.int p2), .val (.int ((p2 &&& (3 : Int32)) + (1 : Int32))), .val (.int (((p2.toUInt32 >>> ((2 : Int32) &&& 31).toUInt32).toInt32) &&& (15 : Int32))), .val (.int bb0), .val (.int bb1), .val (.int bb2), .unset, .unset, .unset, .unset, .unset] [(.int bb3)])) _
    refine XS.istore X4.here hx rfl (hb hby at_43) rfl (l' := #[.val (.int p1), .val (.int p2), .val (.int ((p2 &&& (3 : Int32)) + (1 : Int32))), .val (.int (((p2.toUInt32 >>> ((2 : Int32) &&& 31).toUInt32).toInt32) &&& (15 : Int32))), .val (.int bb0), .val (.int bb1), .val (.int bb2), .val (.int bb3), .unset, .unset, .unset, .unset]) rfl ?_
    exact kt
  by_cases hv6 : ((p2 &&& (3 : Int32)) + (1 : Int32)) = (1 : Int32)
  · rw [hv6] at pre5
    obtain ⟨_, _, ⟨T7, L7, k7, n7⟩, -, X7, ⟨Lc7, hQ7, l7, y7, z7⟩, st7⟩ := Jvm.LawKit.callS X4 hx (y := (⟨"com/example/elliott_bay/elliottbay/store/KeysEndPinLaw", "lastNonFF", "(IBBBB)I"⟩ : MethodName)) hown (mvT hZ (hw _ (List.mem_of_getElem? (i := 4) rfl))) (mvT hZ (hw _ (List.mem_of_getElem? (i := 5) rfl))) (mvT hZ (hw _ (List.mem_of_getElem? (i := 2) rfl))) (mvT hZ (hw _ (List.mem_of_getElem? (i := 6) rfl))) (by decide) (backOf (W := 0) (rm2 l Z a0 hw [] (1 : Int32) bb0 bb1 bb2 bb3  h0 n0 (Nat.le_trans Z0 (Keep.refl h0 []).1)  ) hZ (hw _ (List.mem_of_getElem? (i := 6) rfl)) (hw _ (List.mem_of_getElem? (i := 2) rfl)) (by decide) (by decide)) (g := (mkF m 54 #[.val (.int p1), .val (.int p2), .val (.int (1 : Int32)), .val (.int (((p2.toUInt32 >>> ((2 : Int32) &&& 31).toUInt32).toInt32) &&& (15 : Int32))), .val (.int bb0), .val (.int bb1), .val (.int bb2), .val (.int bb3), .unset, .unset, .unset, .unset] [(.int bb3), (.int bb2), (.int bb1), (.int bb0), (.int (1 : Int32))])) rfl (by rw [hml]; rfl) (argsL := [(.int (1 : Int32)), (.int bb0), (.int bb1), (.int bb2), (.int bb3)]) (rest := []) (lenOf pd3 rfl) rfl (by show 2 * 0 + _ ≤ _; exact Nat.le_of_eq rfl) (hb hby at_54) (fun _ _ => ⟨rfl, e4, (by decide : 0 + 0 ≤ _), (by decide : 0 + 0 ≤ _)⟩)
    dsimp only [Pt.U, Pt.locs, Pt.cells, Pt.slots] at X7 l7 y7 z7 st7 hQ7
    subst l7 y7 z7
    obtain ⟨rfl, rfl, e7⟩ := hQ7
    have N7 := Fr.app N4 (Fr.nil n0)
    have pre8 : ∀ t, Steps p.tables e below (T7.setTop (mkF m 57 #[.val (.int p1), .val (.int p2), .val (.int (1 : Int32)), .val (.int (((p2.toUInt32 >>> ((2 : Int32) &&& 31).toUInt32).toInt32) &&& (15 : Int32))), .val (.int bb0), .val (.int bb1), .val (.int bb2), .val (.int bb3), .unset, .unset, .unset, .unset] [(.int (res2 (1 : Int32) bb0 bb1 bb2 bb3))])) t → Steps p.tables e below (s₁.setTop (entryFrame m #[(.int p1), (.int p2)] maxLocals)) t := by
      intro t kt
      refine pre5 _ ?_
      show Steps p.tables e below (T4.setTop (mkF m 45 #[.val (.int p1), .val (.int p2), .val (.int (1 : Int32)), .val (.int (((p2.toUInt32 >>> ((2 : Int32) &&& 31).toUInt32).toInt32) &&& (15 : Int32))), .val (.int bb0), .val (.int bb1), .val (.int bb2), .val (.int bb3), .unset, .unset, .unset, .unset] [])) _
      refine XS.iloadN X4.here hx rfl (hb hby at_45) rfl ?_
      refine XS.iload X4.here hx rfl (hb hby at_46) rfl ?_
      show Steps p.tables e below (T4.setTop (mkF m 48 #[.val (.int p1), .val (.int p2), .val (.int (1 : Int32)), .val (.int (((p2.toUInt32 >>> ((2 : Int32) &&& 31).toUInt32).toInt32) &&& (15 : Int32))), .val (.int bb0), .val (.int bb1), .val (.int bb2), .val (.int bb3), .unset, .unset, .unset, .unset] [(.int bb0), (.int (1 : Int32))])) _
      refine XS.iload X4.here hx rfl (hb hby at_48) rfl ?_
      refine XS.iload X4.here hx rfl (hb hby at_50) rfl ?_
      refine XS.iload X4.here hx rfl (hb hby at_52) rfl ?_
      show Steps p.tables e below (T4.setTop (mkF m 54 #[.val (.int p1), .val (.int p2), .val (.int (1 : Int32)), .val (.int (((p2.toUInt32 >>> ((2 : Int32) &&& 31).toUInt32).toInt32) &&& (15 : Int32))), .val (.int bb0), .val (.int bb1), .val (.int bb2), .val (.int bb3), .unset, .unset, .unset, .unset] [(.int bb3), (.int bb2), (.int bb1), (.int bb0), (.int (1 : Int32))])) _
      refine st7 _ ?_
      exact kt
    by_cases hv9 : (res2 (1 : Int32) bb0 bb1 bb2 bb3) = (-1 : Int32)
    · rw [hv9] at pre8
      obtain ⟨fs, hr, hrun, hended, hW, hsame⟩ := X7.leave (v := some (.int (1 : Int32))) (fun h => by rw [Bd.returns] at h; cases h)
      refine ⟨_, _, pre8 _ ?_, hrun, hended, _, _, rfl, ?_, ⟨_, rfl⟩, hW, hsame.mono (by decide) (by decide)⟩
      · show Steps p.tables e below (T7.setTop (mkF m 57 #[.val (.int p1), .val (.int p2), .val (.int (1 : Int32)), .val (.int (((p2.toUInt32 >>> ((2 : Int32) &&& 31).toUInt32).toInt32) &&& (15 : Int32))), .val (.int bb0), .val (.int bb1), .val (.int bb2), .val (.int bb3), .unset, .unset, .unset, .unset] [(.int (-1 : Int32))])) _
        refine XS.istore X7.here hx rfl (hb hby at_57) rfl (l' := #[.val (.int p1), .val (.int p2), .val (.int (1 : Int32)), .val (.int (((p2.toUInt32 >>> ((2 : Int32) &&& 31).toUInt32).toInt32) &&& (15 : Int32))), .val (.int bb0), .val (.int bb1), .val (.int bb2), .val (.int bb3), .val (.int (-1 : Int32)), .unset, .unset, .unset]) rfl ?_
        refine XS.iload X7.here hx rfl (hb hby at_59) rfl ?_
        refine XS.ifNo X7.here hx rfl (hb hby at_61) rfl ((if0 _ _).trans (tlt (by decide : (-1 : Int32) < (0 : Int32))).2.1) ?_
        show Steps p.tables e below (T7.setTop (mkF m 64 #[.val (.int p1), .val (.int p2), .val (.int (1 : Int32)), .val (.int (((p2.toUInt32 >>> ((2 : Int32) &&& 31).toUInt32).toInt32) &&& (15 : Int32))), .val (.int bb0), .val (.int bb1), .val (.int bb2), .val (.int bb3), .val (.int (-1 : Int32)), .unset, .unset, .unset] [])) _
        refine XS.iconst X7.here hx rfl (hb hby at_64) ?_
        show Steps p.tables e below (T7.setTop (mkF m 65 #[.val (.int p1), .val (.int p2), .val (.int (1 : Int32)), .val (.int (((p2.toUInt32 >>> ((2 : Int32) &&& 31).toUInt32).toInt32) &&& (15 : Int32))), .val (.int bb0), .val (.int bb1), .val (.int bb2), .val (.int bb3), .val (.int (-1 : Int32)), .unset, .unset, .unset] [(.int (1 : Int32))])) _
        exact retN X7 hx (t := .boolean) Bd.returns (by simp) (hb hby at_65) hr
      · show Q0 Z p1 p2 h0 n0 _ T7.heap _
        rw [e7]
        exact ⟨rfl, N7⟩
    · by_cases hv10 : (res2 (1 : Int32) bb0 bb1 bb2 bb3) = (0 : Int32)
      · rw [hv10] at pre8
        obtain ⟨_, _, ⟨T11, L11, k11, n11⟩, -, X11, ⟨Lc11, hQ11, l11, y11, z11⟩, st11⟩ := Jvm.LawKit.callS X7 hx (y := (⟨"com/example/elliott_bay/elliottbay/store/KeysEndPinLaw", "make", "(IBBBB)[B"⟩ : MethodName)) hown (mvT hZ (hw _ (List.mem_of_getElem? (i := 7) rfl))) (mvT hZ (hw _ (List.mem_of_getElem? (i := 8) rfl))) (mvT hZ (hw _ (List.mem_of_getElem? (i := 2) rfl))) (mvT hZ (hw _ (List.mem_of_getElem? (i := 9) rfl))) (by decide) (backOf (W := 0) (rm_make_1 l Z a0 hw [] bb0 bb1 bb2 bb3  h0 n0 (Nat.le_trans Z0 (Keep.refl h0 []).1)  ) hZ (hw _ (List.mem_of_getElem? (i := 9) rfl)) (hw _ (List.mem_of_getElem? (i := 2) rfl)) (by decide) (by decide)) (g := (mkF m 75 #[.val (.int p1), .val (.int p2), .val (.int (1 : Int32)), .val (.int (((p2.toUInt32 >>> ((2 : Int32) &&& 31).toUInt32).toInt32) &&& (15 : Int32))), .val (.int bb0), .val (.int bb1), .val (.int bb2), .val (.int bb3), .val (.int (0 : Int32)), .unset, .unset, .unset] [(.int bb3), (.int bb2), (.int bb1), (.int bb0), (.int (1 : Int32))])) rfl (by rw [hml]; rfl) (argsL := [(.int (1 : Int32)), (.int bb0), (.int bb1), (.int bb2), (.int bb3)]) (rest := []) (lenOf pd4 rfl) rfl (by show 2 * 0 + _ ≤ _; exact Nat.le_of_eq rfl) (hb hby at_75) (fun _ _ => ⟨rfl, e7, (by decide : 0 + 1 ≤ _), (by decide : 0 + 1 ≤ _)⟩)
        dsimp only [Pt.U, Pt.locs, Pt.cells, Pt.slots] at X11 l11 y11 z11 st11 hQ11
        subst l11 y11 z11
        obtain ⟨b1_11, k1_11, rfl, N11q, K11, s11_b1, f11_0, f11_1⟩ := hQ11
        have N11 := Fr.app N7 N11q
        have sz_b1_11 : h0.size ≤ b1_11 := Nat.le_trans (Keep.refl h0 []).1 s11_b1
        have g_b1_11 : n0 ≤ b1_11 := Nat.le_trans Z0 sz_b1_11
        have KK11 : Keep h0 T11.heap [] := (Keep.refl h0 []).trans K11 all0
        obtain ⟨_, _, ⟨T12, L12, k12, n12⟩, -, X12, ⟨Lc12, hQ12, l12, y12, z12⟩, st12⟩ := Jvm.LawKit.callS X11 hx (y := (⟨"com/example/elliott_bay/elliottbay/store/Keys", "end", "([B)[B"⟩ : MethodName)) hown (mvT hZ (hw _ (List.mem_of_getElem? (i := 11) rfl))) (mvT hZ (hw _ (List.mem_of_getElem? (i := 12) rfl))) (mvT hZ (hw _ (List.mem_of_getElem? (i := 13) rfl))) (mvT hZ (hw _ (List.mem_of_getElem? (i := 14) rfl))) (by decide) (backOf (W := 0) (rm_end_1_0 l Z a0 hw [] b1_11 k1_11 (nar .byte bb0) T11.heap n0 (Nat.le_trans Z0 KK11.1) f11_0 f11_1 ((own_l_1_0 e_bb0 e_bb1 e_bb2 e_bb3 hv10) : ¬ ((nar .byte bb0) = (-1 : Int32)))) hZ (hw _ (List.mem_of_getElem? (i := 14) rfl)) (hw _ (List.mem_of_getElem? (i := 13) rfl)) (by decide) (by decide)) (g := (mkF m 82 #[.val (.int p1), .val (.int p2), .val (.int (1 : Int32)), .val (.int (((p2.toUInt32 >>> ((2 : Int32) &&& 31).toUInt32).toInt32) &&& (15 : Int32))), .val (.int bb0), .val (.int bb1), .val (.int bb2), .val (.int bb3), .val (.int (0 : Int32)), .val (.ref b1_11), .unset, .unset] [(.ref b1_11)])) rfl (by rw [hml]; rfl) (argsL := [(.ref b1_11)]) (rest := []) (lenOf pd5 rfl) rfl (by show 2 * 0 + _ ≤ _; exact Nat.le_of_eq rfl) (hb hby at_82) (fun _ _ => ⟨rfl, rfl, (by decide : 1 + 1 ≤ _), (by decide : 1 + 1 ≤ _)⟩)
        dsimp only [Pt.U, Pt.locs, Pt.cells, Pt.slots] at X12 l12 y12 z12 st12 hQ12
        subst l12 y12 z12
        obtain ⟨b2_3_12, rfl, N12q, K12, s12_b2_3, f12_0, f12_1⟩ := hQ12
        have N12 := Fr.app N11 N12q
        have sz_b2_3_12 : h0.size ≤ b2_3_12 := Nat.le_trans KK11.1 s12_b2_3
        have g_b2_3_12 : n0 ≤ b2_3_12 := Nat.le_trans Z0 sz_b2_3_12
        have KK12 : Keep h0 T12.heap [] := KK11.trans K12 all0
        obtain ⟨cl_b2_3_12_89_13, Ar_b2_3_12_89_13, -, S_b2_3_12_89_13, N_b2_3_12_89_13, -, -⟩ := id f12_0
        obtain ⟨cl_b2_3_12_102_14, Ar_b2_3_12_102_14, q_b2_3_12_102_14, S_b2_3_12_102_14, N_b2_3_12_102_14, H_b2_3_12_102_14, G_b2_3_12_102_14⟩ := id f12_0
        have hin_b2_3_12_102_14 : ¬ ((0 : Int32) < 0 ∨ cl_b2_3_12_102_14.slots.size ≤ ((0 : Int32) : Int32).toNatClampNeg) := inb_of S_b2_3_12_102_14 ⟨by decide, by decide⟩
        obtain ⟨cl_b1_11_248_15, Ar_b1_11_248_15, q_b1_11_248_15, S_b1_11_248_15, N_b1_11_248_15, H_b1_11_248_15, G_b1_11_248_15⟩ := id (f11_0.keep K12 nin0)
        have hin_b1_11_248_15 : ¬ ((0 : Int32) < 0 ∨ cl_b1_11_248_15.slots.size ≤ ((0 : Int32) : Int32).toNatClampNeg) := inb_of S_b1_11_248_15 ⟨by decide, by decide⟩
        obtain ⟨fs, hr, hrun, hended, hW, hsame⟩ := X12.leave (v := some (.int (1 : Int32))) (fun h => by rw [Bd.returns] at h; cases h)
        refine ⟨_, _, pre8 _ ?_, hrun, hended, _, _, rfl, ?_, ⟨_, rfl⟩, hW, hsame.mono (by decide) (by decide)⟩
        · show Steps p.tables e below (T7.setTop (mkF m 57 #[.val (.int p1), .val (.int p2), .val (.int (1 : Int32)), .val (.int (((p2.toUInt32 >>> ((2 : Int32) &&& 31).toUInt32).toInt32) &&& (15 : Int32))), .val (.int bb0), .val (.int bb1), .val (.int bb2), .val (.int bb3), .unset, .unset, .unset, .unset] [(.int (0 : Int32))])) _
          refine XS.istore X7.here hx rfl (hb hby at_57) rfl (l' := #[.val (.int p1), .val (.int p2), .val (.int (1 : Int32)), .val (.int (((p2.toUInt32 >>> ((2 : Int32) &&& 31).toUInt32).toInt32) &&& (15 : Int32))), .val (.int bb0), .val (.int bb1), .val (.int bb2), .val (.int bb3), .val (.int (0 : Int32)), .unset, .unset, .unset]) rfl ?_
          refine XS.iload X7.here hx rfl (hb hby at_59) rfl ?_
          refine XS.ifYes X7.here hx rfl (pc0 := 61) (pc' := 66) rfl (hb hby at_61) rfl ((if0 _ _).trans (flt (by decide : ¬ ((0 : Int32) < (0 : Int32)))).2.1) (by decide) (by decide) ?_
          show Steps p.tables e below (T7.setTop (mkF m 66 #[.val (.int p1), .val (.int p2), .val (.int (1 : Int32)), .val (.int (((p2.toUInt32 >>> ((2 : Int32) &&& 31).toUInt32).toInt32) &&& (15 : Int32))), .val (.int bb0), .val (.int bb1), .val (.int bb2), .val (.int bb3), .val (.int (0 : Int32)), .unset, .unset, .unset] [])) _
          refine XS.iloadN X7.here hx rfl (hb hby at_66) rfl ?_
          refine XS.iload X7.here hx rfl (hb hby at_67) rfl ?_
          refine XS.iload X7.here hx rfl (hb hby at_69) rfl ?_
          show Steps p.tables e below (T7.setTop (mkF m 71 #[.val (.int p1), .val (.int p2), .val (.int (1 : Int32)), .val (.int (((p2.toUInt32 >>> ((2 : Int32) &&& 31).toUInt32).toInt32) &&& (15 : Int32))), .val (.int bb0), .val (.int bb1), .val (.int bb2), .val (.int bb3), .val (.int (0 : Int32)), .unset, .unset, .unset] [(.int bb1), (.int bb0), (.int (1 : Int32))])) _
          refine XS.iload X7.here hx rfl (hb hby at_71) rfl ?_
          refine XS.iload X7.here hx rfl (hb hby at_73) rfl ?_
          show Steps p.tables e below (T7.setTop (mkF m 75 #[.val (.int p1), .val (.int p2), .val (.int (1 : Int32)), .val (.int (((p2.toUInt32 >>> ((2 : Int32) &&& 31).toUInt32).toInt32) &&& (15 : Int32))), .val (.int bb0), .val (.int bb1), .val (.int bb2), .val (.int bb3), .val (.int (0 : Int32)), .unset, .unset, .unset] [(.int bb3), (.int bb2), (.int bb1), (.int bb0), (.int (1 : Int32))])) _
          refine st11 _ ?_
          show Steps p.tables e below (T11.setTop (mkF m 78 #[.val (.int p1), .val (.int p2), .val (.int (1 : Int32)), .val (.int (((p2.toUInt32 >>> ((2 : Int32) &&& 31).toUInt32).toInt32) &&& (15 : Int32))), .val (.int bb0), .val (.int bb1), .val (.int bb2), .val (.int bb3), .val (.int (0 : Int32)), .unset, .unset, .unset] [(.ref b1_11)])) _
          refine XS.astore X11.here hx rfl (hb hby at_78) rfl rfl (l' := #[.val (.int p1), .val (.int p2), .val (.int (1 : Int32)), .val (.int (((p2.toUInt32 >>> ((2 : Int32) &&& 31).toUInt32).toInt32) &&& (15 : Int32))), .val (.int bb0), .val (.int bb1), .val (.int bb2), .val (.int bb3), .val (.int (0 : Int32)), .val (.ref b1_11), .unset, .unset]) rfl ?_
          show Steps p.tables e below (T11.setTop (mkF m 80 #[.val (.int p1), .val (.int p2), .val (.int (1 : Int32)), .val (.int (((p2.toUInt32 >>> ((2 : Int32) &&& 31).toUInt32).toInt32) &&& (15 : Int32))), .val (.int bb0), .val (.int bb1), .val (.int bb2), .val (.int bb3), .val (.int (0 : Int32)), .val (.ref b1_11), .unset, .unset] [])) _
          refine XS.aload X11.here hx rfl (hb hby at_80) rfl rfl ?_
          show Steps p.tables e below (T11.setTop (mkF m 82 #[.val (.int p1), .val (.int p2), .val (.int (1 : Int32)), .val (.int (((p2.toUInt32 >>> ((2 : Int32) &&& 31).toUInt32).toInt32) &&& (15 : Int32))), .val (.int bb0), .val (.int bb1), .val (.int bb2), .val (.int bb3), .val (.int (0 : Int32)), .val (.ref b1_11), .unset, .unset] [(.ref b1_11)])) _
          refine st12 _ ?_
          show Steps p.tables e below (T12.setTop (mkF m 85 #[.val (.int p1), .val (.int p2), .val (.int (1 : Int32)), .val (.int (((p2.toUInt32 >>> ((2 : Int32) &&& 31).toUInt32).toInt32) &&& (15 : Int32))), .val (.int bb0), .val (.int bb1), .val (.int bb2), .val (.int bb3), .val (.int (0 : Int32)), .val (.ref b1_11), .unset, .unset] [(.ref b2_3_12)])) _
          refine XS.astore X12.here hx rfl (hb hby at_85) rfl rfl (l' := #[.val (.int p1), .val (.int p2), .val (.int (1 : Int32)), .val (.int (((p2.toUInt32 >>> ((2 : Int32) &&& 31).toUInt32).toInt32) &&& (15 : Int32))), .val (.int bb0), .val (.int bb1), .val (.int bb2), .val (.int bb3), .val (.int (0 : Int32)), .val (.ref b1_11), .val (.ref b2_3_12), .unset]) rfl ?_
          refine XS.aload X12.here hx rfl (hb hby at_87) rfl rfl ?_
          show Steps p.tables e below (T12.setTop (mkF m 89 #[.val (.int p1), .val (.int p2), .val (.int (1 : Int32)), .val (.int (((p2.toUInt32 >>> ((2 : Int32) &&& 31).toUInt32).toInt32) &&& (15 : Int32))), .val (.int bb0), .val (.int bb1), .val (.int bb2), .val (.int bb3), .val (.int (0 : Int32)), .val (.ref b1_11), .val (.ref b2_3_12), .unset] [(.ref b2_3_12)])) _
          refine X12.arraylength hx (by exact Ar_b2_3_12_89_13.1) (State.isArrayOf_alike hZ.alike Ar_b2_3_12_89_13.2.1) (g := (mkF m 89 #[.val (.int p1), .val (.int p2), .val (.int (1 : Int32)), .val (.int (((p2.toUInt32 >>> ((2 : Int32) &&& 31).toUInt32).toInt32) &&& (15 : Int32))), .val (.int bb0), .val (.int bb1), .val (.int bb2), .val (.int bb3), .val (.int (0 : Int32)), .val (.ref b1_11), .val (.ref b2_3_12), .unset] [(.ref b2_3_12)])) rfl rfl (hb hby at_89) _ ?_
          rw [len_of S_b2_3_12_89_13 N_b2_3_12_89_13]
          show Steps p.tables e below (T12.setTop (mkF m 90 #[.val (.int p1), .val (.int p2), .val (.int (1 : Int32)), .val (.int (((p2.toUInt32 >>> ((2 : Int32) &&& 31).toUInt32).toInt32) &&& (15 : Int32))), .val (.int bb0), .val (.int bb1), .val (.int bb2), .val (.int bb3), .val (.int (0 : Int32)), .val (.ref b1_11), .val (.ref b2_3_12), .unset] [(.int (1 : Int32))])) _
          refine XS.iload X12.here hx rfl (hb hby at_90) rfl ?_
          refine XS.iconst X12.here hx rfl (hb hby at_92) ?_
          show Steps p.tables e below (T12.setTop (mkF m 93 #[.val (.int p1), .val (.int p2), .val (.int (1 : Int32)), .val (.int (((p2.toUInt32 >>> ((2 : Int32) &&& 31).toUInt32).toInt32) &&& (15 : Int32))), .val (.int bb0), .val (.int bb1), .val (.int bb2), .val (.int bb3), .val (.int (0 : Int32)), .val (.ref b1_11), .val (.ref b2_3_12), .unset] [(.int (1 : Int32)), (.int (0 : Int32)), (.int (1 : Int32))])) _
          refine XS.iadd X12.here hx rfl (hb hby at_93) rfl ?_
          refine XS.icmpYes X12.here hx rfl (pc0 := 94) (pc' := 99) rfl (hb hby at_94) rfl (teq (by decide : (1 : Int32) = (1 : Int32))).1 (by decide) (by decide) ?_
          refine XS.aload X12.here hx rfl (hb hby at_99) rfl rfl ?_
          show Steps p.tables e below (T12.setTop (mkF m 101 #[.val (.int p1), .val (.int p2), .val (.int (1 : Int32)), .val (.int (((p2.toUInt32 >>> ((2 : Int32) &&& 31).toUInt32).toInt32) &&& (15 : Int32))), .val (.int bb0), .val (.int bb1), .val (.int bb2), .val (.int bb3), .val (.int (0 : Int32)), .val (.ref b1_11), .val (.ref b2_3_12), .unset] [(.ref b2_3_12)])) _
          refine XS.iconst X12.here hx rfl (hb hby at_101) ?_
          refine X12.baloadBytes hx (j := (0 : Int32)) (v := (.int (nar .byte (((nar .byte bb0) + (1 : Int32)).toInt8.toInt32)))) (by exact Ar_b2_3_12_102_14.1) (State.isArrayOf_alike hZ.alike Ar_b2_3_12_102_14.2.1) Ar_b2_3_12_102_14.2.2 hin_b2_3_12_102_14 (H_b2_3_12_102_14.at hin_b2_3_12_102_14 rfl) (g := (mkF m 102 #[.val (.int p1), .val (.int p2), .val (.int (1 : Int32)), .val (.int (((p2.toUInt32 >>> ((2 : Int32) &&& 31).toUInt32).toInt32) &&& (15 : Int32))), .val (.int bb0), .val (.int bb1), .val (.int bb2), .val (.int bb3), .val (.int (0 : Int32)), .val (.ref b1_11), .val (.ref b2_3_12), .unset] [(.int (0 : Int32)), (.ref b2_3_12)])) rfl rfl (hb hby at_102) _ ?_
          show Steps p.tables e below (T12.setTop (mkF m 103 #[.val (.int p1), .val (.int p2), .val (.int (1 : Int32)), .val (.int (((p2.toUInt32 >>> ((2 : Int32) &&& 31).toUInt32).toInt32) &&& (15 : Int32))), .val (.int bb0), .val (.int bb1), .val (.int bb2), .val (.int bb3), .val (.int (0 : Int32)), .val (.ref b1_11), .val (.ref b2_3_12), .unset] [(.int (nar .byte (((nar .byte bb0) + (1 : Int32)).toInt8.toInt32)))])) _
          refine XS.iload X12.here hx rfl (hb hby at_103) rfl ?_
          show Steps p.tables e below (T12.setTop (mkF m 105 #[.val (.int p1), .val (.int p2), .val (.int (1 : Int32)), .val (.int (((p2.toUInt32 >>> ((2 : Int32) &&& 31).toUInt32).toInt32) &&& (15 : Int32))), .val (.int bb0), .val (.int bb1), .val (.int bb2), .val (.int bb3), .val (.int (0 : Int32)), .val (.ref b1_11), .val (.ref b2_3_12), .unset] [(.int (0 : Int32)), (.int (nar .byte (((nar .byte bb0) + (1 : Int32)).toInt8.toInt32)))])) _
          refine XS.ifNo X12.here hx rfl (hb hby at_105) rfl ((if0 _ _).trans (teq (by decide : (0 : Int32) = (0 : Int32))).2) ?_
          refine XS.iload X12.here hx rfl (hb hby at_108) rfl ?_
          refine XS.iconst X12.here hx rfl (hb hby at_110) ?_
          show Steps p.tables e below (T12.setTop (mkF m 111 #[.val (.int p1), .val (.int p2), .val (.int (1 : Int32)), .val (.int (((p2.toUInt32 >>> ((2 : Int32) &&& 31).toUInt32).toInt32) &&& (15 : Int32))), .val (.int bb0), .val (.int bb1), .val (.int bb2), .val (.int bb3), .val (.int (0 : Int32)), .val (.ref b1_11), .val (.ref b2_3_12), .unset] [(.int (1 : Int32)), (.int bb0), (.int (nar .byte (((nar .byte bb0) + (1 : Int32)).toInt8.toInt32)))])) _
          refine XS.iadd X12.here hx rfl (hb hby at_111) rfl ?_
          refine XS.i2b X12.here hx rfl (hb hby at_112) rfl ?_
          refine XS.goto X12.here hx rfl (pc0 := 113) (pc' := 118) rfl (hb hby at_113) (by decide) (by decide) ?_
          show Steps p.tables e below (T12.setTop (mkF m 118 #[.val (.int p1), .val (.int p2), .val (.int (1 : Int32)), .val (.int (((p2.toUInt32 >>> ((2 : Int32) &&& 31).toUInt32).toInt32) &&& (15 : Int32))), .val (.int bb0), .val (.int bb1), .val (.int bb2), .val (.int bb3), .val (.int (0 : Int32)), .val (.ref b1_11), .val (.ref b2_3_12), .unset] [(.int ((bb0 + (1 : Int32)).toInt8.toInt32)), (.int (nar .byte (((nar .byte bb0) + (1 : Int32)).toInt8.toInt32)))])) _
          refine XS.icmpNo X12.here hx rfl (hb hby at_118) rfl (teq (by simp only [e_bb0, e_bb1, e_bb2, e_bb3, own_narb] : (nar .byte (((nar .byte bb0) + (1 : Int32)).toInt8.toInt32)) = ((bb0 + (1 : Int32)).toInt8.toInt32))).2 ?_
          refine XS.iconst X12.here hx rfl (hb hby at_121) ?_
          refine XS.goto X12.here hx rfl (pc0 := 122) (pc' := 126) rfl (hb hby at_122) (by decide) (by decide) ?_
          show Steps p.tables e below (T12.setTop (mkF m 126 #[.val (.int p1), .val (.int p2), .val (.int (1 : Int32)), .val (.int (((p2.toUInt32 >>> ((2 : Int32) &&& 31).toUInt32).toInt32) &&& (15 : Int32))), .val (.int bb0), .val (.int bb1), .val (.int bb2), .val (.int bb3), .val (.int (0 : Int32)), .val (.ref b1_11), .val (.ref b2_3_12), .unset] [(.int (1 : Int32))])) _
          refine XS.istore X12.here hx rfl (hb hby at_126) rfl (l' := #[.val (.int p1), .val (.int p2), .val (.int (1 : Int32)), .val (.int (((p2.toUInt32 >>> ((2 : Int32) &&& 31).toUInt32).toInt32) &&& (15 : Int32))), .val (.int bb0), .val (.int bb1), .val (.int bb2), .val (.int bb3), .val (.int (0 : Int32)), .val (.ref b1_11), .val (.ref b2_3_12), .val (.int (1 : Int32))]) rfl ?_
          refine XS.iload X12.here hx rfl (hb hby at_128) rfl ?_
          refine XS.iconst X12.here hx rfl (hb hby at_130) ?_
          show Steps p.tables e below (T12.setTop (mkF m 131 #[.val (.int p1), .val (.int p2), .val (.int (1 : Int32)), .val (.int (((p2.toUInt32 >>> ((2 : Int32) &&& 31).toUInt32).toInt32) &&& (15 : Int32))), .val (.int bb0), .val (.int bb1), .val (.int bb2), .val (.int bb3), .val (.int (0 : Int32)), .val (.ref b1_11), .val (.ref b2_3_12), .val (.int (1 : Int32))] [(.int (1 : Int32)), (.int (0 : Int32))])) _
          refine XS.icmpYes X12.here hx rfl (pc0 := 131) (pc' := 169) rfl (hb hby at_131) rfl (tlt (by decide : (0 : Int32) < (1 : Int32))).1 (by decide) (by decide) ?_
          refine XS.iload X12.here hx rfl (hb hby at_169) rfl ?_
          refine XS.iconst X12.here hx rfl (hb hby at_171) ?_
          show Steps p.tables e below (T12.setTop (mkF m 172 #[.val (.int p1), .val (.int p2), .val (.int (1 : Int32)), .val (.int (((p2.toUInt32 >>> ((2 : Int32) &&& 31).toUInt32).toInt32) &&& (15 : Int32))), .val (.int bb0), .val (.int bb1), .val (.int bb2), .val (.int bb3), .val (.int (0 : Int32)), .val (.ref b1_11), .val (.ref b2_3_12), .val (.int (1 : Int32))] [(.int (2 : Int32)), (.int (0 : Int32))])) _
          refine XS.icmpYes X12.here hx rfl (pc0 := 172) (pc' := 210) rfl (hb hby at_172) rfl (tlt (by decide : (0 : Int32) < (2 : Int32))).1 (by decide) (by decide) ?_
          refine XS.iload X12.here hx rfl (hb hby at_210) rfl ?_
          refine XS.iconst X12.here hx rfl (hb hby at_212) ?_
          show Steps p.tables e below (T12.setTop (mkF m 213 #[.val (.int p1), .val (.int p2), .val (.int (1 : Int32)), .val (.int (((p2.toUInt32 >>> ((2 : Int32) &&& 31).toUInt32).toInt32) &&& (15 : Int32))), .val (.int bb0), .val (.int bb1), .val (.int bb2), .val (.int bb3), .val (.int (0 : Int32)), .val (.ref b1_11), .val (.ref b2_3_12), .val (.int (1 : Int32))] [(.int (3 : Int32)), (.int (0 : Int32))])) _
          refine XS.icmpYes X12.here hx rfl (pc0 := 213) (pc' := 240) rfl (hb hby at_213) rfl (tlt (by decide : (0 : Int32) < (3 : Int32))).1 (by decide) (by decide) ?_
          refine XS.iload X12.here hx rfl (hb hby at_240) rfl ?_
          refine XS.ifNo X12.here hx rfl (hb hby at_242) rfl ((if0 _ _).trans (feq (by decide : ¬ ((1 : Int32) = (0 : Int32)))).1) ?_
          show Steps p.tables e below (T12.setTop (mkF m 245 #[.val (.int p1), .val (.int p2), .val (.int (1 : Int32)), .val (.int (((p2.toUInt32 >>> ((2 : Int32) &&& 31).toUInt32).toInt32) &&& (15 : Int32))), .val (.int bb0), .val (.int bb1), .val (.int bb2), .val (.int bb3), .val (.int (0 : Int32)), .val (.ref b1_11), .val (.ref b2_3_12), .val (.int (1 : Int32))] [])) _
          refine XS.aload X12.here hx rfl (hb hby at_245) rfl rfl ?_
          refine XS.iconst X12.here hx rfl (hb hby at_247) ?_
          refine X12.baloadBytes hx (j := (0 : Int32)) (v := (.int (nar .byte bb0))) (by exact Ar_b1_11_248_15.1) (State.isArrayOf_alike hZ.alike Ar_b1_11_248_15.2.1) Ar_b1_11_248_15.2.2 hin_b1_11_248_15 (H_b1_11_248_15.at hin_b1_11_248_15 rfl) (g := (mkF m 248 #[.val (.int p1), .val (.int p2), .val (.int (1 : Int32)), .val (.int (((p2.toUInt32 >>> ((2 : Int32) &&& 31).toUInt32).toInt32) &&& (15 : Int32))), .val (.int bb0), .val (.int bb1), .val (.int bb2), .val (.int bb3), .val (.int (0 : Int32)), .val (.ref b1_11), .val (.ref b2_3_12), .val (.int (1 : Int32))] [(.int (0 : Int32)), (.ref b1_11)])) rfl rfl (hb hby at_248) _ ?_
          show Steps p.tables e below (T12.setTop (mkF m 249 #[.val (.int p1), .val (.int p2), .val (.int (1 : Int32)), .val (.int (((p2.toUInt32 >>> ((2 : Int32) &&& 31).toUInt32).toInt32) &&& (15 : Int32))), .val (.int bb0), .val (.int bb1), .val (.int bb2), .val (.int bb3), .val (.int (0 : Int32)), .val (.ref b1_11), .val (.ref b2_3_12), .val (.int (1 : Int32))] [(.int (nar .byte bb0))])) _
          refine XS.iload X12.here hx rfl (hb hby at_249) rfl ?_
          refine XS.icmpNo X12.here hx rfl (hb hby at_251) rfl (teq (by simp only [e_bb0, e_bb1, e_bb2, e_bb3, own_narb] : (nar .byte bb0) = bb0)).2 ?_
          refine XS.iconst X12.here hx rfl (hb hby at_254) ?_
          show Steps p.tables e below (T12.setTop (mkF m 255 #[.val (.int p1), .val (.int p2), .val (.int (1 : Int32)), .val (.int (((p2.toUInt32 >>> ((2 : Int32) &&& 31).toUInt32).toInt32) &&& (15 : Int32))), .val (.int bb0), .val (.int bb1), .val (.int bb2), .val (.int bb3), .val (.int (0 : Int32)), .val (.ref b1_11), .val (.ref b2_3_12), .val (.int (1 : Int32))] [(.int (1 : Int32))])) _
          refine XS.goto X12.here hx rfl (pc0 := 255) (pc' := 259) rfl (hb hby at_255) (by decide) (by decide) ?_
          refine XS.istore X12.here hx rfl (hb hby at_259) rfl (l' := #[.val (.int p1), .val (.int p2), .val (.int (1 : Int32)), .val (.int (((p2.toUInt32 >>> ((2 : Int32) &&& 31).toUInt32).toInt32) &&& (15 : Int32))), .val (.int bb0), .val (.int bb1), .val (.int bb2), .val (.int bb3), .val (.int (0 : Int32)), .val (.ref b1_11), .val (.ref b2_3_12), .val (.int (1 : Int32))]) rfl ?_
          refine XS.iloadN X12.here hx rfl (hb hby at_261) rfl ?_
          show Steps p.tables e below (T12.setTop (mkF m 262 #[.val (.int p1), .val (.int p2), .val (.int (1 : Int32)), .val (.int (((p2.toUInt32 >>> ((2 : Int32) &&& 31).toUInt32).toInt32) &&& (15 : Int32))), .val (.int bb0), .val (.int bb1), .val (.int bb2), .val (.int bb3), .val (.int (0 : Int32)), .val (.ref b1_11), .val (.ref b2_3_12), .val (.int (1 : Int32))] [(.int (1 : Int32))])) _
          refine XS.iconst X12.here hx rfl (hb hby at_262) ?_
          refine XS.icmpYes X12.here hx rfl (pc0 := 263) (pc' := 287) rfl (hb hby at_263) rfl (tlt (by decide : (1 : Int32) < (2 : Int32))).1 (by decide) (by decide) ?_
          refine XS.iloadN X12.here hx rfl (hb hby at_287) rfl ?_
          show Steps p.tables e below (T12.setTop (mkF m 288 #[.val (.int p1), .val (.int p2), .val (.int (1 : Int32)), .val (.int (((p2.toUInt32 >>> ((2 : Int32) &&& 31).toUInt32).toInt32) &&& (15 : Int32))), .val (.int bb0), .val (.int bb1), .val (.int bb2), .val (.int bb3), .val (.int (0 : Int32)), .val (.ref b1_11), .val (.ref b2_3_12), .val (.int (1 : Int32))] [(.int (1 : Int32))])) _
          refine XS.iconst X12.here hx rfl (hb hby at_288) ?_
          refine XS.icmpYes X12.here hx rfl (pc0 := 289) (pc' := 313) rfl (hb hby at_289) rfl (tlt (by decide : (1 : Int32) < (3 : Int32))).1 (by decide) (by decide) ?_
          refine XS.iloadN X12.here hx rfl (hb hby at_313) rfl ?_
          show Steps p.tables e below (T12.setTop (mkF m 314 #[.val (.int p1), .val (.int p2), .val (.int (1 : Int32)), .val (.int (((p2.toUInt32 >>> ((2 : Int32) &&& 31).toUInt32).toInt32) &&& (15 : Int32))), .val (.int bb0), .val (.int bb1), .val (.int bb2), .val (.int bb3), .val (.int (0 : Int32)), .val (.ref b1_11), .val (.ref b2_3_12), .val (.int (1 : Int32))] [(.int (1 : Int32))])) _
          refine XS.iconst X12.here hx rfl (hb hby at_314) ?_
          refine XS.icmpYes X12.here hx rfl (pc0 := 315) (pc' := 339) rfl (hb hby at_315) rfl (tlt (by decide : (1 : Int32) < (4 : Int32))).1 (by decide) (by decide) ?_
          refine XS.iload X12.here hx rfl (hb hby at_339) rfl ?_
          show Steps p.tables e below (T12.setTop (mkF m 341 #[.val (.int p1), .val (.int p2), .val (.int (1 : Int32)), .val (.int (((p2.toUInt32 >>> ((2 : Int32) &&& 31).toUInt32).toInt32) &&& (15 : Int32))), .val (.int bb0), .val (.int bb1), .val (.int bb2), .val (.int bb3), .val (.int (0 : Int32)), .val (.ref b1_11), .val (.ref b2_3_12), .val (.int (1 : Int32))] [(.int (1 : Int32))])) _
          exact retN X12 hx (t := .boolean) Bd.returns (by simp) (hb hby at_341) hr
        · show Q0 Z p1 p2 h0 n0 _ T12.heap _
          exact ⟨rfl, N12⟩
      · exfalso
        rcases (own_k1 bb0 bb1 bb2 bb3) with h | h
        · exact hv9 h
        · exact hv10 h
  · by_cases hv16 : ((p2 &&& (3 : Int32)) + (1 : Int32)) = (2 : Int32)
    · rw [hv16] at pre5
      obtain ⟨_, _, ⟨T17, L17, k17, n17⟩, -, X17, ⟨Lc17, hQ17, l17, y17, z17⟩, st17⟩ := Jvm.LawKit.callS X4 hx (y := (⟨"com/example/elliott_bay/elliottbay/store/KeysEndPinLaw", "lastNonFF", "(IBBBB)I"⟩ : MethodName)) hown (mvT hZ (hw _ (List.mem_of_getElem? (i := 4) rfl))) (mvT hZ (hw _ (List.mem_of_getElem? (i := 5) rfl))) (mvT hZ (hw _ (List.mem_of_getElem? (i := 2) rfl))) (mvT hZ (hw _ (List.mem_of_getElem? (i := 6) rfl))) (by decide) (backOf (W := 0) (rm2 l Z a0 hw [] (2 : Int32) bb0 bb1 bb2 bb3  h0 n0 (Nat.le_trans Z0 (Keep.refl h0 []).1)  ) hZ (hw _ (List.mem_of_getElem? (i := 6) rfl)) (hw _ (List.mem_of_getElem? (i := 2) rfl)) (by decide) (by decide)) (g := (mkF m 54 #[.val (.int p1), .val (.int p2), .val (.int (2 : Int32)), .val (.int (((p2.toUInt32 >>> ((2 : Int32) &&& 31).toUInt32).toInt32) &&& (15 : Int32))), .val (.int bb0), .val (.int bb1), .val (.int bb2), .val (.int bb3), .unset, .unset, .unset, .unset] [(.int bb3), (.int bb2), (.int bb1), (.int bb0), (.int (2 : Int32))])) rfl (by rw [hml]; rfl) (argsL := [(.int (2 : Int32)), (.int bb0), (.int bb1), (.int bb2), (.int bb3)]) (rest := []) (lenOf pd3 rfl) rfl (by show 2 * 0 + _ ≤ _; exact Nat.le_of_eq rfl) (hb hby at_54) (fun _ _ => ⟨rfl, e4, (by decide : 0 + 0 ≤ _), (by decide : 0 + 0 ≤ _)⟩)
      dsimp only [Pt.U, Pt.locs, Pt.cells, Pt.slots] at X17 l17 y17 z17 st17 hQ17
      subst l17 y17 z17
      obtain ⟨rfl, rfl, e17⟩ := hQ17
      have N17 := Fr.app N4 (Fr.nil n0)
      have pre18 : ∀ t, Steps p.tables e below (T17.setTop (mkF m 57 #[.val (.int p1), .val (.int p2), .val (.int (2 : Int32)), .val (.int (((p2.toUInt32 >>> ((2 : Int32) &&& 31).toUInt32).toInt32) &&& (15 : Int32))), .val (.int bb0), .val (.int bb1), .val (.int bb2), .val (.int bb3), .unset, .unset, .unset, .unset] [(.int (res2 (2 : Int32) bb0 bb1 bb2 bb3))])) t → Steps p.tables e below (s₁.setTop (entryFrame m #[(.int p1), (.int p2)] maxLocals)) t := by
        intro t kt
        refine pre5 _ ?_
        show Steps p.tables e below (T4.setTop (mkF m 45 #[.val (.int p1), .val (.int p2), .val (.int (2 : Int32)), .val (.int (((p2.toUInt32 >>> ((2 : Int32) &&& 31).toUInt32).toInt32) &&& (15 : Int32))), .val (.int bb0), .val (.int bb1), .val (.int bb2), .val (.int bb3), .unset, .unset, .unset, .unset] [])) _
        refine XS.iloadN X4.here hx rfl (hb hby at_45) rfl ?_
        refine XS.iload X4.here hx rfl (hb hby at_46) rfl ?_
        show Steps p.tables e below (T4.setTop (mkF m 48 #[.val (.int p1), .val (.int p2), .val (.int (2 : Int32)), .val (.int (((p2.toUInt32 >>> ((2 : Int32) &&& 31).toUInt32).toInt32) &&& (15 : Int32))), .val (.int bb0), .val (.int bb1), .val (.int bb2), .val (.int bb3), .unset, .unset, .unset, .unset] [(.int bb0), (.int (2 : Int32))])) _
        refine XS.iload X4.here hx rfl (hb hby at_48) rfl ?_
        refine XS.iload X4.here hx rfl (hb hby at_50) rfl ?_
        refine XS.iload X4.here hx rfl (hb hby at_52) rfl ?_
        show Steps p.tables e below (T4.setTop (mkF m 54 #[.val (.int p1), .val (.int p2), .val (.int (2 : Int32)), .val (.int (((p2.toUInt32 >>> ((2 : Int32) &&& 31).toUInt32).toInt32) &&& (15 : Int32))), .val (.int bb0), .val (.int bb1), .val (.int bb2), .val (.int bb3), .unset, .unset, .unset, .unset] [(.int bb3), (.int bb2), (.int bb1), (.int bb0), (.int (2 : Int32))])) _
        refine st17 _ ?_
        exact kt
      by_cases hv19 : (res2 (2 : Int32) bb0 bb1 bb2 bb3) = (-1 : Int32)
      · rw [hv19] at pre18
        obtain ⟨fs, hr, hrun, hended, hW, hsame⟩ := X17.leave (v := some (.int (1 : Int32))) (fun h => by rw [Bd.returns] at h; cases h)
        refine ⟨_, _, pre18 _ ?_, hrun, hended, _, _, rfl, ?_, ⟨_, rfl⟩, hW, hsame.mono (by decide) (by decide)⟩
        · show Steps p.tables e below (T17.setTop (mkF m 57 #[.val (.int p1), .val (.int p2), .val (.int (2 : Int32)), .val (.int (((p2.toUInt32 >>> ((2 : Int32) &&& 31).toUInt32).toInt32) &&& (15 : Int32))), .val (.int bb0), .val (.int bb1), .val (.int bb2), .val (.int bb3), .unset, .unset, .unset, .unset] [(.int (-1 : Int32))])) _
          refine XS.istore X17.here hx rfl (hb hby at_57) rfl (l' := #[.val (.int p1), .val (.int p2), .val (.int (2 : Int32)), .val (.int (((p2.toUInt32 >>> ((2 : Int32) &&& 31).toUInt32).toInt32) &&& (15 : Int32))), .val (.int bb0), .val (.int bb1), .val (.int bb2), .val (.int bb3), .val (.int (-1 : Int32)), .unset, .unset, .unset]) rfl ?_
          refine XS.iload X17.here hx rfl (hb hby at_59) rfl ?_
          refine XS.ifNo X17.here hx rfl (hb hby at_61) rfl ((if0 _ _).trans (tlt (by decide : (-1 : Int32) < (0 : Int32))).2.1) ?_
          show Steps p.tables e below (T17.setTop (mkF m 64 #[.val (.int p1), .val (.int p2), .val (.int (2 : Int32)), .val (.int (((p2.toUInt32 >>> ((2 : Int32) &&& 31).toUInt32).toInt32) &&& (15 : Int32))), .val (.int bb0), .val (.int bb1), .val (.int bb2), .val (.int bb3), .val (.int (-1 : Int32)), .unset, .unset, .unset] [])) _
          refine XS.iconst X17.here hx rfl (hb hby at_64) ?_
          show Steps p.tables e below (T17.setTop (mkF m 65 #[.val (.int p1), .val (.int p2), .val (.int (2 : Int32)), .val (.int (((p2.toUInt32 >>> ((2 : Int32) &&& 31).toUInt32).toInt32) &&& (15 : Int32))), .val (.int bb0), .val (.int bb1), .val (.int bb2), .val (.int bb3), .val (.int (-1 : Int32)), .unset, .unset, .unset] [(.int (1 : Int32))])) _
          exact retN X17 hx (t := .boolean) Bd.returns (by simp) (hb hby at_65) hr
        · show Q0 Z p1 p2 h0 n0 _ T17.heap _
          rw [e17]
          exact ⟨rfl, N17⟩
      · by_cases hv20 : (res2 (2 : Int32) bb0 bb1 bb2 bb3) = (0 : Int32)
        · rw [hv20] at pre18
          obtain ⟨_, _, ⟨T21, L21, k21, n21⟩, -, X21, ⟨Lc21, hQ21, l21, y21, z21⟩, st21⟩ := Jvm.LawKit.callS X17 hx (y := (⟨"com/example/elliott_bay/elliottbay/store/KeysEndPinLaw", "make", "(IBBBB)[B"⟩ : MethodName)) hown (mvT hZ (hw _ (List.mem_of_getElem? (i := 7) rfl))) (mvT hZ (hw _ (List.mem_of_getElem? (i := 8) rfl))) (mvT hZ (hw _ (List.mem_of_getElem? (i := 2) rfl))) (mvT hZ (hw _ (List.mem_of_getElem? (i := 9) rfl))) (by decide) (backOf (W := 0) (rm_make_2 l Z a0 hw [] bb0 bb1 bb2 bb3  h0 n0 (Nat.le_trans Z0 (Keep.refl h0 []).1)  ) hZ (hw _ (List.mem_of_getElem? (i := 9) rfl)) (hw _ (List.mem_of_getElem? (i := 2) rfl)) (by decide) (by decide)) (g := (mkF m 75 #[.val (.int p1), .val (.int p2), .val (.int (2 : Int32)), .val (.int (((p2.toUInt32 >>> ((2 : Int32) &&& 31).toUInt32).toInt32) &&& (15 : Int32))), .val (.int bb0), .val (.int bb1), .val (.int bb2), .val (.int bb3), .val (.int (0 : Int32)), .unset, .unset, .unset] [(.int bb3), (.int bb2), (.int bb1), (.int bb0), (.int (2 : Int32))])) rfl (by rw [hml]; rfl) (argsL := [(.int (2 : Int32)), (.int bb0), (.int bb1), (.int bb2), (.int bb3)]) (rest := []) (lenOf pd4 rfl) rfl (by show 2 * 0 + _ ≤ _; exact Nat.le_of_eq rfl) (hb hby at_75) (fun _ _ => ⟨rfl, e17, (by decide : 0 + 1 ≤ _), (by decide : 0 + 2 ≤ _)⟩)
          dsimp only [Pt.U, Pt.locs, Pt.cells, Pt.slots] at X21 l21 y21 z21 st21 hQ21
          subst l21 y21 z21
          obtain ⟨b1_21, k1_21, rfl, N21q, K21, s21_b1, f21_0, f21_1⟩ := hQ21
          have N21 := Fr.app N17 N21q
          have sz_b1_21 : h0.size ≤ b1_21 := Nat.le_trans (Keep.refl h0 []).1 s21_b1
          have g_b1_21 : n0 ≤ b1_21 := Nat.le_trans Z0 sz_b1_21
          have KK21 : Keep h0 T21.heap [] := (Keep.refl h0 []).trans K21 all0
          obtain ⟨_, _, ⟨T22, L22, k22, n22⟩, -, X22, ⟨Lc22, hQ22, l22, y22, z22⟩, st22⟩ := Jvm.LawKit.callS X21 hx (y := (⟨"com/example/elliott_bay/elliottbay/store/Keys", "end", "([B)[B"⟩ : MethodName)) hown (mvT hZ (hw _ (List.mem_of_getElem? (i := 11) rfl))) (mvT hZ (hw _ (List.mem_of_getElem? (i := 12) rfl))) (mvT hZ (hw _ (List.mem_of_getElem? (i := 13) rfl))) (mvT hZ (hw _ (List.mem_of_getElem? (i := 14) rfl))) (by decide) (backOf (W := 0) (rm_end_2_0 l Z a0 hw [] b1_21 k1_21 (nar .byte bb0) (nar .byte bb1) T21.heap n0 (Nat.le_trans Z0 KK21.1) f21_0 f21_1 ((own_l_2_0 e_bb0 e_bb1 e_bb2 e_bb3 hv20).2 : (nar .byte bb1) = (-1 : Int32)) ((own_l_2_0 e_bb0 e_bb1 e_bb2 e_bb3 hv20).1 : ¬ ((nar .byte bb0) = (-1 : Int32)))) hZ (hw _ (List.mem_of_getElem? (i := 14) rfl)) (hw _ (List.mem_of_getElem? (i := 13) rfl)) (by decide) (by decide)) (g := (mkF m 82 #[.val (.int p1), .val (.int p2), .val (.int (2 : Int32)), .val (.int (((p2.toUInt32 >>> ((2 : Int32) &&& 31).toUInt32).toInt32) &&& (15 : Int32))), .val (.int bb0), .val (.int bb1), .val (.int bb2), .val (.int bb3), .val (.int (0 : Int32)), .val (.ref b1_21), .unset, .unset] [(.ref b1_21)])) rfl (by rw [hml]; rfl) (argsL := [(.ref b1_21)]) (rest := []) (lenOf pd5 rfl) rfl (by show 2 * 0 + _ ≤ _; exact Nat.le_of_eq rfl) (hb hby at_82) (fun _ _ => ⟨rfl, rfl, (by decide : 1 + 1 ≤ _), (by decide : 2 + 1 ≤ _)⟩)
          dsimp only [Pt.U, Pt.locs, Pt.cells, Pt.slots] at X22 l22 y22 z22 st22 hQ22
          subst l22 y22 z22
          obtain ⟨b2_4_22, k2_4_22, rfl, N22q, K22, s22_b2_4, f22_0⟩ := hQ22
          have N22 := Fr.app N21 N22q
          have sz_b2_4_22 : h0.size ≤ b2_4_22 := Nat.le_trans KK21.1 s22_b2_4
          have g_b2_4_22 : n0 ≤ b2_4_22 := Nat.le_trans Z0 sz_b2_4_22
          have KK22 : Keep h0 T22.heap [] := KK21.trans K22 all0
          obtain ⟨cl_b2_4_22_89_23, Ar_b2_4_22_89_23, -, S_b2_4_22_89_23, N_b2_4_22_89_23, -, -⟩ := id f22_0
          obtain ⟨cl_b2_4_22_102_24, Ar_b2_4_22_102_24, q_b2_4_22_102_24, S_b2_4_22_102_24, N_b2_4_22_102_24, H_b2_4_22_102_24, G_b2_4_22_102_24⟩ := id f22_0
          have hin_b2_4_22_102_24 : ¬ ((0 : Int32) < 0 ∨ cl_b2_4_22_102_24.slots.size ≤ ((0 : Int32) : Int32).toNatClampNeg) := inb_of S_b2_4_22_102_24 ⟨by decide, by decide⟩
          obtain ⟨cl_b1_21_248_25, Ar_b1_21_248_25, q_b1_21_248_25, S_b1_21_248_25, N_b1_21_248_25, H_b1_21_248_25, G_b1_21_248_25⟩ := id (f21_0.keep K22 nin0)
          have hin_b1_21_248_25 : ¬ ((0 : Int32) < 0 ∨ cl_b1_21_248_25.slots.size ≤ ((0 : Int32) : Int32).toNatClampNeg) := inb_of S_b1_21_248_25 ⟨by decide, by decide⟩
          obtain ⟨cl_b1_21_274_26, Ar_b1_21_274_26, q_b1_21_274_26, S_b1_21_274_26, N_b1_21_274_26, H_b1_21_274_26, G_b1_21_274_26⟩ := id (f21_0.keep K22 nin0)
          have hin_b1_21_274_26 : ¬ ((1 : Int32) < 0 ∨ cl_b1_21_274_26.slots.size ≤ ((1 : Int32) : Int32).toNatClampNeg) := inb_of S_b1_21_274_26 ⟨by decide, by decide⟩
          obtain ⟨fs, hr, hrun, hended, hW, hsame⟩ := X22.leave (v := some (.int (1 : Int32))) (fun h => by rw [Bd.returns] at h; cases h)
          refine ⟨_, _, pre18 _ ?_, hrun, hended, _, _, rfl, ?_, ⟨_, rfl⟩, hW, hsame.mono (by decide) (by decide)⟩
          · show Steps p.tables e below (T17.setTop (mkF m 57 #[.val (.int p1), .val (.int p2), .val (.int (2 : Int32)), .val (.int (((p2.toUInt32 >>> ((2 : Int32) &&& 31).toUInt32).toInt32) &&& (15 : Int32))), .val (.int bb0), .val (.int bb1), .val (.int bb2), .val (.int bb3), .unset, .unset, .unset, .unset] [(.int (0 : Int32))])) _
            refine XS.istore X17.here hx rfl (hb hby at_57) rfl (l' := #[.val (.int p1), .val (.int p2), .val (.int (2 : Int32)), .val (.int (((p2.toUInt32 >>> ((2 : Int32) &&& 31).toUInt32).toInt32) &&& (15 : Int32))), .val (.int bb0), .val (.int bb1), .val (.int bb2), .val (.int bb3), .val (.int (0 : Int32)), .unset, .unset, .unset]) rfl ?_
            refine XS.iload X17.here hx rfl (hb hby at_59) rfl ?_
            refine XS.ifYes X17.here hx rfl (pc0 := 61) (pc' := 66) rfl (hb hby at_61) rfl ((if0 _ _).trans (flt (by decide : ¬ ((0 : Int32) < (0 : Int32)))).2.1) (by decide) (by decide) ?_
            show Steps p.tables e below (T17.setTop (mkF m 66 #[.val (.int p1), .val (.int p2), .val (.int (2 : Int32)), .val (.int (((p2.toUInt32 >>> ((2 : Int32) &&& 31).toUInt32).toInt32) &&& (15 : Int32))), .val (.int bb0), .val (.int bb1), .val (.int bb2), .val (.int bb3), .val (.int (0 : Int32)), .unset, .unset, .unset] [])) _
            refine XS.iloadN X17.here hx rfl (hb hby at_66) rfl ?_
            refine XS.iload X17.here hx rfl (hb hby at_67) rfl ?_
            refine XS.iload X17.here hx rfl (hb hby at_69) rfl ?_
            show Steps p.tables e below (T17.setTop (mkF m 71 #[.val (.int p1), .val (.int p2), .val (.int (2 : Int32)), .val (.int (((p2.toUInt32 >>> ((2 : Int32) &&& 31).toUInt32).toInt32) &&& (15 : Int32))), .val (.int bb0), .val (.int bb1), .val (.int bb2), .val (.int bb3), .val (.int (0 : Int32)), .unset, .unset, .unset] [(.int bb1), (.int bb0), (.int (2 : Int32))])) _
            refine XS.iload X17.here hx rfl (hb hby at_71) rfl ?_
            refine XS.iload X17.here hx rfl (hb hby at_73) rfl ?_
            show Steps p.tables e below (T17.setTop (mkF m 75 #[.val (.int p1), .val (.int p2), .val (.int (2 : Int32)), .val (.int (((p2.toUInt32 >>> ((2 : Int32) &&& 31).toUInt32).toInt32) &&& (15 : Int32))), .val (.int bb0), .val (.int bb1), .val (.int bb2), .val (.int bb3), .val (.int (0 : Int32)), .unset, .unset, .unset] [(.int bb3), (.int bb2), (.int bb1), (.int bb0), (.int (2 : Int32))])) _
            refine st21 _ ?_
            show Steps p.tables e below (T21.setTop (mkF m 78 #[.val (.int p1), .val (.int p2), .val (.int (2 : Int32)), .val (.int (((p2.toUInt32 >>> ((2 : Int32) &&& 31).toUInt32).toInt32) &&& (15 : Int32))), .val (.int bb0), .val (.int bb1), .val (.int bb2), .val (.int bb3), .val (.int (0 : Int32)), .unset, .unset, .unset] [(.ref b1_21)])) _
            refine XS.astore X21.here hx rfl (hb hby at_78) rfl rfl (l' := #[.val (.int p1), .val (.int p2), .val (.int (2 : Int32)), .val (.int (((p2.toUInt32 >>> ((2 : Int32) &&& 31).toUInt32).toInt32) &&& (15 : Int32))), .val (.int bb0), .val (.int bb1), .val (.int bb2), .val (.int bb3), .val (.int (0 : Int32)), .val (.ref b1_21), .unset, .unset]) rfl ?_
            show Steps p.tables e below (T21.setTop (mkF m 80 #[.val (.int p1), .val (.int p2), .val (.int (2 : Int32)), .val (.int (((p2.toUInt32 >>> ((2 : Int32) &&& 31).toUInt32).toInt32) &&& (15 : Int32))), .val (.int bb0), .val (.int bb1), .val (.int bb2), .val (.int bb3), .val (.int (0 : Int32)), .val (.ref b1_21), .unset, .unset] [])) _
            refine XS.aload X21.here hx rfl (hb hby at_80) rfl rfl ?_
            show Steps p.tables e below (T21.setTop (mkF m 82 #[.val (.int p1), .val (.int p2), .val (.int (2 : Int32)), .val (.int (((p2.toUInt32 >>> ((2 : Int32) &&& 31).toUInt32).toInt32) &&& (15 : Int32))), .val (.int bb0), .val (.int bb1), .val (.int bb2), .val (.int bb3), .val (.int (0 : Int32)), .val (.ref b1_21), .unset, .unset] [(.ref b1_21)])) _
            refine st22 _ ?_
            show Steps p.tables e below (T22.setTop (mkF m 85 #[.val (.int p1), .val (.int p2), .val (.int (2 : Int32)), .val (.int (((p2.toUInt32 >>> ((2 : Int32) &&& 31).toUInt32).toInt32) &&& (15 : Int32))), .val (.int bb0), .val (.int bb1), .val (.int bb2), .val (.int bb3), .val (.int (0 : Int32)), .val (.ref b1_21), .unset, .unset] [(.ref b2_4_22)])) _
            refine XS.astore X22.here hx rfl (hb hby at_85) rfl rfl (l' := #[.val (.int p1), .val (.int p2), .val (.int (2 : Int32)), .val (.int (((p2.toUInt32 >>> ((2 : Int32) &&& 31).toUInt32).toInt32) &&& (15 : Int32))), .val (.int bb0), .val (.int bb1), .val (.int bb2), .val (.int bb3), .val (.int (0 : Int32)), .val (.ref b1_21), .val (.ref b2_4_22), .unset]) rfl ?_
            refine XS.aload X22.here hx rfl (hb hby at_87) rfl rfl ?_
            show Steps p.tables e below (T22.setTop (mkF m 89 #[.val (.int p1), .val (.int p2), .val (.int (2 : Int32)), .val (.int (((p2.toUInt32 >>> ((2 : Int32) &&& 31).toUInt32).toInt32) &&& (15 : Int32))), .val (.int bb0), .val (.int bb1), .val (.int bb2), .val (.int bb3), .val (.int (0 : Int32)), .val (.ref b1_21), .val (.ref b2_4_22), .unset] [(.ref b2_4_22)])) _
            refine X22.arraylength hx (by exact Ar_b2_4_22_89_23.1) (State.isArrayOf_alike hZ.alike Ar_b2_4_22_89_23.2.1) (g := (mkF m 89 #[.val (.int p1), .val (.int p2), .val (.int (2 : Int32)), .val (.int (((p2.toUInt32 >>> ((2 : Int32) &&& 31).toUInt32).toInt32) &&& (15 : Int32))), .val (.int bb0), .val (.int bb1), .val (.int bb2), .val (.int bb3), .val (.int (0 : Int32)), .val (.ref b1_21), .val (.ref b2_4_22), .unset] [(.ref b2_4_22)])) rfl rfl (hb hby at_89) _ ?_
            rw [len_of S_b2_4_22_89_23 N_b2_4_22_89_23]
            show Steps p.tables e below (T22.setTop (mkF m 90 #[.val (.int p1), .val (.int p2), .val (.int (2 : Int32)), .val (.int (((p2.toUInt32 >>> ((2 : Int32) &&& 31).toUInt32).toInt32) &&& (15 : Int32))), .val (.int bb0), .val (.int bb1), .val (.int bb2), .val (.int bb3), .val (.int (0 : Int32)), .val (.ref b1_21), .val (.ref b2_4_22), .unset] [(.int (1 : Int32))])) _
            refine XS.iload X22.here hx rfl (hb hby at_90) rfl ?_
            refine XS.iconst X22.here hx rfl (hb hby at_92) ?_
            show Steps p.tables e below (T22.setTop (mkF m 93 #[.val (.int p1), .val (.int p2), .val (.int (2 : Int32)), .val (.int (((p2.toUInt32 >>> ((2 : Int32) &&& 31).toUInt32).toInt32) &&& (15 : Int32))), .val (.int bb0), .val (.int bb1), .val (.int bb2), .val (.int bb3), .val (.int (0 : Int32)), .val (.ref b1_21), .val (.ref b2_4_22), .unset] [(.int (1 : Int32)), (.int (0 : Int32)), (.int (1 : Int32))])) _
            refine XS.iadd X22.here hx rfl (hb hby at_93) rfl ?_
            refine XS.icmpYes X22.here hx rfl (pc0 := 94) (pc' := 99) rfl (hb hby at_94) rfl (teq (by decide : (1 : Int32) = (1 : Int32))).1 (by decide) (by decide) ?_
            refine XS.aload X22.here hx rfl (hb hby at_99) rfl rfl ?_
            show Steps p.tables e below (T22.setTop (mkF m 101 #[.val (.int p1), .val (.int p2), .val (.int (2 : Int32)), .val (.int (((p2.toUInt32 >>> ((2 : Int32) &&& 31).toUInt32).toInt32) &&& (15 : Int32))), .val (.int bb0), .val (.int bb1), .val (.int bb2), .val (.int bb3), .val (.int (0 : Int32)), .val (.ref b1_21), .val (.ref b2_4_22), .unset] [(.ref b2_4_22)])) _
            refine XS.iconst X22.here hx rfl (hb hby at_101) ?_
            refine X22.baloadBytes hx (j := (0 : Int32)) (v := (.int (nar .byte (((nar .byte bb0) + (1 : Int32)).toInt8.toInt32)))) (by exact Ar_b2_4_22_102_24.1) (State.isArrayOf_alike hZ.alike Ar_b2_4_22_102_24.2.1) Ar_b2_4_22_102_24.2.2 hin_b2_4_22_102_24 (H_b2_4_22_102_24.at hin_b2_4_22_102_24 rfl) (g := (mkF m 102 #[.val (.int p1), .val (.int p2), .val (.int (2 : Int32)), .val (.int (((p2.toUInt32 >>> ((2 : Int32) &&& 31).toUInt32).toInt32) &&& (15 : Int32))), .val (.int bb0), .val (.int bb1), .val (.int bb2), .val (.int bb3), .val (.int (0 : Int32)), .val (.ref b1_21), .val (.ref b2_4_22), .unset] [(.int (0 : Int32)), (.ref b2_4_22)])) rfl rfl (hb hby at_102) _ ?_
            show Steps p.tables e below (T22.setTop (mkF m 103 #[.val (.int p1), .val (.int p2), .val (.int (2 : Int32)), .val (.int (((p2.toUInt32 >>> ((2 : Int32) &&& 31).toUInt32).toInt32) &&& (15 : Int32))), .val (.int bb0), .val (.int bb1), .val (.int bb2), .val (.int bb3), .val (.int (0 : Int32)), .val (.ref b1_21), .val (.ref b2_4_22), .unset] [(.int (nar .byte (((nar .byte bb0) + (1 : Int32)).toInt8.toInt32)))])) _
            refine XS.iload X22.here hx rfl (hb hby at_103) rfl ?_
            show Steps p.tables e below (T22.setTop (mkF m 105 #[.val (.int p1), .val (.int p2), .val (.int (2 : Int32)), .val (.int (((p2.toUInt32 >>> ((2 : Int32) &&& 31).toUInt32).toInt32) &&& (15 : Int32))), .val (.int bb0), .val (.int bb1), .val (.int bb2), .val (.int bb3), .val (.int (0 : Int32)), .val (.ref b1_21), .val (.ref b2_4_22), .unset] [(.int (0 : Int32)), (.int (nar .byte (((nar .byte bb0) + (1 : Int32)).toInt8.toInt32)))])) _
            refine XS.ifNo X22.here hx rfl (hb hby at_105) rfl ((if0 _ _).trans (teq (by decide : (0 : Int32) = (0 : Int32))).2) ?_
            refine XS.iload X22.here hx rfl (hb hby at_108) rfl ?_
            refine XS.iconst X22.here hx rfl (hb hby at_110) ?_
            show Steps p.tables e below (T22.setTop (mkF m 111 #[.val (.int p1), .val (.int p2), .val (.int (2 : Int32)), .val (.int (((p2.toUInt32 >>> ((2 : Int32) &&& 31).toUInt32).toInt32) &&& (15 : Int32))), .val (.int bb0), .val (.int bb1), .val (.int bb2), .val (.int bb3), .val (.int (0 : Int32)), .val (.ref b1_21), .val (.ref b2_4_22), .unset] [(.int (1 : Int32)), (.int bb0), (.int (nar .byte (((nar .byte bb0) + (1 : Int32)).toInt8.toInt32)))])) _
            refine XS.iadd X22.here hx rfl (hb hby at_111) rfl ?_
            refine XS.i2b X22.here hx rfl (hb hby at_112) rfl ?_
            refine XS.goto X22.here hx rfl (pc0 := 113) (pc' := 118) rfl (hb hby at_113) (by decide) (by decide) ?_
            show Steps p.tables e below (T22.setTop (mkF m 118 #[.val (.int p1), .val (.int p2), .val (.int (2 : Int32)), .val (.int (((p2.toUInt32 >>> ((2 : Int32) &&& 31).toUInt32).toInt32) &&& (15 : Int32))), .val (.int bb0), .val (.int bb1), .val (.int bb2), .val (.int bb3), .val (.int (0 : Int32)), .val (.ref b1_21), .val (.ref b2_4_22), .unset] [(.int ((bb0 + (1 : Int32)).toInt8.toInt32)), (.int (nar .byte (((nar .byte bb0) + (1 : Int32)).toInt8.toInt32)))])) _
            refine XS.icmpNo X22.here hx rfl (hb hby at_118) rfl (teq (by simp only [e_bb0, e_bb1, e_bb2, e_bb3, own_narb] : (nar .byte (((nar .byte bb0) + (1 : Int32)).toInt8.toInt32)) = ((bb0 + (1 : Int32)).toInt8.toInt32))).2 ?_
            refine XS.iconst X22.here hx rfl (hb hby at_121) ?_
            refine XS.goto X22.here hx rfl (pc0 := 122) (pc' := 126) rfl (hb hby at_122) (by decide) (by decide) ?_
            show Steps p.tables e below (T22.setTop (mkF m 126 #[.val (.int p1), .val (.int p2), .val (.int (2 : Int32)), .val (.int (((p2.toUInt32 >>> ((2 : Int32) &&& 31).toUInt32).toInt32) &&& (15 : Int32))), .val (.int bb0), .val (.int bb1), .val (.int bb2), .val (.int bb3), .val (.int (0 : Int32)), .val (.ref b1_21), .val (.ref b2_4_22), .unset] [(.int (1 : Int32))])) _
            refine XS.istore X22.here hx rfl (hb hby at_126) rfl (l' := #[.val (.int p1), .val (.int p2), .val (.int (2 : Int32)), .val (.int (((p2.toUInt32 >>> ((2 : Int32) &&& 31).toUInt32).toInt32) &&& (15 : Int32))), .val (.int bb0), .val (.int bb1), .val (.int bb2), .val (.int bb3), .val (.int (0 : Int32)), .val (.ref b1_21), .val (.ref b2_4_22), .val (.int (1 : Int32))]) rfl ?_
            refine XS.iload X22.here hx rfl (hb hby at_128) rfl ?_
            refine XS.iconst X22.here hx rfl (hb hby at_130) ?_
            show Steps p.tables e below (T22.setTop (mkF m 131 #[.val (.int p1), .val (.int p2), .val (.int (2 : Int32)), .val (.int (((p2.toUInt32 >>> ((2 : Int32) &&& 31).toUInt32).toInt32) &&& (15 : Int32))), .val (.int bb0), .val (.int bb1), .val (.int bb2), .val (.int bb3), .val (.int (0 : Int32)), .val (.ref b1_21), .val (.ref b2_4_22), .val (.int (1 : Int32))] [(.int (1 : Int32)), (.int (0 : Int32))])) _
            refine XS.icmpYes X22.here hx rfl (pc0 := 131) (pc' := 169) rfl (hb hby at_131) rfl (tlt (by decide : (0 : Int32) < (1 : Int32))).1 (by decide) (by decide) ?_
            refine XS.iload X22.here hx rfl (hb hby at_169) rfl ?_
            refine XS.iconst X22.here hx rfl (hb hby at_171) ?_
            show Steps p.tables e below (T22.setTop (mkF m 172 #[.val (.int p1), .val (.int p2), .val (.int (2 : Int32)), .val (.int (((p2.toUInt32 >>> ((2 : Int32) &&& 31).toUInt32).toInt32) &&& (15 : Int32))), .val (.int bb0), .val (.int bb1), .val (.int bb2), .val (.int bb3), .val (.int (0 : Int32)), .val (.ref b1_21), .val (.ref b2_4_22), .val (.int (1 : Int32))] [(.int (2 : Int32)), (.int (0 : Int32))])) _
            refine XS.icmpYes X22.here hx rfl (pc0 := 172) (pc' := 210) rfl (hb hby at_172) rfl (tlt (by decide : (0 : Int32) < (2 : Int32))).1 (by decide) (by decide) ?_
            refine XS.iload X22.here hx rfl (hb hby at_210) rfl ?_
            refine XS.iconst X22.here hx rfl (hb hby at_212) ?_
            show Steps p.tables e below (T22.setTop (mkF m 213 #[.val (.int p1), .val (.int p2), .val (.int (2 : Int32)), .val (.int (((p2.toUInt32 >>> ((2 : Int32) &&& 31).toUInt32).toInt32) &&& (15 : Int32))), .val (.int bb0), .val (.int bb1), .val (.int bb2), .val (.int bb3), .val (.int (0 : Int32)), .val (.ref b1_21), .val (.ref b2_4_22), .val (.int (1 : Int32))] [(.int (3 : Int32)), (.int (0 : Int32))])) _
            refine XS.icmpYes X22.here hx rfl (pc0 := 213) (pc' := 240) rfl (hb hby at_213) rfl (tlt (by decide : (0 : Int32) < (3 : Int32))).1 (by decide) (by decide) ?_
            refine XS.iload X22.here hx rfl (hb hby at_240) rfl ?_
            refine XS.ifNo X22.here hx rfl (hb hby at_242) rfl ((if0 _ _).trans (feq (by decide : ¬ ((1 : Int32) = (0 : Int32)))).1) ?_
            show Steps p.tables e below (T22.setTop (mkF m 245 #[.val (.int p1), .val (.int p2), .val (.int (2 : Int32)), .val (.int (((p2.toUInt32 >>> ((2 : Int32) &&& 31).toUInt32).toInt32) &&& (15 : Int32))), .val (.int bb0), .val (.int bb1), .val (.int bb2), .val (.int bb3), .val (.int (0 : Int32)), .val (.ref b1_21), .val (.ref b2_4_22), .val (.int (1 : Int32))] [])) _
            refine XS.aload X22.here hx rfl (hb hby at_245) rfl rfl ?_
            refine XS.iconst X22.here hx rfl (hb hby at_247) ?_
            refine X22.baloadBytes hx (j := (0 : Int32)) (v := (.int (nar .byte bb0))) (by exact Ar_b1_21_248_25.1) (State.isArrayOf_alike hZ.alike Ar_b1_21_248_25.2.1) Ar_b1_21_248_25.2.2 hin_b1_21_248_25 (H_b1_21_248_25.at hin_b1_21_248_25 rfl) (g := (mkF m 248 #[.val (.int p1), .val (.int p2), .val (.int (2 : Int32)), .val (.int (((p2.toUInt32 >>> ((2 : Int32) &&& 31).toUInt32).toInt32) &&& (15 : Int32))), .val (.int bb0), .val (.int bb1), .val (.int bb2), .val (.int bb3), .val (.int (0 : Int32)), .val (.ref b1_21), .val (.ref b2_4_22), .val (.int (1 : Int32))] [(.int (0 : Int32)), (.ref b1_21)])) rfl rfl (hb hby at_248) _ ?_
            show Steps p.tables e below (T22.setTop (mkF m 249 #[.val (.int p1), .val (.int p2), .val (.int (2 : Int32)), .val (.int (((p2.toUInt32 >>> ((2 : Int32) &&& 31).toUInt32).toInt32) &&& (15 : Int32))), .val (.int bb0), .val (.int bb1), .val (.int bb2), .val (.int bb3), .val (.int (0 : Int32)), .val (.ref b1_21), .val (.ref b2_4_22), .val (.int (1 : Int32))] [(.int (nar .byte bb0))])) _
            refine XS.iload X22.here hx rfl (hb hby at_249) rfl ?_
            refine XS.icmpNo X22.here hx rfl (hb hby at_251) rfl (teq (by simp only [e_bb0, e_bb1, e_bb2, e_bb3, own_narb] : (nar .byte bb0) = bb0)).2 ?_
            refine XS.iconst X22.here hx rfl (hb hby at_254) ?_
            show Steps p.tables e below (T22.setTop (mkF m 255 #[.val (.int p1), .val (.int p2), .val (.int (2 : Int32)), .val (.int (((p2.toUInt32 >>> ((2 : Int32) &&& 31).toUInt32).toInt32) &&& (15 : Int32))), .val (.int bb0), .val (.int bb1), .val (.int bb2), .val (.int bb3), .val (.int (0 : Int32)), .val (.ref b1_21), .val (.ref b2_4_22), .val (.int (1 : Int32))] [(.int (1 : Int32))])) _
            refine XS.goto X22.here hx rfl (pc0 := 255) (pc' := 259) rfl (hb hby at_255) (by decide) (by decide) ?_
            refine XS.istore X22.here hx rfl (hb hby at_259) rfl (l' := #[.val (.int p1), .val (.int p2), .val (.int (2 : Int32)), .val (.int (((p2.toUInt32 >>> ((2 : Int32) &&& 31).toUInt32).toInt32) &&& (15 : Int32))), .val (.int bb0), .val (.int bb1), .val (.int bb2), .val (.int bb3), .val (.int (0 : Int32)), .val (.ref b1_21), .val (.ref b2_4_22), .val (.int (1 : Int32))]) rfl ?_
            refine XS.iloadN X22.here hx rfl (hb hby at_261) rfl ?_
            show Steps p.tables e below (T22.setTop (mkF m 262 #[.val (.int p1), .val (.int p2), .val (.int (2 : Int32)), .val (.int (((p2.toUInt32 >>> ((2 : Int32) &&& 31).toUInt32).toInt32) &&& (15 : Int32))), .val (.int bb0), .val (.int bb1), .val (.int bb2), .val (.int bb3), .val (.int (0 : Int32)), .val (.ref b1_21), .val (.ref b2_4_22), .val (.int (1 : Int32))] [(.int (2 : Int32))])) _
            refine XS.iconst X22.here hx rfl (hb hby at_262) ?_
            refine XS.icmpNo X22.here hx rfl (hb hby at_263) rfl (flt (by decide : ¬ ((2 : Int32) < (2 : Int32)))).1 ?_
            refine XS.iload X22.here hx rfl (hb hby at_266) rfl ?_
            show Steps p.tables e below (T22.setTop (mkF m 268 #[.val (.int p1), .val (.int p2), .val (.int (2 : Int32)), .val (.int (((p2.toUInt32 >>> ((2 : Int32) &&& 31).toUInt32).toInt32) &&& (15 : Int32))), .val (.int bb0), .val (.int bb1), .val (.int bb2), .val (.int bb3), .val (.int (0 : Int32)), .val (.ref b1_21), .val (.ref b2_4_22), .val (.int (1 : Int32))] [(.int (1 : Int32))])) _
            refine XS.ifNo X22.here hx rfl (hb hby at_268) rfl ((if0 _ _).trans (feq (by decide : ¬ ((1 : Int32) = (0 : Int32)))).1) ?_
            refine XS.aload X22.here hx rfl (hb hby at_271) rfl rfl ?_
            refine XS.iconst X22.here hx rfl (hb hby at_273) ?_
            show Steps p.tables e below (T22.setTop (mkF m 274 #[.val (.int p1), .val (.int p2), .val (.int (2 : Int32)), .val (.int (((p2.toUInt32 >>> ((2 : Int32) &&& 31).toUInt32).toInt32) &&& (15 : Int32))), .val (.int bb0), .val (.int bb1), .val (.int bb2), .val (.int bb3), .val (.int (0 : Int32)), .val (.ref b1_21), .val (.ref b2_4_22), .val (.int (1 : Int32))] [(.int (1 : Int32)), (.ref b1_21)])) _
            refine X22.baloadBytes hx (j := (1 : Int32)) (v := (.int (nar .byte bb1))) (by exact Ar_b1_21_274_26.1) (State.isArrayOf_alike hZ.alike Ar_b1_21_274_26.2.1) Ar_b1_21_274_26.2.2 hin_b1_21_274_26 (H_b1_21_274_26.at hin_b1_21_274_26 rfl) (g := (mkF m 274 #[.val (.int p1), .val (.int p2), .val (.int (2 : Int32)), .val (.int (((p2.toUInt32 >>> ((2 : Int32) &&& 31).toUInt32).toInt32) &&& (15 : Int32))), .val (.int bb0), .val (.int bb1), .val (.int bb2), .val (.int bb3), .val (.int (0 : Int32)), .val (.ref b1_21), .val (.ref b2_4_22), .val (.int (1 : Int32))] [(.int (1 : Int32)), (.ref b1_21)])) rfl rfl (hb hby at_274) _ ?_
            show Steps p.tables e below (T22.setTop (mkF m 275 #[.val (.int p1), .val (.int p2), .val (.int (2 : Int32)), .val (.int (((p2.toUInt32 >>> ((2 : Int32) &&& 31).toUInt32).toInt32) &&& (15 : Int32))), .val (.int bb0), .val (.int bb1), .val (.int bb2), .val (.int bb3), .val (.int (0 : Int32)), .val (.ref b1_21), .val (.ref b2_4_22), .val (.int (1 : Int32))] [(.int (nar .byte bb1))])) _
            refine XS.iload X22.here hx rfl (hb hby at_275) rfl ?_
            refine XS.icmpNo X22.here hx rfl (hb hby at_277) rfl (teq (by simp only [e_bb0, e_bb1, e_bb2, e_bb3, own_narb] : (nar .byte bb1) = bb1)).2 ?_
            show Steps p.tables e below (T22.setTop (mkF m 280 #[.val (.int p1), .val (.int p2), .val (.int (2 : Int32)), .val (.int (((p2.toUInt32 >>> ((2 : Int32) &&& 31).toUInt32).toInt32) &&& (15 : Int32))), .val (.int bb0), .val (.int bb1), .val (.int bb2), .val (.int bb3), .val (.int (0 : Int32)), .val (.ref b1_21), .val (.ref b2_4_22), .val (.int (1 : Int32))] [])) _
            refine XS.iconst X22.here hx rfl (hb hby at_280) ?_
            refine XS.goto X22.here hx rfl (pc0 := 281) (pc' := 285) rfl (hb hby at_281) (by decide) (by decide) ?_
            refine XS.istore X22.here hx rfl (hb hby at_285) rfl (l' := #[.val (.int p1), .val (.int p2), .val (.int (2 : Int32)), .val (.int (((p2.toUInt32 >>> ((2 : Int32) &&& 31).toUInt32).toInt32) &&& (15 : Int32))), .val (.int bb0), .val (.int bb1), .val (.int bb2), .val (.int bb3), .val (.int (0 : Int32)), .val (.ref b1_21), .val (.ref b2_4_22), .val (.int (1 : Int32))]) rfl ?_
            show Steps p.tables e below (T22.setTop (mkF m 287 #[.val (.int p1), .val (.int p2), .val (.int (2 : Int32)), .val (.int (((p2.toUInt32 >>> ((2 : Int32) &&& 31).toUInt32).toInt32) &&& (15 : Int32))), .val (.int bb0), .val (.int bb1), .val (.int bb2), .val (.int bb3), .val (.int (0 : Int32)), .val (.ref b1_21), .val (.ref b2_4_22), .val (.int (1 : Int32))] [])) _
            refine XS.iloadN X22.here hx rfl (hb hby at_287) rfl ?_
            refine XS.iconst X22.here hx rfl (hb hby at_288) ?_
            refine XS.icmpYes X22.here hx rfl (pc0 := 289) (pc' := 313) rfl (hb hby at_289) rfl (tlt (by decide : (2 : Int32) < (3 : Int32))).1 (by decide) (by decide) ?_
            show Steps p.tables e below (T22.setTop (mkF m 313 #[.val (.int p1), .val (.int p2), .val (.int (2 : Int32)), .val (.int (((p2.toUInt32 >>> ((2 : Int32) &&& 31).toUInt32).toInt32) &&& (15 : Int32))), .val (.int bb0), .val (.int bb1), .val (.int bb2), .val (.int bb3), .val (.int (0 : Int32)), .val (.ref b1_21), .val (.ref b2_4_22), .val (.int (1 : Int32))] [])) _
            refine XS.iloadN X22.here hx rfl (hb hby at_313) rfl ?_
            refine XS.iconst X22.here hx rfl (hb hby at_314) ?_
            refine XS.icmpYes X22.here hx rfl (pc0 := 315) (pc' := 339) rfl (hb hby at_315) rfl (tlt (by decide : (2 : Int32) < (4 : Int32))).1 (by decide) (by decide) ?_
            show Steps p.tables e below (T22.setTop (mkF m 339 #[.val (.int p1), .val (.int p2), .val (.int (2 : Int32)), .val (.int (((p2.toUInt32 >>> ((2 : Int32) &&& 31).toUInt32).toInt32) &&& (15 : Int32))), .val (.int bb0), .val (.int bb1), .val (.int bb2), .val (.int bb3), .val (.int (0 : Int32)), .val (.ref b1_21), .val (.ref b2_4_22), .val (.int (1 : Int32))] [])) _
            refine XS.iload X22.here hx rfl (hb hby at_339) rfl ?_
            show Steps p.tables e below (T22.setTop (mkF m 341 #[.val (.int p1), .val (.int p2), .val (.int (2 : Int32)), .val (.int (((p2.toUInt32 >>> ((2 : Int32) &&& 31).toUInt32).toInt32) &&& (15 : Int32))), .val (.int bb0), .val (.int bb1), .val (.int bb2), .val (.int bb3), .val (.int (0 : Int32)), .val (.ref b1_21), .val (.ref b2_4_22), .val (.int (1 : Int32))] [(.int (1 : Int32))])) _
            exact retN X22 hx (t := .boolean) Bd.returns (by simp) (hb hby at_341) hr
          · show Q0 Z p1 p2 h0 n0 _ T22.heap _
            exact ⟨rfl, N22⟩
        · by_cases hv27 : (res2 (2 : Int32) bb0 bb1 bb2 bb3) = (1 : Int32)
          · rw [hv27] at pre18
            obtain ⟨_, _, ⟨T28, L28, k28, n28⟩, -, X28, ⟨Lc28, hQ28, l28, y28, z28⟩, st28⟩ := Jvm.LawKit.callS X17 hx (y := (⟨"com/example/elliott_bay/elliottbay/store/KeysEndPinLaw", "make", "(IBBBB)[B"⟩ : MethodName)) hown (mvT hZ (hw _ (List.mem_of_getElem? (i := 7) rfl))) (mvT hZ (hw _ (List.mem_of_getElem? (i := 8) rfl))) (mvT hZ (hw _ (List.mem_of_getElem? (i := 2) rfl))) (mvT hZ (hw _ (List.mem_of_getElem? (i := 9) rfl))) (by decide) (backOf (W := 0) (rm_make_2 l Z a0 hw [] bb0 bb1 bb2 bb3  h0 n0 (Nat.le_trans Z0 (Keep.refl h0 []).1)  ) hZ (hw _ (List.mem_of_getElem? (i := 9) rfl)) (hw _ (List.mem_of_getElem? (i := 2) rfl)) (by decide) (by decide)) (g := (mkF m 75 #[.val (.int p1), .val (.int p2), .val (.int (2 : Int32)), .val (.int (((p2.toUInt32 >>> ((2 : Int32) &&& 31).toUInt32).toInt32) &&& (15 : Int32))), .val (.int bb0), .val (.int bb1), .val (.int bb2), .val (.int bb3), .val (.int (1 : Int32)), .unset, .unset, .unset] [(.int bb3), (.int bb2), (.int bb1), (.int bb0), (.int (2 : Int32))])) rfl (by rw [hml]; rfl) (argsL := [(.int (2 : Int32)), (.int bb0), (.int bb1), (.int bb2), (.int bb3)]) (rest := []) (lenOf pd4 rfl) rfl (by show 2 * 0 + _ ≤ _; exact Nat.le_of_eq rfl) (hb hby at_75) (fun _ _ => ⟨rfl, e17, (by decide : 0 + 1 ≤ _), (by decide : 0 + 2 ≤ _)⟩)
            dsimp only [Pt.U, Pt.locs, Pt.cells, Pt.slots] at X28 l28 y28 z28 st28 hQ28
            subst l28 y28 z28
            obtain ⟨b1_28, k1_28, rfl, N28q, K28, s28_b1, f28_0, f28_1⟩ := hQ28
            have N28 := Fr.app N17 N28q
            have sz_b1_28 : h0.size ≤ b1_28 := Nat.le_trans (Keep.refl h0 []).1 s28_b1
            have g_b1_28 : n0 ≤ b1_28 := Nat.le_trans Z0 sz_b1_28
            have KK28 : Keep h0 T28.heap [] := (Keep.refl h0 []).trans K28 all0
            obtain ⟨_, _, ⟨T29, L29, k29, n29⟩, -, X29, ⟨Lc29, hQ29, l29, y29, z29⟩, st29⟩ := Jvm.LawKit.callS X28 hx (y := (⟨"com/example/elliott_bay/elliottbay/store/Keys", "end", "([B)[B"⟩ : MethodName)) hown (mvT hZ (hw _ (List.mem_of_getElem? (i := 11) rfl))) (mvT hZ (hw _ (List.mem_of_getElem? (i := 12) rfl))) (mvT hZ (hw _ (List.mem_of_getElem? (i := 13) rfl))) (mvT hZ (hw _ (List.mem_of_getElem? (i := 14) rfl))) (by decide) (backOf (W := 0) (rm_end_2_1 l Z a0 hw [] b1_28 k1_28 (nar .byte bb0) (nar .byte bb1) T28.heap n0 (Nat.le_trans Z0 KK28.1) f28_0 f28_1 ((own_l_2_1 e_bb0 e_bb1 e_bb2 e_bb3 hv27) : ¬ ((nar .byte bb1) = (-1 : Int32)))) hZ (hw _ (List.mem_of_getElem? (i := 14) rfl)) (hw _ (List.mem_of_getElem? (i := 13) rfl)) (by decide) (by decide)) (g := (mkF m 82 #[.val (.int p1), .val (.int p2), .val (.int (2 : Int32)), .val (.int (((p2.toUInt32 >>> ((2 : Int32) &&& 31).toUInt32).toInt32) &&& (15 : Int32))), .val (.int bb0), .val (.int bb1), .val (.int bb2), .val (.int bb3), .val (.int (1 : Int32)), .val (.ref b1_28), .unset, .unset] [(.ref b1_28)])) rfl (by rw [hml]; rfl) (argsL := [(.ref b1_28)]) (rest := []) (lenOf pd5 rfl) rfl (by show 2 * 0 + _ ≤ _; exact Nat.le_of_eq rfl) (hb hby at_82) (fun _ _ => ⟨rfl, rfl, (by decide : 1 + 1 ≤ _), (by decide : 2 + 2 ≤ _)⟩)
            dsimp only [Pt.U, Pt.locs, Pt.cells, Pt.slots] at X29 l29 y29 z29 st29 hQ29
            subst l29 y29 z29
            obtain ⟨b2_3_29, rfl, N29q, K29, s29_b2_3, f29_0, f29_1⟩ := hQ29
            have N29 := Fr.app N28 N29q
            have sz_b2_3_29 : h0.size ≤ b2_3_29 := Nat.le_trans KK28.1 s29_b2_3
            have g_b2_3_29 : n0 ≤ b2_3_29 := Nat.le_trans Z0 sz_b2_3_29
            have KK29 : Keep h0 T29.heap [] := KK28.trans K29 all0
            obtain ⟨cl_b2_3_29_89_30, Ar_b2_3_29_89_30, -, S_b2_3_29_89_30, N_b2_3_29_89_30, -, -⟩ := id f29_0
            obtain ⟨cl_b2_3_29_102_31, Ar_b2_3_29_102_31, q_b2_3_29_102_31, S_b2_3_29_102_31, N_b2_3_29_102_31, H_b2_3_29_102_31, G_b2_3_29_102_31⟩ := id f29_0
            have hin_b2_3_29_102_31 : ¬ ((0 : Int32) < 0 ∨ cl_b2_3_29_102_31.slots.size ≤ ((0 : Int32) : Int32).toNatClampNeg) := inb_of S_b2_3_29_102_31 ⟨by decide, by decide⟩
            obtain ⟨cl_b2_3_29_142_32, Ar_b2_3_29_142_32, q_b2_3_29_142_32, S_b2_3_29_142_32, N_b2_3_29_142_32, H_b2_3_29_142_32, G_b2_3_29_142_32⟩ := id f29_0
            have hin_b2_3_29_142_32 : ¬ ((1 : Int32) < 0 ∨ cl_b2_3_29_142_32.slots.size ≤ ((1 : Int32) : Int32).toNatClampNeg) := inb_of S_b2_3_29_142_32 ⟨by decide, by decide⟩
            obtain ⟨cl_b1_28_248_33, Ar_b1_28_248_33, q_b1_28_248_33, S_b1_28_248_33, N_b1_28_248_33, H_b1_28_248_33, G_b1_28_248_33⟩ := id (f28_0.keep K29 nin0)
            have hin_b1_28_248_33 : ¬ ((0 : Int32) < 0 ∨ cl_b1_28_248_33.slots.size ≤ ((0 : Int32) : Int32).toNatClampNeg) := inb_of S_b1_28_248_33 ⟨by decide, by decide⟩
            obtain ⟨cl_b1_28_274_34, Ar_b1_28_274_34, q_b1_28_274_34, S_b1_28_274_34, N_b1_28_274_34, H_b1_28_274_34, G_b1_28_274_34⟩ := id (f28_0.keep K29 nin0)
            have hin_b1_28_274_34 : ¬ ((1 : Int32) < 0 ∨ cl_b1_28_274_34.slots.size ≤ ((1 : Int32) : Int32).toNatClampNeg) := inb_of S_b1_28_274_34 ⟨by decide, by decide⟩
            obtain ⟨fs, hr, hrun, hended, hW, hsame⟩ := X29.leave (v := some (.int (1 : Int32))) (fun h => by rw [Bd.returns] at h; cases h)
            refine ⟨_, _, pre18 _ ?_, hrun, hended, _, _, rfl, ?_, ⟨_, rfl⟩, hW, hsame.mono (by decide) (by decide)⟩
            · show Steps p.tables e below (T17.setTop (mkF m 57 #[.val (.int p1), .val (.int p2), .val (.int (2 : Int32)), .val (.int (((p2.toUInt32 >>> ((2 : Int32) &&& 31).toUInt32).toInt32) &&& (15 : Int32))), .val (.int bb0), .val (.int bb1), .val (.int bb2), .val (.int bb3), .unset, .unset, .unset, .unset] [(.int (1 : Int32))])) _
              refine XS.istore X17.here hx rfl (hb hby at_57) rfl (l' := #[.val (.int p1), .val (.int p2), .val (.int (2 : Int32)), .val (.int (((p2.toUInt32 >>> ((2 : Int32) &&& 31).toUInt32).toInt32) &&& (15 : Int32))), .val (.int bb0), .val (.int bb1), .val (.int bb2), .val (.int bb3), .val (.int (1 : Int32)), .unset, .unset, .unset]) rfl ?_
              refine XS.iload X17.here hx rfl (hb hby at_59) rfl ?_
              refine XS.ifYes X17.here hx rfl (pc0 := 61) (pc' := 66) rfl (hb hby at_61) rfl ((if0 _ _).trans (flt (by decide : ¬ ((1 : Int32) < (0 : Int32)))).2.1) (by decide) (by decide) ?_
              show Steps p.tables e below (T17.setTop (mkF m 66 #[.val (.int p1), .val (.int p2), .val (.int (2 : Int32)), .val (.int (((p2.toUInt32 >>> ((2 : Int32) &&& 31).toUInt32).toInt32) &&& (15 : Int32))), .val (.int bb0), .val (.int bb1), .val (.int bb2), .val (.int bb3), .val (.int (1 : Int32)), .unset, .unset, .unset] [])) _
              refine XS.iloadN X17.here hx rfl (hb hby at_66) rfl ?_
              refine XS.iload X17.here hx rfl (hb hby at_67) rfl ?_
              refine XS.iload X17.here hx rfl (hb hby at_69) rfl ?_
              show Steps p.tables e below (T17.setTop (mkF m 71 #[.val (.int p1), .val (.int p2), .val (.int (2 : Int32)), .val (.int (((p2.toUInt32 >>> ((2 : Int32) &&& 31).toUInt32).toInt32) &&& (15 : Int32))), .val (.int bb0), .val (.int bb1), .val (.int bb2), .val (.int bb3), .val (.int (1 : Int32)), .unset, .unset, .unset] [(.int bb1), (.int bb0), (.int (2 : Int32))])) _
              refine XS.iload X17.here hx rfl (hb hby at_71) rfl ?_
              refine XS.iload X17.here hx rfl (hb hby at_73) rfl ?_
              show Steps p.tables e below (T17.setTop (mkF m 75 #[.val (.int p1), .val (.int p2), .val (.int (2 : Int32)), .val (.int (((p2.toUInt32 >>> ((2 : Int32) &&& 31).toUInt32).toInt32) &&& (15 : Int32))), .val (.int bb0), .val (.int bb1), .val (.int bb2), .val (.int bb3), .val (.int (1 : Int32)), .unset, .unset, .unset] [(.int bb3), (.int bb2), (.int bb1), (.int bb0), (.int (2 : Int32))])) _
              refine st28 _ ?_
              show Steps p.tables e below (T28.setTop (mkF m 78 #[.val (.int p1), .val (.int p2), .val (.int (2 : Int32)), .val (.int (((p2.toUInt32 >>> ((2 : Int32) &&& 31).toUInt32).toInt32) &&& (15 : Int32))), .val (.int bb0), .val (.int bb1), .val (.int bb2), .val (.int bb3), .val (.int (1 : Int32)), .unset, .unset, .unset] [(.ref b1_28)])) _
              refine XS.astore X28.here hx rfl (hb hby at_78) rfl rfl (l' := #[.val (.int p1), .val (.int p2), .val (.int (2 : Int32)), .val (.int (((p2.toUInt32 >>> ((2 : Int32) &&& 31).toUInt32).toInt32) &&& (15 : Int32))), .val (.int bb0), .val (.int bb1), .val (.int bb2), .val (.int bb3), .val (.int (1 : Int32)), .val (.ref b1_28), .unset, .unset]) rfl ?_
              show Steps p.tables e below (T28.setTop (mkF m 80 #[.val (.int p1), .val (.int p2), .val (.int (2 : Int32)), .val (.int (((p2.toUInt32 >>> ((2 : Int32) &&& 31).toUInt32).toInt32) &&& (15 : Int32))), .val (.int bb0), .val (.int bb1), .val (.int bb2), .val (.int bb3), .val (.int (1 : Int32)), .val (.ref b1_28), .unset, .unset] [])) _
              refine XS.aload X28.here hx rfl (hb hby at_80) rfl rfl ?_
              show Steps p.tables e below (T28.setTop (mkF m 82 #[.val (.int p1), .val (.int p2), .val (.int (2 : Int32)), .val (.int (((p2.toUInt32 >>> ((2 : Int32) &&& 31).toUInt32).toInt32) &&& (15 : Int32))), .val (.int bb0), .val (.int bb1), .val (.int bb2), .val (.int bb3), .val (.int (1 : Int32)), .val (.ref b1_28), .unset, .unset] [(.ref b1_28)])) _
              refine st29 _ ?_
              show Steps p.tables e below (T29.setTop (mkF m 85 #[.val (.int p1), .val (.int p2), .val (.int (2 : Int32)), .val (.int (((p2.toUInt32 >>> ((2 : Int32) &&& 31).toUInt32).toInt32) &&& (15 : Int32))), .val (.int bb0), .val (.int bb1), .val (.int bb2), .val (.int bb3), .val (.int (1 : Int32)), .val (.ref b1_28), .unset, .unset] [(.ref b2_3_29)])) _
              refine XS.astore X29.here hx rfl (hb hby at_85) rfl rfl (l' := #[.val (.int p1), .val (.int p2), .val (.int (2 : Int32)), .val (.int (((p2.toUInt32 >>> ((2 : Int32) &&& 31).toUInt32).toInt32) &&& (15 : Int32))), .val (.int bb0), .val (.int bb1), .val (.int bb2), .val (.int bb3), .val (.int (1 : Int32)), .val (.ref b1_28), .val (.ref b2_3_29), .unset]) rfl ?_
              refine XS.aload X29.here hx rfl (hb hby at_87) rfl rfl ?_
              show Steps p.tables e below (T29.setTop (mkF m 89 #[.val (.int p1), .val (.int p2), .val (.int (2 : Int32)), .val (.int (((p2.toUInt32 >>> ((2 : Int32) &&& 31).toUInt32).toInt32) &&& (15 : Int32))), .val (.int bb0), .val (.int bb1), .val (.int bb2), .val (.int bb3), .val (.int (1 : Int32)), .val (.ref b1_28), .val (.ref b2_3_29), .unset] [(.ref b2_3_29)])) _
              refine X29.arraylength hx (by exact Ar_b2_3_29_89_30.1) (State.isArrayOf_alike hZ.alike Ar_b2_3_29_89_30.2.1) (g := (mkF m 89 #[.val (.int p1), .val (.int p2), .val (.int (2 : Int32)), .val (.int (((p2.toUInt32 >>> ((2 : Int32) &&& 31).toUInt32).toInt32) &&& (15 : Int32))), .val (.int bb0), .val (.int bb1), .val (.int bb2), .val (.int bb3), .val (.int (1 : Int32)), .val (.ref b1_28), .val (.ref b2_3_29), .unset] [(.ref b2_3_29)])) rfl rfl (hb hby at_89) _ ?_
              rw [len_of S_b2_3_29_89_30 N_b2_3_29_89_30]
              show Steps p.tables e below (T29.setTop (mkF m 90 #[.val (.int p1), .val (.int p2), .val (.int (2 : Int32)), .val (.int (((p2.toUInt32 >>> ((2 : Int32) &&& 31).toUInt32).toInt32) &&& (15 : Int32))), .val (.int bb0), .val (.int bb1), .val (.int bb2), .val (.int bb3), .val (.int (1 : Int32)), .val (.ref b1_28), .val (.ref b2_3_29), .unset] [(.int (2 : Int32))])) _
              refine XS.iload X29.here hx rfl (hb hby at_90) rfl ?_
              refine XS.iconst X29.here hx rfl (hb hby at_92) ?_
              show Steps p.tables e below (T29.setTop (mkF m 93 #[.val (.int p1), .val (.int p2), .val (.int (2 : Int32)), .val (.int (((p2.toUInt32 >>> ((2 : Int32) &&& 31).toUInt32).toInt32) &&& (15 : Int32))), .val (.int bb0), .val (.int bb1), .val (.int bb2), .val (.int bb3), .val (.int (1 : Int32)), .val (.ref b1_28), .val (.ref b2_3_29), .unset] [(.int (1 : Int32)), (.int (1 : Int32)), (.int (2 : Int32))])) _
              refine XS.iadd X29.here hx rfl (hb hby at_93) rfl ?_
              refine XS.icmpYes X29.here hx rfl (pc0 := 94) (pc' := 99) rfl (hb hby at_94) rfl (teq (by decide : (2 : Int32) = (2 : Int32))).1 (by decide) (by decide) ?_
              refine XS.aload X29.here hx rfl (hb hby at_99) rfl rfl ?_
              show Steps p.tables e below (T29.setTop (mkF m 101 #[.val (.int p1), .val (.int p2), .val (.int (2 : Int32)), .val (.int (((p2.toUInt32 >>> ((2 : Int32) &&& 31).toUInt32).toInt32) &&& (15 : Int32))), .val (.int bb0), .val (.int bb1), .val (.int bb2), .val (.int bb3), .val (.int (1 : Int32)), .val (.ref b1_28), .val (.ref b2_3_29), .unset] [(.ref b2_3_29)])) _
              refine XS.iconst X29.here hx rfl (hb hby at_101) ?_
              refine X29.baloadBytes hx (j := (0 : Int32)) (v := (.int (nar .byte bb0))) (by exact Ar_b2_3_29_102_31.1) (State.isArrayOf_alike hZ.alike Ar_b2_3_29_102_31.2.1) Ar_b2_3_29_102_31.2.2 hin_b2_3_29_102_31 (H_b2_3_29_102_31.at hin_b2_3_29_102_31 rfl) (g := (mkF m 102 #[.val (.int p1), .val (.int p2), .val (.int (2 : Int32)), .val (.int (((p2.toUInt32 >>> ((2 : Int32) &&& 31).toUInt32).toInt32) &&& (15 : Int32))), .val (.int bb0), .val (.int bb1), .val (.int bb2), .val (.int bb3), .val (.int (1 : Int32)), .val (.ref b1_28), .val (.ref b2_3_29), .unset] [(.int (0 : Int32)), (.ref b2_3_29)])) rfl rfl (hb hby at_102) _ ?_
              show Steps p.tables e below (T29.setTop (mkF m 103 #[.val (.int p1), .val (.int p2), .val (.int (2 : Int32)), .val (.int (((p2.toUInt32 >>> ((2 : Int32) &&& 31).toUInt32).toInt32) &&& (15 : Int32))), .val (.int bb0), .val (.int bb1), .val (.int bb2), .val (.int bb3), .val (.int (1 : Int32)), .val (.ref b1_28), .val (.ref b2_3_29), .unset] [(.int (nar .byte bb0))])) _
              refine XS.iload X29.here hx rfl (hb hby at_103) rfl ?_
              show Steps p.tables e below (T29.setTop (mkF m 105 #[.val (.int p1), .val (.int p2), .val (.int (2 : Int32)), .val (.int (((p2.toUInt32 >>> ((2 : Int32) &&& 31).toUInt32).toInt32) &&& (15 : Int32))), .val (.int bb0), .val (.int bb1), .val (.int bb2), .val (.int bb3), .val (.int (1 : Int32)), .val (.ref b1_28), .val (.ref b2_3_29), .unset] [(.int (1 : Int32)), (.int (nar .byte bb0))])) _
              refine XS.ifYes X29.here hx rfl (pc0 := 105) (pc' := 116) rfl (hb hby at_105) rfl ((if0 _ _).trans (feq (by decide : ¬ ((1 : Int32) = (0 : Int32)))).2) (by decide) (by decide) ?_
              refine XS.iload X29.here hx rfl (hb hby at_116) rfl ?_
              refine XS.icmpNo X29.here hx rfl (hb hby at_118) rfl (teq (by simp only [e_bb0, e_bb1, e_bb2, e_bb3, own_narb] : (nar .byte bb0) = bb0)).2 ?_
              show Steps p.tables e below (T29.setTop (mkF m 121 #[.val (.int p1), .val (.int p2), .val (.int (2 : Int32)), .val (.int (((p2.toUInt32 >>> ((2 : Int32) &&& 31).toUInt32).toInt32) &&& (15 : Int32))), .val (.int bb0), .val (.int bb1), .val (.int bb2), .val (.int bb3), .val (.int (1 : Int32)), .val (.ref b1_28), .val (.ref b2_3_29), .unset] [])) _
              refine XS.iconst X29.here hx rfl (hb hby at_121) ?_
              refine XS.goto X29.here hx rfl (pc0 := 122) (pc' := 126) rfl (hb hby at_122) (by decide) (by decide) ?_
              refine XS.istore X29.here hx rfl (hb hby at_126) rfl (l' := #[.val (.int p1), .val (.int p2), .val (.int (2 : Int32)), .val (.int (((p2.toUInt32 >>> ((2 : Int32) &&& 31).toUInt32).toInt32) &&& (15 : Int32))), .val (.int bb0), .val (.int bb1), .val (.int bb2), .val (.int bb3), .val (.int (1 : Int32)), .val (.ref b1_28), .val (.ref b2_3_29), .val (.int (1 : Int32))]) rfl ?_
              show Steps p.tables e below (T29.setTop (mkF m 128 #[.val (.int p1), .val (.int p2), .val (.int (2 : Int32)), .val (.int (((p2.toUInt32 >>> ((2 : Int32) &&& 31).toUInt32).toInt32) &&& (15 : Int32))), .val (.int bb0), .val (.int bb1), .val (.int bb2), .val (.int bb3), .val (.int (1 : Int32)), .val (.ref b1_28), .val (.ref b2_3_29), .val (.int (1 : Int32))] [])) _
              refine XS.iload X29.here hx rfl (hb hby at_128) rfl ?_
              refine XS.iconst X29.here hx rfl (hb hby at_130) ?_
              refine XS.icmpNo X29.here hx rfl (hb hby at_131) rfl (flt (by decide : ¬ ((1 : Int32) < (1 : Int32)))).1 ?_
              show Steps p.tables e below (T29.setTop (mkF m 134 #[.val (.int p1), .val (.int p2), .val (.int (2 : Int32)), .val (.int (((p2.toUInt32 >>> ((2 : Int32) &&& 31).toUInt32).toInt32) &&& (15 : Int32))), .val (.int bb0), .val (.int bb1), .val (.int bb2), .val (.int bb3), .val (.int (1 : Int32)), .val (.ref b1_28), .val (.ref b2_3_29), .val (.int (1 : Int32))] [])) _
              refine XS.iload X29.here hx rfl (hb hby at_134) rfl ?_
              refine XS.ifNo X29.here hx rfl (hb hby at_136) rfl ((if0 _ _).trans (feq (by decide : ¬ ((1 : Int32) = (0 : Int32)))).1) ?_
              refine XS.aload X29.here hx rfl (hb hby at_139) rfl rfl ?_
              show Steps p.tables e below (T29.setTop (mkF m 141 #[.val (.int p1), .val (.int p2), .val (.int (2 : Int32)), .val (.int (((p2.toUInt32 >>> ((2 : Int32) &&& 31).toUInt32).toInt32) &&& (15 : Int32))), .val (.int bb0), .val (.int bb1), .val (.int bb2), .val (.int bb3), .val (.int (1 : Int32)), .val (.ref b1_28), .val (.ref b2_3_29), .val (.int (1 : Int32))] [(.ref b2_3_29)])) _
              refine XS.iconst X29.here hx rfl (hb hby at_141) ?_
              refine X29.baloadBytes hx (j := (1 : Int32)) (v := (.int (nar .byte (((nar .byte bb1) + (1 : Int32)).toInt8.toInt32)))) (by exact Ar_b2_3_29_142_32.1) (State.isArrayOf_alike hZ.alike Ar_b2_3_29_142_32.2.1) Ar_b2_3_29_142_32.2.2 hin_b2_3_29_142_32 (H_b2_3_29_142_32.at hin_b2_3_29_142_32 rfl) (g := (mkF m 142 #[.val (.int p1), .val (.int p2), .val (.int (2 : Int32)), .val (.int (((p2.toUInt32 >>> ((2 : Int32) &&& 31).toUInt32).toInt32) &&& (15 : Int32))), .val (.int bb0), .val (.int bb1), .val (.int bb2), .val (.int bb3), .val (.int (1 : Int32)), .val (.ref b1_28), .val (.ref b2_3_29), .val (.int (1 : Int32))] [(.int (1 : Int32)), (.ref b2_3_29)])) rfl rfl (hb hby at_142) _ ?_
              show Steps p.tables e below (T29.setTop (mkF m 143 #[.val (.int p1), .val (.int p2), .val (.int (2 : Int32)), .val (.int (((p2.toUInt32 >>> ((2 : Int32) &&& 31).toUInt32).toInt32) &&& (15 : Int32))), .val (.int bb0), .val (.int bb1), .val (.int bb2), .val (.int bb3), .val (.int (1 : Int32)), .val (.ref b1_28), .val (.ref b2_3_29), .val (.int (1 : Int32))] [(.int (nar .byte (((nar .byte bb1) + (1 : Int32)).toInt8.toInt32)))])) _
              refine XS.iload X29.here hx rfl (hb hby at_143) rfl ?_
              show Steps p.tables e below (T29.setTop (mkF m 145 #[.val (.int p1), .val (.int p2), .val (.int (2 : Int32)), .val (.int (((p2.toUInt32 >>> ((2 : Int32) &&& 31).toUInt32).toInt32) &&& (15 : Int32))), .val (.int bb0), .val (.int bb1), .val (.int bb2), .val (.int bb3), .val (.int (1 : Int32)), .val (.ref b1_28), .val (.ref b2_3_29), .val (.int (1 : Int32))] [(.int (1 : Int32)), (.int (nar .byte (((nar .byte bb1) + (1 : Int32)).toInt8.toInt32)))])) _
              refine XS.iconst X29.here hx rfl (hb hby at_145) ?_
              refine XS.icmpNo X29.here hx rfl (hb hby at_146) rfl (teq (by decide : (1 : Int32) = (1 : Int32))).2 ?_
              refine XS.iload X29.here hx rfl (hb hby at_149) rfl ?_
              show Steps p.tables e below (T29.setTop (mkF m 151 #[.val (.int p1), .val (.int p2), .val (.int (2 : Int32)), .val (.int (((p2.toUInt32 >>> ((2 : Int32) &&& 31).toUInt32).toInt32) &&& (15 : Int32))), .val (.int bb0), .val (.int bb1), .val (.int bb2), .val (.int bb3), .val (.int (1 : Int32)), .val (.ref b1_28), .val (.ref b2_3_29), .val (.int (1 : Int32))] [(.int bb1), (.int (nar .byte (((nar .byte bb1) + (1 : Int32)).toInt8.toInt32)))])) _
              refine XS.iconst X29.here hx rfl (hb hby at_151) ?_
              refine XS.iadd X29.here hx rfl (hb hby at_152) rfl ?_
              refine XS.i2b X29.here hx rfl (hb hby at_153) rfl ?_
              show Steps p.tables e below (T29.setTop (mkF m 154 #[.val (.int p1), .val (.int p2), .val (.int (2 : Int32)), .val (.int (((p2.toUInt32 >>> ((2 : Int32) &&& 31).toUInt32).toInt32) &&& (15 : Int32))), .val (.int bb0), .val (.int bb1), .val (.int bb2), .val (.int bb3), .val (.int (1 : Int32)), .val (.ref b1_28), .val (.ref b2_3_29), .val (.int (1 : Int32))] [(.int ((bb1 + (1 : Int32)).toInt8.toInt32)), (.int (nar .byte (((nar .byte bb1) + (1 : Int32)).toInt8.toInt32)))])) _
              refine XS.goto X29.here hx rfl (pc0 := 154) (pc' := 159) rfl (hb hby at_154) (by decide) (by decide) ?_
              refine XS.icmpNo X29.here hx rfl (hb hby at_159) rfl (teq (by simp only [e_bb0, e_bb1, e_bb2, e_bb3, own_narb] : (nar .byte (((nar .byte bb1) + (1 : Int32)).toInt8.toInt32)) = ((bb1 + (1 : Int32)).toInt8.toInt32))).2 ?_
              refine XS.iconst X29.here hx rfl (hb hby at_162) ?_
              show Steps p.tables e below (T29.setTop (mkF m 163 #[.val (.int p1), .val (.int p2), .val (.int (2 : Int32)), .val (.int (((p2.toUInt32 >>> ((2 : Int32) &&& 31).toUInt32).toInt32) &&& (15 : Int32))), .val (.int bb0), .val (.int bb1), .val (.int bb2), .val (.int bb3), .val (.int (1 : Int32)), .val (.ref b1_28), .val (.ref b2_3_29), .val (.int (1 : Int32))] [(.int (1 : Int32))])) _
              refine XS.goto X29.here hx rfl (pc0 := 163) (pc' := 167) rfl (hb hby at_163) (by decide) (by decide) ?_
              refine XS.istore X29.here hx rfl (hb hby at_167) rfl (l' := #[.val (.int p1), .val (.int p2), .val (.int (2 : Int32)), .val (.int (((p2.toUInt32 >>> ((2 : Int32) &&& 31).toUInt32).toInt32) &&& (15 : Int32))), .val (.int bb0), .val (.int bb1), .val (.int bb2), .val (.int bb3), .val (.int (1 : Int32)), .val (.ref b1_28), .val (.ref b2_3_29), .val (.int (1 : Int32))]) rfl ?_
              refine XS.iload X29.here hx rfl (hb hby at_169) rfl ?_
              show Steps p.tables e below (T29.setTop (mkF m 171 #[.val (.int p1), .val (.int p2), .val (.int (2 : Int32)), .val (.int (((p2.toUInt32 >>> ((2 : Int32) &&& 31).toUInt32).toInt32) &&& (15 : Int32))), .val (.int bb0), .val (.int bb1), .val (.int bb2), .val (.int bb3), .val (.int (1 : Int32)), .val (.ref b1_28), .val (.ref b2_3_29), .val (.int (1 : Int32))] [(.int (1 : Int32))])) _
              refine XS.iconst X29.here hx rfl (hb hby at_171) ?_
              refine XS.icmpYes X29.here hx rfl (pc0 := 172) (pc' := 210) rfl (hb hby at_172) rfl (tlt (by decide : (1 : Int32) < (2 : Int32))).1 (by decide) (by decide) ?_
              refine XS.iload X29.here hx rfl (hb hby at_210) rfl ?_
              show Steps p.tables e below (T29.setTop (mkF m 212 #[.val (.int p1), .val (.int p2), .val (.int (2 : Int32)), .val (.int (((p2.toUInt32 >>> ((2 : Int32) &&& 31).toUInt32).toInt32) &&& (15 : Int32))), .val (.int bb0), .val (.int bb1), .val (.int bb2), .val (.int bb3), .val (.int (1 : Int32)), .val (.ref b1_28), .val (.ref b2_3_29), .val (.int (1 : Int32))] [(.int (1 : Int32))])) _
              refine XS.iconst X29.here hx rfl (hb hby at_212) ?_
              refine XS.icmpYes X29.here hx rfl (pc0 := 213) (pc' := 240) rfl (hb hby at_213) rfl (tlt (by decide : (1 : Int32) < (3 : Int32))).1 (by decide) (by decide) ?_
              refine XS.iload X29.here hx rfl (hb hby at_240) rfl ?_
              show Steps p.tables e below (T29.setTop (mkF m 242 #[.val (.int p1), .val (.int p2), .val (.int (2 : Int32)), .val (.int (((p2.toUInt32 >>> ((2 : Int32) &&& 31).toUInt32).toInt32) &&& (15 : Int32))), .val (.int bb0), .val (.int bb1), .val (.int bb2), .val (.int bb3), .val (.int (1 : Int32)), .val (.ref b1_28), .val (.ref b2_3_29), .val (.int (1 : Int32))] [(.int (1 : Int32))])) _
              refine XS.ifNo X29.here hx rfl (hb hby at_242) rfl ((if0 _ _).trans (feq (by decide : ¬ ((1 : Int32) = (0 : Int32)))).1) ?_
              refine XS.aload X29.here hx rfl (hb hby at_245) rfl rfl ?_
              refine XS.iconst X29.here hx rfl (hb hby at_247) ?_
              show Steps p.tables e below (T29.setTop (mkF m 248 #[.val (.int p1), .val (.int p2), .val (.int (2 : Int32)), .val (.int (((p2.toUInt32 >>> ((2 : Int32) &&& 31).toUInt32).toInt32) &&& (15 : Int32))), .val (.int bb0), .val (.int bb1), .val (.int bb2), .val (.int bb3), .val (.int (1 : Int32)), .val (.ref b1_28), .val (.ref b2_3_29), .val (.int (1 : Int32))] [(.int (0 : Int32)), (.ref b1_28)])) _
              refine X29.baloadBytes hx (j := (0 : Int32)) (v := (.int (nar .byte bb0))) (by exact Ar_b1_28_248_33.1) (State.isArrayOf_alike hZ.alike Ar_b1_28_248_33.2.1) Ar_b1_28_248_33.2.2 hin_b1_28_248_33 (H_b1_28_248_33.at hin_b1_28_248_33 rfl) (g := (mkF m 248 #[.val (.int p1), .val (.int p2), .val (.int (2 : Int32)), .val (.int (((p2.toUInt32 >>> ((2 : Int32) &&& 31).toUInt32).toInt32) &&& (15 : Int32))), .val (.int bb0), .val (.int bb1), .val (.int bb2), .val (.int bb3), .val (.int (1 : Int32)), .val (.ref b1_28), .val (.ref b2_3_29), .val (.int (1 : Int32))] [(.int (0 : Int32)), (.ref b1_28)])) rfl rfl (hb hby at_248) _ ?_
              show Steps p.tables e below (T29.setTop (mkF m 249 #[.val (.int p1), .val (.int p2), .val (.int (2 : Int32)), .val (.int (((p2.toUInt32 >>> ((2 : Int32) &&& 31).toUInt32).toInt32) &&& (15 : Int32))), .val (.int bb0), .val (.int bb1), .val (.int bb2), .val (.int bb3), .val (.int (1 : Int32)), .val (.ref b1_28), .val (.ref b2_3_29), .val (.int (1 : Int32))] [(.int (nar .byte bb0))])) _
              refine XS.iload X29.here hx rfl (hb hby at_249) rfl ?_
              refine XS.icmpNo X29.here hx rfl (hb hby at_251) rfl (teq (by simp only [e_bb0, e_bb1, e_bb2, e_bb3, own_narb] : (nar .byte bb0) = bb0)).2 ?_
              show Steps p.tables e below (T29.setTop (mkF m 254 #[.val (.int p1), .val (.int p2), .val (.int (2 : Int32)), .val (.int (((p2.toUInt32 >>> ((2 : Int32) &&& 31).toUInt32).toInt32) &&& (15 : Int32))), .val (.int bb0), .val (.int bb1), .val (.int bb2), .val (.int bb3), .val (.int (1 : Int32)), .val (.ref b1_28), .val (.ref b2_3_29), .val (.int (1 : Int32))] [])) _
              refine XS.iconst X29.here hx rfl (hb hby at_254) ?_
              refine XS.goto X29.here hx rfl (pc0 := 255) (pc' := 259) rfl (hb hby at_255) (by decide) (by decide) ?_
              refine XS.istore X29.here hx rfl (hb hby at_259) rfl (l' := #[.val (.int p1), .val (.int p2), .val (.int (2 : Int32)), .val (.int (((p2.toUInt32 >>> ((2 : Int32) &&& 31).toUInt32).toInt32) &&& (15 : Int32))), .val (.int bb0), .val (.int bb1), .val (.int bb2), .val (.int bb3), .val (.int (1 : Int32)), .val (.ref b1_28), .val (.ref b2_3_29), .val (.int (1 : Int32))]) rfl ?_
              show Steps p.tables e below (T29.setTop (mkF m 261 #[.val (.int p1), .val (.int p2), .val (.int (2 : Int32)), .val (.int (((p2.toUInt32 >>> ((2 : Int32) &&& 31).toUInt32).toInt32) &&& (15 : Int32))), .val (.int bb0), .val (.int bb1), .val (.int bb2), .val (.int bb3), .val (.int (1 : Int32)), .val (.ref b1_28), .val (.ref b2_3_29), .val (.int (1 : Int32))] [])) _
              refine XS.iloadN X29.here hx rfl (hb hby at_261) rfl ?_
              refine XS.iconst X29.here hx rfl (hb hby at_262) ?_
              refine XS.icmpNo X29.here hx rfl (hb hby at_263) rfl (flt (by decide : ¬ ((2 : Int32) < (2 : Int32)))).1 ?_
              show Steps p.tables e below (T29.setTop (mkF m 266 #[.val (.int p1), .val (.int p2), .val (.int (2 : Int32)), .val (.int (((p2.toUInt32 >>> ((2 : Int32) &&& 31).toUInt32).toInt32) &&& (15 : Int32))), .val (.int bb0), .val (.int bb1), .val (.int bb2), .val (.int bb3), .val (.int (1 : Int32)), .val (.ref b1_28), .val (.ref b2_3_29), .val (.int (1 : Int32))] [])) _
              refine XS.iload X29.here hx rfl (hb hby at_266) rfl ?_
              refine XS.ifNo X29.here hx rfl (hb hby at_268) rfl ((if0 _ _).trans (feq (by decide : ¬ ((1 : Int32) = (0 : Int32)))).1) ?_
              refine XS.aload X29.here hx rfl (hb hby at_271) rfl rfl ?_
              show Steps p.tables e below (T29.setTop (mkF m 273 #[.val (.int p1), .val (.int p2), .val (.int (2 : Int32)), .val (.int (((p2.toUInt32 >>> ((2 : Int32) &&& 31).toUInt32).toInt32) &&& (15 : Int32))), .val (.int bb0), .val (.int bb1), .val (.int bb2), .val (.int bb3), .val (.int (1 : Int32)), .val (.ref b1_28), .val (.ref b2_3_29), .val (.int (1 : Int32))] [(.ref b1_28)])) _
              refine XS.iconst X29.here hx rfl (hb hby at_273) ?_
              refine X29.baloadBytes hx (j := (1 : Int32)) (v := (.int (nar .byte bb1))) (by exact Ar_b1_28_274_34.1) (State.isArrayOf_alike hZ.alike Ar_b1_28_274_34.2.1) Ar_b1_28_274_34.2.2 hin_b1_28_274_34 (H_b1_28_274_34.at hin_b1_28_274_34 rfl) (g := (mkF m 274 #[.val (.int p1), .val (.int p2), .val (.int (2 : Int32)), .val (.int (((p2.toUInt32 >>> ((2 : Int32) &&& 31).toUInt32).toInt32) &&& (15 : Int32))), .val (.int bb0), .val (.int bb1), .val (.int bb2), .val (.int bb3), .val (.int (1 : Int32)), .val (.ref b1_28), .val (.ref b2_3_29), .val (.int (1 : Int32))] [(.int (1 : Int32)), (.ref b1_28)])) rfl rfl (hb hby at_274) _ ?_
              show Steps p.tables e below (T29.setTop (mkF m 275 #[.val (.int p1), .val (.int p2), .val (.int (2 : Int32)), .val (.int (((p2.toUInt32 >>> ((2 : Int32) &&& 31).toUInt32).toInt32) &&& (15 : Int32))), .val (.int bb0), .val (.int bb1), .val (.int bb2), .val (.int bb3), .val (.int (1 : Int32)), .val (.ref b1_28), .val (.ref b2_3_29), .val (.int (1 : Int32))] [(.int (nar .byte bb1))])) _
              refine XS.iload X29.here hx rfl (hb hby at_275) rfl ?_
              show Steps p.tables e below (T29.setTop (mkF m 277 #[.val (.int p1), .val (.int p2), .val (.int (2 : Int32)), .val (.int (((p2.toUInt32 >>> ((2 : Int32) &&& 31).toUInt32).toInt32) &&& (15 : Int32))), .val (.int bb0), .val (.int bb1), .val (.int bb2), .val (.int bb3), .val (.int (1 : Int32)), .val (.ref b1_28), .val (.ref b2_3_29), .val (.int (1 : Int32))] [(.int bb1), (.int (nar .byte bb1))])) _
              refine XS.icmpNo X29.here hx rfl (hb hby at_277) rfl (teq (by simp only [e_bb0, e_bb1, e_bb2, e_bb3, own_narb] : (nar .byte bb1) = bb1)).2 ?_
              refine XS.iconst X29.here hx rfl (hb hby at_280) ?_
              refine XS.goto X29.here hx rfl (pc0 := 281) (pc' := 285) rfl (hb hby at_281) (by decide) (by decide) ?_
              show Steps p.tables e below (T29.setTop (mkF m 285 #[.val (.int p1), .val (.int p2), .val (.int (2 : Int32)), .val (.int (((p2.toUInt32 >>> ((2 : Int32) &&& 31).toUInt32).toInt32) &&& (15 : Int32))), .val (.int bb0), .val (.int bb1), .val (.int bb2), .val (.int bb3), .val (.int (1 : Int32)), .val (.ref b1_28), .val (.ref b2_3_29), .val (.int (1 : Int32))] [(.int (1 : Int32))])) _
              refine XS.istore X29.here hx rfl (hb hby at_285) rfl (l' := #[.val (.int p1), .val (.int p2), .val (.int (2 : Int32)), .val (.int (((p2.toUInt32 >>> ((2 : Int32) &&& 31).toUInt32).toInt32) &&& (15 : Int32))), .val (.int bb0), .val (.int bb1), .val (.int bb2), .val (.int bb3), .val (.int (1 : Int32)), .val (.ref b1_28), .val (.ref b2_3_29), .val (.int (1 : Int32))]) rfl ?_
              refine XS.iloadN X29.here hx rfl (hb hby at_287) rfl ?_
              refine XS.iconst X29.here hx rfl (hb hby at_288) ?_
              show Steps p.tables e below (T29.setTop (mkF m 289 #[.val (.int p1), .val (.int p2), .val (.int (2 : Int32)), .val (.int (((p2.toUInt32 >>> ((2 : Int32) &&& 31).toUInt32).toInt32) &&& (15 : Int32))), .val (.int bb0), .val (.int bb1), .val (.int bb2), .val (.int bb3), .val (.int (1 : Int32)), .val (.ref b1_28), .val (.ref b2_3_29), .val (.int (1 : Int32))] [(.int (3 : Int32)), (.int (2 : Int32))])) _
              refine XS.icmpYes X29.here hx rfl (pc0 := 289) (pc' := 313) rfl (hb hby at_289) rfl (tlt (by decide : (2 : Int32) < (3 : Int32))).1 (by decide) (by decide) ?_
              refine XS.iloadN X29.here hx rfl (hb hby at_313) rfl ?_
              refine XS.iconst X29.here hx rfl (hb hby at_314) ?_
              show Steps p.tables e below (T29.setTop (mkF m 315 #[.val (.int p1), .val (.int p2), .val (.int (2 : Int32)), .val (.int (((p2.toUInt32 >>> ((2 : Int32) &&& 31).toUInt32).toInt32) &&& (15 : Int32))), .val (.int bb0), .val (.int bb1), .val (.int bb2), .val (.int bb3), .val (.int (1 : Int32)), .val (.ref b1_28), .val (.ref b2_3_29), .val (.int (1 : Int32))] [(.int (4 : Int32)), (.int (2 : Int32))])) _
              refine XS.icmpYes X29.here hx rfl (pc0 := 315) (pc' := 339) rfl (hb hby at_315) rfl (tlt (by decide : (2 : Int32) < (4 : Int32))).1 (by decide) (by decide) ?_
              refine XS.iload X29.here hx rfl (hb hby at_339) rfl ?_
              show Steps p.tables e below (T29.setTop (mkF m 341 #[.val (.int p1), .val (.int p2), .val (.int (2 : Int32)), .val (.int (((p2.toUInt32 >>> ((2 : Int32) &&& 31).toUInt32).toInt32) &&& (15 : Int32))), .val (.int bb0), .val (.int bb1), .val (.int bb2), .val (.int bb3), .val (.int (1 : Int32)), .val (.ref b1_28), .val (.ref b2_3_29), .val (.int (1 : Int32))] [(.int (1 : Int32))])) _
              exact retN X29 hx (t := .boolean) Bd.returns (by simp) (hb hby at_341) hr
            · show Q0 Z p1 p2 h0 n0 _ T29.heap _
              exact ⟨rfl, N29⟩
          · exfalso
            rcases (own_k2 bb0 bb1 bb2 bb3) with h | h | h
            · exact hv19 h
            · exact hv20 h
            · exact hv27 h
    · by_cases hv35 : ((p2 &&& (3 : Int32)) + (1 : Int32)) = (3 : Int32)
      · rw [hv35] at pre5
        obtain ⟨_, _, ⟨T36, L36, k36, n36⟩, -, X36, ⟨Lc36, hQ36, l36, y36, z36⟩, st36⟩ := Jvm.LawKit.callS X4 hx (y := (⟨"com/example/elliott_bay/elliottbay/store/KeysEndPinLaw", "lastNonFF", "(IBBBB)I"⟩ : MethodName)) hown (mvT hZ (hw _ (List.mem_of_getElem? (i := 4) rfl))) (mvT hZ (hw _ (List.mem_of_getElem? (i := 5) rfl))) (mvT hZ (hw _ (List.mem_of_getElem? (i := 2) rfl))) (mvT hZ (hw _ (List.mem_of_getElem? (i := 6) rfl))) (by decide) (backOf (W := 0) (rm2 l Z a0 hw [] (3 : Int32) bb0 bb1 bb2 bb3  h0 n0 (Nat.le_trans Z0 (Keep.refl h0 []).1)  ) hZ (hw _ (List.mem_of_getElem? (i := 6) rfl)) (hw _ (List.mem_of_getElem? (i := 2) rfl)) (by decide) (by decide)) (g := (mkF m 54 #[.val (.int p1), .val (.int p2), .val (.int (3 : Int32)), .val (.int (((p2.toUInt32 >>> ((2 : Int32) &&& 31).toUInt32).toInt32) &&& (15 : Int32))), .val (.int bb0), .val (.int bb1), .val (.int bb2), .val (.int bb3), .unset, .unset, .unset, .unset] [(.int bb3), (.int bb2), (.int bb1), (.int bb0), (.int (3 : Int32))])) rfl (by rw [hml]; rfl) (argsL := [(.int (3 : Int32)), (.int bb0), (.int bb1), (.int bb2), (.int bb3)]) (rest := []) (lenOf pd3 rfl) rfl (by show 2 * 0 + _ ≤ _; exact Nat.le_of_eq rfl) (hb hby at_54) (fun _ _ => ⟨rfl, e4, (by decide : 0 + 0 ≤ _), (by decide : 0 + 0 ≤ _)⟩)
        dsimp only [Pt.U, Pt.locs, Pt.cells, Pt.slots] at X36 l36 y36 z36 st36 hQ36
        subst l36 y36 z36
        obtain ⟨rfl, rfl, e36⟩ := hQ36
        have N36 := Fr.app N4 (Fr.nil n0)
        have pre37 : ∀ t, Steps p.tables e below (T36.setTop (mkF m 57 #[.val (.int p1), .val (.int p2), .val (.int (3 : Int32)), .val (.int (((p2.toUInt32 >>> ((2 : Int32) &&& 31).toUInt32).toInt32) &&& (15 : Int32))), .val (.int bb0), .val (.int bb1), .val (.int bb2), .val (.int bb3), .unset, .unset, .unset, .unset] [(.int (res2 (3 : Int32) bb0 bb1 bb2 bb3))])) t → Steps p.tables e below (s₁.setTop (entryFrame m #[(.int p1), (.int p2)] maxLocals)) t := by
          intro t kt
          refine pre5 _ ?_
          show Steps p.tables e below (T4.setTop (mkF m 45 #[.val (.int p1), .val (.int p2), .val (.int (3 : Int32)), .val (.int (((p2.toUInt32 >>> ((2 : Int32) &&& 31).toUInt32).toInt32) &&& (15 : Int32))), .val (.int bb0), .val (.int bb1), .val (.int bb2), .val (.int bb3), .unset, .unset, .unset, .unset] [])) _
          refine XS.iloadN X4.here hx rfl (hb hby at_45) rfl ?_
          refine XS.iload X4.here hx rfl (hb hby at_46) rfl ?_
          show Steps p.tables e below (T4.setTop (mkF m 48 #[.val (.int p1), .val (.int p2), .val (.int (3 : Int32)), .val (.int (((p2.toUInt32 >>> ((2 : Int32) &&& 31).toUInt32).toInt32) &&& (15 : Int32))), .val (.int bb0), .val (.int bb1), .val (.int bb2), .val (.int bb3), .unset, .unset, .unset, .unset] [(.int bb0), (.int (3 : Int32))])) _
          refine XS.iload X4.here hx rfl (hb hby at_48) rfl ?_
          refine XS.iload X4.here hx rfl (hb hby at_50) rfl ?_
          refine XS.iload X4.here hx rfl (hb hby at_52) rfl ?_
          show Steps p.tables e below (T4.setTop (mkF m 54 #[.val (.int p1), .val (.int p2), .val (.int (3 : Int32)), .val (.int (((p2.toUInt32 >>> ((2 : Int32) &&& 31).toUInt32).toInt32) &&& (15 : Int32))), .val (.int bb0), .val (.int bb1), .val (.int bb2), .val (.int bb3), .unset, .unset, .unset, .unset] [(.int bb3), (.int bb2), (.int bb1), (.int bb0), (.int (3 : Int32))])) _
          refine st36 _ ?_
          exact kt
        by_cases hv38 : (res2 (3 : Int32) bb0 bb1 bb2 bb3) = (-1 : Int32)
        · rw [hv38] at pre37
          obtain ⟨fs, hr, hrun, hended, hW, hsame⟩ := X36.leave (v := some (.int (1 : Int32))) (fun h => by rw [Bd.returns] at h; cases h)
          refine ⟨_, _, pre37 _ ?_, hrun, hended, _, _, rfl, ?_, ⟨_, rfl⟩, hW, hsame.mono (by decide) (by decide)⟩
          · show Steps p.tables e below (T36.setTop (mkF m 57 #[.val (.int p1), .val (.int p2), .val (.int (3 : Int32)), .val (.int (((p2.toUInt32 >>> ((2 : Int32) &&& 31).toUInt32).toInt32) &&& (15 : Int32))), .val (.int bb0), .val (.int bb1), .val (.int bb2), .val (.int bb3), .unset, .unset, .unset, .unset] [(.int (-1 : Int32))])) _
            refine XS.istore X36.here hx rfl (hb hby at_57) rfl (l' := #[.val (.int p1), .val (.int p2), .val (.int (3 : Int32)), .val (.int (((p2.toUInt32 >>> ((2 : Int32) &&& 31).toUInt32).toInt32) &&& (15 : Int32))), .val (.int bb0), .val (.int bb1), .val (.int bb2), .val (.int bb3), .val (.int (-1 : Int32)), .unset, .unset, .unset]) rfl ?_
            refine XS.iload X36.here hx rfl (hb hby at_59) rfl ?_
            refine XS.ifNo X36.here hx rfl (hb hby at_61) rfl ((if0 _ _).trans (tlt (by decide : (-1 : Int32) < (0 : Int32))).2.1) ?_
            show Steps p.tables e below (T36.setTop (mkF m 64 #[.val (.int p1), .val (.int p2), .val (.int (3 : Int32)), .val (.int (((p2.toUInt32 >>> ((2 : Int32) &&& 31).toUInt32).toInt32) &&& (15 : Int32))), .val (.int bb0), .val (.int bb1), .val (.int bb2), .val (.int bb3), .val (.int (-1 : Int32)), .unset, .unset, .unset] [])) _
            refine XS.iconst X36.here hx rfl (hb hby at_64) ?_
            show Steps p.tables e below (T36.setTop (mkF m 65 #[.val (.int p1), .val (.int p2), .val (.int (3 : Int32)), .val (.int (((p2.toUInt32 >>> ((2 : Int32) &&& 31).toUInt32).toInt32) &&& (15 : Int32))), .val (.int bb0), .val (.int bb1), .val (.int bb2), .val (.int bb3), .val (.int (-1 : Int32)), .unset, .unset, .unset] [(.int (1 : Int32))])) _
            exact retN X36 hx (t := .boolean) Bd.returns (by simp) (hb hby at_65) hr
          · show Q0 Z p1 p2 h0 n0 _ T36.heap _
            rw [e36]
            exact ⟨rfl, N36⟩
        · by_cases hv39 : (res2 (3 : Int32) bb0 bb1 bb2 bb3) = (0 : Int32)
          · rw [hv39] at pre37
            obtain ⟨_, _, ⟨T40, L40, k40, n40⟩, -, X40, ⟨Lc40, hQ40, l40, y40, z40⟩, st40⟩ := Jvm.LawKit.callS X36 hx (y := (⟨"com/example/elliott_bay/elliottbay/store/KeysEndPinLaw", "make", "(IBBBB)[B"⟩ : MethodName)) hown (mvT hZ (hw _ (List.mem_of_getElem? (i := 7) rfl))) (mvT hZ (hw _ (List.mem_of_getElem? (i := 8) rfl))) (mvT hZ (hw _ (List.mem_of_getElem? (i := 2) rfl))) (mvT hZ (hw _ (List.mem_of_getElem? (i := 9) rfl))) (by decide) (backOf (W := 0) (rm_make_3 l Z a0 hw [] bb0 bb1 bb2 bb3  h0 n0 (Nat.le_trans Z0 (Keep.refl h0 []).1)  ) hZ (hw _ (List.mem_of_getElem? (i := 9) rfl)) (hw _ (List.mem_of_getElem? (i := 2) rfl)) (by decide) (by decide)) (g := (mkF m 75 #[.val (.int p1), .val (.int p2), .val (.int (3 : Int32)), .val (.int (((p2.toUInt32 >>> ((2 : Int32) &&& 31).toUInt32).toInt32) &&& (15 : Int32))), .val (.int bb0), .val (.int bb1), .val (.int bb2), .val (.int bb3), .val (.int (0 : Int32)), .unset, .unset, .unset] [(.int bb3), (.int bb2), (.int bb1), (.int bb0), (.int (3 : Int32))])) rfl (by rw [hml]; rfl) (argsL := [(.int (3 : Int32)), (.int bb0), (.int bb1), (.int bb2), (.int bb3)]) (rest := []) (lenOf pd4 rfl) rfl (by show 2 * 0 + _ ≤ _; exact Nat.le_of_eq rfl) (hb hby at_75) (fun _ _ => ⟨rfl, e36, (by decide : 0 + 1 ≤ _), (by decide : 0 + 3 ≤ _)⟩)
            dsimp only [Pt.U, Pt.locs, Pt.cells, Pt.slots] at X40 l40 y40 z40 st40 hQ40
            subst l40 y40 z40
            obtain ⟨b1_40, k1_40, rfl, N40q, K40, s40_b1, f40_0, f40_1⟩ := hQ40
            have N40 := Fr.app N36 N40q
            have sz_b1_40 : h0.size ≤ b1_40 := Nat.le_trans (Keep.refl h0 []).1 s40_b1
            have g_b1_40 : n0 ≤ b1_40 := Nat.le_trans Z0 sz_b1_40
            have KK40 : Keep h0 T40.heap [] := (Keep.refl h0 []).trans K40 all0
            obtain ⟨_, _, ⟨T41, L41, k41, n41⟩, -, X41, ⟨Lc41, hQ41, l41, y41, z41⟩, st41⟩ := Jvm.LawKit.callS X40 hx (y := (⟨"com/example/elliott_bay/elliottbay/store/Keys", "end", "([B)[B"⟩ : MethodName)) hown (mvT hZ (hw _ (List.mem_of_getElem? (i := 11) rfl))) (mvT hZ (hw _ (List.mem_of_getElem? (i := 12) rfl))) (mvT hZ (hw _ (List.mem_of_getElem? (i := 13) rfl))) (mvT hZ (hw _ (List.mem_of_getElem? (i := 14) rfl))) (by decide) (backOf (W := 0) (rm_end_3_0 l Z a0 hw [] b1_40 k1_40 (nar .byte bb0) (nar .byte bb1) (nar .byte bb2) T40.heap n0 (Nat.le_trans Z0 KK40.1) f40_0 f40_1 ((own_l_3_0 e_bb0 e_bb1 e_bb2 e_bb3 hv39).2.2 : (nar .byte bb2) = (-1 : Int32)) ((own_l_3_0 e_bb0 e_bb1 e_bb2 e_bb3 hv39).2.1 : (nar .byte bb1) = (-1 : Int32)) ((own_l_3_0 e_bb0 e_bb1 e_bb2 e_bb3 hv39).1 : ¬ ((nar .byte bb0) = (-1 : Int32)))) hZ (hw _ (List.mem_of_getElem? (i := 14) rfl)) (hw _ (List.mem_of_getElem? (i := 13) rfl)) (by decide) (by decide)) (g := (mkF m 82 #[.val (.int p1), .val (.int p2), .val (.int (3 : Int32)), .val (.int (((p2.toUInt32 >>> ((2 : Int32) &&& 31).toUInt32).toInt32) &&& (15 : Int32))), .val (.int bb0), .val (.int bb1), .val (.int bb2), .val (.int bb3), .val (.int (0 : Int32)), .val (.ref b1_40), .unset, .unset] [(.ref b1_40)])) rfl (by rw [hml]; rfl) (argsL := [(.ref b1_40)]) (rest := []) (lenOf pd5 rfl) rfl (by show 2 * 0 + _ ≤ _; exact Nat.le_of_eq rfl) (hb hby at_82) (fun _ _ => ⟨rfl, rfl, (by decide : 1 + 1 ≤ _), (by decide : 3 + 1 ≤ _)⟩)
            dsimp only [Pt.U, Pt.locs, Pt.cells, Pt.slots] at X41 l41 y41 z41 st41 hQ41
            subst l41 y41 z41
            obtain ⟨b2_5_41, k2_5_41, rfl, N41q, K41, s41_b2_5, f41_0⟩ := hQ41
            have N41 := Fr.app N40 N41q
            have sz_b2_5_41 : h0.size ≤ b2_5_41 := Nat.le_trans KK40.1 s41_b2_5
            have g_b2_5_41 : n0 ≤ b2_5_41 := Nat.le_trans Z0 sz_b2_5_41
            have KK41 : Keep h0 T41.heap [] := KK40.trans K41 all0
            obtain ⟨cl_b2_5_41_89_42, Ar_b2_5_41_89_42, -, S_b2_5_41_89_42, N_b2_5_41_89_42, -, -⟩ := id f41_0
            obtain ⟨cl_b2_5_41_102_43, Ar_b2_5_41_102_43, q_b2_5_41_102_43, S_b2_5_41_102_43, N_b2_5_41_102_43, H_b2_5_41_102_43, G_b2_5_41_102_43⟩ := id f41_0
            have hin_b2_5_41_102_43 : ¬ ((0 : Int32) < 0 ∨ cl_b2_5_41_102_43.slots.size ≤ ((0 : Int32) : Int32).toNatClampNeg) := inb_of S_b2_5_41_102_43 ⟨by decide, by decide⟩
            obtain ⟨cl_b1_40_248_44, Ar_b1_40_248_44, q_b1_40_248_44, S_b1_40_248_44, N_b1_40_248_44, H_b1_40_248_44, G_b1_40_248_44⟩ := id (f40_0.keep K41 nin0)
            have hin_b1_40_248_44 : ¬ ((0 : Int32) < 0 ∨ cl_b1_40_248_44.slots.size ≤ ((0 : Int32) : Int32).toNatClampNeg) := inb_of S_b1_40_248_44 ⟨by decide, by decide⟩
            obtain ⟨cl_b1_40_274_45, Ar_b1_40_274_45, q_b1_40_274_45, S_b1_40_274_45, N_b1_40_274_45, H_b1_40_274_45, G_b1_40_274_45⟩ := id (f40_0.keep K41 nin0)
            have hin_b1_40_274_45 : ¬ ((1 : Int32) < 0 ∨ cl_b1_40_274_45.slots.size ≤ ((1 : Int32) : Int32).toNatClampNeg) := inb_of S_b1_40_274_45 ⟨by decide, by decide⟩
            obtain ⟨cl_b1_40_300_46, Ar_b1_40_300_46, q_b1_40_300_46, S_b1_40_300_46, N_b1_40_300_46, H_b1_40_300_46, G_b1_40_300_46⟩ := id (f40_0.keep K41 nin0)
            have hin_b1_40_300_46 : ¬ ((2 : Int32) < 0 ∨ cl_b1_40_300_46.slots.size ≤ ((2 : Int32) : Int32).toNatClampNeg) := inb_of S_b1_40_300_46 ⟨by decide, by decide⟩
            obtain ⟨fs, hr, hrun, hended, hW, hsame⟩ := X41.leave (v := some (.int (1 : Int32))) (fun h => by rw [Bd.returns] at h; cases h)
            refine ⟨_, _, pre37 _ ?_, hrun, hended, _, _, rfl, ?_, ⟨_, rfl⟩, hW, hsame.mono (by decide) (by decide)⟩
            · show Steps p.tables e below (T36.setTop (mkF m 57 #[.val (.int p1), .val (.int p2), .val (.int (3 : Int32)), .val (.int (((p2.toUInt32 >>> ((2 : Int32) &&& 31).toUInt32).toInt32) &&& (15 : Int32))), .val (.int bb0), .val (.int bb1), .val (.int bb2), .val (.int bb3), .unset, .unset, .unset, .unset] [(.int (0 : Int32))])) _
              refine XS.istore X36.here hx rfl (hb hby at_57) rfl (l' := #[.val (.int p1), .val (.int p2), .val (.int (3 : Int32)), .val (.int (((p2.toUInt32 >>> ((2 : Int32) &&& 31).toUInt32).toInt32) &&& (15 : Int32))), .val (.int bb0), .val (.int bb1), .val (.int bb2), .val (.int bb3), .val (.int (0 : Int32)), .unset, .unset, .unset]) rfl ?_
              refine XS.iload X36.here hx rfl (hb hby at_59) rfl ?_
              refine XS.ifYes X36.here hx rfl (pc0 := 61) (pc' := 66) rfl (hb hby at_61) rfl ((if0 _ _).trans (flt (by decide : ¬ ((0 : Int32) < (0 : Int32)))).2.1) (by decide) (by decide) ?_
              show Steps p.tables e below (T36.setTop (mkF m 66 #[.val (.int p1), .val (.int p2), .val (.int (3 : Int32)), .val (.int (((p2.toUInt32 >>> ((2 : Int32) &&& 31).toUInt32).toInt32) &&& (15 : Int32))), .val (.int bb0), .val (.int bb1), .val (.int bb2), .val (.int bb3), .val (.int (0 : Int32)), .unset, .unset, .unset] [])) _
              refine XS.iloadN X36.here hx rfl (hb hby at_66) rfl ?_
              refine XS.iload X36.here hx rfl (hb hby at_67) rfl ?_
              refine XS.iload X36.here hx rfl (hb hby at_69) rfl ?_
              show Steps p.tables e below (T36.setTop (mkF m 71 #[.val (.int p1), .val (.int p2), .val (.int (3 : Int32)), .val (.int (((p2.toUInt32 >>> ((2 : Int32) &&& 31).toUInt32).toInt32) &&& (15 : Int32))), .val (.int bb0), .val (.int bb1), .val (.int bb2), .val (.int bb3), .val (.int (0 : Int32)), .unset, .unset, .unset] [(.int bb1), (.int bb0), (.int (3 : Int32))])) _
              refine XS.iload X36.here hx rfl (hb hby at_71) rfl ?_
              refine XS.iload X36.here hx rfl (hb hby at_73) rfl ?_
              show Steps p.tables e below (T36.setTop (mkF m 75 #[.val (.int p1), .val (.int p2), .val (.int (3 : Int32)), .val (.int (((p2.toUInt32 >>> ((2 : Int32) &&& 31).toUInt32).toInt32) &&& (15 : Int32))), .val (.int bb0), .val (.int bb1), .val (.int bb2), .val (.int bb3), .val (.int (0 : Int32)), .unset, .unset, .unset] [(.int bb3), (.int bb2), (.int bb1), (.int bb0), (.int (3 : Int32))])) _
              refine st40 _ ?_
              show Steps p.tables e below (T40.setTop (mkF m 78 #[.val (.int p1), .val (.int p2), .val (.int (3 : Int32)), .val (.int (((p2.toUInt32 >>> ((2 : Int32) &&& 31).toUInt32).toInt32) &&& (15 : Int32))), .val (.int bb0), .val (.int bb1), .val (.int bb2), .val (.int bb3), .val (.int (0 : Int32)), .unset, .unset, .unset] [(.ref b1_40)])) _
              refine XS.astore X40.here hx rfl (hb hby at_78) rfl rfl (l' := #[.val (.int p1), .val (.int p2), .val (.int (3 : Int32)), .val (.int (((p2.toUInt32 >>> ((2 : Int32) &&& 31).toUInt32).toInt32) &&& (15 : Int32))), .val (.int bb0), .val (.int bb1), .val (.int bb2), .val (.int bb3), .val (.int (0 : Int32)), .val (.ref b1_40), .unset, .unset]) rfl ?_
              show Steps p.tables e below (T40.setTop (mkF m 80 #[.val (.int p1), .val (.int p2), .val (.int (3 : Int32)), .val (.int (((p2.toUInt32 >>> ((2 : Int32) &&& 31).toUInt32).toInt32) &&& (15 : Int32))), .val (.int bb0), .val (.int bb1), .val (.int bb2), .val (.int bb3), .val (.int (0 : Int32)), .val (.ref b1_40), .unset, .unset] [])) _
              refine XS.aload X40.here hx rfl (hb hby at_80) rfl rfl ?_
              show Steps p.tables e below (T40.setTop (mkF m 82 #[.val (.int p1), .val (.int p2), .val (.int (3 : Int32)), .val (.int (((p2.toUInt32 >>> ((2 : Int32) &&& 31).toUInt32).toInt32) &&& (15 : Int32))), .val (.int bb0), .val (.int bb1), .val (.int bb2), .val (.int bb3), .val (.int (0 : Int32)), .val (.ref b1_40), .unset, .unset] [(.ref b1_40)])) _
              refine st41 _ ?_
              show Steps p.tables e below (T41.setTop (mkF m 85 #[.val (.int p1), .val (.int p2), .val (.int (3 : Int32)), .val (.int (((p2.toUInt32 >>> ((2 : Int32) &&& 31).toUInt32).toInt32) &&& (15 : Int32))), .val (.int bb0), .val (.int bb1), .val (.int bb2), .val (.int bb3), .val (.int (0 : Int32)), .val (.ref b1_40), .unset, .unset] [(.ref b2_5_41)])) _
              refine XS.astore X41.here hx rfl (hb hby at_85) rfl rfl (l' := #[.val (.int p1), .val (.int p2), .val (.int (3 : Int32)), .val (.int (((p2.toUInt32 >>> ((2 : Int32) &&& 31).toUInt32).toInt32) &&& (15 : Int32))), .val (.int bb0), .val (.int bb1), .val (.int bb2), .val (.int bb3), .val (.int (0 : Int32)), .val (.ref b1_40), .val (.ref b2_5_41), .unset]) rfl ?_
              refine XS.aload X41.here hx rfl (hb hby at_87) rfl rfl ?_
              show Steps p.tables e below (T41.setTop (mkF m 89 #[.val (.int p1), .val (.int p2), .val (.int (3 : Int32)), .val (.int (((p2.toUInt32 >>> ((2 : Int32) &&& 31).toUInt32).toInt32) &&& (15 : Int32))), .val (.int bb0), .val (.int bb1), .val (.int bb2), .val (.int bb3), .val (.int (0 : Int32)), .val (.ref b1_40), .val (.ref b2_5_41), .unset] [(.ref b2_5_41)])) _
              refine X41.arraylength hx (by exact Ar_b2_5_41_89_42.1) (State.isArrayOf_alike hZ.alike Ar_b2_5_41_89_42.2.1) (g := (mkF m 89 #[.val (.int p1), .val (.int p2), .val (.int (3 : Int32)), .val (.int (((p2.toUInt32 >>> ((2 : Int32) &&& 31).toUInt32).toInt32) &&& (15 : Int32))), .val (.int bb0), .val (.int bb1), .val (.int bb2), .val (.int bb3), .val (.int (0 : Int32)), .val (.ref b1_40), .val (.ref b2_5_41), .unset] [(.ref b2_5_41)])) rfl rfl (hb hby at_89) _ ?_
              rw [len_of S_b2_5_41_89_42 N_b2_5_41_89_42]
              show Steps p.tables e below (T41.setTop (mkF m 90 #[.val (.int p1), .val (.int p2), .val (.int (3 : Int32)), .val (.int (((p2.toUInt32 >>> ((2 : Int32) &&& 31).toUInt32).toInt32) &&& (15 : Int32))), .val (.int bb0), .val (.int bb1), .val (.int bb2), .val (.int bb3), .val (.int (0 : Int32)), .val (.ref b1_40), .val (.ref b2_5_41), .unset] [(.int (1 : Int32))])) _
              refine XS.iload X41.here hx rfl (hb hby at_90) rfl ?_
              refine XS.iconst X41.here hx rfl (hb hby at_92) ?_
              show Steps p.tables e below (T41.setTop (mkF m 93 #[.val (.int p1), .val (.int p2), .val (.int (3 : Int32)), .val (.int (((p2.toUInt32 >>> ((2 : Int32) &&& 31).toUInt32).toInt32) &&& (15 : Int32))), .val (.int bb0), .val (.int bb1), .val (.int bb2), .val (.int bb3), .val (.int (0 : Int32)), .val (.ref b1_40), .val (.ref b2_5_41), .unset] [(.int (1 : Int32)), (.int (0 : Int32)), (.int (1 : Int32))])) _
              refine XS.iadd X41.here hx rfl (hb hby at_93) rfl ?_
              refine XS.icmpYes X41.here hx rfl (pc0 := 94) (pc' := 99) rfl (hb hby at_94) rfl (teq (by decide : (1 : Int32) = (1 : Int32))).1 (by decide) (by decide) ?_
              refine XS.aload X41.here hx rfl (hb hby at_99) rfl rfl ?_
              show Steps p.tables e below (T41.setTop (mkF m 101 #[.val (.int p1), .val (.int p2), .val (.int (3 : Int32)), .val (.int (((p2.toUInt32 >>> ((2 : Int32) &&& 31).toUInt32).toInt32) &&& (15 : Int32))), .val (.int bb0), .val (.int bb1), .val (.int bb2), .val (.int bb3), .val (.int (0 : Int32)), .val (.ref b1_40), .val (.ref b2_5_41), .unset] [(.ref b2_5_41)])) _
              refine XS.iconst X41.here hx rfl (hb hby at_101) ?_
              refine X41.baloadBytes hx (j := (0 : Int32)) (v := (.int (nar .byte (((nar .byte bb0) + (1 : Int32)).toInt8.toInt32)))) (by exact Ar_b2_5_41_102_43.1) (State.isArrayOf_alike hZ.alike Ar_b2_5_41_102_43.2.1) Ar_b2_5_41_102_43.2.2 hin_b2_5_41_102_43 (H_b2_5_41_102_43.at hin_b2_5_41_102_43 rfl) (g := (mkF m 102 #[.val (.int p1), .val (.int p2), .val (.int (3 : Int32)), .val (.int (((p2.toUInt32 >>> ((2 : Int32) &&& 31).toUInt32).toInt32) &&& (15 : Int32))), .val (.int bb0), .val (.int bb1), .val (.int bb2), .val (.int bb3), .val (.int (0 : Int32)), .val (.ref b1_40), .val (.ref b2_5_41), .unset] [(.int (0 : Int32)), (.ref b2_5_41)])) rfl rfl (hb hby at_102) _ ?_
              show Steps p.tables e below (T41.setTop (mkF m 103 #[.val (.int p1), .val (.int p2), .val (.int (3 : Int32)), .val (.int (((p2.toUInt32 >>> ((2 : Int32) &&& 31).toUInt32).toInt32) &&& (15 : Int32))), .val (.int bb0), .val (.int bb1), .val (.int bb2), .val (.int bb3), .val (.int (0 : Int32)), .val (.ref b1_40), .val (.ref b2_5_41), .unset] [(.int (nar .byte (((nar .byte bb0) + (1 : Int32)).toInt8.toInt32)))])) _
              refine XS.iload X41.here hx rfl (hb hby at_103) rfl ?_
              show Steps p.tables e below (T41.setTop (mkF m 105 #[.val (.int p1), .val (.int p2), .val (.int (3 : Int32)), .val (.int (((p2.toUInt32 >>> ((2 : Int32) &&& 31).toUInt32).toInt32) &&& (15 : Int32))), .val (.int bb0), .val (.int bb1), .val (.int bb2), .val (.int bb3), .val (.int (0 : Int32)), .val (.ref b1_40), .val (.ref b2_5_41), .unset] [(.int (0 : Int32)), (.int (nar .byte (((nar .byte bb0) + (1 : Int32)).toInt8.toInt32)))])) _
              refine XS.ifNo X41.here hx rfl (hb hby at_105) rfl ((if0 _ _).trans (teq (by decide : (0 : Int32) = (0 : Int32))).2) ?_
              refine XS.iload X41.here hx rfl (hb hby at_108) rfl ?_
              refine XS.iconst X41.here hx rfl (hb hby at_110) ?_
              show Steps p.tables e below (T41.setTop (mkF m 111 #[.val (.int p1), .val (.int p2), .val (.int (3 : Int32)), .val (.int (((p2.toUInt32 >>> ((2 : Int32) &&& 31).toUInt32).toInt32) &&& (15 : Int32))), .val (.int bb0), .val (.int bb1), .val (.int bb2), .val (.int bb3), .val (.int (0 : Int32)), .val (.ref b1_40), .val (.ref b2_5_41), .unset] [(.int (1 : Int32)), (.int bb0), (.int (nar .byte (((nar .byte bb0) + (1 : Int32)).toInt8.toInt32)))])) _
              refine XS.iadd X41.here hx rfl (hb hby at_111) rfl ?_
              refine XS.i2b X41.here hx rfl (hb hby at_112) rfl ?_
              refine XS.goto X41.here hx rfl (pc0 := 113) (pc' := 118) rfl (hb hby at_113) (by decide) (by decide) ?_
              show Steps p.tables e below (T41.setTop (mkF m 118 #[.val (.int p1), .val (.int p2), .val (.int (3 : Int32)), .val (.int (((p2.toUInt32 >>> ((2 : Int32) &&& 31).toUInt32).toInt32) &&& (15 : Int32))), .val (.int bb0), .val (.int bb1), .val (.int bb2), .val (.int bb3), .val (.int (0 : Int32)), .val (.ref b1_40), .val (.ref b2_5_41), .unset] [(.int ((bb0 + (1 : Int32)).toInt8.toInt32)), (.int (nar .byte (((nar .byte bb0) + (1 : Int32)).toInt8.toInt32)))])) _
              refine XS.icmpNo X41.here hx rfl (hb hby at_118) rfl (teq (by simp only [e_bb0, e_bb1, e_bb2, e_bb3, own_narb] : (nar .byte (((nar .byte bb0) + (1 : Int32)).toInt8.toInt32)) = ((bb0 + (1 : Int32)).toInt8.toInt32))).2 ?_
              refine XS.iconst X41.here hx rfl (hb hby at_121) ?_
              refine XS.goto X41.here hx rfl (pc0 := 122) (pc' := 126) rfl (hb hby at_122) (by decide) (by decide) ?_
              show Steps p.tables e below (T41.setTop (mkF m 126 #[.val (.int p1), .val (.int p2), .val (.int (3 : Int32)), .val (.int (((p2.toUInt32 >>> ((2 : Int32) &&& 31).toUInt32).toInt32) &&& (15 : Int32))), .val (.int bb0), .val (.int bb1), .val (.int bb2), .val (.int bb3), .val (.int (0 : Int32)), .val (.ref b1_40), .val (.ref b2_5_41), .unset] [(.int (1 : Int32))])) _
              refine XS.istore X41.here hx rfl (hb hby at_126) rfl (l' := #[.val (.int p1), .val (.int p2), .val (.int (3 : Int32)), .val (.int (((p2.toUInt32 >>> ((2 : Int32) &&& 31).toUInt32).toInt32) &&& (15 : Int32))), .val (.int bb0), .val (.int bb1), .val (.int bb2), .val (.int bb3), .val (.int (0 : Int32)), .val (.ref b1_40), .val (.ref b2_5_41), .val (.int (1 : Int32))]) rfl ?_
              refine XS.iload X41.here hx rfl (hb hby at_128) rfl ?_
              refine XS.iconst X41.here hx rfl (hb hby at_130) ?_
              show Steps p.tables e below (T41.setTop (mkF m 131 #[.val (.int p1), .val (.int p2), .val (.int (3 : Int32)), .val (.int (((p2.toUInt32 >>> ((2 : Int32) &&& 31).toUInt32).toInt32) &&& (15 : Int32))), .val (.int bb0), .val (.int bb1), .val (.int bb2), .val (.int bb3), .val (.int (0 : Int32)), .val (.ref b1_40), .val (.ref b2_5_41), .val (.int (1 : Int32))] [(.int (1 : Int32)), (.int (0 : Int32))])) _
              refine XS.icmpYes X41.here hx rfl (pc0 := 131) (pc' := 169) rfl (hb hby at_131) rfl (tlt (by decide : (0 : Int32) < (1 : Int32))).1 (by decide) (by decide) ?_
              refine XS.iload X41.here hx rfl (hb hby at_169) rfl ?_
              refine XS.iconst X41.here hx rfl (hb hby at_171) ?_
              show Steps p.tables e below (T41.setTop (mkF m 172 #[.val (.int p1), .val (.int p2), .val (.int (3 : Int32)), .val (.int (((p2.toUInt32 >>> ((2 : Int32) &&& 31).toUInt32).toInt32) &&& (15 : Int32))), .val (.int bb0), .val (.int bb1), .val (.int bb2), .val (.int bb3), .val (.int (0 : Int32)), .val (.ref b1_40), .val (.ref b2_5_41), .val (.int (1 : Int32))] [(.int (2 : Int32)), (.int (0 : Int32))])) _
              refine XS.icmpYes X41.here hx rfl (pc0 := 172) (pc' := 210) rfl (hb hby at_172) rfl (tlt (by decide : (0 : Int32) < (2 : Int32))).1 (by decide) (by decide) ?_
              refine XS.iload X41.here hx rfl (hb hby at_210) rfl ?_
              refine XS.iconst X41.here hx rfl (hb hby at_212) ?_
              show Steps p.tables e below (T41.setTop (mkF m 213 #[.val (.int p1), .val (.int p2), .val (.int (3 : Int32)), .val (.int (((p2.toUInt32 >>> ((2 : Int32) &&& 31).toUInt32).toInt32) &&& (15 : Int32))), .val (.int bb0), .val (.int bb1), .val (.int bb2), .val (.int bb3), .val (.int (0 : Int32)), .val (.ref b1_40), .val (.ref b2_5_41), .val (.int (1 : Int32))] [(.int (3 : Int32)), (.int (0 : Int32))])) _
              refine XS.icmpYes X41.here hx rfl (pc0 := 213) (pc' := 240) rfl (hb hby at_213) rfl (tlt (by decide : (0 : Int32) < (3 : Int32))).1 (by decide) (by decide) ?_
              refine XS.iload X41.here hx rfl (hb hby at_240) rfl ?_
              refine XS.ifNo X41.here hx rfl (hb hby at_242) rfl ((if0 _ _).trans (feq (by decide : ¬ ((1 : Int32) = (0 : Int32)))).1) ?_
              show Steps p.tables e below (T41.setTop (mkF m 245 #[.val (.int p1), .val (.int p2), .val (.int (3 : Int32)), .val (.int (((p2.toUInt32 >>> ((2 : Int32) &&& 31).toUInt32).toInt32) &&& (15 : Int32))), .val (.int bb0), .val (.int bb1), .val (.int bb2), .val (.int bb3), .val (.int (0 : Int32)), .val (.ref b1_40), .val (.ref b2_5_41), .val (.int (1 : Int32))] [])) _
              refine XS.aload X41.here hx rfl (hb hby at_245) rfl rfl ?_
              refine XS.iconst X41.here hx rfl (hb hby at_247) ?_
              refine X41.baloadBytes hx (j := (0 : Int32)) (v := (.int (nar .byte bb0))) (by exact Ar_b1_40_248_44.1) (State.isArrayOf_alike hZ.alike Ar_b1_40_248_44.2.1) Ar_b1_40_248_44.2.2 hin_b1_40_248_44 (H_b1_40_248_44.at hin_b1_40_248_44 rfl) (g := (mkF m 248 #[.val (.int p1), .val (.int p2), .val (.int (3 : Int32)), .val (.int (((p2.toUInt32 >>> ((2 : Int32) &&& 31).toUInt32).toInt32) &&& (15 : Int32))), .val (.int bb0), .val (.int bb1), .val (.int bb2), .val (.int bb3), .val (.int (0 : Int32)), .val (.ref b1_40), .val (.ref b2_5_41), .val (.int (1 : Int32))] [(.int (0 : Int32)), (.ref b1_40)])) rfl rfl (hb hby at_248) _ ?_
              show Steps p.tables e below (T41.setTop (mkF m 249 #[.val (.int p1), .val (.int p2), .val (.int (3 : Int32)), .val (.int (((p2.toUInt32 >>> ((2 : Int32) &&& 31).toUInt32).toInt32) &&& (15 : Int32))), .val (.int bb0), .val (.int bb1), .val (.int bb2), .val (.int bb3), .val (.int (0 : Int32)), .val (.ref b1_40), .val (.ref b2_5_41), .val (.int (1 : Int32))] [(.int (nar .byte bb0))])) _
              refine XS.iload X41.here hx rfl (hb hby at_249) rfl ?_
              refine XS.icmpNo X41.here hx rfl (hb hby at_251) rfl (teq (by simp only [e_bb0, e_bb1, e_bb2, e_bb3, own_narb] : (nar .byte bb0) = bb0)).2 ?_
              refine XS.iconst X41.here hx rfl (hb hby at_254) ?_
              show Steps p.tables e below (T41.setTop (mkF m 255 #[.val (.int p1), .val (.int p2), .val (.int (3 : Int32)), .val (.int (((p2.toUInt32 >>> ((2 : Int32) &&& 31).toUInt32).toInt32) &&& (15 : Int32))), .val (.int bb0), .val (.int bb1), .val (.int bb2), .val (.int bb3), .val (.int (0 : Int32)), .val (.ref b1_40), .val (.ref b2_5_41), .val (.int (1 : Int32))] [(.int (1 : Int32))])) _
              refine XS.goto X41.here hx rfl (pc0 := 255) (pc' := 259) rfl (hb hby at_255) (by decide) (by decide) ?_
              refine XS.istore X41.here hx rfl (hb hby at_259) rfl (l' := #[.val (.int p1), .val (.int p2), .val (.int (3 : Int32)), .val (.int (((p2.toUInt32 >>> ((2 : Int32) &&& 31).toUInt32).toInt32) &&& (15 : Int32))), .val (.int bb0), .val (.int bb1), .val (.int bb2), .val (.int bb3), .val (.int (0 : Int32)), .val (.ref b1_40), .val (.ref b2_5_41), .val (.int (1 : Int32))]) rfl ?_
              refine XS.iloadN X41.here hx rfl (hb hby at_261) rfl ?_
              show Steps p.tables e below (T41.setTop (mkF m 262 #[.val (.int p1), .val (.int p2), .val (.int (3 : Int32)), .val (.int (((p2.toUInt32 >>> ((2 : Int32) &&& 31).toUInt32).toInt32) &&& (15 : Int32))), .val (.int bb0), .val (.int bb1), .val (.int bb2), .val (.int bb3), .val (.int (0 : Int32)), .val (.ref b1_40), .val (.ref b2_5_41), .val (.int (1 : Int32))] [(.int (3 : Int32))])) _
              refine XS.iconst X41.here hx rfl (hb hby at_262) ?_
              refine XS.icmpNo X41.here hx rfl (hb hby at_263) rfl (flt (by decide : ¬ ((3 : Int32) < (2 : Int32)))).1 ?_
              refine XS.iload X41.here hx rfl (hb hby at_266) rfl ?_
              show Steps p.tables e below (T41.setTop (mkF m 268 #[.val (.int p1), .val (.int p2), .val (.int (3 : Int32)), .val (.int (((p2.toUInt32 >>> ((2 : Int32) &&& 31).toUInt32).toInt32) &&& (15 : Int32))), .val (.int bb0), .val (.int bb1), .val (.int bb2), .val (.int bb3), .val (.int (0 : Int32)), .val (.ref b1_40), .val (.ref b2_5_41), .val (.int (1 : Int32))] [(.int (1 : Int32))])) _
              refine XS.ifNo X41.here hx rfl (hb hby at_268) rfl ((if0 _ _).trans (feq (by decide : ¬ ((1 : Int32) = (0 : Int32)))).1) ?_
              refine XS.aload X41.here hx rfl (hb hby at_271) rfl rfl ?_
              refine XS.iconst X41.here hx rfl (hb hby at_273) ?_
              show Steps p.tables e below (T41.setTop (mkF m 274 #[.val (.int p1), .val (.int p2), .val (.int (3 : Int32)), .val (.int (((p2.toUInt32 >>> ((2 : Int32) &&& 31).toUInt32).toInt32) &&& (15 : Int32))), .val (.int bb0), .val (.int bb1), .val (.int bb2), .val (.int bb3), .val (.int (0 : Int32)), .val (.ref b1_40), .val (.ref b2_5_41), .val (.int (1 : Int32))] [(.int (1 : Int32)), (.ref b1_40)])) _
              refine X41.baloadBytes hx (j := (1 : Int32)) (v := (.int (nar .byte bb1))) (by exact Ar_b1_40_274_45.1) (State.isArrayOf_alike hZ.alike Ar_b1_40_274_45.2.1) Ar_b1_40_274_45.2.2 hin_b1_40_274_45 (H_b1_40_274_45.at hin_b1_40_274_45 rfl) (g := (mkF m 274 #[.val (.int p1), .val (.int p2), .val (.int (3 : Int32)), .val (.int (((p2.toUInt32 >>> ((2 : Int32) &&& 31).toUInt32).toInt32) &&& (15 : Int32))), .val (.int bb0), .val (.int bb1), .val (.int bb2), .val (.int bb3), .val (.int (0 : Int32)), .val (.ref b1_40), .val (.ref b2_5_41), .val (.int (1 : Int32))] [(.int (1 : Int32)), (.ref b1_40)])) rfl rfl (hb hby at_274) _ ?_
              show Steps p.tables e below (T41.setTop (mkF m 275 #[.val (.int p1), .val (.int p2), .val (.int (3 : Int32)), .val (.int (((p2.toUInt32 >>> ((2 : Int32) &&& 31).toUInt32).toInt32) &&& (15 : Int32))), .val (.int bb0), .val (.int bb1), .val (.int bb2), .val (.int bb3), .val (.int (0 : Int32)), .val (.ref b1_40), .val (.ref b2_5_41), .val (.int (1 : Int32))] [(.int (nar .byte bb1))])) _
              refine XS.iload X41.here hx rfl (hb hby at_275) rfl ?_
              refine XS.icmpNo X41.here hx rfl (hb hby at_277) rfl (teq (by simp only [e_bb0, e_bb1, e_bb2, e_bb3, own_narb] : (nar .byte bb1) = bb1)).2 ?_
              show Steps p.tables e below (T41.setTop (mkF m 280 #[.val (.int p1), .val (.int p2), .val (.int (3 : Int32)), .val (.int (((p2.toUInt32 >>> ((2 : Int32) &&& 31).toUInt32).toInt32) &&& (15 : Int32))), .val (.int bb0), .val (.int bb1), .val (.int bb2), .val (.int bb3), .val (.int (0 : Int32)), .val (.ref b1_40), .val (.ref b2_5_41), .val (.int (1 : Int32))] [])) _
              refine XS.iconst X41.here hx rfl (hb hby at_280) ?_
              refine XS.goto X41.here hx rfl (pc0 := 281) (pc' := 285) rfl (hb hby at_281) (by decide) (by decide) ?_
              refine XS.istore X41.here hx rfl (hb hby at_285) rfl (l' := #[.val (.int p1), .val (.int p2), .val (.int (3 : Int32)), .val (.int (((p2.toUInt32 >>> ((2 : Int32) &&& 31).toUInt32).toInt32) &&& (15 : Int32))), .val (.int bb0), .val (.int bb1), .val (.int bb2), .val (.int bb3), .val (.int (0 : Int32)), .val (.ref b1_40), .val (.ref b2_5_41), .val (.int (1 : Int32))]) rfl ?_
              show Steps p.tables e below (T41.setTop (mkF m 287 #[.val (.int p1), .val (.int p2), .val (.int (3 : Int32)), .val (.int (((p2.toUInt32 >>> ((2 : Int32) &&& 31).toUInt32).toInt32) &&& (15 : Int32))), .val (.int bb0), .val (.int bb1), .val (.int bb2), .val (.int bb3), .val (.int (0 : Int32)), .val (.ref b1_40), .val (.ref b2_5_41), .val (.int (1 : Int32))] [])) _
              refine XS.iloadN X41.here hx rfl (hb hby at_287) rfl ?_
              refine XS.iconst X41.here hx rfl (hb hby at_288) ?_
              refine XS.icmpNo X41.here hx rfl (hb hby at_289) rfl (flt (by decide : ¬ ((3 : Int32) < (3 : Int32)))).1 ?_
              show Steps p.tables e below (T41.setTop (mkF m 292 #[.val (.int p1), .val (.int p2), .val (.int (3 : Int32)), .val (.int (((p2.toUInt32 >>> ((2 : Int32) &&& 31).toUInt32).toInt32) &&& (15 : Int32))), .val (.int bb0), .val (.int bb1), .val (.int bb2), .val (.int bb3), .val (.int (0 : Int32)), .val (.ref b1_40), .val (.ref b2_5_41), .val (.int (1 : Int32))] [])) _
              refine XS.iload X41.here hx rfl (hb hby at_292) rfl ?_
              refine XS.ifNo X41.here hx rfl (hb hby at_294) rfl ((if0 _ _).trans (feq (by decide : ¬ ((1 : Int32) = (0 : Int32)))).1) ?_
              refine XS.aload X41.here hx rfl (hb hby at_297) rfl rfl ?_
              show Steps p.tables e below (T41.setTop (mkF m 299 #[.val (.int p1), .val (.int p2), .val (.int (3 : Int32)), .val (.int (((p2.toUInt32 >>> ((2 : Int32) &&& 31).toUInt32).toInt32) &&& (15 : Int32))), .val (.int bb0), .val (.int bb1), .val (.int bb2), .val (.int bb3), .val (.int (0 : Int32)), .val (.ref b1_40), .val (.ref b2_5_41), .val (.int (1 : Int32))] [(.ref b1_40)])) _
              refine XS.iconst X41.here hx rfl (hb hby at_299) ?_
              refine X41.baloadBytes hx (j := (2 : Int32)) (v := (.int (nar .byte bb2))) (by exact Ar_b1_40_300_46.1) (State.isArrayOf_alike hZ.alike Ar_b1_40_300_46.2.1) Ar_b1_40_300_46.2.2 hin_b1_40_300_46 (H_b1_40_300_46.at hin_b1_40_300_46 rfl) (g := (mkF m 300 #[.val (.int p1), .val (.int p2), .val (.int (3 : Int32)), .val (.int (((p2.toUInt32 >>> ((2 : Int32) &&& 31).toUInt32).toInt32) &&& (15 : Int32))), .val (.int bb0), .val (.int bb1), .val (.int bb2), .val (.int bb3), .val (.int (0 : Int32)), .val (.ref b1_40), .val (.ref b2_5_41), .val (.int (1 : Int32))] [(.int (2 : Int32)), (.ref b1_40)])) rfl rfl (hb hby at_300) _ ?_
              show Steps p.tables e below (T41.setTop (mkF m 301 #[.val (.int p1), .val (.int p2), .val (.int (3 : Int32)), .val (.int (((p2.toUInt32 >>> ((2 : Int32) &&& 31).toUInt32).toInt32) &&& (15 : Int32))), .val (.int bb0), .val (.int bb1), .val (.int bb2), .val (.int bb3), .val (.int (0 : Int32)), .val (.ref b1_40), .val (.ref b2_5_41), .val (.int (1 : Int32))] [(.int (nar .byte bb2))])) _
              refine XS.iload X41.here hx rfl (hb hby at_301) rfl ?_
              show Steps p.tables e below (T41.setTop (mkF m 303 #[.val (.int p1), .val (.int p2), .val (.int (3 : Int32)), .val (.int (((p2.toUInt32 >>> ((2 : Int32) &&& 31).toUInt32).toInt32) &&& (15 : Int32))), .val (.int bb0), .val (.int bb1), .val (.int bb2), .val (.int bb3), .val (.int (0 : Int32)), .val (.ref b1_40), .val (.ref b2_5_41), .val (.int (1 : Int32))] [(.int bb2), (.int (nar .byte bb2))])) _
              refine XS.icmpNo X41.here hx rfl (hb hby at_303) rfl (teq (by simp only [e_bb0, e_bb1, e_bb2, e_bb3, own_narb] : (nar .byte bb2) = bb2)).2 ?_
              refine XS.iconst X41.here hx rfl (hb hby at_306) ?_
              refine XS.goto X41.here hx rfl (pc0 := 307) (pc' := 311) rfl (hb hby at_307) (by decide) (by decide) ?_
              show Steps p.tables e below (T41.setTop (mkF m 311 #[.val (.int p1), .val (.int p2), .val (.int (3 : Int32)), .val (.int (((p2.toUInt32 >>> ((2 : Int32) &&& 31).toUInt32).toInt32) &&& (15 : Int32))), .val (.int bb0), .val (.int bb1), .val (.int bb2), .val (.int bb3), .val (.int (0 : Int32)), .val (.ref b1_40), .val (.ref b2_5_41), .val (.int (1 : Int32))] [(.int (1 : Int32))])) _
              refine XS.istore X41.here hx rfl (hb hby at_311) rfl (l' := #[.val (.int p1), .val (.int p2), .val (.int (3 : Int32)), .val (.int (((p2.toUInt32 >>> ((2 : Int32) &&& 31).toUInt32).toInt32) &&& (15 : Int32))), .val (.int bb0), .val (.int bb1), .val (.int bb2), .val (.int bb3), .val (.int (0 : Int32)), .val (.ref b1_40), .val (.ref b2_5_41), .val (.int (1 : Int32))]) rfl ?_
              refine XS.iloadN X41.here hx rfl (hb hby at_313) rfl ?_
              refine XS.iconst X41.here hx rfl (hb hby at_314) ?_
              show Steps p.tables e below (T41.setTop (mkF m 315 #[.val (.int p1), .val (.int p2), .val (.int (3 : Int32)), .val (.int (((p2.toUInt32 >>> ((2 : Int32) &&& 31).toUInt32).toInt32) &&& (15 : Int32))), .val (.int bb0), .val (.int bb1), .val (.int bb2), .val (.int bb3), .val (.int (0 : Int32)), .val (.ref b1_40), .val (.ref b2_5_41), .val (.int (1 : Int32))] [(.int (4 : Int32)), (.int (3 : Int32))])) _
              refine XS.icmpYes X41.here hx rfl (pc0 := 315) (pc' := 339) rfl (hb hby at_315) rfl (tlt (by decide : (3 : Int32) < (4 : Int32))).1 (by decide) (by decide) ?_
              refine XS.iload X41.here hx rfl (hb hby at_339) rfl ?_
              show Steps p.tables e below (T41.setTop (mkF m 341 #[.val (.int p1), .val (.int p2), .val (.int (3 : Int32)), .val (.int (((p2.toUInt32 >>> ((2 : Int32) &&& 31).toUInt32).toInt32) &&& (15 : Int32))), .val (.int bb0), .val (.int bb1), .val (.int bb2), .val (.int bb3), .val (.int (0 : Int32)), .val (.ref b1_40), .val (.ref b2_5_41), .val (.int (1 : Int32))] [(.int (1 : Int32))])) _
              exact retN X41 hx (t := .boolean) Bd.returns (by simp) (hb hby at_341) hr
            · show Q0 Z p1 p2 h0 n0 _ T41.heap _
              exact ⟨rfl, N41⟩
          · by_cases hv47 : (res2 (3 : Int32) bb0 bb1 bb2 bb3) = (1 : Int32)
            · rw [hv47] at pre37
              obtain ⟨_, _, ⟨T48, L48, k48, n48⟩, -, X48, ⟨Lc48, hQ48, l48, y48, z48⟩, st48⟩ := Jvm.LawKit.callS X36 hx (y := (⟨"com/example/elliott_bay/elliottbay/store/KeysEndPinLaw", "make", "(IBBBB)[B"⟩ : MethodName)) hown (mvT hZ (hw _ (List.mem_of_getElem? (i := 7) rfl))) (mvT hZ (hw _ (List.mem_of_getElem? (i := 8) rfl))) (mvT hZ (hw _ (List.mem_of_getElem? (i := 2) rfl))) (mvT hZ (hw _ (List.mem_of_getElem? (i := 9) rfl))) (by decide) (backOf (W := 0) (rm_make_3 l Z a0 hw [] bb0 bb1 bb2 bb3  h0 n0 (Nat.le_trans Z0 (Keep.refl h0 []).1)  ) hZ (hw _ (List.mem_of_getElem? (i := 9) rfl)) (hw _ (List.mem_of_getElem? (i := 2) rfl)) (by decide) (by decide)) (g := (mkF m 75 #[.val (.int p1), .val (.int p2), .val (.int (3 : Int32)), .val (.int (((p2.toUInt32 >>> ((2 : Int32) &&& 31).toUInt32).toInt32) &&& (15 : Int32))), .val (.int bb0), .val (.int bb1), .val (.int bb2), .val (.int bb3), .val (.int (1 : Int32)), .unset, .unset, .unset] [(.int bb3), (.int bb2), (.int bb1), (.int bb0), (.int (3 : Int32))])) rfl (by rw [hml]; rfl) (argsL := [(.int (3 : Int32)), (.int bb0), (.int bb1), (.int bb2), (.int bb3)]) (rest := []) (lenOf pd4 rfl) rfl (by show 2 * 0 + _ ≤ _; exact Nat.le_of_eq rfl) (hb hby at_75) (fun _ _ => ⟨rfl, e36, (by decide : 0 + 1 ≤ _), (by decide : 0 + 3 ≤ _)⟩)
              dsimp only [Pt.U, Pt.locs, Pt.cells, Pt.slots] at X48 l48 y48 z48 st48 hQ48
              subst l48 y48 z48
              obtain ⟨b1_48, k1_48, rfl, N48q, K48, s48_b1, f48_0, f48_1⟩ := hQ48
              have N48 := Fr.app N36 N48q
              have sz_b1_48 : h0.size ≤ b1_48 := Nat.le_trans (Keep.refl h0 []).1 s48_b1
              have g_b1_48 : n0 ≤ b1_48 := Nat.le_trans Z0 sz_b1_48
              have KK48 : Keep h0 T48.heap [] := (Keep.refl h0 []).trans K48 all0
              obtain ⟨_, _, ⟨T49, L49, k49, n49⟩, -, X49, ⟨Lc49, hQ49, l49, y49, z49⟩, st49⟩ := Jvm.LawKit.callS X48 hx (y := (⟨"com/example/elliott_bay/elliottbay/store/Keys", "end", "([B)[B"⟩ : MethodName)) hown (mvT hZ (hw _ (List.mem_of_getElem? (i := 11) rfl))) (mvT hZ (hw _ (List.mem_of_getElem? (i := 12) rfl))) (mvT hZ (hw _ (List.mem_of_getElem? (i := 13) rfl))) (mvT hZ (hw _ (List.mem_of_getElem? (i := 14) rfl))) (by decide) (backOf (W := 0) (rm_end_3_1 l Z a0 hw [] b1_48 k1_48 (nar .byte bb0) (nar .byte bb1) (nar .byte bb2) T48.heap n0 (Nat.le_trans Z0 KK48.1) f48_0 f48_1 ((own_l_3_1 e_bb0 e_bb1 e_bb2 e_bb3 hv47).2 : (nar .byte bb2) = (-1 : Int32)) ((own_l_3_1 e_bb0 e_bb1 e_bb2 e_bb3 hv47).1 : ¬ ((nar .byte bb1) = (-1 : Int32)))) hZ (hw _ (List.mem_of_getElem? (i := 14) rfl)) (hw _ (List.mem_of_getElem? (i := 13) rfl)) (by decide) (by decide)) (g := (mkF m 82 #[.val (.int p1), .val (.int p2), .val (.int (3 : Int32)), .val (.int (((p2.toUInt32 >>> ((2 : Int32) &&& 31).toUInt32).toInt32) &&& (15 : Int32))), .val (.int bb0), .val (.int bb1), .val (.int bb2), .val (.int bb3), .val (.int (1 : Int32)), .val (.ref b1_48), .unset, .unset] [(.ref b1_48)])) rfl (by rw [hml]; rfl) (argsL := [(.ref b1_48)]) (rest := []) (lenOf pd5 rfl) rfl (by show 2 * 0 + _ ≤ _; exact Nat.le_of_eq rfl) (hb hby at_82) (fun _ _ => ⟨rfl, rfl, (by decide : 1 + 1 ≤ _), (by decide : 3 + 2 ≤ _)⟩)
              dsimp only [Pt.U, Pt.locs, Pt.cells, Pt.slots] at X49 l49 y49 z49 st49 hQ49
              subst l49 y49 z49
              obtain ⟨b2_4_49, k2_4_49, rfl, N49q, K49, s49_b2_4, f49_0⟩ := hQ49
              have N49 := Fr.app N48 N49q
              have sz_b2_4_49 : h0.size ≤ b2_4_49 := Nat.le_trans KK48.1 s49_b2_4
              have g_b2_4_49 : n0 ≤ b2_4_49 := Nat.le_trans Z0 sz_b2_4_49
              have KK49 : Keep h0 T49.heap [] := KK48.trans K49 all0
              obtain ⟨cl_b2_4_49_89_50, Ar_b2_4_49_89_50, -, S_b2_4_49_89_50, N_b2_4_49_89_50, -, -⟩ := id f49_0
              obtain ⟨cl_b2_4_49_102_51, Ar_b2_4_49_102_51, q_b2_4_49_102_51, S_b2_4_49_102_51, N_b2_4_49_102_51, H_b2_4_49_102_51, G_b2_4_49_102_51⟩ := id f49_0
              have hin_b2_4_49_102_51 : ¬ ((0 : Int32) < 0 ∨ cl_b2_4_49_102_51.slots.size ≤ ((0 : Int32) : Int32).toNatClampNeg) := inb_of S_b2_4_49_102_51 ⟨by decide, by decide⟩
              obtain ⟨cl_b2_4_49_142_52, Ar_b2_4_49_142_52, q_b2_4_49_142_52, S_b2_4_49_142_52, N_b2_4_49_142_52, H_b2_4_49_142_52, G_b2_4_49_142_52⟩ := id f49_0
              have hin_b2_4_49_142_52 : ¬ ((1 : Int32) < 0 ∨ cl_b2_4_49_142_52.slots.size ≤ ((1 : Int32) : Int32).toNatClampNeg) := inb_of S_b2_4_49_142_52 ⟨by decide, by decide⟩
              obtain ⟨cl_b1_48_248_53, Ar_b1_48_248_53, q_b1_48_248_53, S_b1_48_248_53, N_b1_48_248_53, H_b1_48_248_53, G_b1_48_248_53⟩ := id (f48_0.keep K49 nin0)
              have hin_b1_48_248_53 : ¬ ((0 : Int32) < 0 ∨ cl_b1_48_248_53.slots.size ≤ ((0 : Int32) : Int32).toNatClampNeg) := inb_of S_b1_48_248_53 ⟨by decide, by decide⟩
              obtain ⟨cl_b1_48_274_54, Ar_b1_48_274_54, q_b1_48_274_54, S_b1_48_274_54, N_b1_48_274_54, H_b1_48_274_54, G_b1_48_274_54⟩ := id (f48_0.keep K49 nin0)
              have hin_b1_48_274_54 : ¬ ((1 : Int32) < 0 ∨ cl_b1_48_274_54.slots.size ≤ ((1 : Int32) : Int32).toNatClampNeg) := inb_of S_b1_48_274_54 ⟨by decide, by decide⟩
              obtain ⟨cl_b1_48_300_55, Ar_b1_48_300_55, q_b1_48_300_55, S_b1_48_300_55, N_b1_48_300_55, H_b1_48_300_55, G_b1_48_300_55⟩ := id (f48_0.keep K49 nin0)
              have hin_b1_48_300_55 : ¬ ((2 : Int32) < 0 ∨ cl_b1_48_300_55.slots.size ≤ ((2 : Int32) : Int32).toNatClampNeg) := inb_of S_b1_48_300_55 ⟨by decide, by decide⟩
              obtain ⟨fs, hr, hrun, hended, hW, hsame⟩ := X49.leave (v := some (.int (1 : Int32))) (fun h => by rw [Bd.returns] at h; cases h)
              refine ⟨_, _, pre37 _ ?_, hrun, hended, _, _, rfl, ?_, ⟨_, rfl⟩, hW, hsame.mono (by decide) (by decide)⟩
              · show Steps p.tables e below (T36.setTop (mkF m 57 #[.val (.int p1), .val (.int p2), .val (.int (3 : Int32)), .val (.int (((p2.toUInt32 >>> ((2 : Int32) &&& 31).toUInt32).toInt32) &&& (15 : Int32))), .val (.int bb0), .val (.int bb1), .val (.int bb2), .val (.int bb3), .unset, .unset, .unset, .unset] [(.int (1 : Int32))])) _
                refine XS.istore X36.here hx rfl (hb hby at_57) rfl (l' := #[.val (.int p1), .val (.int p2), .val (.int (3 : Int32)), .val (.int (((p2.toUInt32 >>> ((2 : Int32) &&& 31).toUInt32).toInt32) &&& (15 : Int32))), .val (.int bb0), .val (.int bb1), .val (.int bb2), .val (.int bb3), .val (.int (1 : Int32)), .unset, .unset, .unset]) rfl ?_
                refine XS.iload X36.here hx rfl (hb hby at_59) rfl ?_
                refine XS.ifYes X36.here hx rfl (pc0 := 61) (pc' := 66) rfl (hb hby at_61) rfl ((if0 _ _).trans (flt (by decide : ¬ ((1 : Int32) < (0 : Int32)))).2.1) (by decide) (by decide) ?_
                show Steps p.tables e below (T36.setTop (mkF m 66 #[.val (.int p1), .val (.int p2), .val (.int (3 : Int32)), .val (.int (((p2.toUInt32 >>> ((2 : Int32) &&& 31).toUInt32).toInt32) &&& (15 : Int32))), .val (.int bb0), .val (.int bb1), .val (.int bb2), .val (.int bb3), .val (.int (1 : Int32)), .unset, .unset, .unset] [])) _
                refine XS.iloadN X36.here hx rfl (hb hby at_66) rfl ?_
                refine XS.iload X36.here hx rfl (hb hby at_67) rfl ?_
                refine XS.iload X36.here hx rfl (hb hby at_69) rfl ?_
                show Steps p.tables e below (T36.setTop (mkF m 71 #[.val (.int p1), .val (.int p2), .val (.int (3 : Int32)), .val (.int (((p2.toUInt32 >>> ((2 : Int32) &&& 31).toUInt32).toInt32) &&& (15 : Int32))), .val (.int bb0), .val (.int bb1), .val (.int bb2), .val (.int bb3), .val (.int (1 : Int32)), .unset, .unset, .unset] [(.int bb1), (.int bb0), (.int (3 : Int32))])) _
                refine XS.iload X36.here hx rfl (hb hby at_71) rfl ?_
                refine XS.iload X36.here hx rfl (hb hby at_73) rfl ?_
                show Steps p.tables e below (T36.setTop (mkF m 75 #[.val (.int p1), .val (.int p2), .val (.int (3 : Int32)), .val (.int (((p2.toUInt32 >>> ((2 : Int32) &&& 31).toUInt32).toInt32) &&& (15 : Int32))), .val (.int bb0), .val (.int bb1), .val (.int bb2), .val (.int bb3), .val (.int (1 : Int32)), .unset, .unset, .unset] [(.int bb3), (.int bb2), (.int bb1), (.int bb0), (.int (3 : Int32))])) _
                refine st48 _ ?_
                show Steps p.tables e below (T48.setTop (mkF m 78 #[.val (.int p1), .val (.int p2), .val (.int (3 : Int32)), .val (.int (((p2.toUInt32 >>> ((2 : Int32) &&& 31).toUInt32).toInt32) &&& (15 : Int32))), .val (.int bb0), .val (.int bb1), .val (.int bb2), .val (.int bb3), .val (.int (1 : Int32)), .unset, .unset, .unset] [(.ref b1_48)])) _
                refine XS.astore X48.here hx rfl (hb hby at_78) rfl rfl (l' := #[.val (.int p1), .val (.int p2), .val (.int (3 : Int32)), .val (.int (((p2.toUInt32 >>> ((2 : Int32) &&& 31).toUInt32).toInt32) &&& (15 : Int32))), .val (.int bb0), .val (.int bb1), .val (.int bb2), .val (.int bb3), .val (.int (1 : Int32)), .val (.ref b1_48), .unset, .unset]) rfl ?_
                show Steps p.tables e below (T48.setTop (mkF m 80 #[.val (.int p1), .val (.int p2), .val (.int (3 : Int32)), .val (.int (((p2.toUInt32 >>> ((2 : Int32) &&& 31).toUInt32).toInt32) &&& (15 : Int32))), .val (.int bb0), .val (.int bb1), .val (.int bb2), .val (.int bb3), .val (.int (1 : Int32)), .val (.ref b1_48), .unset, .unset] [])) _
                refine XS.aload X48.here hx rfl (hb hby at_80) rfl rfl ?_
                show Steps p.tables e below (T48.setTop (mkF m 82 #[.val (.int p1), .val (.int p2), .val (.int (3 : Int32)), .val (.int (((p2.toUInt32 >>> ((2 : Int32) &&& 31).toUInt32).toInt32) &&& (15 : Int32))), .val (.int bb0), .val (.int bb1), .val (.int bb2), .val (.int bb3), .val (.int (1 : Int32)), .val (.ref b1_48), .unset, .unset] [(.ref b1_48)])) _
                refine st49 _ ?_
                show Steps p.tables e below (T49.setTop (mkF m 85 #[.val (.int p1), .val (.int p2), .val (.int (3 : Int32)), .val (.int (((p2.toUInt32 >>> ((2 : Int32) &&& 31).toUInt32).toInt32) &&& (15 : Int32))), .val (.int bb0), .val (.int bb1), .val (.int bb2), .val (.int bb3), .val (.int (1 : Int32)), .val (.ref b1_48), .unset, .unset] [(.ref b2_4_49)])) _
                refine XS.astore X49.here hx rfl (hb hby at_85) rfl rfl (l' := #[.val (.int p1), .val (.int p2), .val (.int (3 : Int32)), .val (.int (((p2.toUInt32 >>> ((2 : Int32) &&& 31).toUInt32).toInt32) &&& (15 : Int32))), .val (.int bb0), .val (.int bb1), .val (.int bb2), .val (.int bb3), .val (.int (1 : Int32)), .val (.ref b1_48), .val (.ref b2_4_49), .unset]) rfl ?_
                refine XS.aload X49.here hx rfl (hb hby at_87) rfl rfl ?_
                show Steps p.tables e below (T49.setTop (mkF m 89 #[.val (.int p1), .val (.int p2), .val (.int (3 : Int32)), .val (.int (((p2.toUInt32 >>> ((2 : Int32) &&& 31).toUInt32).toInt32) &&& (15 : Int32))), .val (.int bb0), .val (.int bb1), .val (.int bb2), .val (.int bb3), .val (.int (1 : Int32)), .val (.ref b1_48), .val (.ref b2_4_49), .unset] [(.ref b2_4_49)])) _
                refine X49.arraylength hx (by exact Ar_b2_4_49_89_50.1) (State.isArrayOf_alike hZ.alike Ar_b2_4_49_89_50.2.1) (g := (mkF m 89 #[.val (.int p1), .val (.int p2), .val (.int (3 : Int32)), .val (.int (((p2.toUInt32 >>> ((2 : Int32) &&& 31).toUInt32).toInt32) &&& (15 : Int32))), .val (.int bb0), .val (.int bb1), .val (.int bb2), .val (.int bb3), .val (.int (1 : Int32)), .val (.ref b1_48), .val (.ref b2_4_49), .unset] [(.ref b2_4_49)])) rfl rfl (hb hby at_89) _ ?_
                rw [len_of S_b2_4_49_89_50 N_b2_4_49_89_50]
                show Steps p.tables e below (T49.setTop (mkF m 90 #[.val (.int p1), .val (.int p2), .val (.int (3 : Int32)), .val (.int (((p2.toUInt32 >>> ((2 : Int32) &&& 31).toUInt32).toInt32) &&& (15 : Int32))), .val (.int bb0), .val (.int bb1), .val (.int bb2), .val (.int bb3), .val (.int (1 : Int32)), .val (.ref b1_48), .val (.ref b2_4_49), .unset] [(.int (2 : Int32))])) _
                refine XS.iload X49.here hx rfl (hb hby at_90) rfl ?_
                refine XS.iconst X49.here hx rfl (hb hby at_92) ?_
                show Steps p.tables e below (T49.setTop (mkF m 93 #[.val (.int p1), .val (.int p2), .val (.int (3 : Int32)), .val (.int (((p2.toUInt32 >>> ((2 : Int32) &&& 31).toUInt32).toInt32) &&& (15 : Int32))), .val (.int bb0), .val (.int bb1), .val (.int bb2), .val (.int bb3), .val (.int (1 : Int32)), .val (.ref b1_48), .val (.ref b2_4_49), .unset] [(.int (1 : Int32)), (.int (1 : Int32)), (.int (2 : Int32))])) _
                refine XS.iadd X49.here hx rfl (hb hby at_93) rfl ?_
                refine XS.icmpYes X49.here hx rfl (pc0 := 94) (pc' := 99) rfl (hb hby at_94) rfl (teq (by decide : (2 : Int32) = (2 : Int32))).1 (by decide) (by decide) ?_
                refine XS.aload X49.here hx rfl (hb hby at_99) rfl rfl ?_
                show Steps p.tables e below (T49.setTop (mkF m 101 #[.val (.int p1), .val (.int p2), .val (.int (3 : Int32)), .val (.int (((p2.toUInt32 >>> ((2 : Int32) &&& 31).toUInt32).toInt32) &&& (15 : Int32))), .val (.int bb0), .val (.int bb1), .val (.int bb2), .val (.int bb3), .val (.int (1 : Int32)), .val (.ref b1_48), .val (.ref b2_4_49), .unset] [(.ref b2_4_49)])) _
                refine XS.iconst X49.here hx rfl (hb hby at_101) ?_
                refine X49.baloadBytes hx (j := (0 : Int32)) (v := (.int (nar .byte bb0))) (by exact Ar_b2_4_49_102_51.1) (State.isArrayOf_alike hZ.alike Ar_b2_4_49_102_51.2.1) Ar_b2_4_49_102_51.2.2 hin_b2_4_49_102_51 (H_b2_4_49_102_51.at hin_b2_4_49_102_51 rfl) (g := (mkF m 102 #[.val (.int p1), .val (.int p2), .val (.int (3 : Int32)), .val (.int (((p2.toUInt32 >>> ((2 : Int32) &&& 31).toUInt32).toInt32) &&& (15 : Int32))), .val (.int bb0), .val (.int bb1), .val (.int bb2), .val (.int bb3), .val (.int (1 : Int32)), .val (.ref b1_48), .val (.ref b2_4_49), .unset] [(.int (0 : Int32)), (.ref b2_4_49)])) rfl rfl (hb hby at_102) _ ?_
                show Steps p.tables e below (T49.setTop (mkF m 103 #[.val (.int p1), .val (.int p2), .val (.int (3 : Int32)), .val (.int (((p2.toUInt32 >>> ((2 : Int32) &&& 31).toUInt32).toInt32) &&& (15 : Int32))), .val (.int bb0), .val (.int bb1), .val (.int bb2), .val (.int bb3), .val (.int (1 : Int32)), .val (.ref b1_48), .val (.ref b2_4_49), .unset] [(.int (nar .byte bb0))])) _
                refine XS.iload X49.here hx rfl (hb hby at_103) rfl ?_
                show Steps p.tables e below (T49.setTop (mkF m 105 #[.val (.int p1), .val (.int p2), .val (.int (3 : Int32)), .val (.int (((p2.toUInt32 >>> ((2 : Int32) &&& 31).toUInt32).toInt32) &&& (15 : Int32))), .val (.int bb0), .val (.int bb1), .val (.int bb2), .val (.int bb3), .val (.int (1 : Int32)), .val (.ref b1_48), .val (.ref b2_4_49), .unset] [(.int (1 : Int32)), (.int (nar .byte bb0))])) _
                refine XS.ifYes X49.here hx rfl (pc0 := 105) (pc' := 116) rfl (hb hby at_105) rfl ((if0 _ _).trans (feq (by decide : ¬ ((1 : Int32) = (0 : Int32)))).2) (by decide) (by decide) ?_
                refine XS.iload X49.here hx rfl (hb hby at_116) rfl ?_
                refine XS.icmpNo X49.here hx rfl (hb hby at_118) rfl (teq (by simp only [e_bb0, e_bb1, e_bb2, e_bb3, own_narb] : (nar .byte bb0) = bb0)).2 ?_
                show Steps p.tables e below (T49.setTop (mkF m 121 #[.val (.int p1), .val (.int p2), .val (.int (3 : Int32)), .val (.int (((p2.toUInt32 >>> ((2 : Int32) &&& 31).toUInt32).toInt32) &&& (15 : Int32))), .val (.int bb0), .val (.int bb1), .val (.int bb2), .val (.int bb3), .val (.int (1 : Int32)), .val (.ref b1_48), .val (.ref b2_4_49), .unset] [])) _
                refine XS.iconst X49.here hx rfl (hb hby at_121) ?_
                refine XS.goto X49.here hx rfl (pc0 := 122) (pc' := 126) rfl (hb hby at_122) (by decide) (by decide) ?_
                refine XS.istore X49.here hx rfl (hb hby at_126) rfl (l' := #[.val (.int p1), .val (.int p2), .val (.int (3 : Int32)), .val (.int (((p2.toUInt32 >>> ((2 : Int32) &&& 31).toUInt32).toInt32) &&& (15 : Int32))), .val (.int bb0), .val (.int bb1), .val (.int bb2), .val (.int bb3), .val (.int (1 : Int32)), .val (.ref b1_48), .val (.ref b2_4_49), .val (.int (1 : Int32))]) rfl ?_
                show Steps p.tables e below (T49.setTop (mkF m 128 #[.val (.int p1), .val (.int p2), .val (.int (3 : Int32)), .val (.int (((p2.toUInt32 >>> ((2 : Int32) &&& 31).toUInt32).toInt32) &&& (15 : Int32))), .val (.int bb0), .val (.int bb1), .val (.int bb2), .val (.int bb3), .val (.int (1 : Int32)), .val (.ref b1_48), .val (.ref b2_4_49), .val (.int (1 : Int32))] [])) _
                refine XS.iload X49.here hx rfl (hb hby at_128) rfl ?_
                refine XS.iconst X49.here hx rfl (hb hby at_130) ?_
                refine XS.icmpNo X49.here hx rfl (hb hby at_131) rfl (flt (by decide : ¬ ((1 : Int32) < (1 : Int32)))).1 ?_
                show Steps p.tables e below (T49.setTop (mkF m 134 #[.val (.int p1), .val (.int p2), .val (.int (3 : Int32)), .val (.int (((p2.toUInt32 >>> ((2 : Int32) &&& 31).toUInt32).toInt32) &&& (15 : Int32))), .val (.int bb0), .val (.int bb1), .val (.int bb2), .val (.int bb3), .val (.int (1 : Int32)), .val (.ref b1_48), .val (.ref b2_4_49), .val (.int (1 : Int32))] [])) _
                refine XS.iload X49.here hx rfl (hb hby at_134) rfl ?_
                refine XS.ifNo X49.here hx rfl (hb hby at_136) rfl ((if0 _ _).trans (feq (by decide : ¬ ((1 : Int32) = (0 : Int32)))).1) ?_
                refine XS.aload X49.here hx rfl (hb hby at_139) rfl rfl ?_
                show Steps p.tables e below (T49.setTop (mkF m 141 #[.val (.int p1), .val (.int p2), .val (.int (3 : Int32)), .val (.int (((p2.toUInt32 >>> ((2 : Int32) &&& 31).toUInt32).toInt32) &&& (15 : Int32))), .val (.int bb0), .val (.int bb1), .val (.int bb2), .val (.int bb3), .val (.int (1 : Int32)), .val (.ref b1_48), .val (.ref b2_4_49), .val (.int (1 : Int32))] [(.ref b2_4_49)])) _
                refine XS.iconst X49.here hx rfl (hb hby at_141) ?_
                refine X49.baloadBytes hx (j := (1 : Int32)) (v := (.int (nar .byte (((nar .byte bb1) + (1 : Int32)).toInt8.toInt32)))) (by exact Ar_b2_4_49_142_52.1) (State.isArrayOf_alike hZ.alike Ar_b2_4_49_142_52.2.1) Ar_b2_4_49_142_52.2.2 hin_b2_4_49_142_52 (H_b2_4_49_142_52.at hin_b2_4_49_142_52 rfl) (g := (mkF m 142 #[.val (.int p1), .val (.int p2), .val (.int (3 : Int32)), .val (.int (((p2.toUInt32 >>> ((2 : Int32) &&& 31).toUInt32).toInt32) &&& (15 : Int32))), .val (.int bb0), .val (.int bb1), .val (.int bb2), .val (.int bb3), .val (.int (1 : Int32)), .val (.ref b1_48), .val (.ref b2_4_49), .val (.int (1 : Int32))] [(.int (1 : Int32)), (.ref b2_4_49)])) rfl rfl (hb hby at_142) _ ?_
                show Steps p.tables e below (T49.setTop (mkF m 143 #[.val (.int p1), .val (.int p2), .val (.int (3 : Int32)), .val (.int (((p2.toUInt32 >>> ((2 : Int32) &&& 31).toUInt32).toInt32) &&& (15 : Int32))), .val (.int bb0), .val (.int bb1), .val (.int bb2), .val (.int bb3), .val (.int (1 : Int32)), .val (.ref b1_48), .val (.ref b2_4_49), .val (.int (1 : Int32))] [(.int (nar .byte (((nar .byte bb1) + (1 : Int32)).toInt8.toInt32)))])) _
                refine XS.iload X49.here hx rfl (hb hby at_143) rfl ?_
                show Steps p.tables e below (T49.setTop (mkF m 145 #[.val (.int p1), .val (.int p2), .val (.int (3 : Int32)), .val (.int (((p2.toUInt32 >>> ((2 : Int32) &&& 31).toUInt32).toInt32) &&& (15 : Int32))), .val (.int bb0), .val (.int bb1), .val (.int bb2), .val (.int bb3), .val (.int (1 : Int32)), .val (.ref b1_48), .val (.ref b2_4_49), .val (.int (1 : Int32))] [(.int (1 : Int32)), (.int (nar .byte (((nar .byte bb1) + (1 : Int32)).toInt8.toInt32)))])) _
                refine XS.iconst X49.here hx rfl (hb hby at_145) ?_
                refine XS.icmpNo X49.here hx rfl (hb hby at_146) rfl (teq (by decide : (1 : Int32) = (1 : Int32))).2 ?_
                refine XS.iload X49.here hx rfl (hb hby at_149) rfl ?_
                show Steps p.tables e below (T49.setTop (mkF m 151 #[.val (.int p1), .val (.int p2), .val (.int (3 : Int32)), .val (.int (((p2.toUInt32 >>> ((2 : Int32) &&& 31).toUInt32).toInt32) &&& (15 : Int32))), .val (.int bb0), .val (.int bb1), .val (.int bb2), .val (.int bb3), .val (.int (1 : Int32)), .val (.ref b1_48), .val (.ref b2_4_49), .val (.int (1 : Int32))] [(.int bb1), (.int (nar .byte (((nar .byte bb1) + (1 : Int32)).toInt8.toInt32)))])) _
                refine XS.iconst X49.here hx rfl (hb hby at_151) ?_
                refine XS.iadd X49.here hx rfl (hb hby at_152) rfl ?_
                refine XS.i2b X49.here hx rfl (hb hby at_153) rfl ?_
                show Steps p.tables e below (T49.setTop (mkF m 154 #[.val (.int p1), .val (.int p2), .val (.int (3 : Int32)), .val (.int (((p2.toUInt32 >>> ((2 : Int32) &&& 31).toUInt32).toInt32) &&& (15 : Int32))), .val (.int bb0), .val (.int bb1), .val (.int bb2), .val (.int bb3), .val (.int (1 : Int32)), .val (.ref b1_48), .val (.ref b2_4_49), .val (.int (1 : Int32))] [(.int ((bb1 + (1 : Int32)).toInt8.toInt32)), (.int (nar .byte (((nar .byte bb1) + (1 : Int32)).toInt8.toInt32)))])) _
                refine XS.goto X49.here hx rfl (pc0 := 154) (pc' := 159) rfl (hb hby at_154) (by decide) (by decide) ?_
                refine XS.icmpNo X49.here hx rfl (hb hby at_159) rfl (teq (by simp only [e_bb0, e_bb1, e_bb2, e_bb3, own_narb] : (nar .byte (((nar .byte bb1) + (1 : Int32)).toInt8.toInt32)) = ((bb1 + (1 : Int32)).toInt8.toInt32))).2 ?_
                refine XS.iconst X49.here hx rfl (hb hby at_162) ?_
                show Steps p.tables e below (T49.setTop (mkF m 163 #[.val (.int p1), .val (.int p2), .val (.int (3 : Int32)), .val (.int (((p2.toUInt32 >>> ((2 : Int32) &&& 31).toUInt32).toInt32) &&& (15 : Int32))), .val (.int bb0), .val (.int bb1), .val (.int bb2), .val (.int bb3), .val (.int (1 : Int32)), .val (.ref b1_48), .val (.ref b2_4_49), .val (.int (1 : Int32))] [(.int (1 : Int32))])) _
                refine XS.goto X49.here hx rfl (pc0 := 163) (pc' := 167) rfl (hb hby at_163) (by decide) (by decide) ?_
                refine XS.istore X49.here hx rfl (hb hby at_167) rfl (l' := #[.val (.int p1), .val (.int p2), .val (.int (3 : Int32)), .val (.int (((p2.toUInt32 >>> ((2 : Int32) &&& 31).toUInt32).toInt32) &&& (15 : Int32))), .val (.int bb0), .val (.int bb1), .val (.int bb2), .val (.int bb3), .val (.int (1 : Int32)), .val (.ref b1_48), .val (.ref b2_4_49), .val (.int (1 : Int32))]) rfl ?_
                refine XS.iload X49.here hx rfl (hb hby at_169) rfl ?_
                show Steps p.tables e below (T49.setTop (mkF m 171 #[.val (.int p1), .val (.int p2), .val (.int (3 : Int32)), .val (.int (((p2.toUInt32 >>> ((2 : Int32) &&& 31).toUInt32).toInt32) &&& (15 : Int32))), .val (.int bb0), .val (.int bb1), .val (.int bb2), .val (.int bb3), .val (.int (1 : Int32)), .val (.ref b1_48), .val (.ref b2_4_49), .val (.int (1 : Int32))] [(.int (1 : Int32))])) _
                refine XS.iconst X49.here hx rfl (hb hby at_171) ?_
                refine XS.icmpYes X49.here hx rfl (pc0 := 172) (pc' := 210) rfl (hb hby at_172) rfl (tlt (by decide : (1 : Int32) < (2 : Int32))).1 (by decide) (by decide) ?_
                refine XS.iload X49.here hx rfl (hb hby at_210) rfl ?_
                show Steps p.tables e below (T49.setTop (mkF m 212 #[.val (.int p1), .val (.int p2), .val (.int (3 : Int32)), .val (.int (((p2.toUInt32 >>> ((2 : Int32) &&& 31).toUInt32).toInt32) &&& (15 : Int32))), .val (.int bb0), .val (.int bb1), .val (.int bb2), .val (.int bb3), .val (.int (1 : Int32)), .val (.ref b1_48), .val (.ref b2_4_49), .val (.int (1 : Int32))] [(.int (1 : Int32))])) _
                refine XS.iconst X49.here hx rfl (hb hby at_212) ?_
                refine XS.icmpYes X49.here hx rfl (pc0 := 213) (pc' := 240) rfl (hb hby at_213) rfl (tlt (by decide : (1 : Int32) < (3 : Int32))).1 (by decide) (by decide) ?_
                refine XS.iload X49.here hx rfl (hb hby at_240) rfl ?_
                show Steps p.tables e below (T49.setTop (mkF m 242 #[.val (.int p1), .val (.int p2), .val (.int (3 : Int32)), .val (.int (((p2.toUInt32 >>> ((2 : Int32) &&& 31).toUInt32).toInt32) &&& (15 : Int32))), .val (.int bb0), .val (.int bb1), .val (.int bb2), .val (.int bb3), .val (.int (1 : Int32)), .val (.ref b1_48), .val (.ref b2_4_49), .val (.int (1 : Int32))] [(.int (1 : Int32))])) _
                refine XS.ifNo X49.here hx rfl (hb hby at_242) rfl ((if0 _ _).trans (feq (by decide : ¬ ((1 : Int32) = (0 : Int32)))).1) ?_
                refine XS.aload X49.here hx rfl (hb hby at_245) rfl rfl ?_
                refine XS.iconst X49.here hx rfl (hb hby at_247) ?_
                show Steps p.tables e below (T49.setTop (mkF m 248 #[.val (.int p1), .val (.int p2), .val (.int (3 : Int32)), .val (.int (((p2.toUInt32 >>> ((2 : Int32) &&& 31).toUInt32).toInt32) &&& (15 : Int32))), .val (.int bb0), .val (.int bb1), .val (.int bb2), .val (.int bb3), .val (.int (1 : Int32)), .val (.ref b1_48), .val (.ref b2_4_49), .val (.int (1 : Int32))] [(.int (0 : Int32)), (.ref b1_48)])) _
                refine X49.baloadBytes hx (j := (0 : Int32)) (v := (.int (nar .byte bb0))) (by exact Ar_b1_48_248_53.1) (State.isArrayOf_alike hZ.alike Ar_b1_48_248_53.2.1) Ar_b1_48_248_53.2.2 hin_b1_48_248_53 (H_b1_48_248_53.at hin_b1_48_248_53 rfl) (g := (mkF m 248 #[.val (.int p1), .val (.int p2), .val (.int (3 : Int32)), .val (.int (((p2.toUInt32 >>> ((2 : Int32) &&& 31).toUInt32).toInt32) &&& (15 : Int32))), .val (.int bb0), .val (.int bb1), .val (.int bb2), .val (.int bb3), .val (.int (1 : Int32)), .val (.ref b1_48), .val (.ref b2_4_49), .val (.int (1 : Int32))] [(.int (0 : Int32)), (.ref b1_48)])) rfl rfl (hb hby at_248) _ ?_
                show Steps p.tables e below (T49.setTop (mkF m 249 #[.val (.int p1), .val (.int p2), .val (.int (3 : Int32)), .val (.int (((p2.toUInt32 >>> ((2 : Int32) &&& 31).toUInt32).toInt32) &&& (15 : Int32))), .val (.int bb0), .val (.int bb1), .val (.int bb2), .val (.int bb3), .val (.int (1 : Int32)), .val (.ref b1_48), .val (.ref b2_4_49), .val (.int (1 : Int32))] [(.int (nar .byte bb0))])) _
                refine XS.iload X49.here hx rfl (hb hby at_249) rfl ?_
                refine XS.icmpNo X49.here hx rfl (hb hby at_251) rfl (teq (by simp only [e_bb0, e_bb1, e_bb2, e_bb3, own_narb] : (nar .byte bb0) = bb0)).2 ?_
                show Steps p.tables e below (T49.setTop (mkF m 254 #[.val (.int p1), .val (.int p2), .val (.int (3 : Int32)), .val (.int (((p2.toUInt32 >>> ((2 : Int32) &&& 31).toUInt32).toInt32) &&& (15 : Int32))), .val (.int bb0), .val (.int bb1), .val (.int bb2), .val (.int bb3), .val (.int (1 : Int32)), .val (.ref b1_48), .val (.ref b2_4_49), .val (.int (1 : Int32))] [])) _
                refine XS.iconst X49.here hx rfl (hb hby at_254) ?_
                refine XS.goto X49.here hx rfl (pc0 := 255) (pc' := 259) rfl (hb hby at_255) (by decide) (by decide) ?_
                refine XS.istore X49.here hx rfl (hb hby at_259) rfl (l' := #[.val (.int p1), .val (.int p2), .val (.int (3 : Int32)), .val (.int (((p2.toUInt32 >>> ((2 : Int32) &&& 31).toUInt32).toInt32) &&& (15 : Int32))), .val (.int bb0), .val (.int bb1), .val (.int bb2), .val (.int bb3), .val (.int (1 : Int32)), .val (.ref b1_48), .val (.ref b2_4_49), .val (.int (1 : Int32))]) rfl ?_
                show Steps p.tables e below (T49.setTop (mkF m 261 #[.val (.int p1), .val (.int p2), .val (.int (3 : Int32)), .val (.int (((p2.toUInt32 >>> ((2 : Int32) &&& 31).toUInt32).toInt32) &&& (15 : Int32))), .val (.int bb0), .val (.int bb1), .val (.int bb2), .val (.int bb3), .val (.int (1 : Int32)), .val (.ref b1_48), .val (.ref b2_4_49), .val (.int (1 : Int32))] [])) _
                refine XS.iloadN X49.here hx rfl (hb hby at_261) rfl ?_
                refine XS.iconst X49.here hx rfl (hb hby at_262) ?_
                refine XS.icmpNo X49.here hx rfl (hb hby at_263) rfl (flt (by decide : ¬ ((3 : Int32) < (2 : Int32)))).1 ?_
                show Steps p.tables e below (T49.setTop (mkF m 266 #[.val (.int p1), .val (.int p2), .val (.int (3 : Int32)), .val (.int (((p2.toUInt32 >>> ((2 : Int32) &&& 31).toUInt32).toInt32) &&& (15 : Int32))), .val (.int bb0), .val (.int bb1), .val (.int bb2), .val (.int bb3), .val (.int (1 : Int32)), .val (.ref b1_48), .val (.ref b2_4_49), .val (.int (1 : Int32))] [])) _
                refine XS.iload X49.here hx rfl (hb hby at_266) rfl ?_
                refine XS.ifNo X49.here hx rfl (hb hby at_268) rfl ((if0 _ _).trans (feq (by decide : ¬ ((1 : Int32) = (0 : Int32)))).1) ?_
                refine XS.aload X49.here hx rfl (hb hby at_271) rfl rfl ?_
                show Steps p.tables e below (T49.setTop (mkF m 273 #[.val (.int p1), .val (.int p2), .val (.int (3 : Int32)), .val (.int (((p2.toUInt32 >>> ((2 : Int32) &&& 31).toUInt32).toInt32) &&& (15 : Int32))), .val (.int bb0), .val (.int bb1), .val (.int bb2), .val (.int bb3), .val (.int (1 : Int32)), .val (.ref b1_48), .val (.ref b2_4_49), .val (.int (1 : Int32))] [(.ref b1_48)])) _
                refine XS.iconst X49.here hx rfl (hb hby at_273) ?_
                refine X49.baloadBytes hx (j := (1 : Int32)) (v := (.int (nar .byte bb1))) (by exact Ar_b1_48_274_54.1) (State.isArrayOf_alike hZ.alike Ar_b1_48_274_54.2.1) Ar_b1_48_274_54.2.2 hin_b1_48_274_54 (H_b1_48_274_54.at hin_b1_48_274_54 rfl) (g := (mkF m 274 #[.val (.int p1), .val (.int p2), .val (.int (3 : Int32)), .val (.int (((p2.toUInt32 >>> ((2 : Int32) &&& 31).toUInt32).toInt32) &&& (15 : Int32))), .val (.int bb0), .val (.int bb1), .val (.int bb2), .val (.int bb3), .val (.int (1 : Int32)), .val (.ref b1_48), .val (.ref b2_4_49), .val (.int (1 : Int32))] [(.int (1 : Int32)), (.ref b1_48)])) rfl rfl (hb hby at_274) _ ?_
                show Steps p.tables e below (T49.setTop (mkF m 275 #[.val (.int p1), .val (.int p2), .val (.int (3 : Int32)), .val (.int (((p2.toUInt32 >>> ((2 : Int32) &&& 31).toUInt32).toInt32) &&& (15 : Int32))), .val (.int bb0), .val (.int bb1), .val (.int bb2), .val (.int bb3), .val (.int (1 : Int32)), .val (.ref b1_48), .val (.ref b2_4_49), .val (.int (1 : Int32))] [(.int (nar .byte bb1))])) _
                refine XS.iload X49.here hx rfl (hb hby at_275) rfl ?_
                show Steps p.tables e below (T49.setTop (mkF m 277 #[.val (.int p1), .val (.int p2), .val (.int (3 : Int32)), .val (.int (((p2.toUInt32 >>> ((2 : Int32) &&& 31).toUInt32).toInt32) &&& (15 : Int32))), .val (.int bb0), .val (.int bb1), .val (.int bb2), .val (.int bb3), .val (.int (1 : Int32)), .val (.ref b1_48), .val (.ref b2_4_49), .val (.int (1 : Int32))] [(.int bb1), (.int (nar .byte bb1))])) _
                refine XS.icmpNo X49.here hx rfl (hb hby at_277) rfl (teq (by simp only [e_bb0, e_bb1, e_bb2, e_bb3, own_narb] : (nar .byte bb1) = bb1)).2 ?_
                refine XS.iconst X49.here hx rfl (hb hby at_280) ?_
                refine XS.goto X49.here hx rfl (pc0 := 281) (pc' := 285) rfl (hb hby at_281) (by decide) (by decide) ?_
                show Steps p.tables e below (T49.setTop (mkF m 285 #[.val (.int p1), .val (.int p2), .val (.int (3 : Int32)), .val (.int (((p2.toUInt32 >>> ((2 : Int32) &&& 31).toUInt32).toInt32) &&& (15 : Int32))), .val (.int bb0), .val (.int bb1), .val (.int bb2), .val (.int bb3), .val (.int (1 : Int32)), .val (.ref b1_48), .val (.ref b2_4_49), .val (.int (1 : Int32))] [(.int (1 : Int32))])) _
                refine XS.istore X49.here hx rfl (hb hby at_285) rfl (l' := #[.val (.int p1), .val (.int p2), .val (.int (3 : Int32)), .val (.int (((p2.toUInt32 >>> ((2 : Int32) &&& 31).toUInt32).toInt32) &&& (15 : Int32))), .val (.int bb0), .val (.int bb1), .val (.int bb2), .val (.int bb3), .val (.int (1 : Int32)), .val (.ref b1_48), .val (.ref b2_4_49), .val (.int (1 : Int32))]) rfl ?_
                refine XS.iloadN X49.here hx rfl (hb hby at_287) rfl ?_
                refine XS.iconst X49.here hx rfl (hb hby at_288) ?_
                show Steps p.tables e below (T49.setTop (mkF m 289 #[.val (.int p1), .val (.int p2), .val (.int (3 : Int32)), .val (.int (((p2.toUInt32 >>> ((2 : Int32) &&& 31).toUInt32).toInt32) &&& (15 : Int32))), .val (.int bb0), .val (.int bb1), .val (.int bb2), .val (.int bb3), .val (.int (1 : Int32)), .val (.ref b1_48), .val (.ref b2_4_49), .val (.int (1 : Int32))] [(.int (3 : Int32)), (.int (3 : Int32))])) _
                refine XS.icmpNo X49.here hx rfl (hb hby at_289) rfl (flt (by decide : ¬ ((3 : Int32) < (3 : Int32)))).1 ?_
                refine XS.iload X49.here hx rfl (hb hby at_292) rfl ?_
                refine XS.ifNo X49.here hx rfl (hb hby at_294) rfl ((if0 _ _).trans (feq (by decide : ¬ ((1 : Int32) = (0 : Int32)))).1) ?_
                show Steps p.tables e below (T49.setTop (mkF m 297 #[.val (.int p1), .val (.int p2), .val (.int (3 : Int32)), .val (.int (((p2.toUInt32 >>> ((2 : Int32) &&& 31).toUInt32).toInt32) &&& (15 : Int32))), .val (.int bb0), .val (.int bb1), .val (.int bb2), .val (.int bb3), .val (.int (1 : Int32)), .val (.ref b1_48), .val (.ref b2_4_49), .val (.int (1 : Int32))] [])) _
                refine XS.aload X49.here hx rfl (hb hby at_297) rfl rfl ?_
                refine XS.iconst X49.here hx rfl (hb hby at_299) ?_
                refine X49.baloadBytes hx (j := (2 : Int32)) (v := (.int (nar .byte bb2))) (by exact Ar_b1_48_300_55.1) (State.isArrayOf_alike hZ.alike Ar_b1_48_300_55.2.1) Ar_b1_48_300_55.2.2 hin_b1_48_300_55 (H_b1_48_300_55.at hin_b1_48_300_55 rfl) (g := (mkF m 300 #[.val (.int p1), .val (.int p2), .val (.int (3 : Int32)), .val (.int (((p2.toUInt32 >>> ((2 : Int32) &&& 31).toUInt32).toInt32) &&& (15 : Int32))), .val (.int bb0), .val (.int bb1), .val (.int bb2), .val (.int bb3), .val (.int (1 : Int32)), .val (.ref b1_48), .val (.ref b2_4_49), .val (.int (1 : Int32))] [(.int (2 : Int32)), (.ref b1_48)])) rfl rfl (hb hby at_300) _ ?_
                show Steps p.tables e below (T49.setTop (mkF m 301 #[.val (.int p1), .val (.int p2), .val (.int (3 : Int32)), .val (.int (((p2.toUInt32 >>> ((2 : Int32) &&& 31).toUInt32).toInt32) &&& (15 : Int32))), .val (.int bb0), .val (.int bb1), .val (.int bb2), .val (.int bb3), .val (.int (1 : Int32)), .val (.ref b1_48), .val (.ref b2_4_49), .val (.int (1 : Int32))] [(.int (nar .byte bb2))])) _
                refine XS.iload X49.here hx rfl (hb hby at_301) rfl ?_
                refine XS.icmpNo X49.here hx rfl (hb hby at_303) rfl (teq (by simp only [e_bb0, e_bb1, e_bb2, e_bb3, own_narb] : (nar .byte bb2) = bb2)).2 ?_
                refine XS.iconst X49.here hx rfl (hb hby at_306) ?_
                show Steps p.tables e below (T49.setTop (mkF m 307 #[.val (.int p1), .val (.int p2), .val (.int (3 : Int32)), .val (.int (((p2.toUInt32 >>> ((2 : Int32) &&& 31).toUInt32).toInt32) &&& (15 : Int32))), .val (.int bb0), .val (.int bb1), .val (.int bb2), .val (.int bb3), .val (.int (1 : Int32)), .val (.ref b1_48), .val (.ref b2_4_49), .val (.int (1 : Int32))] [(.int (1 : Int32))])) _
                refine XS.goto X49.here hx rfl (pc0 := 307) (pc' := 311) rfl (hb hby at_307) (by decide) (by decide) ?_
                refine XS.istore X49.here hx rfl (hb hby at_311) rfl (l' := #[.val (.int p1), .val (.int p2), .val (.int (3 : Int32)), .val (.int (((p2.toUInt32 >>> ((2 : Int32) &&& 31).toUInt32).toInt32) &&& (15 : Int32))), .val (.int bb0), .val (.int bb1), .val (.int bb2), .val (.int bb3), .val (.int (1 : Int32)), .val (.ref b1_48), .val (.ref b2_4_49), .val (.int (1 : Int32))]) rfl ?_
                refine XS.iloadN X49.here hx rfl (hb hby at_313) rfl ?_
                show Steps p.tables e below (T49.setTop (mkF m 314 #[.val (.int p1), .val (.int p2), .val (.int (3 : Int32)), .val (.int (((p2.toUInt32 >>> ((2 : Int32) &&& 31).toUInt32).toInt32) &&& (15 : Int32))), .val (.int bb0), .val (.int bb1), .val (.int bb2), .val (.int bb3), .val (.int (1 : Int32)), .val (.ref b1_48), .val (.ref b2_4_49), .val (.int (1 : Int32))] [(.int (3 : Int32))])) _
                refine XS.iconst X49.here hx rfl (hb hby at_314) ?_
                refine XS.icmpYes X49.here hx rfl (pc0 := 315) (pc' := 339) rfl (hb hby at_315) rfl (tlt (by decide : (3 : Int32) < (4 : Int32))).1 (by decide) (by decide) ?_
                refine XS.iload X49.here hx rfl (hb hby at_339) rfl ?_
                show Steps p.tables e below (T49.setTop (mkF m 341 #[.val (.int p1), .val (.int p2), .val (.int (3 : Int32)), .val (.int (((p2.toUInt32 >>> ((2 : Int32) &&& 31).toUInt32).toInt32) &&& (15 : Int32))), .val (.int bb0), .val (.int bb1), .val (.int bb2), .val (.int bb3), .val (.int (1 : Int32)), .val (.ref b1_48), .val (.ref b2_4_49), .val (.int (1 : Int32))] [(.int (1 : Int32))])) _
                exact retN X49 hx (t := .boolean) Bd.returns (by simp) (hb hby at_341) hr
              · show Q0 Z p1 p2 h0 n0 _ T49.heap _
                exact ⟨rfl, N49⟩
            · by_cases hv56 : (res2 (3 : Int32) bb0 bb1 bb2 bb3) = (2 : Int32)
              · rw [hv56] at pre37
                obtain ⟨_, _, ⟨T57, L57, k57, n57⟩, -, X57, ⟨Lc57, hQ57, l57, y57, z57⟩, st57⟩ := Jvm.LawKit.callS X36 hx (y := (⟨"com/example/elliott_bay/elliottbay/store/KeysEndPinLaw", "make", "(IBBBB)[B"⟩ : MethodName)) hown (mvT hZ (hw _ (List.mem_of_getElem? (i := 7) rfl))) (mvT hZ (hw _ (List.mem_of_getElem? (i := 8) rfl))) (mvT hZ (hw _ (List.mem_of_getElem? (i := 2) rfl))) (mvT hZ (hw _ (List.mem_of_getElem? (i := 9) rfl))) (by decide) (backOf (W := 0) (rm_make_3 l Z a0 hw [] bb0 bb1 bb2 bb3  h0 n0 (Nat.le_trans Z0 (Keep.refl h0 []).1)  ) hZ (hw _ (List.mem_of_getElem? (i := 9) rfl)) (hw _ (List.mem_of_getElem? (i := 2) rfl)) (by decide) (by decide)) (g := (mkF m 75 #[.val (.int p1), .val (.int p2), .val (.int (3 : Int32)), .val (.int (((p2.toUInt32 >>> ((2 : Int32) &&& 31).toUInt32).toInt32) &&& (15 : Int32))), .val (.int bb0), .val (.int bb1), .val (.int bb2), .val (.int bb3), .val (.int (2 : Int32)), .unset, .unset, .unset] [(.int bb3), (.int bb2), (.int bb1), (.int bb0), (.int (3 : Int32))])) rfl (by rw [hml]; rfl) (argsL := [(.int (3 : Int32)), (.int bb0), (.int bb1), (.int bb2), (.int bb3)]) (rest := []) (lenOf pd4 rfl) rfl (by show 2 * 0 + _ ≤ _; exact Nat.le_of_eq rfl) (hb hby at_75) (fun _ _ => ⟨rfl, e36, (by decide : 0 + 1 ≤ _), (by decide : 0 + 3 ≤ _)⟩)
                dsimp only [Pt.U, Pt.locs, Pt.cells, Pt.slots] at X57 l57 y57 z57 st57 hQ57
                subst l57 y57 z57
                obtain ⟨b1_57, k1_57, rfl, N57q, K57, s57_b1, f57_0, f57_1⟩ := hQ57
                have N57 := Fr.app N36 N57q
                have sz_b1_57 : h0.size ≤ b1_57 := Nat.le_trans (Keep.refl h0 []).1 s57_b1
                have g_b1_57 : n0 ≤ b1_57 := Nat.le_trans Z0 sz_b1_57
                have KK57 : Keep h0 T57.heap [] := (Keep.refl h0 []).trans K57 all0
                obtain ⟨_, _, ⟨T58, L58, k58, n58⟩, -, X58, ⟨Lc58, hQ58, l58, y58, z58⟩, st58⟩ := Jvm.LawKit.callS X57 hx (y := (⟨"com/example/elliott_bay/elliottbay/store/Keys", "end", "([B)[B"⟩ : MethodName)) hown (mvT hZ (hw _ (List.mem_of_getElem? (i := 11) rfl))) (mvT hZ (hw _ (List.mem_of_getElem? (i := 12) rfl))) (mvT hZ (hw _ (List.mem_of_getElem? (i := 13) rfl))) (mvT hZ (hw _ (List.mem_of_getElem? (i := 14) rfl))) (by decide) (backOf (W := 0) (rm_end_3_2 l Z a0 hw [] b1_57 k1_57 (nar .byte bb0) (nar .byte bb1) (nar .byte bb2) T57.heap n0 (Nat.le_trans Z0 KK57.1) f57_0 f57_1 ((own_l_3_2 e_bb0 e_bb1 e_bb2 e_bb3 hv56) : ¬ ((nar .byte bb2) = (-1 : Int32)))) hZ (hw _ (List.mem_of_getElem? (i := 14) rfl)) (hw _ (List.mem_of_getElem? (i := 13) rfl)) (by decide) (by decide)) (g := (mkF m 82 #[.val (.int p1), .val (.int p2), .val (.int (3 : Int32)), .val (.int (((p2.toUInt32 >>> ((2 : Int32) &&& 31).toUInt32).toInt32) &&& (15 : Int32))), .val (.int bb0), .val (.int bb1), .val (.int bb2), .val (.int bb3), .val (.int (2 : Int32)), .val (.ref b1_57), .unset, .unset] [(.ref b1_57)])) rfl (by rw [hml]; rfl) (argsL := [(.ref b1_57)]) (rest := []) (lenOf pd5 rfl) rfl (by show 2 * 0 + _ ≤ _; exact Nat.le_of_eq rfl) (hb hby at_82) (fun _ _ => ⟨rfl, rfl, (by decide : 1 + 1 ≤ _), (by decide : 3 + 3 ≤ _)⟩)
                dsimp only [Pt.U, Pt.locs, Pt.cells, Pt.slots] at X58 l58 y58 z58 st58 hQ58
                subst l58 y58 z58
                obtain ⟨b2_3_58, rfl, N58q, K58, s58_b2_3, f58_0, f58_1⟩ := hQ58
                have N58 := Fr.app N57 N58q
                have sz_b2_3_58 : h0.size ≤ b2_3_58 := Nat.le_trans KK57.1 s58_b2_3
                have g_b2_3_58 : n0 ≤ b2_3_58 := Nat.le_trans Z0 sz_b2_3_58
                have KK58 : Keep h0 T58.heap [] := KK57.trans K58 all0
                obtain ⟨cl_b2_3_58_89_59, Ar_b2_3_58_89_59, -, S_b2_3_58_89_59, N_b2_3_58_89_59, -, -⟩ := id f58_0
                obtain ⟨cl_b2_3_58_102_60, Ar_b2_3_58_102_60, q_b2_3_58_102_60, S_b2_3_58_102_60, N_b2_3_58_102_60, H_b2_3_58_102_60, G_b2_3_58_102_60⟩ := id f58_0
                have hin_b2_3_58_102_60 : ¬ ((0 : Int32) < 0 ∨ cl_b2_3_58_102_60.slots.size ≤ ((0 : Int32) : Int32).toNatClampNeg) := inb_of S_b2_3_58_102_60 ⟨by decide, by decide⟩
                obtain ⟨cl_b2_3_58_142_61, Ar_b2_3_58_142_61, q_b2_3_58_142_61, S_b2_3_58_142_61, N_b2_3_58_142_61, H_b2_3_58_142_61, G_b2_3_58_142_61⟩ := id f58_0
                have hin_b2_3_58_142_61 : ¬ ((1 : Int32) < 0 ∨ cl_b2_3_58_142_61.slots.size ≤ ((1 : Int32) : Int32).toNatClampNeg) := inb_of S_b2_3_58_142_61 ⟨by decide, by decide⟩
                obtain ⟨cl_b2_3_58_183_62, Ar_b2_3_58_183_62, q_b2_3_58_183_62, S_b2_3_58_183_62, N_b2_3_58_183_62, H_b2_3_58_183_62, G_b2_3_58_183_62⟩ := id f58_0
                have hin_b2_3_58_183_62 : ¬ ((2 : Int32) < 0 ∨ cl_b2_3_58_183_62.slots.size ≤ ((2 : Int32) : Int32).toNatClampNeg) := inb_of S_b2_3_58_183_62 ⟨by decide, by decide⟩
                obtain ⟨cl_b1_57_248_63, Ar_b1_57_248_63, q_b1_57_248_63, S_b1_57_248_63, N_b1_57_248_63, H_b1_57_248_63, G_b1_57_248_63⟩ := id (f57_0.keep K58 nin0)
                have hin_b1_57_248_63 : ¬ ((0 : Int32) < 0 ∨ cl_b1_57_248_63.slots.size ≤ ((0 : Int32) : Int32).toNatClampNeg) := inb_of S_b1_57_248_63 ⟨by decide, by decide⟩
                obtain ⟨cl_b1_57_274_64, Ar_b1_57_274_64, q_b1_57_274_64, S_b1_57_274_64, N_b1_57_274_64, H_b1_57_274_64, G_b1_57_274_64⟩ := id (f57_0.keep K58 nin0)
                have hin_b1_57_274_64 : ¬ ((1 : Int32) < 0 ∨ cl_b1_57_274_64.slots.size ≤ ((1 : Int32) : Int32).toNatClampNeg) := inb_of S_b1_57_274_64 ⟨by decide, by decide⟩
                obtain ⟨cl_b1_57_300_65, Ar_b1_57_300_65, q_b1_57_300_65, S_b1_57_300_65, N_b1_57_300_65, H_b1_57_300_65, G_b1_57_300_65⟩ := id (f57_0.keep K58 nin0)
                have hin_b1_57_300_65 : ¬ ((2 : Int32) < 0 ∨ cl_b1_57_300_65.slots.size ≤ ((2 : Int32) : Int32).toNatClampNeg) := inb_of S_b1_57_300_65 ⟨by decide, by decide⟩
                obtain ⟨fs, hr, hrun, hended, hW, hsame⟩ := X58.leave (v := some (.int (1 : Int32))) (fun h => by rw [Bd.returns] at h; cases h)
                refine ⟨_, _, pre37 _ ?_, hrun, hended, _, _, rfl, ?_, ⟨_, rfl⟩, hW, hsame.mono (by decide) (by decide)⟩
                · show Steps p.tables e below (T36.setTop (mkF m 57 #[.val (.int p1), .val (.int p2), .val (.int (3 : Int32)), .val (.int (((p2.toUInt32 >>> ((2 : Int32) &&& 31).toUInt32).toInt32) &&& (15 : Int32))), .val (.int bb0), .val (.int bb1), .val (.int bb2), .val (.int bb3), .unset, .unset, .unset, .unset] [(.int (2 : Int32))])) _
                  refine XS.istore X36.here hx rfl (hb hby at_57) rfl (l' := #[.val (.int p1), .val (.int p2), .val (.int (3 : Int32)), .val (.int (((p2.toUInt32 >>> ((2 : Int32) &&& 31).toUInt32).toInt32) &&& (15 : Int32))), .val (.int bb0), .val (.int bb1), .val (.int bb2), .val (.int bb3), .val (.int (2 : Int32)), .unset, .unset, .unset]) rfl ?_
                  refine XS.iload X36.here hx rfl (hb hby at_59) rfl ?_
                  refine XS.ifYes X36.here hx rfl (pc0 := 61) (pc' := 66) rfl (hb hby at_61) rfl ((if0 _ _).trans (flt (by decide : ¬ ((2 : Int32) < (0 : Int32)))).2.1) (by decide) (by decide) ?_
                  show Steps p.tables e below (T36.setTop (mkF m 66 #[.val (.int p1), .val (.int p2), .val (.int (3 : Int32)), .val (.int (((p2.toUInt32 >>> ((2 : Int32) &&& 31).toUInt32).toInt32) &&& (15 : Int32))), .val (.int bb0), .val (.int bb1), .val (.int bb2), .val (.int bb3), .val (.int (2 : Int32)), .unset, .unset, .unset] [])) _
                  refine XS.iloadN X36.here hx rfl (hb hby at_66) rfl ?_
                  refine XS.iload X36.here hx rfl (hb hby at_67) rfl ?_
                  refine XS.iload X36.here hx rfl (hb hby at_69) rfl ?_
                  show Steps p.tables e below (T36.setTop (mkF m 71 #[.val (.int p1), .val (.int p2), .val (.int (3 : Int32)), .val (.int (((p2.toUInt32 >>> ((2 : Int32) &&& 31).toUInt32).toInt32) &&& (15 : Int32))), .val (.int bb0), .val (.int bb1), .val (.int bb2), .val (.int bb3), .val (.int (2 : Int32)), .unset, .unset, .unset] [(.int bb1), (.int bb0), (.int (3 : Int32))])) _
                  refine XS.iload X36.here hx rfl (hb hby at_71) rfl ?_
                  refine XS.iload X36.here hx rfl (hb hby at_73) rfl ?_
                  show Steps p.tables e below (T36.setTop (mkF m 75 #[.val (.int p1), .val (.int p2), .val (.int (3 : Int32)), .val (.int (((p2.toUInt32 >>> ((2 : Int32) &&& 31).toUInt32).toInt32) &&& (15 : Int32))), .val (.int bb0), .val (.int bb1), .val (.int bb2), .val (.int bb3), .val (.int (2 : Int32)), .unset, .unset, .unset] [(.int bb3), (.int bb2), (.int bb1), (.int bb0), (.int (3 : Int32))])) _
                  refine st57 _ ?_
                  show Steps p.tables e below (T57.setTop (mkF m 78 #[.val (.int p1), .val (.int p2), .val (.int (3 : Int32)), .val (.int (((p2.toUInt32 >>> ((2 : Int32) &&& 31).toUInt32).toInt32) &&& (15 : Int32))), .val (.int bb0), .val (.int bb1), .val (.int bb2), .val (.int bb3), .val (.int (2 : Int32)), .unset, .unset, .unset] [(.ref b1_57)])) _
                  refine XS.astore X57.here hx rfl (hb hby at_78) rfl rfl (l' := #[.val (.int p1), .val (.int p2), .val (.int (3 : Int32)), .val (.int (((p2.toUInt32 >>> ((2 : Int32) &&& 31).toUInt32).toInt32) &&& (15 : Int32))), .val (.int bb0), .val (.int bb1), .val (.int bb2), .val (.int bb3), .val (.int (2 : Int32)), .val (.ref b1_57), .unset, .unset]) rfl ?_
                  show Steps p.tables e below (T57.setTop (mkF m 80 #[.val (.int p1), .val (.int p2), .val (.int (3 : Int32)), .val (.int (((p2.toUInt32 >>> ((2 : Int32) &&& 31).toUInt32).toInt32) &&& (15 : Int32))), .val (.int bb0), .val (.int bb1), .val (.int bb2), .val (.int bb3), .val (.int (2 : Int32)), .val (.ref b1_57), .unset, .unset] [])) _
                  refine XS.aload X57.here hx rfl (hb hby at_80) rfl rfl ?_
                  show Steps p.tables e below (T57.setTop (mkF m 82 #[.val (.int p1), .val (.int p2), .val (.int (3 : Int32)), .val (.int (((p2.toUInt32 >>> ((2 : Int32) &&& 31).toUInt32).toInt32) &&& (15 : Int32))), .val (.int bb0), .val (.int bb1), .val (.int bb2), .val (.int bb3), .val (.int (2 : Int32)), .val (.ref b1_57), .unset, .unset] [(.ref b1_57)])) _
                  refine st58 _ ?_
                  show Steps p.tables e below (T58.setTop (mkF m 85 #[.val (.int p1), .val (.int p2), .val (.int (3 : Int32)), .val (.int (((p2.toUInt32 >>> ((2 : Int32) &&& 31).toUInt32).toInt32) &&& (15 : Int32))), .val (.int bb0), .val (.int bb1), .val (.int bb2), .val (.int bb3), .val (.int (2 : Int32)), .val (.ref b1_57), .unset, .unset] [(.ref b2_3_58)])) _
                  refine XS.astore X58.here hx rfl (hb hby at_85) rfl rfl (l' := #[.val (.int p1), .val (.int p2), .val (.int (3 : Int32)), .val (.int (((p2.toUInt32 >>> ((2 : Int32) &&& 31).toUInt32).toInt32) &&& (15 : Int32))), .val (.int bb0), .val (.int bb1), .val (.int bb2), .val (.int bb3), .val (.int (2 : Int32)), .val (.ref b1_57), .val (.ref b2_3_58), .unset]) rfl ?_
                  refine XS.aload X58.here hx rfl (hb hby at_87) rfl rfl ?_
                  show Steps p.tables e below (T58.setTop (mkF m 89 #[.val (.int p1), .val (.int p2), .val (.int (3 : Int32)), .val (.int (((p2.toUInt32 >>> ((2 : Int32) &&& 31).toUInt32).toInt32) &&& (15 : Int32))), .val (.int bb0), .val (.int bb1), .val (.int bb2), .val (.int bb3), .val (.int (2 : Int32)), .val (.ref b1_57), .val (.ref b2_3_58), .unset] [(.ref b2_3_58)])) _
                  refine X58.arraylength hx (by exact Ar_b2_3_58_89_59.1) (State.isArrayOf_alike hZ.alike Ar_b2_3_58_89_59.2.1) (g := (mkF m 89 #[.val (.int p1), .val (.int p2), .val (.int (3 : Int32)), .val (.int (((p2.toUInt32 >>> ((2 : Int32) &&& 31).toUInt32).toInt32) &&& (15 : Int32))), .val (.int bb0), .val (.int bb1), .val (.int bb2), .val (.int bb3), .val (.int (2 : Int32)), .val (.ref b1_57), .val (.ref b2_3_58), .unset] [(.ref b2_3_58)])) rfl rfl (hb hby at_89) _ ?_
                  rw [len_of S_b2_3_58_89_59 N_b2_3_58_89_59]
                  show Steps p.tables e below (T58.setTop (mkF m 90 #[.val (.int p1), .val (.int p2), .val (.int (3 : Int32)), .val (.int (((p2.toUInt32 >>> ((2 : Int32) &&& 31).toUInt32).toInt32) &&& (15 : Int32))), .val (.int bb0), .val (.int bb1), .val (.int bb2), .val (.int bb3), .val (.int (2 : Int32)), .val (.ref b1_57), .val (.ref b2_3_58), .unset] [(.int (3 : Int32))])) _
                  refine XS.iload X58.here hx rfl (hb hby at_90) rfl ?_
                  refine XS.iconst X58.here hx rfl (hb hby at_92) ?_
                  show Steps p.tables e below (T58.setTop (mkF m 93 #[.val (.int p1), .val (.int p2), .val (.int (3 : Int32)), .val (.int (((p2.toUInt32 >>> ((2 : Int32) &&& 31).toUInt32).toInt32) &&& (15 : Int32))), .val (.int bb0), .val (.int bb1), .val (.int bb2), .val (.int bb3), .val (.int (2 : Int32)), .val (.ref b1_57), .val (.ref b2_3_58), .unset] [(.int (1 : Int32)), (.int (2 : Int32)), (.int (3 : Int32))])) _
                  refine XS.iadd X58.here hx rfl (hb hby at_93) rfl ?_
                  refine XS.icmpYes X58.here hx rfl (pc0 := 94) (pc' := 99) rfl (hb hby at_94) rfl (teq (by decide : (3 : Int32) = (3 : Int32))).1 (by decide) (by decide) ?_
                  refine XS.aload X58.here hx rfl (hb hby at_99) rfl rfl ?_
                  show Steps p.tables e below (T58.setTop (mkF m 101 #[.val (.int p1), .val (.int p2), .val (.int (3 : Int32)), .val (.int (((p2.toUInt32 >>> ((2 : Int32) &&& 31).toUInt32).toInt32) &&& (15 : Int32))), .val (.int bb0), .val (.int bb1), .val (.int bb2), .val (.int bb3), .val (.int (2 : Int32)), .val (.ref b1_57), .val (.ref b2_3_58), .unset] [(.ref b2_3_58)])) _
                  refine XS.iconst X58.here hx rfl (hb hby at_101) ?_
                  refine X58.baloadBytes hx (j := (0 : Int32)) (v := (.int (nar .byte bb0))) (by exact Ar_b2_3_58_102_60.1) (State.isArrayOf_alike hZ.alike Ar_b2_3_58_102_60.2.1) Ar_b2_3_58_102_60.2.2 hin_b2_3_58_102_60 (H_b2_3_58_102_60.at hin_b2_3_58_102_60 rfl) (g := (mkF m 102 #[.val (.int p1), .val (.int p2), .val (.int (3 : Int32)), .val (.int (((p2.toUInt32 >>> ((2 : Int32) &&& 31).toUInt32).toInt32) &&& (15 : Int32))), .val (.int bb0), .val (.int bb1), .val (.int bb2), .val (.int bb3), .val (.int (2 : Int32)), .val (.ref b1_57), .val (.ref b2_3_58), .unset] [(.int (0 : Int32)), (.ref b2_3_58)])) rfl rfl (hb hby at_102) _ ?_
                  show Steps p.tables e below (T58.setTop (mkF m 103 #[.val (.int p1), .val (.int p2), .val (.int (3 : Int32)), .val (.int (((p2.toUInt32 >>> ((2 : Int32) &&& 31).toUInt32).toInt32) &&& (15 : Int32))), .val (.int bb0), .val (.int bb1), .val (.int bb2), .val (.int bb3), .val (.int (2 : Int32)), .val (.ref b1_57), .val (.ref b2_3_58), .unset] [(.int (nar .byte bb0))])) _
                  refine XS.iload X58.here hx rfl (hb hby at_103) rfl ?_
                  show Steps p.tables e below (T58.setTop (mkF m 105 #[.val (.int p1), .val (.int p2), .val (.int (3 : Int32)), .val (.int (((p2.toUInt32 >>> ((2 : Int32) &&& 31).toUInt32).toInt32) &&& (15 : Int32))), .val (.int bb0), .val (.int bb1), .val (.int bb2), .val (.int bb3), .val (.int (2 : Int32)), .val (.ref b1_57), .val (.ref b2_3_58), .unset] [(.int (2 : Int32)), (.int (nar .byte bb0))])) _
                  refine XS.ifYes X58.here hx rfl (pc0 := 105) (pc' := 116) rfl (hb hby at_105) rfl ((if0 _ _).trans (feq (by decide : ¬ ((2 : Int32) = (0 : Int32)))).2) (by decide) (by decide) ?_
                  refine XS.iload X58.here hx rfl (hb hby at_116) rfl ?_
                  refine XS.icmpNo X58.here hx rfl (hb hby at_118) rfl (teq (by simp only [e_bb0, e_bb1, e_bb2, e_bb3, own_narb] : (nar .byte bb0) = bb0)).2 ?_
                  show Steps p.tables e below (T58.setTop (mkF m 121 #[.val (.int p1), .val (.int p2), .val (.int (3 : Int32)), .val (.int (((p2.toUInt32 >>> ((2 : Int32) &&& 31).toUInt32).toInt32) &&& (15 : Int32))), .val (.int bb0), .val (.int bb1), .val (.int bb2), .val (.int bb3), .val (.int (2 : Int32)), .val (.ref b1_57), .val (.ref b2_3_58), .unset] [])) _
                  refine XS.iconst X58.here hx rfl (hb hby at_121) ?_
                  refine XS.goto X58.here hx rfl (pc0 := 122) (pc' := 126) rfl (hb hby at_122) (by decide) (by decide) ?_
                  refine XS.istore X58.here hx rfl (hb hby at_126) rfl (l' := #[.val (.int p1), .val (.int p2), .val (.int (3 : Int32)), .val (.int (((p2.toUInt32 >>> ((2 : Int32) &&& 31).toUInt32).toInt32) &&& (15 : Int32))), .val (.int bb0), .val (.int bb1), .val (.int bb2), .val (.int bb3), .val (.int (2 : Int32)), .val (.ref b1_57), .val (.ref b2_3_58), .val (.int (1 : Int32))]) rfl ?_
                  show Steps p.tables e below (T58.setTop (mkF m 128 #[.val (.int p1), .val (.int p2), .val (.int (3 : Int32)), .val (.int (((p2.toUInt32 >>> ((2 : Int32) &&& 31).toUInt32).toInt32) &&& (15 : Int32))), .val (.int bb0), .val (.int bb1), .val (.int bb2), .val (.int bb3), .val (.int (2 : Int32)), .val (.ref b1_57), .val (.ref b2_3_58), .val (.int (1 : Int32))] [])) _
                  refine XS.iload X58.here hx rfl (hb hby at_128) rfl ?_
                  refine XS.iconst X58.here hx rfl (hb hby at_130) ?_
                  refine XS.icmpNo X58.here hx rfl (hb hby at_131) rfl (flt (by decide : ¬ ((2 : Int32) < (1 : Int32)))).1 ?_
                  show Steps p.tables e below (T58.setTop (mkF m 134 #[.val (.int p1), .val (.int p2), .val (.int (3 : Int32)), .val (.int (((p2.toUInt32 >>> ((2 : Int32) &&& 31).toUInt32).toInt32) &&& (15 : Int32))), .val (.int bb0), .val (.int bb1), .val (.int bb2), .val (.int bb3), .val (.int (2 : Int32)), .val (.ref b1_57), .val (.ref b2_3_58), .val (.int (1 : Int32))] [])) _
                  refine XS.iload X58.here hx rfl (hb hby at_134) rfl ?_
                  refine XS.ifNo X58.here hx rfl (hb hby at_136) rfl ((if0 _ _).trans (feq (by decide : ¬ ((1 : Int32) = (0 : Int32)))).1) ?_
                  refine XS.aload X58.here hx rfl (hb hby at_139) rfl rfl ?_
                  show Steps p.tables e below (T58.setTop (mkF m 141 #[.val (.int p1), .val (.int p2), .val (.int (3 : Int32)), .val (.int (((p2.toUInt32 >>> ((2 : Int32) &&& 31).toUInt32).toInt32) &&& (15 : Int32))), .val (.int bb0), .val (.int bb1), .val (.int bb2), .val (.int bb3), .val (.int (2 : Int32)), .val (.ref b1_57), .val (.ref b2_3_58), .val (.int (1 : Int32))] [(.ref b2_3_58)])) _
                  refine XS.iconst X58.here hx rfl (hb hby at_141) ?_
                  refine X58.baloadBytes hx (j := (1 : Int32)) (v := (.int (nar .byte bb1))) (by exact Ar_b2_3_58_142_61.1) (State.isArrayOf_alike hZ.alike Ar_b2_3_58_142_61.2.1) Ar_b2_3_58_142_61.2.2 hin_b2_3_58_142_61 (H_b2_3_58_142_61.at hin_b2_3_58_142_61 rfl) (g := (mkF m 142 #[.val (.int p1), .val (.int p2), .val (.int (3 : Int32)), .val (.int (((p2.toUInt32 >>> ((2 : Int32) &&& 31).toUInt32).toInt32) &&& (15 : Int32))), .val (.int bb0), .val (.int bb1), .val (.int bb2), .val (.int bb3), .val (.int (2 : Int32)), .val (.ref b1_57), .val (.ref b2_3_58), .val (.int (1 : Int32))] [(.int (1 : Int32)), (.ref b2_3_58)])) rfl rfl (hb hby at_142) _ ?_
                  show Steps p.tables e below (T58.setTop (mkF m 143 #[.val (.int p1), .val (.int p2), .val (.int (3 : Int32)), .val (.int (((p2.toUInt32 >>> ((2 : Int32) &&& 31).toUInt32).toInt32) &&& (15 : Int32))), .val (.int bb0), .val (.int bb1), .val (.int bb2), .val (.int bb3), .val (.int (2 : Int32)), .val (.ref b1_57), .val (.ref b2_3_58), .val (.int (1 : Int32))] [(.int (nar .byte bb1))])) _
                  refine XS.iload X58.here hx rfl (hb hby at_143) rfl ?_
                  show Steps p.tables e below (T58.setTop (mkF m 145 #[.val (.int p1), .val (.int p2), .val (.int (3 : Int32)), .val (.int (((p2.toUInt32 >>> ((2 : Int32) &&& 31).toUInt32).toInt32) &&& (15 : Int32))), .val (.int bb0), .val (.int bb1), .val (.int bb2), .val (.int bb3), .val (.int (2 : Int32)), .val (.ref b1_57), .val (.ref b2_3_58), .val (.int (1 : Int32))] [(.int (2 : Int32)), (.int (nar .byte bb1))])) _
                  refine XS.iconst X58.here hx rfl (hb hby at_145) ?_
                  refine XS.icmpYes X58.here hx rfl (pc0 := 146) (pc' := 157) rfl (hb hby at_146) rfl (feq (by decide : ¬ ((2 : Int32) = (1 : Int32)))).2 (by decide) (by decide) ?_
                  refine XS.iload X58.here hx rfl (hb hby at_157) rfl ?_
                  show Steps p.tables e below (T58.setTop (mkF m 159 #[.val (.int p1), .val (.int p2), .val (.int (3 : Int32)), .val (.int (((p2.toUInt32 >>> ((2 : Int32) &&& 31).toUInt32).toInt32) &&& (15 : Int32))), .val (.int bb0), .val (.int bb1), .val (.int bb2), .val (.int bb3), .val (.int (2 : Int32)), .val (.ref b1_57), .val (.ref b2_3_58), .val (.int (1 : Int32))] [(.int bb1), (.int (nar .byte bb1))])) _
                  refine XS.icmpNo X58.here hx rfl (hb hby at_159) rfl (teq (by simp only [e_bb0, e_bb1, e_bb2, e_bb3, own_narb] : (nar .byte bb1) = bb1)).2 ?_
                  refine XS.iconst X58.here hx rfl (hb hby at_162) ?_
                  refine XS.goto X58.here hx rfl (pc0 := 163) (pc' := 167) rfl (hb hby at_163) (by decide) (by decide) ?_
                  show Steps p.tables e below (T58.setTop (mkF m 167 #[.val (.int p1), .val (.int p2), .val (.int (3 : Int32)), .val (.int (((p2.toUInt32 >>> ((2 : Int32) &&& 31).toUInt32).toInt32) &&& (15 : Int32))), .val (.int bb0), .val (.int bb1), .val (.int bb2), .val (.int bb3), .val (.int (2 : Int32)), .val (.ref b1_57), .val (.ref b2_3_58), .val (.int (1 : Int32))] [(.int (1 : Int32))])) _
                  refine XS.istore X58.here hx rfl (hb hby at_167) rfl (l' := #[.val (.int p1), .val (.int p2), .val (.int (3 : Int32)), .val (.int (((p2.toUInt32 >>> ((2 : Int32) &&& 31).toUInt32).toInt32) &&& (15 : Int32))), .val (.int bb0), .val (.int bb1), .val (.int bb2), .val (.int bb3), .val (.int (2 : Int32)), .val (.ref b1_57), .val (.ref b2_3_58), .val (.int (1 : Int32))]) rfl ?_
                  refine XS.iload X58.here hx rfl (hb hby at_169) rfl ?_
                  refine XS.iconst X58.here hx rfl (hb hby at_171) ?_
                  show Steps p.tables e below (T58.setTop (mkF m 172 #[.val (.int p1), .val (.int p2), .val (.int (3 : Int32)), .val (.int (((p2.toUInt32 >>> ((2 : Int32) &&& 31).toUInt32).toInt32) &&& (15 : Int32))), .val (.int bb0), .val (.int bb1), .val (.int bb2), .val (.int bb3), .val (.int (2 : Int32)), .val (.ref b1_57), .val (.ref b2_3_58), .val (.int (1 : Int32))] [(.int (2 : Int32)), (.int (2 : Int32))])) _
                  refine XS.icmpNo X58.here hx rfl (hb hby at_172) rfl (flt (by decide : ¬ ((2 : Int32) < (2 : Int32)))).1 ?_
                  refine XS.iload X58.here hx rfl (hb hby at_175) rfl ?_
                  refine XS.ifNo X58.here hx rfl (hb hby at_177) rfl ((if0 _ _).trans (feq (by decide : ¬ ((1 : Int32) = (0 : Int32)))).1) ?_
                  show Steps p.tables e below (T58.setTop (mkF m 180 #[.val (.int p1), .val (.int p2), .val (.int (3 : Int32)), .val (.int (((p2.toUInt32 >>> ((2 : Int32) &&& 31).toUInt32).toInt32) &&& (15 : Int32))), .val (.int bb0), .val (.int bb1), .val (.int bb2), .val (.int bb3), .val (.int (2 : Int32)), .val (.ref b1_57), .val (.ref b2_3_58), .val (.int (1 : Int32))] [])) _
                  refine XS.aload X58.here hx rfl (hb hby at_180) rfl rfl ?_
                  refine XS.iconst X58.here hx rfl (hb hby at_182) ?_
                  refine X58.baloadBytes hx (j := (2 : Int32)) (v := (.int (nar .byte (((nar .byte bb2) + (1 : Int32)).toInt8.toInt32)))) (by exact Ar_b2_3_58_183_62.1) (State.isArrayOf_alike hZ.alike Ar_b2_3_58_183_62.2.1) Ar_b2_3_58_183_62.2.2 hin_b2_3_58_183_62 (H_b2_3_58_183_62.at hin_b2_3_58_183_62 rfl) (g := (mkF m 183 #[.val (.int p1), .val (.int p2), .val (.int (3 : Int32)), .val (.int (((p2.toUInt32 >>> ((2 : Int32) &&& 31).toUInt32).toInt32) &&& (15 : Int32))), .val (.int bb0), .val (.int bb1), .val (.int bb2), .val (.int bb3), .val (.int (2 : Int32)), .val (.ref b1_57), .val (.ref b2_3_58), .val (.int (1 : Int32))] [(.int (2 : Int32)), (.ref b2_3_58)])) rfl rfl (hb hby at_183) _ ?_
                  show Steps p.tables e below (T58.setTop (mkF m 184 #[.val (.int p1), .val (.int p2), .val (.int (3 : Int32)), .val (.int (((p2.toUInt32 >>> ((2 : Int32) &&& 31).toUInt32).toInt32) &&& (15 : Int32))), .val (.int bb0), .val (.int bb1), .val (.int bb2), .val (.int bb3), .val (.int (2 : Int32)), .val (.ref b1_57), .val (.ref b2_3_58), .val (.int (1 : Int32))] [(.int (nar .byte (((nar .byte bb2) + (1 : Int32)).toInt8.toInt32)))])) _
                  refine XS.iload X58.here hx rfl (hb hby at_184) rfl ?_
                  refine XS.iconst X58.here hx rfl (hb hby at_186) ?_
                  refine XS.icmpNo X58.here hx rfl (hb hby at_187) rfl (teq (by decide : (2 : Int32) = (2 : Int32))).2 ?_
                  show Steps p.tables e below (T58.setTop (mkF m 190 #[.val (.int p1), .val (.int p2), .val (.int (3 : Int32)), .val (.int (((p2.toUInt32 >>> ((2 : Int32) &&& 31).toUInt32).toInt32) &&& (15 : Int32))), .val (.int bb0), .val (.int bb1), .val (.int bb2), .val (.int bb3), .val (.int (2 : Int32)), .val (.ref b1_57), .val (.ref b2_3_58), .val (.int (1 : Int32))] [(.int (nar .byte (((nar .byte bb2) + (1 : Int32)).toInt8.toInt32)))])) _
                  refine XS.iload X58.here hx rfl (hb hby at_190) rfl ?_
                  refine XS.iconst X58.here hx rfl (hb hby at_192) ?_
                  refine XS.iadd X58.here hx rfl (hb hby at_193) rfl ?_
                  show Steps p.tables e below (T58.setTop (mkF m 194 #[.val (.int p1), .val (.int p2), .val (.int (3 : Int32)), .val (.int (((p2.toUInt32 >>> ((2 : Int32) &&& 31).toUInt32).toInt32) &&& (15 : Int32))), .val (.int bb0), .val (.int bb1), .val (.int bb2), .val (.int bb3), .val (.int (2 : Int32)), .val (.ref b1_57), .val (.ref b2_3_58), .val (.int (1 : Int32))] [(.int (bb2 + (1 : Int32))), (.int (nar .byte (((nar .byte bb2) + (1 : Int32)).toInt8.toInt32)))])) _
                  refine XS.i2b X58.here hx rfl (hb hby at_194) rfl ?_
                  refine XS.goto X58.here hx rfl (pc0 := 195) (pc' := 200) rfl (hb hby at_195) (by decide) (by decide) ?_
                  refine XS.icmpNo X58.here hx rfl (hb hby at_200) rfl (teq (by simp only [e_bb0, e_bb1, e_bb2, e_bb3, own_narb] : (nar .byte (((nar .byte bb2) + (1 : Int32)).toInt8.toInt32)) = ((bb2 + (1 : Int32)).toInt8.toInt32))).2 ?_
                  show Steps p.tables e below (T58.setTop (mkF m 203 #[.val (.int p1), .val (.int p2), .val (.int (3 : Int32)), .val (.int (((p2.toUInt32 >>> ((2 : Int32) &&& 31).toUInt32).toInt32) &&& (15 : Int32))), .val (.int bb0), .val (.int bb1), .val (.int bb2), .val (.int bb3), .val (.int (2 : Int32)), .val (.ref b1_57), .val (.ref b2_3_58), .val (.int (1 : Int32))] [])) _
                  refine XS.iconst X58.here hx rfl (hb hby at_203) ?_
                  refine XS.goto X58.here hx rfl (pc0 := 204) (pc' := 208) rfl (hb hby at_204) (by decide) (by decide) ?_
                  refine XS.istore X58.here hx rfl (hb hby at_208) rfl (l' := #[.val (.int p1), .val (.int p2), .val (.int (3 : Int32)), .val (.int (((p2.toUInt32 >>> ((2 : Int32) &&& 31).toUInt32).toInt32) &&& (15 : Int32))), .val (.int bb0), .val (.int bb1), .val (.int bb2), .val (.int bb3), .val (.int (2 : Int32)), .val (.ref b1_57), .val (.ref b2_3_58), .val (.int (1 : Int32))]) rfl ?_
                  show Steps p.tables e below (T58.setTop (mkF m 210 #[.val (.int p1), .val (.int p2), .val (.int (3 : Int32)), .val (.int (((p2.toUInt32 >>> ((2 : Int32) &&& 31).toUInt32).toInt32) &&& (15 : Int32))), .val (.int bb0), .val (.int bb1), .val (.int bb2), .val (.int bb3), .val (.int (2 : Int32)), .val (.ref b1_57), .val (.ref b2_3_58), .val (.int (1 : Int32))] [])) _
                  refine XS.iload X58.here hx rfl (hb hby at_210) rfl ?_
                  refine XS.iconst X58.here hx rfl (hb hby at_212) ?_
                  refine XS.icmpYes X58.here hx rfl (pc0 := 213) (pc' := 240) rfl (hb hby at_213) rfl (tlt (by decide : (2 : Int32) < (3 : Int32))).1 (by decide) (by decide) ?_
                  show Steps p.tables e below (T58.setTop (mkF m 240 #[.val (.int p1), .val (.int p2), .val (.int (3 : Int32)), .val (.int (((p2.toUInt32 >>> ((2 : Int32) &&& 31).toUInt32).toInt32) &&& (15 : Int32))), .val (.int bb0), .val (.int bb1), .val (.int bb2), .val (.int bb3), .val (.int (2 : Int32)), .val (.ref b1_57), .val (.ref b2_3_58), .val (.int (1 : Int32))] [])) _
                  refine XS.iload X58.here hx rfl (hb hby at_240) rfl ?_
                  refine XS.ifNo X58.here hx rfl (hb hby at_242) rfl ((if0 _ _).trans (feq (by decide : ¬ ((1 : Int32) = (0 : Int32)))).1) ?_
                  refine XS.aload X58.here hx rfl (hb hby at_245) rfl rfl ?_
                  show Steps p.tables e below (T58.setTop (mkF m 247 #[.val (.int p1), .val (.int p2), .val (.int (3 : Int32)), .val (.int (((p2.toUInt32 >>> ((2 : Int32) &&& 31).toUInt32).toInt32) &&& (15 : Int32))), .val (.int bb0), .val (.int bb1), .val (.int bb2), .val (.int bb3), .val (.int (2 : Int32)), .val (.ref b1_57), .val (.ref b2_3_58), .val (.int (1 : Int32))] [(.ref b1_57)])) _
                  refine XS.iconst X58.here hx rfl (hb hby at_247) ?_
                  refine X58.baloadBytes hx (j := (0 : Int32)) (v := (.int (nar .byte bb0))) (by exact Ar_b1_57_248_63.1) (State.isArrayOf_alike hZ.alike Ar_b1_57_248_63.2.1) Ar_b1_57_248_63.2.2 hin_b1_57_248_63 (H_b1_57_248_63.at hin_b1_57_248_63 rfl) (g := (mkF m 248 #[.val (.int p1), .val (.int p2), .val (.int (3 : Int32)), .val (.int (((p2.toUInt32 >>> ((2 : Int32) &&& 31).toUInt32).toInt32) &&& (15 : Int32))), .val (.int bb0), .val (.int bb1), .val (.int bb2), .val (.int bb3), .val (.int (2 : Int32)), .val (.ref b1_57), .val (.ref b2_3_58), .val (.int (1 : Int32))] [(.int (0 : Int32)), (.ref b1_57)])) rfl rfl (hb hby at_248) _ ?_
                  show Steps p.tables e below (T58.setTop (mkF m 249 #[.val (.int p1), .val (.int p2), .val (.int (3 : Int32)), .val (.int (((p2.toUInt32 >>> ((2 : Int32) &&& 31).toUInt32).toInt32) &&& (15 : Int32))), .val (.int bb0), .val (.int bb1), .val (.int bb2), .val (.int bb3), .val (.int (2 : Int32)), .val (.ref b1_57), .val (.ref b2_3_58), .val (.int (1 : Int32))] [(.int (nar .byte bb0))])) _
                  refine XS.iload X58.here hx rfl (hb hby at_249) rfl ?_
                  show Steps p.tables e below (T58.setTop (mkF m 251 #[.val (.int p1), .val (.int p2), .val (.int (3 : Int32)), .val (.int (((p2.toUInt32 >>> ((2 : Int32) &&& 31).toUInt32).toInt32) &&& (15 : Int32))), .val (.int bb0), .val (.int bb1), .val (.int bb2), .val (.int bb3), .val (.int (2 : Int32)), .val (.ref b1_57), .val (.ref b2_3_58), .val (.int (1 : Int32))] [(.int bb0), (.int (nar .byte bb0))])) _
                  refine XS.icmpNo X58.here hx rfl (hb hby at_251) rfl (teq (by simp only [e_bb0, e_bb1, e_bb2, e_bb3, own_narb] : (nar .byte bb0) = bb0)).2 ?_
                  refine XS.iconst X58.here hx rfl (hb hby at_254) ?_
                  refine XS.goto X58.here hx rfl (pc0 := 255) (pc' := 259) rfl (hb hby at_255) (by decide) (by decide) ?_
                  show Steps p.tables e below (T58.setTop (mkF m 259 #[.val (.int p1), .val (.int p2), .val (.int (3 : Int32)), .val (.int (((p2.toUInt32 >>> ((2 : Int32) &&& 31).toUInt32).toInt32) &&& (15 : Int32))), .val (.int bb0), .val (.int bb1), .val (.int bb2), .val (.int bb3), .val (.int (2 : Int32)), .val (.ref b1_57), .val (.ref b2_3_58), .val (.int (1 : Int32))] [(.int (1 : Int32))])) _
                  refine XS.istore X58.here hx rfl (hb hby at_259) rfl (l' := #[.val (.int p1), .val (.int p2), .val (.int (3 : Int32)), .val (.int (((p2.toUInt32 >>> ((2 : Int32) &&& 31).toUInt32).toInt32) &&& (15 : Int32))), .val (.int bb0), .val (.int bb1), .val (.int bb2), .val (.int bb3), .val (.int (2 : Int32)), .val (.ref b1_57), .val (.ref b2_3_58), .val (.int (1 : Int32))]) rfl ?_
                  refine XS.iloadN X58.here hx rfl (hb hby at_261) rfl ?_
                  refine XS.iconst X58.here hx rfl (hb hby at_262) ?_
                  show Steps p.tables e below (T58.setTop (mkF m 263 #[.val (.int p1), .val (.int p2), .val (.int (3 : Int32)), .val (.int (((p2.toUInt32 >>> ((2 : Int32) &&& 31).toUInt32).toInt32) &&& (15 : Int32))), .val (.int bb0), .val (.int bb1), .val (.int bb2), .val (.int bb3), .val (.int (2 : Int32)), .val (.ref b1_57), .val (.ref b2_3_58), .val (.int (1 : Int32))] [(.int (2 : Int32)), (.int (3 : Int32))])) _
                  refine XS.icmpNo X58.here hx rfl (hb hby at_263) rfl (flt (by decide : ¬ ((3 : Int32) < (2 : Int32)))).1 ?_
                  refine XS.iload X58.here hx rfl (hb hby at_266) rfl ?_
                  refine XS.ifNo X58.here hx rfl (hb hby at_268) rfl ((if0 _ _).trans (feq (by decide : ¬ ((1 : Int32) = (0 : Int32)))).1) ?_
                  show Steps p.tables e below (T58.setTop (mkF m 271 #[.val (.int p1), .val (.int p2), .val (.int (3 : Int32)), .val (.int (((p2.toUInt32 >>> ((2 : Int32) &&& 31).toUInt32).toInt32) &&& (15 : Int32))), .val (.int bb0), .val (.int bb1), .val (.int bb2), .val (.int bb3), .val (.int (2 : Int32)), .val (.ref b1_57), .val (.ref b2_3_58), .val (.int (1 : Int32))] [])) _
                  refine XS.aload X58.here hx rfl (hb hby at_271) rfl rfl ?_
                  refine XS.iconst X58.here hx rfl (hb hby at_273) ?_
                  refine X58.baloadBytes hx (j := (1 : Int32)) (v := (.int (nar .byte bb1))) (by exact Ar_b1_57_274_64.1) (State.isArrayOf_alike hZ.alike Ar_b1_57_274_64.2.1) Ar_b1_57_274_64.2.2 hin_b1_57_274_64 (H_b1_57_274_64.at hin_b1_57_274_64 rfl) (g := (mkF m 274 #[.val (.int p1), .val (.int p2), .val (.int (3 : Int32)), .val (.int (((p2.toUInt32 >>> ((2 : Int32) &&& 31).toUInt32).toInt32) &&& (15 : Int32))), .val (.int bb0), .val (.int bb1), .val (.int bb2), .val (.int bb3), .val (.int (2 : Int32)), .val (.ref b1_57), .val (.ref b2_3_58), .val (.int (1 : Int32))] [(.int (1 : Int32)), (.ref b1_57)])) rfl rfl (hb hby at_274) _ ?_
                  show Steps p.tables e below (T58.setTop (mkF m 275 #[.val (.int p1), .val (.int p2), .val (.int (3 : Int32)), .val (.int (((p2.toUInt32 >>> ((2 : Int32) &&& 31).toUInt32).toInt32) &&& (15 : Int32))), .val (.int bb0), .val (.int bb1), .val (.int bb2), .val (.int bb3), .val (.int (2 : Int32)), .val (.ref b1_57), .val (.ref b2_3_58), .val (.int (1 : Int32))] [(.int (nar .byte bb1))])) _
                  refine XS.iload X58.here hx rfl (hb hby at_275) rfl ?_
                  refine XS.icmpNo X58.here hx rfl (hb hby at_277) rfl (teq (by simp only [e_bb0, e_bb1, e_bb2, e_bb3, own_narb] : (nar .byte bb1) = bb1)).2 ?_
                  refine XS.iconst X58.here hx rfl (hb hby at_280) ?_
                  show Steps p.tables e below (T58.setTop (mkF m 281 #[.val (.int p1), .val (.int p2), .val (.int (3 : Int32)), .val (.int (((p2.toUInt32 >>> ((2 : Int32) &&& 31).toUInt32).toInt32) &&& (15 : Int32))), .val (.int bb0), .val (.int bb1), .val (.int bb2), .val (.int bb3), .val (.int (2 : Int32)), .val (.ref b1_57), .val (.ref b2_3_58), .val (.int (1 : Int32))] [(.int (1 : Int32))])) _
                  refine XS.goto X58.here hx rfl (pc0 := 281) (pc' := 285) rfl (hb hby at_281) (by decide) (by decide) ?_
                  refine XS.istore X58.here hx rfl (hb hby at_285) rfl (l' := #[.val (.int p1), .val (.int p2), .val (.int (3 : Int32)), .val (.int (((p2.toUInt32 >>> ((2 : Int32) &&& 31).toUInt32).toInt32) &&& (15 : Int32))), .val (.int bb0), .val (.int bb1), .val (.int bb2), .val (.int bb3), .val (.int (2 : Int32)), .val (.ref b1_57), .val (.ref b2_3_58), .val (.int (1 : Int32))]) rfl ?_
                  refine XS.iloadN X58.here hx rfl (hb hby at_287) rfl ?_
                  show Steps p.tables e below (T58.setTop (mkF m 288 #[.val (.int p1), .val (.int p2), .val (.int (3 : Int32)), .val (.int (((p2.toUInt32 >>> ((2 : Int32) &&& 31).toUInt32).toInt32) &&& (15 : Int32))), .val (.int bb0), .val (.int bb1), .val (.int bb2), .val (.int bb3), .val (.int (2 : Int32)), .val (.ref b1_57), .val (.ref b2_3_58), .val (.int (1 : Int32))] [(.int (3 : Int32))])) _
                  refine XS.iconst X58.here hx rfl (hb hby at_288) ?_
                  refine XS.icmpNo X58.here hx rfl (hb hby at_289) rfl (flt (by decide : ¬ ((3 : Int32) < (3 : Int32)))).1 ?_
                  refine XS.iload X58.here hx rfl (hb hby at_292) rfl ?_
                  show Steps p.tables e below (T58.setTop (mkF m 294 #[.val (.int p1), .val (.int p2), .val (.int (3 : Int32)), .val (.int (((p2.toUInt32 >>> ((2 : Int32) &&& 31).toUInt32).toInt32) &&& (15 : Int32))), .val (.int bb0), .val (.int bb1), .val (.int bb2), .val (.int bb3), .val (.int (2 : Int32)), .val (.ref b1_57), .val (.ref b2_3_58), .val (.int (1 : Int32))] [(.int (1 : Int32))])) _
                  refine XS.ifNo X58.here hx rfl (hb hby at_294) rfl ((if0 _ _).trans (feq (by decide : ¬ ((1 : Int32) = (0 : Int32)))).1) ?_
                  refine XS.aload X58.here hx rfl (hb hby at_297) rfl rfl ?_
                  refine XS.iconst X58.here hx rfl (hb hby at_299) ?_
                  show Steps p.tables e below (T58.setTop (mkF m 300 #[.val (.int p1), .val (.int p2), .val (.int (3 : Int32)), .val (.int (((p2.toUInt32 >>> ((2 : Int32) &&& 31).toUInt32).toInt32) &&& (15 : Int32))), .val (.int bb0), .val (.int bb1), .val (.int bb2), .val (.int bb3), .val (.int (2 : Int32)), .val (.ref b1_57), .val (.ref b2_3_58), .val (.int (1 : Int32))] [(.int (2 : Int32)), (.ref b1_57)])) _
                  refine X58.baloadBytes hx (j := (2 : Int32)) (v := (.int (nar .byte bb2))) (by exact Ar_b1_57_300_65.1) (State.isArrayOf_alike hZ.alike Ar_b1_57_300_65.2.1) Ar_b1_57_300_65.2.2 hin_b1_57_300_65 (H_b1_57_300_65.at hin_b1_57_300_65 rfl) (g := (mkF m 300 #[.val (.int p1), .val (.int p2), .val (.int (3 : Int32)), .val (.int (((p2.toUInt32 >>> ((2 : Int32) &&& 31).toUInt32).toInt32) &&& (15 : Int32))), .val (.int bb0), .val (.int bb1), .val (.int bb2), .val (.int bb3), .val (.int (2 : Int32)), .val (.ref b1_57), .val (.ref b2_3_58), .val (.int (1 : Int32))] [(.int (2 : Int32)), (.ref b1_57)])) rfl rfl (hb hby at_300) _ ?_
                  show Steps p.tables e below (T58.setTop (mkF m 301 #[.val (.int p1), .val (.int p2), .val (.int (3 : Int32)), .val (.int (((p2.toUInt32 >>> ((2 : Int32) &&& 31).toUInt32).toInt32) &&& (15 : Int32))), .val (.int bb0), .val (.int bb1), .val (.int bb2), .val (.int bb3), .val (.int (2 : Int32)), .val (.ref b1_57), .val (.ref b2_3_58), .val (.int (1 : Int32))] [(.int (nar .byte bb2))])) _
                  refine XS.iload X58.here hx rfl (hb hby at_301) rfl ?_
                  refine XS.icmpNo X58.here hx rfl (hb hby at_303) rfl (teq (by simp only [e_bb0, e_bb1, e_bb2, e_bb3, own_narb] : (nar .byte bb2) = bb2)).2 ?_
                  show Steps p.tables e below (T58.setTop (mkF m 306 #[.val (.int p1), .val (.int p2), .val (.int (3 : Int32)), .val (.int (((p2.toUInt32 >>> ((2 : Int32) &&& 31).toUInt32).toInt32) &&& (15 : Int32))), .val (.int bb0), .val (.int bb1), .val (.int bb2), .val (.int bb3), .val (.int (2 : Int32)), .val (.ref b1_57), .val (.ref b2_3_58), .val (.int (1 : Int32))] [])) _
                  refine XS.iconst X58.here hx rfl (hb hby at_306) ?_
                  refine XS.goto X58.here hx rfl (pc0 := 307) (pc' := 311) rfl (hb hby at_307) (by decide) (by decide) ?_
                  refine XS.istore X58.here hx rfl (hb hby at_311) rfl (l' := #[.val (.int p1), .val (.int p2), .val (.int (3 : Int32)), .val (.int (((p2.toUInt32 >>> ((2 : Int32) &&& 31).toUInt32).toInt32) &&& (15 : Int32))), .val (.int bb0), .val (.int bb1), .val (.int bb2), .val (.int bb3), .val (.int (2 : Int32)), .val (.ref b1_57), .val (.ref b2_3_58), .val (.int (1 : Int32))]) rfl ?_
                  show Steps p.tables e below (T58.setTop (mkF m 313 #[.val (.int p1), .val (.int p2), .val (.int (3 : Int32)), .val (.int (((p2.toUInt32 >>> ((2 : Int32) &&& 31).toUInt32).toInt32) &&& (15 : Int32))), .val (.int bb0), .val (.int bb1), .val (.int bb2), .val (.int bb3), .val (.int (2 : Int32)), .val (.ref b1_57), .val (.ref b2_3_58), .val (.int (1 : Int32))] [])) _
                  refine XS.iloadN X58.here hx rfl (hb hby at_313) rfl ?_
                  refine XS.iconst X58.here hx rfl (hb hby at_314) ?_
                  refine XS.icmpYes X58.here hx rfl (pc0 := 315) (pc' := 339) rfl (hb hby at_315) rfl (tlt (by decide : (3 : Int32) < (4 : Int32))).1 (by decide) (by decide) ?_
                  show Steps p.tables e below (T58.setTop (mkF m 339 #[.val (.int p1), .val (.int p2), .val (.int (3 : Int32)), .val (.int (((p2.toUInt32 >>> ((2 : Int32) &&& 31).toUInt32).toInt32) &&& (15 : Int32))), .val (.int bb0), .val (.int bb1), .val (.int bb2), .val (.int bb3), .val (.int (2 : Int32)), .val (.ref b1_57), .val (.ref b2_3_58), .val (.int (1 : Int32))] [])) _
                  refine XS.iload X58.here hx rfl (hb hby at_339) rfl ?_
                  show Steps p.tables e below (T58.setTop (mkF m 341 #[.val (.int p1), .val (.int p2), .val (.int (3 : Int32)), .val (.int (((p2.toUInt32 >>> ((2 : Int32) &&& 31).toUInt32).toInt32) &&& (15 : Int32))), .val (.int bb0), .val (.int bb1), .val (.int bb2), .val (.int bb3), .val (.int (2 : Int32)), .val (.ref b1_57), .val (.ref b2_3_58), .val (.int (1 : Int32))] [(.int (1 : Int32))])) _
                  exact retN X58 hx (t := .boolean) Bd.returns (by simp) (hb hby at_341) hr
                · show Q0 Z p1 p2 h0 n0 _ T58.heap _
                  exact ⟨rfl, N58⟩
              · exfalso
                rcases (own_k3 bb0 bb1 bb2 bb3) with h | h | h | h
                · exact hv38 h
                · exact hv39 h
                · exact hv47 h
                · exact hv56 h
      · by_cases hv66 : ((p2 &&& (3 : Int32)) + (1 : Int32)) = (4 : Int32)
        · rw [hv66] at pre5
          obtain ⟨_, _, ⟨T67, L67, k67, n67⟩, -, X67, ⟨Lc67, hQ67, l67, y67, z67⟩, st67⟩ := Jvm.LawKit.callS X4 hx (y := (⟨"com/example/elliott_bay/elliottbay/store/KeysEndPinLaw", "lastNonFF", "(IBBBB)I"⟩ : MethodName)) hown (mvT hZ (hw _ (List.mem_of_getElem? (i := 4) rfl))) (mvT hZ (hw _ (List.mem_of_getElem? (i := 5) rfl))) (mvT hZ (hw _ (List.mem_of_getElem? (i := 2) rfl))) (mvT hZ (hw _ (List.mem_of_getElem? (i := 6) rfl))) (by decide) (backOf (W := 0) (rm2 l Z a0 hw [] (4 : Int32) bb0 bb1 bb2 bb3  h0 n0 (Nat.le_trans Z0 (Keep.refl h0 []).1)  ) hZ (hw _ (List.mem_of_getElem? (i := 6) rfl)) (hw _ (List.mem_of_getElem? (i := 2) rfl)) (by decide) (by decide)) (g := (mkF m 54 #[.val (.int p1), .val (.int p2), .val (.int (4 : Int32)), .val (.int (((p2.toUInt32 >>> ((2 : Int32) &&& 31).toUInt32).toInt32) &&& (15 : Int32))), .val (.int bb0), .val (.int bb1), .val (.int bb2), .val (.int bb3), .unset, .unset, .unset, .unset] [(.int bb3), (.int bb2), (.int bb1), (.int bb0), (.int (4 : Int32))])) rfl (by rw [hml]; rfl) (argsL := [(.int (4 : Int32)), (.int bb0), (.int bb1), (.int bb2), (.int bb3)]) (rest := []) (lenOf pd3 rfl) rfl (by show 2 * 0 + _ ≤ _; exact Nat.le_of_eq rfl) (hb hby at_54) (fun _ _ => ⟨rfl, e4, (by decide : 0 + 0 ≤ _), (by decide : 0 + 0 ≤ _)⟩)
          dsimp only [Pt.U, Pt.locs, Pt.cells, Pt.slots] at X67 l67 y67 z67 st67 hQ67
          subst l67 y67 z67
          obtain ⟨rfl, rfl, e67⟩ := hQ67
          have N67 := Fr.app N4 (Fr.nil n0)
          have pre68 : ∀ t, Steps p.tables e below (T67.setTop (mkF m 57 #[.val (.int p1), .val (.int p2), .val (.int (4 : Int32)), .val (.int (((p2.toUInt32 >>> ((2 : Int32) &&& 31).toUInt32).toInt32) &&& (15 : Int32))), .val (.int bb0), .val (.int bb1), .val (.int bb2), .val (.int bb3), .unset, .unset, .unset, .unset] [(.int (res2 (4 : Int32) bb0 bb1 bb2 bb3))])) t → Steps p.tables e below (s₁.setTop (entryFrame m #[(.int p1), (.int p2)] maxLocals)) t := by
            intro t kt
            refine pre5 _ ?_
            show Steps p.tables e below (T4.setTop (mkF m 45 #[.val (.int p1), .val (.int p2), .val (.int (4 : Int32)), .val (.int (((p2.toUInt32 >>> ((2 : Int32) &&& 31).toUInt32).toInt32) &&& (15 : Int32))), .val (.int bb0), .val (.int bb1), .val (.int bb2), .val (.int bb3), .unset, .unset, .unset, .unset] [])) _
            refine XS.iloadN X4.here hx rfl (hb hby at_45) rfl ?_
            refine XS.iload X4.here hx rfl (hb hby at_46) rfl ?_
            show Steps p.tables e below (T4.setTop (mkF m 48 #[.val (.int p1), .val (.int p2), .val (.int (4 : Int32)), .val (.int (((p2.toUInt32 >>> ((2 : Int32) &&& 31).toUInt32).toInt32) &&& (15 : Int32))), .val (.int bb0), .val (.int bb1), .val (.int bb2), .val (.int bb3), .unset, .unset, .unset, .unset] [(.int bb0), (.int (4 : Int32))])) _
            refine XS.iload X4.here hx rfl (hb hby at_48) rfl ?_
            refine XS.iload X4.here hx rfl (hb hby at_50) rfl ?_
            refine XS.iload X4.here hx rfl (hb hby at_52) rfl ?_
            show Steps p.tables e below (T4.setTop (mkF m 54 #[.val (.int p1), .val (.int p2), .val (.int (4 : Int32)), .val (.int (((p2.toUInt32 >>> ((2 : Int32) &&& 31).toUInt32).toInt32) &&& (15 : Int32))), .val (.int bb0), .val (.int bb1), .val (.int bb2), .val (.int bb3), .unset, .unset, .unset, .unset] [(.int bb3), (.int bb2), (.int bb1), (.int bb0), (.int (4 : Int32))])) _
            refine st67 _ ?_
            exact kt
          by_cases hv69 : (res2 (4 : Int32) bb0 bb1 bb2 bb3) = (-1 : Int32)
          · rw [hv69] at pre68
            obtain ⟨fs, hr, hrun, hended, hW, hsame⟩ := X67.leave (v := some (.int (1 : Int32))) (fun h => by rw [Bd.returns] at h; cases h)
            refine ⟨_, _, pre68 _ ?_, hrun, hended, _, _, rfl, ?_, ⟨_, rfl⟩, hW, hsame.mono (by decide) (by decide)⟩
            · show Steps p.tables e below (T67.setTop (mkF m 57 #[.val (.int p1), .val (.int p2), .val (.int (4 : Int32)), .val (.int (((p2.toUInt32 >>> ((2 : Int32) &&& 31).toUInt32).toInt32) &&& (15 : Int32))), .val (.int bb0), .val (.int bb1), .val (.int bb2), .val (.int bb3), .unset, .unset, .unset, .unset] [(.int (-1 : Int32))])) _
              refine XS.istore X67.here hx rfl (hb hby at_57) rfl (l' := #[.val (.int p1), .val (.int p2), .val (.int (4 : Int32)), .val (.int (((p2.toUInt32 >>> ((2 : Int32) &&& 31).toUInt32).toInt32) &&& (15 : Int32))), .val (.int bb0), .val (.int bb1), .val (.int bb2), .val (.int bb3), .val (.int (-1 : Int32)), .unset, .unset, .unset]) rfl ?_
              refine XS.iload X67.here hx rfl (hb hby at_59) rfl ?_
              refine XS.ifNo X67.here hx rfl (hb hby at_61) rfl ((if0 _ _).trans (tlt (by decide : (-1 : Int32) < (0 : Int32))).2.1) ?_
              show Steps p.tables e below (T67.setTop (mkF m 64 #[.val (.int p1), .val (.int p2), .val (.int (4 : Int32)), .val (.int (((p2.toUInt32 >>> ((2 : Int32) &&& 31).toUInt32).toInt32) &&& (15 : Int32))), .val (.int bb0), .val (.int bb1), .val (.int bb2), .val (.int bb3), .val (.int (-1 : Int32)), .unset, .unset, .unset] [])) _
              refine XS.iconst X67.here hx rfl (hb hby at_64) ?_
              show Steps p.tables e below (T67.setTop (mkF m 65 #[.val (.int p1), .val (.int p2), .val (.int (4 : Int32)), .val (.int (((p2.toUInt32 >>> ((2 : Int32) &&& 31).toUInt32).toInt32) &&& (15 : Int32))), .val (.int bb0), .val (.int bb1), .val (.int bb2), .val (.int bb3), .val (.int (-1 : Int32)), .unset, .unset, .unset] [(.int (1 : Int32))])) _
              exact retN X67 hx (t := .boolean) Bd.returns (by simp) (hb hby at_65) hr
            · show Q0 Z p1 p2 h0 n0 _ T67.heap _
              rw [e67]
              exact ⟨rfl, N67⟩
          · by_cases hv70 : (res2 (4 : Int32) bb0 bb1 bb2 bb3) = (0 : Int32)
            · rw [hv70] at pre68
              obtain ⟨_, _, ⟨T71, L71, k71, n71⟩, -, X71, ⟨Lc71, hQ71, l71, y71, z71⟩, st71⟩ := Jvm.LawKit.callS X67 hx (y := (⟨"com/example/elliott_bay/elliottbay/store/KeysEndPinLaw", "make", "(IBBBB)[B"⟩ : MethodName)) hown (mvT hZ (hw _ (List.mem_of_getElem? (i := 7) rfl))) (mvT hZ (hw _ (List.mem_of_getElem? (i := 8) rfl))) (mvT hZ (hw _ (List.mem_of_getElem? (i := 2) rfl))) (mvT hZ (hw _ (List.mem_of_getElem? (i := 9) rfl))) (by decide) (backOf (W := 0) (rm_make_4 l Z a0 hw [] bb0 bb1 bb2 bb3  h0 n0 (Nat.le_trans Z0 (Keep.refl h0 []).1)  ) hZ (hw _ (List.mem_of_getElem? (i := 9) rfl)) (hw _ (List.mem_of_getElem? (i := 2) rfl)) (by decide) (by decide)) (g := (mkF m 75 #[.val (.int p1), .val (.int p2), .val (.int (4 : Int32)), .val (.int (((p2.toUInt32 >>> ((2 : Int32) &&& 31).toUInt32).toInt32) &&& (15 : Int32))), .val (.int bb0), .val (.int bb1), .val (.int bb2), .val (.int bb3), .val (.int (0 : Int32)), .unset, .unset, .unset] [(.int bb3), (.int bb2), (.int bb1), (.int bb0), (.int (4 : Int32))])) rfl (by rw [hml]; rfl) (argsL := [(.int (4 : Int32)), (.int bb0), (.int bb1), (.int bb2), (.int bb3)]) (rest := []) (lenOf pd4 rfl) rfl (by show 2 * 0 + _ ≤ _; exact Nat.le_of_eq rfl) (hb hby at_75) (fun _ _ => ⟨rfl, e67, (by decide : 0 + 1 ≤ _), (by decide : 0 + 4 ≤ _)⟩)
              dsimp only [Pt.U, Pt.locs, Pt.cells, Pt.slots] at X71 l71 y71 z71 st71 hQ71
              subst l71 y71 z71
              obtain ⟨b1_71, k1_71, rfl, N71q, K71, s71_b1, f71_0, f71_1⟩ := hQ71
              have N71 := Fr.app N67 N71q
              have sz_b1_71 : h0.size ≤ b1_71 := Nat.le_trans (Keep.refl h0 []).1 s71_b1
              have g_b1_71 : n0 ≤ b1_71 := Nat.le_trans Z0 sz_b1_71
              have KK71 : Keep h0 T71.heap [] := (Keep.refl h0 []).trans K71 all0
              obtain ⟨_, _, ⟨T72, L72, k72, n72⟩, -, X72, ⟨Lc72, hQ72, l72, y72, z72⟩, st72⟩ := Jvm.LawKit.callS X71 hx (y := (⟨"com/example/elliott_bay/elliottbay/store/Keys", "end", "([B)[B"⟩ : MethodName)) hown (mvT hZ (hw _ (List.mem_of_getElem? (i := 11) rfl))) (mvT hZ (hw _ (List.mem_of_getElem? (i := 12) rfl))) (mvT hZ (hw _ (List.mem_of_getElem? (i := 13) rfl))) (mvT hZ (hw _ (List.mem_of_getElem? (i := 14) rfl))) (by decide) (backOf (W := 0) (rm_end_4_0 l Z a0 hw [] b1_71 k1_71 (nar .byte bb0) (nar .byte bb1) (nar .byte bb2) (nar .byte bb3) T71.heap n0 (Nat.le_trans Z0 KK71.1) f71_0 f71_1 ((own_l_4_0 e_bb0 e_bb1 e_bb2 e_bb3 hv70).2.2.2 : (nar .byte bb3) = (-1 : Int32)) ((own_l_4_0 e_bb0 e_bb1 e_bb2 e_bb3 hv70).2.2.1 : (nar .byte bb2) = (-1 : Int32)) ((own_l_4_0 e_bb0 e_bb1 e_bb2 e_bb3 hv70).2.1 : (nar .byte bb1) = (-1 : Int32)) ((own_l_4_0 e_bb0 e_bb1 e_bb2 e_bb3 hv70).1 : ¬ ((nar .byte bb0) = (-1 : Int32)))) hZ (hw _ (List.mem_of_getElem? (i := 14) rfl)) (hw _ (List.mem_of_getElem? (i := 13) rfl)) (by decide) (by decide)) (g := (mkF m 82 #[.val (.int p1), .val (.int p2), .val (.int (4 : Int32)), .val (.int (((p2.toUInt32 >>> ((2 : Int32) &&& 31).toUInt32).toInt32) &&& (15 : Int32))), .val (.int bb0), .val (.int bb1), .val (.int bb2), .val (.int bb3), .val (.int (0 : Int32)), .val (.ref b1_71), .unset, .unset] [(.ref b1_71)])) rfl (by rw [hml]; rfl) (argsL := [(.ref b1_71)]) (rest := []) (lenOf pd5 rfl) rfl (by show 2 * 0 + _ ≤ _; exact Nat.le_of_eq rfl) (hb hby at_82) (fun _ _ => ⟨rfl, rfl, (by decide : 1 + 1 ≤ _), (by decide : 4 + 1 ≤ _)⟩)
              dsimp only [Pt.U, Pt.locs, Pt.cells, Pt.slots] at X72 l72 y72 z72 st72 hQ72
              subst l72 y72 z72
              obtain ⟨b2_6_72, k2_6_72, rfl, N72q, K72, s72_b2_6, f72_0⟩ := hQ72
              have N72 := Fr.app N71 N72q
              have sz_b2_6_72 : h0.size ≤ b2_6_72 := Nat.le_trans KK71.1 s72_b2_6
              have g_b2_6_72 : n0 ≤ b2_6_72 := Nat.le_trans Z0 sz_b2_6_72
              have KK72 : Keep h0 T72.heap [] := KK71.trans K72 all0
              obtain ⟨cl_b2_6_72_89_73, Ar_b2_6_72_89_73, -, S_b2_6_72_89_73, N_b2_6_72_89_73, -, -⟩ := id f72_0
              obtain ⟨cl_b2_6_72_102_74, Ar_b2_6_72_102_74, q_b2_6_72_102_74, S_b2_6_72_102_74, N_b2_6_72_102_74, H_b2_6_72_102_74, G_b2_6_72_102_74⟩ := id f72_0
              have hin_b2_6_72_102_74 : ¬ ((0 : Int32) < 0 ∨ cl_b2_6_72_102_74.slots.size ≤ ((0 : Int32) : Int32).toNatClampNeg) := inb_of S_b2_6_72_102_74 ⟨by decide, by decide⟩
              obtain ⟨cl_b1_71_248_75, Ar_b1_71_248_75, q_b1_71_248_75, S_b1_71_248_75, N_b1_71_248_75, H_b1_71_248_75, G_b1_71_248_75⟩ := id (f71_0.keep K72 nin0)
              have hin_b1_71_248_75 : ¬ ((0 : Int32) < 0 ∨ cl_b1_71_248_75.slots.size ≤ ((0 : Int32) : Int32).toNatClampNeg) := inb_of S_b1_71_248_75 ⟨by decide, by decide⟩
              obtain ⟨cl_b1_71_274_76, Ar_b1_71_274_76, q_b1_71_274_76, S_b1_71_274_76, N_b1_71_274_76, H_b1_71_274_76, G_b1_71_274_76⟩ := id (f71_0.keep K72 nin0)
              have hin_b1_71_274_76 : ¬ ((1 : Int32) < 0 ∨ cl_b1_71_274_76.slots.size ≤ ((1 : Int32) : Int32).toNatClampNeg) := inb_of S_b1_71_274_76 ⟨by decide, by decide⟩
              obtain ⟨cl_b1_71_300_77, Ar_b1_71_300_77, q_b1_71_300_77, S_b1_71_300_77, N_b1_71_300_77, H_b1_71_300_77, G_b1_71_300_77⟩ := id (f71_0.keep K72 nin0)
              have hin_b1_71_300_77 : ¬ ((2 : Int32) < 0 ∨ cl_b1_71_300_77.slots.size ≤ ((2 : Int32) : Int32).toNatClampNeg) := inb_of S_b1_71_300_77 ⟨by decide, by decide⟩
              obtain ⟨cl_b1_71_326_78, Ar_b1_71_326_78, q_b1_71_326_78, S_b1_71_326_78, N_b1_71_326_78, H_b1_71_326_78, G_b1_71_326_78⟩ := id (f71_0.keep K72 nin0)
              have hin_b1_71_326_78 : ¬ ((3 : Int32) < 0 ∨ cl_b1_71_326_78.slots.size ≤ ((3 : Int32) : Int32).toNatClampNeg) := inb_of S_b1_71_326_78 ⟨by decide, by decide⟩
              obtain ⟨fs, hr, hrun, hended, hW, hsame⟩ := X72.leave (v := some (.int (1 : Int32))) (fun h => by rw [Bd.returns] at h; cases h)
              refine ⟨_, _, pre68 _ ?_, hrun, hended, _, _, rfl, ?_, ⟨_, rfl⟩, hW, hsame.mono (by decide) (by decide)⟩
              · show Steps p.tables e below (T67.setTop (mkF m 57 #[.val (.int p1), .val (.int p2), .val (.int (4 : Int32)), .val (.int (((p2.toUInt32 >>> ((2 : Int32) &&& 31).toUInt32).toInt32) &&& (15 : Int32))), .val (.int bb0), .val (.int bb1), .val (.int bb2), .val (.int bb3), .unset, .unset, .unset, .unset] [(.int (0 : Int32))])) _
                refine XS.istore X67.here hx rfl (hb hby at_57) rfl (l' := #[.val (.int p1), .val (.int p2), .val (.int (4 : Int32)), .val (.int (((p2.toUInt32 >>> ((2 : Int32) &&& 31).toUInt32).toInt32) &&& (15 : Int32))), .val (.int bb0), .val (.int bb1), .val (.int bb2), .val (.int bb3), .val (.int (0 : Int32)), .unset, .unset, .unset]) rfl ?_
                refine XS.iload X67.here hx rfl (hb hby at_59) rfl ?_
                refine XS.ifYes X67.here hx rfl (pc0 := 61) (pc' := 66) rfl (hb hby at_61) rfl ((if0 _ _).trans (flt (by decide : ¬ ((0 : Int32) < (0 : Int32)))).2.1) (by decide) (by decide) ?_
                show Steps p.tables e below (T67.setTop (mkF m 66 #[.val (.int p1), .val (.int p2), .val (.int (4 : Int32)), .val (.int (((p2.toUInt32 >>> ((2 : Int32) &&& 31).toUInt32).toInt32) &&& (15 : Int32))), .val (.int bb0), .val (.int bb1), .val (.int bb2), .val (.int bb3), .val (.int (0 : Int32)), .unset, .unset, .unset] [])) _
                refine XS.iloadN X67.here hx rfl (hb hby at_66) rfl ?_
                refine XS.iload X67.here hx rfl (hb hby at_67) rfl ?_
                refine XS.iload X67.here hx rfl (hb hby at_69) rfl ?_
                show Steps p.tables e below (T67.setTop (mkF m 71 #[.val (.int p1), .val (.int p2), .val (.int (4 : Int32)), .val (.int (((p2.toUInt32 >>> ((2 : Int32) &&& 31).toUInt32).toInt32) &&& (15 : Int32))), .val (.int bb0), .val (.int bb1), .val (.int bb2), .val (.int bb3), .val (.int (0 : Int32)), .unset, .unset, .unset] [(.int bb1), (.int bb0), (.int (4 : Int32))])) _
                refine XS.iload X67.here hx rfl (hb hby at_71) rfl ?_
                refine XS.iload X67.here hx rfl (hb hby at_73) rfl ?_
                show Steps p.tables e below (T67.setTop (mkF m 75 #[.val (.int p1), .val (.int p2), .val (.int (4 : Int32)), .val (.int (((p2.toUInt32 >>> ((2 : Int32) &&& 31).toUInt32).toInt32) &&& (15 : Int32))), .val (.int bb0), .val (.int bb1), .val (.int bb2), .val (.int bb3), .val (.int (0 : Int32)), .unset, .unset, .unset] [(.int bb3), (.int bb2), (.int bb1), (.int bb0), (.int (4 : Int32))])) _
                refine st71 _ ?_
                show Steps p.tables e below (T71.setTop (mkF m 78 #[.val (.int p1), .val (.int p2), .val (.int (4 : Int32)), .val (.int (((p2.toUInt32 >>> ((2 : Int32) &&& 31).toUInt32).toInt32) &&& (15 : Int32))), .val (.int bb0), .val (.int bb1), .val (.int bb2), .val (.int bb3), .val (.int (0 : Int32)), .unset, .unset, .unset] [(.ref b1_71)])) _
                refine XS.astore X71.here hx rfl (hb hby at_78) rfl rfl (l' := #[.val (.int p1), .val (.int p2), .val (.int (4 : Int32)), .val (.int (((p2.toUInt32 >>> ((2 : Int32) &&& 31).toUInt32).toInt32) &&& (15 : Int32))), .val (.int bb0), .val (.int bb1), .val (.int bb2), .val (.int bb3), .val (.int (0 : Int32)), .val (.ref b1_71), .unset, .unset]) rfl ?_
                show Steps p.tables e below (T71.setTop (mkF m 80 #[.val (.int p1), .val (.int p2), .val (.int (4 : Int32)), .val (.int (((p2.toUInt32 >>> ((2 : Int32) &&& 31).toUInt32).toInt32) &&& (15 : Int32))), .val (.int bb0), .val (.int bb1), .val (.int bb2), .val (.int bb3), .val (.int (0 : Int32)), .val (.ref b1_71), .unset, .unset] [])) _
                refine XS.aload X71.here hx rfl (hb hby at_80) rfl rfl ?_
                show Steps p.tables e below (T71.setTop (mkF m 82 #[.val (.int p1), .val (.int p2), .val (.int (4 : Int32)), .val (.int (((p2.toUInt32 >>> ((2 : Int32) &&& 31).toUInt32).toInt32) &&& (15 : Int32))), .val (.int bb0), .val (.int bb1), .val (.int bb2), .val (.int bb3), .val (.int (0 : Int32)), .val (.ref b1_71), .unset, .unset] [(.ref b1_71)])) _
                refine st72 _ ?_
                show Steps p.tables e below (T72.setTop (mkF m 85 #[.val (.int p1), .val (.int p2), .val (.int (4 : Int32)), .val (.int (((p2.toUInt32 >>> ((2 : Int32) &&& 31).toUInt32).toInt32) &&& (15 : Int32))), .val (.int bb0), .val (.int bb1), .val (.int bb2), .val (.int bb3), .val (.int (0 : Int32)), .val (.ref b1_71), .unset, .unset] [(.ref b2_6_72)])) _
                refine XS.astore X72.here hx rfl (hb hby at_85) rfl rfl (l' := #[.val (.int p1), .val (.int p2), .val (.int (4 : Int32)), .val (.int (((p2.toUInt32 >>> ((2 : Int32) &&& 31).toUInt32).toInt32) &&& (15 : Int32))), .val (.int bb0), .val (.int bb1), .val (.int bb2), .val (.int bb3), .val (.int (0 : Int32)), .val (.ref b1_71), .val (.ref b2_6_72), .unset]) rfl ?_
                refine XS.aload X72.here hx rfl (hb hby at_87) rfl rfl ?_
                show Steps p.tables e below (T72.setTop (mkF m 89 #[.val (.int p1), .val (.int p2), .val (.int (4 : Int32)), .val (.int (((p2.toUInt32 >>> ((2 : Int32) &&& 31).toUInt32).toInt32) &&& (15 : Int32))), .val (.int bb0), .val (.int bb1), .val (.int bb2), .val (.int bb3), .val (.int (0 : Int32)), .val (.ref b1_71), .val (.ref b2_6_72), .unset] [(.ref b2_6_72)])) _
                refine X72.arraylength hx (by exact Ar_b2_6_72_89_73.1) (State.isArrayOf_alike hZ.alike Ar_b2_6_72_89_73.2.1) (g := (mkF m 89 #[.val (.int p1), .val (.int p2), .val (.int (4 : Int32)), .val (.int (((p2.toUInt32 >>> ((2 : Int32) &&& 31).toUInt32).toInt32) &&& (15 : Int32))), .val (.int bb0), .val (.int bb1), .val (.int bb2), .val (.int bb3), .val (.int (0 : Int32)), .val (.ref b1_71), .val (.ref b2_6_72), .unset] [(.ref b2_6_72)])) rfl rfl (hb hby at_89) _ ?_
                rw [len_of S_b2_6_72_89_73 N_b2_6_72_89_73]
                show Steps p.tables e below (T72.setTop (mkF m 90 #[.val (.int p1), .val (.int p2), .val (.int (4 : Int32)), .val (.int (((p2.toUInt32 >>> ((2 : Int32) &&& 31).toUInt32).toInt32) &&& (15 : Int32))), .val (.int bb0), .val (.int bb1), .val (.int bb2), .val (.int bb3), .val (.int (0 : Int32)), .val (.ref b1_71), .val (.ref b2_6_72), .unset] [(.int (1 : Int32))])) _
                refine XS.iload X72.here hx rfl (hb hby at_90) rfl ?_
                refine XS.iconst X72.here hx rfl (hb hby at_92) ?_
                show Steps p.tables e below (T72.setTop (mkF m 93 #[.val (.int p1), .val (.int p2), .val (.int (4 : Int32)), .val (.int (((p2.toUInt32 >>> ((2 : Int32) &&& 31).toUInt32).toInt32) &&& (15 : Int32))), .val (.int bb0), .val (.int bb1), .val (.int bb2), .val (.int bb3), .val (.int (0 : Int32)), .val (.ref b1_71), .val (.ref b2_6_72), .unset] [(.int (1 : Int32)), (.int (0 : Int32)), (.int (1 : Int32))])) _
                refine XS.iadd X72.here hx rfl (hb hby at_93) rfl ?_
                refine XS.icmpYes X72.here hx rfl (pc0 := 94) (pc' := 99) rfl (hb hby at_94) rfl (teq (by decide : (1 : Int32) = (1 : Int32))).1 (by decide) (by decide) ?_
                refine XS.aload X72.here hx rfl (hb hby at_99) rfl rfl ?_
                show Steps p.tables e below (T72.setTop (mkF m 101 #[.val (.int p1), .val (.int p2), .val (.int (4 : Int32)), .val (.int (((p2.toUInt32 >>> ((2 : Int32) &&& 31).toUInt32).toInt32) &&& (15 : Int32))), .val (.int bb0), .val (.int bb1), .val (.int bb2), .val (.int bb3), .val (.int (0 : Int32)), .val (.ref b1_71), .val (.ref b2_6_72), .unset] [(.ref b2_6_72)])) _
                refine XS.iconst X72.here hx rfl (hb hby at_101) ?_
                refine X72.baloadBytes hx (j := (0 : Int32)) (v := (.int (nar .byte (((nar .byte bb0) + (1 : Int32)).toInt8.toInt32)))) (by exact Ar_b2_6_72_102_74.1) (State.isArrayOf_alike hZ.alike Ar_b2_6_72_102_74.2.1) Ar_b2_6_72_102_74.2.2 hin_b2_6_72_102_74 (H_b2_6_72_102_74.at hin_b2_6_72_102_74 rfl) (g := (mkF m 102 #[.val (.int p1), .val (.int p2), .val (.int (4 : Int32)), .val (.int (((p2.toUInt32 >>> ((2 : Int32) &&& 31).toUInt32).toInt32) &&& (15 : Int32))), .val (.int bb0), .val (.int bb1), .val (.int bb2), .val (.int bb3), .val (.int (0 : Int32)), .val (.ref b1_71), .val (.ref b2_6_72), .unset] [(.int (0 : Int32)), (.ref b2_6_72)])) rfl rfl (hb hby at_102) _ ?_
                show Steps p.tables e below (T72.setTop (mkF m 103 #[.val (.int p1), .val (.int p2), .val (.int (4 : Int32)), .val (.int (((p2.toUInt32 >>> ((2 : Int32) &&& 31).toUInt32).toInt32) &&& (15 : Int32))), .val (.int bb0), .val (.int bb1), .val (.int bb2), .val (.int bb3), .val (.int (0 : Int32)), .val (.ref b1_71), .val (.ref b2_6_72), .unset] [(.int (nar .byte (((nar .byte bb0) + (1 : Int32)).toInt8.toInt32)))])) _
                refine XS.iload X72.here hx rfl (hb hby at_103) rfl ?_
                show Steps p.tables e below (T72.setTop (mkF m 105 #[.val (.int p1), .val (.int p2), .val (.int (4 : Int32)), .val (.int (((p2.toUInt32 >>> ((2 : Int32) &&& 31).toUInt32).toInt32) &&& (15 : Int32))), .val (.int bb0), .val (.int bb1), .val (.int bb2), .val (.int bb3), .val (.int (0 : Int32)), .val (.ref b1_71), .val (.ref b2_6_72), .unset] [(.int (0 : Int32)), (.int (nar .byte (((nar .byte bb0) + (1 : Int32)).toInt8.toInt32)))])) _
                refine XS.ifNo X72.here hx rfl (hb hby at_105) rfl ((if0 _ _).trans (teq (by decide : (0 : Int32) = (0 : Int32))).2) ?_
                refine XS.iload X72.here hx rfl (hb hby at_108) rfl ?_
                refine XS.iconst X72.here hx rfl (hb hby at_110) ?_
                show Steps p.tables e below (T72.setTop (mkF m 111 #[.val (.int p1), .val (.int p2), .val (.int (4 : Int32)), .val (.int (((p2.toUInt32 >>> ((2 : Int32) &&& 31).toUInt32).toInt32) &&& (15 : Int32))), .val (.int bb0), .val (.int bb1), .val (.int bb2), .val (.int bb3), .val (.int (0 : Int32)), .val (.ref b1_71), .val (.ref b2_6_72), .unset] [(.int (1 : Int32)), (.int bb0), (.int (nar .byte (((nar .byte bb0) + (1 : Int32)).toInt8.toInt32)))])) _
                refine XS.iadd X72.here hx rfl (hb hby at_111) rfl ?_
                refine XS.i2b X72.here hx rfl (hb hby at_112) rfl ?_
                refine XS.goto X72.here hx rfl (pc0 := 113) (pc' := 118) rfl (hb hby at_113) (by decide) (by decide) ?_
                show Steps p.tables e below (T72.setTop (mkF m 118 #[.val (.int p1), .val (.int p2), .val (.int (4 : Int32)), .val (.int (((p2.toUInt32 >>> ((2 : Int32) &&& 31).toUInt32).toInt32) &&& (15 : Int32))), .val (.int bb0), .val (.int bb1), .val (.int bb2), .val (.int bb3), .val (.int (0 : Int32)), .val (.ref b1_71), .val (.ref b2_6_72), .unset] [(.int ((bb0 + (1 : Int32)).toInt8.toInt32)), (.int (nar .byte (((nar .byte bb0) + (1 : Int32)).toInt8.toInt32)))])) _
                refine XS.icmpNo X72.here hx rfl (hb hby at_118) rfl (teq (by simp only [e_bb0, e_bb1, e_bb2, e_bb3, own_narb] : (nar .byte (((nar .byte bb0) + (1 : Int32)).toInt8.toInt32)) = ((bb0 + (1 : Int32)).toInt8.toInt32))).2 ?_
                refine XS.iconst X72.here hx rfl (hb hby at_121) ?_
                refine XS.goto X72.here hx rfl (pc0 := 122) (pc' := 126) rfl (hb hby at_122) (by decide) (by decide) ?_
                show Steps p.tables e below (T72.setTop (mkF m 126 #[.val (.int p1), .val (.int p2), .val (.int (4 : Int32)), .val (.int (((p2.toUInt32 >>> ((2 : Int32) &&& 31).toUInt32).toInt32) &&& (15 : Int32))), .val (.int bb0), .val (.int bb1), .val (.int bb2), .val (.int bb3), .val (.int (0 : Int32)), .val (.ref b1_71), .val (.ref b2_6_72), .unset] [(.int (1 : Int32))])) _
                refine XS.istore X72.here hx rfl (hb hby at_126) rfl (l' := #[.val (.int p1), .val (.int p2), .val (.int (4 : Int32)), .val (.int (((p2.toUInt32 >>> ((2 : Int32) &&& 31).toUInt32).toInt32) &&& (15 : Int32))), .val (.int bb0), .val (.int bb1), .val (.int bb2), .val (.int bb3), .val (.int (0 : Int32)), .val (.ref b1_71), .val (.ref b2_6_72), .val (.int (1 : Int32))]) rfl ?_
                refine XS.iload X72.here hx rfl (hb hby at_128) rfl ?_
                refine XS.iconst X72.here hx rfl (hb hby at_130) ?_
                show Steps p.tables e below (T72.setTop (mkF m 131 #[.val (.int p1), .val (.int p2), .val (.int (4 : Int32)), .val (.int (((p2.toUInt32 >>> ((2 : Int32) &&& 31).toUInt32).toInt32) &&& (15 : Int32))), .val (.int bb0), .val (.int bb1), .val (.int bb2), .val (.int bb3), .val (.int (0 : Int32)), .val (.ref b1_71), .val (.ref b2_6_72), .val (.int (1 : Int32))] [(.int (1 : Int32)), (.int (0 : Int32))])) _
                refine XS.icmpYes X72.here hx rfl (pc0 := 131) (pc' := 169) rfl (hb hby at_131) rfl (tlt (by decide : (0 : Int32) < (1 : Int32))).1 (by decide) (by decide) ?_
                refine XS.iload X72.here hx rfl (hb hby at_169) rfl ?_
                refine XS.iconst X72.here hx rfl (hb hby at_171) ?_
                show Steps p.tables e below (T72.setTop (mkF m 172 #[.val (.int p1), .val (.int p2), .val (.int (4 : Int32)), .val (.int (((p2.toUInt32 >>> ((2 : Int32) &&& 31).toUInt32).toInt32) &&& (15 : Int32))), .val (.int bb0), .val (.int bb1), .val (.int bb2), .val (.int bb3), .val (.int (0 : Int32)), .val (.ref b1_71), .val (.ref b2_6_72), .val (.int (1 : Int32))] [(.int (2 : Int32)), (.int (0 : Int32))])) _
                refine XS.icmpYes X72.here hx rfl (pc0 := 172) (pc' := 210) rfl (hb hby at_172) rfl (tlt (by decide : (0 : Int32) < (2 : Int32))).1 (by decide) (by decide) ?_
                refine XS.iload X72.here hx rfl (hb hby at_210) rfl ?_
                refine XS.iconst X72.here hx rfl (hb hby at_212) ?_
                show Steps p.tables e below (T72.setTop (mkF m 213 #[.val (.int p1), .val (.int p2), .val (.int (4 : Int32)), .val (.int (((p2.toUInt32 >>> ((2 : Int32) &&& 31).toUInt32).toInt32) &&& (15 : Int32))), .val (.int bb0), .val (.int bb1), .val (.int bb2), .val (.int bb3), .val (.int (0 : Int32)), .val (.ref b1_71), .val (.ref b2_6_72), .val (.int (1 : Int32))] [(.int (3 : Int32)), (.int (0 : Int32))])) _
                refine XS.icmpYes X72.here hx rfl (pc0 := 213) (pc' := 240) rfl (hb hby at_213) rfl (tlt (by decide : (0 : Int32) < (3 : Int32))).1 (by decide) (by decide) ?_
                refine XS.iload X72.here hx rfl (hb hby at_240) rfl ?_
                refine XS.ifNo X72.here hx rfl (hb hby at_242) rfl ((if0 _ _).trans (feq (by decide : ¬ ((1 : Int32) = (0 : Int32)))).1) ?_
                show Steps p.tables e below (T72.setTop (mkF m 245 #[.val (.int p1), .val (.int p2), .val (.int (4 : Int32)), .val (.int (((p2.toUInt32 >>> ((2 : Int32) &&& 31).toUInt32).toInt32) &&& (15 : Int32))), .val (.int bb0), .val (.int bb1), .val (.int bb2), .val (.int bb3), .val (.int (0 : Int32)), .val (.ref b1_71), .val (.ref b2_6_72), .val (.int (1 : Int32))] [])) _
                refine XS.aload X72.here hx rfl (hb hby at_245) rfl rfl ?_
                refine XS.iconst X72.here hx rfl (hb hby at_247) ?_
                refine X72.baloadBytes hx (j := (0 : Int32)) (v := (.int (nar .byte bb0))) (by exact Ar_b1_71_248_75.1) (State.isArrayOf_alike hZ.alike Ar_b1_71_248_75.2.1) Ar_b1_71_248_75.2.2 hin_b1_71_248_75 (H_b1_71_248_75.at hin_b1_71_248_75 rfl) (g := (mkF m 248 #[.val (.int p1), .val (.int p2), .val (.int (4 : Int32)), .val (.int (((p2.toUInt32 >>> ((2 : Int32) &&& 31).toUInt32).toInt32) &&& (15 : Int32))), .val (.int bb0), .val (.int bb1), .val (.int bb2), .val (.int bb3), .val (.int (0 : Int32)), .val (.ref b1_71), .val (.ref b2_6_72), .val (.int (1 : Int32))] [(.int (0 : Int32)), (.ref b1_71)])) rfl rfl (hb hby at_248) _ ?_
                show Steps p.tables e below (T72.setTop (mkF m 249 #[.val (.int p1), .val (.int p2), .val (.int (4 : Int32)), .val (.int (((p2.toUInt32 >>> ((2 : Int32) &&& 31).toUInt32).toInt32) &&& (15 : Int32))), .val (.int bb0), .val (.int bb1), .val (.int bb2), .val (.int bb3), .val (.int (0 : Int32)), .val (.ref b1_71), .val (.ref b2_6_72), .val (.int (1 : Int32))] [(.int (nar .byte bb0))])) _
                refine XS.iload X72.here hx rfl (hb hby at_249) rfl ?_
                refine XS.icmpNo X72.here hx rfl (hb hby at_251) rfl (teq (by simp only [e_bb0, e_bb1, e_bb2, e_bb3, own_narb] : (nar .byte bb0) = bb0)).2 ?_
                refine XS.iconst X72.here hx rfl (hb hby at_254) ?_
                show Steps p.tables e below (T72.setTop (mkF m 255 #[.val (.int p1), .val (.int p2), .val (.int (4 : Int32)), .val (.int (((p2.toUInt32 >>> ((2 : Int32) &&& 31).toUInt32).toInt32) &&& (15 : Int32))), .val (.int bb0), .val (.int bb1), .val (.int bb2), .val (.int bb3), .val (.int (0 : Int32)), .val (.ref b1_71), .val (.ref b2_6_72), .val (.int (1 : Int32))] [(.int (1 : Int32))])) _
                refine XS.goto X72.here hx rfl (pc0 := 255) (pc' := 259) rfl (hb hby at_255) (by decide) (by decide) ?_
                refine XS.istore X72.here hx rfl (hb hby at_259) rfl (l' := #[.val (.int p1), .val (.int p2), .val (.int (4 : Int32)), .val (.int (((p2.toUInt32 >>> ((2 : Int32) &&& 31).toUInt32).toInt32) &&& (15 : Int32))), .val (.int bb0), .val (.int bb1), .val (.int bb2), .val (.int bb3), .val (.int (0 : Int32)), .val (.ref b1_71), .val (.ref b2_6_72), .val (.int (1 : Int32))]) rfl ?_
                refine XS.iloadN X72.here hx rfl (hb hby at_261) rfl ?_
                show Steps p.tables e below (T72.setTop (mkF m 262 #[.val (.int p1), .val (.int p2), .val (.int (4 : Int32)), .val (.int (((p2.toUInt32 >>> ((2 : Int32) &&& 31).toUInt32).toInt32) &&& (15 : Int32))), .val (.int bb0), .val (.int bb1), .val (.int bb2), .val (.int bb3), .val (.int (0 : Int32)), .val (.ref b1_71), .val (.ref b2_6_72), .val (.int (1 : Int32))] [(.int (4 : Int32))])) _
                refine XS.iconst X72.here hx rfl (hb hby at_262) ?_
                refine XS.icmpNo X72.here hx rfl (hb hby at_263) rfl (flt (by decide : ¬ ((4 : Int32) < (2 : Int32)))).1 ?_
                refine XS.iload X72.here hx rfl (hb hby at_266) rfl ?_
                show Steps p.tables e below (T72.setTop (mkF m 268 #[.val (.int p1), .val (.int p2), .val (.int (4 : Int32)), .val (.int (((p2.toUInt32 >>> ((2 : Int32) &&& 31).toUInt32).toInt32) &&& (15 : Int32))), .val (.int bb0), .val (.int bb1), .val (.int bb2), .val (.int bb3), .val (.int (0 : Int32)), .val (.ref b1_71), .val (.ref b2_6_72), .val (.int (1 : Int32))] [(.int (1 : Int32))])) _
                refine XS.ifNo X72.here hx rfl (hb hby at_268) rfl ((if0 _ _).trans (feq (by decide : ¬ ((1 : Int32) = (0 : Int32)))).1) ?_
                refine XS.aload X72.here hx rfl (hb hby at_271) rfl rfl ?_
                refine XS.iconst X72.here hx rfl (hb hby at_273) ?_
                show Steps p.tables e below (T72.setTop (mkF m 274 #[.val (.int p1), .val (.int p2), .val (.int (4 : Int32)), .val (.int (((p2.toUInt32 >>> ((2 : Int32) &&& 31).toUInt32).toInt32) &&& (15 : Int32))), .val (.int bb0), .val (.int bb1), .val (.int bb2), .val (.int bb3), .val (.int (0 : Int32)), .val (.ref b1_71), .val (.ref b2_6_72), .val (.int (1 : Int32))] [(.int (1 : Int32)), (.ref b1_71)])) _
                refine X72.baloadBytes hx (j := (1 : Int32)) (v := (.int (nar .byte bb1))) (by exact Ar_b1_71_274_76.1) (State.isArrayOf_alike hZ.alike Ar_b1_71_274_76.2.1) Ar_b1_71_274_76.2.2 hin_b1_71_274_76 (H_b1_71_274_76.at hin_b1_71_274_76 rfl) (g := (mkF m 274 #[.val (.int p1), .val (.int p2), .val (.int (4 : Int32)), .val (.int (((p2.toUInt32 >>> ((2 : Int32) &&& 31).toUInt32).toInt32) &&& (15 : Int32))), .val (.int bb0), .val (.int bb1), .val (.int bb2), .val (.int bb3), .val (.int (0 : Int32)), .val (.ref b1_71), .val (.ref b2_6_72), .val (.int (1 : Int32))] [(.int (1 : Int32)), (.ref b1_71)])) rfl rfl (hb hby at_274) _ ?_
                show Steps p.tables e below (T72.setTop (mkF m 275 #[.val (.int p1), .val (.int p2), .val (.int (4 : Int32)), .val (.int (((p2.toUInt32 >>> ((2 : Int32) &&& 31).toUInt32).toInt32) &&& (15 : Int32))), .val (.int bb0), .val (.int bb1), .val (.int bb2), .val (.int bb3), .val (.int (0 : Int32)), .val (.ref b1_71), .val (.ref b2_6_72), .val (.int (1 : Int32))] [(.int (nar .byte bb1))])) _
                refine XS.iload X72.here hx rfl (hb hby at_275) rfl ?_
                refine XS.icmpNo X72.here hx rfl (hb hby at_277) rfl (teq (by simp only [e_bb0, e_bb1, e_bb2, e_bb3, own_narb] : (nar .byte bb1) = bb1)).2 ?_
                show Steps p.tables e below (T72.setTop (mkF m 280 #[.val (.int p1), .val (.int p2), .val (.int (4 : Int32)), .val (.int (((p2.toUInt32 >>> ((2 : Int32) &&& 31).toUInt32).toInt32) &&& (15 : Int32))), .val (.int bb0), .val (.int bb1), .val (.int bb2), .val (.int bb3), .val (.int (0 : Int32)), .val (.ref b1_71), .val (.ref b2_6_72), .val (.int (1 : Int32))] [])) _
                refine XS.iconst X72.here hx rfl (hb hby at_280) ?_
                refine XS.goto X72.here hx rfl (pc0 := 281) (pc' := 285) rfl (hb hby at_281) (by decide) (by decide) ?_
                refine XS.istore X72.here hx rfl (hb hby at_285) rfl (l' := #[.val (.int p1), .val (.int p2), .val (.int (4 : Int32)), .val (.int (((p2.toUInt32 >>> ((2 : Int32) &&& 31).toUInt32).toInt32) &&& (15 : Int32))), .val (.int bb0), .val (.int bb1), .val (.int bb2), .val (.int bb3), .val (.int (0 : Int32)), .val (.ref b1_71), .val (.ref b2_6_72), .val (.int (1 : Int32))]) rfl ?_
                show Steps p.tables e below (T72.setTop (mkF m 287 #[.val (.int p1), .val (.int p2), .val (.int (4 : Int32)), .val (.int (((p2.toUInt32 >>> ((2 : Int32) &&& 31).toUInt32).toInt32) &&& (15 : Int32))), .val (.int bb0), .val (.int bb1), .val (.int bb2), .val (.int bb3), .val (.int (0 : Int32)), .val (.ref b1_71), .val (.ref b2_6_72), .val (.int (1 : Int32))] [])) _
                refine XS.iloadN X72.here hx rfl (hb hby at_287) rfl ?_
                refine XS.iconst X72.here hx rfl (hb hby at_288) ?_
                refine XS.icmpNo X72.here hx rfl (hb hby at_289) rfl (flt (by decide : ¬ ((4 : Int32) < (3 : Int32)))).1 ?_
                show Steps p.tables e below (T72.setTop (mkF m 292 #[.val (.int p1), .val (.int p2), .val (.int (4 : Int32)), .val (.int (((p2.toUInt32 >>> ((2 : Int32) &&& 31).toUInt32).toInt32) &&& (15 : Int32))), .val (.int bb0), .val (.int bb1), .val (.int bb2), .val (.int bb3), .val (.int (0 : Int32)), .val (.ref b1_71), .val (.ref b2_6_72), .val (.int (1 : Int32))] [])) _
                refine XS.iload X72.here hx rfl (hb hby at_292) rfl ?_
                refine XS.ifNo X72.here hx rfl (hb hby at_294) rfl ((if0 _ _).trans (feq (by decide : ¬ ((1 : Int32) = (0 : Int32)))).1) ?_
                refine XS.aload X72.here hx rfl (hb hby at_297) rfl rfl ?_
                show Steps p.tables e below (T72.setTop (mkF m 299 #[.val (.int p1), .val (.int p2), .val (.int (4 : Int32)), .val (.int (((p2.toUInt32 >>> ((2 : Int32) &&& 31).toUInt32).toInt32) &&& (15 : Int32))), .val (.int bb0), .val (.int bb1), .val (.int bb2), .val (.int bb3), .val (.int (0 : Int32)), .val (.ref b1_71), .val (.ref b2_6_72), .val (.int (1 : Int32))] [(.ref b1_71)])) _
                refine XS.iconst X72.here hx rfl (hb hby at_299) ?_
                refine X72.baloadBytes hx (j := (2 : Int32)) (v := (.int (nar .byte bb2))) (by exact Ar_b1_71_300_77.1) (State.isArrayOf_alike hZ.alike Ar_b1_71_300_77.2.1) Ar_b1_71_300_77.2.2 hin_b1_71_300_77 (H_b1_71_300_77.at hin_b1_71_300_77 rfl) (g := (mkF m 300 #[.val (.int p1), .val (.int p2), .val (.int (4 : Int32)), .val (.int (((p2.toUInt32 >>> ((2 : Int32) &&& 31).toUInt32).toInt32) &&& (15 : Int32))), .val (.int bb0), .val (.int bb1), .val (.int bb2), .val (.int bb3), .val (.int (0 : Int32)), .val (.ref b1_71), .val (.ref b2_6_72), .val (.int (1 : Int32))] [(.int (2 : Int32)), (.ref b1_71)])) rfl rfl (hb hby at_300) _ ?_
                show Steps p.tables e below (T72.setTop (mkF m 301 #[.val (.int p1), .val (.int p2), .val (.int (4 : Int32)), .val (.int (((p2.toUInt32 >>> ((2 : Int32) &&& 31).toUInt32).toInt32) &&& (15 : Int32))), .val (.int bb0), .val (.int bb1), .val (.int bb2), .val (.int bb3), .val (.int (0 : Int32)), .val (.ref b1_71), .val (.ref b2_6_72), .val (.int (1 : Int32))] [(.int (nar .byte bb2))])) _
                refine XS.iload X72.here hx rfl (hb hby at_301) rfl ?_
                show Steps p.tables e below (T72.setTop (mkF m 303 #[.val (.int p1), .val (.int p2), .val (.int (4 : Int32)), .val (.int (((p2.toUInt32 >>> ((2 : Int32) &&& 31).toUInt32).toInt32) &&& (15 : Int32))), .val (.int bb0), .val (.int bb1), .val (.int bb2), .val (.int bb3), .val (.int (0 : Int32)), .val (.ref b1_71), .val (.ref b2_6_72), .val (.int (1 : Int32))] [(.int bb2), (.int (nar .byte bb2))])) _
                refine XS.icmpNo X72.here hx rfl (hb hby at_303) rfl (teq (by simp only [e_bb0, e_bb1, e_bb2, e_bb3, own_narb] : (nar .byte bb2) = bb2)).2 ?_
                refine XS.iconst X72.here hx rfl (hb hby at_306) ?_
                refine XS.goto X72.here hx rfl (pc0 := 307) (pc' := 311) rfl (hb hby at_307) (by decide) (by decide) ?_
                show Steps p.tables e below (T72.setTop (mkF m 311 #[.val (.int p1), .val (.int p2), .val (.int (4 : Int32)), .val (.int (((p2.toUInt32 >>> ((2 : Int32) &&& 31).toUInt32).toInt32) &&& (15 : Int32))), .val (.int bb0), .val (.int bb1), .val (.int bb2), .val (.int bb3), .val (.int (0 : Int32)), .val (.ref b1_71), .val (.ref b2_6_72), .val (.int (1 : Int32))] [(.int (1 : Int32))])) _
                refine XS.istore X72.here hx rfl (hb hby at_311) rfl (l' := #[.val (.int p1), .val (.int p2), .val (.int (4 : Int32)), .val (.int (((p2.toUInt32 >>> ((2 : Int32) &&& 31).toUInt32).toInt32) &&& (15 : Int32))), .val (.int bb0), .val (.int bb1), .val (.int bb2), .val (.int bb3), .val (.int (0 : Int32)), .val (.ref b1_71), .val (.ref b2_6_72), .val (.int (1 : Int32))]) rfl ?_
                refine XS.iloadN X72.here hx rfl (hb hby at_313) rfl ?_
                refine XS.iconst X72.here hx rfl (hb hby at_314) ?_
                show Steps p.tables e below (T72.setTop (mkF m 315 #[.val (.int p1), .val (.int p2), .val (.int (4 : Int32)), .val (.int (((p2.toUInt32 >>> ((2 : Int32) &&& 31).toUInt32).toInt32) &&& (15 : Int32))), .val (.int bb0), .val (.int bb1), .val (.int bb2), .val (.int bb3), .val (.int (0 : Int32)), .val (.ref b1_71), .val (.ref b2_6_72), .val (.int (1 : Int32))] [(.int (4 : Int32)), (.int (4 : Int32))])) _
                refine XS.icmpNo X72.here hx rfl (hb hby at_315) rfl (flt (by decide : ¬ ((4 : Int32) < (4 : Int32)))).1 ?_
                refine XS.iload X72.here hx rfl (hb hby at_318) rfl ?_
                refine XS.ifNo X72.here hx rfl (hb hby at_320) rfl ((if0 _ _).trans (feq (by decide : ¬ ((1 : Int32) = (0 : Int32)))).1) ?_
                show Steps p.tables e below (T72.setTop (mkF m 323 #[.val (.int p1), .val (.int p2), .val (.int (4 : Int32)), .val (.int (((p2.toUInt32 >>> ((2 : Int32) &&& 31).toUInt32).toInt32) &&& (15 : Int32))), .val (.int bb0), .val (.int bb1), .val (.int bb2), .val (.int bb3), .val (.int (0 : Int32)), .val (.ref b1_71), .val (.ref b2_6_72), .val (.int (1 : Int32))] [])) _
                refine XS.aload X72.here hx rfl (hb hby at_323) rfl rfl ?_
                refine XS.iconst X72.here hx rfl (hb hby at_325) ?_
                refine X72.baloadBytes hx (j := (3 : Int32)) (v := (.int (nar .byte bb3))) (by exact Ar_b1_71_326_78.1) (State.isArrayOf_alike hZ.alike Ar_b1_71_326_78.2.1) Ar_b1_71_326_78.2.2 hin_b1_71_326_78 (H_b1_71_326_78.at hin_b1_71_326_78 rfl) (g := (mkF m 326 #[.val (.int p1), .val (.int p2), .val (.int (4 : Int32)), .val (.int (((p2.toUInt32 >>> ((2 : Int32) &&& 31).toUInt32).toInt32) &&& (15 : Int32))), .val (.int bb0), .val (.int bb1), .val (.int bb2), .val (.int bb3), .val (.int (0 : Int32)), .val (.ref b1_71), .val (.ref b2_6_72), .val (.int (1 : Int32))] [(.int (3 : Int32)), (.ref b1_71)])) rfl rfl (hb hby at_326) _ ?_
                show Steps p.tables e below (T72.setTop (mkF m 327 #[.val (.int p1), .val (.int p2), .val (.int (4 : Int32)), .val (.int (((p2.toUInt32 >>> ((2 : Int32) &&& 31).toUInt32).toInt32) &&& (15 : Int32))), .val (.int bb0), .val (.int bb1), .val (.int bb2), .val (.int bb3), .val (.int (0 : Int32)), .val (.ref b1_71), .val (.ref b2_6_72), .val (.int (1 : Int32))] [(.int (nar .byte bb3))])) _
                refine XS.iload X72.here hx rfl (hb hby at_327) rfl ?_
                refine XS.icmpNo X72.here hx rfl (hb hby at_329) rfl (teq (by simp only [e_bb0, e_bb1, e_bb2, e_bb3, own_narb] : (nar .byte bb3) = bb3)).2 ?_
                refine XS.iconst X72.here hx rfl (hb hby at_332) ?_
                show Steps p.tables e below (T72.setTop (mkF m 333 #[.val (.int p1), .val (.int p2), .val (.int (4 : Int32)), .val (.int (((p2.toUInt32 >>> ((2 : Int32) &&& 31).toUInt32).toInt32) &&& (15 : Int32))), .val (.int bb0), .val (.int bb1), .val (.int bb2), .val (.int bb3), .val (.int (0 : Int32)), .val (.ref b1_71), .val (.ref b2_6_72), .val (.int (1 : Int32))] [(.int (1 : Int32))])) _
                refine XS.goto X72.here hx rfl (pc0 := 333) (pc' := 337) rfl (hb hby at_333) (by decide) (by decide) ?_
                refine XS.istore X72.here hx rfl (hb hby at_337) rfl (l' := #[.val (.int p1), .val (.int p2), .val (.int (4 : Int32)), .val (.int (((p2.toUInt32 >>> ((2 : Int32) &&& 31).toUInt32).toInt32) &&& (15 : Int32))), .val (.int bb0), .val (.int bb1), .val (.int bb2), .val (.int bb3), .val (.int (0 : Int32)), .val (.ref b1_71), .val (.ref b2_6_72), .val (.int (1 : Int32))]) rfl ?_
                refine XS.iload X72.here hx rfl (hb hby at_339) rfl ?_
                show Steps p.tables e below (T72.setTop (mkF m 341 #[.val (.int p1), .val (.int p2), .val (.int (4 : Int32)), .val (.int (((p2.toUInt32 >>> ((2 : Int32) &&& 31).toUInt32).toInt32) &&& (15 : Int32))), .val (.int bb0), .val (.int bb1), .val (.int bb2), .val (.int bb3), .val (.int (0 : Int32)), .val (.ref b1_71), .val (.ref b2_6_72), .val (.int (1 : Int32))] [(.int (1 : Int32))])) _
                exact retN X72 hx (t := .boolean) Bd.returns (by simp) (hb hby at_341) hr
              · show Q0 Z p1 p2 h0 n0 _ T72.heap _
                exact ⟨rfl, N72⟩
            · by_cases hv79 : (res2 (4 : Int32) bb0 bb1 bb2 bb3) = (1 : Int32)
              · rw [hv79] at pre68
                obtain ⟨_, _, ⟨T80, L80, k80, n80⟩, -, X80, ⟨Lc80, hQ80, l80, y80, z80⟩, st80⟩ := Jvm.LawKit.callS X67 hx (y := (⟨"com/example/elliott_bay/elliottbay/store/KeysEndPinLaw", "make", "(IBBBB)[B"⟩ : MethodName)) hown (mvT hZ (hw _ (List.mem_of_getElem? (i := 7) rfl))) (mvT hZ (hw _ (List.mem_of_getElem? (i := 8) rfl))) (mvT hZ (hw _ (List.mem_of_getElem? (i := 2) rfl))) (mvT hZ (hw _ (List.mem_of_getElem? (i := 9) rfl))) (by decide) (backOf (W := 0) (rm_make_4 l Z a0 hw [] bb0 bb1 bb2 bb3  h0 n0 (Nat.le_trans Z0 (Keep.refl h0 []).1)  ) hZ (hw _ (List.mem_of_getElem? (i := 9) rfl)) (hw _ (List.mem_of_getElem? (i := 2) rfl)) (by decide) (by decide)) (g := (mkF m 75 #[.val (.int p1), .val (.int p2), .val (.int (4 : Int32)), .val (.int (((p2.toUInt32 >>> ((2 : Int32) &&& 31).toUInt32).toInt32) &&& (15 : Int32))), .val (.int bb0), .val (.int bb1), .val (.int bb2), .val (.int bb3), .val (.int (1 : Int32)), .unset, .unset, .unset] [(.int bb3), (.int bb2), (.int bb1), (.int bb0), (.int (4 : Int32))])) rfl (by rw [hml]; rfl) (argsL := [(.int (4 : Int32)), (.int bb0), (.int bb1), (.int bb2), (.int bb3)]) (rest := []) (lenOf pd4 rfl) rfl (by show 2 * 0 + _ ≤ _; exact Nat.le_of_eq rfl) (hb hby at_75) (fun _ _ => ⟨rfl, e67, (by decide : 0 + 1 ≤ _), (by decide : 0 + 4 ≤ _)⟩)
                dsimp only [Pt.U, Pt.locs, Pt.cells, Pt.slots] at X80 l80 y80 z80 st80 hQ80
                subst l80 y80 z80
                obtain ⟨b1_80, k1_80, rfl, N80q, K80, s80_b1, f80_0, f80_1⟩ := hQ80
                have N80 := Fr.app N67 N80q
                have sz_b1_80 : h0.size ≤ b1_80 := Nat.le_trans (Keep.refl h0 []).1 s80_b1
                have g_b1_80 : n0 ≤ b1_80 := Nat.le_trans Z0 sz_b1_80
                have KK80 : Keep h0 T80.heap [] := (Keep.refl h0 []).trans K80 all0
                obtain ⟨_, _, ⟨T81, L81, k81, n81⟩, -, X81, ⟨Lc81, hQ81, l81, y81, z81⟩, st81⟩ := Jvm.LawKit.callS X80 hx (y := (⟨"com/example/elliott_bay/elliottbay/store/Keys", "end", "([B)[B"⟩ : MethodName)) hown (mvT hZ (hw _ (List.mem_of_getElem? (i := 11) rfl))) (mvT hZ (hw _ (List.mem_of_getElem? (i := 12) rfl))) (mvT hZ (hw _ (List.mem_of_getElem? (i := 13) rfl))) (mvT hZ (hw _ (List.mem_of_getElem? (i := 14) rfl))) (by decide) (backOf (W := 0) (rm_end_4_1 l Z a0 hw [] b1_80 k1_80 (nar .byte bb0) (nar .byte bb1) (nar .byte bb2) (nar .byte bb3) T80.heap n0 (Nat.le_trans Z0 KK80.1) f80_0 f80_1 ((own_l_4_1 e_bb0 e_bb1 e_bb2 e_bb3 hv79).2.2 : (nar .byte bb3) = (-1 : Int32)) ((own_l_4_1 e_bb0 e_bb1 e_bb2 e_bb3 hv79).2.1 : (nar .byte bb2) = (-1 : Int32)) ((own_l_4_1 e_bb0 e_bb1 e_bb2 e_bb3 hv79).1 : ¬ ((nar .byte bb1) = (-1 : Int32)))) hZ (hw _ (List.mem_of_getElem? (i := 14) rfl)) (hw _ (List.mem_of_getElem? (i := 13) rfl)) (by decide) (by decide)) (g := (mkF m 82 #[.val (.int p1), .val (.int p2), .val (.int (4 : Int32)), .val (.int (((p2.toUInt32 >>> ((2 : Int32) &&& 31).toUInt32).toInt32) &&& (15 : Int32))), .val (.int bb0), .val (.int bb1), .val (.int bb2), .val (.int bb3), .val (.int (1 : Int32)), .val (.ref b1_80), .unset, .unset] [(.ref b1_80)])) rfl (by rw [hml]; rfl) (argsL := [(.ref b1_80)]) (rest := []) (lenOf pd5 rfl) rfl (by show 2 * 0 + _ ≤ _; exact Nat.le_of_eq rfl) (hb hby at_82) (fun _ _ => ⟨rfl, rfl, (by decide : 1 + 1 ≤ _), (by decide : 4 + 2 ≤ _)⟩)
                dsimp only [Pt.U, Pt.locs, Pt.cells, Pt.slots] at X81 l81 y81 z81 st81 hQ81
                subst l81 y81 z81
                obtain ⟨b2_5_81, k2_5_81, rfl, N81q, K81, s81_b2_5, f81_0⟩ := hQ81
                have N81 := Fr.app N80 N81q
                have sz_b2_5_81 : h0.size ≤ b2_5_81 := Nat.le_trans KK80.1 s81_b2_5
                have g_b2_5_81 : n0 ≤ b2_5_81 := Nat.le_trans Z0 sz_b2_5_81
                have KK81 : Keep h0 T81.heap [] := KK80.trans K81 all0
                obtain ⟨cl_b2_5_81_89_82, Ar_b2_5_81_89_82, -, S_b2_5_81_89_82, N_b2_5_81_89_82, -, -⟩ := id f81_0
                obtain ⟨cl_b2_5_81_102_83, Ar_b2_5_81_102_83, q_b2_5_81_102_83, S_b2_5_81_102_83, N_b2_5_81_102_83, H_b2_5_81_102_83, G_b2_5_81_102_83⟩ := id f81_0
                have hin_b2_5_81_102_83 : ¬ ((0 : Int32) < 0 ∨ cl_b2_5_81_102_83.slots.size ≤ ((0 : Int32) : Int32).toNatClampNeg) := inb_of S_b2_5_81_102_83 ⟨by decide, by decide⟩
                obtain ⟨cl_b2_5_81_142_84, Ar_b2_5_81_142_84, q_b2_5_81_142_84, S_b2_5_81_142_84, N_b2_5_81_142_84, H_b2_5_81_142_84, G_b2_5_81_142_84⟩ := id f81_0
                have hin_b2_5_81_142_84 : ¬ ((1 : Int32) < 0 ∨ cl_b2_5_81_142_84.slots.size ≤ ((1 : Int32) : Int32).toNatClampNeg) := inb_of S_b2_5_81_142_84 ⟨by decide, by decide⟩
                obtain ⟨cl_b1_80_248_85, Ar_b1_80_248_85, q_b1_80_248_85, S_b1_80_248_85, N_b1_80_248_85, H_b1_80_248_85, G_b1_80_248_85⟩ := id (f80_0.keep K81 nin0)
                have hin_b1_80_248_85 : ¬ ((0 : Int32) < 0 ∨ cl_b1_80_248_85.slots.size ≤ ((0 : Int32) : Int32).toNatClampNeg) := inb_of S_b1_80_248_85 ⟨by decide, by decide⟩
                obtain ⟨cl_b1_80_274_86, Ar_b1_80_274_86, q_b1_80_274_86, S_b1_80_274_86, N_b1_80_274_86, H_b1_80_274_86, G_b1_80_274_86⟩ := id (f80_0.keep K81 nin0)
                have hin_b1_80_274_86 : ¬ ((1 : Int32) < 0 ∨ cl_b1_80_274_86.slots.size ≤ ((1 : Int32) : Int32).toNatClampNeg) := inb_of S_b1_80_274_86 ⟨by decide, by decide⟩
                obtain ⟨cl_b1_80_300_87, Ar_b1_80_300_87, q_b1_80_300_87, S_b1_80_300_87, N_b1_80_300_87, H_b1_80_300_87, G_b1_80_300_87⟩ := id (f80_0.keep K81 nin0)
                have hin_b1_80_300_87 : ¬ ((2 : Int32) < 0 ∨ cl_b1_80_300_87.slots.size ≤ ((2 : Int32) : Int32).toNatClampNeg) := inb_of S_b1_80_300_87 ⟨by decide, by decide⟩
                obtain ⟨cl_b1_80_326_88, Ar_b1_80_326_88, q_b1_80_326_88, S_b1_80_326_88, N_b1_80_326_88, H_b1_80_326_88, G_b1_80_326_88⟩ := id (f80_0.keep K81 nin0)
                have hin_b1_80_326_88 : ¬ ((3 : Int32) < 0 ∨ cl_b1_80_326_88.slots.size ≤ ((3 : Int32) : Int32).toNatClampNeg) := inb_of S_b1_80_326_88 ⟨by decide, by decide⟩
                obtain ⟨fs, hr, hrun, hended, hW, hsame⟩ := X81.leave (v := some (.int (1 : Int32))) (fun h => by rw [Bd.returns] at h; cases h)
                refine ⟨_, _, pre68 _ ?_, hrun, hended, _, _, rfl, ?_, ⟨_, rfl⟩, hW, hsame.mono (by decide) (by decide)⟩
                · show Steps p.tables e below (T67.setTop (mkF m 57 #[.val (.int p1), .val (.int p2), .val (.int (4 : Int32)), .val (.int (((p2.toUInt32 >>> ((2 : Int32) &&& 31).toUInt32).toInt32) &&& (15 : Int32))), .val (.int bb0), .val (.int bb1), .val (.int bb2), .val (.int bb3), .unset, .unset, .unset, .unset] [(.int (1 : Int32))])) _
                  refine XS.istore X67.here hx rfl (hb hby at_57) rfl (l' := #[.val (.int p1), .val (.int p2), .val (.int (4 : Int32)), .val (.int (((p2.toUInt32 >>> ((2 : Int32) &&& 31).toUInt32).toInt32) &&& (15 : Int32))), .val (.int bb0), .val (.int bb1), .val (.int bb2), .val (.int bb3), .val (.int (1 : Int32)), .unset, .unset, .unset]) rfl ?_
                  refine XS.iload X67.here hx rfl (hb hby at_59) rfl ?_
                  refine XS.ifYes X67.here hx rfl (pc0 := 61) (pc' := 66) rfl (hb hby at_61) rfl ((if0 _ _).trans (flt (by decide : ¬ ((1 : Int32) < (0 : Int32)))).2.1) (by decide) (by decide) ?_
                  show Steps p.tables e below (T67.setTop (mkF m 66 #[.val (.int p1), .val (.int p2), .val (.int (4 : Int32)), .val (.int (((p2.toUInt32 >>> ((2 : Int32) &&& 31).toUInt32).toInt32) &&& (15 : Int32))), .val (.int bb0), .val (.int bb1), .val (.int bb2), .val (.int bb3), .val (.int (1 : Int32)), .unset, .unset, .unset] [])) _
                  refine XS.iloadN X67.here hx rfl (hb hby at_66) rfl ?_
                  refine XS.iload X67.here hx rfl (hb hby at_67) rfl ?_
                  refine XS.iload X67.here hx rfl (hb hby at_69) rfl ?_
                  show Steps p.tables e below (T67.setTop (mkF m 71 #[.val (.int p1), .val (.int p2), .val (.int (4 : Int32)), .val (.int (((p2.toUInt32 >>> ((2 : Int32) &&& 31).toUInt32).toInt32) &&& (15 : Int32))), .val (.int bb0), .val (.int bb1), .val (.int bb2), .val (.int bb3), .val (.int (1 : Int32)), .unset, .unset, .unset] [(.int bb1), (.int bb0), (.int (4 : Int32))])) _
                  refine XS.iload X67.here hx rfl (hb hby at_71) rfl ?_
                  refine XS.iload X67.here hx rfl (hb hby at_73) rfl ?_
                  show Steps p.tables e below (T67.setTop (mkF m 75 #[.val (.int p1), .val (.int p2), .val (.int (4 : Int32)), .val (.int (((p2.toUInt32 >>> ((2 : Int32) &&& 31).toUInt32).toInt32) &&& (15 : Int32))), .val (.int bb0), .val (.int bb1), .val (.int bb2), .val (.int bb3), .val (.int (1 : Int32)), .unset, .unset, .unset] [(.int bb3), (.int bb2), (.int bb1), (.int bb0), (.int (4 : Int32))])) _
                  refine st80 _ ?_
                  show Steps p.tables e below (T80.setTop (mkF m 78 #[.val (.int p1), .val (.int p2), .val (.int (4 : Int32)), .val (.int (((p2.toUInt32 >>> ((2 : Int32) &&& 31).toUInt32).toInt32) &&& (15 : Int32))), .val (.int bb0), .val (.int bb1), .val (.int bb2), .val (.int bb3), .val (.int (1 : Int32)), .unset, .unset, .unset] [(.ref b1_80)])) _
                  refine XS.astore X80.here hx rfl (hb hby at_78) rfl rfl (l' := #[.val (.int p1), .val (.int p2), .val (.int (4 : Int32)), .val (.int (((p2.toUInt32 >>> ((2 : Int32) &&& 31).toUInt32).toInt32) &&& (15 : Int32))), .val (.int bb0), .val (.int bb1), .val (.int bb2), .val (.int bb3), .val (.int (1 : Int32)), .val (.ref b1_80), .unset, .unset]) rfl ?_
                  show Steps p.tables e below (T80.setTop (mkF m 80 #[.val (.int p1), .val (.int p2), .val (.int (4 : Int32)), .val (.int (((p2.toUInt32 >>> ((2 : Int32) &&& 31).toUInt32).toInt32) &&& (15 : Int32))), .val (.int bb0), .val (.int bb1), .val (.int bb2), .val (.int bb3), .val (.int (1 : Int32)), .val (.ref b1_80), .unset, .unset] [])) _
                  refine XS.aload X80.here hx rfl (hb hby at_80) rfl rfl ?_
                  show Steps p.tables e below (T80.setTop (mkF m 82 #[.val (.int p1), .val (.int p2), .val (.int (4 : Int32)), .val (.int (((p2.toUInt32 >>> ((2 : Int32) &&& 31).toUInt32).toInt32) &&& (15 : Int32))), .val (.int bb0), .val (.int bb1), .val (.int bb2), .val (.int bb3), .val (.int (1 : Int32)), .val (.ref b1_80), .unset, .unset] [(.ref b1_80)])) _
                  refine st81 _ ?_
                  show Steps p.tables e below (T81.setTop (mkF m 85 #[.val (.int p1), .val (.int p2), .val (.int (4 : Int32)), .val (.int (((p2.toUInt32 >>> ((2 : Int32) &&& 31).toUInt32).toInt32) &&& (15 : Int32))), .val (.int bb0), .val (.int bb1), .val (.int bb2), .val (.int bb3), .val (.int (1 : Int32)), .val (.ref b1_80), .unset, .unset] [(.ref b2_5_81)])) _
                  refine XS.astore X81.here hx rfl (hb hby at_85) rfl rfl (l' := #[.val (.int p1), .val (.int p2), .val (.int (4 : Int32)), .val (.int (((p2.toUInt32 >>> ((2 : Int32) &&& 31).toUInt32).toInt32) &&& (15 : Int32))), .val (.int bb0), .val (.int bb1), .val (.int bb2), .val (.int bb3), .val (.int (1 : Int32)), .val (.ref b1_80), .val (.ref b2_5_81), .unset]) rfl ?_
                  refine XS.aload X81.here hx rfl (hb hby at_87) rfl rfl ?_
                  show Steps p.tables e below (T81.setTop (mkF m 89 #[.val (.int p1), .val (.int p2), .val (.int (4 : Int32)), .val (.int (((p2.toUInt32 >>> ((2 : Int32) &&& 31).toUInt32).toInt32) &&& (15 : Int32))), .val (.int bb0), .val (.int bb1), .val (.int bb2), .val (.int bb3), .val (.int (1 : Int32)), .val (.ref b1_80), .val (.ref b2_5_81), .unset] [(.ref b2_5_81)])) _
                  refine X81.arraylength hx (by exact Ar_b2_5_81_89_82.1) (State.isArrayOf_alike hZ.alike Ar_b2_5_81_89_82.2.1) (g := (mkF m 89 #[.val (.int p1), .val (.int p2), .val (.int (4 : Int32)), .val (.int (((p2.toUInt32 >>> ((2 : Int32) &&& 31).toUInt32).toInt32) &&& (15 : Int32))), .val (.int bb0), .val (.int bb1), .val (.int bb2), .val (.int bb3), .val (.int (1 : Int32)), .val (.ref b1_80), .val (.ref b2_5_81), .unset] [(.ref b2_5_81)])) rfl rfl (hb hby at_89) _ ?_
                  rw [len_of S_b2_5_81_89_82 N_b2_5_81_89_82]
                  show Steps p.tables e below (T81.setTop (mkF m 90 #[.val (.int p1), .val (.int p2), .val (.int (4 : Int32)), .val (.int (((p2.toUInt32 >>> ((2 : Int32) &&& 31).toUInt32).toInt32) &&& (15 : Int32))), .val (.int bb0), .val (.int bb1), .val (.int bb2), .val (.int bb3), .val (.int (1 : Int32)), .val (.ref b1_80), .val (.ref b2_5_81), .unset] [(.int (2 : Int32))])) _
                  refine XS.iload X81.here hx rfl (hb hby at_90) rfl ?_
                  refine XS.iconst X81.here hx rfl (hb hby at_92) ?_
                  show Steps p.tables e below (T81.setTop (mkF m 93 #[.val (.int p1), .val (.int p2), .val (.int (4 : Int32)), .val (.int (((p2.toUInt32 >>> ((2 : Int32) &&& 31).toUInt32).toInt32) &&& (15 : Int32))), .val (.int bb0), .val (.int bb1), .val (.int bb2), .val (.int bb3), .val (.int (1 : Int32)), .val (.ref b1_80), .val (.ref b2_5_81), .unset] [(.int (1 : Int32)), (.int (1 : Int32)), (.int (2 : Int32))])) _
                  refine XS.iadd X81.here hx rfl (hb hby at_93) rfl ?_
                  refine XS.icmpYes X81.here hx rfl (pc0 := 94) (pc' := 99) rfl (hb hby at_94) rfl (teq (by decide : (2 : Int32) = (2 : Int32))).1 (by decide) (by decide) ?_
                  refine XS.aload X81.here hx rfl (hb hby at_99) rfl rfl ?_
                  show Steps p.tables e below (T81.setTop (mkF m 101 #[.val (.int p1), .val (.int p2), .val (.int (4 : Int32)), .val (.int (((p2.toUInt32 >>> ((2 : Int32) &&& 31).toUInt32).toInt32) &&& (15 : Int32))), .val (.int bb0), .val (.int bb1), .val (.int bb2), .val (.int bb3), .val (.int (1 : Int32)), .val (.ref b1_80), .val (.ref b2_5_81), .unset] [(.ref b2_5_81)])) _
                  refine XS.iconst X81.here hx rfl (hb hby at_101) ?_
                  refine X81.baloadBytes hx (j := (0 : Int32)) (v := (.int (nar .byte bb0))) (by exact Ar_b2_5_81_102_83.1) (State.isArrayOf_alike hZ.alike Ar_b2_5_81_102_83.2.1) Ar_b2_5_81_102_83.2.2 hin_b2_5_81_102_83 (H_b2_5_81_102_83.at hin_b2_5_81_102_83 rfl) (g := (mkF m 102 #[.val (.int p1), .val (.int p2), .val (.int (4 : Int32)), .val (.int (((p2.toUInt32 >>> ((2 : Int32) &&& 31).toUInt32).toInt32) &&& (15 : Int32))), .val (.int bb0), .val (.int bb1), .val (.int bb2), .val (.int bb3), .val (.int (1 : Int32)), .val (.ref b1_80), .val (.ref b2_5_81), .unset] [(.int (0 : Int32)), (.ref b2_5_81)])) rfl rfl (hb hby at_102) _ ?_
                  show Steps p.tables e below (T81.setTop (mkF m 103 #[.val (.int p1), .val (.int p2), .val (.int (4 : Int32)), .val (.int (((p2.toUInt32 >>> ((2 : Int32) &&& 31).toUInt32).toInt32) &&& (15 : Int32))), .val (.int bb0), .val (.int bb1), .val (.int bb2), .val (.int bb3), .val (.int (1 : Int32)), .val (.ref b1_80), .val (.ref b2_5_81), .unset] [(.int (nar .byte bb0))])) _
                  refine XS.iload X81.here hx rfl (hb hby at_103) rfl ?_
                  show Steps p.tables e below (T81.setTop (mkF m 105 #[.val (.int p1), .val (.int p2), .val (.int (4 : Int32)), .val (.int (((p2.toUInt32 >>> ((2 : Int32) &&& 31).toUInt32).toInt32) &&& (15 : Int32))), .val (.int bb0), .val (.int bb1), .val (.int bb2), .val (.int bb3), .val (.int (1 : Int32)), .val (.ref b1_80), .val (.ref b2_5_81), .unset] [(.int (1 : Int32)), (.int (nar .byte bb0))])) _
                  refine XS.ifYes X81.here hx rfl (pc0 := 105) (pc' := 116) rfl (hb hby at_105) rfl ((if0 _ _).trans (feq (by decide : ¬ ((1 : Int32) = (0 : Int32)))).2) (by decide) (by decide) ?_
                  refine XS.iload X81.here hx rfl (hb hby at_116) rfl ?_
                  refine XS.icmpNo X81.here hx rfl (hb hby at_118) rfl (teq (by simp only [e_bb0, e_bb1, e_bb2, e_bb3, own_narb] : (nar .byte bb0) = bb0)).2 ?_
                  show Steps p.tables e below (T81.setTop (mkF m 121 #[.val (.int p1), .val (.int p2), .val (.int (4 : Int32)), .val (.int (((p2.toUInt32 >>> ((2 : Int32) &&& 31).toUInt32).toInt32) &&& (15 : Int32))), .val (.int bb0), .val (.int bb1), .val (.int bb2), .val (.int bb3), .val (.int (1 : Int32)), .val (.ref b1_80), .val (.ref b2_5_81), .unset] [])) _
                  refine XS.iconst X81.here hx rfl (hb hby at_121) ?_
                  refine XS.goto X81.here hx rfl (pc0 := 122) (pc' := 126) rfl (hb hby at_122) (by decide) (by decide) ?_
                  refine XS.istore X81.here hx rfl (hb hby at_126) rfl (l' := #[.val (.int p1), .val (.int p2), .val (.int (4 : Int32)), .val (.int (((p2.toUInt32 >>> ((2 : Int32) &&& 31).toUInt32).toInt32) &&& (15 : Int32))), .val (.int bb0), .val (.int bb1), .val (.int bb2), .val (.int bb3), .val (.int (1 : Int32)), .val (.ref b1_80), .val (.ref b2_5_81), .val (.int (1 : Int32))]) rfl ?_
                  show Steps p.tables e below (T81.setTop (mkF m 128 #[.val (.int p1), .val (.int p2), .val (.int (4 : Int32)), .val (.int (((p2.toUInt32 >>> ((2 : Int32) &&& 31).toUInt32).toInt32) &&& (15 : Int32))), .val (.int bb0), .val (.int bb1), .val (.int bb2), .val (.int bb3), .val (.int (1 : Int32)), .val (.ref b1_80), .val (.ref b2_5_81), .val (.int (1 : Int32))] [])) _
                  refine XS.iload X81.here hx rfl (hb hby at_128) rfl ?_
                  refine XS.iconst X81.here hx rfl (hb hby at_130) ?_
                  refine XS.icmpNo X81.here hx rfl (hb hby at_131) rfl (flt (by decide : ¬ ((1 : Int32) < (1 : Int32)))).1 ?_
                  show Steps p.tables e below (T81.setTop (mkF m 134 #[.val (.int p1), .val (.int p2), .val (.int (4 : Int32)), .val (.int (((p2.toUInt32 >>> ((2 : Int32) &&& 31).toUInt32).toInt32) &&& (15 : Int32))), .val (.int bb0), .val (.int bb1), .val (.int bb2), .val (.int bb3), .val (.int (1 : Int32)), .val (.ref b1_80), .val (.ref b2_5_81), .val (.int (1 : Int32))] [])) _
                  refine XS.iload X81.here hx rfl (hb hby at_134) rfl ?_
                  refine XS.ifNo X81.here hx rfl (hb hby at_136) rfl ((if0 _ _).trans (feq (by decide : ¬ ((1 : Int32) = (0 : Int32)))).1) ?_
                  refine XS.aload X81.here hx rfl (hb hby at_139) rfl rfl ?_
                  show Steps p.tables e below (T81.setTop (mkF m 141 #[.val (.int p1), .val (.int p2), .val (.int (4 : Int32)), .val (.int (((p2.toUInt32 >>> ((2 : Int32) &&& 31).toUInt32).toInt32) &&& (15 : Int32))), .val (.int bb0), .val (.int bb1), .val (.int bb2), .val (.int bb3), .val (.int (1 : Int32)), .val (.ref b1_80), .val (.ref b2_5_81), .val (.int (1 : Int32))] [(.ref b2_5_81)])) _
                  refine XS.iconst X81.here hx rfl (hb hby at_141) ?_
                  refine X81.baloadBytes hx (j := (1 : Int32)) (v := (.int (nar .byte (((nar .byte bb1) + (1 : Int32)).toInt8.toInt32)))) (by exact Ar_b2_5_81_142_84.1) (State.isArrayOf_alike hZ.alike Ar_b2_5_81_142_84.2.1) Ar_b2_5_81_142_84.2.2 hin_b2_5_81_142_84 (H_b2_5_81_142_84.at hin_b2_5_81_142_84 rfl) (g := (mkF m 142 #[.val (.int p1), .val (.int p2), .val (.int (4 : Int32)), .val (.int (((p2.toUInt32 >>> ((2 : Int32) &&& 31).toUInt32).toInt32) &&& (15 : Int32))), .val (.int bb0), .val (.int bb1), .val (.int bb2), .val (.int bb3), .val (.int (1 : Int32)), .val (.ref b1_80), .val (.ref b2_5_81), .val (.int (1 : Int32))] [(.int (1 : Int32)), (.ref b2_5_81)])) rfl rfl (hb hby at_142) _ ?_
                  show Steps p.tables e below (T81.setTop (mkF m 143 #[.val (.int p1), .val (.int p2), .val (.int (4 : Int32)), .val (.int (((p2.toUInt32 >>> ((2 : Int32) &&& 31).toUInt32).toInt32) &&& (15 : Int32))), .val (.int bb0), .val (.int bb1), .val (.int bb2), .val (.int bb3), .val (.int (1 : Int32)), .val (.ref b1_80), .val (.ref b2_5_81), .val (.int (1 : Int32))] [(.int (nar .byte (((nar .byte bb1) + (1 : Int32)).toInt8.toInt32)))])) _
                  refine XS.iload X81.here hx rfl (hb hby at_143) rfl ?_
                  show Steps p.tables e below (T81.setTop (mkF m 145 #[.val (.int p1), .val (.int p2), .val (.int (4 : Int32)), .val (.int (((p2.toUInt32 >>> ((2 : Int32) &&& 31).toUInt32).toInt32) &&& (15 : Int32))), .val (.int bb0), .val (.int bb1), .val (.int bb2), .val (.int bb3), .val (.int (1 : Int32)), .val (.ref b1_80), .val (.ref b2_5_81), .val (.int (1 : Int32))] [(.int (1 : Int32)), (.int (nar .byte (((nar .byte bb1) + (1 : Int32)).toInt8.toInt32)))])) _
                  refine XS.iconst X81.here hx rfl (hb hby at_145) ?_
                  refine XS.icmpNo X81.here hx rfl (hb hby at_146) rfl (teq (by decide : (1 : Int32) = (1 : Int32))).2 ?_
                  refine XS.iload X81.here hx rfl (hb hby at_149) rfl ?_
                  show Steps p.tables e below (T81.setTop (mkF m 151 #[.val (.int p1), .val (.int p2), .val (.int (4 : Int32)), .val (.int (((p2.toUInt32 >>> ((2 : Int32) &&& 31).toUInt32).toInt32) &&& (15 : Int32))), .val (.int bb0), .val (.int bb1), .val (.int bb2), .val (.int bb3), .val (.int (1 : Int32)), .val (.ref b1_80), .val (.ref b2_5_81), .val (.int (1 : Int32))] [(.int bb1), (.int (nar .byte (((nar .byte bb1) + (1 : Int32)).toInt8.toInt32)))])) _
                  refine XS.iconst X81.here hx rfl (hb hby at_151) ?_
                  refine XS.iadd X81.here hx rfl (hb hby at_152) rfl ?_
                  refine XS.i2b X81.here hx rfl (hb hby at_153) rfl ?_
                  show Steps p.tables e below (T81.setTop (mkF m 154 #[.val (.int p1), .val (.int p2), .val (.int (4 : Int32)), .val (.int (((p2.toUInt32 >>> ((2 : Int32) &&& 31).toUInt32).toInt32) &&& (15 : Int32))), .val (.int bb0), .val (.int bb1), .val (.int bb2), .val (.int bb3), .val (.int (1 : Int32)), .val (.ref b1_80), .val (.ref b2_5_81), .val (.int (1 : Int32))] [(.int ((bb1 + (1 : Int32)).toInt8.toInt32)), (.int (nar .byte (((nar .byte bb1) + (1 : Int32)).toInt8.toInt32)))])) _
                  refine XS.goto X81.here hx rfl (pc0 := 154) (pc' := 159) rfl (hb hby at_154) (by decide) (by decide) ?_
                  refine XS.icmpNo X81.here hx rfl (hb hby at_159) rfl (teq (by simp only [e_bb0, e_bb1, e_bb2, e_bb3, own_narb] : (nar .byte (((nar .byte bb1) + (1 : Int32)).toInt8.toInt32)) = ((bb1 + (1 : Int32)).toInt8.toInt32))).2 ?_
                  refine XS.iconst X81.here hx rfl (hb hby at_162) ?_
                  show Steps p.tables e below (T81.setTop (mkF m 163 #[.val (.int p1), .val (.int p2), .val (.int (4 : Int32)), .val (.int (((p2.toUInt32 >>> ((2 : Int32) &&& 31).toUInt32).toInt32) &&& (15 : Int32))), .val (.int bb0), .val (.int bb1), .val (.int bb2), .val (.int bb3), .val (.int (1 : Int32)), .val (.ref b1_80), .val (.ref b2_5_81), .val (.int (1 : Int32))] [(.int (1 : Int32))])) _
                  refine XS.goto X81.here hx rfl (pc0 := 163) (pc' := 167) rfl (hb hby at_163) (by decide) (by decide) ?_
                  refine XS.istore X81.here hx rfl (hb hby at_167) rfl (l' := #[.val (.int p1), .val (.int p2), .val (.int (4 : Int32)), .val (.int (((p2.toUInt32 >>> ((2 : Int32) &&& 31).toUInt32).toInt32) &&& (15 : Int32))), .val (.int bb0), .val (.int bb1), .val (.int bb2), .val (.int bb3), .val (.int (1 : Int32)), .val (.ref b1_80), .val (.ref b2_5_81), .val (.int (1 : Int32))]) rfl ?_
                  refine XS.iload X81.here hx rfl (hb hby at_169) rfl ?_
                  show Steps p.tables e below (T81.setTop (mkF m 171 #[.val (.int p1), .val (.int p2), .val (.int (4 : Int32)), .val (.int (((p2.toUInt32 >>> ((2 : Int32) &&& 31).toUInt32).toInt32) &&& (15 : Int32))), .val (.int bb0), .val (.int bb1), .val (.int bb2), .val (.int bb3), .val (.int (1 : Int32)), .val (.ref b1_80), .val (.ref b2_5_81), .val (.int (1 : Int32))] [(.int (1 : Int32))])) _
                  refine XS.iconst X81.here hx rfl (hb hby at_171) ?_
                  refine XS.icmpYes X81.here hx rfl (pc0 := 172) (pc' := 210) rfl (hb hby at_172) rfl (tlt (by decide : (1 : Int32) < (2 : Int32))).1 (by decide) (by decide) ?_
                  refine XS.iload X81.here hx rfl (hb hby at_210) rfl ?_
                  show Steps p.tables e below (T81.setTop (mkF m 212 #[.val (.int p1), .val (.int p2), .val (.int (4 : Int32)), .val (.int (((p2.toUInt32 >>> ((2 : Int32) &&& 31).toUInt32).toInt32) &&& (15 : Int32))), .val (.int bb0), .val (.int bb1), .val (.int bb2), .val (.int bb3), .val (.int (1 : Int32)), .val (.ref b1_80), .val (.ref b2_5_81), .val (.int (1 : Int32))] [(.int (1 : Int32))])) _
                  refine XS.iconst X81.here hx rfl (hb hby at_212) ?_
                  refine XS.icmpYes X81.here hx rfl (pc0 := 213) (pc' := 240) rfl (hb hby at_213) rfl (tlt (by decide : (1 : Int32) < (3 : Int32))).1 (by decide) (by decide) ?_
                  refine XS.iload X81.here hx rfl (hb hby at_240) rfl ?_
                  show Steps p.tables e below (T81.setTop (mkF m 242 #[.val (.int p1), .val (.int p2), .val (.int (4 : Int32)), .val (.int (((p2.toUInt32 >>> ((2 : Int32) &&& 31).toUInt32).toInt32) &&& (15 : Int32))), .val (.int bb0), .val (.int bb1), .val (.int bb2), .val (.int bb3), .val (.int (1 : Int32)), .val (.ref b1_80), .val (.ref b2_5_81), .val (.int (1 : Int32))] [(.int (1 : Int32))])) _
                  refine XS.ifNo X81.here hx rfl (hb hby at_242) rfl ((if0 _ _).trans (feq (by decide : ¬ ((1 : Int32) = (0 : Int32)))).1) ?_
                  refine XS.aload X81.here hx rfl (hb hby at_245) rfl rfl ?_
                  refine XS.iconst X81.here hx rfl (hb hby at_247) ?_
                  show Steps p.tables e below (T81.setTop (mkF m 248 #[.val (.int p1), .val (.int p2), .val (.int (4 : Int32)), .val (.int (((p2.toUInt32 >>> ((2 : Int32) &&& 31).toUInt32).toInt32) &&& (15 : Int32))), .val (.int bb0), .val (.int bb1), .val (.int bb2), .val (.int bb3), .val (.int (1 : Int32)), .val (.ref b1_80), .val (.ref b2_5_81), .val (.int (1 : Int32))] [(.int (0 : Int32)), (.ref b1_80)])) _
                  refine X81.baloadBytes hx (j := (0 : Int32)) (v := (.int (nar .byte bb0))) (by exact Ar_b1_80_248_85.1) (State.isArrayOf_alike hZ.alike Ar_b1_80_248_85.2.1) Ar_b1_80_248_85.2.2 hin_b1_80_248_85 (H_b1_80_248_85.at hin_b1_80_248_85 rfl) (g := (mkF m 248 #[.val (.int p1), .val (.int p2), .val (.int (4 : Int32)), .val (.int (((p2.toUInt32 >>> ((2 : Int32) &&& 31).toUInt32).toInt32) &&& (15 : Int32))), .val (.int bb0), .val (.int bb1), .val (.int bb2), .val (.int bb3), .val (.int (1 : Int32)), .val (.ref b1_80), .val (.ref b2_5_81), .val (.int (1 : Int32))] [(.int (0 : Int32)), (.ref b1_80)])) rfl rfl (hb hby at_248) _ ?_
                  show Steps p.tables e below (T81.setTop (mkF m 249 #[.val (.int p1), .val (.int p2), .val (.int (4 : Int32)), .val (.int (((p2.toUInt32 >>> ((2 : Int32) &&& 31).toUInt32).toInt32) &&& (15 : Int32))), .val (.int bb0), .val (.int bb1), .val (.int bb2), .val (.int bb3), .val (.int (1 : Int32)), .val (.ref b1_80), .val (.ref b2_5_81), .val (.int (1 : Int32))] [(.int (nar .byte bb0))])) _
                  refine XS.iload X81.here hx rfl (hb hby at_249) rfl ?_
                  refine XS.icmpNo X81.here hx rfl (hb hby at_251) rfl (teq (by simp only [e_bb0, e_bb1, e_bb2, e_bb3, own_narb] : (nar .byte bb0) = bb0)).2 ?_
                  show Steps p.tables e below (T81.setTop (mkF m 254 #[.val (.int p1), .val (.int p2), .val (.int (4 : Int32)), .val (.int (((p2.toUInt32 >>> ((2 : Int32) &&& 31).toUInt32).toInt32) &&& (15 : Int32))), .val (.int bb0), .val (.int bb1), .val (.int bb2), .val (.int bb3), .val (.int (1 : Int32)), .val (.ref b1_80), .val (.ref b2_5_81), .val (.int (1 : Int32))] [])) _
                  refine XS.iconst X81.here hx rfl (hb hby at_254) ?_
                  refine XS.goto X81.here hx rfl (pc0 := 255) (pc' := 259) rfl (hb hby at_255) (by decide) (by decide) ?_
                  refine XS.istore X81.here hx rfl (hb hby at_259) rfl (l' := #[.val (.int p1), .val (.int p2), .val (.int (4 : Int32)), .val (.int (((p2.toUInt32 >>> ((2 : Int32) &&& 31).toUInt32).toInt32) &&& (15 : Int32))), .val (.int bb0), .val (.int bb1), .val (.int bb2), .val (.int bb3), .val (.int (1 : Int32)), .val (.ref b1_80), .val (.ref b2_5_81), .val (.int (1 : Int32))]) rfl ?_
                  show Steps p.tables e below (T81.setTop (mkF m 261 #[.val (.int p1), .val (.int p2), .val (.int (4 : Int32)), .val (.int (((p2.toUInt32 >>> ((2 : Int32) &&& 31).toUInt32).toInt32) &&& (15 : Int32))), .val (.int bb0), .val (.int bb1), .val (.int bb2), .val (.int bb3), .val (.int (1 : Int32)), .val (.ref b1_80), .val (.ref b2_5_81), .val (.int (1 : Int32))] [])) _
                  refine XS.iloadN X81.here hx rfl (hb hby at_261) rfl ?_
                  refine XS.iconst X81.here hx rfl (hb hby at_262) ?_
                  refine XS.icmpNo X81.here hx rfl (hb hby at_263) rfl (flt (by decide : ¬ ((4 : Int32) < (2 : Int32)))).1 ?_
                  show Steps p.tables e below (T81.setTop (mkF m 266 #[.val (.int p1), .val (.int p2), .val (.int (4 : Int32)), .val (.int (((p2.toUInt32 >>> ((2 : Int32) &&& 31).toUInt32).toInt32) &&& (15 : Int32))), .val (.int bb0), .val (.int bb1), .val (.int bb2), .val (.int bb3), .val (.int (1 : Int32)), .val (.ref b1_80), .val (.ref b2_5_81), .val (.int (1 : Int32))] [])) _
                  refine XS.iload X81.here hx rfl (hb hby at_266) rfl ?_
                  refine XS.ifNo X81.here hx rfl (hb hby at_268) rfl ((if0 _ _).trans (feq (by decide : ¬ ((1 : Int32) = (0 : Int32)))).1) ?_
                  refine XS.aload X81.here hx rfl (hb hby at_271) rfl rfl ?_
                  show Steps p.tables e below (T81.setTop (mkF m 273 #[.val (.int p1), .val (.int p2), .val (.int (4 : Int32)), .val (.int (((p2.toUInt32 >>> ((2 : Int32) &&& 31).toUInt32).toInt32) &&& (15 : Int32))), .val (.int bb0), .val (.int bb1), .val (.int bb2), .val (.int bb3), .val (.int (1 : Int32)), .val (.ref b1_80), .val (.ref b2_5_81), .val (.int (1 : Int32))] [(.ref b1_80)])) _
                  refine XS.iconst X81.here hx rfl (hb hby at_273) ?_
                  refine X81.baloadBytes hx (j := (1 : Int32)) (v := (.int (nar .byte bb1))) (by exact Ar_b1_80_274_86.1) (State.isArrayOf_alike hZ.alike Ar_b1_80_274_86.2.1) Ar_b1_80_274_86.2.2 hin_b1_80_274_86 (H_b1_80_274_86.at hin_b1_80_274_86 rfl) (g := (mkF m 274 #[.val (.int p1), .val (.int p2), .val (.int (4 : Int32)), .val (.int (((p2.toUInt32 >>> ((2 : Int32) &&& 31).toUInt32).toInt32) &&& (15 : Int32))), .val (.int bb0), .val (.int bb1), .val (.int bb2), .val (.int bb3), .val (.int (1 : Int32)), .val (.ref b1_80), .val (.ref b2_5_81), .val (.int (1 : Int32))] [(.int (1 : Int32)), (.ref b1_80)])) rfl rfl (hb hby at_274) _ ?_
                  show Steps p.tables e below (T81.setTop (mkF m 275 #[.val (.int p1), .val (.int p2), .val (.int (4 : Int32)), .val (.int (((p2.toUInt32 >>> ((2 : Int32) &&& 31).toUInt32).toInt32) &&& (15 : Int32))), .val (.int bb0), .val (.int bb1), .val (.int bb2), .val (.int bb3), .val (.int (1 : Int32)), .val (.ref b1_80), .val (.ref b2_5_81), .val (.int (1 : Int32))] [(.int (nar .byte bb1))])) _
                  refine XS.iload X81.here hx rfl (hb hby at_275) rfl ?_
                  show Steps p.tables e below (T81.setTop (mkF m 277 #[.val (.int p1), .val (.int p2), .val (.int (4 : Int32)), .val (.int (((p2.toUInt32 >>> ((2 : Int32) &&& 31).toUInt32).toInt32) &&& (15 : Int32))), .val (.int bb0), .val (.int bb1), .val (.int bb2), .val (.int bb3), .val (.int (1 : Int32)), .val (.ref b1_80), .val (.ref b2_5_81), .val (.int (1 : Int32))] [(.int bb1), (.int (nar .byte bb1))])) _
                  refine XS.icmpNo X81.here hx rfl (hb hby at_277) rfl (teq (by simp only [e_bb0, e_bb1, e_bb2, e_bb3, own_narb] : (nar .byte bb1) = bb1)).2 ?_
                  refine XS.iconst X81.here hx rfl (hb hby at_280) ?_
                  refine XS.goto X81.here hx rfl (pc0 := 281) (pc' := 285) rfl (hb hby at_281) (by decide) (by decide) ?_
                  show Steps p.tables e below (T81.setTop (mkF m 285 #[.val (.int p1), .val (.int p2), .val (.int (4 : Int32)), .val (.int (((p2.toUInt32 >>> ((2 : Int32) &&& 31).toUInt32).toInt32) &&& (15 : Int32))), .val (.int bb0), .val (.int bb1), .val (.int bb2), .val (.int bb3), .val (.int (1 : Int32)), .val (.ref b1_80), .val (.ref b2_5_81), .val (.int (1 : Int32))] [(.int (1 : Int32))])) _
                  refine XS.istore X81.here hx rfl (hb hby at_285) rfl (l' := #[.val (.int p1), .val (.int p2), .val (.int (4 : Int32)), .val (.int (((p2.toUInt32 >>> ((2 : Int32) &&& 31).toUInt32).toInt32) &&& (15 : Int32))), .val (.int bb0), .val (.int bb1), .val (.int bb2), .val (.int bb3), .val (.int (1 : Int32)), .val (.ref b1_80), .val (.ref b2_5_81), .val (.int (1 : Int32))]) rfl ?_
                  refine XS.iloadN X81.here hx rfl (hb hby at_287) rfl ?_
                  refine XS.iconst X81.here hx rfl (hb hby at_288) ?_
                  show Steps p.tables e below (T81.setTop (mkF m 289 #[.val (.int p1), .val (.int p2), .val (.int (4 : Int32)), .val (.int (((p2.toUInt32 >>> ((2 : Int32) &&& 31).toUInt32).toInt32) &&& (15 : Int32))), .val (.int bb0), .val (.int bb1), .val (.int bb2), .val (.int bb3), .val (.int (1 : Int32)), .val (.ref b1_80), .val (.ref b2_5_81), .val (.int (1 : Int32))] [(.int (3 : Int32)), (.int (4 : Int32))])) _
                  refine XS.icmpNo X81.here hx rfl (hb hby at_289) rfl (flt (by decide : ¬ ((4 : Int32) < (3 : Int32)))).1 ?_
                  refine XS.iload X81.here hx rfl (hb hby at_292) rfl ?_
                  refine XS.ifNo X81.here hx rfl (hb hby at_294) rfl ((if0 _ _).trans (feq (by decide : ¬ ((1 : Int32) = (0 : Int32)))).1) ?_
                  show Steps p.tables e below (T81.setTop (mkF m 297 #[.val (.int p1), .val (.int p2), .val (.int (4 : Int32)), .val (.int (((p2.toUInt32 >>> ((2 : Int32) &&& 31).toUInt32).toInt32) &&& (15 : Int32))), .val (.int bb0), .val (.int bb1), .val (.int bb2), .val (.int bb3), .val (.int (1 : Int32)), .val (.ref b1_80), .val (.ref b2_5_81), .val (.int (1 : Int32))] [])) _
                  refine XS.aload X81.here hx rfl (hb hby at_297) rfl rfl ?_
                  refine XS.iconst X81.here hx rfl (hb hby at_299) ?_
                  refine X81.baloadBytes hx (j := (2 : Int32)) (v := (.int (nar .byte bb2))) (by exact Ar_b1_80_300_87.1) (State.isArrayOf_alike hZ.alike Ar_b1_80_300_87.2.1) Ar_b1_80_300_87.2.2 hin_b1_80_300_87 (H_b1_80_300_87.at hin_b1_80_300_87 rfl) (g := (mkF m 300 #[.val (.int p1), .val (.int p2), .val (.int (4 : Int32)), .val (.int (((p2.toUInt32 >>> ((2 : Int32) &&& 31).toUInt32).toInt32) &&& (15 : Int32))), .val (.int bb0), .val (.int bb1), .val (.int bb2), .val (.int bb3), .val (.int (1 : Int32)), .val (.ref b1_80), .val (.ref b2_5_81), .val (.int (1 : Int32))] [(.int (2 : Int32)), (.ref b1_80)])) rfl rfl (hb hby at_300) _ ?_
                  show Steps p.tables e below (T81.setTop (mkF m 301 #[.val (.int p1), .val (.int p2), .val (.int (4 : Int32)), .val (.int (((p2.toUInt32 >>> ((2 : Int32) &&& 31).toUInt32).toInt32) &&& (15 : Int32))), .val (.int bb0), .val (.int bb1), .val (.int bb2), .val (.int bb3), .val (.int (1 : Int32)), .val (.ref b1_80), .val (.ref b2_5_81), .val (.int (1 : Int32))] [(.int (nar .byte bb2))])) _
                  refine XS.iload X81.here hx rfl (hb hby at_301) rfl ?_
                  refine XS.icmpNo X81.here hx rfl (hb hby at_303) rfl (teq (by simp only [e_bb0, e_bb1, e_bb2, e_bb3, own_narb] : (nar .byte bb2) = bb2)).2 ?_
                  refine XS.iconst X81.here hx rfl (hb hby at_306) ?_
                  show Steps p.tables e below (T81.setTop (mkF m 307 #[.val (.int p1), .val (.int p2), .val (.int (4 : Int32)), .val (.int (((p2.toUInt32 >>> ((2 : Int32) &&& 31).toUInt32).toInt32) &&& (15 : Int32))), .val (.int bb0), .val (.int bb1), .val (.int bb2), .val (.int bb3), .val (.int (1 : Int32)), .val (.ref b1_80), .val (.ref b2_5_81), .val (.int (1 : Int32))] [(.int (1 : Int32))])) _
                  refine XS.goto X81.here hx rfl (pc0 := 307) (pc' := 311) rfl (hb hby at_307) (by decide) (by decide) ?_
                  refine XS.istore X81.here hx rfl (hb hby at_311) rfl (l' := #[.val (.int p1), .val (.int p2), .val (.int (4 : Int32)), .val (.int (((p2.toUInt32 >>> ((2 : Int32) &&& 31).toUInt32).toInt32) &&& (15 : Int32))), .val (.int bb0), .val (.int bb1), .val (.int bb2), .val (.int bb3), .val (.int (1 : Int32)), .val (.ref b1_80), .val (.ref b2_5_81), .val (.int (1 : Int32))]) rfl ?_
                  refine XS.iloadN X81.here hx rfl (hb hby at_313) rfl ?_
                  show Steps p.tables e below (T81.setTop (mkF m 314 #[.val (.int p1), .val (.int p2), .val (.int (4 : Int32)), .val (.int (((p2.toUInt32 >>> ((2 : Int32) &&& 31).toUInt32).toInt32) &&& (15 : Int32))), .val (.int bb0), .val (.int bb1), .val (.int bb2), .val (.int bb3), .val (.int (1 : Int32)), .val (.ref b1_80), .val (.ref b2_5_81), .val (.int (1 : Int32))] [(.int (4 : Int32))])) _
                  refine XS.iconst X81.here hx rfl (hb hby at_314) ?_
                  refine XS.icmpNo X81.here hx rfl (hb hby at_315) rfl (flt (by decide : ¬ ((4 : Int32) < (4 : Int32)))).1 ?_
                  refine XS.iload X81.here hx rfl (hb hby at_318) rfl ?_
                  show Steps p.tables e below (T81.setTop (mkF m 320 #[.val (.int p1), .val (.int p2), .val (.int (4 : Int32)), .val (.int (((p2.toUInt32 >>> ((2 : Int32) &&& 31).toUInt32).toInt32) &&& (15 : Int32))), .val (.int bb0), .val (.int bb1), .val (.int bb2), .val (.int bb3), .val (.int (1 : Int32)), .val (.ref b1_80), .val (.ref b2_5_81), .val (.int (1 : Int32))] [(.int (1 : Int32))])) _
                  refine XS.ifNo X81.here hx rfl (hb hby at_320) rfl ((if0 _ _).trans (feq (by decide : ¬ ((1 : Int32) = (0 : Int32)))).1) ?_
                  refine XS.aload X81.here hx rfl (hb hby at_323) rfl rfl ?_
                  refine XS.iconst X81.here hx rfl (hb hby at_325) ?_
                  show Steps p.tables e below (T81.setTop (mkF m 326 #[.val (.int p1), .val (.int p2), .val (.int (4 : Int32)), .val (.int (((p2.toUInt32 >>> ((2 : Int32) &&& 31).toUInt32).toInt32) &&& (15 : Int32))), .val (.int bb0), .val (.int bb1), .val (.int bb2), .val (.int bb3), .val (.int (1 : Int32)), .val (.ref b1_80), .val (.ref b2_5_81), .val (.int (1 : Int32))] [(.int (3 : Int32)), (.ref b1_80)])) _
                  refine X81.baloadBytes hx (j := (3 : Int32)) (v := (.int (nar .byte bb3))) (by exact Ar_b1_80_326_88.1) (State.isArrayOf_alike hZ.alike Ar_b1_80_326_88.2.1) Ar_b1_80_326_88.2.2 hin_b1_80_326_88 (H_b1_80_326_88.at hin_b1_80_326_88 rfl) (g := (mkF m 326 #[.val (.int p1), .val (.int p2), .val (.int (4 : Int32)), .val (.int (((p2.toUInt32 >>> ((2 : Int32) &&& 31).toUInt32).toInt32) &&& (15 : Int32))), .val (.int bb0), .val (.int bb1), .val (.int bb2), .val (.int bb3), .val (.int (1 : Int32)), .val (.ref b1_80), .val (.ref b2_5_81), .val (.int (1 : Int32))] [(.int (3 : Int32)), (.ref b1_80)])) rfl rfl (hb hby at_326) _ ?_
                  show Steps p.tables e below (T81.setTop (mkF m 327 #[.val (.int p1), .val (.int p2), .val (.int (4 : Int32)), .val (.int (((p2.toUInt32 >>> ((2 : Int32) &&& 31).toUInt32).toInt32) &&& (15 : Int32))), .val (.int bb0), .val (.int bb1), .val (.int bb2), .val (.int bb3), .val (.int (1 : Int32)), .val (.ref b1_80), .val (.ref b2_5_81), .val (.int (1 : Int32))] [(.int (nar .byte bb3))])) _
                  refine XS.iload X81.here hx rfl (hb hby at_327) rfl ?_
                  refine XS.icmpNo X81.here hx rfl (hb hby at_329) rfl (teq (by simp only [e_bb0, e_bb1, e_bb2, e_bb3, own_narb] : (nar .byte bb3) = bb3)).2 ?_
                  show Steps p.tables e below (T81.setTop (mkF m 332 #[.val (.int p1), .val (.int p2), .val (.int (4 : Int32)), .val (.int (((p2.toUInt32 >>> ((2 : Int32) &&& 31).toUInt32).toInt32) &&& (15 : Int32))), .val (.int bb0), .val (.int bb1), .val (.int bb2), .val (.int bb3), .val (.int (1 : Int32)), .val (.ref b1_80), .val (.ref b2_5_81), .val (.int (1 : Int32))] [])) _
                  refine XS.iconst X81.here hx rfl (hb hby at_332) ?_
                  refine XS.goto X81.here hx rfl (pc0 := 333) (pc' := 337) rfl (hb hby at_333) (by decide) (by decide) ?_
                  refine XS.istore X81.here hx rfl (hb hby at_337) rfl (l' := #[.val (.int p1), .val (.int p2), .val (.int (4 : Int32)), .val (.int (((p2.toUInt32 >>> ((2 : Int32) &&& 31).toUInt32).toInt32) &&& (15 : Int32))), .val (.int bb0), .val (.int bb1), .val (.int bb2), .val (.int bb3), .val (.int (1 : Int32)), .val (.ref b1_80), .val (.ref b2_5_81), .val (.int (1 : Int32))]) rfl ?_
                  show Steps p.tables e below (T81.setTop (mkF m 339 #[.val (.int p1), .val (.int p2), .val (.int (4 : Int32)), .val (.int (((p2.toUInt32 >>> ((2 : Int32) &&& 31).toUInt32).toInt32) &&& (15 : Int32))), .val (.int bb0), .val (.int bb1), .val (.int bb2), .val (.int bb3), .val (.int (1 : Int32)), .val (.ref b1_80), .val (.ref b2_5_81), .val (.int (1 : Int32))] [])) _
                  refine XS.iload X81.here hx rfl (hb hby at_339) rfl ?_
                  show Steps p.tables e below (T81.setTop (mkF m 341 #[.val (.int p1), .val (.int p2), .val (.int (4 : Int32)), .val (.int (((p2.toUInt32 >>> ((2 : Int32) &&& 31).toUInt32).toInt32) &&& (15 : Int32))), .val (.int bb0), .val (.int bb1), .val (.int bb2), .val (.int bb3), .val (.int (1 : Int32)), .val (.ref b1_80), .val (.ref b2_5_81), .val (.int (1 : Int32))] [(.int (1 : Int32))])) _
                  exact retN X81 hx (t := .boolean) Bd.returns (by simp) (hb hby at_341) hr
                · show Q0 Z p1 p2 h0 n0 _ T81.heap _
                  exact ⟨rfl, N81⟩
              · by_cases hv89 : (res2 (4 : Int32) bb0 bb1 bb2 bb3) = (2 : Int32)
                · rw [hv89] at pre68
                  obtain ⟨_, _, ⟨T90, L90, k90, n90⟩, -, X90, ⟨Lc90, hQ90, l90, y90, z90⟩, st90⟩ := Jvm.LawKit.callS X67 hx (y := (⟨"com/example/elliott_bay/elliottbay/store/KeysEndPinLaw", "make", "(IBBBB)[B"⟩ : MethodName)) hown (mvT hZ (hw _ (List.mem_of_getElem? (i := 7) rfl))) (mvT hZ (hw _ (List.mem_of_getElem? (i := 8) rfl))) (mvT hZ (hw _ (List.mem_of_getElem? (i := 2) rfl))) (mvT hZ (hw _ (List.mem_of_getElem? (i := 9) rfl))) (by decide) (backOf (W := 0) (rm_make_4 l Z a0 hw [] bb0 bb1 bb2 bb3  h0 n0 (Nat.le_trans Z0 (Keep.refl h0 []).1)  ) hZ (hw _ (List.mem_of_getElem? (i := 9) rfl)) (hw _ (List.mem_of_getElem? (i := 2) rfl)) (by decide) (by decide)) (g := (mkF m 75 #[.val (.int p1), .val (.int p2), .val (.int (4 : Int32)), .val (.int (((p2.toUInt32 >>> ((2 : Int32) &&& 31).toUInt32).toInt32) &&& (15 : Int32))), .val (.int bb0), .val (.int bb1), .val (.int bb2), .val (.int bb3), .val (.int (2 : Int32)), .unset, .unset, .unset] [(.int bb3), (.int bb2), (.int bb1), (.int bb0), (.int (4 : Int32))])) rfl (by rw [hml]; rfl) (argsL := [(.int (4 : Int32)), (.int bb0), (.int bb1), (.int bb2), (.int bb3)]) (rest := []) (lenOf pd4 rfl) rfl (by show 2 * 0 + _ ≤ _; exact Nat.le_of_eq rfl) (hb hby at_75) (fun _ _ => ⟨rfl, e67, (by decide : 0 + 1 ≤ _), (by decide : 0 + 4 ≤ _)⟩)
                  dsimp only [Pt.U, Pt.locs, Pt.cells, Pt.slots] at X90 l90 y90 z90 st90 hQ90
                  subst l90 y90 z90
                  obtain ⟨b1_90, k1_90, rfl, N90q, K90, s90_b1, f90_0, f90_1⟩ := hQ90
                  have N90 := Fr.app N67 N90q
                  have sz_b1_90 : h0.size ≤ b1_90 := Nat.le_trans (Keep.refl h0 []).1 s90_b1
                  have g_b1_90 : n0 ≤ b1_90 := Nat.le_trans Z0 sz_b1_90
                  have KK90 : Keep h0 T90.heap [] := (Keep.refl h0 []).trans K90 all0
                  obtain ⟨_, _, ⟨T91, L91, k91, n91⟩, -, X91, ⟨Lc91, hQ91, l91, y91, z91⟩, st91⟩ := Jvm.LawKit.callS X90 hx (y := (⟨"com/example/elliott_bay/elliottbay/store/Keys", "end", "([B)[B"⟩ : MethodName)) hown (mvT hZ (hw _ (List.mem_of_getElem? (i := 11) rfl))) (mvT hZ (hw _ (List.mem_of_getElem? (i := 12) rfl))) (mvT hZ (hw _ (List.mem_of_getElem? (i := 13) rfl))) (mvT hZ (hw _ (List.mem_of_getElem? (i := 14) rfl))) (by decide) (backOf (W := 0) (rm_end_4_2 l Z a0 hw [] b1_90 k1_90 (nar .byte bb0) (nar .byte bb1) (nar .byte bb2) (nar .byte bb3) T90.heap n0 (Nat.le_trans Z0 KK90.1) f90_0 f90_1 ((own_l_4_2 e_bb0 e_bb1 e_bb2 e_bb3 hv89).2 : (nar .byte bb3) = (-1 : Int32)) ((own_l_4_2 e_bb0 e_bb1 e_bb2 e_bb3 hv89).1 : ¬ ((nar .byte bb2) = (-1 : Int32)))) hZ (hw _ (List.mem_of_getElem? (i := 14) rfl)) (hw _ (List.mem_of_getElem? (i := 13) rfl)) (by decide) (by decide)) (g := (mkF m 82 #[.val (.int p1), .val (.int p2), .val (.int (4 : Int32)), .val (.int (((p2.toUInt32 >>> ((2 : Int32) &&& 31).toUInt32).toInt32) &&& (15 : Int32))), .val (.int bb0), .val (.int bb1), .val (.int bb2), .val (.int bb3), .val (.int (2 : Int32)), .val (.ref b1_90), .unset, .unset] [(.ref b1_90)])) rfl (by rw [hml]; rfl) (argsL := [(.ref b1_90)]) (rest := []) (lenOf pd5 rfl) rfl (by show 2 * 0 + _ ≤ _; exact Nat.le_of_eq rfl) (hb hby at_82) (fun _ _ => ⟨rfl, rfl, (by decide : 1 + 1 ≤ _), (by decide : 4 + 3 ≤ _)⟩)
                  dsimp only [Pt.U, Pt.locs, Pt.cells, Pt.slots] at X91 l91 y91 z91 st91 hQ91
                  subst l91 y91 z91
                  obtain ⟨b2_4_91, k2_4_91, rfl, N91q, K91, s91_b2_4, f91_0⟩ := hQ91
                  have N91 := Fr.app N90 N91q
                  have sz_b2_4_91 : h0.size ≤ b2_4_91 := Nat.le_trans KK90.1 s91_b2_4
                  have g_b2_4_91 : n0 ≤ b2_4_91 := Nat.le_trans Z0 sz_b2_4_91
                  have KK91 : Keep h0 T91.heap [] := KK90.trans K91 all0
                  obtain ⟨cl_b2_4_91_89_92, Ar_b2_4_91_89_92, -, S_b2_4_91_89_92, N_b2_4_91_89_92, -, -⟩ := id f91_0
                  obtain ⟨cl_b2_4_91_102_93, Ar_b2_4_91_102_93, q_b2_4_91_102_93, S_b2_4_91_102_93, N_b2_4_91_102_93, H_b2_4_91_102_93, G_b2_4_91_102_93⟩ := id f91_0
                  have hin_b2_4_91_102_93 : ¬ ((0 : Int32) < 0 ∨ cl_b2_4_91_102_93.slots.size ≤ ((0 : Int32) : Int32).toNatClampNeg) := inb_of S_b2_4_91_102_93 ⟨by decide, by decide⟩
                  obtain ⟨cl_b2_4_91_142_94, Ar_b2_4_91_142_94, q_b2_4_91_142_94, S_b2_4_91_142_94, N_b2_4_91_142_94, H_b2_4_91_142_94, G_b2_4_91_142_94⟩ := id f91_0
                  have hin_b2_4_91_142_94 : ¬ ((1 : Int32) < 0 ∨ cl_b2_4_91_142_94.slots.size ≤ ((1 : Int32) : Int32).toNatClampNeg) := inb_of S_b2_4_91_142_94 ⟨by decide, by decide⟩
                  obtain ⟨cl_b2_4_91_183_95, Ar_b2_4_91_183_95, q_b2_4_91_183_95, S_b2_4_91_183_95, N_b2_4_91_183_95, H_b2_4_91_183_95, G_b2_4_91_183_95⟩ := id f91_0
                  have hin_b2_4_91_183_95 : ¬ ((2 : Int32) < 0 ∨ cl_b2_4_91_183_95.slots.size ≤ ((2 : Int32) : Int32).toNatClampNeg) := inb_of S_b2_4_91_183_95 ⟨by decide, by decide⟩
                  obtain ⟨cl_b1_90_248_96, Ar_b1_90_248_96, q_b1_90_248_96, S_b1_90_248_96, N_b1_90_248_96, H_b1_90_248_96, G_b1_90_248_96⟩ := id (f90_0.keep K91 nin0)
                  have hin_b1_90_248_96 : ¬ ((0 : Int32) < 0 ∨ cl_b1_90_248_96.slots.size ≤ ((0 : Int32) : Int32).toNatClampNeg) := inb_of S_b1_90_248_96 ⟨by decide, by decide⟩
                  obtain ⟨cl_b1_90_274_97, Ar_b1_90_274_97, q_b1_90_274_97, S_b1_90_274_97, N_b1_90_274_97, H_b1_90_274_97, G_b1_90_274_97⟩ := id (f90_0.keep K91 nin0)
                  have hin_b1_90_274_97 : ¬ ((1 : Int32) < 0 ∨ cl_b1_90_274_97.slots.size ≤ ((1 : Int32) : Int32).toNatClampNeg) := inb_of S_b1_90_274_97 ⟨by decide, by decide⟩
                  obtain ⟨cl_b1_90_300_98, Ar_b1_90_300_98, q_b1_90_300_98, S_b1_90_300_98, N_b1_90_300_98, H_b1_90_300_98, G_b1_90_300_98⟩ := id (f90_0.keep K91 nin0)
                  have hin_b1_90_300_98 : ¬ ((2 : Int32) < 0 ∨ cl_b1_90_300_98.slots.size ≤ ((2 : Int32) : Int32).toNatClampNeg) := inb_of S_b1_90_300_98 ⟨by decide, by decide⟩
                  obtain ⟨cl_b1_90_326_99, Ar_b1_90_326_99, q_b1_90_326_99, S_b1_90_326_99, N_b1_90_326_99, H_b1_90_326_99, G_b1_90_326_99⟩ := id (f90_0.keep K91 nin0)
                  have hin_b1_90_326_99 : ¬ ((3 : Int32) < 0 ∨ cl_b1_90_326_99.slots.size ≤ ((3 : Int32) : Int32).toNatClampNeg) := inb_of S_b1_90_326_99 ⟨by decide, by decide⟩
                  obtain ⟨fs, hr, hrun, hended, hW, hsame⟩ := X91.leave (v := some (.int (1 : Int32))) (fun h => by rw [Bd.returns] at h; cases h)
                  refine ⟨_, _, pre68 _ ?_, hrun, hended, _, _, rfl, ?_, ⟨_, rfl⟩, hW, hsame.mono (by decide) (by decide)⟩
                  · show Steps p.tables e below (T67.setTop (mkF m 57 #[.val (.int p1), .val (.int p2), .val (.int (4 : Int32)), .val (.int (((p2.toUInt32 >>> ((2 : Int32) &&& 31).toUInt32).toInt32) &&& (15 : Int32))), .val (.int bb0), .val (.int bb1), .val (.int bb2), .val (.int bb3), .unset, .unset, .unset, .unset] [(.int (2 : Int32))])) _
                    refine XS.istore X67.here hx rfl (hb hby at_57) rfl (l' := #[.val (.int p1), .val (.int p2), .val (.int (4 : Int32)), .val (.int (((p2.toUInt32 >>> ((2 : Int32) &&& 31).toUInt32).toInt32) &&& (15 : Int32))), .val (.int bb0), .val (.int bb1), .val (.int bb2), .val (.int bb3), .val (.int (2 : Int32)), .unset, .unset, .unset]) rfl ?_
                    refine XS.iload X67.here hx rfl (hb hby at_59) rfl ?_
                    refine XS.ifYes X67.here hx rfl (pc0 := 61) (pc' := 66) rfl (hb hby at_61) rfl ((if0 _ _).trans (flt (by decide : ¬ ((2 : Int32) < (0 : Int32)))).2.1) (by decide) (by decide) ?_
                    show Steps p.tables e below (T67.setTop (mkF m 66 #[.val (.int p1), .val (.int p2), .val (.int (4 : Int32)), .val (.int (((p2.toUInt32 >>> ((2 : Int32) &&& 31).toUInt32).toInt32) &&& (15 : Int32))), .val (.int bb0), .val (.int bb1), .val (.int bb2), .val (.int bb3), .val (.int (2 : Int32)), .unset, .unset, .unset] [])) _
                    refine XS.iloadN X67.here hx rfl (hb hby at_66) rfl ?_
                    refine XS.iload X67.here hx rfl (hb hby at_67) rfl ?_
                    refine XS.iload X67.here hx rfl (hb hby at_69) rfl ?_
                    show Steps p.tables e below (T67.setTop (mkF m 71 #[.val (.int p1), .val (.int p2), .val (.int (4 : Int32)), .val (.int (((p2.toUInt32 >>> ((2 : Int32) &&& 31).toUInt32).toInt32) &&& (15 : Int32))), .val (.int bb0), .val (.int bb1), .val (.int bb2), .val (.int bb3), .val (.int (2 : Int32)), .unset, .unset, .unset] [(.int bb1), (.int bb0), (.int (4 : Int32))])) _
                    refine XS.iload X67.here hx rfl (hb hby at_71) rfl ?_
                    refine XS.iload X67.here hx rfl (hb hby at_73) rfl ?_
                    show Steps p.tables e below (T67.setTop (mkF m 75 #[.val (.int p1), .val (.int p2), .val (.int (4 : Int32)), .val (.int (((p2.toUInt32 >>> ((2 : Int32) &&& 31).toUInt32).toInt32) &&& (15 : Int32))), .val (.int bb0), .val (.int bb1), .val (.int bb2), .val (.int bb3), .val (.int (2 : Int32)), .unset, .unset, .unset] [(.int bb3), (.int bb2), (.int bb1), (.int bb0), (.int (4 : Int32))])) _
                    refine st90 _ ?_
                    show Steps p.tables e below (T90.setTop (mkF m 78 #[.val (.int p1), .val (.int p2), .val (.int (4 : Int32)), .val (.int (((p2.toUInt32 >>> ((2 : Int32) &&& 31).toUInt32).toInt32) &&& (15 : Int32))), .val (.int bb0), .val (.int bb1), .val (.int bb2), .val (.int bb3), .val (.int (2 : Int32)), .unset, .unset, .unset] [(.ref b1_90)])) _
                    refine XS.astore X90.here hx rfl (hb hby at_78) rfl rfl (l' := #[.val (.int p1), .val (.int p2), .val (.int (4 : Int32)), .val (.int (((p2.toUInt32 >>> ((2 : Int32) &&& 31).toUInt32).toInt32) &&& (15 : Int32))), .val (.int bb0), .val (.int bb1), .val (.int bb2), .val (.int bb3), .val (.int (2 : Int32)), .val (.ref b1_90), .unset, .unset]) rfl ?_
                    show Steps p.tables e below (T90.setTop (mkF m 80 #[.val (.int p1), .val (.int p2), .val (.int (4 : Int32)), .val (.int (((p2.toUInt32 >>> ((2 : Int32) &&& 31).toUInt32).toInt32) &&& (15 : Int32))), .val (.int bb0), .val (.int bb1), .val (.int bb2), .val (.int bb3), .val (.int (2 : Int32)), .val (.ref b1_90), .unset, .unset] [])) _
                    refine XS.aload X90.here hx rfl (hb hby at_80) rfl rfl ?_
                    show Steps p.tables e below (T90.setTop (mkF m 82 #[.val (.int p1), .val (.int p2), .val (.int (4 : Int32)), .val (.int (((p2.toUInt32 >>> ((2 : Int32) &&& 31).toUInt32).toInt32) &&& (15 : Int32))), .val (.int bb0), .val (.int bb1), .val (.int bb2), .val (.int bb3), .val (.int (2 : Int32)), .val (.ref b1_90), .unset, .unset] [(.ref b1_90)])) _
                    refine st91 _ ?_
                    show Steps p.tables e below (T91.setTop (mkF m 85 #[.val (.int p1), .val (.int p2), .val (.int (4 : Int32)), .val (.int (((p2.toUInt32 >>> ((2 : Int32) &&& 31).toUInt32).toInt32) &&& (15 : Int32))), .val (.int bb0), .val (.int bb1), .val (.int bb2), .val (.int bb3), .val (.int (2 : Int32)), .val (.ref b1_90), .unset, .unset] [(.ref b2_4_91)])) _
                    refine XS.astore X91.here hx rfl (hb hby at_85) rfl rfl (l' := #[.val (.int p1), .val (.int p2), .val (.int (4 : Int32)), .val (.int (((p2.toUInt32 >>> ((2 : Int32) &&& 31).toUInt32).toInt32) &&& (15 : Int32))), .val (.int bb0), .val (.int bb1), .val (.int bb2), .val (.int bb3), .val (.int (2 : Int32)), .val (.ref b1_90), .val (.ref b2_4_91), .unset]) rfl ?_
                    refine XS.aload X91.here hx rfl (hb hby at_87) rfl rfl ?_
                    show Steps p.tables e below (T91.setTop (mkF m 89 #[.val (.int p1), .val (.int p2), .val (.int (4 : Int32)), .val (.int (((p2.toUInt32 >>> ((2 : Int32) &&& 31).toUInt32).toInt32) &&& (15 : Int32))), .val (.int bb0), .val (.int bb1), .val (.int bb2), .val (.int bb3), .val (.int (2 : Int32)), .val (.ref b1_90), .val (.ref b2_4_91), .unset] [(.ref b2_4_91)])) _
                    refine X91.arraylength hx (by exact Ar_b2_4_91_89_92.1) (State.isArrayOf_alike hZ.alike Ar_b2_4_91_89_92.2.1) (g := (mkF m 89 #[.val (.int p1), .val (.int p2), .val (.int (4 : Int32)), .val (.int (((p2.toUInt32 >>> ((2 : Int32) &&& 31).toUInt32).toInt32) &&& (15 : Int32))), .val (.int bb0), .val (.int bb1), .val (.int bb2), .val (.int bb3), .val (.int (2 : Int32)), .val (.ref b1_90), .val (.ref b2_4_91), .unset] [(.ref b2_4_91)])) rfl rfl (hb hby at_89) _ ?_
                    rw [len_of S_b2_4_91_89_92 N_b2_4_91_89_92]
                    show Steps p.tables e below (T91.setTop (mkF m 90 #[.val (.int p1), .val (.int p2), .val (.int (4 : Int32)), .val (.int (((p2.toUInt32 >>> ((2 : Int32) &&& 31).toUInt32).toInt32) &&& (15 : Int32))), .val (.int bb0), .val (.int bb1), .val (.int bb2), .val (.int bb3), .val (.int (2 : Int32)), .val (.ref b1_90), .val (.ref b2_4_91), .unset] [(.int (3 : Int32))])) _
                    refine XS.iload X91.here hx rfl (hb hby at_90) rfl ?_
                    refine XS.iconst X91.here hx rfl (hb hby at_92) ?_
                    show Steps p.tables e below (T91.setTop (mkF m 93 #[.val (.int p1), .val (.int p2), .val (.int (4 : Int32)), .val (.int (((p2.toUInt32 >>> ((2 : Int32) &&& 31).toUInt32).toInt32) &&& (15 : Int32))), .val (.int bb0), .val (.int bb1), .val (.int bb2), .val (.int bb3), .val (.int (2 : Int32)), .val (.ref b1_90), .val (.ref b2_4_91), .unset] [(.int (1 : Int32)), (.int (2 : Int32)), (.int (3 : Int32))])) _
                    refine XS.iadd X91.here hx rfl (hb hby at_93) rfl ?_
                    refine XS.icmpYes X91.here hx rfl (pc0 := 94) (pc' := 99) rfl (hb hby at_94) rfl (teq (by decide : (3 : Int32) = (3 : Int32))).1 (by decide) (by decide) ?_
                    refine XS.aload X91.here hx rfl (hb hby at_99) rfl rfl ?_
                    show Steps p.tables e below (T91.setTop (mkF m 101 #[.val (.int p1), .val (.int p2), .val (.int (4 : Int32)), .val (.int (((p2.toUInt32 >>> ((2 : Int32) &&& 31).toUInt32).toInt32) &&& (15 : Int32))), .val (.int bb0), .val (.int bb1), .val (.int bb2), .val (.int bb3), .val (.int (2 : Int32)), .val (.ref b1_90), .val (.ref b2_4_91), .unset] [(.ref b2_4_91)])) _
                    refine XS.iconst X91.here hx rfl (hb hby at_101) ?_
                    refine X91.baloadBytes hx (j := (0 : Int32)) (v := (.int (nar .byte bb0))) (by exact Ar_b2_4_91_102_93.1) (State.isArrayOf_alike hZ.alike Ar_b2_4_91_102_93.2.1) Ar_b2_4_91_102_93.2.2 hin_b2_4_91_102_93 (H_b2_4_91_102_93.at hin_b2_4_91_102_93 rfl) (g := (mkF m 102 #[.val (.int p1), .val (.int p2), .val (.int (4 : Int32)), .val (.int (((p2.toUInt32 >>> ((2 : Int32) &&& 31).toUInt32).toInt32) &&& (15 : Int32))), .val (.int bb0), .val (.int bb1), .val (.int bb2), .val (.int bb3), .val (.int (2 : Int32)), .val (.ref b1_90), .val (.ref b2_4_91), .unset] [(.int (0 : Int32)), (.ref b2_4_91)])) rfl rfl (hb hby at_102) _ ?_
                    show Steps p.tables e below (T91.setTop (mkF m 103 #[.val (.int p1), .val (.int p2), .val (.int (4 : Int32)), .val (.int (((p2.toUInt32 >>> ((2 : Int32) &&& 31).toUInt32).toInt32) &&& (15 : Int32))), .val (.int bb0), .val (.int bb1), .val (.int bb2), .val (.int bb3), .val (.int (2 : Int32)), .val (.ref b1_90), .val (.ref b2_4_91), .unset] [(.int (nar .byte bb0))])) _
                    refine XS.iload X91.here hx rfl (hb hby at_103) rfl ?_
                    show Steps p.tables e below (T91.setTop (mkF m 105 #[.val (.int p1), .val (.int p2), .val (.int (4 : Int32)), .val (.int (((p2.toUInt32 >>> ((2 : Int32) &&& 31).toUInt32).toInt32) &&& (15 : Int32))), .val (.int bb0), .val (.int bb1), .val (.int bb2), .val (.int bb3), .val (.int (2 : Int32)), .val (.ref b1_90), .val (.ref b2_4_91), .unset] [(.int (2 : Int32)), (.int (nar .byte bb0))])) _
                    refine XS.ifYes X91.here hx rfl (pc0 := 105) (pc' := 116) rfl (hb hby at_105) rfl ((if0 _ _).trans (feq (by decide : ¬ ((2 : Int32) = (0 : Int32)))).2) (by decide) (by decide) ?_
                    refine XS.iload X91.here hx rfl (hb hby at_116) rfl ?_
                    refine XS.icmpNo X91.here hx rfl (hb hby at_118) rfl (teq (by simp only [e_bb0, e_bb1, e_bb2, e_bb3, own_narb] : (nar .byte bb0) = bb0)).2 ?_
                    show Steps p.tables e below (T91.setTop (mkF m 121 #[.val (.int p1), .val (.int p2), .val (.int (4 : Int32)), .val (.int (((p2.toUInt32 >>> ((2 : Int32) &&& 31).toUInt32).toInt32) &&& (15 : Int32))), .val (.int bb0), .val (.int bb1), .val (.int bb2), .val (.int bb3), .val (.int (2 : Int32)), .val (.ref b1_90), .val (.ref b2_4_91), .unset] [])) _
                    refine XS.iconst X91.here hx rfl (hb hby at_121) ?_
                    refine XS.goto X91.here hx rfl (pc0 := 122) (pc' := 126) rfl (hb hby at_122) (by decide) (by decide) ?_
                    refine XS.istore X91.here hx rfl (hb hby at_126) rfl (l' := #[.val (.int p1), .val (.int p2), .val (.int (4 : Int32)), .val (.int (((p2.toUInt32 >>> ((2 : Int32) &&& 31).toUInt32).toInt32) &&& (15 : Int32))), .val (.int bb0), .val (.int bb1), .val (.int bb2), .val (.int bb3), .val (.int (2 : Int32)), .val (.ref b1_90), .val (.ref b2_4_91), .val (.int (1 : Int32))]) rfl ?_
                    show Steps p.tables e below (T91.setTop (mkF m 128 #[.val (.int p1), .val (.int p2), .val (.int (4 : Int32)), .val (.int (((p2.toUInt32 >>> ((2 : Int32) &&& 31).toUInt32).toInt32) &&& (15 : Int32))), .val (.int bb0), .val (.int bb1), .val (.int bb2), .val (.int bb3), .val (.int (2 : Int32)), .val (.ref b1_90), .val (.ref b2_4_91), .val (.int (1 : Int32))] [])) _
                    refine XS.iload X91.here hx rfl (hb hby at_128) rfl ?_
                    refine XS.iconst X91.here hx rfl (hb hby at_130) ?_
                    refine XS.icmpNo X91.here hx rfl (hb hby at_131) rfl (flt (by decide : ¬ ((2 : Int32) < (1 : Int32)))).1 ?_
                    show Steps p.tables e below (T91.setTop (mkF m 134 #[.val (.int p1), .val (.int p2), .val (.int (4 : Int32)), .val (.int (((p2.toUInt32 >>> ((2 : Int32) &&& 31).toUInt32).toInt32) &&& (15 : Int32))), .val (.int bb0), .val (.int bb1), .val (.int bb2), .val (.int bb3), .val (.int (2 : Int32)), .val (.ref b1_90), .val (.ref b2_4_91), .val (.int (1 : Int32))] [])) _
                    refine XS.iload X91.here hx rfl (hb hby at_134) rfl ?_
                    refine XS.ifNo X91.here hx rfl (hb hby at_136) rfl ((if0 _ _).trans (feq (by decide : ¬ ((1 : Int32) = (0 : Int32)))).1) ?_
                    refine XS.aload X91.here hx rfl (hb hby at_139) rfl rfl ?_
                    show Steps p.tables e below (T91.setTop (mkF m 141 #[.val (.int p1), .val (.int p2), .val (.int (4 : Int32)), .val (.int (((p2.toUInt32 >>> ((2 : Int32) &&& 31).toUInt32).toInt32) &&& (15 : Int32))), .val (.int bb0), .val (.int bb1), .val (.int bb2), .val (.int bb3), .val (.int (2 : Int32)), .val (.ref b1_90), .val (.ref b2_4_91), .val (.int (1 : Int32))] [(.ref b2_4_91)])) _
                    refine XS.iconst X91.here hx rfl (hb hby at_141) ?_
                    refine X91.baloadBytes hx (j := (1 : Int32)) (v := (.int (nar .byte bb1))) (by exact Ar_b2_4_91_142_94.1) (State.isArrayOf_alike hZ.alike Ar_b2_4_91_142_94.2.1) Ar_b2_4_91_142_94.2.2 hin_b2_4_91_142_94 (H_b2_4_91_142_94.at hin_b2_4_91_142_94 rfl) (g := (mkF m 142 #[.val (.int p1), .val (.int p2), .val (.int (4 : Int32)), .val (.int (((p2.toUInt32 >>> ((2 : Int32) &&& 31).toUInt32).toInt32) &&& (15 : Int32))), .val (.int bb0), .val (.int bb1), .val (.int bb2), .val (.int bb3), .val (.int (2 : Int32)), .val (.ref b1_90), .val (.ref b2_4_91), .val (.int (1 : Int32))] [(.int (1 : Int32)), (.ref b2_4_91)])) rfl rfl (hb hby at_142) _ ?_
                    show Steps p.tables e below (T91.setTop (mkF m 143 #[.val (.int p1), .val (.int p2), .val (.int (4 : Int32)), .val (.int (((p2.toUInt32 >>> ((2 : Int32) &&& 31).toUInt32).toInt32) &&& (15 : Int32))), .val (.int bb0), .val (.int bb1), .val (.int bb2), .val (.int bb3), .val (.int (2 : Int32)), .val (.ref b1_90), .val (.ref b2_4_91), .val (.int (1 : Int32))] [(.int (nar .byte bb1))])) _
                    refine XS.iload X91.here hx rfl (hb hby at_143) rfl ?_
                    show Steps p.tables e below (T91.setTop (mkF m 145 #[.val (.int p1), .val (.int p2), .val (.int (4 : Int32)), .val (.int (((p2.toUInt32 >>> ((2 : Int32) &&& 31).toUInt32).toInt32) &&& (15 : Int32))), .val (.int bb0), .val (.int bb1), .val (.int bb2), .val (.int bb3), .val (.int (2 : Int32)), .val (.ref b1_90), .val (.ref b2_4_91), .val (.int (1 : Int32))] [(.int (2 : Int32)), (.int (nar .byte bb1))])) _
                    refine XS.iconst X91.here hx rfl (hb hby at_145) ?_
                    refine XS.icmpYes X91.here hx rfl (pc0 := 146) (pc' := 157) rfl (hb hby at_146) rfl (feq (by decide : ¬ ((2 : Int32) = (1 : Int32)))).2 (by decide) (by decide) ?_
                    refine XS.iload X91.here hx rfl (hb hby at_157) rfl ?_
                    show Steps p.tables e below (T91.setTop (mkF m 159 #[.val (.int p1), .val (.int p2), .val (.int (4 : Int32)), .val (.int (((p2.toUInt32 >>> ((2 : Int32) &&& 31).toUInt32).toInt32) &&& (15 : Int32))), .val (.int bb0), .val (.int bb1), .val (.int bb2), .val (.int bb3), .val (.int (2 : Int32)), .val (.ref b1_90), .val (.ref b2_4_91), .val (.int (1 : Int32))] [(.int bb1), (.int (nar .byte bb1))])) _
                    refine XS.icmpNo X91.here hx rfl (hb hby at_159) rfl (teq (by simp only [e_bb0, e_bb1, e_bb2, e_bb3, own_narb] : (nar .byte bb1) = bb1)).2 ?_
                    refine XS.iconst X91.here hx rfl (hb hby at_162) ?_
                    refine XS.goto X91.here hx rfl (pc0 := 163) (pc' := 167) rfl (hb hby at_163) (by decide) (by decide) ?_
                    show Steps p.tables e below (T91.setTop (mkF m 167 #[.val (.int p1), .val (.int p2), .val (.int (4 : Int32)), .val (.int (((p2.toUInt32 >>> ((2 : Int32) &&& 31).toUInt32).toInt32) &&& (15 : Int32))), .val (.int bb0), .val (.int bb1), .val (.int bb2), .val (.int bb3), .val (.int (2 : Int32)), .val (.ref b1_90), .val (.ref b2_4_91), .val (.int (1 : Int32))] [(.int (1 : Int32))])) _
                    refine XS.istore X91.here hx rfl (hb hby at_167) rfl (l' := #[.val (.int p1), .val (.int p2), .val (.int (4 : Int32)), .val (.int (((p2.toUInt32 >>> ((2 : Int32) &&& 31).toUInt32).toInt32) &&& (15 : Int32))), .val (.int bb0), .val (.int bb1), .val (.int bb2), .val (.int bb3), .val (.int (2 : Int32)), .val (.ref b1_90), .val (.ref b2_4_91), .val (.int (1 : Int32))]) rfl ?_
                    refine XS.iload X91.here hx rfl (hb hby at_169) rfl ?_
                    refine XS.iconst X91.here hx rfl (hb hby at_171) ?_
                    show Steps p.tables e below (T91.setTop (mkF m 172 #[.val (.int p1), .val (.int p2), .val (.int (4 : Int32)), .val (.int (((p2.toUInt32 >>> ((2 : Int32) &&& 31).toUInt32).toInt32) &&& (15 : Int32))), .val (.int bb0), .val (.int bb1), .val (.int bb2), .val (.int bb3), .val (.int (2 : Int32)), .val (.ref b1_90), .val (.ref b2_4_91), .val (.int (1 : Int32))] [(.int (2 : Int32)), (.int (2 : Int32))])) _
                    refine XS.icmpNo X91.here hx rfl (hb hby at_172) rfl (flt (by decide : ¬ ((2 : Int32) < (2 : Int32)))).1 ?_
                    refine XS.iload X91.here hx rfl (hb hby at_175) rfl ?_
                    refine XS.ifNo X91.here hx rfl (hb hby at_177) rfl ((if0 _ _).trans (feq (by decide : ¬ ((1 : Int32) = (0 : Int32)))).1) ?_
                    show Steps p.tables e below (T91.setTop (mkF m 180 #[.val (.int p1), .val (.int p2), .val (.int (4 : Int32)), .val (.int (((p2.toUInt32 >>> ((2 : Int32) &&& 31).toUInt32).toInt32) &&& (15 : Int32))), .val (.int bb0), .val (.int bb1), .val (.int bb2), .val (.int bb3), .val (.int (2 : Int32)), .val (.ref b1_90), .val (.ref b2_4_91), .val (.int (1 : Int32))] [])) _
                    refine XS.aload X91.here hx rfl (hb hby at_180) rfl rfl ?_
                    refine XS.iconst X91.here hx rfl (hb hby at_182) ?_
                    refine X91.baloadBytes hx (j := (2 : Int32)) (v := (.int (nar .byte (((nar .byte bb2) + (1 : Int32)).toInt8.toInt32)))) (by exact Ar_b2_4_91_183_95.1) (State.isArrayOf_alike hZ.alike Ar_b2_4_91_183_95.2.1) Ar_b2_4_91_183_95.2.2 hin_b2_4_91_183_95 (H_b2_4_91_183_95.at hin_b2_4_91_183_95 rfl) (g := (mkF m 183 #[.val (.int p1), .val (.int p2), .val (.int (4 : Int32)), .val (.int (((p2.toUInt32 >>> ((2 : Int32) &&& 31).toUInt32).toInt32) &&& (15 : Int32))), .val (.int bb0), .val (.int bb1), .val (.int bb2), .val (.int bb3), .val (.int (2 : Int32)), .val (.ref b1_90), .val (.ref b2_4_91), .val (.int (1 : Int32))] [(.int (2 : Int32)), (.ref b2_4_91)])) rfl rfl (hb hby at_183) _ ?_
                    show Steps p.tables e below (T91.setTop (mkF m 184 #[.val (.int p1), .val (.int p2), .val (.int (4 : Int32)), .val (.int (((p2.toUInt32 >>> ((2 : Int32) &&& 31).toUInt32).toInt32) &&& (15 : Int32))), .val (.int bb0), .val (.int bb1), .val (.int bb2), .val (.int bb3), .val (.int (2 : Int32)), .val (.ref b1_90), .val (.ref b2_4_91), .val (.int (1 : Int32))] [(.int (nar .byte (((nar .byte bb2) + (1 : Int32)).toInt8.toInt32)))])) _
                    refine XS.iload X91.here hx rfl (hb hby at_184) rfl ?_
                    refine XS.iconst X91.here hx rfl (hb hby at_186) ?_
                    refine XS.icmpNo X91.here hx rfl (hb hby at_187) rfl (teq (by decide : (2 : Int32) = (2 : Int32))).2 ?_
                    show Steps p.tables e below (T91.setTop (mkF m 190 #[.val (.int p1), .val (.int p2), .val (.int (4 : Int32)), .val (.int (((p2.toUInt32 >>> ((2 : Int32) &&& 31).toUInt32).toInt32) &&& (15 : Int32))), .val (.int bb0), .val (.int bb1), .val (.int bb2), .val (.int bb3), .val (.int (2 : Int32)), .val (.ref b1_90), .val (.ref b2_4_91), .val (.int (1 : Int32))] [(.int (nar .byte (((nar .byte bb2) + (1 : Int32)).toInt8.toInt32)))])) _
                    refine XS.iload X91.here hx rfl (hb hby at_190) rfl ?_
                    refine XS.iconst X91.here hx rfl (hb hby at_192) ?_
                    refine XS.iadd X91.here hx rfl (hb hby at_193) rfl ?_
                    show Steps p.tables e below (T91.setTop (mkF m 194 #[.val (.int p1), .val (.int p2), .val (.int (4 : Int32)), .val (.int (((p2.toUInt32 >>> ((2 : Int32) &&& 31).toUInt32).toInt32) &&& (15 : Int32))), .val (.int bb0), .val (.int bb1), .val (.int bb2), .val (.int bb3), .val (.int (2 : Int32)), .val (.ref b1_90), .val (.ref b2_4_91), .val (.int (1 : Int32))] [(.int (bb2 + (1 : Int32))), (.int (nar .byte (((nar .byte bb2) + (1 : Int32)).toInt8.toInt32)))])) _
                    refine XS.i2b X91.here hx rfl (hb hby at_194) rfl ?_
                    refine XS.goto X91.here hx rfl (pc0 := 195) (pc' := 200) rfl (hb hby at_195) (by decide) (by decide) ?_
                    refine XS.icmpNo X91.here hx rfl (hb hby at_200) rfl (teq (by simp only [e_bb0, e_bb1, e_bb2, e_bb3, own_narb] : (nar .byte (((nar .byte bb2) + (1 : Int32)).toInt8.toInt32)) = ((bb2 + (1 : Int32)).toInt8.toInt32))).2 ?_
                    show Steps p.tables e below (T91.setTop (mkF m 203 #[.val (.int p1), .val (.int p2), .val (.int (4 : Int32)), .val (.int (((p2.toUInt32 >>> ((2 : Int32) &&& 31).toUInt32).toInt32) &&& (15 : Int32))), .val (.int bb0), .val (.int bb1), .val (.int bb2), .val (.int bb3), .val (.int (2 : Int32)), .val (.ref b1_90), .val (.ref b2_4_91), .val (.int (1 : Int32))] [])) _
                    refine XS.iconst X91.here hx rfl (hb hby at_203) ?_
                    refine XS.goto X91.here hx rfl (pc0 := 204) (pc' := 208) rfl (hb hby at_204) (by decide) (by decide) ?_
                    refine XS.istore X91.here hx rfl (hb hby at_208) rfl (l' := #[.val (.int p1), .val (.int p2), .val (.int (4 : Int32)), .val (.int (((p2.toUInt32 >>> ((2 : Int32) &&& 31).toUInt32).toInt32) &&& (15 : Int32))), .val (.int bb0), .val (.int bb1), .val (.int bb2), .val (.int bb3), .val (.int (2 : Int32)), .val (.ref b1_90), .val (.ref b2_4_91), .val (.int (1 : Int32))]) rfl ?_
                    show Steps p.tables e below (T91.setTop (mkF m 210 #[.val (.int p1), .val (.int p2), .val (.int (4 : Int32)), .val (.int (((p2.toUInt32 >>> ((2 : Int32) &&& 31).toUInt32).toInt32) &&& (15 : Int32))), .val (.int bb0), .val (.int bb1), .val (.int bb2), .val (.int bb3), .val (.int (2 : Int32)), .val (.ref b1_90), .val (.ref b2_4_91), .val (.int (1 : Int32))] [])) _
                    refine XS.iload X91.here hx rfl (hb hby at_210) rfl ?_
                    refine XS.iconst X91.here hx rfl (hb hby at_212) ?_
                    refine XS.icmpYes X91.here hx rfl (pc0 := 213) (pc' := 240) rfl (hb hby at_213) rfl (tlt (by decide : (2 : Int32) < (3 : Int32))).1 (by decide) (by decide) ?_
                    show Steps p.tables e below (T91.setTop (mkF m 240 #[.val (.int p1), .val (.int p2), .val (.int (4 : Int32)), .val (.int (((p2.toUInt32 >>> ((2 : Int32) &&& 31).toUInt32).toInt32) &&& (15 : Int32))), .val (.int bb0), .val (.int bb1), .val (.int bb2), .val (.int bb3), .val (.int (2 : Int32)), .val (.ref b1_90), .val (.ref b2_4_91), .val (.int (1 : Int32))] [])) _
                    refine XS.iload X91.here hx rfl (hb hby at_240) rfl ?_
                    refine XS.ifNo X91.here hx rfl (hb hby at_242) rfl ((if0 _ _).trans (feq (by decide : ¬ ((1 : Int32) = (0 : Int32)))).1) ?_
                    refine XS.aload X91.here hx rfl (hb hby at_245) rfl rfl ?_
                    show Steps p.tables e below (T91.setTop (mkF m 247 #[.val (.int p1), .val (.int p2), .val (.int (4 : Int32)), .val (.int (((p2.toUInt32 >>> ((2 : Int32) &&& 31).toUInt32).toInt32) &&& (15 : Int32))), .val (.int bb0), .val (.int bb1), .val (.int bb2), .val (.int bb3), .val (.int (2 : Int32)), .val (.ref b1_90), .val (.ref b2_4_91), .val (.int (1 : Int32))] [(.ref b1_90)])) _
                    refine XS.iconst X91.here hx rfl (hb hby at_247) ?_
                    refine X91.baloadBytes hx (j := (0 : Int32)) (v := (.int (nar .byte bb0))) (by exact Ar_b1_90_248_96.1) (State.isArrayOf_alike hZ.alike Ar_b1_90_248_96.2.1) Ar_b1_90_248_96.2.2 hin_b1_90_248_96 (H_b1_90_248_96.at hin_b1_90_248_96 rfl) (g := (mkF m 248 #[.val (.int p1), .val (.int p2), .val (.int (4 : Int32)), .val (.int (((p2.toUInt32 >>> ((2 : Int32) &&& 31).toUInt32).toInt32) &&& (15 : Int32))), .val (.int bb0), .val (.int bb1), .val (.int bb2), .val (.int bb3), .val (.int (2 : Int32)), .val (.ref b1_90), .val (.ref b2_4_91), .val (.int (1 : Int32))] [(.int (0 : Int32)), (.ref b1_90)])) rfl rfl (hb hby at_248) _ ?_
                    show Steps p.tables e below (T91.setTop (mkF m 249 #[.val (.int p1), .val (.int p2), .val (.int (4 : Int32)), .val (.int (((p2.toUInt32 >>> ((2 : Int32) &&& 31).toUInt32).toInt32) &&& (15 : Int32))), .val (.int bb0), .val (.int bb1), .val (.int bb2), .val (.int bb3), .val (.int (2 : Int32)), .val (.ref b1_90), .val (.ref b2_4_91), .val (.int (1 : Int32))] [(.int (nar .byte bb0))])) _
                    refine XS.iload X91.here hx rfl (hb hby at_249) rfl ?_
                    show Steps p.tables e below (T91.setTop (mkF m 251 #[.val (.int p1), .val (.int p2), .val (.int (4 : Int32)), .val (.int (((p2.toUInt32 >>> ((2 : Int32) &&& 31).toUInt32).toInt32) &&& (15 : Int32))), .val (.int bb0), .val (.int bb1), .val (.int bb2), .val (.int bb3), .val (.int (2 : Int32)), .val (.ref b1_90), .val (.ref b2_4_91), .val (.int (1 : Int32))] [(.int bb0), (.int (nar .byte bb0))])) _
                    refine XS.icmpNo X91.here hx rfl (hb hby at_251) rfl (teq (by simp only [e_bb0, e_bb1, e_bb2, e_bb3, own_narb] : (nar .byte bb0) = bb0)).2 ?_
                    refine XS.iconst X91.here hx rfl (hb hby at_254) ?_
                    refine XS.goto X91.here hx rfl (pc0 := 255) (pc' := 259) rfl (hb hby at_255) (by decide) (by decide) ?_
                    show Steps p.tables e below (T91.setTop (mkF m 259 #[.val (.int p1), .val (.int p2), .val (.int (4 : Int32)), .val (.int (((p2.toUInt32 >>> ((2 : Int32) &&& 31).toUInt32).toInt32) &&& (15 : Int32))), .val (.int bb0), .val (.int bb1), .val (.int bb2), .val (.int bb3), .val (.int (2 : Int32)), .val (.ref b1_90), .val (.ref b2_4_91), .val (.int (1 : Int32))] [(.int (1 : Int32))])) _
                    refine XS.istore X91.here hx rfl (hb hby at_259) rfl (l' := #[.val (.int p1), .val (.int p2), .val (.int (4 : Int32)), .val (.int (((p2.toUInt32 >>> ((2 : Int32) &&& 31).toUInt32).toInt32) &&& (15 : Int32))), .val (.int bb0), .val (.int bb1), .val (.int bb2), .val (.int bb3), .val (.int (2 : Int32)), .val (.ref b1_90), .val (.ref b2_4_91), .val (.int (1 : Int32))]) rfl ?_
                    refine XS.iloadN X91.here hx rfl (hb hby at_261) rfl ?_
                    refine XS.iconst X91.here hx rfl (hb hby at_262) ?_
                    show Steps p.tables e below (T91.setTop (mkF m 263 #[.val (.int p1), .val (.int p2), .val (.int (4 : Int32)), .val (.int (((p2.toUInt32 >>> ((2 : Int32) &&& 31).toUInt32).toInt32) &&& (15 : Int32))), .val (.int bb0), .val (.int bb1), .val (.int bb2), .val (.int bb3), .val (.int (2 : Int32)), .val (.ref b1_90), .val (.ref b2_4_91), .val (.int (1 : Int32))] [(.int (2 : Int32)), (.int (4 : Int32))])) _
                    refine XS.icmpNo X91.here hx rfl (hb hby at_263) rfl (flt (by decide : ¬ ((4 : Int32) < (2 : Int32)))).1 ?_
                    refine XS.iload X91.here hx rfl (hb hby at_266) rfl ?_
                    refine XS.ifNo X91.here hx rfl (hb hby at_268) rfl ((if0 _ _).trans (feq (by decide : ¬ ((1 : Int32) = (0 : Int32)))).1) ?_
                    show Steps p.tables e below (T91.setTop (mkF m 271 #[.val (.int p1), .val (.int p2), .val (.int (4 : Int32)), .val (.int (((p2.toUInt32 >>> ((2 : Int32) &&& 31).toUInt32).toInt32) &&& (15 : Int32))), .val (.int bb0), .val (.int bb1), .val (.int bb2), .val (.int bb3), .val (.int (2 : Int32)), .val (.ref b1_90), .val (.ref b2_4_91), .val (.int (1 : Int32))] [])) _
                    refine XS.aload X91.here hx rfl (hb hby at_271) rfl rfl ?_
                    refine XS.iconst X91.here hx rfl (hb hby at_273) ?_
                    refine X91.baloadBytes hx (j := (1 : Int32)) (v := (.int (nar .byte bb1))) (by exact Ar_b1_90_274_97.1) (State.isArrayOf_alike hZ.alike Ar_b1_90_274_97.2.1) Ar_b1_90_274_97.2.2 hin_b1_90_274_97 (H_b1_90_274_97.at hin_b1_90_274_97 rfl) (g := (mkF m 274 #[.val (.int p1), .val (.int p2), .val (.int (4 : Int32)), .val (.int (((p2.toUInt32 >>> ((2 : Int32) &&& 31).toUInt32).toInt32) &&& (15 : Int32))), .val (.int bb0), .val (.int bb1), .val (.int bb2), .val (.int bb3), .val (.int (2 : Int32)), .val (.ref b1_90), .val (.ref b2_4_91), .val (.int (1 : Int32))] [(.int (1 : Int32)), (.ref b1_90)])) rfl rfl (hb hby at_274) _ ?_
                    show Steps p.tables e below (T91.setTop (mkF m 275 #[.val (.int p1), .val (.int p2), .val (.int (4 : Int32)), .val (.int (((p2.toUInt32 >>> ((2 : Int32) &&& 31).toUInt32).toInt32) &&& (15 : Int32))), .val (.int bb0), .val (.int bb1), .val (.int bb2), .val (.int bb3), .val (.int (2 : Int32)), .val (.ref b1_90), .val (.ref b2_4_91), .val (.int (1 : Int32))] [(.int (nar .byte bb1))])) _
                    refine XS.iload X91.here hx rfl (hb hby at_275) rfl ?_
                    refine XS.icmpNo X91.here hx rfl (hb hby at_277) rfl (teq (by simp only [e_bb0, e_bb1, e_bb2, e_bb3, own_narb] : (nar .byte bb1) = bb1)).2 ?_
                    refine XS.iconst X91.here hx rfl (hb hby at_280) ?_
                    show Steps p.tables e below (T91.setTop (mkF m 281 #[.val (.int p1), .val (.int p2), .val (.int (4 : Int32)), .val (.int (((p2.toUInt32 >>> ((2 : Int32) &&& 31).toUInt32).toInt32) &&& (15 : Int32))), .val (.int bb0), .val (.int bb1), .val (.int bb2), .val (.int bb3), .val (.int (2 : Int32)), .val (.ref b1_90), .val (.ref b2_4_91), .val (.int (1 : Int32))] [(.int (1 : Int32))])) _
                    refine XS.goto X91.here hx rfl (pc0 := 281) (pc' := 285) rfl (hb hby at_281) (by decide) (by decide) ?_
                    refine XS.istore X91.here hx rfl (hb hby at_285) rfl (l' := #[.val (.int p1), .val (.int p2), .val (.int (4 : Int32)), .val (.int (((p2.toUInt32 >>> ((2 : Int32) &&& 31).toUInt32).toInt32) &&& (15 : Int32))), .val (.int bb0), .val (.int bb1), .val (.int bb2), .val (.int bb3), .val (.int (2 : Int32)), .val (.ref b1_90), .val (.ref b2_4_91), .val (.int (1 : Int32))]) rfl ?_
                    refine XS.iloadN X91.here hx rfl (hb hby at_287) rfl ?_
                    show Steps p.tables e below (T91.setTop (mkF m 288 #[.val (.int p1), .val (.int p2), .val (.int (4 : Int32)), .val (.int (((p2.toUInt32 >>> ((2 : Int32) &&& 31).toUInt32).toInt32) &&& (15 : Int32))), .val (.int bb0), .val (.int bb1), .val (.int bb2), .val (.int bb3), .val (.int (2 : Int32)), .val (.ref b1_90), .val (.ref b2_4_91), .val (.int (1 : Int32))] [(.int (4 : Int32))])) _
                    refine XS.iconst X91.here hx rfl (hb hby at_288) ?_
                    refine XS.icmpNo X91.here hx rfl (hb hby at_289) rfl (flt (by decide : ¬ ((4 : Int32) < (3 : Int32)))).1 ?_
                    refine XS.iload X91.here hx rfl (hb hby at_292) rfl ?_
                    show Steps p.tables e below (T91.setTop (mkF m 294 #[.val (.int p1), .val (.int p2), .val (.int (4 : Int32)), .val (.int (((p2.toUInt32 >>> ((2 : Int32) &&& 31).toUInt32).toInt32) &&& (15 : Int32))), .val (.int bb0), .val (.int bb1), .val (.int bb2), .val (.int bb3), .val (.int (2 : Int32)), .val (.ref b1_90), .val (.ref b2_4_91), .val (.int (1 : Int32))] [(.int (1 : Int32))])) _
                    refine XS.ifNo X91.here hx rfl (hb hby at_294) rfl ((if0 _ _).trans (feq (by decide : ¬ ((1 : Int32) = (0 : Int32)))).1) ?_
                    refine XS.aload X91.here hx rfl (hb hby at_297) rfl rfl ?_
                    refine XS.iconst X91.here hx rfl (hb hby at_299) ?_
                    show Steps p.tables e below (T91.setTop (mkF m 300 #[.val (.int p1), .val (.int p2), .val (.int (4 : Int32)), .val (.int (((p2.toUInt32 >>> ((2 : Int32) &&& 31).toUInt32).toInt32) &&& (15 : Int32))), .val (.int bb0), .val (.int bb1), .val (.int bb2), .val (.int bb3), .val (.int (2 : Int32)), .val (.ref b1_90), .val (.ref b2_4_91), .val (.int (1 : Int32))] [(.int (2 : Int32)), (.ref b1_90)])) _
                    refine X91.baloadBytes hx (j := (2 : Int32)) (v := (.int (nar .byte bb2))) (by exact Ar_b1_90_300_98.1) (State.isArrayOf_alike hZ.alike Ar_b1_90_300_98.2.1) Ar_b1_90_300_98.2.2 hin_b1_90_300_98 (H_b1_90_300_98.at hin_b1_90_300_98 rfl) (g := (mkF m 300 #[.val (.int p1), .val (.int p2), .val (.int (4 : Int32)), .val (.int (((p2.toUInt32 >>> ((2 : Int32) &&& 31).toUInt32).toInt32) &&& (15 : Int32))), .val (.int bb0), .val (.int bb1), .val (.int bb2), .val (.int bb3), .val (.int (2 : Int32)), .val (.ref b1_90), .val (.ref b2_4_91), .val (.int (1 : Int32))] [(.int (2 : Int32)), (.ref b1_90)])) rfl rfl (hb hby at_300) _ ?_
                    show Steps p.tables e below (T91.setTop (mkF m 301 #[.val (.int p1), .val (.int p2), .val (.int (4 : Int32)), .val (.int (((p2.toUInt32 >>> ((2 : Int32) &&& 31).toUInt32).toInt32) &&& (15 : Int32))), .val (.int bb0), .val (.int bb1), .val (.int bb2), .val (.int bb3), .val (.int (2 : Int32)), .val (.ref b1_90), .val (.ref b2_4_91), .val (.int (1 : Int32))] [(.int (nar .byte bb2))])) _
                    refine XS.iload X91.here hx rfl (hb hby at_301) rfl ?_
                    refine XS.icmpNo X91.here hx rfl (hb hby at_303) rfl (teq (by simp only [e_bb0, e_bb1, e_bb2, e_bb3, own_narb] : (nar .byte bb2) = bb2)).2 ?_
                    show Steps p.tables e below (T91.setTop (mkF m 306 #[.val (.int p1), .val (.int p2), .val (.int (4 : Int32)), .val (.int (((p2.toUInt32 >>> ((2 : Int32) &&& 31).toUInt32).toInt32) &&& (15 : Int32))), .val (.int bb0), .val (.int bb1), .val (.int bb2), .val (.int bb3), .val (.int (2 : Int32)), .val (.ref b1_90), .val (.ref b2_4_91), .val (.int (1 : Int32))] [])) _
                    refine XS.iconst X91.here hx rfl (hb hby at_306) ?_
                    refine XS.goto X91.here hx rfl (pc0 := 307) (pc' := 311) rfl (hb hby at_307) (by decide) (by decide) ?_
                    refine XS.istore X91.here hx rfl (hb hby at_311) rfl (l' := #[.val (.int p1), .val (.int p2), .val (.int (4 : Int32)), .val (.int (((p2.toUInt32 >>> ((2 : Int32) &&& 31).toUInt32).toInt32) &&& (15 : Int32))), .val (.int bb0), .val (.int bb1), .val (.int bb2), .val (.int bb3), .val (.int (2 : Int32)), .val (.ref b1_90), .val (.ref b2_4_91), .val (.int (1 : Int32))]) rfl ?_
                    show Steps p.tables e below (T91.setTop (mkF m 313 #[.val (.int p1), .val (.int p2), .val (.int (4 : Int32)), .val (.int (((p2.toUInt32 >>> ((2 : Int32) &&& 31).toUInt32).toInt32) &&& (15 : Int32))), .val (.int bb0), .val (.int bb1), .val (.int bb2), .val (.int bb3), .val (.int (2 : Int32)), .val (.ref b1_90), .val (.ref b2_4_91), .val (.int (1 : Int32))] [])) _
                    refine XS.iloadN X91.here hx rfl (hb hby at_313) rfl ?_
                    refine XS.iconst X91.here hx rfl (hb hby at_314) ?_
                    refine XS.icmpNo X91.here hx rfl (hb hby at_315) rfl (flt (by decide : ¬ ((4 : Int32) < (4 : Int32)))).1 ?_
                    show Steps p.tables e below (T91.setTop (mkF m 318 #[.val (.int p1), .val (.int p2), .val (.int (4 : Int32)), .val (.int (((p2.toUInt32 >>> ((2 : Int32) &&& 31).toUInt32).toInt32) &&& (15 : Int32))), .val (.int bb0), .val (.int bb1), .val (.int bb2), .val (.int bb3), .val (.int (2 : Int32)), .val (.ref b1_90), .val (.ref b2_4_91), .val (.int (1 : Int32))] [])) _
                    refine XS.iload X91.here hx rfl (hb hby at_318) rfl ?_
                    refine XS.ifNo X91.here hx rfl (hb hby at_320) rfl ((if0 _ _).trans (feq (by decide : ¬ ((1 : Int32) = (0 : Int32)))).1) ?_
                    refine XS.aload X91.here hx rfl (hb hby at_323) rfl rfl ?_
                    show Steps p.tables e below (T91.setTop (mkF m 325 #[.val (.int p1), .val (.int p2), .val (.int (4 : Int32)), .val (.int (((p2.toUInt32 >>> ((2 : Int32) &&& 31).toUInt32).toInt32) &&& (15 : Int32))), .val (.int bb0), .val (.int bb1), .val (.int bb2), .val (.int bb3), .val (.int (2 : Int32)), .val (.ref b1_90), .val (.ref b2_4_91), .val (.int (1 : Int32))] [(.ref b1_90)])) _
                    refine XS.iconst X91.here hx rfl (hb hby at_325) ?_
                    refine X91.baloadBytes hx (j := (3 : Int32)) (v := (.int (nar .byte bb3))) (by exact Ar_b1_90_326_99.1) (State.isArrayOf_alike hZ.alike Ar_b1_90_326_99.2.1) Ar_b1_90_326_99.2.2 hin_b1_90_326_99 (H_b1_90_326_99.at hin_b1_90_326_99 rfl) (g := (mkF m 326 #[.val (.int p1), .val (.int p2), .val (.int (4 : Int32)), .val (.int (((p2.toUInt32 >>> ((2 : Int32) &&& 31).toUInt32).toInt32) &&& (15 : Int32))), .val (.int bb0), .val (.int bb1), .val (.int bb2), .val (.int bb3), .val (.int (2 : Int32)), .val (.ref b1_90), .val (.ref b2_4_91), .val (.int (1 : Int32))] [(.int (3 : Int32)), (.ref b1_90)])) rfl rfl (hb hby at_326) _ ?_
                    show Steps p.tables e below (T91.setTop (mkF m 327 #[.val (.int p1), .val (.int p2), .val (.int (4 : Int32)), .val (.int (((p2.toUInt32 >>> ((2 : Int32) &&& 31).toUInt32).toInt32) &&& (15 : Int32))), .val (.int bb0), .val (.int bb1), .val (.int bb2), .val (.int bb3), .val (.int (2 : Int32)), .val (.ref b1_90), .val (.ref b2_4_91), .val (.int (1 : Int32))] [(.int (nar .byte bb3))])) _
                    refine XS.iload X91.here hx rfl (hb hby at_327) rfl ?_
                    show Steps p.tables e below (T91.setTop (mkF m 329 #[.val (.int p1), .val (.int p2), .val (.int (4 : Int32)), .val (.int (((p2.toUInt32 >>> ((2 : Int32) &&& 31).toUInt32).toInt32) &&& (15 : Int32))), .val (.int bb0), .val (.int bb1), .val (.int bb2), .val (.int bb3), .val (.int (2 : Int32)), .val (.ref b1_90), .val (.ref b2_4_91), .val (.int (1 : Int32))] [(.int bb3), (.int (nar .byte bb3))])) _
                    refine XS.icmpNo X91.here hx rfl (hb hby at_329) rfl (teq (by simp only [e_bb0, e_bb1, e_bb2, e_bb3, own_narb] : (nar .byte bb3) = bb3)).2 ?_
                    refine XS.iconst X91.here hx rfl (hb hby at_332) ?_
                    refine XS.goto X91.here hx rfl (pc0 := 333) (pc' := 337) rfl (hb hby at_333) (by decide) (by decide) ?_
                    show Steps p.tables e below (T91.setTop (mkF m 337 #[.val (.int p1), .val (.int p2), .val (.int (4 : Int32)), .val (.int (((p2.toUInt32 >>> ((2 : Int32) &&& 31).toUInt32).toInt32) &&& (15 : Int32))), .val (.int bb0), .val (.int bb1), .val (.int bb2), .val (.int bb3), .val (.int (2 : Int32)), .val (.ref b1_90), .val (.ref b2_4_91), .val (.int (1 : Int32))] [(.int (1 : Int32))])) _
                    refine XS.istore X91.here hx rfl (hb hby at_337) rfl (l' := #[.val (.int p1), .val (.int p2), .val (.int (4 : Int32)), .val (.int (((p2.toUInt32 >>> ((2 : Int32) &&& 31).toUInt32).toInt32) &&& (15 : Int32))), .val (.int bb0), .val (.int bb1), .val (.int bb2), .val (.int bb3), .val (.int (2 : Int32)), .val (.ref b1_90), .val (.ref b2_4_91), .val (.int (1 : Int32))]) rfl ?_
                    refine XS.iload X91.here hx rfl (hb hby at_339) rfl ?_
                    show Steps p.tables e below (T91.setTop (mkF m 341 #[.val (.int p1), .val (.int p2), .val (.int (4 : Int32)), .val (.int (((p2.toUInt32 >>> ((2 : Int32) &&& 31).toUInt32).toInt32) &&& (15 : Int32))), .val (.int bb0), .val (.int bb1), .val (.int bb2), .val (.int bb3), .val (.int (2 : Int32)), .val (.ref b1_90), .val (.ref b2_4_91), .val (.int (1 : Int32))] [(.int (1 : Int32))])) _
                    exact retN X91 hx (t := .boolean) Bd.returns (by simp) (hb hby at_341) hr
                  · show Q0 Z p1 p2 h0 n0 _ T91.heap _
                    exact ⟨rfl, N91⟩
                · by_cases hv100 : (res2 (4 : Int32) bb0 bb1 bb2 bb3) = (3 : Int32)
                  · rw [hv100] at pre68
                    obtain ⟨_, _, ⟨T101, L101, k101, n101⟩, -, X101, ⟨Lc101, hQ101, l101, y101, z101⟩, st101⟩ := Jvm.LawKit.callS X67 hx (y := (⟨"com/example/elliott_bay/elliottbay/store/KeysEndPinLaw", "make", "(IBBBB)[B"⟩ : MethodName)) hown (mvT hZ (hw _ (List.mem_of_getElem? (i := 7) rfl))) (mvT hZ (hw _ (List.mem_of_getElem? (i := 8) rfl))) (mvT hZ (hw _ (List.mem_of_getElem? (i := 2) rfl))) (mvT hZ (hw _ (List.mem_of_getElem? (i := 9) rfl))) (by decide) (backOf (W := 0) (rm_make_4 l Z a0 hw [] bb0 bb1 bb2 bb3  h0 n0 (Nat.le_trans Z0 (Keep.refl h0 []).1)  ) hZ (hw _ (List.mem_of_getElem? (i := 9) rfl)) (hw _ (List.mem_of_getElem? (i := 2) rfl)) (by decide) (by decide)) (g := (mkF m 75 #[.val (.int p1), .val (.int p2), .val (.int (4 : Int32)), .val (.int (((p2.toUInt32 >>> ((2 : Int32) &&& 31).toUInt32).toInt32) &&& (15 : Int32))), .val (.int bb0), .val (.int bb1), .val (.int bb2), .val (.int bb3), .val (.int (3 : Int32)), .unset, .unset, .unset] [(.int bb3), (.int bb2), (.int bb1), (.int bb0), (.int (4 : Int32))])) rfl (by rw [hml]; rfl) (argsL := [(.int (4 : Int32)), (.int bb0), (.int bb1), (.int bb2), (.int bb3)]) (rest := []) (lenOf pd4 rfl) rfl (by show 2 * 0 + _ ≤ _; exact Nat.le_of_eq rfl) (hb hby at_75) (fun _ _ => ⟨rfl, e67, (by decide : 0 + 1 ≤ _), (by decide : 0 + 4 ≤ _)⟩)
                    dsimp only [Pt.U, Pt.locs, Pt.cells, Pt.slots] at X101 l101 y101 z101 st101 hQ101
                    subst l101 y101 z101
                    obtain ⟨b1_101, k1_101, rfl, N101q, K101, s101_b1, f101_0, f101_1⟩ := hQ101
                    have N101 := Fr.app N67 N101q
                    have sz_b1_101 : h0.size ≤ b1_101 := Nat.le_trans (Keep.refl h0 []).1 s101_b1
                    have g_b1_101 : n0 ≤ b1_101 := Nat.le_trans Z0 sz_b1_101
                    have KK101 : Keep h0 T101.heap [] := (Keep.refl h0 []).trans K101 all0
                    obtain ⟨_, _, ⟨T102, L102, k102, n102⟩, -, X102, ⟨Lc102, hQ102, l102, y102, z102⟩, st102⟩ := Jvm.LawKit.callS X101 hx (y := (⟨"com/example/elliott_bay/elliottbay/store/Keys", "end", "([B)[B"⟩ : MethodName)) hown (mvT hZ (hw _ (List.mem_of_getElem? (i := 11) rfl))) (mvT hZ (hw _ (List.mem_of_getElem? (i := 12) rfl))) (mvT hZ (hw _ (List.mem_of_getElem? (i := 13) rfl))) (mvT hZ (hw _ (List.mem_of_getElem? (i := 14) rfl))) (by decide) (backOf (W := 0) (rm_end_4_3 l Z a0 hw [] b1_101 k1_101 (nar .byte bb0) (nar .byte bb1) (nar .byte bb2) (nar .byte bb3) T101.heap n0 (Nat.le_trans Z0 KK101.1) f101_0 f101_1 ((own_l_4_3 e_bb0 e_bb1 e_bb2 e_bb3 hv100) : ¬ ((nar .byte bb3) = (-1 : Int32)))) hZ (hw _ (List.mem_of_getElem? (i := 14) rfl)) (hw _ (List.mem_of_getElem? (i := 13) rfl)) (by decide) (by decide)) (g := (mkF m 82 #[.val (.int p1), .val (.int p2), .val (.int (4 : Int32)), .val (.int (((p2.toUInt32 >>> ((2 : Int32) &&& 31).toUInt32).toInt32) &&& (15 : Int32))), .val (.int bb0), .val (.int bb1), .val (.int bb2), .val (.int bb3), .val (.int (3 : Int32)), .val (.ref b1_101), .unset, .unset] [(.ref b1_101)])) rfl (by rw [hml]; rfl) (argsL := [(.ref b1_101)]) (rest := []) (lenOf pd5 rfl) rfl (by show 2 * 0 + _ ≤ _; exact Nat.le_of_eq rfl) (hb hby at_82) (fun _ _ => ⟨rfl, rfl, (by decide : 1 + 1 ≤ _), (by decide : 4 + 4 ≤ _)⟩)
                    dsimp only [Pt.U, Pt.locs, Pt.cells, Pt.slots] at X102 l102 y102 z102 st102 hQ102
                    subst l102 y102 z102
                    obtain ⟨b2_3_102, rfl, N102q, K102, s102_b2_3, f102_0, f102_1⟩ := hQ102
                    have N102 := Fr.app N101 N102q
                    have sz_b2_3_102 : h0.size ≤ b2_3_102 := Nat.le_trans KK101.1 s102_b2_3
                    have g_b2_3_102 : n0 ≤ b2_3_102 := Nat.le_trans Z0 sz_b2_3_102
                    have KK102 : Keep h0 T102.heap [] := KK101.trans K102 all0
                    obtain ⟨cl_b2_3_102_89_103, Ar_b2_3_102_89_103, -, S_b2_3_102_89_103, N_b2_3_102_89_103, -, -⟩ := id f102_0
                    obtain ⟨cl_b2_3_102_102_104, Ar_b2_3_102_102_104, q_b2_3_102_102_104, S_b2_3_102_102_104, N_b2_3_102_102_104, H_b2_3_102_102_104, G_b2_3_102_102_104⟩ := id f102_0
                    have hin_b2_3_102_102_104 : ¬ ((0 : Int32) < 0 ∨ cl_b2_3_102_102_104.slots.size ≤ ((0 : Int32) : Int32).toNatClampNeg) := inb_of S_b2_3_102_102_104 ⟨by decide, by decide⟩
                    obtain ⟨cl_b2_3_102_142_105, Ar_b2_3_102_142_105, q_b2_3_102_142_105, S_b2_3_102_142_105, N_b2_3_102_142_105, H_b2_3_102_142_105, G_b2_3_102_142_105⟩ := id f102_0
                    have hin_b2_3_102_142_105 : ¬ ((1 : Int32) < 0 ∨ cl_b2_3_102_142_105.slots.size ≤ ((1 : Int32) : Int32).toNatClampNeg) := inb_of S_b2_3_102_142_105 ⟨by decide, by decide⟩
                    obtain ⟨cl_b2_3_102_183_106, Ar_b2_3_102_183_106, q_b2_3_102_183_106, S_b2_3_102_183_106, N_b2_3_102_183_106, H_b2_3_102_183_106, G_b2_3_102_183_106⟩ := id f102_0
                    have hin_b2_3_102_183_106 : ¬ ((2 : Int32) < 0 ∨ cl_b2_3_102_183_106.slots.size ≤ ((2 : Int32) : Int32).toNatClampNeg) := inb_of S_b2_3_102_183_106 ⟨by decide, by decide⟩
                    obtain ⟨cl_b2_3_102_224_107, Ar_b2_3_102_224_107, q_b2_3_102_224_107, S_b2_3_102_224_107, N_b2_3_102_224_107, H_b2_3_102_224_107, G_b2_3_102_224_107⟩ := id f102_0
                    have hin_b2_3_102_224_107 : ¬ ((3 : Int32) < 0 ∨ cl_b2_3_102_224_107.slots.size ≤ ((3 : Int32) : Int32).toNatClampNeg) := inb_of S_b2_3_102_224_107 ⟨by decide, by decide⟩
                    obtain ⟨cl_b1_101_248_108, Ar_b1_101_248_108, q_b1_101_248_108, S_b1_101_248_108, N_b1_101_248_108, H_b1_101_248_108, G_b1_101_248_108⟩ := id (f101_0.keep K102 nin0)
                    have hin_b1_101_248_108 : ¬ ((0 : Int32) < 0 ∨ cl_b1_101_248_108.slots.size ≤ ((0 : Int32) : Int32).toNatClampNeg) := inb_of S_b1_101_248_108 ⟨by decide, by decide⟩
                    obtain ⟨cl_b1_101_274_109, Ar_b1_101_274_109, q_b1_101_274_109, S_b1_101_274_109, N_b1_101_274_109, H_b1_101_274_109, G_b1_101_274_109⟩ := id (f101_0.keep K102 nin0)
                    have hin_b1_101_274_109 : ¬ ((1 : Int32) < 0 ∨ cl_b1_101_274_109.slots.size ≤ ((1 : Int32) : Int32).toNatClampNeg) := inb_of S_b1_101_274_109 ⟨by decide, by decide⟩
                    obtain ⟨cl_b1_101_300_110, Ar_b1_101_300_110, q_b1_101_300_110, S_b1_101_300_110, N_b1_101_300_110, H_b1_101_300_110, G_b1_101_300_110⟩ := id (f101_0.keep K102 nin0)
                    have hin_b1_101_300_110 : ¬ ((2 : Int32) < 0 ∨ cl_b1_101_300_110.slots.size ≤ ((2 : Int32) : Int32).toNatClampNeg) := inb_of S_b1_101_300_110 ⟨by decide, by decide⟩
                    obtain ⟨cl_b1_101_326_111, Ar_b1_101_326_111, q_b1_101_326_111, S_b1_101_326_111, N_b1_101_326_111, H_b1_101_326_111, G_b1_101_326_111⟩ := id (f101_0.keep K102 nin0)
                    have hin_b1_101_326_111 : ¬ ((3 : Int32) < 0 ∨ cl_b1_101_326_111.slots.size ≤ ((3 : Int32) : Int32).toNatClampNeg) := inb_of S_b1_101_326_111 ⟨by decide, by decide⟩
                    obtain ⟨fs, hr, hrun, hended, hW, hsame⟩ := X102.leave (v := some (.int (1 : Int32))) (fun h => by rw [Bd.returns] at h; cases h)
                    refine ⟨_, _, pre68 _ ?_, hrun, hended, _, _, rfl, ?_, ⟨_, rfl⟩, hW, hsame.mono (by decide) (by decide)⟩
                    · show Steps p.tables e below (T67.setTop (mkF m 57 #[.val (.int p1), .val (.int p2), .val (.int (4 : Int32)), .val (.int (((p2.toUInt32 >>> ((2 : Int32) &&& 31).toUInt32).toInt32) &&& (15 : Int32))), .val (.int bb0), .val (.int bb1), .val (.int bb2), .val (.int bb3), .unset, .unset, .unset, .unset] [(.int (3 : Int32))])) _
                      refine XS.istore X67.here hx rfl (hb hby at_57) rfl (l' := #[.val (.int p1), .val (.int p2), .val (.int (4 : Int32)), .val (.int (((p2.toUInt32 >>> ((2 : Int32) &&& 31).toUInt32).toInt32) &&& (15 : Int32))), .val (.int bb0), .val (.int bb1), .val (.int bb2), .val (.int bb3), .val (.int (3 : Int32)), .unset, .unset, .unset]) rfl ?_
                      refine XS.iload X67.here hx rfl (hb hby at_59) rfl ?_
                      refine XS.ifYes X67.here hx rfl (pc0 := 61) (pc' := 66) rfl (hb hby at_61) rfl ((if0 _ _).trans (flt (by decide : ¬ ((3 : Int32) < (0 : Int32)))).2.1) (by decide) (by decide) ?_
                      show Steps p.tables e below (T67.setTop (mkF m 66 #[.val (.int p1), .val (.int p2), .val (.int (4 : Int32)), .val (.int (((p2.toUInt32 >>> ((2 : Int32) &&& 31).toUInt32).toInt32) &&& (15 : Int32))), .val (.int bb0), .val (.int bb1), .val (.int bb2), .val (.int bb3), .val (.int (3 : Int32)), .unset, .unset, .unset] [])) _
                      refine XS.iloadN X67.here hx rfl (hb hby at_66) rfl ?_
                      refine XS.iload X67.here hx rfl (hb hby at_67) rfl ?_
                      refine XS.iload X67.here hx rfl (hb hby at_69) rfl ?_
                      show Steps p.tables e below (T67.setTop (mkF m 71 #[.val (.int p1), .val (.int p2), .val (.int (4 : Int32)), .val (.int (((p2.toUInt32 >>> ((2 : Int32) &&& 31).toUInt32).toInt32) &&& (15 : Int32))), .val (.int bb0), .val (.int bb1), .val (.int bb2), .val (.int bb3), .val (.int (3 : Int32)), .unset, .unset, .unset] [(.int bb1), (.int bb0), (.int (4 : Int32))])) _
                      refine XS.iload X67.here hx rfl (hb hby at_71) rfl ?_
                      refine XS.iload X67.here hx rfl (hb hby at_73) rfl ?_
                      show Steps p.tables e below (T67.setTop (mkF m 75 #[.val (.int p1), .val (.int p2), .val (.int (4 : Int32)), .val (.int (((p2.toUInt32 >>> ((2 : Int32) &&& 31).toUInt32).toInt32) &&& (15 : Int32))), .val (.int bb0), .val (.int bb1), .val (.int bb2), .val (.int bb3), .val (.int (3 : Int32)), .unset, .unset, .unset] [(.int bb3), (.int bb2), (.int bb1), (.int bb0), (.int (4 : Int32))])) _
                      refine st101 _ ?_
                      show Steps p.tables e below (T101.setTop (mkF m 78 #[.val (.int p1), .val (.int p2), .val (.int (4 : Int32)), .val (.int (((p2.toUInt32 >>> ((2 : Int32) &&& 31).toUInt32).toInt32) &&& (15 : Int32))), .val (.int bb0), .val (.int bb1), .val (.int bb2), .val (.int bb3), .val (.int (3 : Int32)), .unset, .unset, .unset] [(.ref b1_101)])) _
                      refine XS.astore X101.here hx rfl (hb hby at_78) rfl rfl (l' := #[.val (.int p1), .val (.int p2), .val (.int (4 : Int32)), .val (.int (((p2.toUInt32 >>> ((2 : Int32) &&& 31).toUInt32).toInt32) &&& (15 : Int32))), .val (.int bb0), .val (.int bb1), .val (.int bb2), .val (.int bb3), .val (.int (3 : Int32)), .val (.ref b1_101), .unset, .unset]) rfl ?_
                      show Steps p.tables e below (T101.setTop (mkF m 80 #[.val (.int p1), .val (.int p2), .val (.int (4 : Int32)), .val (.int (((p2.toUInt32 >>> ((2 : Int32) &&& 31).toUInt32).toInt32) &&& (15 : Int32))), .val (.int bb0), .val (.int bb1), .val (.int bb2), .val (.int bb3), .val (.int (3 : Int32)), .val (.ref b1_101), .unset, .unset] [])) _
                      refine XS.aload X101.here hx rfl (hb hby at_80) rfl rfl ?_
                      show Steps p.tables e below (T101.setTop (mkF m 82 #[.val (.int p1), .val (.int p2), .val (.int (4 : Int32)), .val (.int (((p2.toUInt32 >>> ((2 : Int32) &&& 31).toUInt32).toInt32) &&& (15 : Int32))), .val (.int bb0), .val (.int bb1), .val (.int bb2), .val (.int bb3), .val (.int (3 : Int32)), .val (.ref b1_101), .unset, .unset] [(.ref b1_101)])) _
                      refine st102 _ ?_
                      show Steps p.tables e below (T102.setTop (mkF m 85 #[.val (.int p1), .val (.int p2), .val (.int (4 : Int32)), .val (.int (((p2.toUInt32 >>> ((2 : Int32) &&& 31).toUInt32).toInt32) &&& (15 : Int32))), .val (.int bb0), .val (.int bb1), .val (.int bb2), .val (.int bb3), .val (.int (3 : Int32)), .val (.ref b1_101), .unset, .unset] [(.ref b2_3_102)])) _
                      refine XS.astore X102.here hx rfl (hb hby at_85) rfl rfl (l' := #[.val (.int p1), .val (.int p2), .val (.int (4 : Int32)), .val (.int (((p2.toUInt32 >>> ((2 : Int32) &&& 31).toUInt32).toInt32) &&& (15 : Int32))), .val (.int bb0), .val (.int bb1), .val (.int bb2), .val (.int bb3), .val (.int (3 : Int32)), .val (.ref b1_101), .val (.ref b2_3_102), .unset]) rfl ?_
                      refine XS.aload X102.here hx rfl (hb hby at_87) rfl rfl ?_
                      show Steps p.tables e below (T102.setTop (mkF m 89 #[.val (.int p1), .val (.int p2), .val (.int (4 : Int32)), .val (.int (((p2.toUInt32 >>> ((2 : Int32) &&& 31).toUInt32).toInt32) &&& (15 : Int32))), .val (.int bb0), .val (.int bb1), .val (.int bb2), .val (.int bb3), .val (.int (3 : Int32)), .val (.ref b1_101), .val (.ref b2_3_102), .unset] [(.ref b2_3_102)])) _
                      refine X102.arraylength hx (by exact Ar_b2_3_102_89_103.1) (State.isArrayOf_alike hZ.alike Ar_b2_3_102_89_103.2.1) (g := (mkF m 89 #[.val (.int p1), .val (.int p2), .val (.int (4 : Int32)), .val (.int (((p2.toUInt32 >>> ((2 : Int32) &&& 31).toUInt32).toInt32) &&& (15 : Int32))), .val (.int bb0), .val (.int bb1), .val (.int bb2), .val (.int bb3), .val (.int (3 : Int32)), .val (.ref b1_101), .val (.ref b2_3_102), .unset] [(.ref b2_3_102)])) rfl rfl (hb hby at_89) _ ?_
                      rw [len_of S_b2_3_102_89_103 N_b2_3_102_89_103]
                      show Steps p.tables e below (T102.setTop (mkF m 90 #[.val (.int p1), .val (.int p2), .val (.int (4 : Int32)), .val (.int (((p2.toUInt32 >>> ((2 : Int32) &&& 31).toUInt32).toInt32) &&& (15 : Int32))), .val (.int bb0), .val (.int bb1), .val (.int bb2), .val (.int bb3), .val (.int (3 : Int32)), .val (.ref b1_101), .val (.ref b2_3_102), .unset] [(.int (4 : Int32))])) _
                      refine XS.iload X102.here hx rfl (hb hby at_90) rfl ?_
                      refine XS.iconst X102.here hx rfl (hb hby at_92) ?_
                      show Steps p.tables e below (T102.setTop (mkF m 93 #[.val (.int p1), .val (.int p2), .val (.int (4 : Int32)), .val (.int (((p2.toUInt32 >>> ((2 : Int32) &&& 31).toUInt32).toInt32) &&& (15 : Int32))), .val (.int bb0), .val (.int bb1), .val (.int bb2), .val (.int bb3), .val (.int (3 : Int32)), .val (.ref b1_101), .val (.ref b2_3_102), .unset] [(.int (1 : Int32)), (.int (3 : Int32)), (.int (4 : Int32))])) _
                      refine XS.iadd X102.here hx rfl (hb hby at_93) rfl ?_
                      refine XS.icmpYes X102.here hx rfl (pc0 := 94) (pc' := 99) rfl (hb hby at_94) rfl (teq (by decide : (4 : Int32) = (4 : Int32))).1 (by decide) (by decide) ?_
                      refine XS.aload X102.here hx rfl (hb hby at_99) rfl rfl ?_
                      show Steps p.tables e below (T102.setTop (mkF m 101 #[.val (.int p1), .val (.int p2), .val (.int (4 : Int32)), .val (.int (((p2.toUInt32 >>> ((2 : Int32) &&& 31).toUInt32).toInt32) &&& (15 : Int32))), .val (.int bb0), .val (.int bb1), .val (.int bb2), .val (.int bb3), .val (.int (3 : Int32)), .val (.ref b1_101), .val (.ref b2_3_102), .unset] [(.ref b2_3_102)])) _
                      refine XS.iconst X102.here hx rfl (hb hby at_101) ?_
                      refine X102.baloadBytes hx (j := (0 : Int32)) (v := (.int (nar .byte bb0))) (by exact Ar_b2_3_102_102_104.1) (State.isArrayOf_alike hZ.alike Ar_b2_3_102_102_104.2.1) Ar_b2_3_102_102_104.2.2 hin_b2_3_102_102_104 (H_b2_3_102_102_104.at hin_b2_3_102_102_104 rfl) (g := (mkF m 102 #[.val (.int p1), .val (.int p2), .val (.int (4 : Int32)), .val (.int (((p2.toUInt32 >>> ((2 : Int32) &&& 31).toUInt32).toInt32) &&& (15 : Int32))), .val (.int bb0), .val (.int bb1), .val (.int bb2), .val (.int bb3), .val (.int (3 : Int32)), .val (.ref b1_101), .val (.ref b2_3_102), .unset] [(.int (0 : Int32)), (.ref b2_3_102)])) rfl rfl (hb hby at_102) _ ?_
                      show Steps p.tables e below (T102.setTop (mkF m 103 #[.val (.int p1), .val (.int p2), .val (.int (4 : Int32)), .val (.int (((p2.toUInt32 >>> ((2 : Int32) &&& 31).toUInt32).toInt32) &&& (15 : Int32))), .val (.int bb0), .val (.int bb1), .val (.int bb2), .val (.int bb3), .val (.int (3 : Int32)), .val (.ref b1_101), .val (.ref b2_3_102), .unset] [(.int (nar .byte bb0))])) _
                      refine XS.iload X102.here hx rfl (hb hby at_103) rfl ?_
                      show Steps p.tables e below (T102.setTop (mkF m 105 #[.val (.int p1), .val (.int p2), .val (.int (4 : Int32)), .val (.int (((p2.toUInt32 >>> ((2 : Int32) &&& 31).toUInt32).toInt32) &&& (15 : Int32))), .val (.int bb0), .val (.int bb1), .val (.int bb2), .val (.int bb3), .val (.int (3 : Int32)), .val (.ref b1_101), .val (.ref b2_3_102), .unset] [(.int (3 : Int32)), (.int (nar .byte bb0))])) _
                      refine XS.ifYes X102.here hx rfl (pc0 := 105) (pc' := 116) rfl (hb hby at_105) rfl ((if0 _ _).trans (feq (by decide : ¬ ((3 : Int32) = (0 : Int32)))).2) (by decide) (by decide) ?_
                      refine XS.iload X102.here hx rfl (hb hby at_116) rfl ?_
                      refine XS.icmpNo X102.here hx rfl (hb hby at_118) rfl (teq (by simp only [e_bb0, e_bb1, e_bb2, e_bb3, own_narb] : (nar .byte bb0) = bb0)).2 ?_
                      show Steps p.tables e below (T102.setTop (mkF m 121 #[.val (.int p1), .val (.int p2), .val (.int (4 : Int32)), .val (.int (((p2.toUInt32 >>> ((2 : Int32) &&& 31).toUInt32).toInt32) &&& (15 : Int32))), .val (.int bb0), .val (.int bb1), .val (.int bb2), .val (.int bb3), .val (.int (3 : Int32)), .val (.ref b1_101), .val (.ref b2_3_102), .unset] [])) _
                      refine XS.iconst X102.here hx rfl (hb hby at_121) ?_
                      refine XS.goto X102.here hx rfl (pc0 := 122) (pc' := 126) rfl (hb hby at_122) (by decide) (by decide) ?_
                      refine XS.istore X102.here hx rfl (hb hby at_126) rfl (l' := #[.val (.int p1), .val (.int p2), .val (.int (4 : Int32)), .val (.int (((p2.toUInt32 >>> ((2 : Int32) &&& 31).toUInt32).toInt32) &&& (15 : Int32))), .val (.int bb0), .val (.int bb1), .val (.int bb2), .val (.int bb3), .val (.int (3 : Int32)), .val (.ref b1_101), .val (.ref b2_3_102), .val (.int (1 : Int32))]) rfl ?_
                      show Steps p.tables e below (T102.setTop (mkF m 128 #[.val (.int p1), .val (.int p2), .val (.int (4 : Int32)), .val (.int (((p2.toUInt32 >>> ((2 : Int32) &&& 31).toUInt32).toInt32) &&& (15 : Int32))), .val (.int bb0), .val (.int bb1), .val (.int bb2), .val (.int bb3), .val (.int (3 : Int32)), .val (.ref b1_101), .val (.ref b2_3_102), .val (.int (1 : Int32))] [])) _
                      refine XS.iload X102.here hx rfl (hb hby at_128) rfl ?_
                      refine XS.iconst X102.here hx rfl (hb hby at_130) ?_
                      refine XS.icmpNo X102.here hx rfl (hb hby at_131) rfl (flt (by decide : ¬ ((3 : Int32) < (1 : Int32)))).1 ?_
                      show Steps p.tables e below (T102.setTop (mkF m 134 #[.val (.int p1), .val (.int p2), .val (.int (4 : Int32)), .val (.int (((p2.toUInt32 >>> ((2 : Int32) &&& 31).toUInt32).toInt32) &&& (15 : Int32))), .val (.int bb0), .val (.int bb1), .val (.int bb2), .val (.int bb3), .val (.int (3 : Int32)), .val (.ref b1_101), .val (.ref b2_3_102), .val (.int (1 : Int32))] [])) _
                      refine XS.iload X102.here hx rfl (hb hby at_134) rfl ?_
                      refine XS.ifNo X102.here hx rfl (hb hby at_136) rfl ((if0 _ _).trans (feq (by decide : ¬ ((1 : Int32) = (0 : Int32)))).1) ?_
                      refine XS.aload X102.here hx rfl (hb hby at_139) rfl rfl ?_
                      show Steps p.tables e below (T102.setTop (mkF m 141 #[.val (.int p1), .val (.int p2), .val (.int (4 : Int32)), .val (.int (((p2.toUInt32 >>> ((2 : Int32) &&& 31).toUInt32).toInt32) &&& (15 : Int32))), .val (.int bb0), .val (.int bb1), .val (.int bb2), .val (.int bb3), .val (.int (3 : Int32)), .val (.ref b1_101), .val (.ref b2_3_102), .val (.int (1 : Int32))] [(.ref b2_3_102)])) _
                      refine XS.iconst X102.here hx rfl (hb hby at_141) ?_
                      refine X102.baloadBytes hx (j := (1 : Int32)) (v := (.int (nar .byte bb1))) (by exact Ar_b2_3_102_142_105.1) (State.isArrayOf_alike hZ.alike Ar_b2_3_102_142_105.2.1) Ar_b2_3_102_142_105.2.2 hin_b2_3_102_142_105 (H_b2_3_102_142_105.at hin_b2_3_102_142_105 rfl) (g := (mkF m 142 #[.val (.int p1), .val (.int p2), .val (.int (4 : Int32)), .val (.int (((p2.toUInt32 >>> ((2 : Int32) &&& 31).toUInt32).toInt32) &&& (15 : Int32))), .val (.int bb0), .val (.int bb1), .val (.int bb2), .val (.int bb3), .val (.int (3 : Int32)), .val (.ref b1_101), .val (.ref b2_3_102), .val (.int (1 : Int32))] [(.int (1 : Int32)), (.ref b2_3_102)])) rfl rfl (hb hby at_142) _ ?_
                      show Steps p.tables e below (T102.setTop (mkF m 143 #[.val (.int p1), .val (.int p2), .val (.int (4 : Int32)), .val (.int (((p2.toUInt32 >>> ((2 : Int32) &&& 31).toUInt32).toInt32) &&& (15 : Int32))), .val (.int bb0), .val (.int bb1), .val (.int bb2), .val (.int bb3), .val (.int (3 : Int32)), .val (.ref b1_101), .val (.ref b2_3_102), .val (.int (1 : Int32))] [(.int (nar .byte bb1))])) _
                      refine XS.iload X102.here hx rfl (hb hby at_143) rfl ?_
                      show Steps p.tables e below (T102.setTop (mkF m 145 #[.val (.int p1), .val (.int p2), .val (.int (4 : Int32)), .val (.int (((p2.toUInt32 >>> ((2 : Int32) &&& 31).toUInt32).toInt32) &&& (15 : Int32))), .val (.int bb0), .val (.int bb1), .val (.int bb2), .val (.int bb3), .val (.int (3 : Int32)), .val (.ref b1_101), .val (.ref b2_3_102), .val (.int (1 : Int32))] [(.int (3 : Int32)), (.int (nar .byte bb1))])) _
                      refine XS.iconst X102.here hx rfl (hb hby at_145) ?_
                      refine XS.icmpYes X102.here hx rfl (pc0 := 146) (pc' := 157) rfl (hb hby at_146) rfl (feq (by decide : ¬ ((3 : Int32) = (1 : Int32)))).2 (by decide) (by decide) ?_
                      refine XS.iload X102.here hx rfl (hb hby at_157) rfl ?_
                      show Steps p.tables e below (T102.setTop (mkF m 159 #[.val (.int p1), .val (.int p2), .val (.int (4 : Int32)), .val (.int (((p2.toUInt32 >>> ((2 : Int32) &&& 31).toUInt32).toInt32) &&& (15 : Int32))), .val (.int bb0), .val (.int bb1), .val (.int bb2), .val (.int bb3), .val (.int (3 : Int32)), .val (.ref b1_101), .val (.ref b2_3_102), .val (.int (1 : Int32))] [(.int bb1), (.int (nar .byte bb1))])) _
                      refine XS.icmpNo X102.here hx rfl (hb hby at_159) rfl (teq (by simp only [e_bb0, e_bb1, e_bb2, e_bb3, own_narb] : (nar .byte bb1) = bb1)).2 ?_
                      refine XS.iconst X102.here hx rfl (hb hby at_162) ?_
                      refine XS.goto X102.here hx rfl (pc0 := 163) (pc' := 167) rfl (hb hby at_163) (by decide) (by decide) ?_
                      show Steps p.tables e below (T102.setTop (mkF m 167 #[.val (.int p1), .val (.int p2), .val (.int (4 : Int32)), .val (.int (((p2.toUInt32 >>> ((2 : Int32) &&& 31).toUInt32).toInt32) &&& (15 : Int32))), .val (.int bb0), .val (.int bb1), .val (.int bb2), .val (.int bb3), .val (.int (3 : Int32)), .val (.ref b1_101), .val (.ref b2_3_102), .val (.int (1 : Int32))] [(.int (1 : Int32))])) _
                      refine XS.istore X102.here hx rfl (hb hby at_167) rfl (l' := #[.val (.int p1), .val (.int p2), .val (.int (4 : Int32)), .val (.int (((p2.toUInt32 >>> ((2 : Int32) &&& 31).toUInt32).toInt32) &&& (15 : Int32))), .val (.int bb0), .val (.int bb1), .val (.int bb2), .val (.int bb3), .val (.int (3 : Int32)), .val (.ref b1_101), .val (.ref b2_3_102), .val (.int (1 : Int32))]) rfl ?_
                      refine XS.iload X102.here hx rfl (hb hby at_169) rfl ?_
                      refine XS.iconst X102.here hx rfl (hb hby at_171) ?_
                      show Steps p.tables e below (T102.setTop (mkF m 172 #[.val (.int p1), .val (.int p2), .val (.int (4 : Int32)), .val (.int (((p2.toUInt32 >>> ((2 : Int32) &&& 31).toUInt32).toInt32) &&& (15 : Int32))), .val (.int bb0), .val (.int bb1), .val (.int bb2), .val (.int bb3), .val (.int (3 : Int32)), .val (.ref b1_101), .val (.ref b2_3_102), .val (.int (1 : Int32))] [(.int (2 : Int32)), (.int (3 : Int32))])) _
                      refine XS.icmpNo X102.here hx rfl (hb hby at_172) rfl (flt (by decide : ¬ ((3 : Int32) < (2 : Int32)))).1 ?_
                      refine XS.iload X102.here hx rfl (hb hby at_175) rfl ?_
                      refine XS.ifNo X102.here hx rfl (hb hby at_177) rfl ((if0 _ _).trans (feq (by decide : ¬ ((1 : Int32) = (0 : Int32)))).1) ?_
                      show Steps p.tables e below (T102.setTop (mkF m 180 #[.val (.int p1), .val (.int p2), .val (.int (4 : Int32)), .val (.int (((p2.toUInt32 >>> ((2 : Int32) &&& 31).toUInt32).toInt32) &&& (15 : Int32))), .val (.int bb0), .val (.int bb1), .val (.int bb2), .val (.int bb3), .val (.int (3 : Int32)), .val (.ref b1_101), .val (.ref b2_3_102), .val (.int (1 : Int32))] [])) _
                      refine XS.aload X102.here hx rfl (hb hby at_180) rfl rfl ?_
                      refine XS.iconst X102.here hx rfl (hb hby at_182) ?_
                      refine X102.baloadBytes hx (j := (2 : Int32)) (v := (.int (nar .byte bb2))) (by exact Ar_b2_3_102_183_106.1) (State.isArrayOf_alike hZ.alike Ar_b2_3_102_183_106.2.1) Ar_b2_3_102_183_106.2.2 hin_b2_3_102_183_106 (H_b2_3_102_183_106.at hin_b2_3_102_183_106 rfl) (g := (mkF m 183 #[.val (.int p1), .val (.int p2), .val (.int (4 : Int32)), .val (.int (((p2.toUInt32 >>> ((2 : Int32) &&& 31).toUInt32).toInt32) &&& (15 : Int32))), .val (.int bb0), .val (.int bb1), .val (.int bb2), .val (.int bb3), .val (.int (3 : Int32)), .val (.ref b1_101), .val (.ref b2_3_102), .val (.int (1 : Int32))] [(.int (2 : Int32)), (.ref b2_3_102)])) rfl rfl (hb hby at_183) _ ?_
                      show Steps p.tables e below (T102.setTop (mkF m 184 #[.val (.int p1), .val (.int p2), .val (.int (4 : Int32)), .val (.int (((p2.toUInt32 >>> ((2 : Int32) &&& 31).toUInt32).toInt32) &&& (15 : Int32))), .val (.int bb0), .val (.int bb1), .val (.int bb2), .val (.int bb3), .val (.int (3 : Int32)), .val (.ref b1_101), .val (.ref b2_3_102), .val (.int (1 : Int32))] [(.int (nar .byte bb2))])) _
                      refine XS.iload X102.here hx rfl (hb hby at_184) rfl ?_
                      refine XS.iconst X102.here hx rfl (hb hby at_186) ?_
                      refine XS.icmpYes X102.here hx rfl (pc0 := 187) (pc' := 198) rfl (hb hby at_187) rfl (feq (by decide : ¬ ((3 : Int32) = (2 : Int32)))).2 (by decide) (by decide) ?_
                      show Steps p.tables e below (T102.setTop (mkF m 198 #[.val (.int p1), .val (.int p2), .val (.int (4 : Int32)), .val (.int (((p2.toUInt32 >>> ((2 : Int32) &&& 31).toUInt32).toInt32) &&& (15 : Int32))), .val (.int bb0), .val (.int bb1), .val (.int bb2), .val (.int bb3), .val (.int (3 : Int32)), .val (.ref b1_101), .val (.ref b2_3_102), .val (.int (1 : Int32))] [(.int (nar .byte bb2))])) _
                      refine XS.iload X102.here hx rfl (hb hby at_198) rfl ?_
                      refine XS.icmpNo X102.here hx rfl (hb hby at_200) rfl (teq (by simp only [e_bb0, e_bb1, e_bb2, e_bb3, own_narb] : (nar .byte bb2) = bb2)).2 ?_
                      refine XS.iconst X102.here hx rfl (hb hby at_203) ?_
                      show Steps p.tables e below (T102.setTop (mkF m 204 #[.val (.int p1), .val (.int p2), .val (.int (4 : Int32)), .val (.int (((p2.toUInt32 >>> ((2 : Int32) &&& 31).toUInt32).toInt32) &&& (15 : Int32))), .val (.int bb0), .val (.int bb1), .val (.int bb2), .val (.int bb3), .val (.int (3 : Int32)), .val (.ref b1_101), .val (.ref b2_3_102), .val (.int (1 : Int32))] [(.int (1 : Int32))])) _
                      refine XS.goto X102.here hx rfl (pc0 := 204) (pc' := 208) rfl (hb hby at_204) (by decide) (by decide) ?_
                      refine XS.istore X102.here hx rfl (hb hby at_208) rfl (l' := #[.val (.int p1), .val (.int p2), .val (.int (4 : Int32)), .val (.int (((p2.toUInt32 >>> ((2 : Int32) &&& 31).toUInt32).toInt32) &&& (15 : Int32))), .val (.int bb0), .val (.int bb1), .val (.int bb2), .val (.int bb3), .val (.int (3 : Int32)), .val (.ref b1_101), .val (.ref b2_3_102), .val (.int (1 : Int32))]) rfl ?_
                      refine XS.iload X102.here hx rfl (hb hby at_210) rfl ?_
                      show Steps p.tables e below (T102.setTop (mkF m 212 #[.val (.int p1), .val (.int p2), .val (.int (4 : Int32)), .val (.int (((p2.toUInt32 >>> ((2 : Int32) &&& 31).toUInt32).toInt32) &&& (15 : Int32))), .val (.int bb0), .val (.int bb1), .val (.int bb2), .val (.int bb3), .val (.int (3 : Int32)), .val (.ref b1_101), .val (.ref b2_3_102), .val (.int (1 : Int32))] [(.int (3 : Int32))])) _
                      refine XS.iconst X102.here hx rfl (hb hby at_212) ?_
                      refine XS.icmpNo X102.here hx rfl (hb hby at_213) rfl (flt (by decide : ¬ ((3 : Int32) < (3 : Int32)))).1 ?_
                      refine XS.iload X102.here hx rfl (hb hby at_216) rfl ?_
                      show Steps p.tables e below (T102.setTop (mkF m 218 #[.val (.int p1), .val (.int p2), .val (.int (4 : Int32)), .val (.int (((p2.toUInt32 >>> ((2 : Int32) &&& 31).toUInt32).toInt32) &&& (15 : Int32))), .val (.int bb0), .val (.int bb1), .val (.int bb2), .val (.int bb3), .val (.int (3 : Int32)), .val (.ref b1_101), .val (.ref b2_3_102), .val (.int (1 : Int32))] [(.int (1 : Int32))])) _
                      refine XS.ifNo X102.here hx rfl (hb hby at_218) rfl ((if0 _ _).trans (feq (by decide : ¬ ((1 : Int32) = (0 : Int32)))).1) ?_
                      refine XS.aload X102.here hx rfl (hb hby at_221) rfl rfl ?_
                      refine XS.iconst X102.here hx rfl (hb hby at_223) ?_
                      show Steps p.tables e below (T102.setTop (mkF m 224 #[.val (.int p1), .val (.int p2), .val (.int (4 : Int32)), .val (.int (((p2.toUInt32 >>> ((2 : Int32) &&& 31).toUInt32).toInt32) &&& (15 : Int32))), .val (.int bb0), .val (.int bb1), .val (.int bb2), .val (.int bb3), .val (.int (3 : Int32)), .val (.ref b1_101), .val (.ref b2_3_102), .val (.int (1 : Int32))] [(.int (3 : Int32)), (.ref b2_3_102)])) _
                      refine X102.baloadBytes hx (j := (3 : Int32)) (v := (.int (nar .byte (((nar .byte bb3) + (1 : Int32)).toInt8.toInt32)))) (by exact Ar_b2_3_102_224_107.1) (State.isArrayOf_alike hZ.alike Ar_b2_3_102_224_107.2.1) Ar_b2_3_102_224_107.2.2 hin_b2_3_102_224_107 (H_b2_3_102_224_107.at hin_b2_3_102_224_107 rfl) (g := (mkF m 224 #[.val (.int p1), .val (.int p2), .val (.int (4 : Int32)), .val (.int (((p2.toUInt32 >>> ((2 : Int32) &&& 31).toUInt32).toInt32) &&& (15 : Int32))), .val (.int bb0), .val (.int bb1), .val (.int bb2), .val (.int bb3), .val (.int (3 : Int32)), .val (.ref b1_101), .val (.ref b2_3_102), .val (.int (1 : Int32))] [(.int (3 : Int32)), (.ref b2_3_102)])) rfl rfl (hb hby at_224) _ ?_
                      show Steps p.tables e below (T102.setTop (mkF m 225 #[.val (.int p1), .val (.int p2), .val (.int (4 : Int32)), .val (.int (((p2.toUInt32 >>> ((2 : Int32) &&& 31).toUInt32).toInt32) &&& (15 : Int32))), .val (.int bb0), .val (.int bb1), .val (.int bb2), .val (.int bb3), .val (.int (3 : Int32)), .val (.ref b1_101), .val (.ref b2_3_102), .val (.int (1 : Int32))] [(.int (nar .byte (((nar .byte bb3) + (1 : Int32)).toInt8.toInt32)))])) _
                      refine XS.iload X102.here hx rfl (hb hby at_225) rfl ?_
                      refine XS.iconst X102.here hx rfl (hb hby at_227) ?_
                      show Steps p.tables e below (T102.setTop (mkF m 228 #[.val (.int p1), .val (.int p2), .val (.int (4 : Int32)), .val (.int (((p2.toUInt32 >>> ((2 : Int32) &&& 31).toUInt32).toInt32) &&& (15 : Int32))), .val (.int bb0), .val (.int bb1), .val (.int bb2), .val (.int bb3), .val (.int (3 : Int32)), .val (.ref b1_101), .val (.ref b2_3_102), .val (.int (1 : Int32))] [(.int (1 : Int32)), (.int bb3), (.int (nar .byte (((nar .byte bb3) + (1 : Int32)).toInt8.toInt32)))])) _
                      refine XS.iadd X102.here hx rfl (hb hby at_228) rfl ?_
                      refine XS.i2b X102.here hx rfl (hb hby at_229) rfl ?_
                      refine XS.icmpNo X102.here hx rfl (hb hby at_230) rfl (teq (by simp only [e_bb0, e_bb1, e_bb2, e_bb3, own_narb] : (nar .byte (((nar .byte bb3) + (1 : Int32)).toInt8.toInt32)) = ((bb3 + (1 : Int32)).toInt8.toInt32))).2 ?_
                      show Steps p.tables e below (T102.setTop (mkF m 233 #[.val (.int p1), .val (.int p2), .val (.int (4 : Int32)), .val (.int (((p2.toUInt32 >>> ((2 : Int32) &&& 31).toUInt32).toInt32) &&& (15 : Int32))), .val (.int bb0), .val (.int bb1), .val (.int bb2), .val (.int bb3), .val (.int (3 : Int32)), .val (.ref b1_101), .val (.ref b2_3_102), .val (.int (1 : Int32))] [])) _
                      refine XS.iconst X102.here hx rfl (hb hby at_233) ?_
                      refine XS.goto X102.here hx rfl (pc0 := 234) (pc' := 238) rfl (hb hby at_234) (by decide) (by decide) ?_
                      refine XS.istore X102.here hx rfl (hb hby at_238) rfl (l' := #[.val (.int p1), .val (.int p2), .val (.int (4 : Int32)), .val (.int (((p2.toUInt32 >>> ((2 : Int32) &&& 31).toUInt32).toInt32) &&& (15 : Int32))), .val (.int bb0), .val (.int bb1), .val (.int bb2), .val (.int bb3), .val (.int (3 : Int32)), .val (.ref b1_101), .val (.ref b2_3_102), .val (.int (1 : Int32))]) rfl ?_
                      show Steps p.tables e below (T102.setTop (mkF m 240 #[.val (.int p1), .val (.int p2), .val (.int (4 : Int32)), .val (.int (((p2.toUInt32 >>> ((2 : Int32) &&& 31).toUInt32).toInt32) &&& (15 : Int32))), .val (.int bb0), .val (.int bb1), .val (.int bb2), .val (.int bb3), .val (.int (3 : Int32)), .val (.ref b1_101), .val (.ref b2_3_102), .val (.int (1 : Int32))] [])) _
                      refine XS.iload X102.here hx rfl (hb hby at_240) rfl ?_
                      refine XS.ifNo X102.here hx rfl (hb hby at_242) rfl ((if0 _ _).trans (feq (by decide : ¬ ((1 : Int32) = (0 : Int32)))).1) ?_
                      refine XS.aload X102.here hx rfl (hb hby at_245) rfl rfl ?_
                      show Steps p.tables e below (T102.setTop (mkF m 247 #[.val (.int p1), .val (.int p2), .val (.int (4 : Int32)), .val (.int (((p2.toUInt32 >>> ((2 : Int32) &&& 31).toUInt32).toInt32) &&& (15 : Int32))), .val (.int bb0), .val (.int bb1), .val (.int bb2), .val (.int bb3), .val (.int (3 : Int32)), .val (.ref b1_101), .val (.ref b2_3_102), .val (.int (1 : Int32))] [(.ref b1_101)])) _
                      refine XS.iconst X102.here hx rfl (hb hby at_247) ?_
                      refine X102.baloadBytes hx (j := (0 : Int32)) (v := (.int (nar .byte bb0))) (by exact Ar_b1_101_248_108.1) (State.isArrayOf_alike hZ.alike Ar_b1_101_248_108.2.1) Ar_b1_101_248_108.2.2 hin_b1_101_248_108 (H_b1_101_248_108.at hin_b1_101_248_108 rfl) (g := (mkF m 248 #[.val (.int p1), .val (.int p2), .val (.int (4 : Int32)), .val (.int (((p2.toUInt32 >>> ((2 : Int32) &&& 31).toUInt32).toInt32) &&& (15 : Int32))), .val (.int bb0), .val (.int bb1), .val (.int bb2), .val (.int bb3), .val (.int (3 : Int32)), .val (.ref b1_101), .val (.ref b2_3_102), .val (.int (1 : Int32))] [(.int (0 : Int32)), (.ref b1_101)])) rfl rfl (hb hby at_248) _ ?_
                      show Steps p.tables e below (T102.setTop (mkF m 249 #[.val (.int p1), .val (.int p2), .val (.int (4 : Int32)), .val (.int (((p2.toUInt32 >>> ((2 : Int32) &&& 31).toUInt32).toInt32) &&& (15 : Int32))), .val (.int bb0), .val (.int bb1), .val (.int bb2), .val (.int bb3), .val (.int (3 : Int32)), .val (.ref b1_101), .val (.ref b2_3_102), .val (.int (1 : Int32))] [(.int (nar .byte bb0))])) _
                      refine XS.iload X102.here hx rfl (hb hby at_249) rfl ?_
                      show Steps p.tables e below (T102.setTop (mkF m 251 #[.val (.int p1), .val (.int p2), .val (.int (4 : Int32)), .val (.int (((p2.toUInt32 >>> ((2 : Int32) &&& 31).toUInt32).toInt32) &&& (15 : Int32))), .val (.int bb0), .val (.int bb1), .val (.int bb2), .val (.int bb3), .val (.int (3 : Int32)), .val (.ref b1_101), .val (.ref b2_3_102), .val (.int (1 : Int32))] [(.int bb0), (.int (nar .byte bb0))])) _
                      refine XS.icmpNo X102.here hx rfl (hb hby at_251) rfl (teq (by simp only [e_bb0, e_bb1, e_bb2, e_bb3, own_narb] : (nar .byte bb0) = bb0)).2 ?_
                      refine XS.iconst X102.here hx rfl (hb hby at_254) ?_
                      refine XS.goto X102.here hx rfl (pc0 := 255) (pc' := 259) rfl (hb hby at_255) (by decide) (by decide) ?_
                      show Steps p.tables e below (T102.setTop (mkF m 259 #[.val (.int p1), .val (.int p2), .val (.int (4 : Int32)), .val (.int (((p2.toUInt32 >>> ((2 : Int32) &&& 31).toUInt32).toInt32) &&& (15 : Int32))), .val (.int bb0), .val (.int bb1), .val (.int bb2), .val (.int bb3), .val (.int (3 : Int32)), .val (.ref b1_101), .val (.ref b2_3_102), .val (.int (1 : Int32))] [(.int (1 : Int32))])) _
                      refine XS.istore X102.here hx rfl (hb hby at_259) rfl (l' := #[.val (.int p1), .val (.int p2), .val (.int (4 : Int32)), .val (.int (((p2.toUInt32 >>> ((2 : Int32) &&& 31).toUInt32).toInt32) &&& (15 : Int32))), .val (.int bb0), .val (.int bb1), .val (.int bb2), .val (.int bb3), .val (.int (3 : Int32)), .val (.ref b1_101), .val (.ref b2_3_102), .val (.int (1 : Int32))]) rfl ?_
                      refine XS.iloadN X102.here hx rfl (hb hby at_261) rfl ?_
                      refine XS.iconst X102.here hx rfl (hb hby at_262) ?_
                      show Steps p.tables e below (T102.setTop (mkF m 263 #[.val (.int p1), .val (.int p2), .val (.int (4 : Int32)), .val (.int (((p2.toUInt32 >>> ((2 : Int32) &&& 31).toUInt32).toInt32) &&& (15 : Int32))), .val (.int bb0), .val (.int bb1), .val (.int bb2), .val (.int bb3), .val (.int (3 : Int32)), .val (.ref b1_101), .val (.ref b2_3_102), .val (.int (1 : Int32))] [(.int (2 : Int32)), (.int (4 : Int32))])) _
                      refine XS.icmpNo X102.here hx rfl (hb hby at_263) rfl (flt (by decide : ¬ ((4 : Int32) < (2 : Int32)))).1 ?_
                      refine XS.iload X102.here hx rfl (hb hby at_266) rfl ?_
                      refine XS.ifNo X102.here hx rfl (hb hby at_268) rfl ((if0 _ _).trans (feq (by decide : ¬ ((1 : Int32) = (0 : Int32)))).1) ?_
                      show Steps p.tables e below (T102.setTop (mkF m 271 #[.val (.int p1), .val (.int p2), .val (.int (4 : Int32)), .val (.int (((p2.toUInt32 >>> ((2 : Int32) &&& 31).toUInt32).toInt32) &&& (15 : Int32))), .val (.int bb0), .val (.int bb1), .val (.int bb2), .val (.int bb3), .val (.int (3 : Int32)), .val (.ref b1_101), .val (.ref b2_3_102), .val (.int (1 : Int32))] [])) _
                      refine XS.aload X102.here hx rfl (hb hby at_271) rfl rfl ?_
                      refine XS.iconst X102.here hx rfl (hb hby at_273) ?_
                      refine X102.baloadBytes hx (j := (1 : Int32)) (v := (.int (nar .byte bb1))) (by exact Ar_b1_101_274_109.1) (State.isArrayOf_alike hZ.alike Ar_b1_101_274_109.2.1) Ar_b1_101_274_109.2.2 hin_b1_101_274_109 (H_b1_101_274_109.at hin_b1_101_274_109 rfl) (g := (mkF m 274 #[.val (.int p1), .val (.int p2), .val (.int (4 : Int32)), .val (.int (((p2.toUInt32 >>> ((2 : Int32) &&& 31).toUInt32).toInt32) &&& (15 : Int32))), .val (.int bb0), .val (.int bb1), .val (.int bb2), .val (.int bb3), .val (.int (3 : Int32)), .val (.ref b1_101), .val (.ref b2_3_102), .val (.int (1 : Int32))] [(.int (1 : Int32)), (.ref b1_101)])) rfl rfl (hb hby at_274) _ ?_
                      show Steps p.tables e below (T102.setTop (mkF m 275 #[.val (.int p1), .val (.int p2), .val (.int (4 : Int32)), .val (.int (((p2.toUInt32 >>> ((2 : Int32) &&& 31).toUInt32).toInt32) &&& (15 : Int32))), .val (.int bb0), .val (.int bb1), .val (.int bb2), .val (.int bb3), .val (.int (3 : Int32)), .val (.ref b1_101), .val (.ref b2_3_102), .val (.int (1 : Int32))] [(.int (nar .byte bb1))])) _
                      refine XS.iload X102.here hx rfl (hb hby at_275) rfl ?_
                      refine XS.icmpNo X102.here hx rfl (hb hby at_277) rfl (teq (by simp only [e_bb0, e_bb1, e_bb2, e_bb3, own_narb] : (nar .byte bb1) = bb1)).2 ?_
                      refine XS.iconst X102.here hx rfl (hb hby at_280) ?_
                      show Steps p.tables e below (T102.setTop (mkF m 281 #[.val (.int p1), .val (.int p2), .val (.int (4 : Int32)), .val (.int (((p2.toUInt32 >>> ((2 : Int32) &&& 31).toUInt32).toInt32) &&& (15 : Int32))), .val (.int bb0), .val (.int bb1), .val (.int bb2), .val (.int bb3), .val (.int (3 : Int32)), .val (.ref b1_101), .val (.ref b2_3_102), .val (.int (1 : Int32))] [(.int (1 : Int32))])) _
                      refine XS.goto X102.here hx rfl (pc0 := 281) (pc' := 285) rfl (hb hby at_281) (by decide) (by decide) ?_
                      refine XS.istore X102.here hx rfl (hb hby at_285) rfl (l' := #[.val (.int p1), .val (.int p2), .val (.int (4 : Int32)), .val (.int (((p2.toUInt32 >>> ((2 : Int32) &&& 31).toUInt32).toInt32) &&& (15 : Int32))), .val (.int bb0), .val (.int bb1), .val (.int bb2), .val (.int bb3), .val (.int (3 : Int32)), .val (.ref b1_101), .val (.ref b2_3_102), .val (.int (1 : Int32))]) rfl ?_
                      refine XS.iloadN X102.here hx rfl (hb hby at_287) rfl ?_
                      show Steps p.tables e below (T102.setTop (mkF m 288 #[.val (.int p1), .val (.int p2), .val (.int (4 : Int32)), .val (.int (((p2.toUInt32 >>> ((2 : Int32) &&& 31).toUInt32).toInt32) &&& (15 : Int32))), .val (.int bb0), .val (.int bb1), .val (.int bb2), .val (.int bb3), .val (.int (3 : Int32)), .val (.ref b1_101), .val (.ref b2_3_102), .val (.int (1 : Int32))] [(.int (4 : Int32))])) _
                      refine XS.iconst X102.here hx rfl (hb hby at_288) ?_
                      refine XS.icmpNo X102.here hx rfl (hb hby at_289) rfl (flt (by decide : ¬ ((4 : Int32) < (3 : Int32)))).1 ?_
                      refine XS.iload X102.here hx rfl (hb hby at_292) rfl ?_
                      show Steps p.tables e below (T102.setTop (mkF m 294 #[.val (.int p1), .val (.int p2), .val (.int (4 : Int32)), .val (.int (((p2.toUInt32 >>> ((2 : Int32) &&& 31).toUInt32).toInt32) &&& (15 : Int32))), .val (.int bb0), .val (.int bb1), .val (.int bb2), .val (.int bb3), .val (.int (3 : Int32)), .val (.ref b1_101), .val (.ref b2_3_102), .val (.int (1 : Int32))] [(.int (1 : Int32))])) _
                      refine XS.ifNo X102.here hx rfl (hb hby at_294) rfl ((if0 _ _).trans (feq (by decide : ¬ ((1 : Int32) = (0 : Int32)))).1) ?_
                      refine XS.aload X102.here hx rfl (hb hby at_297) rfl rfl ?_
                      refine XS.iconst X102.here hx rfl (hb hby at_299) ?_
                      show Steps p.tables e below (T102.setTop (mkF m 300 #[.val (.int p1), .val (.int p2), .val (.int (4 : Int32)), .val (.int (((p2.toUInt32 >>> ((2 : Int32) &&& 31).toUInt32).toInt32) &&& (15 : Int32))), .val (.int bb0), .val (.int bb1), .val (.int bb2), .val (.int bb3), .val (.int (3 : Int32)), .val (.ref b1_101), .val (.ref b2_3_102), .val (.int (1 : Int32))] [(.int (2 : Int32)), (.ref b1_101)])) _
                      refine X102.baloadBytes hx (j := (2 : Int32)) (v := (.int (nar .byte bb2))) (by exact Ar_b1_101_300_110.1) (State.isArrayOf_alike hZ.alike Ar_b1_101_300_110.2.1) Ar_b1_101_300_110.2.2 hin_b1_101_300_110 (H_b1_101_300_110.at hin_b1_101_300_110 rfl) (g := (mkF m 300 #[.val (.int p1), .val (.int p2), .val (.int (4 : Int32)), .val (.int (((p2.toUInt32 >>> ((2 : Int32) &&& 31).toUInt32).toInt32) &&& (15 : Int32))), .val (.int bb0), .val (.int bb1), .val (.int bb2), .val (.int bb3), .val (.int (3 : Int32)), .val (.ref b1_101), .val (.ref b2_3_102), .val (.int (1 : Int32))] [(.int (2 : Int32)), (.ref b1_101)])) rfl rfl (hb hby at_300) _ ?_
                      show Steps p.tables e below (T102.setTop (mkF m 301 #[.val (.int p1), .val (.int p2), .val (.int (4 : Int32)), .val (.int (((p2.toUInt32 >>> ((2 : Int32) &&& 31).toUInt32).toInt32) &&& (15 : Int32))), .val (.int bb0), .val (.int bb1), .val (.int bb2), .val (.int bb3), .val (.int (3 : Int32)), .val (.ref b1_101), .val (.ref b2_3_102), .val (.int (1 : Int32))] [(.int (nar .byte bb2))])) _
                      refine XS.iload X102.here hx rfl (hb hby at_301) rfl ?_
                      refine XS.icmpNo X102.here hx rfl (hb hby at_303) rfl (teq (by simp only [e_bb0, e_bb1, e_bb2, e_bb3, own_narb] : (nar .byte bb2) = bb2)).2 ?_
                      show Steps p.tables e below (T102.setTop (mkF m 306 #[.val (.int p1), .val (.int p2), .val (.int (4 : Int32)), .val (.int (((p2.toUInt32 >>> ((2 : Int32) &&& 31).toUInt32).toInt32) &&& (15 : Int32))), .val (.int bb0), .val (.int bb1), .val (.int bb2), .val (.int bb3), .val (.int (3 : Int32)), .val (.ref b1_101), .val (.ref b2_3_102), .val (.int (1 : Int32))] [])) _
                      refine XS.iconst X102.here hx rfl (hb hby at_306) ?_
                      refine XS.goto X102.here hx rfl (pc0 := 307) (pc' := 311) rfl (hb hby at_307) (by decide) (by decide) ?_
                      refine XS.istore X102.here hx rfl (hb hby at_311) rfl (l' := #[.val (.int p1), .val (.int p2), .val (.int (4 : Int32)), .val (.int (((p2.toUInt32 >>> ((2 : Int32) &&& 31).toUInt32).toInt32) &&& (15 : Int32))), .val (.int bb0), .val (.int bb1), .val (.int bb2), .val (.int bb3), .val (.int (3 : Int32)), .val (.ref b1_101), .val (.ref b2_3_102), .val (.int (1 : Int32))]) rfl ?_
                      show Steps p.tables e below (T102.setTop (mkF m 313 #[.val (.int p1), .val (.int p2), .val (.int (4 : Int32)), .val (.int (((p2.toUInt32 >>> ((2 : Int32) &&& 31).toUInt32).toInt32) &&& (15 : Int32))), .val (.int bb0), .val (.int bb1), .val (.int bb2), .val (.int bb3), .val (.int (3 : Int32)), .val (.ref b1_101), .val (.ref b2_3_102), .val (.int (1 : Int32))] [])) _
                      refine XS.iloadN X102.here hx rfl (hb hby at_313) rfl ?_
                      refine XS.iconst X102.here hx rfl (hb hby at_314) ?_
                      refine XS.icmpNo X102.here hx rfl (hb hby at_315) rfl (flt (by decide : ¬ ((4 : Int32) < (4 : Int32)))).1 ?_
                      show Steps p.tables e below (T102.setTop (mkF m 318 #[.val (.int p1), .val (.int p2), .val (.int (4 : Int32)), .val (.int (((p2.toUInt32 >>> ((2 : Int32) &&& 31).toUInt32).toInt32) &&& (15 : Int32))), .val (.int bb0), .val (.int bb1), .val (.int bb2), .val (.int bb3), .val (.int (3 : Int32)), .val (.ref b1_101), .val (.ref b2_3_102), .val (.int (1 : Int32))] [])) _
                      refine XS.iload X102.here hx rfl (hb hby at_318) rfl ?_
                      refine XS.ifNo X102.here hx rfl (hb hby at_320) rfl ((if0 _ _).trans (feq (by decide : ¬ ((1 : Int32) = (0 : Int32)))).1) ?_
                      refine XS.aload X102.here hx rfl (hb hby at_323) rfl rfl ?_
                      show Steps p.tables e below (T102.setTop (mkF m 325 #[.val (.int p1), .val (.int p2), .val (.int (4 : Int32)), .val (.int (((p2.toUInt32 >>> ((2 : Int32) &&& 31).toUInt32).toInt32) &&& (15 : Int32))), .val (.int bb0), .val (.int bb1), .val (.int bb2), .val (.int bb3), .val (.int (3 : Int32)), .val (.ref b1_101), .val (.ref b2_3_102), .val (.int (1 : Int32))] [(.ref b1_101)])) _
                      refine XS.iconst X102.here hx rfl (hb hby at_325) ?_
                      refine X102.baloadBytes hx (j := (3 : Int32)) (v := (.int (nar .byte bb3))) (by exact Ar_b1_101_326_111.1) (State.isArrayOf_alike hZ.alike Ar_b1_101_326_111.2.1) Ar_b1_101_326_111.2.2 hin_b1_101_326_111 (H_b1_101_326_111.at hin_b1_101_326_111 rfl) (g := (mkF m 326 #[.val (.int p1), .val (.int p2), .val (.int (4 : Int32)), .val (.int (((p2.toUInt32 >>> ((2 : Int32) &&& 31).toUInt32).toInt32) &&& (15 : Int32))), .val (.int bb0), .val (.int bb1), .val (.int bb2), .val (.int bb3), .val (.int (3 : Int32)), .val (.ref b1_101), .val (.ref b2_3_102), .val (.int (1 : Int32))] [(.int (3 : Int32)), (.ref b1_101)])) rfl rfl (hb hby at_326) _ ?_
                      show Steps p.tables e below (T102.setTop (mkF m 327 #[.val (.int p1), .val (.int p2), .val (.int (4 : Int32)), .val (.int (((p2.toUInt32 >>> ((2 : Int32) &&& 31).toUInt32).toInt32) &&& (15 : Int32))), .val (.int bb0), .val (.int bb1), .val (.int bb2), .val (.int bb3), .val (.int (3 : Int32)), .val (.ref b1_101), .val (.ref b2_3_102), .val (.int (1 : Int32))] [(.int (nar .byte bb3))])) _
                      refine XS.iload X102.here hx rfl (hb hby at_327) rfl ?_
                      show Steps p.tables e below (T102.setTop (mkF m 329 #[.val (.int p1), .val (.int p2), .val (.int (4 : Int32)), .val (.int (((p2.toUInt32 >>> ((2 : Int32) &&& 31).toUInt32).toInt32) &&& (15 : Int32))), .val (.int bb0), .val (.int bb1), .val (.int bb2), .val (.int bb3), .val (.int (3 : Int32)), .val (.ref b1_101), .val (.ref b2_3_102), .val (.int (1 : Int32))] [(.int bb3), (.int (nar .byte bb3))])) _
                      refine XS.icmpNo X102.here hx rfl (hb hby at_329) rfl (teq (by simp only [e_bb0, e_bb1, e_bb2, e_bb3, own_narb] : (nar .byte bb3) = bb3)).2 ?_
                      refine XS.iconst X102.here hx rfl (hb hby at_332) ?_
                      refine XS.goto X102.here hx rfl (pc0 := 333) (pc' := 337) rfl (hb hby at_333) (by decide) (by decide) ?_
                      show Steps p.tables e below (T102.setTop (mkF m 337 #[.val (.int p1), .val (.int p2), .val (.int (4 : Int32)), .val (.int (((p2.toUInt32 >>> ((2 : Int32) &&& 31).toUInt32).toInt32) &&& (15 : Int32))), .val (.int bb0), .val (.int bb1), .val (.int bb2), .val (.int bb3), .val (.int (3 : Int32)), .val (.ref b1_101), .val (.ref b2_3_102), .val (.int (1 : Int32))] [(.int (1 : Int32))])) _
                      refine XS.istore X102.here hx rfl (hb hby at_337) rfl (l' := #[.val (.int p1), .val (.int p2), .val (.int (4 : Int32)), .val (.int (((p2.toUInt32 >>> ((2 : Int32) &&& 31).toUInt32).toInt32) &&& (15 : Int32))), .val (.int bb0), .val (.int bb1), .val (.int bb2), .val (.int bb3), .val (.int (3 : Int32)), .val (.ref b1_101), .val (.ref b2_3_102), .val (.int (1 : Int32))]) rfl ?_
                      refine XS.iload X102.here hx rfl (hb hby at_339) rfl ?_
                      show Steps p.tables e below (T102.setTop (mkF m 341 #[.val (.int p1), .val (.int p2), .val (.int (4 : Int32)), .val (.int (((p2.toUInt32 >>> ((2 : Int32) &&& 31).toUInt32).toInt32) &&& (15 : Int32))), .val (.int bb0), .val (.int bb1), .val (.int bb2), .val (.int bb3), .val (.int (3 : Int32)), .val (.ref b1_101), .val (.ref b2_3_102), .val (.int (1 : Int32))] [(.int (1 : Int32))])) _
                      exact retN X102 hx (t := .boolean) Bd.returns (by simp) (hb hby at_341) hr
                    · show Q0 Z p1 p2 h0 n0 _ T102.heap _
                      exact ⟨rfl, N102⟩
                  · exfalso
                    rcases (own_k4 bb0 bb1 bb2 bb3) with h | h | h | h | h
                    · exact hv69 h
                    · exact hv70 h
                    · exact hv79 h
                    · exact hv89 h
                    · exact hv100 h
        · exfalso
          rcases own_n p2 with h | h | h | h
          · exact hv6 h
          · exact hv16 h
          · exact hv35 h
          · exact hv66 h
set_option maxRecDepth 65536 in
set_option maxHeartbeats 40000000 in
theorem comes_1 {Post : Tables → Env → Array Value → State → Outcome → State → Prop} (hpost : ∀ tb e args s v u, (limb_1_1.after args s (.returned v) u = true ∧ limb_1_2.after args s (.returned v) u = true ∧ True) → FrameEnd s (.returned v) u (Jvm.fieldLocs frame_1_writes args s ++ Jvm.arrayLocs frame_1_arrays args s ++ Jvm.staticLocs frame_1_statics s) 16 128 → Post tb e args s (.returned v) u) :
    ArmFor flags0 classFile x code maxLocals ret World_1 tables_1 room_1 Calls_1 rest_1 Pre_1 Post := by
  intro l hfl _ _ p e ha hc hk s m args below hf hA hF happ hP
  obtain ⟨hcalls, hrest, hpre⟩ := hP
  obtain ⟨-, -, -, hnamed, -, -, -, hat⟩ := (Spec.applies_iff hf).mp happ
  obtain ⟨hg, hn⟩ := and_e (Cond.before_iff.mp (show (Jvm.Cond.and given_1 narrow_1).before args s = true from hpre))
  obtain ⟨ga0, gb0⟩ := and_e hg
  obtain ⟨ga1, gb1⟩ := and_e gb0
  obtain ⟨w0, w1, rfl⟩ : ∃ w0 w1 : Value, args = #[w0, w1] := by
    have hs : args.size = 2 := by simpa [Cond.value, given_1] using ga0
    obtain ⟨L⟩ := args
    match L, hs with
    | [w0, w1], _ => exact ⟨w0, w1, rfl⟩
  have hw := fun d (hd : d ∈ tables_1) => atoms_spec (ws := Jvm.Cond.code x code maxLocals ret :: tables_1) hat d (List.mem_cons_of_mem _ hd)
  have hfit : Fit s := fun {y c} hc i hi => by
    obtain ⟨ha, rfl⟩ := Array.getElem?_eq_some_iff.mp hc
    have q := List.all_eq_true.mp ((Array.all_eq_true_iff_forall_mem.mp hF) _ (Array.getElem_mem ha)) i (List.mem_range.mpr hi)
    simpa [Array.getElem?_eq_getElem hi] using q
  obtain ⟨i0, ei0⟩ := is_v ga1
  obtain rfl : w0 = (.int i0) := Option.some.inj ei0
  obtain ⟨i1, ei1⟩ := is_v gb1
  obtain rfl : w1 = (.int i1) := Option.some.inj ei1
  obtain ⟨n, o, h1, h2, h3, _, L, rfl, ⟨rfl, N⟩, hq⟩ := rm0 l s _ hw tables_1 i0 i1  s.heap s.heap.size (Nat.le_refl _)  p e ha hc hk s m _ below hf ((Spec.applies_iff_loose hf).mp happ).1 ⟨rfl, State.Warmed39.refl s, rfl⟩ trivial
  have hfin : (1 : Int32) = (1 : Int32) := rfl
  refine ⟨n, _, h1, h2, h3, hpost _ _ _ _ _ _ ⟨Cond.after_iff.mpr rfl, Cond.after_iff.mpr (eq_i res_at (Term.int_eval (1)) (by rw [hfin])), trivial⟩ ⟨hq.1, hq.2.1, (hq.2.2.sift fun y hy => Or.inr (N y hy)).mono (by decide) (by decide)⟩⟩
theorem main_1_1 : Claimed_1_1 := comes_1 fun _ _ _ _ _ _ h hF => ⟨h.1, hF⟩
theorem main_1_2 : Claimed_1_2 := comes_1 fun _ _ _ _ _ _ h hF => ⟨h.2.1, hF⟩
end Jvm.Pilot.@@N@@
namespace Jvm.Pilot.@@N@@
open Jvm Jvm.ClassFile Sem Op Lib Jvm.Free Jvm.Stand Jvm.Pilot.@@N@@.Jvm.D
/-! MADE BY PROGRAM (witnessworld.py) out of the Statement's table words and the real class files: 12 classes; the members and pool entries that the words name. The judged class is class 1, her method 4. -/
namespace start1
open Jvm.ClassFile
def u (s : String) : CpInfo := .utf8 (stringToUtf16 s)
/-- a pool by its gaps: so many unusable entries, then the entry; so many at the end -/
def gap : Nat → List CpInfo → List CpInfo
  | 0, r => r
  | n + 1, r => .unusable :: gap n r
def poolList (es : List (Nat × CpInfo)) (last : Nat) : List CpInfo := es.foldr (fun e r => gap e.1 (e.2 :: r)) (gap last [])
def pool (es : List (Nat × CpInfo)) (last : Nat) : Array CpInfo := ⟨poolList es last⟩
def fileOf (pool : Array CpInfo) (this : Nat) (attrs : Array Attribute := #[]) (ms : Array MethodInfo := #[]) (fl : Nat := 33) (sup : Nat := 0) (ifs : Array Nat := #[]) (fds : Array FieldInfo := #[]) : ClassFile where
  minorVersion := 0
  majorVersion := 65
  constantPool := pool
  accessFlags := fl
  thisClass := this
  superClass := sup
  interfaces := ifs
  fields := fds
  methods := ms
  attributes := attrs
def plain (name : String) (sup : Option ClassId) : Class where
  name := name
  kind := .ordinary
  loader := none
  accessFlags := 33
  super := sup
  interfaces := #[]
  cf := none
  fields := #[]
  methods := #[]
  instanceTypes := #[]
  staticTypes := #[]
  resolved := #[]
  callSites := []
  init := .initialized
  statics := none
  mirror := none

def pool0 : Array CpInfo := pool [(5, u "<init>"), (0, u "()V"), (1, .class_ 10), (1, u "java/lang/Object"), (85, u "clone"), (0, u "()Ljava/lang/Object;")] 26

def k0m0 : Method := { name := "<init>", desc := "()V", sig := { parameters := [], returnType := none }, accessFlags := 1, code := none }
def k0m1 : Method := { name := "clone", desc := "()Ljava/lang/Object;", sig := { parameters := [], returnType := some (.object "java/lang/Object") }, accessFlags := 260, code := none }
/-- java/lang/Object -/
def k0 : Class := { plain "java/lang/Object" none with
  accessFlags := 33
  interfaces := #[]
  cf := some (fileOf pool0 8 #[] #[{ accessFlags := 1, nameIndex := 5, descriptorIndex := 6, attributes := #[] }, { accessFlags := 260, nameIndex := 96, descriptorIndex := 97, attributes := #[] }] 33 0 #[] #[])
  fields := #[]
  methods := #[k0m0, k0m1]
  instanceTypes := #[]
  staticTypes := #[]
  resolved := Array.replicate 124 none
  statics := none }

def pool1 : Array CpInfo := pool [(2, .class_ 4), (1, u "java/lang/Object"), (0, u "<init>"), (0, u "()V"), (0, .methodref 8 9), (0, .class_ 10), (0, .nameAndType 11 12), (0, u "com/example/elliott_bay/elliottbay/store/KeysEndPinLaw"), (0, u "pick"), (0, u "(III)B"), (0, .methodref 8 14), (0, .nameAndType 15 16), (0, u "lastNonFF"), (0, u "(IBBBB)I"), (0, .methodref 8 18), (0, .nameAndType 19 20), (0, u "make"), (0, u "(IBBBB)[B"), (0, .methodref 22 23), (0, .class_ 24), (0, .nameAndType 25 26), (0, u "com/example/elliott_bay/elliottbay/store/Keys"), (0, u "end"), (0, u "([B)[B"), (3, u "law"), (0, u "(II)Z")] 4

def k1m0 : Method := { name := "<init>", desc := "()V", sig := { parameters := [], returnType := none }, accessFlags := 1, code := none }
def k1c1 : Code := { maxStack := 3, maxLocals := 3, code := method_2_code, exceptionTable := #[], attributes := #[] }
def k1m1 : Method := { name := "pick", desc := "(III)B", sig := { parameters := [.int, .int, .int], returnType := some .byte }, accessFlags := 10, code := some k1c1 }
def k1c2 : Code := { maxStack := 4, maxLocals := 5, code := method_3_code, exceptionTable := #[], attributes := #[] }
def k1m2 : Method := { name := "make", desc := "(IBBBB)[B", sig := { parameters := [.int, .byte, .byte, .byte, .byte], returnType := some (.array .byte) }, accessFlags := 10, code := some k1c2 }
def k1c3 : Code := { maxStack := 2, maxLocals := 5, code := method_4_code, exceptionTable := #[], attributes := #[] }
def k1m3 : Method := { name := "lastNonFF", desc := "(IBBBB)I", sig := { parameters := [.int, .byte, .byte, .byte, .byte], returnType := some .int }, accessFlags := 10, code := some k1c3 }
def k1c4 : Code := { maxStack := 5, maxLocals := 12, code := code, exceptionTable := #[], attributes := #[] }
def k1m4 : Method := { name := "law", desc := "(II)Z", sig := { parameters := [.int, .int], returnType := some .boolean }, accessFlags := 9, code := some k1c4 }
/-- com/example/elliott_bay/elliottbay/store/KeysEndPinLaw -/
def k1 : Class := { plain "com/example/elliott_bay/elliottbay/store/KeysEndPinLaw" (some 0) with
  accessFlags := 49
  interfaces := #[]
  cf := some (fileOf pool1 8 #[] #[{ accessFlags := 1, nameIndex := 5, descriptorIndex := 6, attributes := #[] }, { accessFlags := 10, nameIndex := 11, descriptorIndex := 12, attributes := #[] }, { accessFlags := 10, nameIndex := 19, descriptorIndex := 20, attributes := #[] }, { accessFlags := 10, nameIndex := 15, descriptorIndex := 16, attributes := #[] }, { accessFlags := 9, nameIndex := 30, descriptorIndex := 31, attributes := #[] }] 49 2 #[] #[])
  fields := #[]
  methods := #[k1m0, k1m1, k1m2, k1m3, k1m4]
  instanceTypes := #[]
  staticTypes := #[]
  resolved := Array.replicate 36 none
  statics := none }

def pool2 : Array CpInfo := pool [(4, .class_ 6), (1, u "java/lang/Object"), (0, u "<init>"), (0, u "()V"), (18, .class_ 28), (0, u "com/example/elliott_bay/elliottbay/store/Keys"), (95, .methodref 125 126), (0, .class_ 127), (0, .nameAndType 128 129), (0, u "java/util/Arrays"), (0, u "copyOf"), (0, u "([BI)[B"), (10, u "end"), (0, u "([B)[B"), (5, u "NEXT_NUMBER"), (0, u "[B"), (2, u "OPEN"), (0, u "ITEMS"), (0, u "I"), (2, u "CATALOG"), (0, u "B"), (1, u "TABLES"), (1, u "TALLIES"), (1, u "COUNT"), (0, u "BYTES"), (0, u "TABLE_PREFIX")] 39

def k2m0 : Method := { name := "<init>", desc := "()V", sig := { parameters := [], returnType := none }, accessFlags := 2, code := none }
def k2c1 : Code := { maxStack := 4, maxLocals := 3, code := prog_107_method_15_code, exceptionTable := #[], attributes := #[] }
def k2m1 : Method := { name := "end", desc := "([B)[B", sig := { parameters := [(.array .byte)], returnType := some (.array .byte) }, accessFlags := 8, code := some k2c1 }
/-- com/example/elliott_bay/elliottbay/store/Keys -/
def k2 : Class := { plain "com/example/elliott_bay/elliottbay/store/Keys" (some 0) with
  accessFlags := 32
  interfaces := #[]
  cf := some (fileOf pool2 27 #[] #[{ accessFlags := 2, nameIndex := 7, descriptorIndex := 8, attributes := #[] }, { accessFlags := 8, nameIndex := 140, descriptorIndex := 141, attributes := #[] }] 32 4 #[] #[{ accessFlags := 24, nameIndex := 147, descriptorIndex := 148, attributes := #[] }, { accessFlags := 24, nameIndex := 151, descriptorIndex := 148, attributes := #[] }, { accessFlags := 24, nameIndex := 152, descriptorIndex := 153, attributes := #[] }, { accessFlags := 26, nameIndex := 156, descriptorIndex := 157, attributes := #[] }, { accessFlags := 26, nameIndex := 159, descriptorIndex := 157, attributes := #[] }, { accessFlags := 26, nameIndex := 161, descriptorIndex := 153, attributes := #[] }, { accessFlags := 26, nameIndex := 163, descriptorIndex := 157, attributes := #[] }, { accessFlags := 26, nameIndex := 164, descriptorIndex := 157, attributes := #[] }, { accessFlags := 26, nameIndex := 165, descriptorIndex := 153, attributes := #[] }])
  fields := #[{ name := "NEXT_NUMBER", type := (.array .byte), accessFlags := 24, slot := 0, constantValue := 0 }, { name := "OPEN", type := (.array .byte), accessFlags := 24, slot := 1, constantValue := 0 }, { name := "ITEMS", type := .int, accessFlags := 24, slot := 2, constantValue := 0 }, { name := "CATALOG", type := .byte, accessFlags := 26, slot := 3, constantValue := 0 }, { name := "TABLES", type := .byte, accessFlags := 26, slot := 4, constantValue := 0 }, { name := "TALLIES", type := .int, accessFlags := 26, slot := 5, constantValue := 0 }, { name := "COUNT", type := .byte, accessFlags := 26, slot := 6, constantValue := 0 }, { name := "BYTES", type := .byte, accessFlags := 26, slot := 7, constantValue := 0 }, { name := "TABLE_PREFIX", type := .int, accessFlags := 26, slot := 8, constantValue := 0 }]
  methods := #[k2m0, k2m1]
  instanceTypes := #[]
  staticTypes := #[(.array .byte), (.array .byte), .int, .byte, .byte, .int, .byte, .byte, .int]
  resolved := Array.replicate 205 none
  statics := none }

def pool3 : Array CpInfo := pool [(2, .class_ 4), (1, u "java/lang/Object"), (0, u "<init>"), (0, u "()V"), (7, .class_ 16), (1, u "java/util/Arrays"), (57, .class_ 76), (1, u "java/util/Arrays$NaturalOrder"), (32, u "()Ljava/lang/Object;"), (3, .class_ 115), (1, u "java/util/Arrays$LegacyMergeSort"), (1, u "Z"), (10, .nameAndType 129 109), (0, u "clone"), (20, .methodref 151 152), (0, .class_ 153), (0, .nameAndType 154 155), (0, u "java/lang/System"), (0, u "arraycopy"), (0, u "(Ljava/lang/Object;ILjava/lang/Object;II)V"), (146, u "copyOf"), (1, .methodref 305 306), (0, .class_ 307), (0, .nameAndType 308 309), (0, u "java/lang/Math"), (0, u "min"), (0, u "(II)I"), (0, .methodref 311 128), (0, .class_ 312), (0, u "[B"), (62, .class_ 376), (0, u "java/util/Arrays$ArrayList"), (68, u "$assertionsDisabled"), (269, u "MIN_ARRAY_SORT_GRAN"), (0, u "I"), (2, u "INSERTIONSORT_THRESHOLD"), (149, u "([BI)[B"), (105, .class_ 976), (0, u "java/util/Arrays$ArrayItr")] 52

def k3m0 : Method := { name := "<init>", desc := "()V", sig := { parameters := [], returnType := none }, accessFlags := 2, code := none }
def k3c1 : Code := { maxStack := 6, maxLocals := 3, code := jdk_65_method_121_code, exceptionTable := #[], attributes := #[] }
def k3m1 : Method := { name := "copyOf", desc := "([BI)[B", sig := { parameters := [(.array .byte), .int], returnType := some (.array .byte) }, accessFlags := 9, code := some k3c1 }
/-- java/util/Arrays -/
def k3 : Class := { plain "java/util/Arrays" (some 0) with
  accessFlags := 49
  interfaces := #[]
  cf := some (fileOf pool3 14 #[.nestMembers #[975, 375, 113, 74]] #[{ accessFlags := 2, nameIndex := 5, descriptorIndex := 6, attributes := #[] }, { accessFlags := 9, nameIndex := 302, descriptorIndex := 869, attributes := #[] }] 49 2 #[] #[{ accessFlags := 26, nameIndex := 715, descriptorIndex := 716, attributes := #[] }, { accessFlags := 26, nameIndex := 719, descriptorIndex := 716, attributes := #[] }, { accessFlags := 4120, nameIndex := 445, descriptorIndex := 117, attributes := #[] }])
  fields := #[{ name := "MIN_ARRAY_SORT_GRAN", type := .int, accessFlags := 26, slot := 0, constantValue := 0 }, { name := "INSERTIONSORT_THRESHOLD", type := .int, accessFlags := 26, slot := 1, constantValue := 0 }, { name := "$assertionsDisabled", type := .boolean, accessFlags := 4120, slot := 2, constantValue := 0 }]
  methods := #[k3m0, k3m1]
  instanceTypes := #[]
  staticTypes := #[.int, .int, .boolean]
  resolved := Array.replicate 1029 none
  statics := none }

def pool4 : Array CpInfo := pool [(1, .class_ 2), (0, u "java/lang/Cloneable"), (0, .class_ 4), (0, u "java/lang/Object")] 2

/-- java/lang/Cloneable -/
def k4 : Class := { plain "java/lang/Cloneable" (some 0) with
  accessFlags := 1537
  interfaces := #[]
  cf := some (fileOf pool4 1 #[] #[] 1537 3 #[] #[])
  fields := #[]
  methods := #[]
  instanceTypes := #[]
  staticTypes := #[]
  resolved := Array.replicate 7 none
  statics := none }

def pool5 : Array CpInfo := pool [(1, .class_ 2), (0, u "java/lang/Math"), (1, .class_ 6), (1, u "java/lang/Object"), (0, u "<init>"), (0, u "()V"), (89, .class_ 100), (1, u "java/lang/Math$RandomNumberGeneratorHolder"), (71, u "negativeZeroFloatBits"), (0, u "J"), (2, u "negativeZeroDoubleBits"), (24, u "min"), (43, u "$assertionsDisabled"), (0, u "Z"), (88, u "(II)I"), (2, u "twoToTheDoubleScaleDown"), (0, u "D"), (4, u "twoToTheDoubleScaleUp"), (9, u "E"), (3, u "PI"), (2, u "TAU"), (2, u "DEGREES_TO_RADIANS"), (0, u "RADIANS_TO_DEGREES")] 94

def k5m0 : Method := { name := "<init>", desc := "()V", sig := { parameters := [], returnType := none }, accessFlags := 2, code := none }
def k5c1 : Code := { maxStack := 2, maxLocals := 2, code := jdk_29_method_69_code, exceptionTable := #[], attributes := #[] }
def k5m1 : Method := { name := "min", desc := "(II)I", sig := { parameters := [.int, .int], returnType := some .int }, accessFlags := 9, code := some k5c1 }
/-- java/lang/Math -/
def k5 : Class := { plain "java/lang/Math" (some 0) with
  accessFlags := 49
  interfaces := #[]
  cf := some (fileOf pool5 1 #[.nestMembers #[98]] #[{ accessFlags := 2, nameIndex := 7, descriptorIndex := 8, attributes := #[] }, { accessFlags := 9, nameIndex := 201, descriptorIndex := 335, attributes := #[] }] 49 4 #[] #[{ accessFlags := 25, nameIndex := 354, descriptorIndex := 339, attributes := #[] }, { accessFlags := 25, nameIndex := 358, descriptorIndex := 339, attributes := #[] }, { accessFlags := 25, nameIndex := 361, descriptorIndex := 339, attributes := #[] }, { accessFlags := 26, nameIndex := 364, descriptorIndex := 339, attributes := #[] }, { accessFlags := 26, nameIndex := 365, descriptorIndex := 339, attributes := #[] }, { accessFlags := 26, nameIndex := 172, descriptorIndex := 173, attributes := #[] }, { accessFlags := 26, nameIndex := 176, descriptorIndex := 173, attributes := #[] }, { accessFlags := 8, nameIndex := 344, descriptorIndex := 339, attributes := #[] }, { accessFlags := 8, nameIndex := 338, descriptorIndex := 339, attributes := #[] }, { accessFlags := 4120, nameIndex := 245, descriptorIndex := 246, attributes := #[] }])
  fields := #[{ name := "E", type := .double, accessFlags := 25, slot := 0, constantValue := 0 }, { name := "PI", type := .double, accessFlags := 25, slot := 1, constantValue := 0 }, { name := "TAU", type := .double, accessFlags := 25, slot := 2, constantValue := 0 }, { name := "DEGREES_TO_RADIANS", type := .double, accessFlags := 26, slot := 3, constantValue := 0 }, { name := "RADIANS_TO_DEGREES", type := .double, accessFlags := 26, slot := 4, constantValue := 0 }, { name := "negativeZeroFloatBits", type := .long, accessFlags := 26, slot := 5, constantValue := 0 }, { name := "negativeZeroDoubleBits", type := .long, accessFlags := 26, slot := 6, constantValue := 0 }, { name := "twoToTheDoubleScaleUp", type := .double, accessFlags := 8, slot := 7, constantValue := 0 }, { name := "twoToTheDoubleScaleDown", type := .double, accessFlags := 8, slot := 8, constantValue := 0 }, { name := "$assertionsDisabled", type := .boolean, accessFlags := 4120, slot := 9, constantValue := 0 }]
  methods := #[k5m0, k5m1]
  instanceTypes := #[]
  staticTypes := #[.double, .double, .double, .double, .double, .long, .long, .double, .double, .boolean]
  resolved := Array.replicate 460 none
  statics := none }

def pool6 : Array CpInfo := pool [(2, .class_ 4), (1, u "java/lang/Object"), (0, u "<init>"), (0, u "()V"), (1, .class_ 10), (1, u "java/lang/System"), (0, u "allowSecurityManager"), (0, u "I"), (16, u "cons"), (0, u "Ljava/io/Console;"), (77, .class_ 110), (1, u "java/lang/System$CallersHolder"), (43, u "initialErrStream"), (0, u "Ljava/io/PrintStream;"), (19, u "security"), (0, u "Ljava/lang/SecurityManager;"), (31, .class_ 209), (0, u "java/lang/System$1"), (7, u "props"), (0, u "Ljava/util/Properties;"), (2, u "lineSeparator"), (0, u "Ljava/lang/String;"), (96, .class_ 321), (1, u "java/lang/System$LoggerFinder"), (5, .class_ 328), (0, u "java/lang/System$Logger"), (67, u "err"), (2, u "out"), (91, u "notSupportedJnuEncoding"), (15, u "in"), (17, u "initialIn"), (0, u "Ljava/io/InputStream;"), (35, u "bootLayer"), (0, u "Ljava/lang/ModuleLayer;"), (99, .class_ 664), (0, u "java/lang/System$2"), (9, u "NEVER"), (2, u "MAYBE"), (49, u "arraycopy"), (0, u "(Ljava/lang/Object;ILjava/lang/Object;II)V"), (72, .class_ 802), (0, u "java/lang/System$Logger$Level")] 31

def k6m0 : Method := { name := "<init>", desc := "()V", sig := { parameters := [], returnType := none }, accessFlags := 2, code := none }
def k6m1 : Method := { name := "arraycopy", desc := "(Ljava/lang/Object;ILjava/lang/Object;II)V", sig := { parameters := [(.object "java/lang/Object"), .int, (.object "java/lang/Object"), .int, .int], returnType := none }, accessFlags := 265, code := none }
/-- java/lang/System -/
def k6 : Class := { plain "java/lang/System" (some 0) with
  accessFlags := 49
  interfaces := #[]
  cf := some (fileOf pool6 8 #[.nestMembers #[319, 327, 801, 108, 663, 208]] #[{ accessFlags := 2, nameIndex := 5, descriptorIndex := 6, attributes := #[] }, { accessFlags := 265, nameIndex := 727, descriptorIndex := 728, attributes := #[] }] 49 2 #[] #[{ accessFlags := 25, nameIndex := 507, descriptorIndex := 526, attributes := #[] }, { accessFlags := 25, nameIndex := 399, descriptorIndex := 155, attributes := #[] }, { accessFlags := 25, nameIndex := 396, descriptorIndex := 155, attributes := #[] }, { accessFlags := 10, nameIndex := 525, descriptorIndex := 526, attributes := #[] }, { accessFlags := 26, nameIndex := 674, descriptorIndex := 12, attributes := #[] }, { accessFlags := 26, nameIndex := 677, descriptorIndex := 12, attributes := #[] }, { accessFlags := 10, nameIndex := 11, descriptorIndex := 12, attributes := #[] }, { accessFlags := 74, nameIndex := 175, descriptorIndex := 176, attributes := #[] }, { accessFlags := 10, nameIndex := 491, descriptorIndex := 222, attributes := #[] }, { accessFlags := 74, nameIndex := 29, descriptorIndex := 30, attributes := #[] }, { accessFlags := 74, nameIndex := 154, descriptorIndex := 155, attributes := #[] }, { accessFlags := 10, nameIndex := 217, descriptorIndex := 218, attributes := #[] }, { accessFlags := 10, nameIndex := 221, descriptorIndex := 222, attributes := #[] }, { accessFlags := 8, nameIndex := 562, descriptorIndex := 563, attributes := #[] }])
  fields := #[{ name := "in", type := (.object "java/io/InputStream"), accessFlags := 25, slot := 0, constantValue := 0 }, { name := "out", type := (.object "java/io/PrintStream"), accessFlags := 25, slot := 1, constantValue := 0 }, { name := "err", type := (.object "java/io/PrintStream"), accessFlags := 25, slot := 2, constantValue := 0 }, { name := "initialIn", type := (.object "java/io/InputStream"), accessFlags := 10, slot := 3, constantValue := 0 }, { name := "NEVER", type := .int, accessFlags := 26, slot := 4, constantValue := 0 }, { name := "MAYBE", type := .int, accessFlags := 26, slot := 5, constantValue := 0 }, { name := "allowSecurityManager", type := .int, accessFlags := 10, slot := 6, constantValue := 0 }, { name := "security", type := (.object "java/lang/SecurityManager"), accessFlags := 74, slot := 7, constantValue := 0 }, { name := "notSupportedJnuEncoding", type := (.object "java/lang/String"), accessFlags := 10, slot := 8, constantValue := 0 }, { name := "cons", type := (.object "java/io/Console"), accessFlags := 74, slot := 9, constantValue := 0 }, { name := "initialErrStream", type := (.object "java/io/PrintStream"), accessFlags := 74, slot := 10, constantValue := 0 }, { name := "props", type := (.object "java/util/Properties"), accessFlags := 10, slot := 11, constantValue := 0 }, { name := "lineSeparator", type := (.object "java/lang/String"), accessFlags := 10, slot := 12, constantValue := 0 }, { name := "bootLayer", type := (.object "java/lang/ModuleLayer"), accessFlags := 8, slot := 13, constantValue := 0 }]
  methods := #[k6m0, k6m1]
  instanceTypes := #[]
  staticTypes := #[(.object "java/io/InputStream"), (.object "java/io/PrintStream"), (.object "java/io/PrintStream"), (.object "java/io/InputStream"), .int, .int, .int, (.object "java/lang/SecurityManager"), (.object "java/lang/String"), (.object "java/io/Console"), (.object "java/io/PrintStream"), (.object "java/util/Properties"), (.object "java/lang/String"), (.object "java/lang/ModuleLayer")]
  resolved := Array.replicate 834 none
  statics := none }

def pool7 : Array CpInfo := pool [(1, u "java/io/Serializable"), (0, .class_ 1), (0, u "java/lang/Object"), (0, .class_ 3)] 3

/-- java/io/Serializable -/
def k7 : Class := { plain "java/io/Serializable" (some 0) with
  accessFlags := 1537
  interfaces := #[]
  cf := some (fileOf pool7 2 #[] #[] 1537 4 #[] #[])
  fields := #[]
  methods := #[]
  instanceTypes := #[]
  staticTypes := #[]
  resolved := Array.replicate 8 none
  statics := none }

/-- the primitive byte -/
def k8 : Class := { plain "byte" none with kind := .primitive 'B', accessFlags := 0x411 }
/-- [B -/
def k9 : Class := { plain "[B" (some 0) with kind := .array 8 .byte, interfaces := #[4, 7], accessFlags := 1041 }

/-- the primitive int -/
def k10 : Class := { plain "int" none with kind := .primitive 'I', accessFlags := 0x411 }
/-- [I -/
def k11 : Class := { plain "[I" (some 0) with kind := .array 10 .int, interfaces := #[4, 7], accessFlags := 1041 }

def heap : Heap := #[]
def classes : Array Class := #[k0, k1, k2, k3, k4, k5, k6, k7, k8, k9, k10, k11]
def interned : List (Array UInt16 × Addr) := []
def slotsUsed : Nat := 0
def theMethod : MethodId := ⟨1, 4⟩
def args0 : Array Value := #[.int 513, .int 2]
def aboutOver (below : List Frame) : State where
  vm := { classes := classes, interned := interned.toArray }
  heap := heap
  slotsUsed := slotsUsed
  threads := #[{ frames := .invoking theMethod args0 :: below }]
def below0 : List Frame := [.native { method := ⟨0, 0⟩, args := #[] }]
def about1 : State := aboutOver below0
def p0 : Program := .bare "" "" ""
def e0 : Env := launch0.env 0 0 0
theorem w_frames : about1.frames = Frame.invoking theMethod args0 :: below0 := rfl
set_option maxRecDepth 65536 in
theorem w_args : argsFit about1.vm theMethod args0 = true := by decide +kernel
set_option maxRecDepth 65536 in
theorem w_heap : heapFits about1 = true := by decide +kernel
set_option maxRecDepth 65536 in
theorem w_runnable : about1.curStatus? = some .runnable := by decide +kernel
set_option maxRecDepth 65536 in
theorem w_alone : about1.alone = true := by decide +kernel
set_option maxRecDepth 65536 in
theorem w_named : about1.methodNamed? x = some theMethod := by decide +kernel
set_option maxRecDepth 65536 in
theorem w_hears : about1.hears theMethod below0 = true := by decide +kernel
set_option maxRecDepth 65536 in
theorem w_ripe : about1.ripe theMethod args0 below0 = true := by decide +kernel
theorem w_running : about1.status = .running := rfl
set_option maxRecDepth 65536 in
theorem w_room : about1.hasRoom e0.platform room_1 = true :=
  launch0.hasRoom_least _ room_1 (by decide +kernel) (by decide +kernel) (by decide +kernel) (by decide +kernel) (by decide +kernel) (by decide +kernel)
theorem allAtoms_all (ts : List Jvm.Cond) (a : Array Jvm.Value) (st : Jvm.State) : (allAtoms ts).before a st = ts.all (fun c => c.before a st) := by
  induction ts with
  | nil => rfl
  | cons c t ih =>
    show (Jvm.Cond.and c (allAtoms t)).before a st = _
    rw [Jvm.Cond.before_and, ih, List.all_cons]
def words1 : List Jvm.Cond := Jvm.Cond.code x code maxLocals ret :: tables_1
/-- a 'code' word, met by the world's own term for the bytes: nothing is compared byte by byte -/
theorem code_word {y : MethodName} {bytes : ByteArray} {mx : Nat} {rt : Option FieldType} {a : Array Value} {s : State} {m : MethodId} {meth : Method} {c : Code} (h1 : s.methodNamed? y = some m) (h2 : s.vm.method? m = some meth) (h3 : meth.code = some c) (h4 : c.code = bytes)
    (h5 : (c.maxLocals == mx && c.exceptionTable.isEmpty && decide (c.maxStack ≤ mostOperands) && decide (meth.sig.returnType = rt) && !meth.locks && decide (parseMethodDescriptor y.desc = some meth.sig)) = true) : (Jvm.Cond.code y bytes mx rt).before a s = true := by
  simp only [Bool.and_eq_true, beq_iff_eq, Bool.not_eq_true', decide_eq_true_eq] at h5
  obtain ⟨⟨⟨⟨⟨g1, g2⟩, g3⟩, g4⟩, g5⟩, g6⟩ := h5
  simp [Cond.before, Cond.holds, Cond.value, h1, h2, h3, h4, g1, g2, g3, g4, g5, g6]
def isCode : Jvm.Cond → Bool
  | .code _ _ _ _ => true
  | _ => false
theorem all_split {L : List Jvm.Cond} {P : Jvm.Cond → Bool} (h1 : L.all (fun c => isCode c || P c) = true) (h2 : ∀ c ∈ L.filter isCode, P c = true) : L.all P = true := by
  refine List.all_eq_true.mpr fun c hc => ?_
  have h := List.all_eq_true.mp h1 c hc
  rcases Bool.eq_false_or_eq_true (isCode c) with hi | hi
  · exact h2 c (List.mem_filter.mpr ⟨hc, hi⟩)
  · simpa [hi] using h
set_option maxRecDepth 65536 in
theorem w_c0 : (Jvm.Cond.code x code maxLocals ret).before args0 about1 = true := code_word (m := ⟨1, 4⟩) (meth := k1m4) (c := k1c4) (by decide +kernel) rfl rfl rfl (by decide +kernel)
set_option maxRecDepth 65536 in
theorem w_c1 : (Jvm.Cond.code ({ cls := "com/example/elliott_bay/elliottbay/store/KeysEndPinLaw", name := "pick", desc := "(III)B" } : Jvm.MethodName) method_2_code (3 : Nat) (Option.some Jvm.ClassFile.FieldType.byte)).before args0 about1 = true := code_word (m := ⟨1, 1⟩) (meth := k1m1) (c := k1c1) (by decide +kernel) rfl rfl rfl (by decide +kernel)
set_option maxRecDepth 65536 in
theorem w_c2 : (Jvm.Cond.code ({ cls := "com/example/elliott_bay/elliottbay/store/KeysEndPinLaw", name := "lastNonFF", desc := "(IBBBB)I" } : Jvm.MethodName) method_4_code (5 : Nat) (Option.some Jvm.ClassFile.FieldType.int)).before args0 about1 = true := code_word (m := ⟨1, 3⟩) (meth := k1m3) (c := k1c3) (by decide +kernel) rfl rfl rfl (by decide +kernel)
set_option maxRecDepth 65536 in
theorem w_c3 : (Jvm.Cond.code ({ cls := "com/example/elliott_bay/elliottbay/store/KeysEndPinLaw", name := "make", desc := "(IBBBB)[B" } : Jvm.MethodName) method_3_code (5 : Nat) (Option.some (Jvm.ClassFile.FieldType.array Jvm.ClassFile.FieldType.byte))).before args0 about1 = true := code_word (m := ⟨1, 2⟩) (meth := k1m2) (c := k1c2) (by decide +kernel) rfl rfl rfl (by decide +kernel)
set_option maxRecDepth 65536 in
theorem w_c4 : (Jvm.Cond.code ({ cls := "com/example/elliott_bay/elliottbay/store/Keys", name := "end", desc := "([B)[B" } : Jvm.MethodName) prog_107_method_15_code (3 : Nat) (Option.some (Jvm.ClassFile.FieldType.array Jvm.ClassFile.FieldType.byte))).before args0 about1 = true := code_word (m := ⟨2, 1⟩) (meth := k2m1) (c := k2c1) (by decide +kernel) rfl rfl rfl (by decide +kernel)
set_option maxRecDepth 65536 in
theorem w_c5 : (Jvm.Cond.code ({ cls := "java/util/Arrays", name := "copyOf", desc := "([BI)[B" } : Jvm.MethodName) jdk_65_method_121_code (3 : Nat) (Option.some (Jvm.ClassFile.FieldType.array Jvm.ClassFile.FieldType.byte))).before args0 about1 = true := code_word (m := ⟨3, 1⟩) (meth := k3m1) (c := k3c1) (by decide +kernel) rfl rfl rfl (by decide +kernel)
set_option maxRecDepth 65536 in
theorem w_c6 : (Jvm.Cond.code ({ cls := "java/lang/Math", name := "min", desc := "(II)I" } : Jvm.MethodName) jdk_29_method_69_code (2 : Nat) (Option.some Jvm.ClassFile.FieldType.int)).before args0 about1 = true := code_word (m := ⟨5, 1⟩) (meth := k5m1) (c := k5c1) (by decide +kernel) rfl rfl rfl (by decide +kernel)
def codes1 : List Jvm.Cond := [Jvm.Cond.code x code maxLocals ret, Jvm.Cond.code ({ cls := "com/example/elliott_bay/elliottbay/store/KeysEndPinLaw", name := "pick", desc := "(III)B" } : Jvm.MethodName) method_2_code (3 : Nat) (Option.some Jvm.ClassFile.FieldType.byte), Jvm.Cond.code ({ cls := "com/example/elliott_bay/elliottbay/store/KeysEndPinLaw", name := "lastNonFF", desc := "(IBBBB)I" } : Jvm.MethodName) method_4_code (5 : Nat) (Option.some Jvm.ClassFile.FieldType.int), Jvm.Cond.code ({ cls := "com/example/elliott_bay/elliottbay/store/KeysEndPinLaw", name := "make", desc := "(IBBBB)[B" } : Jvm.MethodName) method_3_code (5 : Nat) (Option.some (Jvm.ClassFile.FieldType.array Jvm.ClassFile.FieldType.byte)), Jvm.Cond.code ({ cls := "com/example/elliott_bay/elliottbay/store/Keys", name := "end", desc := "([B)[B" } : Jvm.MethodName) prog_107_method_15_code (3 : Nat) (Option.some (Jvm.ClassFile.FieldType.array Jvm.ClassFile.FieldType.byte)), Jvm.Cond.code ({ cls := "java/util/Arrays", name := "copyOf", desc := "([BI)[B" } : Jvm.MethodName) jdk_65_method_121_code (3 : Nat) (Option.some (Jvm.ClassFile.FieldType.array Jvm.ClassFile.FieldType.byte)), Jvm.Cond.code ({ cls := "java/lang/Math", name := "min", desc := "(II)I" } : Jvm.MethodName) jdk_29_method_69_code (2 : Nat) (Option.some Jvm.ClassFile.FieldType.int)]
set_option maxRecDepth 65536 in
theorem codes_eq : words1.filter isCode = codes1 := rfl
theorem w_codes : ∀ c ∈ words1.filter isCode, c.before args0 about1 = true := by
  rw [codes_eq]
  intro c hc
  simp only [codes1, List.mem_cons, List.not_mem_nil, or_false] at hc
  rcases hc with rfl | rfl | rfl | rfl | rfl | rfl | rfl
  · exact w_c0
  · exact w_c1
  · exact w_c2
  · exact w_c3
  · exact w_c4
  · exact w_c5
  · exact w_c6
set_option maxRecDepth 65536 in
theorem w_t1 : (words1.take 24).all (fun c => isCode c || c.before args0 about1) = true := by decide +kernel
set_option maxRecDepth 65536 in
theorem w_t2 : (words1.drop 24).all (fun c => isCode c || c.before args0 about1) = true := by decide +kernel
theorem w_tables : (allAtoms (Jvm.Cond.code x code maxLocals ret :: tables_1)).before args0 about1 = true := by
  rw [allAtoms_all]
  show words1.all (fun c => c.before args0 about1) = true
  refine all_split ?_ w_codes
  rw [← List.take_append_drop 24 words1, List.all_append, w_t1, w_t2]
  rfl
set_option maxRecDepth 65536 in
theorem w_case : (Jvm.Cond.and given_1 narrow_1).before args0 about1 = true := by decide +kernel
theorem w_applies : (headSpec (Jvm.Cond.code x code maxLocals ret :: tables_1) room_1).applies x e0.platform about1 = true :=
  (Spec.applies_iff w_frames).mpr ⟨w_running, w_runnable, w_alone, w_named, w_hears, w_ripe, w_room, w_tables⟩
theorem atStart : AtStart classFile x code maxLocals ret World_1 tables_1 room_1 Calls_1 rest_1 Pre_1 launch0 p0 e0 about1 theMethod args0 below0 :=
  ⟨lists_1, trivial, launch0.admits_env _ _ _, launch0.least_env, fairChoices_fair.cas, fairChoices_fair.clock, w_frames, w_args, w_heap, w_applies, trivial, trivial, w_case⟩
end start1
theorem witness_1 : WitnessClaimed_1 := ⟨start1.p0, start1.e0, start1.about1, start1.theMethod, start1.args0, start1.below0, start1.atStart⟩
end Jvm.Pilot.@@N@@
