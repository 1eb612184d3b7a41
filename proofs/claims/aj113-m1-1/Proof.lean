import JvmDerived
import JvmDerived.Pilot.@@N@@Statement
import JvmDerived.Pilot.@@N@@Code
set_option linter.unusedVariables false
set_option linter.unusedSimpArgs false
namespace Jvm.RoadKit
open Sem ClassFile Op Lib Jvm.Stand Jvm.Free Jvm.LawKit
section New
variable {p : Program} {l : Launch} {e : Env} {R : Room} {s : State} {m : MethodId} {args : Array Value} {below : List Frame} {meth : Method} {c : Code} {T : State} {locs : List Loc} {cells slots : Nat}
theorem retI (X : Stand p l e R s m args below meth c T locs cells slots) (hx : p.tables.exec = Jvm.exec) {pc : Nat} {Ls : Array Slot} {z : Int32} {rest : List Value} (hret : meth.sig.returnType = some .int) (hd : decode c.code pc = .ok (.ireturn, 1)) {fs : List Frame}
    (hl : ∀ (f : JFrame) (acts : List Action), f.method = m → f.locked = none → f.entered = [] → (doReturn e (T.setTop f) acts (some (.int z))).1 = T.setFrames fs) : Steps p.tables e below (T.setTop (mkF m pc Ls (.int z :: rest))) (T.setFrames fs) := by
  have hm' : T.vm.method? m = some meth := X.method'
  have hn : narrow .int (.int z) = .int z := rfl
  show Steps p.tables e below (T.setTop { method := m, pc := pc, locals := Ls, stack := _ :: rest, locked := none }) _
  jvm_step X.here [X.here.top, hx, hd, hm', hret, hn]
  first | (intro acts; rw [hl _ acts rfl rfl rfl]) | rw [hl _ _ rfl rfl rfl]
  exact Steps.refl _
end New
theorem own_sta_keep {Z : State} {h h' : Heap} {C n d : String} {w : Value} {ws : List Addr} (F : Sta Z h C n d w) (K : Keep h h' ws) (q : ∀ x ∈ ws, ∃ c : Cell, h[x]? = some c ∧ c.vm.isStatics = false) : Sta Z h' C n d w := by
  obtain ⟨cf, i, k, f, st, cell, h1, h2, h3, h4, h5, h6, h7⟩ := F
  refine ⟨cf, i, k, f, st, cell, h1, h2, h3, h4, K.2.1 st cell h5 (fun hm => ?_), h6, h7⟩
  obtain ⟨c, g1, g2⟩ := q st hm
  cases h5.symm.trans g1
  rw [h6] at g2; cases g2
theorem own_exa_ns {Z : State} {h : Heap} {a : Addr} {C : String} (F : Exa Z h a C) : ∃ c : Cell, h[a]? = some c ∧ c.vm.isStatics = false := by
  obtain ⟨cell, k, h1, -, -, h4, -⟩ := F
  exact ⟨cell, h1, h4⟩
theorem own_arv_ns {Z : State} {h : Heap} {a : Addr} {k : ClassId} {ty : FieldType} {z : Int32} {vs : List Value} {d : Value} (F : Arv Z h a k ty z vs d) : ∃ c : Cell, h[a]? = some c ∧ c.vm.isStatics = false := by
  obtain ⟨cell, A, -⟩ := F
  exact ⟨cell, A.1, A.plain⟩
theorem own_arv {Z : State} {h : Heap} {a : Addr} {k : ClassId} {ty : FieldType} {z : Int32} {vs : List Value} {d : Value} (F : Arh Z h a k ty z [] vs d) : Arv Z h a k ty z vs d := F
theorem own_eqv {Z : State} {args : Array Value} {t u : Term} {v : Value} (hv : (∃ k, v = .int k) ∨ ∃ a, v = .ref a) (hu : u.eval args Z none [] Z = some v) (h : (Jvm.Cond.eq t u).value args Z none Z [] = some true) : t.eval args Z none [] Z = some v := by
  simp only [Jvm.Cond.value, hu] at h
  cases ht : t.eval args Z none [] Z with
  | none => simp [ht] at h
  | some x => rcases hv with ⟨k, rfl⟩ | ⟨a, rfl⟩ <;> cases x <;> simp [ht] at h ⊢ <;> exact h
theorem own_len {Z : State} {args : Array Value} {t : Term} {a : Addr} {cl : Cell} {ty : FieldType} {z : Int32} (ev : t.eval args Z none [] Z = some (.ref a)) (A : Arr Z Z.heap a cl ty) (h : (Term.length t).eval args Z none [] Z = some (.int z)) : cl.slots.size < 2 ^ 31 ∧ cl.slots.size.toInt32 = z := by
  obtain ⟨a', cell, ha', hat, hv⟩ := Term.length_spec h
  cases ev.symm.trans ha'
  cases A.1.symm.trans (State.arrayAt?_spec hat).1
  cases hv
  refine ⟨?_, rfl⟩
  by_cases q : cl.slots.size < 2 ^ 31
  · exact q
  · exfalso
    simp [Term.eval, ev, hat, q] at h
end Jvm.RoadKit
namespace Jvm.Pilot.@@N@@
open Jvm Jvm.ClassFile Sem Op Lib Jvm.Free Jvm.Stand Jvm.LawKit Jvm.RoadKit Bundle Jvm.Pilot.@@N@@.Jvm.D
theorem d4_0 : decode jdk_37_method_2_code 0 = .ok (.aload_n 0, 1) := by decide +kernel
theorem d4_1 : decode jdk_37_method_2_code 1 = .ok (.getfield 7, 3) := by decide +kernel
theorem d4_4 : decode jdk_37_method_2_code 4 = .ok (.ireturn, 1) := by decide +kernel
theorem pn0 : plainName "java/lang/Enum" = true := by first | (simp [plainName, overriddenIn]; done) | decide +kernel
theorem ef4 (m : MethodId) (a1 : Addr) : entryFrame m #[(.ref a1)] 1 = (mkF m 0 #[.val (.ref a1)] []) := by first | (simp [entryFrame, mkF, argsToLocals, Value.category]; done) | rfl
def Q4 (Z : State) (a1 : Addr) (w_ordinal_a1 : Int32) (h0 : Heap) (n0 : Nat) (v : Option Value) (h : Heap) (L : List Loc) : Prop := v = some (.int w_ordinal_a1) ∧ L = [] ∧ h = h0
set_option maxRecDepth 65536 in
set_option maxHeartbeats 40000000 in
theorem rm4 (l : Launch) (Z : State) (a0 : Array Value) (hw : ∀ d ∈ tables_1, d.before a0 Z = true) (ws : List Jvm.Cond) (a1 : Addr) (w_ordinal_a1 : Int32) (h0 : Heap) (n0 : Nat) (Z0 : n0 ≤ h0.size) (F_ordinal_a1 : Fld Z h0 a1 "java/lang/Enum" "ordinal" "I" (.int w_ordinal_a1)) :
    MetFree l (⟨"java/lang/Enum", "ordinal", "()I"⟩ : MethodName) (head1 (Jvm.Cond.code (⟨"java/lang/Enum", "ordinal", "()I"⟩ : MethodName) jdk_37_method_2_code 1 (some .int) :: ws) ({ frames := 0, cells := 0, slots := 0, locals := 0 } : Room)) (fun a U => a = #[(.ref a1)] ∧ Z.Warmed39 U.vm ∧ U.heap = h0) (fun _ _ _ _ _ => True) (fun _ U o U' => ∃ v L, o = .returned v ∧ Q4 Z a1 w_ordinal_a1 h0 n0 v U'.heap L ∧ FrameEnd U o U' L ({ frames := 0, cells := 0, slots := 0, locals := 0 } : Room).cells ({ frames := 0, cells := 0, slots := 0, locals := 0 } : Room).slots) := by
  refine MetFree.of_bodySF (plainFor_of_name pn0) hisR ?_
  intro p e s m args below meth c s₁ Bd hml0 hP hK
  obtain ⟨rfl, hZ, hh⟩ := hP
  have hx := Bd.exec
  have hby := Bd.bytes
  have hml : c.maxLocals = 1 := hml0
  have hown : s.vm.findClass "java/lang/Enum" = some m.cls := findClass_of_methodNamed Bd.named
  have hnm := (name_of_methodNamed Bd.named Bd.method).1
  have X0 : Stand p l e ({ frames := 0, cells := 0, slots := 0, locals := 0 } : Room) s m #[(.ref a1)] below meth c s₁ [] 0 0 := Stand.of_body Bd
  have e0 : s₁.heap = h0 := by rw [← hh, Bd.state]; rfl
  have N0 := Fr.nil n0
  have pre0 : ∀ t, Steps p.tables e below (s₁.setTop (mkF m 0 #[.val (.ref a1)] [])) t → Steps p.tables e below (s₁.setTop (entryFrame m #[(.ref a1)] 1)) t := fun t k => castTop (ef4 m a1) k
  obtain ⟨T1, X1, e1, st1⟩ := getF X0 hx hZ hown (host := "") (Or.inl (hw _ (List.mem_of_getElem? (i := 53) rfl))) Via.refl e0 F_ordinal_a1 (g := (mkF m 1 #[.val (.ref a1)] [(.ref a1)])) rfl rfl (hb hby d4_1)
  obtain ⟨fs, hr, hrun, hended, hW, hsame⟩ := X1.leave (v := some (.int w_ordinal_a1)) (fun h => by rw [Bd.returns] at h; cases h)
  refine ⟨_, _, pre0 _ ?_, hrun, hended, _, _, rfl, ?_, ⟨_, rfl⟩, hW, hsame.mono (by decide) (by decide)⟩
  · show Steps p.tables e below (s₁.setTop (mkF m 0 #[.val (.ref a1)] [])) _
    refine XS.aloadN X0.here hx rfl (hb hby d4_0) rfl rfl ?_
    show Steps p.tables e below (s₁.setTop (mkF m 1 #[.val (.ref a1)] [(.ref a1)])) _
    refine st1 _ ?_
    show Steps p.tables e below (T1.setTop (mkF m 4 #[.val (.ref a1)] [(.int w_ordinal_a1)])) _
    exact retI X1 hx Bd.returns (hb hby d4_4) hr
  · show Q4 Z a1 w_ordinal_a1 h0 n0 _ T1.heap _
    rw [e1]
    exact ⟨rfl, rfl, rfl⟩
theorem d1_0 : decode prog_109_method_4_code 0 = .ok (.aload_n 0, 1) := by decide +kernel
theorem d1_1 : decode prog_109_method_4_code 1 = .ok (.getstatic 3, 3) := by decide +kernel
theorem d1_4 : decode prog_109_method_4_code 4 = .ok (.if_acmp .eq 17, 3) := by decide +kernel
theorem d1_7 : decode prog_109_method_4_code 7 = .ok (.aload_n 0, 1) := by decide +kernel
theorem d1_8 : decode prog_109_method_4_code 8 = .ok (.getstatic 7, 3) := by decide +kernel
theorem d1_11 : decode prog_109_method_4_code 11 = .ok (.if_acmp .eq 10, 3) := by decide +kernel
theorem d1_14 : decode prog_109_method_4_code 14 = .ok (.aload_n 0, 1) := by decide +kernel
theorem d1_15 : decode prog_109_method_4_code 15 = .ok (.getstatic 10, 3) := by decide +kernel
theorem d1_18 : decode prog_109_method_4_code 18 = .ok (.if_acmp .ne 7, 3) := by decide +kernel
theorem d1_21 : decode prog_109_method_4_code 21 = .ok (.iconst 1, 1) := by decide +kernel
theorem d1_22 : decode prog_109_method_4_code 22 = .ok (.goto 4, 3) := by decide +kernel
theorem d1_25 : decode prog_109_method_4_code 25 = .ok (.iconst 0, 1) := by decide +kernel
theorem d1_26 : decode prog_109_method_4_code 26 = .ok (.ireturn, 1) := by decide +kernel
def res1 (a1 : Addr) (w_S : Addr) (w_N : Addr) (w_B : Addr) : Int32 := if a1 = w_S then (1 : Int32) else if a1 = w_N then (1 : Int32) else if a1 = w_B then (1 : Int32) else (0 : Int32)
theorem pn1 : plainName "com/example/elliott_bay/elliottbay/value/AttributeType" = true := by first | (simp [plainName, overriddenIn]; done) | decide +kernel
theorem ef1 (m : MethodId) (a1 : Addr) : entryFrame m #[(.ref a1)] 1 = (mkF m 0 #[.val (.ref a1)] []) := by first | (simp [entryFrame, mkF, argsToLocals, Value.category]; done) | rfl
def Q1 (Z : State) (a1 : Addr) (w_S : Addr) (w_N : Addr) (w_B : Addr) (h0 : Heap) (n0 : Nat) (v : Option Value) (h : Heap) (L : List Loc) : Prop := v = some (.int (res1 a1 w_S w_N w_B)) ∧ L = [] ∧ h = h0
set_option maxRecDepth 65536 in
set_option maxHeartbeats 40000000 in
theorem rm1 (l : Launch) (Z : State) (a0 : Array Value) (hw : ∀ d ∈ tables_1, d.before a0 Z = true) (ws : List Jvm.Cond) (a1 : Addr) (w_S : Addr) (w_N : Addr) (w_B : Addr) (h0 : Heap) (n0 : Nat) (Z0 : n0 ≤ h0.size) (S_S : Sta Z h0 "com/example/elliott_bay/elliottbay/value/AttributeType" "S" "Lcom/example/elliott_bay/elliottbay/value/AttributeType;" (.ref w_S)) (S_N : Sta Z h0 "com/example/elliott_bay/elliottbay/value/AttributeType" "N" "Lcom/example/elliott_bay/elliottbay/value/AttributeType;" (.ref w_N)) (S_B : Sta Z h0 "com/example/elliott_bay/elliottbay/value/AttributeType" "B" "Lcom/example/elliott_bay/elliottbay/value/AttributeType;" (.ref w_B)) :
    MetFree l (⟨"com/example/elliott_bay/elliottbay/value/AttributeType", "isScalar", "()Z"⟩ : MethodName) (head1 (Jvm.Cond.code (⟨"com/example/elliott_bay/elliottbay/value/AttributeType", "isScalar", "()Z"⟩ : MethodName) prog_109_method_4_code 1 (some .boolean) :: ws) ({ frames := 0, cells := 0, slots := 0, locals := 0 } : Room)) (fun a U => a = #[(.ref a1)] ∧ Z.Warmed39 U.vm ∧ U.heap = h0) (fun _ _ _ _ _ => True) (fun _ U o U' => ∃ v L, o = .returned v ∧ Q1 Z a1 w_S w_N w_B h0 n0 v U'.heap L ∧ FrameEnd U o U' L ({ frames := 0, cells := 0, slots := 0, locals := 0 } : Room).cells ({ frames := 0, cells := 0, slots := 0, locals := 0 } : Room).slots) := by
  refine MetFree.of_bodySF (plainFor_of_name pn1) hisR ?_
  intro p e s m args below meth c s₁ Bd hml0 hP hK
  obtain ⟨rfl, hZ, hh⟩ := hP
  have hx := Bd.exec
  have hby := Bd.bytes
  have hml : c.maxLocals = 1 := hml0
  have hown : s.vm.findClass "com/example/elliott_bay/elliottbay/value/AttributeType" = some m.cls := findClass_of_methodNamed Bd.named
  have hnm := (name_of_methodNamed Bd.named Bd.method).1
  have X0 : Stand p l e ({ frames := 0, cells := 0, slots := 0, locals := 0 } : Room) s m #[(.ref a1)] below meth c s₁ [] 0 0 := Stand.of_body Bd
  have e0 : s₁.heap = h0 := by rw [← hh, Bd.state]; rfl
  have N0 := Fr.nil n0
  have pre0 : ∀ t, Steps p.tables e below (s₁.setTop (mkF m 0 #[.val (.ref a1)] [])) t → Steps p.tables e below (s₁.setTop (entryFrame m #[(.ref a1)] 1)) t := fun t k => castTop (ef1 m a1) k
  obtain ⟨T1, X1, e1, st1⟩ := getS2 X0 hx hZ hown (host := "") (Or.inl (hw _ (List.mem_of_getElem? (i := 30) rfl))) Via.refl e0 S_S (g := (mkF m 1 #[.val (.ref a1)] [(.ref a1)])) rfl (hb hby d1_1)
  have pre2 : ∀ t, Steps p.tables e below (T1.setTop (mkF m 4 #[.val (.ref a1)] [(.ref w_S), (.ref a1)])) t → Steps p.tables e below (s₁.setTop (entryFrame m #[(.ref a1)] 1)) t := by
    intro t kt
    refine pre0 _ ?_
    show Steps p.tables e below (s₁.setTop (mkF m 0 #[.val (.ref a1)] [])) _
    refine XS.aloadN X0.here hx rfl (hb hby d1_0) rfl rfl ?_
    show Steps p.tables e below (s₁.setTop (mkF m 1 #[.val (.ref a1)] [(.ref a1)])) _
    refine st1 _ ?_
    exact kt
  by_cases hc4_3 : a1 = w_S
  · obtain ⟨fs, hr, hrun, hended, hW, hsame⟩ := X1.leave (v := some (.int (1 : Int32))) (fun h => by rw [Bd.returns] at h; cases h)
    refine ⟨_, _, pre2 _ ?_, hrun, hended, _, _, rfl, ?_, ⟨_, rfl⟩, hW, hsame.mono (by decide) (by decide)⟩
    · show Steps p.tables e below (T1.setTop (mkF m 4 #[.val (.ref a1)] [(.ref w_S), (.ref a1)])) _
      refine Jvm.RoadKit.acmp (g := (mkF m 4 #[.val (.ref a1)] [(.ref w_S), (.ref a1)])) X1 hx rfl rfl rfl (pc0 := 4) (pc' := 21) (same := true) rfl (hb hby d1_4) rfl (decide_eq_true (congrArg Value.ref hc4_3)) (by decide) (by decide) ?_
      show Steps p.tables e below (T1.setTop (mkF m 21 #[.val (.ref a1)] [])) _
      refine XS.iconst X1.here hx rfl (hb hby d1_21) ?_
      show Steps p.tables e below (T1.setTop (mkF m 22 #[.val (.ref a1)] [(.int (1 : Int32))])) _
      refine XS.goto X1.here hx rfl (pc0 := 22) (pc' := 26) rfl (hb hby d1_22) (by decide) (by decide) ?_
      show Steps p.tables e below (T1.setTop (mkF m 26 #[.val (.ref a1)] [(.int (1 : Int32))])) _
      exact retN X1 hx (t := .boolean) Bd.returns (by simp) (hb hby d1_26) hr
    · show Q1 Z a1 w_S w_N w_B h0 n0 _ T1.heap _
      rw [e1]
      exact ⟨by rw [res1, if_pos hc4_3], rfl, rfl⟩
  · obtain ⟨T4, X4, e4, st4⟩ := getS2 X1 hx hZ hown (host := "") (Or.inl (hw _ (List.mem_of_getElem? (i := 39) rfl))) Via.refl e1 S_N (g := (mkF m 8 #[.val (.ref a1)] [(.ref a1)])) rfl (hb hby d1_8)
    have pre5 : ∀ t, Steps p.tables e below (T4.setTop (mkF m 11 #[.val (.ref a1)] [(.ref w_N), (.ref a1)])) t → Steps p.tables e below (s₁.setTop (entryFrame m #[(.ref a1)] 1)) t := by
      intro t kt
      refine pre2 _ ?_
      show Steps p.tables e below (T1.setTop (mkF m 4 #[.val (.ref a1)] [(.ref w_S), (.ref a1)])) _
      refine Jvm.RoadKit.acmp (g := (mkF m 4 #[.val (.ref a1)] [(.ref w_S), (.ref a1)])) X1 hx rfl rfl rfl (pc0 := 4) (pc' := 7) (same := false) rfl (hb hby d1_4) rfl (decide_eq_false fun q => hc4_3 (Value.ref.inj q)) (by decide) (by decide) ?_
      show Steps p.tables e below (T1.setTop (mkF m 7 #[.val (.ref a1)] [])) _
      refine XS.aloadN X1.here hx rfl (hb hby d1_7) rfl rfl ?_
      show Steps p.tables e below (T1.setTop (mkF m 8 #[.val (.ref a1)] [(.ref a1)])) _
      refine st4 _ ?_
      exact kt
    by_cases hc11_6 : a1 = w_N
    · obtain ⟨fs, hr, hrun, hended, hW, hsame⟩ := X4.leave (v := some (.int (1 : Int32))) (fun h => by rw [Bd.returns] at h; cases h)
      refine ⟨_, _, pre5 _ ?_, hrun, hended, _, _, rfl, ?_, ⟨_, rfl⟩, hW, hsame.mono (by decide) (by decide)⟩
      · show Steps p.tables e below (T4.setTop (mkF m 11 #[.val (.ref a1)] [(.ref w_N), (.ref a1)])) _
        refine Jvm.RoadKit.acmp (g := (mkF m 11 #[.val (.ref a1)] [(.ref w_N), (.ref a1)])) X4 hx rfl rfl rfl (pc0 := 11) (pc' := 21) (same := true) rfl (hb hby d1_11) rfl (decide_eq_true (congrArg Value.ref hc11_6)) (by decide) (by decide) ?_
        show Steps p.tables e below (T4.setTop (mkF m 21 #[.val (.ref a1)] [])) _
        refine XS.iconst X4.here hx rfl (hb hby d1_21) ?_
        show Steps p.tables e below (T4.setTop (mkF m 22 #[.val (.ref a1)] [(.int (1 : Int32))])) _
        refine XS.goto X4.here hx rfl (pc0 := 22) (pc' := 26) rfl (hb hby d1_22) (by decide) (by decide) ?_
        show Steps p.tables e below (T4.setTop (mkF m 26 #[.val (.ref a1)] [(.int (1 : Int32))])) _
        exact retN X4 hx (t := .boolean) Bd.returns (by simp) (hb hby d1_26) hr
      · show Q1 Z a1 w_S w_N w_B h0 n0 _ T4.heap _
        rw [e4]
        exact ⟨by rw [res1, if_neg hc4_3, if_pos hc11_6], rfl, rfl⟩
    · obtain ⟨T7, X7, e7, st7⟩ := getS2 X4 hx hZ hown (host := "") (Or.inl (hw _ (List.mem_of_getElem? (i := 40) rfl))) Via.refl e4 S_B (g := (mkF m 15 #[.val (.ref a1)] [(.ref a1)])) rfl (hb hby d1_15)
      have pre8 : ∀ t, Steps p.tables e below (T7.setTop (mkF m 18 #[.val (.ref a1)] [(.ref w_B), (.ref a1)])) t → Steps p.tables e below (s₁.setTop (entryFrame m #[(.ref a1)] 1)) t := by
        intro t kt
        refine pre5 _ ?_
        show Steps p.tables e below (T4.setTop (mkF m 11 #[.val (.ref a1)] [(.ref w_N), (.ref a1)])) _
        refine Jvm.RoadKit.acmp (g := (mkF m 11 #[.val (.ref a1)] [(.ref w_N), (.ref a1)])) X4 hx rfl rfl rfl (pc0 := 11) (pc' := 14) (same := false) rfl (hb hby d1_11) rfl (decide_eq_false fun q => hc11_6 (Value.ref.inj q)) (by decide) (by decide) ?_
        show Steps p.tables e below (T4.setTop (mkF m 14 #[.val (.ref a1)] [])) _
        refine XS.aloadN X4.here hx rfl (hb hby d1_14) rfl rfl ?_
        show Steps p.tables e below (T4.setTop (mkF m 15 #[.val (.ref a1)] [(.ref a1)])) _
        refine st7 _ ?_
        exact kt
      by_cases hc18_9 : a1 = w_B
      · obtain ⟨fs, hr, hrun, hended, hW, hsame⟩ := X7.leave (v := some (.int (1 : Int32))) (fun h => by rw [Bd.returns] at h; cases h)
        refine ⟨_, _, pre8 _ ?_, hrun, hended, _, _, rfl, ?_, ⟨_, rfl⟩, hW, hsame.mono (by decide) (by decide)⟩
        · show Steps p.tables e below (T7.setTop (mkF m 18 #[.val (.ref a1)] [(.ref w_B), (.ref a1)])) _
          refine Jvm.RoadKit.acmp (g := (mkF m 18 #[.val (.ref a1)] [(.ref w_B), (.ref a1)])) X7 hx rfl rfl rfl (pc0 := 18) (pc' := 21) (same := true) rfl (hb hby d1_18) rfl (decide_eq_true (congrArg Value.ref hc18_9)) (by decide) (by decide) ?_
          show Steps p.tables e below (T7.setTop (mkF m 21 #[.val (.ref a1)] [])) _
          refine XS.iconst X7.here hx rfl (hb hby d1_21) ?_
          show Steps p.tables e below (T7.setTop (mkF m 22 #[.val (.ref a1)] [(.int (1 : Int32))])) _
          refine XS.goto X7.here hx rfl (pc0 := 22) (pc' := 26) rfl (hb hby d1_22) (by decide) (by decide) ?_
          show Steps p.tables e below (T7.setTop (mkF m 26 #[.val (.ref a1)] [(.int (1 : Int32))])) _
          exact retN X7 hx (t := .boolean) Bd.returns (by simp) (hb hby d1_26) hr
        · show Q1 Z a1 w_S w_N w_B h0 n0 _ T7.heap _
          rw [e7]
          exact ⟨by rw [res1, if_neg hc4_3, if_neg hc11_6, if_pos hc18_9], rfl, rfl⟩
      · obtain ⟨fs, hr, hrun, hended, hW, hsame⟩ := X7.leave (v := some (.int (0 : Int32))) (fun h => by rw [Bd.returns] at h; cases h)
        refine ⟨_, _, pre8 _ ?_, hrun, hended, _, _, rfl, ?_, ⟨_, rfl⟩, hW, hsame.mono (by decide) (by decide)⟩
        · show Steps p.tables e below (T7.setTop (mkF m 18 #[.val (.ref a1)] [(.ref w_B), (.ref a1)])) _
          refine Jvm.RoadKit.acmp (g := (mkF m 18 #[.val (.ref a1)] [(.ref w_B), (.ref a1)])) X7 hx rfl rfl rfl (pc0 := 18) (pc' := 25) (same := false) rfl (hb hby d1_18) rfl (decide_eq_false fun q => hc18_9 (Value.ref.inj q)) (by decide) (by decide) ?_
          show Steps p.tables e below (T7.setTop (mkF m 25 #[.val (.ref a1)] [])) _
          refine XS.iconst X7.here hx rfl (hb hby d1_25) ?_
          show Steps p.tables e below (T7.setTop (mkF m 26 #[.val (.ref a1)] [(.int (0 : Int32))])) _
          exact retN X7 hx (t := .boolean) Bd.returns (by simp) (hb hby d1_26) hr
        · show Q1 Z a1 w_S w_N w_B h0 n0 _ T7.heap _
          rw [e7]
          exact ⟨by rw [res1, if_neg hc4_3, if_neg hc11_6, if_neg hc18_9], rfl, rfl⟩
theorem d2_0 : decode prog_109_method_5_code 0 = .ok (.aload_n 0, 1) := by decide +kernel
theorem d2_1 : decode prog_109_method_5_code 1 = .ok (.getstatic 25, 3) := by decide +kernel
theorem d2_4 : decode prog_109_method_5_code 4 = .ok (.if_acmp .eq 17, 3) := by decide +kernel
theorem d2_7 : decode prog_109_method_5_code 7 = .ok (.aload_n 0, 1) := by decide +kernel
theorem d2_8 : decode prog_109_method_5_code 8 = .ok (.getstatic 28, 3) := by decide +kernel
theorem d2_11 : decode prog_109_method_5_code 11 = .ok (.if_acmp .eq 10, 3) := by decide +kernel
theorem d2_14 : decode prog_109_method_5_code 14 = .ok (.aload_n 0, 1) := by decide +kernel
theorem d2_15 : decode prog_109_method_5_code 15 = .ok (.getstatic 31, 3) := by decide +kernel
theorem d2_18 : decode prog_109_method_5_code 18 = .ok (.if_acmp .ne 7, 3) := by decide +kernel
theorem d2_21 : decode prog_109_method_5_code 21 = .ok (.iconst 1, 1) := by decide +kernel
theorem d2_22 : decode prog_109_method_5_code 22 = .ok (.goto 4, 3) := by decide +kernel
theorem d2_25 : decode prog_109_method_5_code 25 = .ok (.iconst 0, 1) := by decide +kernel
theorem d2_26 : decode prog_109_method_5_code 26 = .ok (.ireturn, 1) := by decide +kernel
def res2 (a1 : Addr) (w_SS : Addr) (w_NS : Addr) (w_BS : Addr) : Int32 := if a1 = w_SS then (1 : Int32) else if a1 = w_NS then (1 : Int32) else if a1 = w_BS then (1 : Int32) else (0 : Int32)
theorem ef2 (m : MethodId) (a1 : Addr) : entryFrame m #[(.ref a1)] 1 = (mkF m 0 #[.val (.ref a1)] []) := by first | (simp [entryFrame, mkF, argsToLocals, Value.category]; done) | rfl
def Q2 (Z : State) (a1 : Addr) (w_SS : Addr) (w_NS : Addr) (w_BS : Addr) (h0 : Heap) (n0 : Nat) (v : Option Value) (h : Heap) (L : List Loc) : Prop := v = some (.int (res2 a1 w_SS w_NS w_BS)) ∧ L = [] ∧ h = h0
set_option maxRecDepth 65536 in
set_option maxHeartbeats 40000000 in
theorem rm2 (l : Launch) (Z : State) (a0 : Array Value) (hw : ∀ d ∈ tables_1, d.before a0 Z = true) (ws : List Jvm.Cond) (a1 : Addr) (w_SS : Addr) (w_NS : Addr) (w_BS : Addr) (h0 : Heap) (n0 : Nat) (Z0 : n0 ≤ h0.size) (S_SS : Sta Z h0 "com/example/elliott_bay/elliottbay/value/AttributeType" "SS" "Lcom/example/elliott_bay/elliottbay/value/AttributeType;" (.ref w_SS)) (S_NS : Sta Z h0 "com/example/elliott_bay/elliottbay/value/AttributeType" "NS" "Lcom/example/elliott_bay/elliottbay/value/AttributeType;" (.ref w_NS)) (S_BS : Sta Z h0 "com/example/elliott_bay/elliottbay/value/AttributeType" "BS" "Lcom/example/elliott_bay/elliottbay/value/AttributeType;" (.ref w_BS)) :
    MetFree l (⟨"com/example/elliott_bay/elliottbay/value/AttributeType", "isSet", "()Z"⟩ : MethodName) (head1 (Jvm.Cond.code (⟨"com/example/elliott_bay/elliottbay/value/AttributeType", "isSet", "()Z"⟩ : MethodName) prog_109_method_5_code 1 (some .boolean) :: ws) ({ frames := 0, cells := 0, slots := 0, locals := 0 } : Room)) (fun a U => a = #[(.ref a1)] ∧ Z.Warmed39 U.vm ∧ U.heap = h0) (fun _ _ _ _ _ => True) (fun _ U o U' => ∃ v L, o = .returned v ∧ Q2 Z a1 w_SS w_NS w_BS h0 n0 v U'.heap L ∧ FrameEnd U o U' L ({ frames := 0, cells := 0, slots := 0, locals := 0 } : Room).cells ({ frames := 0, cells := 0, slots := 0, locals := 0 } : Room).slots) := by
  refine MetFree.of_bodySF (plainFor_of_name pn1) hisR ?_
  intro p e s m args below meth c s₁ Bd hml0 hP hK
  obtain ⟨rfl, hZ, hh⟩ := hP
  have hx := Bd.exec
  have hby := Bd.bytes
  have hml : c.maxLocals = 1 := hml0
  have hown : s.vm.findClass "com/example/elliott_bay/elliottbay/value/AttributeType" = some m.cls := findClass_of_methodNamed Bd.named
  have hnm := (name_of_methodNamed Bd.named Bd.method).1
  have X0 : Stand p l e ({ frames := 0, cells := 0, slots := 0, locals := 0 } : Room) s m #[(.ref a1)] below meth c s₁ [] 0 0 := Stand.of_body Bd
  have e0 : s₁.heap = h0 := by rw [← hh, Bd.state]; rfl
  have N0 := Fr.nil n0
  have pre0 : ∀ t, Steps p.tables e below (s₁.setTop (mkF m 0 #[.val (.ref a1)] [])) t → Steps p.tables e below (s₁.setTop (entryFrame m #[(.ref a1)] 1)) t := fun t k => castTop (ef2 m a1) k
  obtain ⟨T1, X1, e1, st1⟩ := getS2 X0 hx hZ hown (host := "") (Or.inl (hw _ (List.mem_of_getElem? (i := 36) rfl))) Via.refl e0 S_SS (g := (mkF m 1 #[.val (.ref a1)] [(.ref a1)])) rfl (hb hby d2_1)
  have pre2 : ∀ t, Steps p.tables e below (T1.setTop (mkF m 4 #[.val (.ref a1)] [(.ref w_SS), (.ref a1)])) t → Steps p.tables e below (s₁.setTop (entryFrame m #[(.ref a1)] 1)) t := by
    intro t kt
    refine pre0 _ ?_
    show Steps p.tables e below (s₁.setTop (mkF m 0 #[.val (.ref a1)] [])) _
    refine XS.aloadN X0.here hx rfl (hb hby d2_0) rfl rfl ?_
    show Steps p.tables e below (s₁.setTop (mkF m 1 #[.val (.ref a1)] [(.ref a1)])) _
    refine st1 _ ?_
    exact kt
  by_cases hc4_3 : a1 = w_SS
  · obtain ⟨fs, hr, hrun, hended, hW, hsame⟩ := X1.leave (v := some (.int (1 : Int32))) (fun h => by rw [Bd.returns] at h; cases h)
    refine ⟨_, _, pre2 _ ?_, hrun, hended, _, _, rfl, ?_, ⟨_, rfl⟩, hW, hsame.mono (by decide) (by decide)⟩
    · show Steps p.tables e below (T1.setTop (mkF m 4 #[.val (.ref a1)] [(.ref w_SS), (.ref a1)])) _
      refine Jvm.RoadKit.acmp (g := (mkF m 4 #[.val (.ref a1)] [(.ref w_SS), (.ref a1)])) X1 hx rfl rfl rfl (pc0 := 4) (pc' := 21) (same := true) rfl (hb hby d2_4) rfl (decide_eq_true (congrArg Value.ref hc4_3)) (by decide) (by decide) ?_
      show Steps p.tables e below (T1.setTop (mkF m 21 #[.val (.ref a1)] [])) _
      refine XS.iconst X1.here hx rfl (hb hby d2_21) ?_
      show Steps p.tables e below (T1.setTop (mkF m 22 #[.val (.ref a1)] [(.int (1 : Int32))])) _
      refine XS.goto X1.here hx rfl (pc0 := 22) (pc' := 26) rfl (hb hby d2_22) (by decide) (by decide) ?_
      show Steps p.tables e below (T1.setTop (mkF m 26 #[.val (.ref a1)] [(.int (1 : Int32))])) _
      exact retN X1 hx (t := .boolean) Bd.returns (by simp) (hb hby d2_26) hr
    · show Q2 Z a1 w_SS w_NS w_BS h0 n0 _ T1.heap _
      rw [e1]
      exact ⟨by rw [res2, if_pos hc4_3], rfl, rfl⟩
  · obtain ⟨T4, X4, e4, st4⟩ := getS2 X1 hx hZ hown (host := "") (Or.inl (hw _ (List.mem_of_getElem? (i := 37) rfl))) Via.refl e1 S_NS (g := (mkF m 8 #[.val (.ref a1)] [(.ref a1)])) rfl (hb hby d2_8)
    have pre5 : ∀ t, Steps p.tables e below (T4.setTop (mkF m 11 #[.val (.ref a1)] [(.ref w_NS), (.ref a1)])) t → Steps p.tables e below (s₁.setTop (entryFrame m #[(.ref a1)] 1)) t := by
      intro t kt
      refine pre2 _ ?_
      show Steps p.tables e below (T1.setTop (mkF m 4 #[.val (.ref a1)] [(.ref w_SS), (.ref a1)])) _
      refine Jvm.RoadKit.acmp (g := (mkF m 4 #[.val (.ref a1)] [(.ref w_SS), (.ref a1)])) X1 hx rfl rfl rfl (pc0 := 4) (pc' := 7) (same := false) rfl (hb hby d2_4) rfl (decide_eq_false fun q => hc4_3 (Value.ref.inj q)) (by decide) (by decide) ?_
      show Steps p.tables e below (T1.setTop (mkF m 7 #[.val (.ref a1)] [])) _
      refine XS.aloadN X1.here hx rfl (hb hby d2_7) rfl rfl ?_
      show Steps p.tables e below (T1.setTop (mkF m 8 #[.val (.ref a1)] [(.ref a1)])) _
      refine st4 _ ?_
      exact kt
    by_cases hc11_6 : a1 = w_NS
    · obtain ⟨fs, hr, hrun, hended, hW, hsame⟩ := X4.leave (v := some (.int (1 : Int32))) (fun h => by rw [Bd.returns] at h; cases h)
      refine ⟨_, _, pre5 _ ?_, hrun, hended, _, _, rfl, ?_, ⟨_, rfl⟩, hW, hsame.mono (by decide) (by decide)⟩
      · show Steps p.tables e below (T4.setTop (mkF m 11 #[.val (.ref a1)] [(.ref w_NS), (.ref a1)])) _
        refine Jvm.RoadKit.acmp (g := (mkF m 11 #[.val (.ref a1)] [(.ref w_NS), (.ref a1)])) X4 hx rfl rfl rfl (pc0 := 11) (pc' := 21) (same := true) rfl (hb hby d2_11) rfl (decide_eq_true (congrArg Value.ref hc11_6)) (by decide) (by decide) ?_
        show Steps p.tables e below (T4.setTop (mkF m 21 #[.val (.ref a1)] [])) _
        refine XS.iconst X4.here hx rfl (hb hby d2_21) ?_
        show Steps p.tables e below (T4.setTop (mkF m 22 #[.val (.ref a1)] [(.int (1 : Int32))])) _
        refine XS.goto X4.here hx rfl (pc0 := 22) (pc' := 26) rfl (hb hby d2_22) (by decide) (by decide) ?_
        show Steps p.tables e below (T4.setTop (mkF m 26 #[.val (.ref a1)] [(.int (1 : Int32))])) _
        exact retN X4 hx (t := .boolean) Bd.returns (by simp) (hb hby d2_26) hr
      · show Q2 Z a1 w_SS w_NS w_BS h0 n0 _ T4.heap _
        rw [e4]
        exact ⟨by rw [res2, if_neg hc4_3, if_pos hc11_6], rfl, rfl⟩
    · obtain ⟨T7, X7, e7, st7⟩ := getS2 X4 hx hZ hown (host := "") (Or.inl (hw _ (List.mem_of_getElem? (i := 38) rfl))) Via.refl e4 S_BS (g := (mkF m 15 #[.val (.ref a1)] [(.ref a1)])) rfl (hb hby d2_15)
      have pre8 : ∀ t, Steps p.tables e below (T7.setTop (mkF m 18 #[.val (.ref a1)] [(.ref w_BS), (.ref a1)])) t → Steps p.tables e below (s₁.setTop (entryFrame m #[(.ref a1)] 1)) t := by
        intro t kt
        refine pre5 _ ?_
        show Steps p.tables e below (T4.setTop (mkF m 11 #[.val (.ref a1)] [(.ref w_NS), (.ref a1)])) _
        refine Jvm.RoadKit.acmp (g := (mkF m 11 #[.val (.ref a1)] [(.ref w_NS), (.ref a1)])) X4 hx rfl rfl rfl (pc0 := 11) (pc' := 14) (same := false) rfl (hb hby d2_11) rfl (decide_eq_false fun q => hc11_6 (Value.ref.inj q)) (by decide) (by decide) ?_
        show Steps p.tables e below (T4.setTop (mkF m 14 #[.val (.ref a1)] [])) _
        refine XS.aloadN X4.here hx rfl (hb hby d2_14) rfl rfl ?_
        show Steps p.tables e below (T4.setTop (mkF m 15 #[.val (.ref a1)] [(.ref a1)])) _
        refine st7 _ ?_
        exact kt
      by_cases hc18_9 : a1 = w_BS
      · obtain ⟨fs, hr, hrun, hended, hW, hsame⟩ := X7.leave (v := some (.int (1 : Int32))) (fun h => by rw [Bd.returns] at h; cases h)
        refine ⟨_, _, pre8 _ ?_, hrun, hended, _, _, rfl, ?_, ⟨_, rfl⟩, hW, hsame.mono (by decide) (by decide)⟩
        · show Steps p.tables e below (T7.setTop (mkF m 18 #[.val (.ref a1)] [(.ref w_BS), (.ref a1)])) _
          refine Jvm.RoadKit.acmp (g := (mkF m 18 #[.val (.ref a1)] [(.ref w_BS), (.ref a1)])) X7 hx rfl rfl rfl (pc0 := 18) (pc' := 21) (same := true) rfl (hb hby d2_18) rfl (decide_eq_true (congrArg Value.ref hc18_9)) (by decide) (by decide) ?_
          show Steps p.tables e below (T7.setTop (mkF m 21 #[.val (.ref a1)] [])) _
          refine XS.iconst X7.here hx rfl (hb hby d2_21) ?_
          show Steps p.tables e below (T7.setTop (mkF m 22 #[.val (.ref a1)] [(.int (1 : Int32))])) _
          refine XS.goto X7.here hx rfl (pc0 := 22) (pc' := 26) rfl (hb hby d2_22) (by decide) (by decide) ?_
          show Steps p.tables e below (T7.setTop (mkF m 26 #[.val (.ref a1)] [(.int (1 : Int32))])) _
          exact retN X7 hx (t := .boolean) Bd.returns (by simp) (hb hby d2_26) hr
        · show Q2 Z a1 w_SS w_NS w_BS h0 n0 _ T7.heap _
          rw [e7]
          exact ⟨by rw [res2, if_neg hc4_3, if_neg hc11_6, if_pos hc18_9], rfl, rfl⟩
      · obtain ⟨fs, hr, hrun, hended, hW, hsame⟩ := X7.leave (v := some (.int (0 : Int32))) (fun h => by rw [Bd.returns] at h; cases h)
        refine ⟨_, _, pre8 _ ?_, hrun, hended, _, _, rfl, ?_, ⟨_, rfl⟩, hW, hsame.mono (by decide) (by decide)⟩
        · show Steps p.tables e below (T7.setTop (mkF m 18 #[.val (.ref a1)] [(.ref w_BS), (.ref a1)])) _
          refine Jvm.RoadKit.acmp (g := (mkF m 18 #[.val (.ref a1)] [(.ref w_BS), (.ref a1)])) X7 hx rfl rfl rfl (pc0 := 18) (pc' := 25) (same := false) rfl (hb hby d2_18) rfl (decide_eq_false fun q => hc18_9 (Value.ref.inj q)) (by decide) (by decide) ?_
          show Steps p.tables e below (T7.setTop (mkF m 25 #[.val (.ref a1)] [])) _
          refine XS.iconst X7.here hx rfl (hb hby d2_25) ?_
          show Steps p.tables e below (T7.setTop (mkF m 26 #[.val (.ref a1)] [(.int (0 : Int32))])) _
          exact retN X7 hx (t := .boolean) Bd.returns (by simp) (hb hby d2_26) hr
        · show Q2 Z a1 w_SS w_NS w_BS h0 n0 _ T7.heap _
          rw [e7]
          exact ⟨by rw [res2, if_neg hc4_3, if_neg hc11_6, if_neg hc18_9], rfl, rfl⟩
theorem d3_0 : decode prog_109_method_6_code 0 = .ok (.aload_n 0, 1) := by decide +kernel
theorem d3_1 : decode prog_109_method_6_code 1 = .ok (.invokevirtual 53, 3) := by decide +kernel
theorem d3_4 : decode prog_109_method_6_code 4 = .ok (.tableswitch 46 7 9 #[28, 34, 40], 28) := by decide +kernel
theorem d3_32 : decode prog_109_method_6_code 32 = .ok (.getstatic 3, 3) := by decide +kernel
theorem d3_35 : decode prog_109_method_6_code 35 = .ok (.goto 32, 3) := by decide +kernel
theorem d3_38 : decode prog_109_method_6_code 38 = .ok (.getstatic 7, 3) := by decide +kernel
theorem d3_41 : decode prog_109_method_6_code 41 = .ok (.goto 26, 3) := by decide +kernel
theorem d3_44 : decode prog_109_method_6_code 44 = .ok (.getstatic 10, 3) := by decide +kernel
theorem d3_47 : decode prog_109_method_6_code 47 = .ok (.goto 20, 3) := by decide +kernel
theorem d3_67 : decode prog_109_method_6_code 67 = .ok (.areturn, 1) := by decide +kernel
def res3 (w_ordinal_a1 : Int32) (w_S : Addr) (w_N : Addr) (w_B : Addr) : Addr := if w_ordinal_a1 = (7 : Int32) then w_S else if w_ordinal_a1 = (8 : Int32) then w_N else w_B
theorem pd0 : parseMethodDescriptor "()I" = some ⟨[], some .int⟩ := by decide +kernel
theorem ef3 (m : MethodId) (a1 : Addr) : entryFrame m #[(.ref a1)] 1 = (mkF m 0 #[.val (.ref a1)] []) := by first | (simp [entryFrame, mkF, argsToLocals, Value.category]; done) | rfl
def Q3 (Z : State) (a1 : Addr) (w_ordinal_a1 : Int32) (w_S : Addr) (w_N : Addr) (w_B : Addr) (h0 : Heap) (n0 : Nat) (v : Option Value) (h : Heap) (L : List Loc) : Prop := v = some (.ref (res3 w_ordinal_a1 w_S w_N w_B)) ∧ L = [] ∧ h = h0
set_option maxRecDepth 65536 in
set_option maxHeartbeats 40000000 in
theorem rm3 (l : Launch) (Z : State) (a0 : Array Value) (hw : ∀ d ∈ tables_1, d.before a0 Z = true) (ws : List Jvm.Cond) (a1 : Addr) (w_ordinal_a1 : Int32) (w_S : Addr) (w_N : Addr) (w_B : Addr) (h0 : Heap) (n0 : Nat) (Z0 : n0 ≤ h0.size) (F_ordinal_a1 : Fld Z h0 a1 "java/lang/Enum" "ordinal" "I" (.int w_ordinal_a1)) (E_a1 : Exa Z h0 a1 "com/example/elliott_bay/elliottbay/value/AttributeType") (S_S : Sta Z h0 "com/example/elliott_bay/elliottbay/value/AttributeType" "S" "Lcom/example/elliott_bay/elliottbay/value/AttributeType;" (.ref w_S)) (S_N : Sta Z h0 "com/example/elliott_bay/elliottbay/value/AttributeType" "N" "Lcom/example/elliott_bay/elliottbay/value/AttributeType;" (.ref w_N)) (S_B : Sta Z h0 "com/example/elliott_bay/elliottbay/value/AttributeType" "B" "Lcom/example/elliott_bay/elliottbay/value/AttributeType;" (.ref w_B)) (hdef : w_ordinal_a1 = (7 : Int32) ∨ w_ordinal_a1 = (8 : Int32) ∨ w_ordinal_a1 = (9 : Int32)) :
    MetFree l (⟨"com/example/elliott_bay/elliottbay/value/AttributeType", "memberType", "()Lcom/example/elliott_bay/elliottbay/value/AttributeType;"⟩ : MethodName) (head1 (Jvm.Cond.code (⟨"com/example/elliott_bay/elliottbay/value/AttributeType", "memberType", "()Lcom/example/elliott_bay/elliottbay/value/AttributeType;"⟩ : MethodName) prog_109_method_6_code 1 (some (.object "com/example/elliott_bay/elliottbay/value/AttributeType")) :: ws) ({ frames := 1, cells := 0, slots := 0, locals := 12 } : Room)) (fun a U => a = #[(.ref a1)] ∧ Z.Warmed39 U.vm ∧ U.heap = h0) (fun _ _ _ _ _ => True) (fun _ U o U' => ∃ v L, o = .returned v ∧ Q3 Z a1 w_ordinal_a1 w_S w_N w_B h0 n0 v U'.heap L ∧ FrameEnd U o U' L ({ frames := 1, cells := 0, slots := 0, locals := 12 } : Room).cells ({ frames := 1, cells := 0, slots := 0, locals := 12 } : Room).slots) := by
  refine MetFree.of_bodySF (plainFor_of_name pn1) hisR ?_
  intro p e s m args below meth c s₁ Bd hml0 hP hK
  obtain ⟨rfl, hZ, hh⟩ := hP
  have hx := Bd.exec
  have hby := Bd.bytes
  have hml : c.maxLocals = 1 := hml0
  have hown : s.vm.findClass "com/example/elliott_bay/elliottbay/value/AttributeType" = some m.cls := findClass_of_methodNamed Bd.named
  have hnm := (name_of_methodNamed Bd.named Bd.method).1
  have X0 : Stand p l e ({ frames := 1, cells := 0, slots := 0, locals := 12 } : Room) s m #[(.ref a1)] below meth c s₁ [] 0 0 := Stand.of_body Bd
  have e0 : s₁.heap = h0 := by rw [← hh, Bd.state]; rfl
  have N0 := Fr.nil n0
  have pre0 : ∀ t, Steps p.tables e below (s₁.setTop (mkF m 0 #[.val (.ref a1)] [])) t → Steps p.tables e below (s₁.setTop (entryFrame m #[(.ref a1)] 1)) t := fun t k => castTop (ef3 m a1) k
  obtain ⟨cq1, kq1, q1a, q1b, q1c⟩ := isOf hZ e0 E_a1
  obtain ⟨_, _, ⟨T1, L1, k1, n1⟩, -, X1, ⟨Lc1, hQ1, l1, y1, z1⟩, st1⟩ := X0.virtualBackUp hx (x := (⟨"com/example/elliott_bay/elliottbay/value/AttributeType", "ordinal", "()I"⟩ : MethodName)) (y := (⟨"java/lang/Enum", "ordinal", "()I"⟩ : MethodName)) hown (mvT hZ (hw _ (List.mem_of_getElem? (i := 46) rfl))) (mvT hZ (hw _ (List.mem_of_getElem? (i := 47) rfl))) (mvT hZ (hw _ (List.mem_of_getElem? (i := 48) rfl))) (by decide) (mvT hZ (hw _ (List.mem_of_getElem? (i := 50) rfl))) (mvT hZ (hw _ (List.mem_of_getElem? (i := 49) rfl))) (backOf (W := 0) (rm4 l Z a0 hw [] a1 w_ordinal_a1 h0 n0 (Nat.le_trans Z0 (Keep.refl h0 []).1) F_ordinal_a1 ) hZ (hw _ (List.mem_of_getElem? (i := 52) rfl)) (hw _ (List.mem_of_getElem? (i := 51) rfl)) (by decide) (by decide)) q1a q1c (g := (mkF m 1 #[.val (.ref a1)] [(.ref a1)])) rfl (by rw [hml]; rfl) (Steps.refl _) (argsL := []) (rest := []) (lenOf pd0 rfl) rfl (by show 2 * 0 + _ ≤ _; exact Nat.le_of_eq rfl) (hb hby d3_1) (fun _ _ => ⟨rfl, e0, (by decide : 0 + 0 ≤ _), (by decide : 0 + 0 ≤ _)⟩)
  dsimp only [Pt.U, Pt.locs, Pt.cells, Pt.slots] at X1 l1 y1 z1 st1 hQ1
  subst l1 y1 z1
  obtain ⟨rfl, rfl, e1⟩ := hQ1
  have N1 := Fr.app N0 (Fr.nil n0)
  have pre2 : ∀ t, Steps p.tables e below (T1.setTop (mkF m 4 #[.val (.ref a1)] [(.int w_ordinal_a1)])) t → Steps p.tables e below (s₁.setTop (entryFrame m #[(.ref a1)] 1)) t := by
    intro t kt
    refine pre0 _ ?_
    show Steps p.tables e below (s₁.setTop (mkF m 0 #[.val (.ref a1)] [])) _
    refine XS.aloadN X0.here hx rfl (hb hby d3_0) rfl rfl ?_
    show Steps p.tables e below (s₁.setTop (mkF m 1 #[.val (.ref a1)] [(.ref a1)])) _
    refine st1.trans ?_
    exact kt
  by_cases hs4_3 : w_ordinal_a1 = (7 : Int32)
  · obtain ⟨T4, X4, e4, st4⟩ := getS2 X1 hx hZ hown (host := "") (Or.inl (hw _ (List.mem_of_getElem? (i := 30) rfl))) Via.refl e1 S_S (g := (mkF m 32 #[.val (.ref a1)] [])) rfl (hb hby d3_32)
    obtain ⟨fs, hr, hrun, hended, hW, hsame⟩ := X4.leave (v := some (.ref w_S)) (fun h => by rw [Bd.returns] at h; cases h)
    refine ⟨_, _, pre2 _ ?_, hrun, hended, _, _, rfl, ?_, ⟨_, rfl⟩, hW, hsame.mono (by decide) (by decide)⟩
    · show Steps p.tables e below (T1.setTop (mkF m 4 #[.val (.ref a1)] [(.int w_ordinal_a1)])) _
      refine XS.tswIn X1.here hx rfl (pc0 := 4) (pc' := 32) (o := 28) rfl (hb hby d3_4) rfl (by rw [hs4_3]; decide) (by rw [hs4_3]; rfl) (by decide) (by decide) ?_
      show Steps p.tables e below (T1.setTop (mkF m 32 #[.val (.ref a1)] [])) _
      refine st4 _ ?_
      show Steps p.tables e below (T4.setTop (mkF m 35 #[.val (.ref a1)] [(.ref w_S)])) _
      refine XS.goto X4.here hx rfl (pc0 := 35) (pc' := 67) rfl (hb hby d3_35) (by decide) (by decide) ?_
      show Steps p.tables e below (T4.setTop (mkF m 67 #[.val (.ref a1)] [(.ref w_S)])) _
      exact retOut X4 hx Bd.returns rfl (Or.inr (Or.inr (Or.inr (Or.inr ⟨rfl, rfl, rfl⟩)))) (hb hby d3_67) hr
    · show Q3 Z a1 w_ordinal_a1 w_S w_N w_B h0 n0 _ T4.heap _
      rw [e4]
      exact ⟨by rw [res3, if_pos hs4_3], rfl, rfl⟩
  · by_cases hs4_5 : w_ordinal_a1 = (8 : Int32)
    · obtain ⟨T6, X6, e6, st6⟩ := getS2 X1 hx hZ hown (host := "") (Or.inl (hw _ (List.mem_of_getElem? (i := 39) rfl))) Via.refl e1 S_N (g := (mkF m 38 #[.val (.ref a1)] [])) rfl (hb hby d3_38)
      obtain ⟨fs, hr, hrun, hended, hW, hsame⟩ := X6.leave (v := some (.ref w_N)) (fun h => by rw [Bd.returns] at h; cases h)
      refine ⟨_, _, pre2 _ ?_, hrun, hended, _, _, rfl, ?_, ⟨_, rfl⟩, hW, hsame.mono (by decide) (by decide)⟩
      · show Steps p.tables e below (T1.setTop (mkF m 4 #[.val (.ref a1)] [(.int w_ordinal_a1)])) _
        refine XS.tswIn X1.here hx rfl (pc0 := 4) (pc' := 38) (o := 34) rfl (hb hby d3_4) rfl (by rw [hs4_5]; decide) (by rw [hs4_5]; rfl) (by decide) (by decide) ?_
        show Steps p.tables e below (T1.setTop (mkF m 38 #[.val (.ref a1)] [])) _
        refine st6 _ ?_
        show Steps p.tables e below (T6.setTop (mkF m 41 #[.val (.ref a1)] [(.ref w_N)])) _
        refine XS.goto X6.here hx rfl (pc0 := 41) (pc' := 67) rfl (hb hby d3_41) (by decide) (by decide) ?_
        show Steps p.tables e below (T6.setTop (mkF m 67 #[.val (.ref a1)] [(.ref w_N)])) _
        exact retOut X6 hx Bd.returns rfl (Or.inr (Or.inr (Or.inr (Or.inr ⟨rfl, rfl, rfl⟩)))) (hb hby d3_67) hr
      · show Q3 Z a1 w_ordinal_a1 w_S w_N w_B h0 n0 _ T6.heap _
        rw [e6]
        exact ⟨by rw [res3, if_neg hs4_3, if_pos hs4_5], rfl, rfl⟩
    · by_cases hs4_7 : w_ordinal_a1 = (9 : Int32)
      · obtain ⟨T8, X8, e8, st8⟩ := getS2 X1 hx hZ hown (host := "") (Or.inl (hw _ (List.mem_of_getElem? (i := 40) rfl))) Via.refl e1 S_B (g := (mkF m 44 #[.val (.ref a1)] [])) rfl (hb hby d3_44)
        obtain ⟨fs, hr, hrun, hended, hW, hsame⟩ := X8.leave (v := some (.ref w_B)) (fun h => by rw [Bd.returns] at h; cases h)
        refine ⟨_, _, pre2 _ ?_, hrun, hended, _, _, rfl, ?_, ⟨_, rfl⟩, hW, hsame.mono (by decide) (by decide)⟩
        · show Steps p.tables e below (T1.setTop (mkF m 4 #[.val (.ref a1)] [(.int w_ordinal_a1)])) _
          refine XS.tswIn X1.here hx rfl (pc0 := 4) (pc' := 44) (o := 40) rfl (hb hby d3_4) rfl (by rw [hs4_7]; decide) (by rw [hs4_7]; rfl) (by decide) (by decide) ?_
          show Steps p.tables e below (T1.setTop (mkF m 44 #[.val (.ref a1)] [])) _
          refine st8 _ ?_
          show Steps p.tables e below (T8.setTop (mkF m 47 #[.val (.ref a1)] [(.ref w_B)])) _
          refine XS.goto X8.here hx rfl (pc0 := 47) (pc' := 67) rfl (hb hby d3_47) (by decide) (by decide) ?_
          show Steps p.tables e below (T8.setTop (mkF m 67 #[.val (.ref a1)] [(.ref w_B)])) _
          exact retOut X8 hx Bd.returns rfl (Or.inr (Or.inr (Or.inr (Or.inr ⟨rfl, rfl, rfl⟩)))) (hb hby d3_67) hr
        · show Q3 Z a1 w_ordinal_a1 w_S w_N w_B h0 n0 _ T8.heap _
          rw [e8]
          exact ⟨by rw [res3, if_neg hs4_3, if_neg hs4_5], rfl, rfl⟩
      · exfalso
        rcases hdef with h | h | h <;> simp_all
theorem own_range_10 {i : Int32} (h0 : 0 ≤ i.toInt) (h1 : i.toInt < 10) : i = (0 : Int32) ∨ i = (1 : Int32) ∨ i = (2 : Int32) ∨ i = (3 : Int32) ∨ i = (4 : Int32) ∨ i = (5 : Int32) ∨ i = (6 : Int32) ∨ i = (7 : Int32) ∨ i = (8 : Int32) ∨ i = (9 : Int32) := by
  have h : i.toInt = 0 ∨ i.toInt = 1 ∨ i.toInt = 2 ∨ i.toInt = 3 ∨ i.toInt = 4 ∨ i.toInt = 5 ∨ i.toInt = 6 ∨ i.toInt = 7 ∨ i.toInt = 8 ∨ i.toInt = 9 := by omega
  rcases h with h | h | h | h | h | h | h | h | h | h
  · exact Or.inl (Int32.toInt_inj.mp (h.trans (by decide)))
  · exact Or.inr (Or.inl (Int32.toInt_inj.mp (h.trans (by decide))))
  · exact Or.inr (Or.inr (Or.inl (Int32.toInt_inj.mp (h.trans (by decide)))))
  · exact Or.inr (Or.inr (Or.inr (Or.inl (Int32.toInt_inj.mp (h.trans (by decide))))))
  · exact Or.inr (Or.inr (Or.inr (Or.inr (Or.inl (Int32.toInt_inj.mp (h.trans (by decide)))))))
  · exact Or.inr (Or.inr (Or.inr (Or.inr (Or.inr (Or.inl (Int32.toInt_inj.mp (h.trans (by decide))))))))
  · exact Or.inr (Or.inr (Or.inr (Or.inr (Or.inr (Or.inr (Or.inl (Int32.toInt_inj.mp (h.trans (by decide)))))))))
  · exact Or.inr (Or.inr (Or.inr (Or.inr (Or.inr (Or.inr (Or.inr (Or.inl (Int32.toInt_inj.mp (h.trans (by decide))))))))))
  · exact Or.inr (Or.inr (Or.inr (Or.inr (Or.inr (Or.inr (Or.inr (Or.inr (Or.inl (Int32.toInt_inj.mp (h.trans (by decide)))))))))))
  · exact Or.inr (Or.inr (Or.inr (Or.inr (Or.inr (Or.inr (Or.inr (Or.inr (Or.inr ((Int32.toInt_inj.mp (h.trans (by decide))))))))))))
theorem own_rng (p1 : Int32) : 0 ≤ (((p1 &&& (2147483647 : Int32)) % (10 : Int32))).toInt ∧ (((p1 &&& (2147483647 : Int32)) % (10 : Int32))).toInt < 10 := by
  have e1 : (p1 &&& (2147483647 : Int32)).toInt = p1.toInt % (2 ^ 31 : Nat) := c_mask p1 _ 31 (by decide) (by decide)
  have e2 := (c_irem (p1 &&& (2147483647 : Int32)) 10 10 (by decide)).1 (by omega)
  omega
def own_pick (i : Int32) (w_S w_N w_B w_BOOL w_NULL w_M w_L w_SS w_NS w_BS : Addr) : Addr := if i = (0 : Int32) then w_S else if i = (1 : Int32) then w_N else if i = (2 : Int32) then w_B else if i = (3 : Int32) then w_BOOL else if i = (4 : Int32) then w_NULL else if i = (5 : Int32) then w_M else if i = (6 : Int32) then w_L else if i = (7 : Int32) then w_SS else if i = (8 : Int32) then w_NS else w_BS
theorem own_at {i : Int32} (h0 : 0 ≤ i.toInt) (h1 : i.toInt < 10) (w_S w_N w_B w_BOOL w_NULL w_M w_L w_SS w_NS w_BS : Addr) : ([.ref w_S, .ref w_N, .ref w_B, .ref w_BOOL, .ref w_NULL, .ref w_M, .ref w_L, .ref w_SS, .ref w_NS, .ref w_BS] : List Value).getD i.toNatClampNeg .null = .ref (own_pick i w_S w_N w_B w_BOOL w_NULL w_M w_L w_SS w_NS w_BS) := by
  rcases own_range_10 h0 h1 with rfl | rfl | rfl | rfl | rfl | rfl | rfl | rfl | rfl | rfl <;> rfl
theorem own_inb {i : Int32} (h0 : 0 ≤ i.toInt) (h1 : i.toInt < 10) : ¬ i < 0 ∧ i < (10 : Int32) := by
  rw [Int32.lt_iff_toInt_lt, Int32.lt_iff_toInt_lt]
  have e0 : (0 : Int32).toInt = 0 := by decide
  have e1 : (10 : Int32).toInt = 10 := by decide
  omega
theorem own_exa {Z : State} {h : Heap} (i : Int32) (w_S w_N w_B w_BOOL w_NULL w_M w_L w_SS w_NS w_BS : Addr) (E_S : Exa Z h w_S "com/example/elliott_bay/elliottbay/value/AttributeType") (E_N : Exa Z h w_N "com/example/elliott_bay/elliottbay/value/AttributeType") (E_B : Exa Z h w_B "com/example/elliott_bay/elliottbay/value/AttributeType") (E_BOOL : Exa Z h w_BOOL "com/example/elliott_bay/elliottbay/value/AttributeType") (E_NULL : Exa Z h w_NULL "com/example/elliott_bay/elliottbay/value/AttributeType") (E_M : Exa Z h w_M "com/example/elliott_bay/elliottbay/value/AttributeType") (E_L : Exa Z h w_L "com/example/elliott_bay/elliottbay/value/AttributeType") (E_SS : Exa Z h w_SS "com/example/elliott_bay/elliottbay/value/AttributeType") (E_NS : Exa Z h w_NS "com/example/elliott_bay/elliottbay/value/AttributeType") (E_BS : Exa Z h w_BS "com/example/elliott_bay/elliottbay/value/AttributeType") : Exa Z h (own_pick i w_S w_N w_B w_BOOL w_NULL w_M w_L w_SS w_NS w_BS) "com/example/elliott_bay/elliottbay/value/AttributeType" := by
  unfold own_pick
  repeat' split
  all_goals assumption
theorem own_ord {Z : State} {h : Heap} (i : Int32) (h0 : 0 ≤ i.toInt) (h1 : i.toInt < 10) (w_S w_N w_B w_BOOL w_NULL w_M w_L w_SS w_NS w_BS : Addr) (F_S : Fld Z h w_S "java/lang/Enum" "ordinal" "I" (.int (0 : Int32))) (F_N : Fld Z h w_N "java/lang/Enum" "ordinal" "I" (.int (1 : Int32))) (F_B : Fld Z h w_B "java/lang/Enum" "ordinal" "I" (.int (2 : Int32))) (F_BOOL : Fld Z h w_BOOL "java/lang/Enum" "ordinal" "I" (.int (3 : Int32))) (F_NULL : Fld Z h w_NULL "java/lang/Enum" "ordinal" "I" (.int (4 : Int32))) (F_M : Fld Z h w_M "java/lang/Enum" "ordinal" "I" (.int (5 : Int32))) (F_L : Fld Z h w_L "java/lang/Enum" "ordinal" "I" (.int (6 : Int32))) (F_SS : Fld Z h w_SS "java/lang/Enum" "ordinal" "I" (.int (7 : Int32))) (F_NS : Fld Z h w_NS "java/lang/Enum" "ordinal" "I" (.int (8 : Int32))) (F_BS : Fld Z h w_BS "java/lang/Enum" "ordinal" "I" (.int (9 : Int32))) : Fld Z h (own_pick i w_S w_N w_B w_BOOL w_NULL w_M w_L w_SS w_NS w_BS) "java/lang/Enum" "ordinal" "I" (.int i) := by
  rcases own_range_10 h0 h1 with rfl | rfl | rfl | rfl | rfl | rfl | rfl | rfl | rfl | rfl <;> assumption
theorem own_def (i : Int32) (h0 : 0 ≤ i.toInt) (h1 : i.toInt < 10) (h : ¬ i < (7 : Int32)) : i = (7 : Int32) ∨ i = (8 : Int32) ∨ i = (9 : Int32) := by
  rcases own_range_10 h0 h1 with rfl | rfl | rfl | rfl | rfl | rfl | rfl | rfl | rfl | rfl <;> first | decide | exact absurd (by decide) h
theorem own_exa3 {Z : State} {h : Heap} (i : Int32) (w_S w_N w_B : Addr) (E_S : Exa Z h w_S "com/example/elliott_bay/elliottbay/value/AttributeType") (E_N : Exa Z h w_N "com/example/elliott_bay/elliottbay/value/AttributeType") (E_B : Exa Z h w_B "com/example/elliott_bay/elliottbay/value/AttributeType") : Exa Z h (res3 i w_S w_N w_B) "com/example/elliott_bay/elliottbay/value/AttributeType" := by
  unfold res3
  repeat' split
  all_goals assumption
def mg0_90_s0 (p1 : Int32) : Int32 := if ((p1 &&& (2147483647 : Int32)) % (10 : Int32)) < (3 : Int32) then (1 : Int32) else (0 : Int32)
def res0 (p1 : Int32) (w_S : Addr) (w_N : Addr) (w_B : Addr) (w_BOOL : Addr) (w_NULL : Addr) (w_M : Addr) (w_L : Addr) (w_SS : Addr) (w_NS : Addr) (w_BS : Addr) : Int32 := if (res1 (own_pick ((p1 &&& (2147483647 : Int32)) % (10 : Int32)) w_S w_N w_B w_BOOL w_NULL w_M w_L w_SS w_NS w_BS) w_S w_N w_B) = (mg0_90_s0 p1) then (if (res1 (own_pick ((p1 &&& (2147483647 : Int32)) % (10 : Int32)) w_S w_N w_B w_BOOL w_NULL w_M w_L w_SS w_NS w_BS) w_S w_N w_B) = (0 : Int32) then (if ((p1 &&& (2147483647 : Int32)) % (10 : Int32)) < (7 : Int32) then (1 : Int32) else if (res1 (res3 ((p1 &&& (2147483647 : Int32)) % (10 : Int32)) w_S w_N w_B) w_S w_N w_B) = (0 : Int32) then (0 : Int32) else (1 : Int32)) else if (res2 (own_pick ((p1 &&& (2147483647 : Int32)) % (10 : Int32)) w_S w_N w_B w_BOOL w_NULL w_M w_L w_SS w_NS w_BS) w_SS w_NS w_BS) = (0 : Int32) then (if ((p1 &&& (2147483647 : Int32)) % (10 : Int32)) < (7 : Int32) then (1 : Int32) else if (res1 (res3 ((p1 &&& (2147483647 : Int32)) % (10 : Int32)) w_S w_N w_B) w_S w_N w_B) = (0 : Int32) then (0 : Int32) else (1 : Int32)) else (0 : Int32)) else (0 : Int32)
theorem pd1 : parseMethodDescriptor "()Z" = some ⟨[], some .boolean⟩ := by decide +kernel
theorem pd2 : parseMethodDescriptor "()Lcom/example/elliott_bay/elliottbay/value/AttributeType;" = some ⟨[], some (.object "com/example/elliott_bay/elliottbay/value/AttributeType")⟩ := by decide +kernel
theorem pn2 : plainName "com/example/elliott_bay/elliottbay/value/AttributeTypeIsScalarPinLaw" = true := by first | (simp [plainName, overriddenIn]; done) | decide +kernel
theorem ef0 (m : MethodId) (p1 : Int32) : entryFrame m #[(.int p1)] maxLocals = (mkF m 0 #[.val (.int p1), .unset, .unset, .unset, .unset, .unset] []) := by first | (simp [entryFrame, mkF, argsToLocals, Value.category, maxLocals]; done) | rfl
def Q0 (Z : State) (p1 : Int32) (w_S : Addr) (w_N : Addr) (w_B : Addr) (w_BOOL : Addr) (w_NULL : Addr) (w_M : Addr) (w_L : Addr) (w_SS : Addr) (w_NS : Addr) (w_BS : Addr) (h0 : Heap) (n0 : Nat) (v : Option Value) (h : Heap) (L : List Loc) : Prop := v = some (.int (res0 p1 w_S w_N w_B w_BOOL w_NULL w_M w_L w_SS w_NS w_BS)) ∧ Fr n0 L
set_option maxRecDepth 65536 in
set_option maxHeartbeats 40000000 in
theorem rm0 (l : Launch) (Z : State) (a0 : Array Value) (hw : ∀ d ∈ tables_1, d.before a0 Z = true) (ws : List Jvm.Cond) (p1 : Int32) (w_S : Addr) (w_N : Addr) (w_B : Addr) (w_BOOL : Addr) (w_NULL : Addr) (w_M : Addr) (w_L : Addr) (w_SS : Addr) (w_NS : Addr) (w_BS : Addr) (h0 : Heap) (n0 : Nat) (Z0 : n0 ≤ h0.size) (S_S : Sta Z h0 "com/example/elliott_bay/elliottbay/value/AttributeType" "S" "Lcom/example/elliott_bay/elliottbay/value/AttributeType;" (.ref w_S)) (E_w_S : Exa Z h0 w_S "com/example/elliott_bay/elliottbay/value/AttributeType") (S_N : Sta Z h0 "com/example/elliott_bay/elliottbay/value/AttributeType" "N" "Lcom/example/elliott_bay/elliottbay/value/AttributeType;" (.ref w_N)) (E_w_N : Exa Z h0 w_N "com/example/elliott_bay/elliottbay/value/AttributeType") (S_B : Sta Z h0 "com/example/elliott_bay/elliottbay/value/AttributeType" "B" "Lcom/example/elliott_bay/elliottbay/value/AttributeType;" (.ref w_B)) (E_w_B : Exa Z h0 w_B "com/example/elliott_bay/elliottbay/value/AttributeType") (S_BOOL : Sta Z h0 "com/example/elliott_bay/elliottbay/value/AttributeType" "BOOL" "Lcom/example/elliott_bay/elliottbay/value/AttributeType;" (.ref w_BOOL)) (E_w_BOOL : Exa Z h0 w_BOOL "com/example/elliott_bay/elliottbay/value/AttributeType") (S_NULL : Sta Z h0 "com/example/elliott_bay/elliottbay/value/AttributeType" "NULL" "Lcom/example/elliott_bay/elliottbay/value/AttributeType;" (.ref w_NULL)) (E_w_NULL : Exa Z h0 w_NULL "com/example/elliott_bay/elliottbay/value/AttributeType") (S_M : Sta Z h0 "com/example/elliott_bay/elliottbay/value/AttributeType" "M" "Lcom/example/elliott_bay/elliottbay/value/AttributeType;" (.ref w_M)) (E_w_M : Exa Z h0 w_M "com/example/elliott_bay/elliottbay/value/AttributeType") (S_L : Sta Z h0 "com/example/elliott_bay/elliottbay/value/AttributeType" "L" "Lcom/example/elliott_bay/elliottbay/value/AttributeType;" (.ref w_L)) (E_w_L : Exa Z h0 w_L "com/example/elliott_bay/elliottbay/value/AttributeType") (S_SS : Sta Z h0 "com/example/elliott_bay/elliottbay/value/AttributeType" "SS" "Lcom/example/elliott_bay/elliottbay/value/AttributeType;" (.ref w_SS)) (E_w_SS : Exa Z h0 w_SS "com/example/elliott_bay/elliottbay/value/AttributeType") (S_NS : Sta Z h0 "com/example/elliott_bay/elliottbay/value/AttributeType" "NS" "Lcom/example/elliott_bay/elliottbay/value/AttributeType;" (.ref w_NS)) (E_w_NS : Exa Z h0 w_NS "com/example/elliott_bay/elliottbay/value/AttributeType") (S_BS : Sta Z h0 "com/example/elliott_bay/elliottbay/value/AttributeType" "BS" "Lcom/example/elliott_bay/elliottbay/value/AttributeType;" (.ref w_BS)) (E_w_BS : Exa Z h0 w_BS "com/example/elliott_bay/elliottbay/value/AttributeType") (F_ordinal_w_S : Fld Z h0 w_S "java/lang/Enum" "ordinal" "I" (.int (0 : Int32))) (F_ordinal_w_N : Fld Z h0 w_N "java/lang/Enum" "ordinal" "I" (.int (1 : Int32))) (F_ordinal_w_B : Fld Z h0 w_B "java/lang/Enum" "ordinal" "I" (.int (2 : Int32))) (F_ordinal_w_BOOL : Fld Z h0 w_BOOL "java/lang/Enum" "ordinal" "I" (.int (3 : Int32))) (F_ordinal_w_NULL : Fld Z h0 w_NULL "java/lang/Enum" "ordinal" "I" (.int (4 : Int32))) (F_ordinal_w_M : Fld Z h0 w_M "java/lang/Enum" "ordinal" "I" (.int (5 : Int32))) (F_ordinal_w_L : Fld Z h0 w_L "java/lang/Enum" "ordinal" "I" (.int (6 : Int32))) (F_ordinal_w_SS : Fld Z h0 w_SS "java/lang/Enum" "ordinal" "I" (.int (7 : Int32))) (F_ordinal_w_NS : Fld Z h0 w_NS "java/lang/Enum" "ordinal" "I" (.int (8 : Int32))) (F_ordinal_w_BS : Fld Z h0 w_BS "java/lang/Enum" "ordinal" "I" (.int (9 : Int32))) :
    MetFree l x (head1 (Jvm.Cond.code x code maxLocals ret :: ws) room_1) (fun a U => a = #[(.int p1)] ∧ Z.Warmed39 U.vm ∧ U.heap = h0) (fun _ _ _ _ _ => True) (fun _ U o U' => ∃ v L, o = .returned v ∧ Q0 Z p1 w_S w_N w_B w_BOOL w_NULL w_M w_L w_SS w_NS w_BS h0 n0 v U'.heap L ∧ FrameEnd U o U' L room_1.cells room_1.slots) := by
  refine MetFree.of_bodySF (plainFor_of_name pn2) hisR ?_
  intro p e s m args below meth c s₁ Bd hml0 hP hK
  obtain ⟨rfl, hZ, hh⟩ := hP
  have hx := Bd.exec
  have hby := Bd.bytes
  have hml : c.maxLocals = 6 := hml0
  have hown : s.vm.findClass "com/example/elliott_bay/elliottbay/value/AttributeTypeIsScalarPinLaw" = some m.cls := findClass_of_methodNamed Bd.named
  have hnm := (name_of_methodNamed Bd.named Bd.method).1
  have X0 : Stand p l e room_1 s m #[(.int p1)] below meth c s₁ [] 0 0 := Stand.of_body Bd
  have e0 : s₁.heap = h0 := by rw [← hh, Bd.state]; rfl
  have N0 := Fr.nil n0
  have pre0 : ∀ t, Steps p.tables e below (s₁.setTop (mkF m 0 #[.val (.int p1), .unset, .unset, .unset, .unset, .unset] [])) t → Steps p.tables e below (s₁.setTop (entryFrame m #[(.int p1)] maxLocals)) t := fun t k => castTop (ef0 m p1) k
  obtain ⟨T1, h1, k1, X1, e1, E1, A1, O1, st1⟩ := newR X0 hx hZ hown (hw _ (List.mem_of_getElem? (i := 0) rfl)) (hw _ (List.mem_of_getElem? (i := 1) rfl)) e0 (g := (mkF m 2 #[.val (.int p1), .unset, .unset, .unset, .unset, .unset] [(.int (10 : Int32))])) rfl (hb hby at_2) rfl (by decide) (cap := 10) (by decide) (by decide) (by decide) (by decide)
  obtain ⟨b1, g1⟩ : ∃ z, z = h0.size := ⟨_, rfl⟩
  rw [← g1] at A1 st1
  have sz_b1 : h0.size ≤ b1 := Nat.le_trans (Keep.refl h0 []).1 (Nat.le_of_eq g1.symm)
  have g_b1 : n0 ≤ b1 := Nat.le_trans Z0 sz_b1
  have K1 : Keep h0 h1 [] := (Keep.refl h0 []).ext E1
  have V_b1 : Arv Z h1 b1 k1 (.object "com/example/elliott_bay/elliottbay/value/AttributeType") (10 : Int32) [.null, .null, .null, .null, .null, .null, .null, .null, .null, .null] .null := (Arv.new A1 (by decide)).pad (pad_rep [] .null 10)
  obtain ⟨T2, X2, e2, st2⟩ := getS2 X1 hx hZ hown (host := "") (Or.inl (hw _ (List.mem_of_getElem? (i := 2) rfl))) Via.refl e1 (S_S.ext E1) (g := (mkF m 7 #[.val (.int p1), .unset, .unset, .unset, .unset, .unset] [(.int (0 : Int32)), (.ref b1), (.ref b1)])) rfl (hb hby at_7)
  obtain ⟨cl_b1_10_3, Ar_b1_10_3, q_b1_10_3, S_b1_10_3, N_b1_10_3, H_b1_10_3, G_b1_10_3⟩ := id V_b1
  have hin_b1_10_3 : ¬ ((0 : Int32) < 0 ∨ cl_b1_10_3.slots.size ≤ ((0 : Int32) : Int32).toNatClampNeg) := inb_of S_b1_10_3 ⟨by decide, by decide⟩
  obtain ⟨T4, h4, X4, e4, W4, st4⟩ := stR X2 hx hZ e2 Ar_b1_10_3 (j := (0 : Int32)) hin_b1_10_3 rfl (Sto.ofV Ar_b1_10_3 q_b1_10_3 O1 (Ins.self (E_w_S.ext E1))) (g := (mkF m 10 #[.val (.int p1), .unset, .unset, .unset, .unset, .unset] [(.ref w_S), (.int (0 : Int32)), (.ref b1), (.ref b1)])) rfl rfl (hb hby at_10)
  have V_b1_10_3 : Arv Z h4 b1 k1 (.object "com/example/elliott_bay/elliottbay/value/AttributeType") (10 : Int32) [(.ref w_S), .null, .null, .null, .null, .null, .null, .null, .null, .null] .null := Arv.set Ar_b1_10_3 q_b1_10_3 S_b1_10_3 N_b1_10_3 H_b1_10_3 G_b1_10_3 rfl W4 0 rfl (Nat.le_of_ble_eq_true rfl)
  have K4 : Keep h0 h4 [] := K1.wr W4 (Or.inr sz_b1)
  have N4 := Fr.snoc X4 N0 g_b1
  obtain ⟨T5, X5, e5, st5⟩ := getS2 X4 hx hZ hown (host := "") (Or.inl (hw _ (List.mem_of_getElem? (i := 6) rfl))) Via.refl e4 ((S_N.ext E1).wr W4) (g := (mkF m 13 #[.val (.int p1), .unset, .unset, .unset, .unset, .unset] [(.int (1 : Int32)), (.ref b1), (.ref b1)])) rfl (hb hby at_13)
  obtain ⟨cl_b1_16_6, Ar_b1_16_6, q_b1_16_6, S_b1_16_6, N_b1_16_6, H_b1_16_6, G_b1_16_6⟩ := id V_b1_10_3
  have hin_b1_16_6 : ¬ ((1 : Int32) < 0 ∨ cl_b1_16_6.slots.size ≤ ((1 : Int32) : Int32).toNatClampNeg) := inb_of S_b1_16_6 ⟨by decide, by decide⟩
  obtain ⟨T7, h7, X7, e7, W7, st7⟩ := stR X5 hx hZ e5 Ar_b1_16_6 (j := (1 : Int32)) hin_b1_16_6 rfl (Sto.ofV Ar_b1_16_6 q_b1_16_6 O1 (Ins.self ((E_w_N.ext E1).wr W4))) (g := (mkF m 16 #[.val (.int p1), .unset, .unset, .unset, .unset, .unset] [(.ref w_N), (.int (1 : Int32)), (.ref b1), (.ref b1)])) rfl rfl (hb hby at_16)
  have V_b1_16_6 : Arv Z h7 b1 k1 (.object "com/example/elliott_bay/elliottbay/value/AttributeType") (10 : Int32) [(.ref w_S), (.ref w_N), .null, .null, .null, .null, .null, .null, .null, .null] .null := Arv.set Ar_b1_16_6 q_b1_16_6 S_b1_16_6 N_b1_16_6 H_b1_16_6 G_b1_16_6 rfl W7 1 rfl (Nat.le_of_ble_eq_true rfl)
  have K7 : Keep h0 h7 [] := K4.wr W7 (Or.inr sz_b1)
  have N7 := Fr.snoc X7 N4 g_b1
  obtain ⟨T8, X8, e8, st8⟩ := getS2 X7 hx hZ hown (host := "") (Or.inl (hw _ (List.mem_of_getElem? (i := 8) rfl))) Via.refl e7 (((S_B.ext E1).wr W4).wr W7) (g := (mkF m 19 #[.val (.int p1), .unset, .unset, .unset, .unset, .unset] [(.int (2 : Int32)), (.ref b1), (.ref b1)])) rfl (hb hby at_19)
  obtain ⟨cl_b1_22_9, Ar_b1_22_9, q_b1_22_9, S_b1_22_9, N_b1_22_9, H_b1_22_9, G_b1_22_9⟩ := id V_b1_16_6
  have hin_b1_22_9 : ¬ ((2 : Int32) < 0 ∨ cl_b1_22_9.slots.size ≤ ((2 : Int32) : Int32).toNatClampNeg) := inb_of S_b1_22_9 ⟨by decide, by decide⟩
  obtain ⟨T10, h10, X10, e10, W10, st10⟩ := stR X8 hx hZ e8 Ar_b1_22_9 (j := (2 : Int32)) hin_b1_22_9 rfl (Sto.ofV Ar_b1_22_9 q_b1_22_9 O1 (Ins.self (((E_w_B.ext E1).wr W4).wr W7))) (g := (mkF m 22 #[.val (.int p1), .unset, .unset, .unset, .unset, .unset] [(.ref w_B), (.int (2 : Int32)), (.ref b1), (.ref b1)])) rfl rfl (hb hby at_22)
  have V_b1_22_9 : Arv Z h10 b1 k1 (.object "com/example/elliott_bay/elliottbay/value/AttributeType") (10 : Int32) [(.ref w_S), (.ref w_N), (.ref w_B), .null, .null, .null, .null, .null, .null, .null] .null := Arv.set Ar_b1_22_9 q_b1_22_9 S_b1_22_9 N_b1_22_9 H_b1_22_9 G_b1_22_9 rfl W10 2 rfl (Nat.le_of_ble_eq_true rfl)
  have K10 : Keep h0 h10 [] := K7.wr W10 (Or.inr sz_b1)
  have N10 := Fr.snoc X10 N7 g_b1
  obtain ⟨T11, X11, e11, st11⟩ := getS2 X10 hx hZ hown (host := "") (Or.inl (hw _ (List.mem_of_getElem? (i := 10) rfl))) Via.refl e10 ((((S_BOOL.ext E1).wr W4).wr W7).wr W10) (g := (mkF m 25 #[.val (.int p1), .unset, .unset, .unset, .unset, .unset] [(.int (3 : Int32)), (.ref b1), (.ref b1)])) rfl (hb hby at_25)
  obtain ⟨cl_b1_28_12, Ar_b1_28_12, q_b1_28_12, S_b1_28_12, N_b1_28_12, H_b1_28_12, G_b1_28_12⟩ := id V_b1_22_9
  have hin_b1_28_12 : ¬ ((3 : Int32) < 0 ∨ cl_b1_28_12.slots.size ≤ ((3 : Int32) : Int32).toNatClampNeg) := inb_of S_b1_28_12 ⟨by decide, by decide⟩
  obtain ⟨T13, h13, X13, e13, W13, st13⟩ := stR X11 hx hZ e11 Ar_b1_28_12 (j := (3 : Int32)) hin_b1_28_12 rfl (Sto.ofV Ar_b1_28_12 q_b1_28_12 O1 (Ins.self ((((E_w_BOOL.ext E1).wr W4).wr W7).wr W10))) (g := (mkF m 28 #[.val (.int p1), .unset, .unset, .unset, .unset, .unset] [(.ref w_BOOL), (.int (3 : Int32)), (.ref b1), (.ref b1)])) rfl rfl (hb hby at_28)
  have V_b1_28_12 : Arv Z h13 b1 k1 (.object "com/example/elliott_bay/elliottbay/value/AttributeType") (10 : Int32) [(.ref w_S), (.ref w_N), (.ref w_B), (.ref w_BOOL), .null, .null, .null, .null, .null, .null] .null := Arv.set Ar_b1_28_12 q_b1_28_12 S_b1_28_12 N_b1_28_12 H_b1_28_12 G_b1_28_12 rfl W13 3 rfl (Nat.le_of_ble_eq_true rfl)
  have K13 : Keep h0 h13 [] := K10.wr W13 (Or.inr sz_b1)
  have N13 := Fr.snoc X13 N10 g_b1
  obtain ⟨T14, X14, e14, st14⟩ := getS2 X13 hx hZ hown (host := "") (Or.inl (hw _ (List.mem_of_getElem? (i := 12) rfl))) Via.refl e13 (((((S_NULL.ext E1).wr W4).wr W7).wr W10).wr W13) (g := (mkF m 31 #[.val (.int p1), .unset, .unset, .unset, .unset, .unset] [(.int (4 : Int32)), (.ref b1), (.ref b1)])) rfl (hb hby at_31)
  obtain ⟨cl_b1_34_15, Ar_b1_34_15, q_b1_34_15, S_b1_34_15, N_b1_34_15, H_b1_34_15, G_b1_34_15⟩ := id V_b1_28_12
  have hin_b1_34_15 : ¬ ((4 : Int32) < 0 ∨ cl_b1_34_15.slots.size ≤ ((4 : Int32) : Int32).toNatClampNeg) := inb_of S_b1_34_15 ⟨by decide, by decide⟩
  obtain ⟨T16, h16, X16, e16, W16, st16⟩ := stR X14 hx hZ e14 Ar_b1_34_15 (j := (4 : Int32)) hin_b1_34_15 rfl (Sto.ofV Ar_b1_34_15 q_b1_34_15 O1 (Ins.self (((((E_w_NULL.ext E1).wr W4).wr W7).wr W10).wr W13))) (g := (mkF m 34 #[.val (.int p1), .unset, .unset, .unset, .unset, .unset] [(.ref w_NULL), (.int (4 : Int32)), (.ref b1), (.ref b1)])) rfl rfl (hb hby at_34)
  have V_b1_34_15 : Arv Z h16 b1 k1 (.object "com/example/elliott_bay/elliottbay/value/AttributeType") (10 : Int32) [(.ref w_S), (.ref w_N), (.ref w_B), (.ref w_BOOL), (.ref w_NULL), .null, .null, .null, .null, .null] .null := Arv.set Ar_b1_34_15 q_b1_34_15 S_b1_34_15 N_b1_34_15 H_b1_34_15 G_b1_34_15 rfl W16 4 rfl (Nat.le_of_ble_eq_true rfl)
  have K16 : Keep h0 h16 [] := K13.wr W16 (Or.inr sz_b1)
  have N16 := Fr.snoc X16 N13 g_b1
  obtain ⟨T17, X17, e17, st17⟩ := getS2 X16 hx hZ hown (host := "") (Or.inl (hw _ (List.mem_of_getElem? (i := 14) rfl))) Via.refl e16 ((((((S_M.ext E1).wr W4).wr W7).wr W10).wr W13).wr W16) (g := (mkF m 37 #[.val (.int p1), .unset, .unset, .unset, .unset, .unset] [(.int (5 : Int32)), (.ref b1), (.ref b1)])) rfl (hb hby at_37)
  obtain ⟨cl_b1_40_18, Ar_b1_40_18, q_b1_40_18, S_b1_40_18, N_b1_40_18, H_b1_40_18, G_b1_40_18⟩ := id V_b1_34_15
  have hin_b1_40_18 : ¬ ((5 : Int32) < 0 ∨ cl_b1_40_18.slots.size ≤ ((5 : Int32) : Int32).toNatClampNeg) := inb_of S_b1_40_18 ⟨by decide, by decide⟩
  obtain ⟨T19, h19, X19, e19, W19, st19⟩ := stR X17 hx hZ e17 Ar_b1_40_18 (j := (5 : Int32)) hin_b1_40_18 rfl (Sto.ofV Ar_b1_40_18 q_b1_40_18 O1 (Ins.self ((((((E_w_M.ext E1).wr W4).wr W7).wr W10).wr W13).wr W16))) (g := (mkF m 40 #[.val (.int p1), .unset, .unset, .unset, .unset, .unset] [(.ref w_M), (.int (5 : Int32)), (.ref b1), (.ref b1)])) rfl rfl (hb hby at_40)
  have V_b1_40_18 : Arv Z h19 b1 k1 (.object "com/example/elliott_bay/elliottbay/value/AttributeType") (10 : Int32) [(.ref w_S), (.ref w_N), (.ref w_B), (.ref w_BOOL), (.ref w_NULL), (.ref w_M), .null, .null, .null, .null] .null := Arv.set Ar_b1_40_18 q_b1_40_18 S_b1_40_18 N_b1_40_18 H_b1_40_18 G_b1_40_18 rfl W19 5 rfl (Nat.le_of_ble_eq_true rfl)
  have K19 : Keep h0 h19 [] := K16.wr W19 (Or.inr sz_b1)
  have N19 := Fr.snoc X19 N16 g_b1
  obtain ⟨T20, X20, e20, st20⟩ := getS2 X19 hx hZ hown (host := "") (Or.inl (hw _ (List.mem_of_getElem? (i := 16) rfl))) Via.refl e19 (((((((S_L.ext E1).wr W4).wr W7).wr W10).wr W13).wr W16).wr W19) (g := (mkF m 44 #[.val (.int p1), .unset, .unset, .unset, .unset, .unset] [(.int (6 : Int32)), (.ref b1), (.ref b1)])) rfl (hb hby at_44)
  obtain ⟨cl_b1_47_21, Ar_b1_47_21, q_b1_47_21, S_b1_47_21, N_b1_47_21, H_b1_47_21, G_b1_47_21⟩ := id V_b1_40_18
  have hin_b1_47_21 : ¬ ((6 : Int32) < 0 ∨ cl_b1_47_21.slots.size ≤ ((6 : Int32) : Int32).toNatClampNeg) := inb_of S_b1_47_21 ⟨by decide, by decide⟩
  obtain ⟨T22, h22, X22, e22, W22, st22⟩ := stR X20 hx hZ e20 Ar_b1_47_21 (j := (6 : Int32)) hin_b1_47_21 rfl (Sto.ofV Ar_b1_47_21 q_b1_47_21 O1 (Ins.self (((((((E_w_L.ext E1).wr W4).wr W7).wr W10).wr W13).wr W16).wr W19))) (g := (mkF m 47 #[.val (.int p1), .unset, .unset, .unset, .unset, .unset] [(.ref w_L), (.int (6 : Int32)), (.ref b1), (.ref b1)])) rfl rfl (hb hby at_47)
  have V_b1_47_21 : Arv Z h22 b1 k1 (.object "com/example/elliott_bay/elliottbay/value/AttributeType") (10 : Int32) [(.ref w_S), (.ref w_N), (.ref w_B), (.ref w_BOOL), (.ref w_NULL), (.ref w_M), (.ref w_L), .null, .null, .null] .null := Arv.set Ar_b1_47_21 q_b1_47_21 S_b1_47_21 N_b1_47_21 H_b1_47_21 G_b1_47_21 rfl W22 6 rfl (Nat.le_of_ble_eq_true rfl)
  have K22 : Keep h0 h22 [] := K19.wr W22 (Or.inr sz_b1)
  have N22 := Fr.snoc X22 N19 g_b1
  obtain ⟨T23, X23, e23, st23⟩ := getS2 X22 hx hZ hown (host := "") (Or.inl (hw _ (List.mem_of_getElem? (i := 18) rfl))) Via.refl e22 ((((((((S_SS.ext E1).wr W4).wr W7).wr W10).wr W13).wr W16).wr W19).wr W22) (g := (mkF m 51 #[.val (.int p1), .unset, .unset, .unset, .unset, .unset] [(.int (7 : Int32)), (.ref b1), (.ref b1)])) rfl (hb hby at_51)
  obtain ⟨cl_b1_54_24, Ar_b1_54_24, q_b1_54_24, S_b1_54_24, N_b1_54_24, H_b1_54_24, G_b1_54_24⟩ := id V_b1_47_21
  have hin_b1_54_24 : ¬ ((7 : Int32) < 0 ∨ cl_b1_54_24.slots.size ≤ ((7 : Int32) : Int32).toNatClampNeg) := inb_of S_b1_54_24 ⟨by decide, by decide⟩
  obtain ⟨T25, h25, X25, e25, W25, st25⟩ := stR X23 hx hZ e23 Ar_b1_54_24 (j := (7 : Int32)) hin_b1_54_24 rfl (Sto.ofV Ar_b1_54_24 q_b1_54_24 O1 (Ins.self ((((((((E_w_SS.ext E1).wr W4).wr W7).wr W10).wr W13).wr W16).wr W19).wr W22))) (g := (mkF m 54 #[.val (.int p1), .unset, .unset, .unset, .unset, .unset] [(.ref w_SS), (.int (7 : Int32)), (.ref b1), (.ref b1)])) rfl rfl (hb hby at_54)
  have V_b1_54_24 : Arv Z h25 b1 k1 (.object "com/example/elliott_bay/elliottbay/value/AttributeType") (10 : Int32) [(.ref w_S), (.ref w_N), (.ref w_B), (.ref w_BOOL), (.ref w_NULL), (.ref w_M), (.ref w_L), (.ref w_SS), .null, .null] .null := Arv.set Ar_b1_54_24 q_b1_54_24 S_b1_54_24 N_b1_54_24 H_b1_54_24 G_b1_54_24 rfl W25 7 rfl (Nat.le_of_ble_eq_true rfl)
  have K25 : Keep h0 h25 [] := K22.wr W25 (Or.inr sz_b1)
  have N25 := Fr.snoc X25 N22 g_b1
  obtain ⟨T26, X26, e26, st26⟩ := getS2 X25 hx hZ hown (host := "") (Or.inl (hw _ (List.mem_of_getElem? (i := 20) rfl))) Via.refl e25 (((((((((S_NS.ext E1).wr W4).wr W7).wr W10).wr W13).wr W16).wr W19).wr W22).wr W25) (g := (mkF m 58 #[.val (.int p1), .unset, .unset, .unset, .unset, .unset] [(.int (8 : Int32)), (.ref b1), (.ref b1)])) rfl (hb hby at_58)
  obtain ⟨cl_b1_61_27, Ar_b1_61_27, q_b1_61_27, S_b1_61_27, N_b1_61_27, H_b1_61_27, G_b1_61_27⟩ := id V_b1_54_24
  have hin_b1_61_27 : ¬ ((8 : Int32) < 0 ∨ cl_b1_61_27.slots.size ≤ ((8 : Int32) : Int32).toNatClampNeg) := inb_of S_b1_61_27 ⟨by decide, by decide⟩
  obtain ⟨T28, h28, X28, e28, W28, st28⟩ := stR X26 hx hZ e26 Ar_b1_61_27 (j := (8 : Int32)) hin_b1_61_27 rfl (Sto.ofV Ar_b1_61_27 q_b1_61_27 O1 (Ins.self (((((((((E_w_NS.ext E1).wr W4).wr W7).wr W10).wr W13).wr W16).wr W19).wr W22).wr W25))) (g := (mkF m 61 #[.val (.int p1), .unset, .unset, .unset, .unset, .unset] [(.ref w_NS), (.int (8 : Int32)), (.ref b1), (.ref b1)])) rfl rfl (hb hby at_61)
  have V_b1_61_27 : Arv Z h28 b1 k1 (.object "com/example/elliott_bay/elliottbay/value/AttributeType") (10 : Int32) [(.ref w_S), (.ref w_N), (.ref w_B), (.ref w_BOOL), (.ref w_NULL), (.ref w_M), (.ref w_L), (.ref w_SS), (.ref w_NS), .null] .null := Arv.set Ar_b1_61_27 q_b1_61_27 S_b1_61_27 N_b1_61_27 H_b1_61_27 G_b1_61_27 rfl W28 8 rfl (Nat.le_of_ble_eq_true rfl)
  have K28 : Keep h0 h28 [] := K25.wr W28 (Or.inr sz_b1)
  have N28 := Fr.snoc X28 N25 g_b1
  obtain ⟨T29, X29, e29, st29⟩ := getS2 X28 hx hZ hown (host := "") (Or.inl (hw _ (List.mem_of_getElem? (i := 22) rfl))) Via.refl e28 ((((((((((S_BS.ext E1).wr W4).wr W7).wr W10).wr W13).wr W16).wr W19).wr W22).wr W25).wr W28) (g := (mkF m 65 #[.val (.int p1), .unset, .unset, .unset, .unset, .unset] [(.int (9 : Int32)), (.ref b1), (.ref b1)])) rfl (hb hby at_65)
  obtain ⟨cl_b1_68_30, Ar_b1_68_30, q_b1_68_30, S_b1_68_30, N_b1_68_30, H_b1_68_30, G_b1_68_30⟩ := id V_b1_61_27
  have hin_b1_68_30 : ¬ ((9 : Int32) < 0 ∨ cl_b1_68_30.slots.size ≤ ((9 : Int32) : Int32).toNatClampNeg) := inb_of S_b1_68_30 ⟨by decide, by decide⟩
  obtain ⟨T31, h31, X31, e31, W31, st31⟩ := stR X29 hx hZ e29 Ar_b1_68_30 (j := (9 : Int32)) hin_b1_68_30 rfl (Sto.ofV Ar_b1_68_30 q_b1_68_30 O1 (Ins.self ((((((((((E_w_BS.ext E1).wr W4).wr W7).wr W10).wr W13).wr W16).wr W19).wr W22).wr W25).wr W28))) (g := (mkF m 68 #[.val (.int p1), .unset, .unset, .unset, .unset, .unset] [(.ref w_BS), (.int (9 : Int32)), (.ref b1), (.ref b1)])) rfl rfl (hb hby at_68)
  have V_b1_68_30 : Arv Z h31 b1 k1 (.object "com/example/elliott_bay/elliottbay/value/AttributeType") (10 : Int32) [(.ref w_S), (.ref w_N), (.ref w_B), (.ref w_BOOL), (.ref w_NULL), (.ref w_M), (.ref w_L), (.ref w_SS), (.ref w_NS), (.ref w_BS)] .null := Arv.set Ar_b1_68_30 q_b1_68_30 S_b1_68_30 N_b1_68_30 H_b1_68_30 G_b1_68_30 rfl W31 9 rfl (Nat.le_of_ble_eq_true rfl)
  have K31 : Keep h0 h31 [] := K28.wr W31 (Or.inr sz_b1)
  have N31 := Fr.snoc X31 N28 g_b1
  have hrg := own_rng p1
  obtain ⟨cl_b1_80_32, Ar_b1_80_32, q_b1_80_32, S_b1_80_32, N_b1_80_32, H_b1_80_32, G_b1_80_32⟩ := id V_b1_68_30
  have hin_b1_80_32 : ¬ (((p1 &&& (2147483647 : Int32)) % (10 : Int32)) < 0 ∨ cl_b1_80_32.slots.size ≤ (((p1 &&& (2147483647 : Int32)) % (10 : Int32)) : Int32).toNatClampNeg) := inb_of S_b1_80_32 (own_inb hrg.1 hrg.2)
  have E_r := own_exa (Z := Z) (h := h31) ((p1 &&& (2147483647 : Int32)) % (10 : Int32)) w_S w_N w_B w_BOOL w_NULL w_M w_L w_SS w_NS w_BS (((((((((((E_w_S.ext E1).wr W4).wr W7).wr W10).wr W13).wr W16).wr W19).wr W22).wr W25).wr W28).wr W31) (((((((((((E_w_N.ext E1).wr W4).wr W7).wr W10).wr W13).wr W16).wr W19).wr W22).wr W25).wr W28).wr W31) (((((((((((E_w_B.ext E1).wr W4).wr W7).wr W10).wr W13).wr W16).wr W19).wr W22).wr W25).wr W28).wr W31) (((((((((((E_w_BOOL.ext E1).wr W4).wr W7).wr W10).wr W13).wr W16).wr W19).wr W22).wr W25).wr W28).wr W31) (((((((((((E_w_NULL.ext E1).wr W4).wr W7).wr W10).wr W13).wr W16).wr W19).wr W22).wr W25).wr W28).wr W31) (((((((((((E_w_M.ext E1).wr W4).wr W7).wr W10).wr W13).wr W16).wr W19).wr W22).wr W25).wr W28).wr W31) (((((((((((E_w_L.ext E1).wr W4).wr W7).wr W10).wr W13).wr W16).wr W19).wr W22).wr W25).wr W28).wr W31) (((((((((((E_w_SS.ext E1).wr W4).wr W7).wr W10).wr W13).wr W16).wr W19).wr W22).wr W25).wr W28).wr W31) (((((((((((E_w_NS.ext E1).wr W4).wr W7).wr W10).wr W13).wr W16).wr W19).wr W22).wr W25).wr W28).wr W31) (((((((((((E_w_BS.ext E1).wr W4).wr W7).wr W10).wr W13).wr W16).wr W19).wr W22).wr W25).wr W28).wr W31)
  have F_r := own_ord (Z := Z) (h := h31) ((p1 &&& (2147483647 : Int32)) % (10 : Int32)) hrg.1 hrg.2 w_S w_N w_B w_BOOL w_NULL w_M w_L w_SS w_NS w_BS (((((((((((F_ordinal_w_S.ext E1).other W4 (Or.inl (Nat.ne_of_lt (Nat.lt_of_lt_of_le E_w_S.lt (Nat.le_of_eq g1.symm))))).other W7 (Or.inl (Nat.ne_of_lt (Nat.lt_of_lt_of_le E_w_S.lt (Nat.le_of_eq g1.symm))))).other W10 (Or.inl (Nat.ne_of_lt (Nat.lt_of_lt_of_le E_w_S.lt (Nat.le_of_eq g1.symm))))).other W13 (Or.inl (Nat.ne_of_lt (Nat.lt_of_lt_of_le E_w_S.lt (Nat.le_of_eq g1.symm))))).other W16 (Or.inl (Nat.ne_of_lt (Nat.lt_of_lt_of_le E_w_S.lt (Nat.le_of_eq g1.symm))))).other W19 (Or.inl (Nat.ne_of_lt (Nat.lt_of_lt_of_le E_w_S.lt (Nat.le_of_eq g1.symm))))).other W22 (Or.inl (Nat.ne_of_lt (Nat.lt_of_lt_of_le E_w_S.lt (Nat.le_of_eq g1.symm))))).other W25 (Or.inl (Nat.ne_of_lt (Nat.lt_of_lt_of_le E_w_S.lt (Nat.le_of_eq g1.symm))))).other W28 (Or.inl (Nat.ne_of_lt (Nat.lt_of_lt_of_le E_w_S.lt (Nat.le_of_eq g1.symm))))).other W31 (Or.inl (Nat.ne_of_lt (Nat.lt_of_lt_of_le E_w_S.lt (Nat.le_of_eq g1.symm))))) (((((((((((F_ordinal_w_N.ext E1).other W4 (Or.inl (Nat.ne_of_lt (Nat.lt_of_lt_of_le E_w_N.lt (Nat.le_of_eq g1.symm))))).other W7 (Or.inl (Nat.ne_of_lt (Nat.lt_of_lt_of_le E_w_N.lt (Nat.le_of_eq g1.symm))))).other W10 (Or.inl (Nat.ne_of_lt (Nat.lt_of_lt_of_le E_w_N.lt (Nat.le_of_eq g1.symm))))).other W13 (Or.inl (Nat.ne_of_lt (Nat.lt_of_lt_of_le E_w_N.lt (Nat.le_of_eq g1.symm))))).other W16 (Or.inl (Nat.ne_of_lt (Nat.lt_of_lt_of_le E_w_N.lt (Nat.le_of_eq g1.symm))))).other W19 (Or.inl (Nat.ne_of_lt (Nat.lt_of_lt_of_le E_w_N.lt (Nat.le_of_eq g1.symm))))).other W22 (Or.inl (Nat.ne_of_lt (Nat.lt_of_lt_of_le E_w_N.lt (Nat.le_of_eq g1.symm))))).other W25 (Or.inl (Nat.ne_of_lt (Nat.lt_of_lt_of_le E_w_N.lt (Nat.le_of_eq g1.symm))))).other W28 (Or.inl (Nat.ne_of_lt (Nat.lt_of_lt_of_le E_w_N.lt (Nat.le_of_eq g1.symm))))).other W31 (Or.inl (Nat.ne_of_lt (Nat.lt_of_lt_of_le E_w_N.lt (Nat.le_of_eq g1.symm))))) (((((((((((F_ordinal_w_B.ext E1).other W4 (Or.inl (Nat.ne_of_lt (Nat.lt_of_lt_of_le E_w_B.lt (Nat.le_of_eq g1.symm))))).other W7 (Or.inl (Nat.ne_of_lt (Nat.lt_of_lt_of_le E_w_B.lt (Nat.le_of_eq g1.symm))))).other W10 (Or.inl (Nat.ne_of_lt (Nat.lt_of_lt_of_le E_w_B.lt (Nat.le_of_eq g1.symm))))).other W13 (Or.inl (Nat.ne_of_lt (Nat.lt_of_lt_of_le E_w_B.lt (Nat.le_of_eq g1.symm))))).other W16 (Or.inl (Nat.ne_of_lt (Nat.lt_of_lt_of_le E_w_B.lt (Nat.le_of_eq g1.symm))))).other W19 (Or.inl (Nat.ne_of_lt (Nat.lt_of_lt_of_le E_w_B.lt (Nat.le_of_eq g1.symm))))).other W22 (Or.inl (Nat.ne_of_lt (Nat.lt_of_lt_of_le E_w_B.lt (Nat.le_of_eq g1.symm))))).other W25 (Or.inl (Nat.ne_of_lt (Nat.lt_of_lt_of_le E_w_B.lt (Nat.le_of_eq g1.symm))))).other W28 (Or.inl (Nat.ne_of_lt (Nat.lt_of_lt_of_le E_w_B.lt (Nat.le_of_eq g1.symm))))).other W31 (Or.inl (Nat.ne_of_lt (Nat.lt_of_lt_of_le E_w_B.lt (Nat.le_of_eq g1.symm))))) (((((((((((F_ordinal_w_BOOL.ext E1).other W4 (Or.inl (Nat.ne_of_lt (Nat.lt_of_lt_of_le E_w_BOOL.lt (Nat.le_of_eq g1.symm))))).other W7 (Or.inl (Nat.ne_of_lt (Nat.lt_of_lt_of_le E_w_BOOL.lt (Nat.le_of_eq g1.symm))))).other W10 (Or.inl (Nat.ne_of_lt (Nat.lt_of_lt_of_le E_w_BOOL.lt (Nat.le_of_eq g1.symm))))).other W13 (Or.inl (Nat.ne_of_lt (Nat.lt_of_lt_of_le E_w_BOOL.lt (Nat.le_of_eq g1.symm))))).other W16 (Or.inl (Nat.ne_of_lt (Nat.lt_of_lt_of_le E_w_BOOL.lt (Nat.le_of_eq g1.symm))))).other W19 (Or.inl (Nat.ne_of_lt (Nat.lt_of_lt_of_le E_w_BOOL.lt (Nat.le_of_eq g1.symm))))).other W22 (Or.inl (Nat.ne_of_lt (Nat.lt_of_lt_of_le E_w_BOOL.lt (Nat.le_of_eq g1.symm))))).other W25 (Or.inl (Nat.ne_of_lt (Nat.lt_of_lt_of_le E_w_BOOL.lt (Nat.le_of_eq g1.symm))))).other W28 (Or.inl (Nat.ne_of_lt (Nat.lt_of_lt_of_le E_w_BOOL.lt (Nat.le_of_eq g1.symm))))).other W31 (Or.inl (Nat.ne_of_lt (Nat.lt_of_lt_of_le E_w_BOOL.lt (Nat.le_of_eq g1.symm))))) (((((((((((F_ordinal_w_NULL.ext E1).other W4 (Or.inl (Nat.ne_of_lt (Nat.lt_of_lt_of_le E_w_NULL.lt (Nat.le_of_eq g1.symm))))).other W7 (Or.inl (Nat.ne_of_lt (Nat.lt_of_lt_of_le E_w_NULL.lt (Nat.le_of_eq g1.symm))))).other W10 (Or.inl (Nat.ne_of_lt (Nat.lt_of_lt_of_le E_w_NULL.lt (Nat.le_of_eq g1.symm))))).other W13 (Or.inl (Nat.ne_of_lt (Nat.lt_of_lt_of_le E_w_NULL.lt (Nat.le_of_eq g1.symm))))).other W16 (Or.inl (Nat.ne_of_lt (Nat.lt_of_lt_of_le E_w_NULL.lt (Nat.le_of_eq g1.symm))))).other W19 (Or.inl (Nat.ne_of_lt (Nat.lt_of_lt_of_le E_w_NULL.lt (Nat.le_of_eq g1.symm))))).other W22 (Or.inl (Nat.ne_of_lt (Nat.lt_of_lt_of_le E_w_NULL.lt (Nat.le_of_eq g1.symm))))).other W25 (Or.inl (Nat.ne_of_lt (Nat.lt_of_lt_of_le E_w_NULL.lt (Nat.le_of_eq g1.symm))))).other W28 (Or.inl (Nat.ne_of_lt (Nat.lt_of_lt_of_le E_w_NULL.lt (Nat.le_of_eq g1.symm))))).other W31 (Or.inl (Nat.ne_of_lt (Nat.lt_of_lt_of_le E_w_NULL.lt (Nat.le_of_eq g1.symm))))) (((((((((((F_ordinal_w_M.ext E1).other W4 (Or.inl (Nat.ne_of_lt (Nat.lt_of_lt_of_le E_w_M.lt (Nat.le_of_eq g1.symm))))).other W7 (Or.inl (Nat.ne_of_lt (Nat.lt_of_lt_of_le E_w_M.lt (Nat.le_of_eq g1.symm))))).other W10 (Or.inl (Nat.ne_of_lt (Nat.lt_of_lt_of_le E_w_M.lt (Nat.le_of_eq g1.symm))))).other W13 (Or.inl (Nat.ne_of_lt (Nat.lt_of_lt_of_le E_w_M.lt (Nat.le_of_eq g1.symm))))).other W16 (Or.inl (Nat.ne_of_lt (Nat.lt_of_lt_of_le E_w_M.lt (Nat.le_of_eq g1.symm))))).other W19 (Or.inl (Nat.ne_of_lt (Nat.lt_of_lt_of_le E_w_M.lt (Nat.le_of_eq g1.symm))))).other W22 (Or.inl (Nat.ne_of_lt (Nat.lt_of_lt_of_le E_w_M.lt (Nat.le_of_eq g1.symm))))).other W25 (Or.inl (Nat.ne_of_lt (Nat.lt_of_lt_of_le E_w_M.lt (Nat.le_of_eq g1.symm))))).other W28 (Or.inl (Nat.ne_of_lt (Nat.lt_of_lt_of_le E_w_M.lt (Nat.le_of_eq g1.symm))))).other W31 (Or.inl (Nat.ne_of_lt (Nat.lt_of_lt_of_le E_w_M.lt (Nat.le_of_eq g1.symm))))) (((((((((((F_ordinal_w_L.ext E1).other W4 (Or.inl (Nat.ne_of_lt (Nat.lt_of_lt_of_le E_w_L.lt (Nat.le_of_eq g1.symm))))).other W7 (Or.inl (Nat.ne_of_lt (Nat.lt_of_lt_of_le E_w_L.lt (Nat.le_of_eq g1.symm))))).other W10 (Or.inl (Nat.ne_of_lt (Nat.lt_of_lt_of_le E_w_L.lt (Nat.le_of_eq g1.symm))))).other W13 (Or.inl (Nat.ne_of_lt (Nat.lt_of_lt_of_le E_w_L.lt (Nat.le_of_eq g1.symm))))).other W16 (Or.inl (Nat.ne_of_lt (Nat.lt_of_lt_of_le E_w_L.lt (Nat.le_of_eq g1.symm))))).other W19 (Or.inl (Nat.ne_of_lt (Nat.lt_of_lt_of_le E_w_L.lt (Nat.le_of_eq g1.symm))))).other W22 (Or.inl (Nat.ne_of_lt (Nat.lt_of_lt_of_le E_w_L.lt (Nat.le_of_eq g1.symm))))).other W25 (Or.inl (Nat.ne_of_lt (Nat.lt_of_lt_of_le E_w_L.lt (Nat.le_of_eq g1.symm))))).other W28 (Or.inl (Nat.ne_of_lt (Nat.lt_of_lt_of_le E_w_L.lt (Nat.le_of_eq g1.symm))))).other W31 (Or.inl (Nat.ne_of_lt (Nat.lt_of_lt_of_le E_w_L.lt (Nat.le_of_eq g1.symm))))) (((((((((((F_ordinal_w_SS.ext E1).other W4 (Or.inl (Nat.ne_of_lt (Nat.lt_of_lt_of_le E_w_SS.lt (Nat.le_of_eq g1.symm))))).other W7 (Or.inl (Nat.ne_of_lt (Nat.lt_of_lt_of_le E_w_SS.lt (Nat.le_of_eq g1.symm))))).other W10 (Or.inl (Nat.ne_of_lt (Nat.lt_of_lt_of_le E_w_SS.lt (Nat.le_of_eq g1.symm))))).other W13 (Or.inl (Nat.ne_of_lt (Nat.lt_of_lt_of_le E_w_SS.lt (Nat.le_of_eq g1.symm))))).other W16 (Or.inl (Nat.ne_of_lt (Nat.lt_of_lt_of_le E_w_SS.lt (Nat.le_of_eq g1.symm))))).other W19 (Or.inl (Nat.ne_of_lt (Nat.lt_of_lt_of_le E_w_SS.lt (Nat.le_of_eq g1.symm))))).other W22 (Or.inl (Nat.ne_of_lt (Nat.lt_of_lt_of_le E_w_SS.lt (Nat.le_of_eq g1.symm))))).other W25 (Or.inl (Nat.ne_of_lt (Nat.lt_of_lt_of_le E_w_SS.lt (Nat.le_of_eq g1.symm))))).other W28 (Or.inl (Nat.ne_of_lt (Nat.lt_of_lt_of_le E_w_SS.lt (Nat.le_of_eq g1.symm))))).other W31 (Or.inl (Nat.ne_of_lt (Nat.lt_of_lt_of_le E_w_SS.lt (Nat.le_of_eq g1.symm))))) (((((((((((F_ordinal_w_NS.ext E1).other W4 (Or.inl (Nat.ne_of_lt (Nat.lt_of_lt_of_le E_w_NS.lt (Nat.le_of_eq g1.symm))))).other W7 (Or.inl (Nat.ne_of_lt (Nat.lt_of_lt_of_le E_w_NS.lt (Nat.le_of_eq g1.symm))))).other W10 (Or.inl (Nat.ne_of_lt (Nat.lt_of_lt_of_le E_w_NS.lt (Nat.le_of_eq g1.symm))))).other W13 (Or.inl (Nat.ne_of_lt (Nat.lt_of_lt_of_le E_w_NS.lt (Nat.le_of_eq g1.symm))))).other W16 (Or.inl (Nat.ne_of_lt (Nat.lt_of_lt_of_le E_w_NS.lt (Nat.le_of_eq g1.symm))))).other W19 (Or.inl (Nat.ne_of_lt (Nat.lt_of_lt_of_le E_w_NS.lt (Nat.le_of_eq g1.symm))))).other W22 (Or.inl (Nat.ne_of_lt (Nat.lt_of_lt_of_le E_w_NS.lt (Nat.le_of_eq g1.symm))))).other W25 (Or.inl (Nat.ne_of_lt (Nat.lt_of_lt_of_le E_w_NS.lt (Nat.le_of_eq g1.symm))))).other W28 (Or.inl (Nat.ne_of_lt (Nat.lt_of_lt_of_le E_w_NS.lt (Nat.le_of_eq g1.symm))))).other W31 (Or.inl (Nat.ne_of_lt (Nat.lt_of_lt_of_le E_w_NS.lt (Nat.le_of_eq g1.symm))))) (((((((((((F_ordinal_w_BS.ext E1).other W4 (Or.inl (Nat.ne_of_lt (Nat.lt_of_lt_of_le E_w_BS.lt (Nat.le_of_eq g1.symm))))).other W7 (Or.inl (Nat.ne_of_lt (Nat.lt_of_lt_of_le E_w_BS.lt (Nat.le_of_eq g1.symm))))).other W10 (Or.inl (Nat.ne_of_lt (Nat.lt_of_lt_of_le E_w_BS.lt (Nat.le_of_eq g1.symm))))).other W13 (Or.inl (Nat.ne_of_lt (Nat.lt_of_lt_of_le E_w_BS.lt (Nat.le_of_eq g1.symm))))).other W16 (Or.inl (Nat.ne_of_lt (Nat.lt_of_lt_of_le E_w_BS.lt (Nat.le_of_eq g1.symm))))).other W19 (Or.inl (Nat.ne_of_lt (Nat.lt_of_lt_of_le E_w_BS.lt (Nat.le_of_eq g1.symm))))).other W22 (Or.inl (Nat.ne_of_lt (Nat.lt_of_lt_of_le E_w_BS.lt (Nat.le_of_eq g1.symm))))).other W25 (Or.inl (Nat.ne_of_lt (Nat.lt_of_lt_of_le E_w_BS.lt (Nat.le_of_eq g1.symm))))).other W28 (Or.inl (Nat.ne_of_lt (Nat.lt_of_lt_of_le E_w_BS.lt (Nat.le_of_eq g1.symm))))).other W31 (Or.inl (Nat.ne_of_lt (Nat.lt_of_lt_of_le E_w_BS.lt (Nat.le_of_eq g1.symm)))))
  obtain ⟨cq33, kq33, q33a, q33b, q33c⟩ := isOf hZ e31 E_r
  obtain ⟨_, _, ⟨T33, L33, k33, n33⟩, -, X33, ⟨Lc33, hQ33, l33, y33, z33⟩, st33⟩ := X31.virtualBack hx (y := (⟨"com/example/elliott_bay/elliottbay/value/AttributeType", "isScalar", "()Z"⟩ : MethodName)) (z := (⟨"com/example/elliott_bay/elliottbay/value/AttributeType", "isScalar", "()Z"⟩ : MethodName)) hown (mvT hZ (hw _ (List.mem_of_getElem? (i := 25) rfl))) (mvT hZ (hw _ (List.mem_of_getElem? (i := 26) rfl))) (notFace_of_selects (args := #[]) (mvT hZ (hw _ (List.mem_of_getElem? (i := 28) rfl)))) (mvT hZ (hw _ (List.mem_of_getElem? (i := 28) rfl))) (mvT hZ (hw _ (List.mem_of_getElem? (i := 27) rfl))) (by decide) (backOf (W := 0) (rm1 l Z a0 hw [] (own_pick ((p1 &&& (2147483647 : Int32)) % (10 : Int32)) w_S w_N w_B w_BOOL w_NULL w_M w_L w_SS w_NS w_BS) w_S w_N w_B h31 n0 (Nat.le_trans Z0 K31.1) (((((((((((S_S.ext E1).wr W4).wr W7).wr W10).wr W13).wr W16).wr W19).wr W22).wr W25).wr W28).wr W31) (((((((((((S_N.ext E1).wr W4).wr W7).wr W10).wr W13).wr W16).wr W19).wr W22).wr W25).wr W28).wr W31) (((((((((((S_B.ext E1).wr W4).wr W7).wr W10).wr W13).wr W16).wr W19).wr W22).wr W25).wr W28).wr W31) ) hZ (hw _ (List.mem_of_getElem? (i := 29) rfl)) (hw _ (List.mem_of_getElem? (i := 3) rfl)) (by decide) (by decide)) q33a q33c (g := (mkF m 83 #[.val (.int p1), .val (.ref b1), .val (.int ((p1 &&& (2147483647 : Int32)) % (10 : Int32))), .val (.ref (own_pick ((p1 &&& (2147483647 : Int32)) % (10 : Int32)) w_S w_N w_B w_BOOL w_NULL w_M w_L w_SS w_NS w_BS)), .unset, .unset] [(.ref (own_pick ((p1 &&& (2147483647 : Int32)) % (10 : Int32)) w_S w_N w_B w_BOOL w_NULL w_M w_L w_SS w_NS w_BS))])) rfl (by rw [hml]; rfl) (Steps.refl _) (argsL := []) (rest := []) (lenOf pd1 rfl) rfl (by show 2 * 0 + _ ≤ _; exact Nat.le_of_eq rfl) (hb hby at_83) (fun _ _ => ⟨rfl, e31, (by decide : 1 + 0 ≤ _), (by decide : 10 + 0 ≤ _)⟩)
  dsimp only [Pt.U, Pt.locs, Pt.cells, Pt.slots] at X33 l33 y33 z33 st33 hQ33
  subst l33 y33 z33
  obtain ⟨rfl, rfl, e33⟩ := hQ33
  have N33 := Fr.app N31 (Fr.nil n0)
  have pre34 : ∀ t, Steps p.tables e below (T33.setTop (mkF m 90 #[.val (.int p1), .val (.ref b1), .val (.int ((p1 &&& (2147483647 : Int32)) % (10 : Int32))), .val (.ref (own_pick ((p1 &&& (2147483647 : Int32)) % (10 : Int32)) w_S w_N w_B w_BOOL w_NULL w_M w_L w_SS w_NS w_BS)), .val (.int (res1 (own_pick ((p1 &&& (2147483647 : Int32)) % (10 : Int32)) w_S w_N w_B w_BOOL w_NULL w_M w_L w_SS w_NS w_BS) w_S w_N w_B)), .unset] [(.int (3 : Int32)), (.int ((p1 &&& (2147483647 : Int32)) % (10 : Int32)))])) t → Steps p.tables e below (s₁.setTop (entryFrame m #[(.int p1)] maxLocals)) t := by
    intro t kt
    refine pre0 _ ?_
    show Steps p.tables e below (s₁.setTop (mkF m 0 #[.val (.int p1), .unset, .unset, .unset, .unset, .unset] [])) _
    refine XS.bipush X0.here hx rfl (hb hby at_0) ?_
    show Steps p.tables e below (s₁.setTop (mkF m 2 #[.val (.int p1), .unset, .unset, .unset, .unset, .unset] [(.int (10 : Int32))])) _
    refine st1 _ ?_
    show Steps p.tables e below (T1.setTop (mkF m 5 #[.val (.int p1), .unset, .unset, .unset, .unset, .unset] [(.ref b1)])) _
    refine XS.dup X1.here hx rfl (hb hby at_5) rfl rfl ?_
    show Steps p.tables e below (T1.setTop (mkF m 6 #[.val (.int p1), .unset, .unset, .unset, .unset, .unset] [(.ref b1), (.ref b1)])) _
    refine XS.iconst X1.here hx rfl (hb hby at_6) ?_
    show Steps p.tables e below (T1.setTop (mkF m 7 #[.val (.int p1), .unset, .unset, .unset, .unset, .unset] [(.int (0 : Int32)), (.ref b1), (.ref b1)])) _
    refine st2 _ ?_
    show Steps p.tables e below (T2.setTop (mkF m 10 #[.val (.int p1), .unset, .unset, .unset, .unset, .unset] [(.ref w_S), (.int (0 : Int32)), (.ref b1), (.ref b1)])) _
    refine st4 _ ?_
    show Steps p.tables e below (T4.setTop (mkF m 11 #[.val (.int p1), .unset, .unset, .unset, .unset, .unset] [(.ref b1)])) _
    refine XS.dup X4.here hx rfl (hb hby at_11) rfl rfl ?_
    show Steps p.tables e below (T4.setTop (mkF m 12 #[.val (.int p1), .unset, .unset, .unset, .unset, .unset] [(.ref b1), (.ref b1)])) _
    refine XS.iconst X4.here hx rfl (hb hby at_12) ?_
    show Steps p.tables e below (T4.setTop (mkF m 13 #[.val (.int p1), .unset, .unset, .unset, .unset, .unset] [(.int (1 : Int32)), (.ref b1), (.ref b1)])) _
    refine st5 _ ?_
    show Steps p.tables e below (T5.setTop (mkF m 16 #[.val (.int p1), .unset, .unset, .unset, .unset, .unset] [(.ref w_N), (.int (1 : Int32)), (.ref b1), (.ref b1)])) _
    refine st7 _ ?_
    show Steps p.tables e below (T7.setTop (mkF m 17 #[.val (.int p1), .unset, .unset, .unset, .unset, .unset] [(.ref b1)])) _
    refine XS.dup X7.here hx rfl (hb hby at_17) rfl rfl ?_
    show Steps p.tables e below (T7.setTop (mkF m 18 #[.val (.int p1), .unset, .unset, .unset, .unset, .unset] [(.ref b1), (.ref b1)])) _
    refine XS.iconst X7.here hx rfl (hb hby at_18) ?_
    show Steps p.tables e below (T7.setTop (mkF m 19 #[.val (.int p1), .unset, .unset, .unset, .unset, .unset] [(.int (2 : Int32)), (.ref b1), (.ref b1)])) _
    refine st8 _ ?_
    show Steps p.tables e below (T8.setTop (mkF m 22 #[.val (.int p1), .unset, .unset, .unset, .unset, .unset] [(.ref w_B), (.int (2 : Int32)), (.ref b1), (.ref b1)])) _
    refine st10 _ ?_
    show Steps p.tables e below (T10.setTop (mkF m 23 #[.val (.int p1), .unset, .unset, .unset, .unset, .unset] [(.ref b1)])) _
    refine XS.dup X10.here hx rfl (hb hby at_23) rfl rfl ?_
    show Steps p.tables e below (T10.setTop (mkF m 24 #[.val (.int p1), .unset, .unset, .unset, .unset, .unset] [(.ref b1), (.ref b1)])) _
    refine XS.iconst X10.here hx rfl (hb hby at_24) ?_
    show Steps p.tables e below (T10.setTop (mkF m 25 #[.val (.int p1), .unset, .unset, .unset, .unset, .unset] [(.int (3 : Int32)), (.ref b1), (.ref b1)])) _
    refine st11 _ ?_
    show Steps p.tables e below (T11.setTop (mkF m 28 #[.val (.int p1), .unset, .unset, .unset, .unset, .unset] [(.ref w_BOOL), (.int (3 : Int32)), (.ref b1), (.ref b1)])) _
    refine st13 _ ?_
    show Steps p.tables e below (T13.setTop (mkF m 29 #[.val (.int p1), .unset, .unset, .unset, .unset, .unset] [(.ref b1)])) _
    refine XS.dup X13.here hx rfl (hb hby at_29) rfl rfl ?_
    show Steps p.tables e below (T13.setTop (mkF m 30 #[.val (.int p1), .unset, .unset, .unset, .unset, .unset] [(.ref b1), (.ref b1)])) _
    refine XS.iconst X13.here hx rfl (hb hby at_30) ?_
    show Steps p.tables e below (T13.setTop (mkF m 31 #[.val (.int p1), .unset, .unset, .unset, .unset, .unset] [(.int (4 : Int32)), (.ref b1), (.ref b1)])) _
    refine st14 _ ?_
    show Steps p.tables e below (T14.setTop (mkF m 34 #[.val (.int p1), .unset, .unset, .unset, .unset, .unset] [(.ref w_NULL), (.int (4 : Int32)), (.ref b1), (.ref b1)])) _
    refine st16 _ ?_
    show Steps p.tables e below (T16.setTop (mkF m 35 #[.val (.int p1), .unset, .unset, .unset, .unset, .unset] [(.ref b1)])) _
    refine XS.dup X16.here hx rfl (hb hby at_35) rfl rfl ?_
    show Steps p.tables e below (T16.setTop (mkF m 36 #[.val (.int p1), .unset, .unset, .unset, .unset, .unset] [(.ref b1), (.ref b1)])) _
    refine XS.iconst X16.here hx rfl (hb hby at_36) ?_
    show Steps p.tables e below (T16.setTop (mkF m 37 #[.val (.int p1), .unset, .unset, .unset, .unset, .unset] [(.int (5 : Int32)), (.ref b1), (.ref b1)])) _
    refine st17 _ ?_
    show Steps p.tables e below (T17.setTop (mkF m 40 #[.val (.int p1), .unset, .unset, .unset, .unset, .unset] [(.ref w_M), (.int (5 : Int32)), (.ref b1), (.ref b1)])) _
    refine st19 _ ?_
    show Steps p.tables e below (T19.setTop (mkF m 41 #[.val (.int p1), .unset, .unset, .unset, .unset, .unset] [(.ref b1)])) _
    refine XS.dup X19.here hx rfl (hb hby at_41) rfl rfl ?_
    show Steps p.tables e below (T19.setTop (mkF m 42 #[.val (.int p1), .unset, .unset, .unset, .unset, .unset] [(.ref b1), (.ref b1)])) _
    refine XS.bipush X19.here hx rfl (hb hby at_42) ?_
    show Steps p.tables e below (T19.setTop (mkF m 44 #[.val (.int p1), .unset, .unset, .unset, .unset, .unset] [(.int (6 : Int32)), (.ref b1), (.ref b1)])) _
    refine st20 _ ?_
    show Steps p.tables e below (T20.setTop (mkF m 47 #[.val (.int p1), .unset, .unset, .unset, .unset, .unset] [(.ref w_L), (.int (6 : Int32)), (.ref b1), (.ref b1)])) _
    refine st22 _ ?_
    show Steps p.tables e below (T22.setTop (mkF m 48 #[.val (.int p1), .unset, .unset, .unset, .unset, .unset] [(.ref b1)])) _
    refine XS.dup X22.here hx rfl (hb hby at_48) rfl rfl ?_
    show Steps p.tables e below (T22.setTop (mkF m 49 #[.val (.int p1), .unset, .unset, .unset, .unset, .unset] [(.ref b1), (.ref b1)])) _
    refine XS.bipush X22.here hx rfl (hb hby at_49) ?_
    show Steps p.tables e below (T22.setTop (mkF m 51 #[.val (.int p1), .unset, .unset, .unset, .unset, .unset] [(.int (7 : Int32)), (.ref b1), (.ref b1)])) _
    refine st23 _ ?_
    show Steps p.tables e below (T23.setTop (mkF m 54 #[.val (.int p1), .unset, .unset, .unset, .unset, .unset] [(.ref w_SS), (.int (7 : Int32)), (.ref b1), (.ref b1)])) _
    refine st25 _ ?_
    show Steps p.tables e below (T25.setTop (mkF m 55 #[.val (.int p1), .unset, .unset, .unset, .unset, .unset] [(.ref b1)])) _
    refine XS.dup X25.here hx rfl (hb hby at_55) rfl rfl ?_
    show Steps p.tables e below (T25.setTop (mkF m 56 #[.val (.int p1), .unset, .unset, .unset, .unset, .unset] [(.ref b1), (.ref b1)])) _
    refine XS.bipush X25.here hx rfl (hb hby at_56) ?_
    show Steps p.tables e below (T25.setTop (mkF m 58 #[.val (.int p1), .unset, .unset, .unset, .unset, .unset] [(.int (8 : Int32)), (.ref b1), (.ref b1)])) _
    refine st26 _ ?_
    show Steps p.tables e below (T26.setTop (mkF m 61 #[.val (.int p1), .unset, .unset, .unset, .unset, .unset] [(.ref w_NS), (.int (8 : Int32)), (.ref b1), (.ref b1)])) _
    refine st28 _ ?_
    show Steps p.tables e below (T28.setTop (mkF m 62 #[.val (.int p1), .unset, .unset, .unset, .unset, .unset] [(.ref b1)])) _
    refine XS.dup X28.here hx rfl (hb hby at_62) rfl rfl ?_
    show Steps p.tables e below (T28.setTop (mkF m 63 #[.val (.int p1), .unset, .unset, .unset, .unset, .unset] [(.ref b1), (.ref b1)])) _
    refine XS.bipush X28.here hx rfl (hb hby at_63) ?_
    show Steps p.tables e below (T28.setTop (mkF m 65 #[.val (.int p1), .unset, .unset, .unset, .unset, .unset] [(.int (9 : Int32)), (.ref b1), (.ref b1)])) _
    refine st29 _ ?_
    show Steps p.tables e below (T29.setTop (mkF m 68 #[.val (.int p1), .unset, .unset, .unset, .unset, .unset] [(.ref w_BS), (.int (9 : Int32)), (.ref b1), (.ref b1)])) _
    refine st31 _ ?_
    show Steps p.tables e below (T31.setTop (mkF m 69 #[.val (.int p1), .unset, .unset, .unset, .unset, .unset] [(.ref b1)])) _
    refine XS.astoreN X31.here hx rfl (hb hby at_69) rfl rfl (l' := #[.val (.int p1), .val (.ref b1), .unset, .unset, .unset, .unset]) rfl ?_
    show Steps p.tables e below (T31.setTop (mkF m 70 #[.val (.int p1), .val (.ref b1), .unset, .unset, .unset, .unset] [])) _
    refine XS.iloadN X31.here hx rfl (hb hby at_70) rfl ?_
    show Steps p.tables e below (T31.setTop (mkF m 71 #[.val (.int p1), .val (.ref b1), .unset, .unset, .unset, .unset] [(.int p1)])) _
    refine X31.ldcInt hx hown (mvT hZ (hw _ (List.mem_of_getElem? (i := 24) rfl))) (g := (mkF m 71 #[.val (.int p1), .val (.ref b1), .unset, .unset, .unset, .unset] [(.int p1)])) rfl (hb hby at_71) _ ?_
    show Steps p.tables e below (T31.setTop (mkF m 73 #[.val (.int p1), .val (.ref b1), .unset, .unset, .unset, .unset] [(.int (2147483647 : Int32)), (.int p1)])) _
    refine XS.iand X31.here hx rfl (hb hby at_73) rfl ?_
    show Steps p.tables e below (T31.setTop (mkF m 74 #[.val (.int p1), .val (.ref b1), .unset, .unset, .unset, .unset] [(.int (p1 &&& (2147483647 : Int32)))])) _
    refine XS.bipush X31.here hx rfl (hb hby at_74) ?_
    show Steps p.tables e below (T31.setTop (mkF m 76 #[.val (.int p1), .val (.ref b1), .unset, .unset, .unset, .unset] [(.int (10 : Int32)), (.int (p1 &&& (2147483647 : Int32)))])) _
    refine iremM (g := (mkF m 76 #[.val (.int p1), .val (.ref b1), .unset, .unset, .unset, .unset] [(.int (10 : Int32)), (.int (p1 &&& (2147483647 : Int32)))])) X31 hx rfl (hb hby at_76) rfl (by decide) ?_
    show Steps p.tables e below (T31.setTop (mkF m 77 #[.val (.int p1), .val (.ref b1), .unset, .unset, .unset, .unset] [(.int ((p1 &&& (2147483647 : Int32)) % (10 : Int32)))])) _
    refine XS.istoreN X31.here hx rfl (hb hby at_77) rfl (l' := #[.val (.int p1), .val (.ref b1), .val (.int ((p1 &&& (2147483647 : Int32)) % (10 : Int32))), .unset, .unset, .unset]) rfl ?_
    show Steps p.tables e below (T31.setTop (mkF m 78 #[.val (.int p1), .val (.ref b1), .val (.int ((p1 &&& (2147483647 : Int32)) % (10 : Int32))), .unset, .unset, .unset] [])) _
    refine XS.aloadN X31.here hx rfl (hb hby at_78) rfl rfl ?_
    show Steps p.tables e below (T31.setTop (mkF m 79 #[.val (.int p1), .val (.ref b1), .val (.int ((p1 &&& (2147483647 : Int32)) % (10 : Int32))), .unset, .unset, .unset] [(.ref b1)])) _
    refine XS.iloadN X31.here hx rfl (hb hby at_79) rfl ?_
    show Steps p.tables e below (T31.setTop (mkF m 80 #[.val (.int p1), .val (.ref b1), .val (.int ((p1 &&& (2147483647 : Int32)) % (10 : Int32))), .unset, .unset, .unset] [(.int ((p1 &&& (2147483647 : Int32)) % (10 : Int32))), (.ref b1)])) _
    refine X31.aaload hx (j := ((p1 &&& (2147483647 : Int32)) % (10 : Int32))) (v := (.ref (own_pick ((p1 &&& (2147483647 : Int32)) % (10 : Int32)) w_S w_N w_B w_BOOL w_NULL w_M w_L w_SS w_NS w_BS))) (by rw [e31]; exact Ar_b1_80_32.1) (State.isArrayOf_alike hZ.alike Ar_b1_80_32.2.1) rfl Ar_b1_80_32.2.2 hin_b1_80_32 (H_b1_80_32.at hin_b1_80_32 (own_at hrg.1 hrg.2 w_S w_N w_B w_BOOL w_NULL w_M w_L w_SS w_NS w_BS)) (g := (mkF m 80 #[.val (.int p1), .val (.ref b1), .val (.int ((p1 &&& (2147483647 : Int32)) % (10 : Int32))), .unset, .unset, .unset] [(.int ((p1 &&& (2147483647 : Int32)) % (10 : Int32))), (.ref b1)])) rfl rfl (hb hby at_80) _ ?_
    show Steps p.tables e below (T31.setTop (mkF m 81 #[.val (.int p1), .val (.ref b1), .val (.int ((p1 &&& (2147483647 : Int32)) % (10 : Int32))), .unset, .unset, .unset] [(.ref (own_pick ((p1 &&& (2147483647 : Int32)) % (10 : Int32)) w_S w_N w_B w_BOOL w_NULL w_M w_L w_SS w_NS w_BS))])) _
    refine XS.astoreN X31.here hx rfl (hb hby at_81) rfl rfl (l' := #[.val (.int p1), .val (.ref b1), .val (.int ((p1 &&& (2147483647 : Int32)) % (10 : Int32))), .val (.ref (own_pick ((p1 &&& (2147483647 : Int32)) % (10 : Int32)) w_S w_N w_B w_BOOL w_NULL w_M w_L w_SS w_NS w_BS)), .unset, .unset]) rfl ?_
    show Steps p.tables e below (T31.setTop (mkF m 82 #[.val (.int p1), .val (.ref b1), .val (.int ((p1 &&& (2147483647 : Int32)) % (10 : Int32))), .val (.ref (own_pick ((p1 &&& (2147483647 : Int32)) % (10 : Int32)) w_S w_N w_B w_BOOL w_NULL w_M w_L w_SS w_NS w_BS)), .unset, .unset] [])) _
    refine XS.aloadN X31.here hx rfl (hb hby at_82) rfl rfl ?_
    show Steps p.tables e below (T31.setTop (mkF m 83 #[.val (.int p1), .val (.ref b1), .val (.int ((p1 &&& (2147483647 : Int32)) % (10 : Int32))), .val (.ref (own_pick ((p1 &&& (2147483647 : Int32)) % (10 : Int32)) w_S w_N w_B w_BOOL w_NULL w_M w_L w_SS w_NS w_BS)), .unset, .unset] [(.ref (own_pick ((p1 &&& (2147483647 : Int32)) % (10 : Int32)) w_S w_N w_B w_BOOL w_NULL w_M w_L w_SS w_NS w_BS))])) _
    refine st33.trans ?_
    show Steps p.tables e below (T33.setTop (mkF m 86 #[.val (.int p1), .val (.ref b1), .val (.int ((p1 &&& (2147483647 : Int32)) % (10 : Int32))), .val (.ref (own_pick ((p1 &&& (2147483647 : Int32)) % (10 : Int32)) w_S w_N w_B w_BOOL w_NULL w_M w_L w_SS w_NS w_BS)), .unset, .unset] [(.int (res1 (own_pick ((p1 &&& (2147483647 : Int32)) % (10 : Int32)) w_S w_N w_B w_BOOL w_NULL w_M w_L w_SS w_NS w_BS) w_S w_N w_B))])) _
    refine XS.istore X33.here hx rfl (hb hby at_86) rfl (l' := #[.val (.int p1), .val (.ref b1), .val (.int ((p1 &&& (2147483647 : Int32)) % (10 : Int32))), .val (.ref (own_pick ((p1 &&& (2147483647 : Int32)) % (10 : Int32)) w_S w_N w_B w_BOOL w_NULL w_M w_L w_SS w_NS w_BS)), .val (.int (res1 (own_pick ((p1 &&& (2147483647 : Int32)) % (10 : Int32)) w_S w_N w_B w_BOOL w_NULL w_M w_L w_SS w_NS w_BS) w_S w_N w_B)), .unset]) rfl ?_
    show Steps p.tables e below (T33.setTop (mkF m 88 #[.val (.int p1), .val (.ref b1), .val (.int ((p1 &&& (2147483647 : Int32)) % (10 : Int32))), .val (.ref (own_pick ((p1 &&& (2147483647 : Int32)) % (10 : Int32)) w_S w_N w_B w_BOOL w_NULL w_M w_L w_SS w_NS w_BS)), .val (.int (res1 (own_pick ((p1 &&& (2147483647 : Int32)) % (10 : Int32)) w_S w_N w_B w_BOOL w_NULL w_M w_L w_SS w_NS w_BS) w_S w_N w_B)), .unset] [])) _
    refine XS.iloadN X33.here hx rfl (hb hby at_88) rfl ?_
    show Steps p.tables e below (T33.setTop (mkF m 89 #[.val (.int p1), .val (.ref b1), .val (.int ((p1 &&& (2147483647 : Int32)) % (10 : Int32))), .val (.ref (own_pick ((p1 &&& (2147483647 : Int32)) % (10 : Int32)) w_S w_N w_B w_BOOL w_NULL w_M w_L w_SS w_NS w_BS)), .val (.int (res1 (own_pick ((p1 &&& (2147483647 : Int32)) % (10 : Int32)) w_S w_N w_B w_BOOL w_NULL w_M w_L w_SS w_NS w_BS) w_S w_N w_B)), .unset] [(.int ((p1 &&& (2147483647 : Int32)) % (10 : Int32)))])) _
    refine XS.iconst X33.here hx rfl (hb hby at_89) ?_
    exact kt
  have pre36 : ∀ t, Steps p.tables e below (T33.setTop (mkF m 98 #[.val (.int p1), .val (.ref b1), .val (.int ((p1 &&& (2147483647 : Int32)) % (10 : Int32))), .val (.ref (own_pick ((p1 &&& (2147483647 : Int32)) % (10 : Int32)) w_S w_N w_B w_BOOL w_NULL w_M w_L w_SS w_NS w_BS)), .val (.int (res1 (own_pick ((p1 &&& (2147483647 : Int32)) % (10 : Int32)) w_S w_N w_B w_BOOL w_NULL w_M w_L w_SS w_NS w_BS) w_S w_N w_B)), .unset] [(.int (mg0_90_s0 p1))])) t → Steps p.tables e below (s₁.setTop (entryFrame m #[(.int p1)] maxLocals)) t := by
    intro t kt
    by_cases hc90_35 : ((p1 &&& (2147483647 : Int32)) % (10 : Int32)) < (3 : Int32)
    · rw [show (mg0_90_s0 p1) = (1 : Int32) from by rw [mg0_90_s0, if_pos hc90_35]] at kt
      refine pre34 _ ?_
      show Steps p.tables e below (T33.setTop (mkF m 90 #[.val (.int p1), .val (.ref b1), .val (.int ((p1 &&& (2147483647 : Int32)) % (10 : Int32))), .val (.ref (own_pick ((p1 &&& (2147483647 : Int32)) % (10 : Int32)) w_S w_N w_B w_BOOL w_NULL w_M w_L w_SS w_NS w_BS)), .val (.int (res1 (own_pick ((p1 &&& (2147483647 : Int32)) % (10 : Int32)) w_S w_N w_B w_BOOL w_NULL w_M w_L w_SS w_NS w_BS) w_S w_N w_B)), .unset] [(.int (3 : Int32)), (.int ((p1 &&& (2147483647 : Int32)) % (10 : Int32)))])) _
      refine XS.icmpNo X33.here hx rfl (hb hby at_90) rfl (tlt hc90_35).2.1 ?_
      show Steps p.tables e below (T33.setTop (mkF m 93 #[.val (.int p1), .val (.ref b1), .val (.int ((p1 &&& (2147483647 : Int32)) % (10 : Int32))), .val (.ref (own_pick ((p1 &&& (2147483647 : Int32)) % (10 : Int32)) w_S w_N w_B w_BOOL w_NULL w_M w_L w_SS w_NS w_BS)), .val (.int (res1 (own_pick ((p1 &&& (2147483647 : Int32)) % (10 : Int32)) w_S w_N w_B w_BOOL w_NULL w_M w_L w_SS w_NS w_BS) w_S w_N w_B)), .unset] [])) _
      refine XS.iconst X33.here hx rfl (hb hby at_93) ?_
      show Steps p.tables e below (T33.setTop (mkF m 94 #[.val (.int p1), .val (.ref b1), .val (.int ((p1 &&& (2147483647 : Int32)) % (10 : Int32))), .val (.ref (own_pick ((p1 &&& (2147483647 : Int32)) % (10 : Int32)) w_S w_N w_B w_BOOL w_NULL w_M w_L w_SS w_NS w_BS)), .val (.int (res1 (own_pick ((p1 &&& (2147483647 : Int32)) % (10 : Int32)) w_S w_N w_B w_BOOL w_NULL w_M w_L w_SS w_NS w_BS) w_S w_N w_B)), .unset] [(.int (1 : Int32))])) _
      refine XS.goto X33.here hx rfl (pc0 := 94) (pc' := 98) rfl (hb hby at_94) (by decide) (by decide) ?_
      exact kt
    · rw [show (mg0_90_s0 p1) = (0 : Int32) from by rw [mg0_90_s0, if_neg hc90_35]] at kt
      refine pre34 _ ?_
      show Steps p.tables e below (T33.setTop (mkF m 90 #[.val (.int p1), .val (.ref b1), .val (.int ((p1 &&& (2147483647 : Int32)) % (10 : Int32))), .val (.ref (own_pick ((p1 &&& (2147483647 : Int32)) % (10 : Int32)) w_S w_N w_B w_BOOL w_NULL w_M w_L w_SS w_NS w_BS)), .val (.int (res1 (own_pick ((p1 &&& (2147483647 : Int32)) % (10 : Int32)) w_S w_N w_B w_BOOL w_NULL w_M w_L w_SS w_NS w_BS) w_S w_N w_B)), .unset] [(.int (3 : Int32)), (.int ((p1 &&& (2147483647 : Int32)) % (10 : Int32)))])) _
      refine XS.icmpYes X33.here hx rfl (pc0 := 90) (pc' := 97) rfl (hb hby at_90) rfl (flt hc90_35).2.1 (by decide) (by decide) ?_
      show Steps p.tables e below (T33.setTop (mkF m 97 #[.val (.int p1), .val (.ref b1), .val (.int ((p1 &&& (2147483647 : Int32)) % (10 : Int32))), .val (.ref (own_pick ((p1 &&& (2147483647 : Int32)) % (10 : Int32)) w_S w_N w_B w_BOOL w_NULL w_M w_L w_SS w_NS w_BS)), .val (.int (res1 (own_pick ((p1 &&& (2147483647 : Int32)) % (10 : Int32)) w_S w_N w_B w_BOOL w_NULL w_M w_L w_SS w_NS w_BS) w_S w_N w_B)), .unset] [])) _
      refine XS.iconst X33.here hx rfl (hb hby at_97) ?_
      exact kt
  have pre37 : ∀ t, Steps p.tables e below (T33.setTop (mkF m 104 #[.val (.int p1), .val (.ref b1), .val (.int ((p1 &&& (2147483647 : Int32)) % (10 : Int32))), .val (.ref (own_pick ((p1 &&& (2147483647 : Int32)) % (10 : Int32)) w_S w_N w_B w_BOOL w_NULL w_M w_L w_SS w_NS w_BS)), .val (.int (res1 (own_pick ((p1 &&& (2147483647 : Int32)) % (10 : Int32)) w_S w_N w_B w_BOOL w_NULL w_M w_L w_SS w_NS w_BS) w_S w_N w_B)), .val (.int (mg0_90_s0 p1))] [(.int (mg0_90_s0 p1)), (.int (res1 (own_pick ((p1 &&& (2147483647 : Int32)) % (10 : Int32)) w_S w_N w_B w_BOOL w_NULL w_M w_L w_SS w_NS w_BS) w_S w_N w_B))])) t → Steps p.tables e below (s₁.setTop (entryFrame m #[(.int p1)] maxLocals)) t := by
    intro t kt
    refine pre36 _ ?_
    show Steps p.tables e below (T33.setTop (mkF m 98 #[.val (.int p1), .val (.ref b1), .val (.int ((p1 &&& (2147483647 : Int32)) % (10 : Int32))), .val (.ref (own_pick ((p1 &&& (2147483647 : Int32)) % (10 : Int32)) w_S w_N w_B w_BOOL w_NULL w_M w_L w_SS w_NS w_BS)), .val (.int (res1 (own_pick ((p1 &&& (2147483647 : Int32)) % (10 : Int32)) w_S w_N w_B w_BOOL w_NULL w_M w_L w_SS w_NS w_BS) w_S w_N w_B)), .unset] [(.int (mg0_90_s0 p1))])) _
    refine XS.istore X33.here hx rfl (hb hby at_98) rfl (l' := #[.val (.int p1), .val (.ref b1), .val (.int ((p1 &&& (2147483647 : Int32)) % (10 : Int32))), .val (.ref (own_pick ((p1 &&& (2147483647 : Int32)) % (10 : Int32)) w_S w_N w_B w_BOOL w_NULL w_M w_L w_SS w_NS w_BS)), .val (.int (res1 (own_pick ((p1 &&& (2147483647 : Int32)) % (10 : Int32)) w_S w_N w_B w_BOOL w_NULL w_M w_L w_SS w_NS w_BS) w_S w_N w_B)), .val (.int (mg0_90_s0 p1))]) rfl ?_
    show Steps p.tables e below (T33.setTop (mkF m 100 #[.val (.int p1), .val (.ref b1), .val (.int ((p1 &&& (2147483647 : Int32)) % (10 : Int32))), .val (.ref (own_pick ((p1 &&& (2147483647 : Int32)) % (10 : Int32)) w_S w_N w_B w_BOOL w_NULL w_M w_L w_SS w_NS w_BS)), .val (.int (res1 (own_pick ((p1 &&& (2147483647 : Int32)) % (10 : Int32)) w_S w_N w_B w_BOOL w_NULL w_M w_L w_SS w_NS w_BS) w_S w_N w_B)), .val (.int (mg0_90_s0 p1))] [])) _
    refine XS.iload X33.here hx rfl (hb hby at_100) rfl ?_
    show Steps p.tables e below (T33.setTop (mkF m 102 #[.val (.int p1), .val (.ref b1), .val (.int ((p1 &&& (2147483647 : Int32)) % (10 : Int32))), .val (.ref (own_pick ((p1 &&& (2147483647 : Int32)) % (10 : Int32)) w_S w_N w_B w_BOOL w_NULL w_M w_L w_SS w_NS w_BS)), .val (.int (res1 (own_pick ((p1 &&& (2147483647 : Int32)) % (10 : Int32)) w_S w_N w_B w_BOOL w_NULL w_M w_L w_SS w_NS w_BS) w_S w_N w_B)), .val (.int (mg0_90_s0 p1))] [(.int (res1 (own_pick ((p1 &&& (2147483647 : Int32)) % (10 : Int32)) w_S w_N w_B w_BOOL w_NULL w_M w_L w_SS w_NS w_BS) w_S w_N w_B))])) _
    refine XS.iload X33.here hx rfl (hb hby at_102) rfl ?_
    exact kt
  by_cases hc104_38 : (res1 (own_pick ((p1 &&& (2147483647 : Int32)) % (10 : Int32)) w_S w_N w_B w_BOOL w_NULL w_M w_L w_SS w_NS w_BS) w_S w_N w_B) = (mg0_90_s0 p1)
  · have pre39 : ∀ t, Steps p.tables e below (T33.setTop (mkF m 111 #[.val (.int p1), .val (.ref b1), .val (.int ((p1 &&& (2147483647 : Int32)) % (10 : Int32))), .val (.ref (own_pick ((p1 &&& (2147483647 : Int32)) % (10 : Int32)) w_S w_N w_B w_BOOL w_NULL w_M w_L w_SS w_NS w_BS)), .val (.int (res1 (own_pick ((p1 &&& (2147483647 : Int32)) % (10 : Int32)) w_S w_N w_B w_BOOL w_NULL w_M w_L w_SS w_NS w_BS) w_S w_N w_B)), .val (.int (mg0_90_s0 p1))] [(.int (res1 (own_pick ((p1 &&& (2147483647 : Int32)) % (10 : Int32)) w_S w_N w_B w_BOOL w_NULL w_M w_L w_SS w_NS w_BS) w_S w_N w_B))])) t → Steps p.tables e below (s₁.setTop (entryFrame m #[(.int p1)] maxLocals)) t := by
      intro t kt
      refine pre37 _ ?_
      show Steps p.tables e below (T33.setTop (mkF m 104 #[.val (.int p1), .val (.ref b1), .val (.int ((p1 &&& (2147483647 : Int32)) % (10 : Int32))), .val (.ref (own_pick ((p1 &&& (2147483647 : Int32)) % (10 : Int32)) w_S w_N w_B w_BOOL w_NULL w_M w_L w_SS w_NS w_BS)), .val (.int (res1 (own_pick ((p1 &&& (2147483647 : Int32)) % (10 : Int32)) w_S w_N w_B w_BOOL w_NULL w_M w_L w_SS w_NS w_BS) w_S w_N w_B)), .val (.int (mg0_90_s0 p1))] [(.int (mg0_90_s0 p1)), (.int (res1 (own_pick ((p1 &&& (2147483647 : Int32)) % (10 : Int32)) w_S w_N w_B w_BOOL w_NULL w_M w_L w_SS w_NS w_BS) w_S w_N w_B))])) _
      refine XS.icmpYes X33.here hx rfl (pc0 := 104) (pc' := 109) rfl (hb hby at_104) rfl (teq hc104_38).1 (by decide) (by decide) ?_
      show Steps p.tables e below (T33.setTop (mkF m 109 #[.val (.int p1), .val (.ref b1), .val (.int ((p1 &&& (2147483647 : Int32)) % (10 : Int32))), .val (.ref (own_pick ((p1 &&& (2147483647 : Int32)) % (10 : Int32)) w_S w_N w_B w_BOOL w_NULL w_M w_L w_SS w_NS w_BS)), .val (.int (res1 (own_pick ((p1 &&& (2147483647 : Int32)) % (10 : Int32)) w_S w_N w_B w_BOOL w_NULL w_M w_L w_SS w_NS w_BS) w_S w_N w_B)), .val (.int (mg0_90_s0 p1))] [])) _
      refine XS.iload X33.here hx rfl (hb hby at_109) rfl ?_
      exact kt
    by_cases hc111_40 : (res1 (own_pick ((p1 &&& (2147483647 : Int32)) % (10 : Int32)) w_S w_N w_B w_BOOL w_NULL w_M w_L w_SS w_NS w_BS) w_S w_N w_B) = (0 : Int32)
    · have pre41 : ∀ t, Steps p.tables e below (T33.setTop (mkF m 126 #[.val (.int p1), .val (.ref b1), .val (.int ((p1 &&& (2147483647 : Int32)) % (10 : Int32))), .val (.ref (own_pick ((p1 &&& (2147483647 : Int32)) % (10 : Int32)) w_S w_N w_B w_BOOL w_NULL w_M w_L w_SS w_NS w_BS)), .val (.int (res1 (own_pick ((p1 &&& (2147483647 : Int32)) % (10 : Int32)) w_S w_N w_B w_BOOL w_NULL w_M w_L w_SS w_NS w_BS) w_S w_N w_B)), .val (.int (mg0_90_s0 p1))] [(.int (7 : Int32)), (.int ((p1 &&& (2147483647 : Int32)) % (10 : Int32)))])) t → Steps p.tables e below (s₁.setTop (entryFrame m #[(.int p1)] maxLocals)) t := by
        intro t kt
        refine pre39 _ ?_
        show Steps p.tables e below (T33.setTop (mkF m 111 #[.val (.int p1), .val (.ref b1), .val (.int ((p1 &&& (2147483647 : Int32)) % (10 : Int32))), .val (.ref (own_pick ((p1 &&& (2147483647 : Int32)) % (10 : Int32)) w_S w_N w_B w_BOOL w_NULL w_M w_L w_SS w_NS w_BS)), .val (.int (res1 (own_pick ((p1 &&& (2147483647 : Int32)) % (10 : Int32)) w_S w_N w_B w_BOOL w_NULL w_M w_L w_SS w_NS w_BS) w_S w_N w_B)), .val (.int (mg0_90_s0 p1))] [(.int (res1 (own_pick ((p1 &&& (2147483647 : Int32)) % (10 : Int32)) w_S w_N w_B w_BOOL w_NULL w_M w_L w_SS w_NS w_BS) w_S w_N w_B))])) _
        refine XS.ifYes X33.here hx rfl (pc0 := 111) (pc' := 123) rfl (hb hby at_111) rfl ((if0 _ _).trans (teq hc111_40).1) (by decide) (by decide) ?_
        show Steps p.tables e below (T33.setTop (mkF m 123 #[.val (.int p1), .val (.ref b1), .val (.int ((p1 &&& (2147483647 : Int32)) % (10 : Int32))), .val (.ref (own_pick ((p1 &&& (2147483647 : Int32)) % (10 : Int32)) w_S w_N w_B w_BOOL w_NULL w_M w_L w_SS w_NS w_BS)), .val (.int (res1 (own_pick ((p1 &&& (2147483647 : Int32)) % (10 : Int32)) w_S w_N w_B w_BOOL w_NULL w_M w_L w_SS w_NS w_BS) w_S w_N w_B)), .val (.int (mg0_90_s0 p1))] [])) _
        refine XS.iloadN X33.here hx rfl (hb hby at_123) rfl ?_
        show Steps p.tables e below (T33.setTop (mkF m 124 #[.val (.int p1), .val (.ref b1), .val (.int ((p1 &&& (2147483647 : Int32)) % (10 : Int32))), .val (.ref (own_pick ((p1 &&& (2147483647 : Int32)) % (10 : Int32)) w_S w_N w_B w_BOOL w_NULL w_M w_L w_SS w_NS w_BS)), .val (.int (res1 (own_pick ((p1 &&& (2147483647 : Int32)) % (10 : Int32)) w_S w_N w_B w_BOOL w_NULL w_M w_L w_SS w_NS w_BS) w_S w_N w_B)), .val (.int (mg0_90_s0 p1))] [(.int ((p1 &&& (2147483647 : Int32)) % (10 : Int32)))])) _
        refine XS.bipush X33.here hx rfl (hb hby at_124) ?_
        exact kt
      by_cases hc126_42 : ((p1 &&& (2147483647 : Int32)) % (10 : Int32)) < (7 : Int32)
      · obtain ⟨fs, hr, hrun, hended, hW, hsame⟩ := X33.leave (v := some (.int (1 : Int32))) (fun h => by rw [Bd.returns] at h; cases h)
        refine ⟨_, _, pre41 _ ?_, hrun, hended, _, _, rfl, ?_, ⟨_, rfl⟩, hW, hsame.mono (by decide) (by decide)⟩
        · show Steps p.tables e below (T33.setTop (mkF m 126 #[.val (.int p1), .val (.ref b1), .val (.int ((p1 &&& (2147483647 : Int32)) % (10 : Int32))), .val (.ref (own_pick ((p1 &&& (2147483647 : Int32)) % (10 : Int32)) w_S w_N w_B w_BOOL w_NULL w_M w_L w_SS w_NS w_BS)), .val (.int (res1 (own_pick ((p1 &&& (2147483647 : Int32)) % (10 : Int32)) w_S w_N w_B w_BOOL w_NULL w_M w_L w_SS w_NS w_BS) w_S w_N w_B)), .val (.int (mg0_90_s0 p1))] [(.int (7 : Int32)), (.int ((p1 &&& (2147483647 : Int32)) % (10 : Int32)))])) _
          refine XS.icmpYes X33.here hx rfl (pc0 := 126) (pc' := 141) rfl (hb hby at_126) rfl (tlt hc126_42).1 (by decide) (by decide) ?_
          show Steps p.tables e below (T33.setTop (mkF m 141 #[.val (.int p1), .val (.ref b1), .val (.int ((p1 &&& (2147483647 : Int32)) % (10 : Int32))), .val (.ref (own_pick ((p1 &&& (2147483647 : Int32)) % (10 : Int32)) w_S w_N w_B w_BOOL w_NULL w_M w_L w_SS w_NS w_BS)), .val (.int (res1 (own_pick ((p1 &&& (2147483647 : Int32)) % (10 : Int32)) w_S w_N w_B w_BOOL w_NULL w_M w_L w_SS w_NS w_BS) w_S w_N w_B)), .val (.int (mg0_90_s0 p1))] [])) _
          refine XS.iconst X33.here hx rfl (hb hby at_141) ?_
          show Steps p.tables e below (T33.setTop (mkF m 142 #[.val (.int p1), .val (.ref b1), .val (.int ((p1 &&& (2147483647 : Int32)) % (10 : Int32))), .val (.ref (own_pick ((p1 &&& (2147483647 : Int32)) % (10 : Int32)) w_S w_N w_B w_BOOL w_NULL w_M w_L w_SS w_NS w_BS)), .val (.int (res1 (own_pick ((p1 &&& (2147483647 : Int32)) % (10 : Int32)) w_S w_N w_B w_BOOL w_NULL w_M w_L w_SS w_NS w_BS) w_S w_N w_B)), .val (.int (mg0_90_s0 p1))] [(.int (1 : Int32))])) _
          exact retN X33 hx (t := .boolean) Bd.returns (by simp) (hb hby at_142) hr
        · show Q0 Z p1 w_S w_N w_B w_BOOL w_NULL w_M w_L w_SS w_NS w_BS h0 n0 _ T33.heap _
          rw [e33]
          exact ⟨by rw [res0, if_pos hc104_38, if_pos hc111_40, if_pos hc126_42], N33⟩
      · obtain ⟨cq43, kq43, q43a, q43b, q43c⟩ := isOf hZ e33 E_r
        obtain ⟨_, _, ⟨T43, L43, k43, n43⟩, -, X43, ⟨Lc43, hQ43, l43, y43, z43⟩, st43⟩ := X33.virtualBack hx (y := (⟨"com/example/elliott_bay/elliottbay/value/AttributeType", "memberType", "()Lcom/example/elliott_bay/elliottbay/value/AttributeType;"⟩ : MethodName)) (z := (⟨"com/example/elliott_bay/elliottbay/value/AttributeType", "memberType", "()Lcom/example/elliott_bay/elliottbay/value/AttributeType;"⟩ : MethodName)) hown (mvT hZ (hw _ (List.mem_of_getElem? (i := 41) rfl))) (mvT hZ (hw _ (List.mem_of_getElem? (i := 42) rfl))) (notFace_of_selects (args := #[]) (mvT hZ (hw _ (List.mem_of_getElem? (i := 44) rfl)))) (mvT hZ (hw _ (List.mem_of_getElem? (i := 44) rfl))) (mvT hZ (hw _ (List.mem_of_getElem? (i := 43) rfl))) (by decide) (backOf (W := 0) (rm3 l Z a0 hw [] (own_pick ((p1 &&& (2147483647 : Int32)) % (10 : Int32)) w_S w_N w_B w_BOOL w_NULL w_M w_L w_SS w_NS w_BS) ((p1 &&& (2147483647 : Int32)) % (10 : Int32)) w_S w_N w_B h31 n0 (Nat.le_trans Z0 K31.1) F_r E_r (((((((((((S_S.ext E1).wr W4).wr W7).wr W10).wr W13).wr W16).wr W19).wr W22).wr W25).wr W28).wr W31) (((((((((((S_N.ext E1).wr W4).wr W7).wr W10).wr W13).wr W16).wr W19).wr W22).wr W25).wr W28).wr W31) (((((((((((S_B.ext E1).wr W4).wr W7).wr W10).wr W13).wr W16).wr W19).wr W22).wr W25).wr W28).wr W31) (own_def ((p1 &&& (2147483647 : Int32)) % (10 : Int32)) hrg.1 hrg.2 hc126_42 : ((p1 &&& (2147483647 : Int32)) % (10 : Int32)) = (7 : Int32) ∨ ((p1 &&& (2147483647 : Int32)) % (10 : Int32)) = (8 : Int32) ∨ ((p1 &&& (2147483647 : Int32)) % (10 : Int32)) = (9 : Int32))) hZ (hw _ (List.mem_of_getElem? (i := 45) rfl)) (hw _ (List.mem_of_getElem? (i := 3) rfl)) (by decide) (by decide)) q43a q43c (g := (mkF m 130 #[.val (.int p1), .val (.ref b1), .val (.int ((p1 &&& (2147483647 : Int32)) % (10 : Int32))), .val (.ref (own_pick ((p1 &&& (2147483647 : Int32)) % (10 : Int32)) w_S w_N w_B w_BOOL w_NULL w_M w_L w_SS w_NS w_BS)), .val (.int (res1 (own_pick ((p1 &&& (2147483647 : Int32)) % (10 : Int32)) w_S w_N w_B w_BOOL w_NULL w_M w_L w_SS w_NS w_BS) w_S w_N w_B)), .val (.int (mg0_90_s0 p1))] [(.ref (own_pick ((p1 &&& (2147483647 : Int32)) % (10 : Int32)) w_S w_N w_B w_BOOL w_NULL w_M w_L w_SS w_NS w_BS))])) rfl (by rw [hml]; rfl) (Steps.refl _) (argsL := []) (rest := []) (lenOf pd2 rfl) rfl (by show 2 * 0 + _ ≤ _; exact Nat.le_of_eq rfl) (hb hby at_130) (fun _ _ => ⟨rfl, e33, (by decide : 1 + 0 ≤ _), (by decide : 10 + 0 ≤ _)⟩)
        dsimp only [Pt.U, Pt.locs, Pt.cells, Pt.slots] at X43 l43 y43 z43 st43 hQ43
        subst l43 y43 z43
        obtain ⟨rfl, rfl, e43⟩ := hQ43
        have N43 := Fr.app N33 (Fr.nil n0)
        have E_q44 := own_exa3 (Z := Z) (h := h31) ((p1 &&& (2147483647 : Int32)) % (10 : Int32)) w_S w_N w_B (((((((((((E_w_S.ext E1).wr W4).wr W7).wr W10).wr W13).wr W16).wr W19).wr W22).wr W25).wr W28).wr W31) (((((((((((E_w_N.ext E1).wr W4).wr W7).wr W10).wr W13).wr W16).wr W19).wr W22).wr W25).wr W28).wr W31) (((((((((((E_w_B.ext E1).wr W4).wr W7).wr W10).wr W13).wr W16).wr W19).wr W22).wr W25).wr W28).wr W31)
        obtain ⟨cq45, kq45, q45a, q45b, q45c⟩ := isOf hZ e43 E_q44
        obtain ⟨_, _, ⟨T45, L45, k45, n45⟩, -, X45, ⟨Lc45, hQ45, l45, y45, z45⟩, st45⟩ := X43.virtualBack hx (y := (⟨"com/example/elliott_bay/elliottbay/value/AttributeType", "isScalar", "()Z"⟩ : MethodName)) (z := (⟨"com/example/elliott_bay/elliottbay/value/AttributeType", "isScalar", "()Z"⟩ : MethodName)) hown (mvT hZ (hw _ (List.mem_of_getElem? (i := 25) rfl))) (mvT hZ (hw _ (List.mem_of_getElem? (i := 26) rfl))) (notFace_of_selects (args := #[]) (mvT hZ (hw _ (List.mem_of_getElem? (i := 28) rfl)))) (mvT hZ (hw _ (List.mem_of_getElem? (i := 28) rfl))) (mvT hZ (hw _ (List.mem_of_getElem? (i := 27) rfl))) (by decide) (backOf (W := 0) (rm1 l Z a0 hw [] (res3 ((p1 &&& (2147483647 : Int32)) % (10 : Int32)) w_S w_N w_B) w_S w_N w_B h31 n0 (Nat.le_trans Z0 K31.1) (((((((((((S_S.ext E1).wr W4).wr W7).wr W10).wr W13).wr W16).wr W19).wr W22).wr W25).wr W28).wr W31) (((((((((((S_N.ext E1).wr W4).wr W7).wr W10).wr W13).wr W16).wr W19).wr W22).wr W25).wr W28).wr W31) (((((((((((S_B.ext E1).wr W4).wr W7).wr W10).wr W13).wr W16).wr W19).wr W22).wr W25).wr W28).wr W31) ) hZ (hw _ (List.mem_of_getElem? (i := 29) rfl)) (hw _ (List.mem_of_getElem? (i := 3) rfl)) (by decide) (by decide)) q45a q45c (g := (mkF m 133 #[.val (.int p1), .val (.ref b1), .val (.int ((p1 &&& (2147483647 : Int32)) % (10 : Int32))), .val (.ref (own_pick ((p1 &&& (2147483647 : Int32)) % (10 : Int32)) w_S w_N w_B w_BOOL w_NULL w_M w_L w_SS w_NS w_BS)), .val (.int (res1 (own_pick ((p1 &&& (2147483647 : Int32)) % (10 : Int32)) w_S w_N w_B w_BOOL w_NULL w_M w_L w_SS w_NS w_BS) w_S w_N w_B)), .val (.int (mg0_90_s0 p1))] [(.ref (res3 ((p1 &&& (2147483647 : Int32)) % (10 : Int32)) w_S w_N w_B))])) rfl (by rw [hml]; rfl) (Steps.refl _) (argsL := []) (rest := []) (lenOf pd1 rfl) rfl (by show 2 * 0 + _ ≤ _; exact Nat.le_of_eq rfl) (hb hby at_133) (fun _ _ => ⟨rfl, e43, (by decide : 1 + 0 ≤ _), (by decide : 10 + 0 ≤ _)⟩)
        dsimp only [Pt.U, Pt.locs, Pt.cells, Pt.slots] at X45 l45 y45 z45 st45 hQ45
        subst l45 y45 z45
        obtain ⟨rfl, rfl, e45⟩ := hQ45
        have N45 := Fr.app N43 (Fr.nil n0)
        have pre46 : ∀ t, Steps p.tables e below (T45.setTop (mkF m 136 #[.val (.int p1), .val (.ref b1), .val (.int ((p1 &&& (2147483647 : Int32)) % (10 : Int32))), .val (.ref (own_pick ((p1 &&& (2147483647 : Int32)) % (10 : Int32)) w_S w_N w_B w_BOOL w_NULL w_M w_L w_SS w_NS w_BS)), .val (.int (res1 (own_pick ((p1 &&& (2147483647 : Int32)) % (10 : Int32)) w_S w_N w_B w_BOOL w_NULL w_M w_L w_SS w_NS w_BS) w_S w_N w_B)), .val (.int (mg0_90_s0 p1))] [(.int (res1 (res3 ((p1 &&& (2147483647 : Int32)) % (10 : Int32)) w_S w_N w_B) w_S w_N w_B))])) t → Steps p.tables e below (s₁.setTop (entryFrame m #[(.int p1)] maxLocals)) t := by
          intro t kt
          refine pre41 _ ?_
          show Steps p.tables e below (T33.setTop (mkF m 126 #[.val (.int p1), .val (.ref b1), .val (.int ((p1 &&& (2147483647 : Int32)) % (10 : Int32))), .val (.ref (own_pick ((p1 &&& (2147483647 : Int32)) % (10 : Int32)) w_S w_N w_B w_BOOL w_NULL w_M w_L w_SS w_NS w_BS)), .val (.int (res1 (own_pick ((p1 &&& (2147483647 : Int32)) % (10 : Int32)) w_S w_N w_B w_BOOL w_NULL w_M w_L w_SS w_NS w_BS) w_S w_N w_B)), .val (.int (mg0_90_s0 p1))] [(.int (7 : Int32)), (.int ((p1 &&& (2147483647 : Int32)) % (10 : Int32)))])) _
          refine XS.icmpNo X33.here hx rfl (hb hby at_126) rfl (flt hc126_42).1 ?_
          show Steps p.tables e below (T33.setTop (mkF m 129 #[.val (.int p1), .val (.ref b1), .val (.int ((p1 &&& (2147483647 : Int32)) % (10 : Int32))), .val (.ref (own_pick ((p1 &&& (2147483647 : Int32)) % (10 : Int32)) w_S w_N w_B w_BOOL w_NULL w_M w_L w_SS w_NS w_BS)), .val (.int (res1 (own_pick ((p1 &&& (2147483647 : Int32)) % (10 : Int32)) w_S w_N w_B w_BOOL w_NULL w_M w_L w_SS w_NS w_BS) w_S w_N w_B)), .val (.int (mg0_90_s0 p1))] [])) _
          refine XS.aloadN X33.here hx rfl (hb hby at_129) rfl rfl ?_
          show Steps p.tables e below (T33.setTop (mkF m 130 #[.val (.int p1), .val (.ref b1), .val (.int ((p1 &&& (2147483647 : Int32)) % (10 : Int32))), .val (.ref (own_pick ((p1 &&& (2147483647 : Int32)) % (10 : Int32)) w_S w_N w_B w_BOOL w_NULL w_M w_L w_SS w_NS w_BS)), .val (.int (res1 (own_pick ((p1 &&& (2147483647 : Int32)) % (10 : Int32)) w_S w_N w_B w_BOOL w_NULL w_M w_L w_SS w_NS w_BS) w_S w_N w_B)), .val (.int (mg0_90_s0 p1))] [(.ref (own_pick ((p1 &&& (2147483647 : Int32)) % (10 : Int32)) w_S w_N w_B w_BOOL w_NULL w_M w_L w_SS w_NS w_BS))])) _
          refine st43.trans ?_
          show Steps p.tables e below (T43.setTop (mkF m 133 #[.val (.int p1), .val (.ref b1), .val (.int ((p1 &&& (2147483647 : Int32)) % (10 : Int32))), .val (.ref (own_pick ((p1 &&& (2147483647 : Int32)) % (10 : Int32)) w_S w_N w_B w_BOOL w_NULL w_M w_L w_SS w_NS w_BS)), .val (.int (res1 (own_pick ((p1 &&& (2147483647 : Int32)) % (10 : Int32)) w_S w_N w_B w_BOOL w_NULL w_M w_L w_SS w_NS w_BS) w_S w_N w_B)), .val (.int (mg0_90_s0 p1))] [(.ref (res3 ((p1 &&& (2147483647 : Int32)) % (10 : Int32)) w_S w_N w_B))])) _
          refine st45.trans ?_
          exact kt
        by_cases hc136_47 : (res1 (res3 ((p1 &&& (2147483647 : Int32)) % (10 : Int32)) w_S w_N w_B) w_S w_N w_B) = (0 : Int32)
        · obtain ⟨fs, hr, hrun, hended, hW, hsame⟩ := X45.leave (v := some (.int (0 : Int32))) (fun h => by rw [Bd.returns] at h; cases h)
          refine ⟨_, _, pre46 _ ?_, hrun, hended, _, _, rfl, ?_, ⟨_, rfl⟩, hW, hsame.mono (by decide) (by decide)⟩
          · show Steps p.tables e below (T45.setTop (mkF m 136 #[.val (.int p1), .val (.ref b1), .val (.int ((p1 &&& (2147483647 : Int32)) % (10 : Int32))), .val (.ref (own_pick ((p1 &&& (2147483647 : Int32)) % (10 : Int32)) w_S w_N w_B w_BOOL w_NULL w_M w_L w_SS w_NS w_BS)), .val (.int (res1 (own_pick ((p1 &&& (2147483647 : Int32)) % (10 : Int32)) w_S w_N w_B w_BOOL w_NULL w_M w_L w_SS w_NS w_BS) w_S w_N w_B)), .val (.int (mg0_90_s0 p1))] [(.int (res1 (res3 ((p1 &&& (2147483647 : Int32)) % (10 : Int32)) w_S w_N w_B) w_S w_N w_B))])) _
            refine XS.ifNo X45.here hx rfl (hb hby at_136) rfl ((if0 _ _).trans (teq hc136_47).2) ?_
            show Steps p.tables e below (T45.setTop (mkF m 139 #[.val (.int p1), .val (.ref b1), .val (.int ((p1 &&& (2147483647 : Int32)) % (10 : Int32))), .val (.ref (own_pick ((p1 &&& (2147483647 : Int32)) % (10 : Int32)) w_S w_N w_B w_BOOL w_NULL w_M w_L w_SS w_NS w_BS)), .val (.int (res1 (own_pick ((p1 &&& (2147483647 : Int32)) % (10 : Int32)) w_S w_N w_B w_BOOL w_NULL w_M w_L w_SS w_NS w_BS) w_S w_N w_B)), .val (.int (mg0_90_s0 p1))] [])) _
            refine XS.iconst X45.here hx rfl (hb hby at_139) ?_
            show Steps p.tables e below (T45.setTop (mkF m 140 #[.val (.int p1), .val (.ref b1), .val (.int ((p1 &&& (2147483647 : Int32)) % (10 : Int32))), .val (.ref (own_pick ((p1 &&& (2147483647 : Int32)) % (10 : Int32)) w_S w_N w_B w_BOOL w_NULL w_M w_L w_SS w_NS w_BS)), .val (.int (res1 (own_pick ((p1 &&& (2147483647 : Int32)) % (10 : Int32)) w_S w_N w_B w_BOOL w_NULL w_M w_L w_SS w_NS w_BS) w_S w_N w_B)), .val (.int (mg0_90_s0 p1))] [(.int (0 : Int32))])) _
            exact retN X45 hx (t := .boolean) Bd.returns (by simp) (hb hby at_140) hr
          · show Q0 Z p1 w_S w_N w_B w_BOOL w_NULL w_M w_L w_SS w_NS w_BS h0 n0 _ T45.heap _
            rw [e45]
            exact ⟨by rw [res0, if_pos hc104_38, if_pos hc111_40, if_neg hc126_42, if_pos hc136_47], N45⟩
        · obtain ⟨fs, hr, hrun, hended, hW, hsame⟩ := X45.leave (v := some (.int (1 : Int32))) (fun h => by rw [Bd.returns] at h; cases h)
          refine ⟨_, _, pre46 _ ?_, hrun, hended, _, _, rfl, ?_, ⟨_, rfl⟩, hW, hsame.mono (by decide) (by decide)⟩
          · show Steps p.tables e below (T45.setTop (mkF m 136 #[.val (.int p1), .val (.ref b1), .val (.int ((p1 &&& (2147483647 : Int32)) % (10 : Int32))), .val (.ref (own_pick ((p1 &&& (2147483647 : Int32)) % (10 : Int32)) w_S w_N w_B w_BOOL w_NULL w_M w_L w_SS w_NS w_BS)), .val (.int (res1 (own_pick ((p1 &&& (2147483647 : Int32)) % (10 : Int32)) w_S w_N w_B w_BOOL w_NULL w_M w_L w_SS w_NS w_BS) w_S w_N w_B)), .val (.int (mg0_90_s0 p1))] [(.int (res1 (res3 ((p1 &&& (2147483647 : Int32)) % (10 : Int32)) w_S w_N w_B) w_S w_N w_B))])) _
            refine XS.ifYes X45.here hx rfl (pc0 := 136) (pc' := 141) rfl (hb hby at_136) rfl ((if0 _ _).trans (feq hc136_47).2) (by decide) (by decide) ?_
            show Steps p.tables e below (T45.setTop (mkF m 141 #[.val (.int p1), .val (.ref b1), .val (.int ((p1 &&& (2147483647 : Int32)) % (10 : Int32))), .val (.ref (own_pick ((p1 &&& (2147483647 : Int32)) % (10 : Int32)) w_S w_N w_B w_BOOL w_NULL w_M w_L w_SS w_NS w_BS)), .val (.int (res1 (own_pick ((p1 &&& (2147483647 : Int32)) % (10 : Int32)) w_S w_N w_B w_BOOL w_NULL w_M w_L w_SS w_NS w_BS) w_S w_N w_B)), .val (.int (mg0_90_s0 p1))] [])) _
            refine XS.iconst X45.here hx rfl (hb hby at_141) ?_
            show Steps p.tables e below (T45.setTop (mkF m 142 #[.val (.int p1), .val (.ref b1), .val (.int ((p1 &&& (2147483647 : Int32)) % (10 : Int32))), .val (.ref (own_pick ((p1 &&& (2147483647 : Int32)) % (10 : Int32)) w_S w_N w_B w_BOOL w_NULL w_M w_L w_SS w_NS w_BS)), .val (.int (res1 (own_pick ((p1 &&& (2147483647 : Int32)) % (10 : Int32)) w_S w_N w_B w_BOOL w_NULL w_M w_L w_SS w_NS w_BS) w_S w_N w_B)), .val (.int (mg0_90_s0 p1))] [(.int (1 : Int32))])) _
            exact retN X45 hx (t := .boolean) Bd.returns (by simp) (hb hby at_142) hr
          · show Q0 Z p1 w_S w_N w_B w_BOOL w_NULL w_M w_L w_SS w_NS w_BS h0 n0 _ T45.heap _
            rw [e45]
            exact ⟨by rw [res0, if_pos hc104_38, if_pos hc111_40, if_neg hc126_42, if_neg hc136_47], N45⟩
    · obtain ⟨cq48, kq48, q48a, q48b, q48c⟩ := isOf hZ e33 E_r
      obtain ⟨_, _, ⟨T48, L48, k48, n48⟩, -, X48, ⟨Lc48, hQ48, l48, y48, z48⟩, st48⟩ := X33.virtualBack hx (y := (⟨"com/example/elliott_bay/elliottbay/value/AttributeType", "isSet", "()Z"⟩ : MethodName)) (z := (⟨"com/example/elliott_bay/elliottbay/value/AttributeType", "isSet", "()Z"⟩ : MethodName)) hown (mvT hZ (hw _ (List.mem_of_getElem? (i := 31) rfl))) (mvT hZ (hw _ (List.mem_of_getElem? (i := 32) rfl))) (notFace_of_selects (args := #[]) (mvT hZ (hw _ (List.mem_of_getElem? (i := 34) rfl)))) (mvT hZ (hw _ (List.mem_of_getElem? (i := 34) rfl))) (mvT hZ (hw _ (List.mem_of_getElem? (i := 33) rfl))) (by decide) (backOf (W := 0) (rm2 l Z a0 hw [] (own_pick ((p1 &&& (2147483647 : Int32)) % (10 : Int32)) w_S w_N w_B w_BOOL w_NULL w_M w_L w_SS w_NS w_BS) w_SS w_NS w_BS h31 n0 (Nat.le_trans Z0 K31.1) (((((((((((S_SS.ext E1).wr W4).wr W7).wr W10).wr W13).wr W16).wr W19).wr W22).wr W25).wr W28).wr W31) (((((((((((S_NS.ext E1).wr W4).wr W7).wr W10).wr W13).wr W16).wr W19).wr W22).wr W25).wr W28).wr W31) (((((((((((S_BS.ext E1).wr W4).wr W7).wr W10).wr W13).wr W16).wr W19).wr W22).wr W25).wr W28).wr W31) ) hZ (hw _ (List.mem_of_getElem? (i := 35) rfl)) (hw _ (List.mem_of_getElem? (i := 3) rfl)) (by decide) (by decide)) q48a q48c (g := (mkF m 115 #[.val (.int p1), .val (.ref b1), .val (.int ((p1 &&& (2147483647 : Int32)) % (10 : Int32))), .val (.ref (own_pick ((p1 &&& (2147483647 : Int32)) % (10 : Int32)) w_S w_N w_B w_BOOL w_NULL w_M w_L w_SS w_NS w_BS)), .val (.int (res1 (own_pick ((p1 &&& (2147483647 : Int32)) % (10 : Int32)) w_S w_N w_B w_BOOL w_NULL w_M w_L w_SS w_NS w_BS) w_S w_N w_B)), .val (.int (mg0_90_s0 p1))] [(.ref (own_pick ((p1 &&& (2147483647 : Int32)) % (10 : Int32)) w_S w_N w_B w_BOOL w_NULL w_M w_L w_SS w_NS w_BS))])) rfl (by rw [hml]; rfl) (Steps.refl _) (argsL := []) (rest := []) (lenOf pd1 rfl) rfl (by show 2 * 0 + _ ≤ _; exact Nat.le_of_eq rfl) (hb hby at_115) (fun _ _ => ⟨rfl, e33, (by decide : 1 + 0 ≤ _), (by decide : 10 + 0 ≤ _)⟩)
      dsimp only [Pt.U, Pt.locs, Pt.cells, Pt.slots] at X48 l48 y48 z48 st48 hQ48
      subst l48 y48 z48
      obtain ⟨rfl, rfl, e48⟩ := hQ48
      have N48 := Fr.app N33 (Fr.nil n0)
      have pre49 : ∀ t, Steps p.tables e below (T48.setTop (mkF m 118 #[.val (.int p1), .val (.ref b1), .val (.int ((p1 &&& (2147483647 : Int32)) % (10 : Int32))), .val (.ref (own_pick ((p1 &&& (2147483647 : Int32)) % (10 : Int32)) w_S w_N w_B w_BOOL w_NULL w_M w_L w_SS w_NS w_BS)), .val (.int (res1 (own_pick ((p1 &&& (2147483647 : Int32)) % (10 : Int32)) w_S w_N w_B w_BOOL w_NULL w_M w_L w_SS w_NS w_BS) w_S w_N w_B)), .val (.int (mg0_90_s0 p1))] [(.int (res2 (own_pick ((p1 &&& (2147483647 : Int32)) % (10 : Int32)) w_S w_N w_B w_BOOL w_NULL w_M w_L w_SS w_NS w_BS) w_SS w_NS w_BS))])) t → Steps p.tables e below (s₁.setTop (entryFrame m #[(.int p1)] maxLocals)) t := by
        intro t kt
        refine pre39 _ ?_
        show Steps p.tables e below (T33.setTop (mkF m 111 #[.val (.int p1), .val (.ref b1), .val (.int ((p1 &&& (2147483647 : Int32)) % (10 : Int32))), .val (.ref (own_pick ((p1 &&& (2147483647 : Int32)) % (10 : Int32)) w_S w_N w_B w_BOOL w_NULL w_M w_L w_SS w_NS w_BS)), .val (.int (res1 (own_pick ((p1 &&& (2147483647 : Int32)) % (10 : Int32)) w_S w_N w_B w_BOOL w_NULL w_M w_L w_SS w_NS w_BS) w_S w_N w_B)), .val (.int (mg0_90_s0 p1))] [(.int (res1 (own_pick ((p1 &&& (2147483647 : Int32)) % (10 : Int32)) w_S w_N w_B w_BOOL w_NULL w_M w_L w_SS w_NS w_BS) w_S w_N w_B))])) _
        refine XS.ifNo X33.here hx rfl (hb hby at_111) rfl ((if0 _ _).trans (feq hc111_40).1) ?_
        show Steps p.tables e below (T33.setTop (mkF m 114 #[.val (.int p1), .val (.ref b1), .val (.int ((p1 &&& (2147483647 : Int32)) % (10 : Int32))), .val (.ref (own_pick ((p1 &&& (2147483647 : Int32)) % (10 : Int32)) w_S w_N w_B w_BOOL w_NULL w_M w_L w_SS w_NS w_BS)), .val (.int (res1 (own_pick ((p1 &&& (2147483647 : Int32)) % (10 : Int32)) w_S w_N w_B w_BOOL w_NULL w_M w_L w_SS w_NS w_BS) w_S w_N w_B)), .val (.int (mg0_90_s0 p1))] [])) _
        refine XS.aloadN X33.here hx rfl (hb hby at_114) rfl rfl ?_
        show Steps p.tables e below (T33.setTop (mkF m 115 #[.val (.int p1), .val (.ref b1), .val (.int ((p1 &&& (2147483647 : Int32)) % (10 : Int32))), .val (.ref (own_pick ((p1 &&& (2147483647 : Int32)) % (10 : Int32)) w_S w_N w_B w_BOOL w_NULL w_M w_L w_SS w_NS w_BS)), .val (.int (res1 (own_pick ((p1 &&& (2147483647 : Int32)) % (10 : Int32)) w_S w_N w_B w_BOOL w_NULL w_M w_L w_SS w_NS w_BS) w_S w_N w_B)), .val (.int (mg0_90_s0 p1))] [(.ref (own_pick ((p1 &&& (2147483647 : Int32)) % (10 : Int32)) w_S w_N w_B w_BOOL w_NULL w_M w_L w_SS w_NS w_BS))])) _
        refine st48.trans ?_
        exact kt
      by_cases hc118_50 : (res2 (own_pick ((p1 &&& (2147483647 : Int32)) % (10 : Int32)) w_S w_N w_B w_BOOL w_NULL w_M w_L w_SS w_NS w_BS) w_SS w_NS w_BS) = (0 : Int32)
      · have pre51 : ∀ t, Steps p.tables e below (T48.setTop (mkF m 126 #[.val (.int p1), .val (.ref b1), .val (.int ((p1 &&& (2147483647 : Int32)) % (10 : Int32))), .val (.ref (own_pick ((p1 &&& (2147483647 : Int32)) % (10 : Int32)) w_S w_N w_B w_BOOL w_NULL w_M w_L w_SS w_NS w_BS)), .val (.int (res1 (own_pick ((p1 &&& (2147483647 : Int32)) % (10 : Int32)) w_S w_N w_B w_BOOL w_NULL w_M w_L w_SS w_NS w_BS) w_S w_N w_B)), .val (.int (mg0_90_s0 p1))] [(.int (7 : Int32)), (.int ((p1 &&& (2147483647 : Int32)) % (10 : Int32)))])) t → Steps p.tables e below (s₁.setTop (entryFrame m #[(.int p1)] maxLocals)) t := by
          intro t kt
          refine pre49 _ ?_
          show Steps p.tables e below (T48.setTop (mkF m 118 #[.val (.int p1), .val (.ref b1), .val (.int ((p1 &&& (2147483647 : Int32)) % (10 : Int32))), .val (.ref (own_pick ((p1 &&& (2147483647 : Int32)) % (10 : Int32)) w_S w_N w_B w_BOOL w_NULL w_M w_L w_SS w_NS w_BS)), .val (.int (res1 (own_pick ((p1 &&& (2147483647 : Int32)) % (10 : Int32)) w_S w_N w_B w_BOOL w_NULL w_M w_L w_SS w_NS w_BS) w_S w_N w_B)), .val (.int (mg0_90_s0 p1))] [(.int (res2 (own_pick ((p1 &&& (2147483647 : Int32)) % (10 : Int32)) w_S w_N w_B w_BOOL w_NULL w_M w_L w_SS w_NS w_BS) w_SS w_NS w_BS))])) _
          refine XS.ifYes X48.here hx rfl (pc0 := 118) (pc' := 123) rfl (hb hby at_118) rfl ((if0 _ _).trans (teq hc118_50).1) (by decide) (by decide) ?_
          show Steps p.tables e below (T48.setTop (mkF m 123 #[.val (.int p1), .val (.ref b1), .val (.int ((p1 &&& (2147483647 : Int32)) % (10 : Int32))), .val (.ref (own_pick ((p1 &&& (2147483647 : Int32)) % (10 : Int32)) w_S w_N w_B w_BOOL w_NULL w_M w_L w_SS w_NS w_BS)), .val (.int (res1 (own_pick ((p1 &&& (2147483647 : Int32)) % (10 : Int32)) w_S w_N w_B w_BOOL w_NULL w_M w_L w_SS w_NS w_BS) w_S w_N w_B)), .val (.int (mg0_90_s0 p1))] [])) _
          refine XS.iloadN X48.here hx rfl (hb hby at_123) rfl ?_
          show Steps p.tables e below (T48.setTop (mkF m 124 #[.val (.int p1), .val (.ref b1), .val (.int ((p1 &&& (2147483647 : Int32)) % (10 : Int32))), .val (.ref (own_pick ((p1 &&& (2147483647 : Int32)) % (10 : Int32)) w_S w_N w_B w_BOOL w_NULL w_M w_L w_SS w_NS w_BS)), .val (.int (res1 (own_pick ((p1 &&& (2147483647 : Int32)) % (10 : Int32)) w_S w_N w_B w_BOOL w_NULL w_M w_L w_SS w_NS w_BS) w_S w_N w_B)), .val (.int (mg0_90_s0 p1))] [(.int ((p1 &&& (2147483647 : Int32)) % (10 : Int32)))])) _
          refine XS.bipush X48.here hx rfl (hb hby at_124) ?_
          exact kt
        by_cases hc126_52 : ((p1 &&& (2147483647 : Int32)) % (10 : Int32)) < (7 : Int32)
        · obtain ⟨fs, hr, hrun, hended, hW, hsame⟩ := X48.leave (v := some (.int (1 : Int32))) (fun h => by rw [Bd.returns] at h; cases h)
          refine ⟨_, _, pre51 _ ?_, hrun, hended, _, _, rfl, ?_, ⟨_, rfl⟩, hW, hsame.mono (by decide) (by decide)⟩
          · show Steps p.tables e below (T48.setTop (mkF m 126 #[.val (.int p1), .val (.ref b1), .val (.int ((p1 &&& (2147483647 : Int32)) % (10 : Int32))), .val (.ref (own_pick ((p1 &&& (2147483647 : Int32)) % (10 : Int32)) w_S w_N w_B w_BOOL w_NULL w_M w_L w_SS w_NS w_BS)), .val (.int (res1 (own_pick ((p1 &&& (2147483647 : Int32)) % (10 : Int32)) w_S w_N w_B w_BOOL w_NULL w_M w_L w_SS w_NS w_BS) w_S w_N w_B)), .val (.int (mg0_90_s0 p1))] [(.int (7 : Int32)), (.int ((p1 &&& (2147483647 : Int32)) % (10 : Int32)))])) _
            refine XS.icmpYes X48.here hx rfl (pc0 := 126) (pc' := 141) rfl (hb hby at_126) rfl (tlt hc126_52).1 (by decide) (by decide) ?_
            show Steps p.tables e below (T48.setTop (mkF m 141 #[.val (.int p1), .val (.ref b1), .val (.int ((p1 &&& (2147483647 : Int32)) % (10 : Int32))), .val (.ref (own_pick ((p1 &&& (2147483647 : Int32)) % (10 : Int32)) w_S w_N w_B w_BOOL w_NULL w_M w_L w_SS w_NS w_BS)), .val (.int (res1 (own_pick ((p1 &&& (2147483647 : Int32)) % (10 : Int32)) w_S w_N w_B w_BOOL w_NULL w_M w_L w_SS w_NS w_BS) w_S w_N w_B)), .val (.int (mg0_90_s0 p1))] [])) _
            refine XS.iconst X48.here hx rfl (hb hby at_141) ?_
            show Steps p.tables e below (T48.setTop (mkF m 142 #[.val (.int p1), .val (.ref b1), .val (.int ((p1 &&& (2147483647 : Int32)) % (10 : Int32))), .val (.ref (own_pick ((p1 &&& (2147483647 : Int32)) % (10 : Int32)) w_S w_N w_B w_BOOL w_NULL w_M w_L w_SS w_NS w_BS)), .val (.int (res1 (own_pick ((p1 &&& (2147483647 : Int32)) % (10 : Int32)) w_S w_N w_B w_BOOL w_NULL w_M w_L w_SS w_NS w_BS) w_S w_N w_B)), .val (.int (mg0_90_s0 p1))] [(.int (1 : Int32))])) _
            exact retN X48 hx (t := .boolean) Bd.returns (by simp) (hb hby at_142) hr
          · show Q0 Z p1 w_S w_N w_B w_BOOL w_NULL w_M w_L w_SS w_NS w_BS h0 n0 _ T48.heap _
            rw [e48]
            exact ⟨by rw [res0, if_pos hc104_38, if_neg hc111_40, if_pos hc118_50, if_pos hc126_52], N48⟩
        · obtain ⟨cq53, kq53, q53a, q53b, q53c⟩ := isOf hZ e48 E_r
          obtain ⟨_, _, ⟨T53, L53, k53, n53⟩, -, X53, ⟨Lc53, hQ53, l53, y53, z53⟩, st53⟩ := X48.virtualBack hx (y := (⟨"com/example/elliott_bay/elliottbay/value/AttributeType", "memberType", "()Lcom/example/elliott_bay/elliottbay/value/AttributeType;"⟩ : MethodName)) (z := (⟨"com/example/elliott_bay/elliottbay/value/AttributeType", "memberType", "()Lcom/example/elliott_bay/elliottbay/value/AttributeType;"⟩ : MethodName)) hown (mvT hZ (hw _ (List.mem_of_getElem? (i := 41) rfl))) (mvT hZ (hw _ (List.mem_of_getElem? (i := 42) rfl))) (notFace_of_selects (args := #[]) (mvT hZ (hw _ (List.mem_of_getElem? (i := 44) rfl)))) (mvT hZ (hw _ (List.mem_of_getElem? (i := 44) rfl))) (mvT hZ (hw _ (List.mem_of_getElem? (i := 43) rfl))) (by decide) (backOf (W := 0) (rm3 l Z a0 hw [] (own_pick ((p1 &&& (2147483647 : Int32)) % (10 : Int32)) w_S w_N w_B w_BOOL w_NULL w_M w_L w_SS w_NS w_BS) ((p1 &&& (2147483647 : Int32)) % (10 : Int32)) w_S w_N w_B h31 n0 (Nat.le_trans Z0 K31.1) F_r E_r (((((((((((S_S.ext E1).wr W4).wr W7).wr W10).wr W13).wr W16).wr W19).wr W22).wr W25).wr W28).wr W31) (((((((((((S_N.ext E1).wr W4).wr W7).wr W10).wr W13).wr W16).wr W19).wr W22).wr W25).wr W28).wr W31) (((((((((((S_B.ext E1).wr W4).wr W7).wr W10).wr W13).wr W16).wr W19).wr W22).wr W25).wr W28).wr W31) (own_def ((p1 &&& (2147483647 : Int32)) % (10 : Int32)) hrg.1 hrg.2 hc126_52 : ((p1 &&& (2147483647 : Int32)) % (10 : Int32)) = (7 : Int32) ∨ ((p1 &&& (2147483647 : Int32)) % (10 : Int32)) = (8 : Int32) ∨ ((p1 &&& (2147483647 : Int32)) % (10 : Int32)) = (9 : Int32))) hZ (hw _ (List.mem_of_getElem? (i := 45) rfl)) (hw _ (List.mem_of_getElem? (i := 3) rfl)) (by decide) (by decide)) q53a q53c (g := (mkF m 130 #[.val (.int p1), .val (.ref b1), .val (.int ((p1 &&& (2147483647 : Int32)) % (10 : Int32))), .val (.ref (own_pick ((p1 &&& (2147483647 : Int32)) % (10 : Int32)) w_S w_N w_B w_BOOL w_NULL w_M w_L w_SS w_NS w_BS)), .val (.int (res1 (own_pick ((p1 &&& (2147483647 : Int32)) % (10 : Int32)) w_S w_N w_B w_BOOL w_NULL w_M w_L w_SS w_NS w_BS) w_S w_N w_B)), .val (.int (mg0_90_s0 p1))] [(.ref (own_pick ((p1 &&& (2147483647 : Int32)) % (10 : Int32)) w_S w_N w_B w_BOOL w_NULL w_M w_L w_SS w_NS w_BS))])) rfl (by rw [hml]; rfl) (Steps.refl _) (argsL := []) (rest := []) (lenOf pd2 rfl) rfl (by show 2 * 0 + _ ≤ _; exact Nat.le_of_eq rfl) (hb hby at_130) (fun _ _ => ⟨rfl, e48, (by decide : 1 + 0 ≤ _), (by decide : 10 + 0 ≤ _)⟩)
          dsimp only [Pt.U, Pt.locs, Pt.cells, Pt.slots] at X53 l53 y53 z53 st53 hQ53
          subst l53 y53 z53
          obtain ⟨rfl, rfl, e53⟩ := hQ53
          have N53 := Fr.app N48 (Fr.nil n0)
          have E_q54 := own_exa3 (Z := Z) (h := h31) ((p1 &&& (2147483647 : Int32)) % (10 : Int32)) w_S w_N w_B (((((((((((E_w_S.ext E1).wr W4).wr W7).wr W10).wr W13).wr W16).wr W19).wr W22).wr W25).wr W28).wr W31) (((((((((((E_w_N.ext E1).wr W4).wr W7).wr W10).wr W13).wr W16).wr W19).wr W22).wr W25).wr W28).wr W31) (((((((((((E_w_B.ext E1).wr W4).wr W7).wr W10).wr W13).wr W16).wr W19).wr W22).wr W25).wr W28).wr W31)
          obtain ⟨cq55, kq55, q55a, q55b, q55c⟩ := isOf hZ e53 E_q54
          obtain ⟨_, _, ⟨T55, L55, k55, n55⟩, -, X55, ⟨Lc55, hQ55, l55, y55, z55⟩, st55⟩ := X53.virtualBack hx (y := (⟨"com/example/elliott_bay/elliottbay/value/AttributeType", "isScalar", "()Z"⟩ : MethodName)) (z := (⟨"com/example/elliott_bay/elliottbay/value/AttributeType", "isScalar", "()Z"⟩ : MethodName)) hown (mvT hZ (hw _ (List.mem_of_getElem? (i := 25) rfl))) (mvT hZ (hw _ (List.mem_of_getElem? (i := 26) rfl))) (notFace_of_selects (args := #[]) (mvT hZ (hw _ (List.mem_of_getElem? (i := 28) rfl)))) (mvT hZ (hw _ (List.mem_of_getElem? (i := 28) rfl))) (mvT hZ (hw _ (List.mem_of_getElem? (i := 27) rfl))) (by decide) (backOf (W := 0) (rm1 l Z a0 hw [] (res3 ((p1 &&& (2147483647 : Int32)) % (10 : Int32)) w_S w_N w_B) w_S w_N w_B h31 n0 (Nat.le_trans Z0 K31.1) (((((((((((S_S.ext E1).wr W4).wr W7).wr W10).wr W13).wr W16).wr W19).wr W22).wr W25).wr W28).wr W31) (((((((((((S_N.ext E1).wr W4).wr W7).wr W10).wr W13).wr W16).wr W19).wr W22).wr W25).wr W28).wr W31) (((((((((((S_B.ext E1).wr W4).wr W7).wr W10).wr W13).wr W16).wr W19).wr W22).wr W25).wr W28).wr W31) ) hZ (hw _ (List.mem_of_getElem? (i := 29) rfl)) (hw _ (List.mem_of_getElem? (i := 3) rfl)) (by decide) (by decide)) q55a q55c (g := (mkF m 133 #[.val (.int p1), .val (.ref b1), .val (.int ((p1 &&& (2147483647 : Int32)) % (10 : Int32))), .val (.ref (own_pick ((p1 &&& (2147483647 : Int32)) % (10 : Int32)) w_S w_N w_B w_BOOL w_NULL w_M w_L w_SS w_NS w_BS)), .val (.int (res1 (own_pick ((p1 &&& (2147483647 : Int32)) % (10 : Int32)) w_S w_N w_B w_BOOL w_NULL w_M w_L w_SS w_NS w_BS) w_S w_N w_B)), .val (.int (mg0_90_s0 p1))] [(.ref (res3 ((p1 &&& (2147483647 : Int32)) % (10 : Int32)) w_S w_N w_B))])) rfl (by rw [hml]; rfl) (Steps.refl _) (argsL := []) (rest := []) (lenOf pd1 rfl) rfl (by show 2 * 0 + _ ≤ _; exact Nat.le_of_eq rfl) (hb hby at_133) (fun _ _ => ⟨rfl, e53, (by decide : 1 + 0 ≤ _), (by decide : 10 + 0 ≤ _)⟩)
          dsimp only [Pt.U, Pt.locs, Pt.cells, Pt.slots] at X55 l55 y55 z55 st55 hQ55
          subst l55 y55 z55
          obtain ⟨rfl, rfl, e55⟩ := hQ55
          have N55 := Fr.app N53 (Fr.nil n0)
          have pre56 : ∀ t, Steps p.tables e below (T55.setTop (mkF m 136 #[.val (.int p1), .val (.ref b1), .val (.int ((p1 &&& (2147483647 : Int32)) % (10 : Int32))), .val (.ref (own_pick ((p1 &&& (2147483647 : Int32)) % (10 : Int32)) w_S w_N w_B w_BOOL w_NULL w_M w_L w_SS w_NS w_BS)), .val (.int (res1 (own_pick ((p1 &&& (2147483647 : Int32)) % (10 : Int32)) w_S w_N w_B w_BOOL w_NULL w_M w_L w_SS w_NS w_BS) w_S w_N w_B)), .val (.int (mg0_90_s0 p1))] [(.int (res1 (res3 ((p1 &&& (2147483647 : Int32)) % (10 : Int32)) w_S w_N w_B) w_S w_N w_B))])) t → Steps p.tables e below (s₁.setTop (entryFrame m #[(.int p1)] maxLocals)) t := by
            intro t kt
            refine pre51 _ ?_
            show Steps p.tables e below (T48.setTop (mkF m 126 #[.val (.int p1), .val (.ref b1), .val (.int ((p1 &&& (2147483647 : Int32)) % (10 : Int32))), .val (.ref (own_pick ((p1 &&& (2147483647 : Int32)) % (10 : Int32)) w_S w_N w_B w_BOOL w_NULL w_M w_L w_SS w_NS w_BS)), .val (.int (res1 (own_pick ((p1 &&& (2147483647 : Int32)) % (10 : Int32)) w_S w_N w_B w_BOOL w_NULL w_M w_L w_SS w_NS w_BS) w_S w_N w_B)), .val (.int (mg0_90_s0 p1))] [(.int (7 : Int32)), (.int ((p1 &&& (2147483647 : Int32)) % (10 : Int32)))])) _
            refine XS.icmpNo X48.here hx rfl (hb hby at_126) rfl (flt hc126_52).1 ?_
            show Steps p.tables e below (T48.setTop (mkF m 129 #[.val (.int p1), .val (.ref b1), .val (.int ((p1 &&& (2147483647 : Int32)) % (10 : Int32))), .val (.ref (own_pick ((p1 &&& (2147483647 : Int32)) % (10 : Int32)) w_S w_N w_B w_BOOL w_NULL w_M w_L w_SS w_NS w_BS)), .val (.int (res1 (own_pick ((p1 &&& (2147483647 : Int32)) % (10 : Int32)) w_S w_N w_B w_BOOL w_NULL w_M w_L w_SS w_NS w_BS) w_S w_N w_B)), .val (.int (mg0_90_s0 p1))] [])) _
            refine XS.aloadN X48.here hx rfl (hb hby at_129) rfl rfl ?_
            show Steps p.tables e below (T48.setTop (mkF m 130 #[.val (.int p1), .val (.ref b1), .val (.int ((p1 &&& (2147483647 : Int32)) % (10 : Int32))), .val (.ref (own_pick ((p1 &&& (2147483647 : Int32)) % (10 : Int32)) w_S w_N w_B w_BOOL w_NULL w_M w_L w_SS w_NS w_BS)), .val (.int (res1 (own_pick ((p1 &&& (2147483647 : Int32)) % (10 : Int32)) w_S w_N w_B w_BOOL w_NULL w_M w_L w_SS w_NS w_BS) w_S w_N w_B)), .val (.int (mg0_90_s0 p1))] [(.ref (own_pick ((p1 &&& (2147483647 : Int32)) % (10 : Int32)) w_S w_N w_B w_BOOL w_NULL w_M w_L w_SS w_NS w_BS))])) _
            refine st53.trans ?_
            show Steps p.tables e below (T53.setTop (mkF m 133 #[.val (.int p1), .val (.ref b1), .val (.int ((p1 &&& (2147483647 : Int32)) % (10 : Int32))), .val (.ref (own_pick ((p1 &&& (2147483647 : Int32)) % (10 : Int32)) w_S w_N w_B w_BOOL w_NULL w_M w_L w_SS w_NS w_BS)), .val (.int (res1 (own_pick ((p1 &&& (2147483647 : Int32)) % (10 : Int32)) w_S w_N w_B w_BOOL w_NULL w_M w_L w_SS w_NS w_BS) w_S w_N w_B)), .val (.int (mg0_90_s0 p1))] [(.ref (res3 ((p1 &&& (2147483647 : Int32)) % (10 : Int32)) w_S w_N w_B))])) _
            refine st55.trans ?_
            exact kt
          by_cases hc136_57 : (res1 (res3 ((p1 &&& (2147483647 : Int32)) % (10 : Int32)) w_S w_N w_B) w_S w_N w_B) = (0 : Int32)
          · obtain ⟨fs, hr, hrun, hended, hW, hsame⟩ := X55.leave (v := some (.int (0 : Int32))) (fun h => by rw [Bd.returns] at h; cases h)
            refine ⟨_, _, pre56 _ ?_, hrun, hended, _, _, rfl, ?_, ⟨_, rfl⟩, hW, hsame.mono (by decide) (by decide)⟩
            · show Steps p.tables e below (T55.setTop (mkF m 136 #[.val (.int p1), .val (.ref b1), .val (.int ((p1 &&& (2147483647 : Int32)) % (10 : Int32))), .val (.ref (own_pick ((p1 &&& (2147483647 : Int32)) % (10 : Int32)) w_S w_N w_B w_BOOL w_NULL w_M w_L w_SS w_NS w_BS)), .val (.int (res1 (own_pick ((p1 &&& (2147483647 : Int32)) % (10 : Int32)) w_S w_N w_B w_BOOL w_NULL w_M w_L w_SS w_NS w_BS) w_S w_N w_B)), .val (.int (mg0_90_s0 p1))] [(.int (res1 (res3 ((p1 &&& (2147483647 : Int32)) % (10 : Int32)) w_S w_N w_B) w_S w_N w_B))])) _
              refine XS.ifNo X55.here hx rfl (hb hby at_136) rfl ((if0 _ _).trans (teq hc136_57).2) ?_
              show Steps p.tables e below (T55.setTop (mkF m 139 #[.val (.int p1), .val (.ref b1), .val (.int ((p1 &&& (2147483647 : Int32)) % (10 : Int32))), .val (.ref (own_pick ((p1 &&& (2147483647 : Int32)) % (10 : Int32)) w_S w_N w_B w_BOOL w_NULL w_M w_L w_SS w_NS w_BS)), .val (.int (res1 (own_pick ((p1 &&& (2147483647 : Int32)) % (10 : Int32)) w_S w_N w_B w_BOOL w_NULL w_M w_L w_SS w_NS w_BS) w_S w_N w_B)), .val (.int (mg0_90_s0 p1))] [])) _
              refine XS.iconst X55.here hx rfl (hb hby at_139) ?_
              show Steps p.tables e below (T55.setTop (mkF m 140 #[.val (.int p1), .val (.ref b1), .val (.int ((p1 &&& (2147483647 : Int32)) % (10 : Int32))), .val (.ref (own_pick ((p1 &&& (2147483647 : Int32)) % (10 : Int32)) w_S w_N w_B w_BOOL w_NULL w_M w_L w_SS w_NS w_BS)), .val (.int (res1 (own_pick ((p1 &&& (2147483647 : Int32)) % (10 : Int32)) w_S w_N w_B w_BOOL w_NULL w_M w_L w_SS w_NS w_BS) w_S w_N w_B)), .val (.int (mg0_90_s0 p1))] [(.int (0 : Int32))])) _
              exact retN X55 hx (t := .boolean) Bd.returns (by simp) (hb hby at_140) hr
            · show Q0 Z p1 w_S w_N w_B w_BOOL w_NULL w_M w_L w_SS w_NS w_BS h0 n0 _ T55.heap _
              rw [e55]
              exact ⟨by rw [res0, if_pos hc104_38, if_neg hc111_40, if_pos hc118_50, if_neg hc126_52, if_pos hc136_57], N55⟩
          · obtain ⟨fs, hr, hrun, hended, hW, hsame⟩ := X55.leave (v := some (.int (1 : Int32))) (fun h => by rw [Bd.returns] at h; cases h)
            refine ⟨_, _, pre56 _ ?_, hrun, hended, _, _, rfl, ?_, ⟨_, rfl⟩, hW, hsame.mono (by decide) (by decide)⟩
            · show Steps p.tables e below (T55.setTop (mkF m 136 #[.val (.int p1), .val (.ref b1), .val (.int ((p1 &&& (2147483647 : Int32)) % (10 : Int32))), .val (.ref (own_pick ((p1 &&& (2147483647 : Int32)) % (10 : Int32)) w_S w_N w_B w_BOOL w_NULL w_M w_L w_SS w_NS w_BS)), .val (.int (res1 (own_pick ((p1 &&& (2147483647 : Int32)) % (10 : Int32)) w_S w_N w_B w_BOOL w_NULL w_M w_L w_SS w_NS w_BS) w_S w_N w_B)), .val (.int (mg0_90_s0 p1))] [(.int (res1 (res3 ((p1 &&& (2147483647 : Int32)) % (10 : Int32)) w_S w_N w_B) w_S w_N w_B))])) _
              refine XS.ifYes X55.here hx rfl (pc0 := 136) (pc' := 141) rfl (hb hby at_136) rfl ((if0 _ _).trans (feq hc136_57).2) (by decide) (by decide) ?_
              show Steps p.tables e below (T55.setTop (mkF m 141 #[.val (.int p1), .val (.ref b1), .val (.int ((p1 &&& (2147483647 : Int32)) % (10 : Int32))), .val (.ref (own_pick ((p1 &&& (2147483647 : Int32)) % (10 : Int32)) w_S w_N w_B w_BOOL w_NULL w_M w_L w_SS w_NS w_BS)), .val (.int (res1 (own_pick ((p1 &&& (2147483647 : Int32)) % (10 : Int32)) w_S w_N w_B w_BOOL w_NULL w_M w_L w_SS w_NS w_BS) w_S w_N w_B)), .val (.int (mg0_90_s0 p1))] [])) _
              refine XS.iconst X55.here hx rfl (hb hby at_141) ?_
              show Steps p.tables e below (T55.setTop (mkF m 142 #[.val (.int p1), .val (.ref b1), .val (.int ((p1 &&& (2147483647 : Int32)) % (10 : Int32))), .val (.ref (own_pick ((p1 &&& (2147483647 : Int32)) % (10 : Int32)) w_S w_N w_B w_BOOL w_NULL w_M w_L w_SS w_NS w_BS)), .val (.int (res1 (own_pick ((p1 &&& (2147483647 : Int32)) % (10 : Int32)) w_S w_N w_B w_BOOL w_NULL w_M w_L w_SS w_NS w_BS) w_S w_N w_B)), .val (.int (mg0_90_s0 p1))] [(.int (1 : Int32))])) _
              exact retN X55 hx (t := .boolean) Bd.returns (by simp) (hb hby at_142) hr
            · show Q0 Z p1 w_S w_N w_B w_BOOL w_NULL w_M w_L w_SS w_NS w_BS h0 n0 _ T55.heap _
              rw [e55]
              exact ⟨by rw [res0, if_pos hc104_38, if_neg hc111_40, if_pos hc118_50, if_neg hc126_52, if_neg hc136_57], N55⟩
      · obtain ⟨fs, hr, hrun, hended, hW, hsame⟩ := X48.leave (v := some (.int (0 : Int32))) (fun h => by rw [Bd.returns] at h; cases h)
        refine ⟨_, _, pre49 _ ?_, hrun, hended, _, _, rfl, ?_, ⟨_, rfl⟩, hW, hsame.mono (by decide) (by decide)⟩
        · show Steps p.tables e below (T48.setTop (mkF m 118 #[.val (.int p1), .val (.ref b1), .val (.int ((p1 &&& (2147483647 : Int32)) % (10 : Int32))), .val (.ref (own_pick ((p1 &&& (2147483647 : Int32)) % (10 : Int32)) w_S w_N w_B w_BOOL w_NULL w_M w_L w_SS w_NS w_BS)), .val (.int (res1 (own_pick ((p1 &&& (2147483647 : Int32)) % (10 : Int32)) w_S w_N w_B w_BOOL w_NULL w_M w_L w_SS w_NS w_BS) w_S w_N w_B)), .val (.int (mg0_90_s0 p1))] [(.int (res2 (own_pick ((p1 &&& (2147483647 : Int32)) % (10 : Int32)) w_S w_N w_B w_BOOL w_NULL w_M w_L w_SS w_NS w_BS) w_SS w_NS w_BS))])) _
          refine XS.ifNo X48.here hx rfl (hb hby at_118) rfl ((if0 _ _).trans (feq hc118_50).1) ?_
          show Steps p.tables e below (T48.setTop (mkF m 121 #[.val (.int p1), .val (.ref b1), .val (.int ((p1 &&& (2147483647 : Int32)) % (10 : Int32))), .val (.ref (own_pick ((p1 &&& (2147483647 : Int32)) % (10 : Int32)) w_S w_N w_B w_BOOL w_NULL w_M w_L w_SS w_NS w_BS)), .val (.int (res1 (own_pick ((p1 &&& (2147483647 : Int32)) % (10 : Int32)) w_S w_N w_B w_BOOL w_NULL w_M w_L w_SS w_NS w_BS) w_S w_N w_B)), .val (.int (mg0_90_s0 p1))] [])) _
          refine XS.iconst X48.here hx rfl (hb hby at_121) ?_
          show Steps p.tables e below (T48.setTop (mkF m 122 #[.val (.int p1), .val (.ref b1), .val (.int ((p1 &&& (2147483647 : Int32)) % (10 : Int32))), .val (.ref (own_pick ((p1 &&& (2147483647 : Int32)) % (10 : Int32)) w_S w_N w_B w_BOOL w_NULL w_M w_L w_SS w_NS w_BS)), .val (.int (res1 (own_pick ((p1 &&& (2147483647 : Int32)) % (10 : Int32)) w_S w_N w_B w_BOOL w_NULL w_M w_L w_SS w_NS w_BS) w_S w_N w_B)), .val (.int (mg0_90_s0 p1))] [(.int (0 : Int32))])) _
          exact retN X48 hx (t := .boolean) Bd.returns (by simp) (hb hby at_122) hr
        · show Q0 Z p1 w_S w_N w_B w_BOOL w_NULL w_M w_L w_SS w_NS w_BS h0 n0 _ T48.heap _
          rw [e48]
          exact ⟨by rw [res0, if_pos hc104_38, if_neg hc111_40, if_neg hc118_50], N48⟩
  · obtain ⟨fs, hr, hrun, hended, hW, hsame⟩ := X33.leave (v := some (.int (0 : Int32))) (fun h => by rw [Bd.returns] at h; cases h)
    refine ⟨_, _, pre37 _ ?_, hrun, hended, _, _, rfl, ?_, ⟨_, rfl⟩, hW, hsame.mono (by decide) (by decide)⟩
    · show Steps p.tables e below (T33.setTop (mkF m 104 #[.val (.int p1), .val (.ref b1), .val (.int ((p1 &&& (2147483647 : Int32)) % (10 : Int32))), .val (.ref (own_pick ((p1 &&& (2147483647 : Int32)) % (10 : Int32)) w_S w_N w_B w_BOOL w_NULL w_M w_L w_SS w_NS w_BS)), .val (.int (res1 (own_pick ((p1 &&& (2147483647 : Int32)) % (10 : Int32)) w_S w_N w_B w_BOOL w_NULL w_M w_L w_SS w_NS w_BS) w_S w_N w_B)), .val (.int (mg0_90_s0 p1))] [(.int (mg0_90_s0 p1)), (.int (res1 (own_pick ((p1 &&& (2147483647 : Int32)) % (10 : Int32)) w_S w_N w_B w_BOOL w_NULL w_M w_L w_SS w_NS w_BS) w_S w_N w_B))])) _
      refine XS.icmpNo X33.here hx rfl (hb hby at_104) rfl (feq hc104_38).1 ?_
      show Steps p.tables e below (T33.setTop (mkF m 107 #[.val (.int p1), .val (.ref b1), .val (.int ((p1 &&& (2147483647 : Int32)) % (10 : Int32))), .val (.ref (own_pick ((p1 &&& (2147483647 : Int32)) % (10 : Int32)) w_S w_N w_B w_BOOL w_NULL w_M w_L w_SS w_NS w_BS)), .val (.int (res1 (own_pick ((p1 &&& (2147483647 : Int32)) % (10 : Int32)) w_S w_N w_B w_BOOL w_NULL w_M w_L w_SS w_NS w_BS) w_S w_N w_B)), .val (.int (mg0_90_s0 p1))] [])) _
      refine XS.iconst X33.here hx rfl (hb hby at_107) ?_
      show Steps p.tables e below (T33.setTop (mkF m 108 #[.val (.int p1), .val (.ref b1), .val (.int ((p1 &&& (2147483647 : Int32)) % (10 : Int32))), .val (.ref (own_pick ((p1 &&& (2147483647 : Int32)) % (10 : Int32)) w_S w_N w_B w_BOOL w_NULL w_M w_L w_SS w_NS w_BS)), .val (.int (res1 (own_pick ((p1 &&& (2147483647 : Int32)) % (10 : Int32)) w_S w_N w_B w_BOOL w_NULL w_M w_L w_SS w_NS w_BS) w_S w_N w_B)), .val (.int (mg0_90_s0 p1))] [(.int (0 : Int32))])) _
      exact retN X33 hx (t := .boolean) Bd.returns (by simp) (hb hby at_108) hr
    · show Q0 Z p1 w_S w_N w_B w_BOOL w_NULL w_M w_L w_SS w_NS w_BS h0 n0 _ T33.heap _
      rw [e33]
      exact ⟨by rw [res0, if_neg hc104_38], N33⟩
def Dis (w_S w_N w_B w_BOOL w_NULL w_M w_L w_SS w_NS w_BS : Addr) : Prop := w_S ≠ w_N ∧ w_N ≠ w_S ∧ w_S ≠ w_B ∧ w_B ≠ w_S ∧ w_S ≠ w_BOOL ∧ w_BOOL ≠ w_S ∧ w_S ≠ w_NULL ∧ w_NULL ≠ w_S ∧ w_S ≠ w_M ∧ w_M ≠ w_S ∧ w_S ≠ w_L ∧ w_L ≠ w_S ∧ w_S ≠ w_SS ∧ w_SS ≠ w_S ∧ w_S ≠ w_NS ∧ w_NS ≠ w_S ∧ w_S ≠ w_BS ∧ w_BS ≠ w_S ∧ w_N ≠ w_B ∧ w_B ≠ w_N ∧ w_N ≠ w_BOOL ∧ w_BOOL ≠ w_N ∧ w_N ≠ w_NULL ∧ w_NULL ≠ w_N ∧ w_N ≠ w_M ∧ w_M ≠ w_N ∧ w_N ≠ w_L ∧ w_L ≠ w_N ∧ w_N ≠ w_SS ∧ w_SS ≠ w_N ∧ w_N ≠ w_NS ∧ w_NS ≠ w_N ∧ w_N ≠ w_BS ∧ w_BS ≠ w_N ∧ w_B ≠ w_BOOL ∧ w_BOOL ≠ w_B ∧ w_B ≠ w_NULL ∧ w_NULL ≠ w_B ∧ w_B ≠ w_M ∧ w_M ≠ w_B ∧ w_B ≠ w_L ∧ w_L ≠ w_B ∧ w_B ≠ w_SS ∧ w_SS ≠ w_B ∧ w_B ≠ w_NS ∧ w_NS ≠ w_B ∧ w_B ≠ w_BS ∧ w_BS ≠ w_B
theorem own_fin (p1 : Int32) (w_S w_N w_B w_BOOL w_NULL w_M w_L w_SS w_NS w_BS : Addr) (hD : Dis w_S w_N w_B w_BOOL w_NULL w_M w_L w_SS w_NS w_BS) : (res0 p1 w_S w_N w_B w_BOOL w_NULL w_M w_L w_SS w_NS w_BS) = 1 := by
  have e3 := own_range_10 (own_rng p1).1 (own_rng p1).2
  unfold Dis at hD
  unfold res0 mg0_90_s0
  generalize ((p1 &&& (2147483647 : Int32)) % (10 : Int32)) = i at e3
  rcases e3 with rfl | rfl | rfl | rfl | rfl | rfl | rfl | rfl | rfl | rfl <;> simp [own_pick, res1, res2, res3, hD]
set_option maxRecDepth 65536 in
set_option maxHeartbeats 40000000 in
theorem comes_1 {Post : Tables → Env → Array Value → State → Outcome → State → Prop} (hpost : ∀ tb e args s v u, (limb_1_1.after args s (.returned v) u = true ∧ limb_1_2.after args s (.returned v) u = true ∧ True) → FrameEnd s (.returned v) u (Jvm.fieldLocs frame_1_writes args s ++ Jvm.arrayLocs frame_1_arrays args s ++ Jvm.staticLocs frame_1_statics s) 16 128 → Post tb e args s (.returned v) u) :
    ArmFor flags0 classFile x code maxLocals ret World_1 tables_1 room_1 Calls_1 rest_1 Pre_1 Post := by
  intro l hfl _ _ p e ha hc hk s m args below hf hA hF happ hP
  obtain ⟨hcalls, hrest, hpre⟩ := hP
  obtain ⟨-, -, -, hnamed, -, -, -, hat⟩ := (Spec.applies_iff hf).mp happ
  obtain ⟨hg, hn⟩ := and_e (Cond.before_iff.mp (show (Jvm.Cond.and given_1 narrow_1).before args s = true from hpre))
  obtain ⟨ga0, gb0⟩ := and_e hg
  obtain ⟨w0, rfl⟩ : ∃ w0 : Value, args = #[w0] := by
    have hs : args.size = 1 := by simpa [Cond.value, given_1] using ga0
    obtain ⟨L⟩ := args
    match L, hs with
    | [w0], _ => exact ⟨w0, rfl⟩
  have hw := fun d (hd : d ∈ tables_1) => atoms_spec (ws := Jvm.Cond.code x code maxLocals ret :: tables_1) hat d (List.mem_cons_of_mem _ hd)
  have hfit : Fit s := fun {y c} hc i hi => by
    obtain ⟨ha, rfl⟩ := Array.getElem?_eq_some_iff.mp hc
    have q := List.all_eq_true.mp ((Array.all_eq_true_iff_forall_mem.mp hF) _ (Array.getElem_mem ha)) i (List.mem_range.mpr hi)
    simpa [Array.getElem?_eq_getElem hi] using q
  obtain ⟨i0, ei0⟩ := is_v gb0
  obtain rfl : w0 = (.int i0) := Option.some.inj ei0
  obtain ⟨na1, nb1⟩ := and_e hn
  obtain ⟨na2, nb2⟩ := and_e nb1
  obtain ⟨na3, nb3⟩ := and_e nb2
  obtain ⟨na4, nb4⟩ := and_e nb3
  obtain ⟨na5, nb5⟩ := and_e nb4
  obtain ⟨na6, nb6⟩ := and_e nb5
  obtain ⟨na7, nb7⟩ := and_e nb6
  obtain ⟨na8, nb8⟩ := and_e nb7
  obtain ⟨na9, nb9⟩ := and_e nb8
  obtain ⟨na10, nb10⟩ := and_e nb9
  obtain ⟨na11, nb11⟩ := and_e nb10
  obtain ⟨na12, nb12⟩ := and_e nb11
  obtain ⟨na13, nb13⟩ := and_e nb12
  obtain ⟨na14, nb14⟩ := and_e nb13
  obtain ⟨na15, nb15⟩ := and_e nb14
  obtain ⟨na16, nb16⟩ := and_e nb15
  obtain ⟨na17, nb17⟩ := and_e nb16
  obtain ⟨na18, nb18⟩ := and_e nb17
  obtain ⟨na19, nb19⟩ := and_e nb18
  obtain ⟨w_S, ev_S⟩ := exa_v na1
  have S_S := Sta.start ev_S (Or.inr ⟨(hw _ (List.mem_of_getElem? (i := 3) rfl)), (hw _ (List.mem_of_getElem? (i := 4) rfl))⟩)
  have E_w_S := Exa.start ev_S na1
  obtain ⟨w_N, ev_N⟩ := exa_v na2
  have S_N := Sta.start ev_N (Or.inr ⟨(hw _ (List.mem_of_getElem? (i := 3) rfl)), (hw _ (List.mem_of_getElem? (i := 7) rfl))⟩)
  have E_w_N := Exa.start ev_N na2
  obtain ⟨w_B, ev_B⟩ := exa_v na3
  have S_B := Sta.start ev_B (Or.inr ⟨(hw _ (List.mem_of_getElem? (i := 3) rfl)), (hw _ (List.mem_of_getElem? (i := 9) rfl))⟩)
  have E_w_B := Exa.start ev_B na3
  obtain ⟨w_BOOL, ev_BOOL⟩ := exa_v na4
  have S_BOOL := Sta.start ev_BOOL (Or.inr ⟨(hw _ (List.mem_of_getElem? (i := 3) rfl)), (hw _ (List.mem_of_getElem? (i := 11) rfl))⟩)
  have E_w_BOOL := Exa.start ev_BOOL na4
  obtain ⟨w_NULL, ev_NULL⟩ := exa_v na5
  have S_NULL := Sta.start ev_NULL (Or.inr ⟨(hw _ (List.mem_of_getElem? (i := 3) rfl)), (hw _ (List.mem_of_getElem? (i := 13) rfl))⟩)
  have E_w_NULL := Exa.start ev_NULL na5
  obtain ⟨w_M, ev_M⟩ := exa_v na6
  have S_M := Sta.start ev_M (Or.inr ⟨(hw _ (List.mem_of_getElem? (i := 3) rfl)), (hw _ (List.mem_of_getElem? (i := 15) rfl))⟩)
  have E_w_M := Exa.start ev_M na6
  obtain ⟨w_L, ev_L⟩ := exa_v na7
  have S_L := Sta.start ev_L (Or.inr ⟨(hw _ (List.mem_of_getElem? (i := 3) rfl)), (hw _ (List.mem_of_getElem? (i := 17) rfl))⟩)
  have E_w_L := Exa.start ev_L na7
  obtain ⟨w_SS, ev_SS⟩ := exa_v na8
  have S_SS := Sta.start ev_SS (Or.inr ⟨(hw _ (List.mem_of_getElem? (i := 3) rfl)), (hw _ (List.mem_of_getElem? (i := 19) rfl))⟩)
  have E_w_SS := Exa.start ev_SS na8
  obtain ⟨w_NS, ev_NS⟩ := exa_v na9
  have S_NS := Sta.start ev_NS (Or.inr ⟨(hw _ (List.mem_of_getElem? (i := 3) rfl)), (hw _ (List.mem_of_getElem? (i := 21) rfl))⟩)
  have E_w_NS := Exa.start ev_NS na9
  obtain ⟨w_BS, ev_BS⟩ := exa_v na10
  have S_BS := Sta.start ev_BS (Or.inr ⟨(hw _ (List.mem_of_getElem? (i := 3) rfl)), (hw _ (List.mem_of_getElem? (i := 23) rfl))⟩)
  have E_w_BS := Exa.start ev_BS na10
  have F_ordinal_w_S := Fld.start ((fld_at ev_S).symm.trans (own_eqv (Or.inl ⟨_, rfl⟩) (Term.int_eval _) na11))
  have F_ordinal_w_SS := Fld.start ((fld_at ev_SS).symm.trans (own_eqv (Or.inl ⟨_, rfl⟩) (Term.int_eval _) na12))
  have F_ordinal_w_NS := Fld.start ((fld_at ev_NS).symm.trans (own_eqv (Or.inl ⟨_, rfl⟩) (Term.int_eval _) na13))
  have F_ordinal_w_BS := Fld.start ((fld_at ev_BS).symm.trans (own_eqv (Or.inl ⟨_, rfl⟩) (Term.int_eval _) na14))
  have F_ordinal_w_BOOL := Fld.start ((fld_at ev_BOOL).symm.trans (own_eqv (Or.inl ⟨_, rfl⟩) (Term.int_eval _) na15))
  have F_ordinal_w_N := Fld.start ((fld_at ev_N).symm.trans (own_eqv (Or.inl ⟨_, rfl⟩) (Term.int_eval _) na16))
  have F_ordinal_w_B := Fld.start ((fld_at ev_B).symm.trans (own_eqv (Or.inl ⟨_, rfl⟩) (Term.int_eval _) na17))
  have F_ordinal_w_NULL := Fld.start ((fld_at ev_NULL).symm.trans (own_eqv (Or.inl ⟨_, rfl⟩) (Term.int_eval _) na18))
  have F_ordinal_w_M := Fld.start ((fld_at ev_M).symm.trans (own_eqv (Or.inl ⟨_, rfl⟩) (Term.int_eval _) na19))
  have F_ordinal_w_L := Fld.start ((fld_at ev_L).symm.trans (own_eqv (Or.inl ⟨_, rfl⟩) (Term.int_eval _) nb19))
  have hD : Dis w_S w_N w_B w_BOOL w_NULL w_M w_L w_SS w_NS w_BS := ⟨Fld.ne F_ordinal_w_S F_ordinal_w_N (by decide), Fld.ne F_ordinal_w_N F_ordinal_w_S (by decide), Fld.ne F_ordinal_w_S F_ordinal_w_B (by decide), Fld.ne F_ordinal_w_B F_ordinal_w_S (by decide), Fld.ne F_ordinal_w_S F_ordinal_w_BOOL (by decide), Fld.ne F_ordinal_w_BOOL F_ordinal_w_S (by decide), Fld.ne F_ordinal_w_S F_ordinal_w_NULL (by decide), Fld.ne F_ordinal_w_NULL F_ordinal_w_S (by decide), Fld.ne F_ordinal_w_S F_ordinal_w_M (by decide), Fld.ne F_ordinal_w_M F_ordinal_w_S (by decide), Fld.ne F_ordinal_w_S F_ordinal_w_L (by decide), Fld.ne F_ordinal_w_L F_ordinal_w_S (by decide), Fld.ne F_ordinal_w_S F_ordinal_w_SS (by decide), Fld.ne F_ordinal_w_SS F_ordinal_w_S (by decide), Fld.ne F_ordinal_w_S F_ordinal_w_NS (by decide), Fld.ne F_ordinal_w_NS F_ordinal_w_S (by decide), Fld.ne F_ordinal_w_S F_ordinal_w_BS (by decide), Fld.ne F_ordinal_w_BS F_ordinal_w_S (by decide), Fld.ne F_ordinal_w_N F_ordinal_w_B (by decide), Fld.ne F_ordinal_w_B F_ordinal_w_N (by decide), Fld.ne F_ordinal_w_N F_ordinal_w_BOOL (by decide), Fld.ne F_ordinal_w_BOOL F_ordinal_w_N (by decide), Fld.ne F_ordinal_w_N F_ordinal_w_NULL (by decide), Fld.ne F_ordinal_w_NULL F_ordinal_w_N (by decide), Fld.ne F_ordinal_w_N F_ordinal_w_M (by decide), Fld.ne F_ordinal_w_M F_ordinal_w_N (by decide), Fld.ne F_ordinal_w_N F_ordinal_w_L (by decide), Fld.ne F_ordinal_w_L F_ordinal_w_N (by decide), Fld.ne F_ordinal_w_N F_ordinal_w_SS (by decide), Fld.ne F_ordinal_w_SS F_ordinal_w_N (by decide), Fld.ne F_ordinal_w_N F_ordinal_w_NS (by decide), Fld.ne F_ordinal_w_NS F_ordinal_w_N (by decide), Fld.ne F_ordinal_w_N F_ordinal_w_BS (by decide), Fld.ne F_ordinal_w_BS F_ordinal_w_N (by decide), Fld.ne F_ordinal_w_B F_ordinal_w_BOOL (by decide), Fld.ne F_ordinal_w_BOOL F_ordinal_w_B (by decide), Fld.ne F_ordinal_w_B F_ordinal_w_NULL (by decide), Fld.ne F_ordinal_w_NULL F_ordinal_w_B (by decide), Fld.ne F_ordinal_w_B F_ordinal_w_M (by decide), Fld.ne F_ordinal_w_M F_ordinal_w_B (by decide), Fld.ne F_ordinal_w_B F_ordinal_w_L (by decide), Fld.ne F_ordinal_w_L F_ordinal_w_B (by decide), Fld.ne F_ordinal_w_B F_ordinal_w_SS (by decide), Fld.ne F_ordinal_w_SS F_ordinal_w_B (by decide), Fld.ne F_ordinal_w_B F_ordinal_w_NS (by decide), Fld.ne F_ordinal_w_NS F_ordinal_w_B (by decide), Fld.ne F_ordinal_w_B F_ordinal_w_BS (by decide), Fld.ne F_ordinal_w_BS F_ordinal_w_B (by decide)⟩
  obtain ⟨n, o, h1, h2, h3, _, L, rfl, ⟨rfl, N⟩, hq⟩ := rm0 l s _ hw tables_1 i0 w_S w_N w_B w_BOOL w_NULL w_M w_L w_SS w_NS w_BS s.heap s.heap.size (Nat.le_refl _) S_S E_w_S S_N E_w_N S_B E_w_B S_BOOL E_w_BOOL S_NULL E_w_NULL S_M E_w_M S_L E_w_L S_SS E_w_SS S_NS E_w_NS S_BS E_w_BS F_ordinal_w_S F_ordinal_w_N F_ordinal_w_B F_ordinal_w_BOOL F_ordinal_w_NULL F_ordinal_w_M F_ordinal_w_L F_ordinal_w_SS F_ordinal_w_NS F_ordinal_w_BS p e ha hc hk s m _ below hf ((Spec.applies_iff_loose hf).mp happ).1 ⟨rfl, State.Warmed39.refl s, rfl⟩ trivial
  have hfin : (res0 i0 w_S w_N w_B w_BOOL w_NULL w_M w_L w_SS w_NS w_BS) = (1 : Int32) := own_fin i0 w_S w_N w_B w_BOOL w_NULL w_M w_L w_SS w_NS w_BS hD
  refine ⟨n, _, h1, h2, h3, hpost _ _ _ _ _ _ ⟨Cond.after_iff.mpr rfl, Cond.after_iff.mpr (eq_i res_at (Term.int_eval (1)) (by rw [hfin])), trivial⟩ ⟨hq.1, hq.2.1, (hq.2.2.sift fun y hy => Or.inr (N y hy)).mono (by decide) (by decide)⟩⟩
theorem main_1_1 : Claimed_1_1 := comes_1 fun _ _ _ _ _ _ h hF => ⟨h.1, hF⟩
theorem main_1_2 : Claimed_1_2 := comes_1 fun _ _ _ _ _ _ h hF => ⟨h.2.1, hF⟩
end Jvm.Pilot.@@N@@
namespace Jvm.Pilot.@@N@@
open Jvm Jvm.ClassFile Sem Op Lib Jvm.Free Jvm.Stand Jvm.Pilot.@@N@@.Jvm.D
/-! MADE BY PROGRAM (witnessworld.py) out of the Statement's table words and the real class files: 13 classes; the members and pool entries that the words name. The judged class is class 1, her method 1. -/
namespace start1
open Jvm.ClassFile
def u (s : String) : CpInfo := .utf8 (stringToUtf16 s)
/-- a pool by its gaps: so many unusable entries, then the entry; so many at the end -/
def gap : Nat → List CpInfo → List CpInfo
  | 0, r => r
  | n + 1, r => .unusable :: gap n r
def poolList (es : List (Nat × CpInfo)) (last : Nat) : List CpInfo := es.foldr (fun e r => gap e.1 (e.2 :: r)) (gap last [])
def pool (es : List (Nat × CpInfo)) (last : Nat) : Array CpInfo := ⟨poolList es last⟩
def fileOf (pool : Array CpInfo) (this : Nat) (attrs : Array Attribute := #[]) (ms : Array MethodInfo := #[]) (fl : Nat := 33) (sup : Nat := 0) (ifs : Array Nat := #[]) (fds : Array FieldInfo := #[]) : ClassFile where
  minorVersion := 0
  majorVersion := 65
  constantPool := pool
  accessFlags := fl
  thisClass := this
  superClass := sup
  interfaces := ifs
  fields := fds
  methods := ms
  attributes := attrs
def plain (name : String) (sup : Option ClassId) : Class where
  name := name
  kind := .ordinary
  loader := none
  accessFlags := 33
  super := sup
  interfaces := #[]
  cf := none
  fields := #[]
  methods := #[]
  instanceTypes := #[]
  staticTypes := #[]
  resolved := #[]
  callSites := []
  init := .initialized
  statics := none
  mirror := none

def pool0 : Array CpInfo := pool [(5, u "<init>"), (0, u "()V"), (1, .class_ 10), (1, u "java/lang/Object")] 113

def k0m0 : Method := { name := "<init>", desc := "()V", sig := { parameters := [], returnType := none }, accessFlags := 1, code := none }
/-- java/lang/Object -/
def k0 : Class := { plain "java/lang/Object" none with
  accessFlags := 33
  interfaces := #[]
  cf := some (fileOf pool0 8 #[] #[{ accessFlags := 1, nameIndex := 5, descriptorIndex := 6, attributes := #[] }] 33 0 #[] #[])
  fields := #[]
  methods := #[k0m0]
  instanceTypes := #[]
  staticTypes := #[]
  resolved := Array.replicate 124 none
  statics := none }

def pool1 : Array CpInfo := pool [(2, .class_ 4), (1, u "java/lang/Object"), (0, u "<init>"), (0, u "()V"), (0, .class_ 8), (0, u "com/example/elliott_bay/elliottbay/value/AttributeType"), (0, .fieldref 7 10), (0, .nameAndType 11 12), (0, u "S"), (0, u "Lcom/example/elliott_bay/elliottbay/value/AttributeType;"), (0, .fieldref 7 14), (0, .nameAndType 15 12), (0, u "N"), (0, .fieldref 7 17), (0, .nameAndType 18 12), (0, u "B"), (0, .fieldref 7 20), (0, .nameAndType 21 12), (0, u "BOOL"), (0, .fieldref 7 23), (0, .nameAndType 24 12), (0, u "NULL"), (0, .fieldref 7 26), (0, .nameAndType 27 12), (0, u "M"), (0, .fieldref 7 29), (0, .nameAndType 30 12), (0, u "L"), (0, .fieldref 7 32), (0, .nameAndType 33 12), (0, u "SS"), (0, .fieldref 7 35), (0, .nameAndType 36 12), (0, u "NS"), (0, .fieldref 7 38), (0, .nameAndType 39 12), (0, u "BS"), (0, .integer 2147483647), (0, .methodref 7 42), (0, .nameAndType 43 44), (0, u "isScalar"), (0, u "()Z"), (0, .methodref 7 46), (0, .nameAndType 47 44), (0, u "isSet"), (0, .methodref 7 49), (0, .nameAndType 50 51), (0, u "memberType"), (0, u "()Lcom/example/elliott_bay/elliottbay/value/AttributeType;"), (0, .class_ 53), (0, u "com/example/elliott_bay/elliottbay/value/AttributeTypeIsScalarPinLaw"), (2, u "law"), (0, u "(I)Z")] 5

def k1m0 : Method := { name := "<init>", desc := "()V", sig := { parameters := [], returnType := none }, accessFlags := 1, code := none }
def k1c1 : Code := { maxStack := 4, maxLocals := 6, code := code, exceptionTable := #[], attributes := #[] }
def k1m1 : Method := { name := "law", desc := "(I)Z", sig := { parameters := [.int], returnType := some .boolean }, accessFlags := 9, code := some k1c1 }
/-- com/example/elliott_bay/elliottbay/value/AttributeTypeIsScalarPinLaw -/
def k1 : Class := { plain "com/example/elliott_bay/elliottbay/value/AttributeTypeIsScalarPinLaw" (some 0) with
  accessFlags := 49
  interfaces := #[]
  cf := some (fileOf pool1 52 #[] #[{ accessFlags := 1, nameIndex := 5, descriptorIndex := 6, attributes := #[] }, { accessFlags := 9, nameIndex := 56, descriptorIndex := 57, attributes := #[] }] 49 2 #[] #[])
  fields := #[]
  methods := #[k1m0, k1m1]
  instanceTypes := #[]
  staticTypes := #[]
  resolved := Array.replicate 63 none
  statics := none }

def pool2 : Array CpInfo := pool [(1, .class_ 2), (0, u "java/lang/constant/Constable"), (0, .class_ 4), (0, u "java/lang/Object")] 6

/-- java/lang/constant/Constable -/
def k2 : Class := { plain "java/lang/constant/Constable" (some 0) with
  accessFlags := 1537
  interfaces := #[]
  cf := some (fileOf pool2 1 #[] #[] 1537 3 #[] #[])
  fields := #[]
  methods := #[]
  instanceTypes := #[]
  staticTypes := #[]
  resolved := Array.replicate 11 none
  statics := none }

def pool3 : Array CpInfo := pool [(1, .class_ 2), (0, u "java/lang/Comparable"), (0, .class_ 4), (0, u "java/lang/Object")] 7

/-- java/lang/Comparable -/
def k3 : Class := { plain "java/lang/Comparable" (some 0) with
  accessFlags := 1537
  interfaces := #[]
  cf := some (fileOf pool3 1 #[] #[] 1537 3 #[] #[])
  fields := #[]
  methods := #[]
  instanceTypes := #[]
  staticTypes := #[]
  resolved := Array.replicate 12 none
  statics := none }

def pool4 : Array CpInfo := pool [(1, .class_ 2), (0, u "java/io/Serializable"), (0, .class_ 4), (0, u "java/lang/Object")] 2

/-- java/io/Serializable -/
def k4 : Class := { plain "java/io/Serializable" (some 0) with
  accessFlags := 1537
  interfaces := #[]
  cf := some (fileOf pool4 1 #[] #[] 1537 3 #[] #[])
  fields := #[]
  methods := #[]
  instanceTypes := #[]
  staticTypes := #[]
  resolved := Array.replicate 7 none
  statics := none }

def pool5 : Array CpInfo := pool [(2, .class_ 4), (1, u "java/lang/Enum"), (0, u "name"), (0, u "Ljava/lang/String;"), (0, .fieldref 2 8), (0, .nameAndType 9 10), (0, u "ordinal"), (0, u "I"), (1, .class_ 14), (1, u "java/lang/Object"), (4, u "hash"), (86, .class_ 108), (1, u "java/lang/Enum$EnumDesc"), (2, .class_ 112), (0, u "java/lang/constant/Constable"), (0, .class_ 114), (0, u "java/lang/Comparable"), (0, .class_ 116), (0, u "java/io/Serializable"), (9, u "()I")] 77

def k5c0 : Code := { maxStack := 1, maxLocals := 1, code := jdk_37_method_2_code, exceptionTable := #[], attributes := #[] }
def k5m0 : Method := { name := "ordinal", desc := "()I", sig := { parameters := [], returnType := some .int }, accessFlags := 17, code := some k5c0 }
/-- java/lang/Enum -/
def k5 : Class := { plain "java/lang/Enum" (some 0) with
  accessFlags := 1057
  interfaces := #[2, 3, 4]
  cf := some (fileOf pool5 2 #[.nestMembers #[106]] #[{ accessFlags := 17, nameIndex := 9, descriptorIndex := 126, attributes := #[] }] 1057 12 #[111, 113, 115] #[{ accessFlags := 18, nameIndex := 5, descriptorIndex := 6, attributes := #[] }, { accessFlags := 18, nameIndex := 9, descriptorIndex := 10, attributes := #[] }, { accessFlags := 2, nameIndex := 19, descriptorIndex := 10, attributes := #[] }])
  fields := #[{ name := "name", type := (.object "java/lang/String"), accessFlags := 18, slot := 0, constantValue := 0 }, { name := "ordinal", type := .int, accessFlags := 18, slot := 1, constantValue := 0 }, { name := "hash", type := .int, accessFlags := 2, slot := 2, constantValue := 0 }]
  methods := #[k5m0]
  instanceTypes := #[(.object "java/lang/String"), .int, .int]
  staticTypes := #[]
  resolved := Array.replicate 204 none
  statics := none }

def pool6 : Array CpInfo := pool [(1, .class_ 2), (0, u "com/example/elliott_bay/elliottbay/value/AttributeType"), (0, .fieldref 1 4), (0, .nameAndType 5 6), (0, u "S"), (0, u "Lcom/example/elliott_bay/elliottbay/value/AttributeType;"), (0, .fieldref 1 8), (0, .nameAndType 9 6), (0, u "N"), (0, .fieldref 1 11), (0, .nameAndType 12 6), (0, u "B"), (2, u "BOOL"), (2, u "NULL"), (2, u "M"), (2, u "L"), (0, .fieldref 1 26), (0, .nameAndType 27 6), (0, u "SS"), (0, .fieldref 1 29), (0, .nameAndType 30 6), (0, u "NS"), (0, .fieldref 1 32), (0, .nameAndType 33 6), (0, u "BS"), (2, u "$VALUES"), (0, u "[Lcom/example/elliott_bay/elliottbay/value/AttributeType;"), (6, .class_ 46), (1, u "java/lang/Enum"), (6, .methodref 1 54), (0, .nameAndType 55 56), (0, u "ordinal"), (0, u "()I"), (36, u "isScalar"), (0, u "()Z"), (1, u "isSet"), (0, u "memberType"), (0, u "()Lcom/example/elliott_bay/elliottbay/value/AttributeType;")] 19

def k6c0 : Code := { maxStack := 2, maxLocals := 1, code := prog_109_method_4_code, exceptionTable := #[], attributes := #[] }
def k6m0 : Method := { name := "isScalar", desc := "()Z", sig := { parameters := [], returnType := some .boolean }, accessFlags := 1, code := some k6c0 }
def k6c1 : Code := { maxStack := 2, maxLocals := 1, code := prog_109_method_5_code, exceptionTable := #[], attributes := #[] }
def k6m1 : Method := { name := "isSet", desc := "()Z", sig := { parameters := [], returnType := some .boolean }, accessFlags := 1, code := some k6c1 }
def k6c2 : Code := { maxStack := 3, maxLocals := 1, code := prog_109_method_6_code, exceptionTable := #[], attributes := #[] }
def k6m2 : Method := { name := "memberType", desc := "()Lcom/example/elliott_bay/elliottbay/value/AttributeType;", sig := { parameters := [], returnType := some (.object "com/example/elliott_bay/elliottbay/value/AttributeType") }, accessFlags := 1, code := some k6c2 }
/-- com/example/elliott_bay/elliottbay/value/AttributeType -/
def k6 : Class := { plain "com/example/elliott_bay/elliottbay/value/AttributeType" (some 5) with
  accessFlags := 16433
  interfaces := #[]
  cf := some (fileOf pool6 1 #[] #[{ accessFlags := 1, nameIndex := 93, descriptorIndex := 94, attributes := #[] }, { accessFlags := 1, nameIndex := 96, descriptorIndex := 94, attributes := #[] }, { accessFlags := 1, nameIndex := 97, descriptorIndex := 98, attributes := #[] }] 16433 44 #[] #[{ accessFlags := 16409, nameIndex := 5, descriptorIndex := 6, attributes := #[] }, { accessFlags := 16409, nameIndex := 9, descriptorIndex := 6, attributes := #[] }, { accessFlags := 16409, nameIndex := 12, descriptorIndex := 6, attributes := #[] }, { accessFlags := 16409, nameIndex := 15, descriptorIndex := 6, attributes := #[] }, { accessFlags := 16409, nameIndex := 18, descriptorIndex := 6, attributes := #[] }, { accessFlags := 16409, nameIndex := 21, descriptorIndex := 6, attributes := #[] }, { accessFlags := 16409, nameIndex := 24, descriptorIndex := 6, attributes := #[] }, { accessFlags := 16409, nameIndex := 27, descriptorIndex := 6, attributes := #[] }, { accessFlags := 16409, nameIndex := 30, descriptorIndex := 6, attributes := #[] }, { accessFlags := 16409, nameIndex := 33, descriptorIndex := 6, attributes := #[] }, { accessFlags := 4122, nameIndex := 36, descriptorIndex := 37, attributes := #[] }])
  fields := #[{ name := "S", type := (.object "com/example/elliott_bay/elliottbay/value/AttributeType"), accessFlags := 16409, slot := 0, constantValue := 0 }, { name := "N", type := (.object "com/example/elliott_bay/elliottbay/value/AttributeType"), accessFlags := 16409, slot := 1, constantValue := 0 }, { name := "B", type := (.object "com/example/elliott_bay/elliottbay/value/AttributeType"), accessFlags := 16409, slot := 2, constantValue := 0 }, { name := "BOOL", type := (.object "com/example/elliott_bay/elliottbay/value/AttributeType"), accessFlags := 16409, slot := 3, constantValue := 0 }, { name := "NULL", type := (.object "com/example/elliott_bay/elliottbay/value/AttributeType"), accessFlags := 16409, slot := 4, constantValue := 0 }, { name := "M", type := (.object "com/example/elliott_bay/elliottbay/value/AttributeType"), accessFlags := 16409, slot := 5, constantValue := 0 }, { name := "L", type := (.object "com/example/elliott_bay/elliottbay/value/AttributeType"), accessFlags := 16409, slot := 6, constantValue := 0 }, { name := "SS", type := (.object "com/example/elliott_bay/elliottbay/value/AttributeType"), accessFlags := 16409, slot := 7, constantValue := 0 }, { name := "NS", type := (.object "com/example/elliott_bay/elliottbay/value/AttributeType"), accessFlags := 16409, slot := 8, constantValue := 0 }, { name := "BS", type := (.object "com/example/elliott_bay/elliottbay/value/AttributeType"), accessFlags := 16409, slot := 9, constantValue := 0 }, { name := "$VALUES", type := (.array (.object "com/example/elliott_bay/elliottbay/value/AttributeType")), accessFlags := 4122, slot := 10, constantValue := 0 }]
  methods := #[k6m0, k6m1, k6m2]
  instanceTypes := #[(.object "java/lang/String"), .int, .int]
  staticTypes := #[(.object "com/example/elliott_bay/elliottbay/value/AttributeType"), (.object "com/example/elliott_bay/elliottbay/value/AttributeType"), (.object "com/example/elliott_bay/elliottbay/value/AttributeType"), (.object "com/example/elliott_bay/elliottbay/value/AttributeType"), (.object "com/example/elliott_bay/elliottbay/value/AttributeType"), (.object "com/example/elliott_bay/elliottbay/value/AttributeType"), (.object "com/example/elliott_bay/elliottbay/value/AttributeType"), (.object "com/example/elliott_bay/elliottbay/value/AttributeType"), (.object "com/example/elliott_bay/elliottbay/value/AttributeType"), (.object "com/example/elliott_bay/elliottbay/value/AttributeType"), (.array (.object "com/example/elliott_bay/elliottbay/value/AttributeType"))]
  resolved := Array.replicate 118 none
  statics := some 0 }

def pool7 : Array CpInfo := pool [(1, u "java/lang/Cloneable"), (0, .class_ 1), (0, u "java/lang/Object"), (0, .class_ 3)] 3

/-- java/lang/Cloneable -/
def k7 : Class := { plain "java/lang/Cloneable" (some 0) with
  accessFlags := 1537
  interfaces := #[]
  cf := some (fileOf pool7 2 #[] #[] 1537 4 #[] #[])
  fields := #[]
  methods := #[]
  instanceTypes := #[]
  staticTypes := #[]
  resolved := Array.replicate 8 none
  statics := none }

/-- the primitive byte -/
def k8 : Class := { plain "byte" none with kind := .primitive 'B', accessFlags := 0x411 }
/-- [B -/
def k9 : Class := { plain "[B" (some 0) with kind := .array 8 .byte, interfaces := #[7, 4], accessFlags := 1041 }

/-- the primitive int -/
def k10 : Class := { plain "int" none with kind := .primitive 'I', accessFlags := 0x411 }
/-- [I -/
def k11 : Class := { plain "[I" (some 0) with kind := .array 10 .int, interfaces := #[7, 4], accessFlags := 1041 }

/-- [Lcom/example/elliott_bay/elliottbay/value/AttributeType; -/
def k12 : Class := { plain "[Lcom/example/elliott_bay/elliottbay/value/AttributeType;" (some 0) with kind := .array 6 (.object "com/example/elliott_bay/elliottbay/value/AttributeType"), interfaces := #[7, 4], accessFlags := 1041 }

def heap : Heap := #[{ cls := 6, slots := #[.ref 1, .ref 2, .ref 3, .ref 4, .ref 5, .ref 6, .ref 7, .ref 8, .ref 9, .ref 10, .null], vm := .statics 6 },
  { cls := 6, slots := #[.null, .int 0, .int 0], vm := .none },
  { cls := 6, slots := #[.null, .int 1, .int 0], vm := .none },
  { cls := 6, slots := #[.null, .int 2, .int 0], vm := .none },
  { cls := 6, slots := #[.null, .int 3, .int 0], vm := .none },
  { cls := 6, slots := #[.null, .int 4, .int 0], vm := .none },
  { cls := 6, slots := #[.null, .int 5, .int 0], vm := .none },
  { cls := 6, slots := #[.null, .int 6, .int 0], vm := .none },
  { cls := 6, slots := #[.null, .int 7, .int 0], vm := .none },
  { cls := 6, slots := #[.null, .int 8, .int 0], vm := .none },
  { cls := 6, slots := #[.null, .int 9, .int 0], vm := .none }]
def classes : Array Class := #[k0, k1, k2, k3, k4, k5, k6, k7, k8, k9, k10, k11, k12]
def interned : List (Array UInt16 × Addr) := []
def slotsUsed : Nat := 41
def theMethod : MethodId := ⟨1, 1⟩
def args0 : Array Value := #[.int 8]
def aboutOver (below : List Frame) : State where
  vm := { classes := classes, interned := interned.toArray }
  heap := heap
  slotsUsed := slotsUsed
  threads := #[{ frames := .invoking theMethod args0 :: below }]
def below0 : List Frame := [.native { method := ⟨0, 0⟩, args := #[] }]
def about1 : State := aboutOver below0
def p0 : Program := .bare "" "" ""
def e0 : Env := launch0.env 0 0 0
theorem w_frames : about1.frames = Frame.invoking theMethod args0 :: below0 := rfl
set_option maxRecDepth 65536 in
theorem w_args : argsFit about1.vm theMethod args0 = true := by decide +kernel
set_option maxRecDepth 65536 in
theorem w_heap : heapFits about1 = true := by decide +kernel
set_option maxRecDepth 65536 in
theorem w_runnable : about1.curStatus? = some .runnable := by decide +kernel
set_option maxRecDepth 65536 in
theorem w_alone : about1.alone = true := by decide +kernel
set_option maxRecDepth 65536 in
theorem w_named : about1.methodNamed? x = some theMethod := by decide +kernel
set_option maxRecDepth 65536 in
theorem w_hears : about1.hears theMethod below0 = true := by decide +kernel
set_option maxRecDepth 65536 in
theorem w_ripe : about1.ripe theMethod args0 below0 = true := by decide +kernel
theorem w_running : about1.status = .running := rfl
set_option maxRecDepth 65536 in
theorem w_room : about1.hasRoom e0.platform room_1 = true :=
  launch0.hasRoom_least _ room_1 (by decide +kernel) (by decide +kernel) (by decide +kernel) (by decide +kernel) (by decide +kernel) (by decide +kernel)
theorem allAtoms_all (ts : List Jvm.Cond) (a : Array Jvm.Value) (st : Jvm.State) : (allAtoms ts).before a st = ts.all (fun c => c.before a st) := by
  induction ts with
  | nil => rfl
  | cons c t ih =>
    show (Jvm.Cond.and c (allAtoms t)).before a st = _
    rw [Jvm.Cond.before_and, ih, List.all_cons]
def words1 : List Jvm.Cond := Jvm.Cond.code x code maxLocals ret :: tables_1
/-- a 'code' word, met by the world's own term for the bytes: nothing is compared byte by byte -/
theorem code_word {y : MethodName} {bytes : ByteArray} {mx : Nat} {rt : Option FieldType} {a : Array Value} {s : State} {m : MethodId} {meth : Method} {c : Code} (h1 : s.methodNamed? y = some m) (h2 : s.vm.method? m = some meth) (h3 : meth.code = some c) (h4 : c.code = bytes)
    (h5 : (c.maxLocals == mx && c.exceptionTable.isEmpty && decide (c.maxStack ≤ mostOperands) && decide (meth.sig.returnType = rt) && !meth.locks && decide (parseMethodDescriptor y.desc = some meth.sig)) = true) : (Jvm.Cond.code y bytes mx rt).before a s = true := by
  simp only [Bool.and_eq_true, beq_iff_eq, Bool.not_eq_true', decide_eq_true_eq] at h5
  obtain ⟨⟨⟨⟨⟨g1, g2⟩, g3⟩, g4⟩, g5⟩, g6⟩ := h5
  simp [Cond.before, Cond.holds, Cond.value, h1, h2, h3, h4, g1, g2, g3, g4, g5, g6]
def isCode : Jvm.Cond → Bool
  | .code _ _ _ _ => true
  | _ => false
theorem all_split {L : List Jvm.Cond} {P : Jvm.Cond → Bool} (h1 : L.all (fun c => isCode c || P c) = true) (h2 : ∀ c ∈ L.filter isCode, P c = true) : L.all P = true := by
  refine List.all_eq_true.mpr fun c hc => ?_
  have h := List.all_eq_true.mp h1 c hc
  rcases Bool.eq_false_or_eq_true (isCode c) with hi | hi
  · exact h2 c (List.mem_filter.mpr ⟨hc, hi⟩)
  · simpa [hi] using h
set_option maxRecDepth 65536 in
theorem w_c0 : (Jvm.Cond.code x code maxLocals ret).before args0 about1 = true := code_word (m := ⟨1, 1⟩) (meth := k1m1) (c := k1c1) (by decide +kernel) rfl rfl rfl (by decide +kernel)
set_option maxRecDepth 65536 in
theorem w_c1 : (Jvm.Cond.code ({ cls := "com/example/elliott_bay/elliottbay/value/AttributeType", name := "isScalar", desc := "()Z" } : Jvm.MethodName) prog_109_method_4_code (1 : Nat) (Option.some Jvm.ClassFile.FieldType.boolean)).before args0 about1 = true := code_word (m := ⟨6, 0⟩) (meth := k6m0) (c := k6c0) (by decide +kernel) rfl rfl rfl (by decide +kernel)
set_option maxRecDepth 65536 in
theorem w_c2 : (Jvm.Cond.code ({ cls := "com/example/elliott_bay/elliottbay/value/AttributeType", name := "isSet", desc := "()Z" } : Jvm.MethodName) prog_109_method_5_code (1 : Nat) (Option.some Jvm.ClassFile.FieldType.boolean)).before args0 about1 = true := code_word (m := ⟨6, 1⟩) (meth := k6m1) (c := k6c1) (by decide +kernel) rfl rfl rfl (by decide +kernel)
set_option maxRecDepth 65536 in
theorem w_c3 : (Jvm.Cond.code ({ cls := "com/example/elliott_bay/elliottbay/value/AttributeType", name := "memberType", desc := "()Lcom/example/elliott_bay/elliottbay/value/AttributeType;" } : Jvm.MethodName) prog_109_method_6_code (1 : Nat) (Option.some (Jvm.ClassFile.FieldType.object "com/example/elliott_bay/elliottbay/value/AttributeType"))).before args0 about1 = true := code_word (m := ⟨6, 2⟩) (meth := k6m2) (c := k6c2) (by decide +kernel) rfl rfl rfl (by decide +kernel)
set_option maxRecDepth 65536 in
theorem w_c4 : (Jvm.Cond.code ({ cls := "java/lang/Enum", name := "ordinal", desc := "()I" } : Jvm.MethodName) jdk_37_method_2_code (1 : Nat) (Option.some Jvm.ClassFile.FieldType.int)).before args0 about1 = true := code_word (m := ⟨5, 0⟩) (meth := k5m0) (c := k5c0) (by decide +kernel) rfl rfl rfl (by decide +kernel)
def codes1 : List Jvm.Cond := [Jvm.Cond.code x code maxLocals ret, Jvm.Cond.code ({ cls := "com/example/elliott_bay/elliottbay/value/AttributeType", name := "isScalar", desc := "()Z" } : Jvm.MethodName) prog_109_method_4_code (1 : Nat) (Option.some Jvm.ClassFile.FieldType.boolean), Jvm.Cond.code ({ cls := "com/example/elliott_bay/elliottbay/value/AttributeType", name := "isSet", desc := "()Z" } : Jvm.MethodName) prog_109_method_5_code (1 : Nat) (Option.some Jvm.ClassFile.FieldType.boolean), Jvm.Cond.code ({ cls := "com/example/elliott_bay/elliottbay/value/AttributeType", name := "memberType", desc := "()Lcom/example/elliott_bay/elliottbay/value/AttributeType;" } : Jvm.MethodName) prog_109_method_6_code (1 : Nat) (Option.some (Jvm.ClassFile.FieldType.object "com/example/elliott_bay/elliottbay/value/AttributeType")), Jvm.Cond.code ({ cls := "java/lang/Enum", name := "ordinal", desc := "()I" } : Jvm.MethodName) jdk_37_method_2_code (1 : Nat) (Option.some Jvm.ClassFile.FieldType.int)]
set_option maxRecDepth 65536 in
theorem codes_eq : words1.filter isCode = codes1 := rfl
theorem w_codes : ∀ c ∈ words1.filter isCode, c.before args0 about1 = true := by
  rw [codes_eq]
  intro c hc
  simp only [codes1, List.mem_cons, List.not_mem_nil, or_false] at hc
  rcases hc with rfl | rfl | rfl | rfl | rfl
  · exact w_c0
  · exact w_c1
  · exact w_c2
  · exact w_c3
  · exact w_c4
set_option maxRecDepth 65536 in
theorem w_t1 : (words1.take 24).all (fun c => isCode c || c.before args0 about1) = true := by decide +kernel
set_option maxRecDepth 65536 in
theorem w_t2 : ((words1.drop 24).take 24).all (fun c => isCode c || c.before args0 about1) = true := by decide +kernel
set_option maxRecDepth 65536 in
theorem w_t3 : ((words1.drop 24).drop 24).all (fun c => isCode c || c.before args0 about1) = true := by decide +kernel
theorem w_tables : (allAtoms (Jvm.Cond.code x code maxLocals ret :: tables_1)).before args0 about1 = true := by
  rw [allAtoms_all]
  show words1.all (fun c => c.before args0 about1) = true
  refine all_split ?_ w_codes
  rw [← List.take_append_drop 24 words1, List.all_append, w_t1, ← List.take_append_drop 24 (words1.drop 24), List.all_append, w_t2, w_t3]
  rfl
set_option maxRecDepth 65536 in
theorem w_case : (Jvm.Cond.and given_1 narrow_1).before args0 about1 = true := by decide +kernel
theorem w_applies : (headSpec (Jvm.Cond.code x code maxLocals ret :: tables_1) room_1).applies x e0.platform about1 = true :=
  (Spec.applies_iff w_frames).mpr ⟨w_running, w_runnable, w_alone, w_named, w_hears, w_ripe, w_room, w_tables⟩
theorem atStart : AtStart classFile x code maxLocals ret World_1 tables_1 room_1 Calls_1 rest_1 Pre_1 launch0 p0 e0 about1 theMethod args0 below0 :=
  ⟨lists_1, trivial, launch0.admits_env _ _ _, launch0.least_env, fairChoices_fair.cas, fairChoices_fair.clock, w_frames, w_args, w_heap, w_applies, trivial, trivial, w_case⟩
end start1
theorem witness_1 : WitnessClaimed_1 := ⟨start1.p0, start1.e0, start1.about1, start1.theMethod, start1.args0, start1.below0, start1.atStart⟩
end Jvm.Pilot.@@N@@
