import JvmDerived
import JvmDerived.Pilot.@@N@@Statement
import JvmDerived.Pilot.@@N@@Code
set_option linter.unusedVariables false
set_option linter.unusedSimpArgs false
namespace Jvm.RoadKit
open Sem ClassFile Op Lib Jvm.Stand Jvm.Free Jvm.LawKit
section New
variable {p : Program} {l : Launch} {e : Env} {R : Room} {s : State} {m : MethodId} {args : Array Value} {below : List Frame} {meth : Method} {c : Code} {T : State} {locs : List Loc} {cells slots : Nat}
theorem retI (X : Stand p l e R s m args below meth c T locs cells slots) (hx : p.tables.exec = Jvm.exec) {pc : Nat} {Ls : Array Slot} {z : Int32} {rest : List Value} (hret : meth.sig.returnType = some .int) (hd : decode c.code pc = .ok (.ireturn, 1)) {fs : List Frame}
    (hl : ∀ (f : JFrame) (acts : List Action), f.method = m → f.locked = none → f.entered = [] → (doReturn e (T.setTop f) acts (some (.int z))).1 = T.setFrames fs) : Steps p.tables e below (T.setTop (mkF m pc Ls (.int z :: rest))) (T.setFrames fs) := by
  have hm' : T.vm.method? m = some meth := X.method'
  have hn : narrow .int (.int z) = .int z := rfl
  show Steps p.tables e below (T.setTop { method := m, pc := pc, locals := Ls, stack := _ :: rest, locked := none }) _
  jvm_step X.here [X.here.top, hx, hd, hm', hret, hn]
  first | (intro acts; rw [hl _ acts rfl rfl rfl]) | rw [hl _ _ rfl rfl rfl]
  exact Steps.refl _
end New
theorem own_sta_keep {Z : State} {h h' : Heap} {C n d : String} {w : Value} {ws : List Addr} (F : Sta Z h C n d w) (K : Keep h h' ws) (q : ∀ x ∈ ws, ∃ c : Cell, h[x]? = some c ∧ c.vm.isStatics = false) : Sta Z h' C n d w := by
  obtain ⟨cf, i, k, f, st, cell, h1, h2, h3, h4, h5, h6, h7⟩ := F
  refine ⟨cf, i, k, f, st, cell, h1, h2, h3, h4, K.2.1 st cell h5 (fun hm => ?_), h6, h7⟩
  obtain ⟨c, g1, g2⟩ := q st hm
  cases h5.symm.trans g1
  rw [h6] at g2; cases g2
theorem own_exa_ns {Z : State} {h : Heap} {a : Addr} {C : String} (F : Exa Z h a C) : ∃ c : Cell, h[a]? = some c ∧ c.vm.isStatics = false := by
  obtain ⟨cell, k, h1, -, -, h4, -⟩ := F
  exact ⟨cell, h1, h4⟩
theorem own_arv_ns {Z : State} {h : Heap} {a : Addr} {k : ClassId} {ty : FieldType} {z : Int32} {vs : List Value} {d : Value} (F : Arv Z h a k ty z vs d) : ∃ c : Cell, h[a]? = some c ∧ c.vm.isStatics = false := by
  obtain ⟨cell, A, -⟩ := F
  exact ⟨cell, A.1, A.plain⟩
theorem own_arv {Z : State} {h : Heap} {a : Addr} {k : ClassId} {ty : FieldType} {z : Int32} {vs : List Value} {d : Value} (F : Arh Z h a k ty z [] vs d) : Arv Z h a k ty z vs d := F
theorem own_eqv {Z : State} {args : Array Value} {t u : Term} {v : Value} (hv : (∃ k, v = .int k) ∨ ∃ a, v = .ref a) (hu : u.eval args Z none [] Z = some v) (h : (Jvm.Cond.eq t u).value args Z none Z [] = some true) : t.eval args Z none [] Z = some v := by
  simp only [Jvm.Cond.value, hu] at h
  cases ht : t.eval args Z none [] Z with
  | none => simp [ht] at h
  | some x => rcases hv with ⟨k, rfl⟩ | ⟨a, rfl⟩ <;> cases x <;> simp [ht] at h ⊢ <;> exact h
theorem own_len {Z : State} {args : Array Value} {t : Term} {a : Addr} {cl : Cell} {ty : FieldType} {z : Int32} (ev : t.eval args Z none [] Z = some (.ref a)) (A : Arr Z Z.heap a cl ty) (h : (Term.length t).eval args Z none [] Z = some (.int z)) : cl.slots.size < 2 ^ 31 ∧ cl.slots.size.toInt32 = z := by
  obtain ⟨a', cell, ha', hat, hv⟩ := Term.length_spec h
  cases ev.symm.trans ha'
  cases A.1.symm.trans (State.arrayAt?_spec hat).1
  cases hv
  refine ⟨?_, rfl⟩
  by_cases q : cl.slots.size < 2 ^ 31
  · exact q
  · exfalso
    simp [Term.eval, ev, hat, q] at h
end Jvm.RoadKit
namespace Jvm.Pilot.@@N@@
open Jvm Jvm.ClassFile Sem Op Lib Jvm.Free Jvm.Stand Jvm.LawKit Jvm.RoadKit Bundle Jvm.Pilot.@@N@@.Jvm.D
theorem d4_0 : decode jdk_37_method_2_code 0 = .ok (.aload_n 0, 1) := by decide +kernel
theorem d4_1 : decode jdk_37_method_2_code 1 = .ok (.getfield 7, 3) := by decide +kernel
theorem d4_4 : decode jdk_37_method_2_code 4 = .ok (.ireturn, 1) := by decide +kernel
theorem pn0 : plainName "java/lang/Enum" = true := by first | (simp [plainName, overriddenIn]; done) | decide +kernel
theorem ef4 (m : MethodId) (a1 : Addr) : entryFrame m #[(.ref a1)] 1 = (mkF m 0 #[.val (.ref a1)] []) := by first | (simp [entryFrame, mkF, argsToLocals, Value.category]; done) | rfl
def Q4 (Z : State) (a1 : Addr) (w_ordinal_a1 : Int32) (h0 : Heap) (n0 : Nat) (v : Option Value) (h : Heap) (L : List Loc) : Prop := v = some (.int w_ordinal_a1) ∧ L = [] ∧ h = h0
set_option maxRecDepth 65536 in
set_option maxHeartbeats 40000000 in
theorem rm4 (l : Launch) (Z : State) (a0 : Array Value) (hw : ∀ d ∈ tables_1, d.before a0 Z = true) (ws : List Jvm.Cond) (a1 : Addr) (w_ordinal_a1 : Int32) (h0 : Heap) (n0 : Nat) (Z0 : n0 ≤ h0.size) (F_ordinal_a1 : Fld Z h0 a1 "java/lang/Enum" "ordinal" "I" (.int w_ordinal_a1)) :
    MetFree l (⟨"java/lang/Enum", "ordinal", "()I"⟩ : MethodName) (head1 (Jvm.Cond.code (⟨"java/lang/Enum", "ordinal", "()I"⟩ : MethodName) jdk_37_method_2_code 1 (some .int) :: ws) ({ frames := 0, cells := 0, slots := 0, locals := 0 } : Room)) (fun a U => a = #[(.ref a1)] ∧ Z.Warmed39 U.vm ∧ U.heap = h0) (fun _ _ _ _ _ => True) (fun _ U o U' => ∃ v L, o = .returned v ∧ Q4 Z a1 w_ordinal_a1 h0 n0 v U'.heap L ∧ FrameEnd U o U' L ({ frames := 0, cells := 0, slots := 0, locals := 0 } : Room).cells ({ frames := 0, cells := 0, slots := 0, locals := 0 } : Room).slots) := by
  refine MetFree.of_bodySF (plainFor_of_name pn0) hisR ?_
  intro p e s m args below meth c s₁ Bd hml0 hP hK
  obtain ⟨rfl, hZ, hh⟩ := hP
  have hx := Bd.exec
  have hby := Bd.bytes
  have hml : c.maxLocals = 1 := hml0
  have hown : s.vm.findClass "java/lang/Enum" = some m.cls := findClass_of_methodNamed Bd.named
  have hnm := (name_of_methodNamed Bd.named Bd.method).1
  have X0 : Stand p l e ({ frames := 0, cells := 0, slots := 0, locals := 0 } : Room) s m #[(.ref a1)] below meth c s₁ [] 0 0 := Stand.of_body Bd
  have e0 : s₁.heap = h0 := by rw [← hh, Bd.state]; rfl
  have N0 := Fr.nil n0
  have pre0 : ∀ t, Steps p.tables e below (s₁.setTop (mkF m 0 #[.val (.ref a1)] [])) t → Steps p.tables e below (s₁.setTop (entryFrame m #[(.ref a1)] 1)) t := fun t k => castTop (ef4 m a1) k
  obtain ⟨T1, X1, e1, st1⟩ := getF X0 hx hZ hown (host := "") (Or.inl (hw _ (List.mem_of_getElem? (i := 38) rfl))) Via.refl e0 F_ordinal_a1 (g := (mkF m 1 #[.val (.ref a1)] [(.ref a1)])) rfl rfl (hb hby d4_1)
  obtain ⟨fs, hr, hrun, hended, hW, hsame⟩ := X1.leave (v := some (.int w_ordinal_a1)) (fun h => by rw [Bd.returns] at h; cases h)
  refine ⟨_, _, pre0 _ ?_, hrun, hended, _, _, rfl, ?_, ⟨_, rfl⟩, hW, hsame.mono (by decide) (by decide)⟩
  · show Steps p.tables e below (s₁.setTop (mkF m 0 #[.val (.ref a1)] [])) _
    refine XS.aloadN X0.here hx rfl (hb hby d4_0) rfl rfl ?_
    show Steps p.tables e below (s₁.setTop (mkF m 1 #[.val (.ref a1)] [(.ref a1)])) _
    refine st1 _ ?_
    show Steps p.tables e below (T1.setTop (mkF m 4 #[.val (.ref a1)] [(.int w_ordinal_a1)])) _
    exact retI X1 hx Bd.returns (hb hby d4_4) hr
  · show Q4 Z a1 w_ordinal_a1 h0 n0 _ T1.heap _
    rw [e1]
    exact ⟨rfl, rfl, rfl⟩
theorem d1_0 : decode method_2_code 0 = .ok (.iload_n 0, 1) := by decide +kernel
theorem d1_1 : decode method_2_code 1 = .ok (.ifCond .ne 7, 3) := by decide +kernel
theorem d1_4 : decode method_2_code 4 = .ok (.getstatic 7, 3) := by decide +kernel
theorem d1_7 : decode method_2_code 7 = .ok (.areturn, 1) := by decide +kernel
theorem d1_8 : decode method_2_code 8 = .ok (.iload_n 0, 1) := by decide +kernel
theorem d1_9 : decode method_2_code 9 = .ok (.iconst 1, 1) := by decide +kernel
theorem d1_10 : decode method_2_code 10 = .ok (.if_icmp .ne 7, 3) := by decide +kernel
theorem d1_13 : decode method_2_code 13 = .ok (.getstatic 13, 3) := by decide +kernel
theorem d1_16 : decode method_2_code 16 = .ok (.areturn, 1) := by decide +kernel
theorem d1_17 : decode method_2_code 17 = .ok (.iload_n 0, 1) := by decide +kernel
theorem d1_18 : decode method_2_code 18 = .ok (.iconst 2, 1) := by decide +kernel
theorem d1_19 : decode method_2_code 19 = .ok (.if_icmp .ne 7, 3) := by decide +kernel
theorem d1_22 : decode method_2_code 22 = .ok (.getstatic 16, 3) := by decide +kernel
theorem d1_25 : decode method_2_code 25 = .ok (.areturn, 1) := by decide +kernel
theorem d1_26 : decode method_2_code 26 = .ok (.iload_n 0, 1) := by decide +kernel
theorem d1_27 : decode method_2_code 27 = .ok (.iconst 3, 1) := by decide +kernel
theorem d1_28 : decode method_2_code 28 = .ok (.if_icmp .ne 7, 3) := by decide +kernel
theorem d1_31 : decode method_2_code 31 = .ok (.getstatic 19, 3) := by decide +kernel
theorem d1_34 : decode method_2_code 34 = .ok (.areturn, 1) := by decide +kernel
theorem d1_35 : decode method_2_code 35 = .ok (.iload_n 0, 1) := by decide +kernel
theorem d1_36 : decode method_2_code 36 = .ok (.iconst 4, 1) := by decide +kernel
theorem d1_37 : decode method_2_code 37 = .ok (.if_icmp .ne 7, 3) := by decide +kernel
theorem d1_40 : decode method_2_code 40 = .ok (.getstatic 22, 3) := by decide +kernel
theorem d1_43 : decode method_2_code 43 = .ok (.areturn, 1) := by decide +kernel
theorem d1_44 : decode method_2_code 44 = .ok (.iload_n 0, 1) := by decide +kernel
theorem d1_45 : decode method_2_code 45 = .ok (.iconst 5, 1) := by decide +kernel
theorem d1_46 : decode method_2_code 46 = .ok (.if_icmp .ne 7, 3) := by decide +kernel
theorem d1_49 : decode method_2_code 49 = .ok (.getstatic 25, 3) := by decide +kernel
theorem d1_52 : decode method_2_code 52 = .ok (.areturn, 1) := by decide +kernel
theorem d1_53 : decode method_2_code 53 = .ok (.iload_n 0, 1) := by decide +kernel
theorem d1_54 : decode method_2_code 54 = .ok (.bipush 6, 2) := by decide +kernel
theorem d1_56 : decode method_2_code 56 = .ok (.if_icmp .ne 7, 3) := by decide +kernel
theorem d1_59 : decode method_2_code 59 = .ok (.getstatic 28, 3) := by decide +kernel
theorem d1_62 : decode method_2_code 62 = .ok (.areturn, 1) := by decide +kernel
theorem d1_63 : decode method_2_code 63 = .ok (.iload_n 0, 1) := by decide +kernel
theorem d1_64 : decode method_2_code 64 = .ok (.bipush 7, 2) := by decide +kernel
theorem d1_66 : decode method_2_code 66 = .ok (.if_icmp .ne 7, 3) := by decide +kernel
theorem d1_69 : decode method_2_code 69 = .ok (.getstatic 31, 3) := by decide +kernel
theorem d1_72 : decode method_2_code 72 = .ok (.areturn, 1) := by decide +kernel
theorem d1_73 : decode method_2_code 73 = .ok (.iload_n 0, 1) := by decide +kernel
theorem d1_74 : decode method_2_code 74 = .ok (.bipush 8, 2) := by decide +kernel
theorem d1_76 : decode method_2_code 76 = .ok (.if_icmp .ne 7, 3) := by decide +kernel
theorem d1_79 : decode method_2_code 79 = .ok (.getstatic 34, 3) := by decide +kernel
theorem d1_82 : decode method_2_code 82 = .ok (.areturn, 1) := by decide +kernel
theorem d1_83 : decode method_2_code 83 = .ok (.getstatic 37, 3) := by decide +kernel
theorem d1_86 : decode method_2_code 86 = .ok (.areturn, 1) := by decide +kernel
def res1 (p1 : Int32) (w_S : Addr) (w_N : Addr) (w_B : Addr) (w_BOOL : Addr) (w_NULL : Addr) (w_M : Addr) (w_L : Addr) (w_SS : Addr) (w_NS : Addr) (w_BS : Addr) : Addr := if p1 = (0 : Int32) then w_S else if p1 = (1 : Int32) then w_N else if p1 = (2 : Int32) then w_B else if p1 = (3 : Int32) then w_BOOL else if p1 = (4 : Int32) then w_NULL else if p1 = (5 : Int32) then w_M else if p1 = (6 : Int32) then w_L else if p1 = (7 : Int32) then w_SS else if p1 = (8 : Int32) then w_NS else w_BS
theorem pn1 : plainName "com/example/elliott_bay/elliottbay/value/AttributeTypeIsSetPinLaw" = true := by first | (simp [plainName, overriddenIn]; done) | decide +kernel
theorem ef1 (m : MethodId) (p1 : Int32) : entryFrame m #[(.int p1)] 1 = (mkF m 0 #[.val (.int p1)] []) := by first | (simp [entryFrame, mkF, argsToLocals, Value.category]; done) | rfl
def Q1 (Z : State) (p1 : Int32) (w_S : Addr) (w_N : Addr) (w_B : Addr) (w_BOOL : Addr) (w_NULL : Addr) (w_M : Addr) (w_L : Addr) (w_SS : Addr) (w_NS : Addr) (w_BS : Addr) (h0 : Heap) (n0 : Nat) (v : Option Value) (h : Heap) (L : List Loc) : Prop := v = some (.ref (res1 p1 w_S w_N w_B w_BOOL w_NULL w_M w_L w_SS w_NS w_BS)) ∧ L = [] ∧ h = h0
set_option maxRecDepth 65536 in
set_option maxHeartbeats 40000000 in
theorem rm1 (l : Launch) (Z : State) (a0 : Array Value) (hw : ∀ d ∈ tables_1, d.before a0 Z = true) (ws : List Jvm.Cond) (p1 : Int32) (w_S : Addr) (w_N : Addr) (w_B : Addr) (w_BOOL : Addr) (w_NULL : Addr) (w_M : Addr) (w_L : Addr) (w_SS : Addr) (w_NS : Addr) (w_BS : Addr) (h0 : Heap) (n0 : Nat) (Z0 : n0 ≤ h0.size) (S_S : Sta Z h0 "com/example/elliott_bay/elliottbay/value/AttributeType" "S" "Lcom/example/elliott_bay/elliottbay/value/AttributeType;" (.ref w_S)) (S_N : Sta Z h0 "com/example/elliott_bay/elliottbay/value/AttributeType" "N" "Lcom/example/elliott_bay/elliottbay/value/AttributeType;" (.ref w_N)) (S_B : Sta Z h0 "com/example/elliott_bay/elliottbay/value/AttributeType" "B" "Lcom/example/elliott_bay/elliottbay/value/AttributeType;" (.ref w_B)) (S_BOOL : Sta Z h0 "com/example/elliott_bay/elliottbay/value/AttributeType" "BOOL" "Lcom/example/elliott_bay/elliottbay/value/AttributeType;" (.ref w_BOOL)) (S_NULL : Sta Z h0 "com/example/elliott_bay/elliottbay/value/AttributeType" "NULL" "Lcom/example/elliott_bay/elliottbay/value/AttributeType;" (.ref w_NULL)) (S_M : Sta Z h0 "com/example/elliott_bay/elliottbay/value/AttributeType" "M" "Lcom/example/elliott_bay/elliottbay/value/AttributeType;" (.ref w_M)) (S_L : Sta Z h0 "com/example/elliott_bay/elliottbay/value/AttributeType" "L" "Lcom/example/elliott_bay/elliottbay/value/AttributeType;" (.ref w_L)) (S_SS : Sta Z h0 "com/example/elliott_bay/elliottbay/value/AttributeType" "SS" "Lcom/example/elliott_bay/elliottbay/value/AttributeType;" (.ref w_SS)) (S_NS : Sta Z h0 "com/example/elliott_bay/elliottbay/value/AttributeType" "NS" "Lcom/example/elliott_bay/elliottbay/value/AttributeType;" (.ref w_NS)) (S_BS : Sta Z h0 "com/example/elliott_bay/elliottbay/value/AttributeType" "BS" "Lcom/example/elliott_bay/elliottbay/value/AttributeType;" (.ref w_BS)) :
    MetFree l (⟨"com/example/elliott_bay/elliottbay/value/AttributeTypeIsSetPinLaw", "pick", "(I)Lcom/example/elliott_bay/elliottbay/value/AttributeType;"⟩ : MethodName) (head1 (Jvm.Cond.code (⟨"com/example/elliott_bay/elliottbay/value/AttributeTypeIsSetPinLaw", "pick", "(I)Lcom/example/elliott_bay/elliottbay/value/AttributeType;"⟩ : MethodName) method_2_code 1 (some (.object "com/example/elliott_bay/elliottbay/value/AttributeType")) :: ws) ({ frames := 0, cells := 0, slots := 0, locals := 0 } : Room)) (fun a U => a = #[(.int p1)] ∧ Z.Warmed39 U.vm ∧ U.heap = h0) (fun _ _ _ _ _ => True) (fun _ U o U' => ∃ v L, o = .returned v ∧ Q1 Z p1 w_S w_N w_B w_BOOL w_NULL w_M w_L w_SS w_NS w_BS h0 n0 v U'.heap L ∧ FrameEnd U o U' L ({ frames := 0, cells := 0, slots := 0, locals := 0 } : Room).cells ({ frames := 0, cells := 0, slots := 0, locals := 0 } : Room).slots) := by
  refine MetFree.of_bodySF (plainFor_of_name pn1) hisR ?_
  intro p e s m args below meth c s₁ Bd hml0 hP hK
  obtain ⟨rfl, hZ, hh⟩ := hP
  have hx := Bd.exec
  have hby := Bd.bytes
  have hml : c.maxLocals = 1 := hml0
  have hown : s.vm.findClass "com/example/elliott_bay/elliottbay/value/AttributeTypeIsSetPinLaw" = some m.cls := findClass_of_methodNamed Bd.named
  have hnm := (name_of_methodNamed Bd.named Bd.method).1
  have X0 : Stand p l e ({ frames := 0, cells := 0, slots := 0, locals := 0 } : Room) s m #[(.int p1)] below meth c s₁ [] 0 0 := Stand.of_body Bd
  have e0 : s₁.heap = h0 := by rw [← hh, Bd.state]; rfl
  have N0 := Fr.nil n0
  have pre0 : ∀ t, Steps p.tables e below (s₁.setTop (mkF m 0 #[.val (.int p1)] [])) t → Steps p.tables e below (s₁.setTop (entryFrame m #[(.int p1)] 1)) t := fun t k => castTop (ef1 m p1) k
  have pre1 : ∀ t, Steps p.tables e below (s₁.setTop (mkF m 1 #[.val (.int p1)] [(.int p1)])) t → Steps p.tables e below (s₁.setTop (entryFrame m #[(.int p1)] 1)) t := by
    intro t kt
    refine pre0 _ ?_
    show Steps p.tables e below (s₁.setTop (mkF m 0 #[.val (.int p1)] [])) _
    refine XS.iloadN X0.here hx rfl (hb hby d1_0) rfl ?_
    exact kt
  by_cases hc1_2 : p1 = (0 : Int32)
  · obtain ⟨T3, X3, e3, st3⟩ := getS2 X0 hx hZ hown (host := "") (Or.inl (hw _ (List.mem_of_getElem? (i := 5) rfl))) Via.refl e0 S_S (g := (mkF m 4 #[.val (.int p1)] [])) rfl (hb hby d1_4)
    obtain ⟨fs, hr, hrun, hended, hW, hsame⟩ := X3.leave (v := some (.ref w_S)) (fun h => by rw [Bd.returns] at h; cases h)
    refine ⟨_, _, pre1 _ ?_, hrun, hended, _, _, rfl, ?_, ⟨_, rfl⟩, hW, hsame.mono (by decide) (by decide)⟩
    · show Steps p.tables e below (s₁.setTop (mkF m 1 #[.val (.int p1)] [(.int p1)])) _
      refine XS.ifNo X0.here hx rfl (hb hby d1_1) rfl ((if0 _ _).trans (teq hc1_2).2) ?_
      show Steps p.tables e below (s₁.setTop (mkF m 4 #[.val (.int p1)] [])) _
      refine st3 _ ?_
      show Steps p.tables e below (T3.setTop (mkF m 7 #[.val (.int p1)] [(.ref w_S)])) _
      exact retOut X3 hx Bd.returns rfl (Or.inr (Or.inr (Or.inr (Or.inr ⟨rfl, rfl, rfl⟩)))) (hb hby d1_7) hr
    · show Q1 Z p1 w_S w_N w_B w_BOOL w_NULL w_M w_L w_SS w_NS w_BS h0 n0 _ T3.heap _
      rw [e3]
      exact ⟨by rw [res1, if_pos hc1_2], rfl, rfl⟩
  · have pre4 : ∀ t, Steps p.tables e below (s₁.setTop (mkF m 10 #[.val (.int p1)] [(.int (1 : Int32)), (.int p1)])) t → Steps p.tables e below (s₁.setTop (entryFrame m #[(.int p1)] 1)) t := by
      intro t kt
      refine pre1 _ ?_
      show Steps p.tables e below (s₁.setTop (mkF m 1 #[.val (.int p1)] [(.int p1)])) _
      refine XS.ifYes X0.here hx rfl (pc0 := 1) (pc' := 8) rfl (hb hby d1_1) rfl ((if0 _ _).trans (feq hc1_2).2) (by decide) (by decide) ?_
      show Steps p.tables e below (s₁.setTop (mkF m 8 #[.val (.int p1)] [])) _
      refine XS.iloadN X0.here hx rfl (hb hby d1_8) rfl ?_
      show Steps p.tables e below (s₁.setTop (mkF m 9 #[.val (.int p1)] [(.int p1)])) _
      refine XS.iconst X0.here hx rfl (hb hby d1_9) ?_
      exact kt
    by_cases hc10_5 : p1 = (1 : Int32)
    · obtain ⟨T6, X6, e6, st6⟩ := getS2 X0 hx hZ hown (host := "") (Or.inl (hw _ (List.mem_of_getElem? (i := 21) rfl))) Via.refl e0 S_N (g := (mkF m 13 #[.val (.int p1)] [])) rfl (hb hby d1_13)
      obtain ⟨fs, hr, hrun, hended, hW, hsame⟩ := X6.leave (v := some (.ref w_N)) (fun h => by rw [Bd.returns] at h; cases h)
      refine ⟨_, _, pre4 _ ?_, hrun, hended, _, _, rfl, ?_, ⟨_, rfl⟩, hW, hsame.mono (by decide) (by decide)⟩
      · show Steps p.tables e below (s₁.setTop (mkF m 10 #[.val (.int p1)] [(.int (1 : Int32)), (.int p1)])) _
        refine XS.icmpNo X0.here hx rfl (hb hby d1_10) rfl (teq hc10_5).2 ?_
        show Steps p.tables e below (s₁.setTop (mkF m 13 #[.val (.int p1)] [])) _
        refine st6 _ ?_
        show Steps p.tables e below (T6.setTop (mkF m 16 #[.val (.int p1)] [(.ref w_N)])) _
        exact retOut X6 hx Bd.returns rfl (Or.inr (Or.inr (Or.inr (Or.inr ⟨rfl, rfl, rfl⟩)))) (hb hby d1_16) hr
      · show Q1 Z p1 w_S w_N w_B w_BOOL w_NULL w_M w_L w_SS w_NS w_BS h0 n0 _ T6.heap _
        rw [e6]
        exact ⟨by rw [res1, if_neg hc1_2, if_pos hc10_5], rfl, rfl⟩
    · have pre7 : ∀ t, Steps p.tables e below (s₁.setTop (mkF m 19 #[.val (.int p1)] [(.int (2 : Int32)), (.int p1)])) t → Steps p.tables e below (s₁.setTop (entryFrame m #[(.int p1)] 1)) t := by
        intro t kt
        refine pre4 _ ?_
        show Steps p.tables e below (s₁.setTop (mkF m 10 #[.val (.int p1)] [(.int (1 : Int32)), (.int p1)])) _
        refine XS.icmpYes X0.here hx rfl (pc0 := 10) (pc' := 17) rfl (hb hby d1_10) rfl (feq hc10_5).2 (by decide) (by decide) ?_
        show Steps p.tables e below (s₁.setTop (mkF m 17 #[.val (.int p1)] [])) _
        refine XS.iloadN X0.here hx rfl (hb hby d1_17) rfl ?_
        show Steps p.tables e below (s₁.setTop (mkF m 18 #[.val (.int p1)] [(.int p1)])) _
        refine XS.iconst X0.here hx rfl (hb hby d1_18) ?_
        exact kt
      by_cases hc19_8 : p1 = (2 : Int32)
      · obtain ⟨T9, X9, e9, st9⟩ := getS2 X0 hx hZ hown (host := "") (Or.inl (hw _ (List.mem_of_getElem? (i := 41) rfl))) Via.refl e0 S_B (g := (mkF m 22 #[.val (.int p1)] [])) rfl (hb hby d1_22)
        obtain ⟨fs, hr, hrun, hended, hW, hsame⟩ := X9.leave (v := some (.ref w_B)) (fun h => by rw [Bd.returns] at h; cases h)
        refine ⟨_, _, pre7 _ ?_, hrun, hended, _, _, rfl, ?_, ⟨_, rfl⟩, hW, hsame.mono (by decide) (by decide)⟩
        · show Steps p.tables e below (s₁.setTop (mkF m 19 #[.val (.int p1)] [(.int (2 : Int32)), (.int p1)])) _
          refine XS.icmpNo X0.here hx rfl (hb hby d1_19) rfl (teq hc19_8).2 ?_
          show Steps p.tables e below (s₁.setTop (mkF m 22 #[.val (.int p1)] [])) _
          refine st9 _ ?_
          show Steps p.tables e below (T9.setTop (mkF m 25 #[.val (.int p1)] [(.ref w_B)])) _
          exact retOut X9 hx Bd.returns rfl (Or.inr (Or.inr (Or.inr (Or.inr ⟨rfl, rfl, rfl⟩)))) (hb hby d1_25) hr
        · show Q1 Z p1 w_S w_N w_B w_BOOL w_NULL w_M w_L w_SS w_NS w_BS h0 n0 _ T9.heap _
          rw [e9]
          exact ⟨by rw [res1, if_neg hc1_2, if_neg hc10_5, if_pos hc19_8], rfl, rfl⟩
      · have pre10 : ∀ t, Steps p.tables e below (s₁.setTop (mkF m 28 #[.val (.int p1)] [(.int (3 : Int32)), (.int p1)])) t → Steps p.tables e below (s₁.setTop (entryFrame m #[(.int p1)] 1)) t := by
          intro t kt
          refine pre7 _ ?_
          show Steps p.tables e below (s₁.setTop (mkF m 19 #[.val (.int p1)] [(.int (2 : Int32)), (.int p1)])) _
          refine XS.icmpYes X0.here hx rfl (pc0 := 19) (pc' := 26) rfl (hb hby d1_19) rfl (feq hc19_8).2 (by decide) (by decide) ?_
          show Steps p.tables e below (s₁.setTop (mkF m 26 #[.val (.int p1)] [])) _
          refine XS.iloadN X0.here hx rfl (hb hby d1_26) rfl ?_
          show Steps p.tables e below (s₁.setTop (mkF m 27 #[.val (.int p1)] [(.int p1)])) _
          refine XS.iconst X0.here hx rfl (hb hby d1_27) ?_
          exact kt
        by_cases hc28_11 : p1 = (3 : Int32)
        · obtain ⟨T12, X12, e12, st12⟩ := getS2 X0 hx hZ hown (host := "") (Or.inl (hw _ (List.mem_of_getElem? (i := 19) rfl))) Via.refl e0 S_BOOL (g := (mkF m 31 #[.val (.int p1)] [])) rfl (hb hby d1_31)
          obtain ⟨fs, hr, hrun, hended, hW, hsame⟩ := X12.leave (v := some (.ref w_BOOL)) (fun h => by rw [Bd.returns] at h; cases h)
          refine ⟨_, _, pre10 _ ?_, hrun, hended, _, _, rfl, ?_, ⟨_, rfl⟩, hW, hsame.mono (by decide) (by decide)⟩
          · show Steps p.tables e below (s₁.setTop (mkF m 28 #[.val (.int p1)] [(.int (3 : Int32)), (.int p1)])) _
            refine XS.icmpNo X0.here hx rfl (hb hby d1_28) rfl (teq hc28_11).2 ?_
            show Steps p.tables e below (s₁.setTop (mkF m 31 #[.val (.int p1)] [])) _
            refine st12 _ ?_
            show Steps p.tables e below (T12.setTop (mkF m 34 #[.val (.int p1)] [(.ref w_BOOL)])) _
            exact retOut X12 hx Bd.returns rfl (Or.inr (Or.inr (Or.inr (Or.inr ⟨rfl, rfl, rfl⟩)))) (hb hby d1_34) hr
          · show Q1 Z p1 w_S w_N w_B w_BOOL w_NULL w_M w_L w_SS w_NS w_BS h0 n0 _ T12.heap _
            rw [e12]
            exact ⟨by rw [res1, if_neg hc1_2, if_neg hc10_5, if_neg hc19_8, if_pos hc28_11], rfl, rfl⟩
        · have pre13 : ∀ t, Steps p.tables e below (s₁.setTop (mkF m 37 #[.val (.int p1)] [(.int (4 : Int32)), (.int p1)])) t → Steps p.tables e below (s₁.setTop (entryFrame m #[(.int p1)] 1)) t := by
            intro t kt
            refine pre10 _ ?_
            show Steps p.tables e below (s₁.setTop (mkF m 28 #[.val (.int p1)] [(.int (3 : Int32)), (.int p1)])) _
            refine XS.icmpYes X0.here hx rfl (pc0 := 28) (pc' := 35) rfl (hb hby d1_28) rfl (feq hc28_11).2 (by decide) (by decide) ?_
            show Steps p.tables e below (s₁.setTop (mkF m 35 #[.val (.int p1)] [])) _
            refine XS.iloadN X0.here hx rfl (hb hby d1_35) rfl ?_
            show Steps p.tables e below (s₁.setTop (mkF m 36 #[.val (.int p1)] [(.int p1)])) _
            refine XS.iconst X0.here hx rfl (hb hby d1_36) ?_
            exact kt
          by_cases hc37_14 : p1 = (4 : Int32)
          · obtain ⟨T15, X15, e15, st15⟩ := getS2 X0 hx hZ hown (host := "") (Or.inl (hw _ (List.mem_of_getElem? (i := 23) rfl))) Via.refl e0 S_NULL (g := (mkF m 40 #[.val (.int p1)] [])) rfl (hb hby d1_40)
            obtain ⟨fs, hr, hrun, hended, hW, hsame⟩ := X15.leave (v := some (.ref w_NULL)) (fun h => by rw [Bd.returns] at h; cases h)
            refine ⟨_, _, pre13 _ ?_, hrun, hended, _, _, rfl, ?_, ⟨_, rfl⟩, hW, hsame.mono (by decide) (by decide)⟩
            · show Steps p.tables e below (s₁.setTop (mkF m 37 #[.val (.int p1)] [(.int (4 : Int32)), (.int p1)])) _
              refine XS.icmpNo X0.here hx rfl (hb hby d1_37) rfl (teq hc37_14).2 ?_
              show Steps p.tables e below (s₁.setTop (mkF m 40 #[.val (.int p1)] [])) _
              refine st15 _ ?_
              show Steps p.tables e below (T15.setTop (mkF m 43 #[.val (.int p1)] [(.ref w_NULL)])) _
              exact retOut X15 hx Bd.returns rfl (Or.inr (Or.inr (Or.inr (Or.inr ⟨rfl, rfl, rfl⟩)))) (hb hby d1_43) hr
            · show Q1 Z p1 w_S w_N w_B w_BOOL w_NULL w_M w_L w_SS w_NS w_BS h0 n0 _ T15.heap _
              rw [e15]
              exact ⟨by rw [res1, if_neg hc1_2, if_neg hc10_5, if_neg hc19_8, if_neg hc28_11, if_pos hc37_14], rfl, rfl⟩
          · have pre16 : ∀ t, Steps p.tables e below (s₁.setTop (mkF m 46 #[.val (.int p1)] [(.int (5 : Int32)), (.int p1)])) t → Steps p.tables e below (s₁.setTop (entryFrame m #[(.int p1)] 1)) t := by
              intro t kt
              refine pre13 _ ?_
              show Steps p.tables e below (s₁.setTop (mkF m 37 #[.val (.int p1)] [(.int (4 : Int32)), (.int p1)])) _
              refine XS.icmpYes X0.here hx rfl (pc0 := 37) (pc' := 44) rfl (hb hby d1_37) rfl (feq hc37_14).2 (by decide) (by decide) ?_
              show Steps p.tables e below (s₁.setTop (mkF m 44 #[.val (.int p1)] [])) _
              refine XS.iloadN X0.here hx rfl (hb hby d1_44) rfl ?_
              show Steps p.tables e below (s₁.setTop (mkF m 45 #[.val (.int p1)] [(.int p1)])) _
              refine XS.iconst X0.here hx rfl (hb hby d1_45) ?_
              exact kt
            by_cases hc46_17 : p1 = (5 : Int32)
            · obtain ⟨T18, X18, e18, st18⟩ := getS2 X0 hx hZ hown (host := "") (Or.inl (hw _ (List.mem_of_getElem? (i := 47) rfl))) Via.refl e0 S_M (g := (mkF m 49 #[.val (.int p1)] [])) rfl (hb hby d1_49)
              obtain ⟨fs, hr, hrun, hended, hW, hsame⟩ := X18.leave (v := some (.ref w_M)) (fun h => by rw [Bd.returns] at h; cases h)
              refine ⟨_, _, pre16 _ ?_, hrun, hended, _, _, rfl, ?_, ⟨_, rfl⟩, hW, hsame.mono (by decide) (by decide)⟩
              · show Steps p.tables e below (s₁.setTop (mkF m 46 #[.val (.int p1)] [(.int (5 : Int32)), (.int p1)])) _
                refine XS.icmpNo X0.here hx rfl (hb hby d1_46) rfl (teq hc46_17).2 ?_
                show Steps p.tables e below (s₁.setTop (mkF m 49 #[.val (.int p1)] [])) _
                refine st18 _ ?_
                show Steps p.tables e below (T18.setTop (mkF m 52 #[.val (.int p1)] [(.ref w_M)])) _
                exact retOut X18 hx Bd.returns rfl (Or.inr (Or.inr (Or.inr (Or.inr ⟨rfl, rfl, rfl⟩)))) (hb hby d1_52) hr
              · show Q1 Z p1 w_S w_N w_B w_BOOL w_NULL w_M w_L w_SS w_NS w_BS h0 n0 _ T18.heap _
                rw [e18]
                exact ⟨by rw [res1, if_neg hc1_2, if_neg hc10_5, if_neg hc19_8, if_neg hc28_11, if_neg hc37_14, if_pos hc46_17], rfl, rfl⟩
            · have pre19 : ∀ t, Steps p.tables e below (s₁.setTop (mkF m 56 #[.val (.int p1)] [(.int (6 : Int32)), (.int p1)])) t → Steps p.tables e below (s₁.setTop (entryFrame m #[(.int p1)] 1)) t := by
                intro t kt
                refine pre16 _ ?_
                show Steps p.tables e below (s₁.setTop (mkF m 46 #[.val (.int p1)] [(.int (5 : Int32)), (.int p1)])) _
                refine XS.icmpYes X0.here hx rfl (pc0 := 46) (pc' := 53) rfl (hb hby d1_46) rfl (feq hc46_17).2 (by decide) (by decide) ?_
                show Steps p.tables e below (s₁.setTop (mkF m 53 #[.val (.int p1)] [])) _
                refine XS.iloadN X0.here hx rfl (hb hby d1_53) rfl ?_
                show Steps p.tables e below (s₁.setTop (mkF m 54 #[.val (.int p1)] [(.int p1)])) _
                refine XS.bipush X0.here hx rfl (hb hby d1_54) ?_
                exact kt
              by_cases hc56_20 : p1 = (6 : Int32)
              · obtain ⟨T21, X21, e21, st21⟩ := getS2 X0 hx hZ hown (host := "") (Or.inl (hw _ (List.mem_of_getElem? (i := 49) rfl))) Via.refl e0 S_L (g := (mkF m 59 #[.val (.int p1)] [])) rfl (hb hby d1_59)
                obtain ⟨fs, hr, hrun, hended, hW, hsame⟩ := X21.leave (v := some (.ref w_L)) (fun h => by rw [Bd.returns] at h; cases h)
                refine ⟨_, _, pre19 _ ?_, hrun, hended, _, _, rfl, ?_, ⟨_, rfl⟩, hW, hsame.mono (by decide) (by decide)⟩
                · show Steps p.tables e below (s₁.setTop (mkF m 56 #[.val (.int p1)] [(.int (6 : Int32)), (.int p1)])) _
                  refine XS.icmpNo X0.here hx rfl (hb hby d1_56) rfl (teq hc56_20).2 ?_
                  show Steps p.tables e below (s₁.setTop (mkF m 59 #[.val (.int p1)] [])) _
                  refine st21 _ ?_
                  show Steps p.tables e below (T21.setTop (mkF m 62 #[.val (.int p1)] [(.ref w_L)])) _
                  exact retOut X21 hx Bd.returns rfl (Or.inr (Or.inr (Or.inr (Or.inr ⟨rfl, rfl, rfl⟩)))) (hb hby d1_62) hr
                · show Q1 Z p1 w_S w_N w_B w_BOOL w_NULL w_M w_L w_SS w_NS w_BS h0 n0 _ T21.heap _
                  rw [e21]
                  exact ⟨by rw [res1, if_neg hc1_2, if_neg hc10_5, if_neg hc19_8, if_neg hc28_11, if_neg hc37_14, if_neg hc46_17, if_pos hc56_20], rfl, rfl⟩
              · have pre22 : ∀ t, Steps p.tables e below (s₁.setTop (mkF m 66 #[.val (.int p1)] [(.int (7 : Int32)), (.int p1)])) t → Steps p.tables e below (s₁.setTop (entryFrame m #[(.int p1)] 1)) t := by
                  intro t kt
                  refine pre19 _ ?_
                  show Steps p.tables e below (s₁.setTop (mkF m 56 #[.val (.int p1)] [(.int (6 : Int32)), (.int p1)])) _
                  refine XS.icmpYes X0.here hx rfl (pc0 := 56) (pc' := 63) rfl (hb hby d1_56) rfl (feq hc56_20).2 (by decide) (by decide) ?_
                  show Steps p.tables e below (s₁.setTop (mkF m 63 #[.val (.int p1)] [])) _
                  refine XS.iloadN X0.here hx rfl (hb hby d1_63) rfl ?_
                  show Steps p.tables e below (s₁.setTop (mkF m 64 #[.val (.int p1)] [(.int p1)])) _
                  refine XS.bipush X0.here hx rfl (hb hby d1_64) ?_
                  exact kt
                by_cases hc66_23 : p1 = (7 : Int32)
                · obtain ⟨T24, X24, e24, st24⟩ := getS2 X0 hx hZ hown (host := "") (Or.inl (hw _ (List.mem_of_getElem? (i := 25) rfl))) Via.refl e0 S_SS (g := (mkF m 69 #[.val (.int p1)] [])) rfl (hb hby d1_69)
                  obtain ⟨fs, hr, hrun, hended, hW, hsame⟩ := X24.leave (v := some (.ref w_SS)) (fun h => by rw [Bd.returns] at h; cases h)
                  refine ⟨_, _, pre22 _ ?_, hrun, hended, _, _, rfl, ?_, ⟨_, rfl⟩, hW, hsame.mono (by decide) (by decide)⟩
                  · show Steps p.tables e below (s₁.setTop (mkF m 66 #[.val (.int p1)] [(.int (7 : Int32)), (.int p1)])) _
                    refine XS.icmpNo X0.here hx rfl (hb hby d1_66) rfl (teq hc66_23).2 ?_
                    show Steps p.tables e below (s₁.setTop (mkF m 69 #[.val (.int p1)] [])) _
                    refine st24 _ ?_
                    show Steps p.tables e below (T24.setTop (mkF m 72 #[.val (.int p1)] [(.ref w_SS)])) _
                    exact retOut X24 hx Bd.returns rfl (Or.inr (Or.inr (Or.inr (Or.inr ⟨rfl, rfl, rfl⟩)))) (hb hby d1_72) hr
                  · show Q1 Z p1 w_S w_N w_B w_BOOL w_NULL w_M w_L w_SS w_NS w_BS h0 n0 _ T24.heap _
                    rw [e24]
                    exact ⟨by rw [res1, if_neg hc1_2, if_neg hc10_5, if_neg hc19_8, if_neg hc28_11, if_neg hc37_14, if_neg hc46_17, if_neg hc56_20, if_pos hc66_23], rfl, rfl⟩
                · have pre25 : ∀ t, Steps p.tables e below (s₁.setTop (mkF m 76 #[.val (.int p1)] [(.int (8 : Int32)), (.int p1)])) t → Steps p.tables e below (s₁.setTop (entryFrame m #[(.int p1)] 1)) t := by
                    intro t kt
                    refine pre22 _ ?_
                    show Steps p.tables e below (s₁.setTop (mkF m 66 #[.val (.int p1)] [(.int (7 : Int32)), (.int p1)])) _
                    refine XS.icmpYes X0.here hx rfl (pc0 := 66) (pc' := 73) rfl (hb hby d1_66) rfl (feq hc66_23).2 (by decide) (by decide) ?_
                    show Steps p.tables e below (s₁.setTop (mkF m 73 #[.val (.int p1)] [])) _
                    refine XS.iloadN X0.here hx rfl (hb hby d1_73) rfl ?_
                    show Steps p.tables e below (s₁.setTop (mkF m 74 #[.val (.int p1)] [(.int p1)])) _
                    refine XS.bipush X0.here hx rfl (hb hby d1_74) ?_
                    exact kt
                  by_cases hc76_26 : p1 = (8 : Int32)
                  · obtain ⟨T27, X27, e27, st27⟩ := getS2 X0 hx hZ hown (host := "") (Or.inl (hw _ (List.mem_of_getElem? (i := 43) rfl))) Via.refl e0 S_NS (g := (mkF m 79 #[.val (.int p1)] [])) rfl (hb hby d1_79)
                    obtain ⟨fs, hr, hrun, hended, hW, hsame⟩ := X27.leave (v := some (.ref w_NS)) (fun h => by rw [Bd.returns] at h; cases h)
                    refine ⟨_, _, pre25 _ ?_, hrun, hended, _, _, rfl, ?_, ⟨_, rfl⟩, hW, hsame.mono (by decide) (by decide)⟩
                    · show Steps p.tables e below (s₁.setTop (mkF m 76 #[.val (.int p1)] [(.int (8 : Int32)), (.int p1)])) _
                      refine XS.icmpNo X0.here hx rfl (hb hby d1_76) rfl (teq hc76_26).2 ?_
                      show Steps p.tables e below (s₁.setTop (mkF m 79 #[.val (.int p1)] [])) _
                      refine st27 _ ?_
                      show Steps p.tables e below (T27.setTop (mkF m 82 #[.val (.int p1)] [(.ref w_NS)])) _
                      exact retOut X27 hx Bd.returns rfl (Or.inr (Or.inr (Or.inr (Or.inr ⟨rfl, rfl, rfl⟩)))) (hb hby d1_82) hr
                    · show Q1 Z p1 w_S w_N w_B w_BOOL w_NULL w_M w_L w_SS w_NS w_BS h0 n0 _ T27.heap _
                      rw [e27]
                      exact ⟨by rw [res1, if_neg hc1_2, if_neg hc10_5, if_neg hc19_8, if_neg hc28_11, if_neg hc37_14, if_neg hc46_17, if_neg hc56_20, if_neg hc66_23, if_pos hc76_26], rfl, rfl⟩
                  · obtain ⟨T28, X28, e28, st28⟩ := getS2 X0 hx hZ hown (host := "") (Or.inl (hw _ (List.mem_of_getElem? (i := 45) rfl))) Via.refl e0 S_BS (g := (mkF m 83 #[.val (.int p1)] [])) rfl (hb hby d1_83)
                    obtain ⟨fs, hr, hrun, hended, hW, hsame⟩ := X28.leave (v := some (.ref w_BS)) (fun h => by rw [Bd.returns] at h; cases h)
                    refine ⟨_, _, pre25 _ ?_, hrun, hended, _, _, rfl, ?_, ⟨_, rfl⟩, hW, hsame.mono (by decide) (by decide)⟩
                    · show Steps p.tables e below (s₁.setTop (mkF m 76 #[.val (.int p1)] [(.int (8 : Int32)), (.int p1)])) _
                      refine XS.icmpYes X0.here hx rfl (pc0 := 76) (pc' := 83) rfl (hb hby d1_76) rfl (feq hc76_26).2 (by decide) (by decide) ?_
                      show Steps p.tables e below (s₁.setTop (mkF m 83 #[.val (.int p1)] [])) _
                      refine st28 _ ?_
                      show Steps p.tables e below (T28.setTop (mkF m 86 #[.val (.int p1)] [(.ref w_BS)])) _
                      exact retOut X28 hx Bd.returns rfl (Or.inr (Or.inr (Or.inr (Or.inr ⟨rfl, rfl, rfl⟩)))) (hb hby d1_86) hr
                    · show Q1 Z p1 w_S w_N w_B w_BOOL w_NULL w_M w_L w_SS w_NS w_BS h0 n0 _ T28.heap _
                      rw [e28]
                      exact ⟨by rw [res1, if_neg hc1_2, if_neg hc10_5, if_neg hc19_8, if_neg hc28_11, if_neg hc37_14, if_neg hc46_17, if_neg hc56_20, if_neg hc66_23, if_neg hc76_26], rfl, rfl⟩
theorem d2_0 : decode prog_109_method_5_code 0 = .ok (.aload_n 0, 1) := by decide +kernel
theorem d2_1 : decode prog_109_method_5_code 1 = .ok (.getstatic 25, 3) := by decide +kernel
theorem d2_4 : decode prog_109_method_5_code 4 = .ok (.if_acmp .eq 17, 3) := by decide +kernel
theorem d2_7 : decode prog_109_method_5_code 7 = .ok (.aload_n 0, 1) := by decide +kernel
theorem d2_8 : decode prog_109_method_5_code 8 = .ok (.getstatic 28, 3) := by decide +kernel
theorem d2_11 : decode prog_109_method_5_code 11 = .ok (.if_acmp .eq 10, 3) := by decide +kernel
theorem d2_14 : decode prog_109_method_5_code 14 = .ok (.aload_n 0, 1) := by decide +kernel
theorem d2_15 : decode prog_109_method_5_code 15 = .ok (.getstatic 31, 3) := by decide +kernel
theorem d2_18 : decode prog_109_method_5_code 18 = .ok (.if_acmp .ne 7, 3) := by decide +kernel
theorem d2_21 : decode prog_109_method_5_code 21 = .ok (.iconst 1, 1) := by decide +kernel
theorem d2_22 : decode prog_109_method_5_code 22 = .ok (.goto 4, 3) := by decide +kernel
theorem d2_25 : decode prog_109_method_5_code 25 = .ok (.iconst 0, 1) := by decide +kernel
theorem d2_26 : decode prog_109_method_5_code 26 = .ok (.ireturn, 1) := by decide +kernel
def res2 (a1 : Addr) (w_SS : Addr) (w_NS : Addr) (w_BS : Addr) : Int32 := if a1 = w_SS then (1 : Int32) else if a1 = w_NS then (1 : Int32) else if a1 = w_BS then (1 : Int32) else (0 : Int32)
theorem pn2 : plainName "com/example/elliott_bay/elliottbay/value/AttributeType" = true := by first | (simp [plainName, overriddenIn]; done) | decide +kernel
theorem ef2 (m : MethodId) (a1 : Addr) : entryFrame m #[(.ref a1)] 1 = (mkF m 0 #[.val (.ref a1)] []) := by first | (simp [entryFrame, mkF, argsToLocals, Value.category]; done) | rfl
def Q2 (Z : State) (a1 : Addr) (w_SS : Addr) (w_NS : Addr) (w_BS : Addr) (h0 : Heap) (n0 : Nat) (v : Option Value) (h : Heap) (L : List Loc) : Prop := v = some (.int (res2 a1 w_SS w_NS w_BS)) ∧ L = [] ∧ h = h0
set_option maxRecDepth 65536 in
set_option maxHeartbeats 40000000 in
theorem rm2 (l : Launch) (Z : State) (a0 : Array Value) (hw : ∀ d ∈ tables_1, d.before a0 Z = true) (ws : List Jvm.Cond) (a1 : Addr) (w_SS : Addr) (w_NS : Addr) (w_BS : Addr) (h0 : Heap) (n0 : Nat) (Z0 : n0 ≤ h0.size) (S_SS : Sta Z h0 "com/example/elliott_bay/elliottbay/value/AttributeType" "SS" "Lcom/example/elliott_bay/elliottbay/value/AttributeType;" (.ref w_SS)) (S_NS : Sta Z h0 "com/example/elliott_bay/elliottbay/value/AttributeType" "NS" "Lcom/example/elliott_bay/elliottbay/value/AttributeType;" (.ref w_NS)) (S_BS : Sta Z h0 "com/example/elliott_bay/elliottbay/value/AttributeType" "BS" "Lcom/example/elliott_bay/elliottbay/value/AttributeType;" (.ref w_BS)) :
    MetFree l (⟨"com/example/elliott_bay/elliottbay/value/AttributeType", "isSet", "()Z"⟩ : MethodName) (head1 (Jvm.Cond.code (⟨"com/example/elliott_bay/elliottbay/value/AttributeType", "isSet", "()Z"⟩ : MethodName) prog_109_method_5_code 1 (some .boolean) :: ws) ({ frames := 0, cells := 0, slots := 0, locals := 0 } : Room)) (fun a U => a = #[(.ref a1)] ∧ Z.Warmed39 U.vm ∧ U.heap = h0) (fun _ _ _ _ _ => True) (fun _ U o U' => ∃ v L, o = .returned v ∧ Q2 Z a1 w_SS w_NS w_BS h0 n0 v U'.heap L ∧ FrameEnd U o U' L ({ frames := 0, cells := 0, slots := 0, locals := 0 } : Room).cells ({ frames := 0, cells := 0, slots := 0, locals := 0 } : Room).slots) := by
  refine MetFree.of_bodySF (plainFor_of_name pn2) hisR ?_
  intro p e s m args below meth c s₁ Bd hml0 hP hK
  obtain ⟨rfl, hZ, hh⟩ := hP
  have hx := Bd.exec
  have hby := Bd.bytes
  have hml : c.maxLocals = 1 := hml0
  have hown : s.vm.findClass "com/example/elliott_bay/elliottbay/value/AttributeType" = some m.cls := findClass_of_methodNamed Bd.named
  have hnm := (name_of_methodNamed Bd.named Bd.method).1
  have X0 : Stand p l e ({ frames := 0, cells := 0, slots := 0, locals := 0 } : Room) s m #[(.ref a1)] below meth c s₁ [] 0 0 := Stand.of_body Bd
  have e0 : s₁.heap = h0 := by rw [← hh, Bd.state]; rfl
  have N0 := Fr.nil n0
  have pre0 : ∀ t, Steps p.tables e below (s₁.setTop (mkF m 0 #[.val (.ref a1)] [])) t → Steps p.tables e below (s₁.setTop (entryFrame m #[(.ref a1)] 1)) t := fun t k => castTop (ef2 m a1) k
  obtain ⟨T1, X1, e1, st1⟩ := getS2 X0 hx hZ hown (host := "") (Or.inl (hw _ (List.mem_of_getElem? (i := 13) rfl))) Via.refl e0 S_SS (g := (mkF m 1 #[.val (.ref a1)] [(.ref a1)])) rfl (hb hby d2_1)
  have pre2 : ∀ t, Steps p.tables e below (T1.setTop (mkF m 4 #[.val (.ref a1)] [(.ref w_SS), (.ref a1)])) t → Steps p.tables e below (s₁.setTop (entryFrame m #[(.ref a1)] 1)) t := by
    intro t kt
    refine pre0 _ ?_
    show Steps p.tables e below (s₁.setTop (mkF m 0 #[.val (.ref a1)] [])) _
    refine XS.aloadN X0.here hx rfl (hb hby d2_0) rfl rfl ?_
    show Steps p.tables e below (s₁.setTop (mkF m 1 #[.val (.ref a1)] [(.ref a1)])) _
    refine st1 _ ?_
    exact kt
  by_cases hc4_3 : a1 = w_SS
  · obtain ⟨fs, hr, hrun, hended, hW, hsame⟩ := X1.leave (v := some (.int (1 : Int32))) (fun h => by rw [Bd.returns] at h; cases h)
    refine ⟨_, _, pre2 _ ?_, hrun, hended, _, _, rfl, ?_, ⟨_, rfl⟩, hW, hsame.mono (by decide) (by decide)⟩
    · show Steps p.tables e below (T1.setTop (mkF m 4 #[.val (.ref a1)] [(.ref w_SS), (.ref a1)])) _
      refine Jvm.RoadKit.acmp (g := (mkF m 4 #[.val (.ref a1)] [(.ref w_SS), (.ref a1)])) X1 hx rfl rfl rfl (pc0 := 4) (pc' := 21) (same := true) rfl (hb hby d2_4) rfl (decide_eq_true (congrArg Value.ref hc4_3)) (by decide) (by decide) ?_
      show Steps p.tables e below (T1.setTop (mkF m 21 #[.val (.ref a1)] [])) _
      refine XS.iconst X1.here hx rfl (hb hby d2_21) ?_
      show Steps p.tables e below (T1.setTop (mkF m 22 #[.val (.ref a1)] [(.int (1 : Int32))])) _
      refine XS.goto X1.here hx rfl (pc0 := 22) (pc' := 26) rfl (hb hby d2_22) (by decide) (by decide) ?_
      show Steps p.tables e below (T1.setTop (mkF m 26 #[.val (.ref a1)] [(.int (1 : Int32))])) _
      exact retN X1 hx (t := .boolean) Bd.returns (by simp) (hb hby d2_26) hr
    · show Q2 Z a1 w_SS w_NS w_BS h0 n0 _ T1.heap _
      rw [e1]
      exact ⟨by rw [res2, if_pos hc4_3], rfl, rfl⟩
  · obtain ⟨T4, X4, e4, st4⟩ := getS2 X1 hx hZ hown (host := "") (Or.inl (hw _ (List.mem_of_getElem? (i := 15) rfl))) Via.refl e1 S_NS (g := (mkF m 8 #[.val (.ref a1)] [(.ref a1)])) rfl (hb hby d2_8)
    have pre5 : ∀ t, Steps p.tables e below (T4.setTop (mkF m 11 #[.val (.ref a1)] [(.ref w_NS), (.ref a1)])) t → Steps p.tables e below (s₁.setTop (entryFrame m #[(.ref a1)] 1)) t := by
      intro t kt
      refine pre2 _ ?_
      show Steps p.tables e below (T1.setTop (mkF m 4 #[.val (.ref a1)] [(.ref w_SS), (.ref a1)])) _
      refine Jvm.RoadKit.acmp (g := (mkF m 4 #[.val (.ref a1)] [(.ref w_SS), (.ref a1)])) X1 hx rfl rfl rfl (pc0 := 4) (pc' := 7) (same := false) rfl (hb hby d2_4) rfl (decide_eq_false fun q => hc4_3 (Value.ref.inj q)) (by decide) (by decide) ?_
      show Steps p.tables e below (T1.setTop (mkF m 7 #[.val (.ref a1)] [])) _
      refine XS.aloadN X1.here hx rfl (hb hby d2_7) rfl rfl ?_
      show Steps p.tables e below (T1.setTop (mkF m 8 #[.val (.ref a1)] [(.ref a1)])) _
      refine st4 _ ?_
      exact kt
    by_cases hc11_6 : a1 = w_NS
    · obtain ⟨fs, hr, hrun, hended, hW, hsame⟩ := X4.leave (v := some (.int (1 : Int32))) (fun h => by rw [Bd.returns] at h; cases h)
      refine ⟨_, _, pre5 _ ?_, hrun, hended, _, _, rfl, ?_, ⟨_, rfl⟩, hW, hsame.mono (by decide) (by decide)⟩
      · show Steps p.tables e below (T4.setTop (mkF m 11 #[.val (.ref a1)] [(.ref w_NS), (.ref a1)])) _
        refine Jvm.RoadKit.acmp (g := (mkF m 11 #[.val (.ref a1)] [(.ref w_NS), (.ref a1)])) X4 hx rfl rfl rfl (pc0 := 11) (pc' := 21) (same := true) rfl (hb hby d2_11) rfl (decide_eq_true (congrArg Value.ref hc11_6)) (by decide) (by decide) ?_
        show Steps p.tables e below (T4.setTop (mkF m 21 #[.val (.ref a1)] [])) _
        refine XS.iconst X4.here hx rfl (hb hby d2_21) ?_
        show Steps p.tables e below (T4.setTop (mkF m 22 #[.val (.ref a1)] [(.int (1 : Int32))])) _
        refine XS.goto X4.here hx rfl (pc0 := 22) (pc' := 26) rfl (hb hby d2_22) (by decide) (by decide) ?_
        show Steps p.tables e below (T4.setTop (mkF m 26 #[.val (.ref a1)] [(.int (1 : Int32))])) _
        exact retN X4 hx (t := .boolean) Bd.returns (by simp) (hb hby d2_26) hr
      · show Q2 Z a1 w_SS w_NS w_BS h0 n0 _ T4.heap _
        rw [e4]
        exact ⟨by rw [res2, if_neg hc4_3, if_pos hc11_6], rfl, rfl⟩
    · obtain ⟨T7, X7, e7, st7⟩ := getS2 X4 hx hZ hown (host := "") (Or.inl (hw _ (List.mem_of_getElem? (i := 17) rfl))) Via.refl e4 S_BS (g := (mkF m 15 #[.val (.ref a1)] [(.ref a1)])) rfl (hb hby d2_15)
      have pre8 : ∀ t, Steps p.tables e below (T7.setTop (mkF m 18 #[.val (.ref a1)] [(.ref w_BS), (.ref a1)])) t → Steps p.tables e below (s₁.setTop (entryFrame m #[(.ref a1)] 1)) t := by
        intro t kt
        refine pre5 _ ?_
        show Steps p.tables e below (T4.setTop (mkF m 11 #[.val (.ref a1)] [(.ref w_NS), (.ref a1)])) _
        refine Jvm.RoadKit.acmp (g := (mkF m 11 #[.val (.ref a1)] [(.ref w_NS), (.ref a1)])) X4 hx rfl rfl rfl (pc0 := 11) (pc' := 14) (same := false) rfl (hb hby d2_11) rfl (decide_eq_false fun q => hc11_6 (Value.ref.inj q)) (by decide) (by decide) ?_
        show Steps p.tables e below (T4.setTop (mkF m 14 #[.val (.ref a1)] [])) _
        refine XS.aloadN X4.here hx rfl (hb hby d2_14) rfl rfl ?_
        show Steps p.tables e below (T4.setTop (mkF m 15 #[.val (.ref a1)] [(.ref a1)])) _
        refine st7 _ ?_
        exact kt
      by_cases hc18_9 : a1 = w_BS
      · obtain ⟨fs, hr, hrun, hended, hW, hsame⟩ := X7.leave (v := some (.int (1 : Int32))) (fun h => by rw [Bd.returns] at h; cases h)
        refine ⟨_, _, pre8 _ ?_, hrun, hended, _, _, rfl, ?_, ⟨_, rfl⟩, hW, hsame.mono (by decide) (by decide)⟩
        · show Steps p.tables e below (T7.setTop (mkF m 18 #[.val (.ref a1)] [(.ref w_BS), (.ref a1)])) _
          refine Jvm.RoadKit.acmp (g := (mkF m 18 #[.val (.ref a1)] [(.ref w_BS), (.ref a1)])) X7 hx rfl rfl rfl (pc0 := 18) (pc' := 21) (same := true) rfl (hb hby d2_18) rfl (decide_eq_true (congrArg Value.ref hc18_9)) (by decide) (by decide) ?_
          show Steps p.tables e below (T7.setTop (mkF m 21 #[.val (.ref a1)] [])) _
          refine XS.iconst X7.here hx rfl (hb hby d2_21) ?_
          show Steps p.tables e below (T7.setTop (mkF m 22 #[.val (.ref a1)] [(.int (1 : Int32))])) _
          refine XS.goto X7.here hx rfl (pc0 := 22) (pc' := 26) rfl (hb hby d2_22) (by decide) (by decide) ?_
          show Steps p.tables e below (T7.setTop (mkF m 26 #[.val (.ref a1)] [(.int (1 : Int32))])) _
          exact retN X7 hx (t := .boolean) Bd.returns (by simp) (hb hby d2_26) hr
        · show Q2 Z a1 w_SS w_NS w_BS h0 n0 _ T7.heap _
          rw [e7]
          exact ⟨by rw [res2, if_neg hc4_3, if_neg hc11_6, if_pos hc18_9], rfl, rfl⟩
      · obtain ⟨fs, hr, hrun, hended, hW, hsame⟩ := X7.leave (v := some (.int (0 : Int32))) (fun h => by rw [Bd.returns] at h; cases h)
        refine ⟨_, _, pre8 _ ?_, hrun, hended, _, _, rfl, ?_, ⟨_, rfl⟩, hW, hsame.mono (by decide) (by decide)⟩
        · show Steps p.tables e below (T7.setTop (mkF m 18 #[.val (.ref a1)] [(.ref w_BS), (.ref a1)])) _
          refine Jvm.RoadKit.acmp (g := (mkF m 18 #[.val (.ref a1)] [(.ref w_BS), (.ref a1)])) X7 hx rfl rfl rfl (pc0 := 18) (pc' := 25) (same := false) rfl (hb hby d2_18) rfl (decide_eq_false fun q => hc18_9 (Value.ref.inj q)) (by decide) (by decide) ?_
          show Steps p.tables e below (T7.setTop (mkF m 25 #[.val (.ref a1)] [])) _
          refine XS.iconst X7.here hx rfl (hb hby d2_25) ?_
          show Steps p.tables e below (T7.setTop (mkF m 26 #[.val (.ref a1)] [(.int (0 : Int32))])) _
          exact retN X7 hx (t := .boolean) Bd.returns (by simp) (hb hby d2_26) hr
        · show Q2 Z a1 w_SS w_NS w_BS h0 n0 _ T7.heap _
          rw [e7]
          exact ⟨by rw [res2, if_neg hc4_3, if_neg hc11_6, if_neg hc18_9], rfl, rfl⟩
theorem d3_0 : decode prog_109_method_6_code 0 = .ok (.aload_n 0, 1) := by decide +kernel
theorem d3_1 : decode prog_109_method_6_code 1 = .ok (.invokevirtual 53, 3) := by decide +kernel
theorem d3_4 : decode prog_109_method_6_code 4 = .ok (.tableswitch 46 7 9 #[28, 34, 40], 28) := by decide +kernel
theorem d3_32 : decode prog_109_method_6_code 32 = .ok (.getstatic 3, 3) := by decide +kernel
theorem d3_35 : decode prog_109_method_6_code 35 = .ok (.goto 32, 3) := by decide +kernel
theorem d3_38 : decode prog_109_method_6_code 38 = .ok (.getstatic 7, 3) := by decide +kernel
theorem d3_41 : decode prog_109_method_6_code 41 = .ok (.goto 26, 3) := by decide +kernel
theorem d3_44 : decode prog_109_method_6_code 44 = .ok (.getstatic 10, 3) := by decide +kernel
theorem d3_47 : decode prog_109_method_6_code 47 = .ok (.goto 20, 3) := by decide +kernel
theorem d3_67 : decode prog_109_method_6_code 67 = .ok (.areturn, 1) := by decide +kernel
def res3 (w_ordinal_a1 : Int32) (w_S : Addr) (w_N : Addr) (w_B : Addr) : Addr := if w_ordinal_a1 = (7 : Int32) then w_S else if w_ordinal_a1 = (8 : Int32) then w_N else w_B
theorem pd0 : parseMethodDescriptor "()I" = some ⟨[], some .int⟩ := by decide +kernel
theorem ef3 (m : MethodId) (a1 : Addr) : entryFrame m #[(.ref a1)] 1 = (mkF m 0 #[.val (.ref a1)] []) := by first | (simp [entryFrame, mkF, argsToLocals, Value.category]; done) | rfl
def Q3 (Z : State) (a1 : Addr) (w_ordinal_a1 : Int32) (w_S : Addr) (w_N : Addr) (w_B : Addr) (h0 : Heap) (n0 : Nat) (v : Option Value) (h : Heap) (L : List Loc) : Prop := v = some (.ref (res3 w_ordinal_a1 w_S w_N w_B)) ∧ L = [] ∧ h = h0
set_option maxRecDepth 65536 in
set_option maxHeartbeats 40000000 in
theorem rm3 (l : Launch) (Z : State) (a0 : Array Value) (hw : ∀ d ∈ tables_1, d.before a0 Z = true) (ws : List Jvm.Cond) (a1 : Addr) (w_ordinal_a1 : Int32) (w_S : Addr) (w_N : Addr) (w_B : Addr) (h0 : Heap) (n0 : Nat) (Z0 : n0 ≤ h0.size) (F_ordinal_a1 : Fld Z h0 a1 "java/lang/Enum" "ordinal" "I" (.int w_ordinal_a1)) (E_a1 : Exa Z h0 a1 "com/example/elliott_bay/elliottbay/value/AttributeType") (S_S : Sta Z h0 "com/example/elliott_bay/elliottbay/value/AttributeType" "S" "Lcom/example/elliott_bay/elliottbay/value/AttributeType;" (.ref w_S)) (S_N : Sta Z h0 "com/example/elliott_bay/elliottbay/value/AttributeType" "N" "Lcom/example/elliott_bay/elliottbay/value/AttributeType;" (.ref w_N)) (S_B : Sta Z h0 "com/example/elliott_bay/elliottbay/value/AttributeType" "B" "Lcom/example/elliott_bay/elliottbay/value/AttributeType;" (.ref w_B)) (hdef : w_ordinal_a1 = (7 : Int32) ∨ w_ordinal_a1 = (8 : Int32) ∨ w_ordinal_a1 = (9 : Int32)) :
    MetFree l (⟨"com/example/elliott_bay/elliottbay/value/AttributeType", "memberType", "()Lcom/example/elliott_bay/elliottbay/value/AttributeType;"⟩ : MethodName) (head1 (Jvm.Cond.code (⟨"com/example/elliott_bay/elliottbay/value/AttributeType", "memberType", "()Lcom/example/elliott_bay/elliottbay/value/AttributeType;"⟩ : MethodName) prog_109_method_6_code 1 (some (.object "com/example/elliott_bay/elliottbay/value/AttributeType")) :: ws) ({ frames := 1, cells := 0, slots := 0, locals := 12 } : Room)) (fun a U => a = #[(.ref a1)] ∧ Z.Warmed39 U.vm ∧ U.heap = h0) (fun _ _ _ _ _ => True) (fun _ U o U' => ∃ v L, o = .returned v ∧ Q3 Z a1 w_ordinal_a1 w_S w_N w_B h0 n0 v U'.heap L ∧ FrameEnd U o U' L ({ frames := 1, cells := 0, slots := 0, locals := 12 } : Room).cells ({ frames := 1, cells := 0, slots := 0, locals := 12 } : Room).slots) := by
  refine MetFree.of_bodySF (plainFor_of_name pn2) hisR ?_
  intro p e s m args below meth c s₁ Bd hml0 hP hK
  obtain ⟨rfl, hZ, hh⟩ := hP
  have hx := Bd.exec
  have hby := Bd.bytes
  have hml : c.maxLocals = 1 := hml0
  have hown : s.vm.findClass "com/example/elliott_bay/elliottbay/value/AttributeType" = some m.cls := findClass_of_methodNamed Bd.named
  have hnm := (name_of_methodNamed Bd.named Bd.method).1
  have X0 : Stand p l e ({ frames := 1, cells := 0, slots := 0, locals := 12 } : Room) s m #[(.ref a1)] below meth c s₁ [] 0 0 := Stand.of_body Bd
  have e0 : s₁.heap = h0 := by rw [← hh, Bd.state]; rfl
  have N0 := Fr.nil n0
  have pre0 : ∀ t, Steps p.tables e below (s₁.setTop (mkF m 0 #[.val (.ref a1)] [])) t → Steps p.tables e below (s₁.setTop (entryFrame m #[(.ref a1)] 1)) t := fun t k => castTop (ef3 m a1) k
  obtain ⟨cq1, kq1, q1a, q1b, q1c⟩ := isOf hZ e0 E_a1
  obtain ⟨_, _, ⟨T1, L1, k1, n1⟩, -, X1, ⟨Lc1, hQ1, l1, y1, z1⟩, st1⟩ := X0.virtualBackUp hx (x := (⟨"com/example/elliott_bay/elliottbay/value/AttributeType", "ordinal", "()I"⟩ : MethodName)) (y := (⟨"java/lang/Enum", "ordinal", "()I"⟩ : MethodName)) hown (mvT hZ (hw _ (List.mem_of_getElem? (i := 31) rfl))) (mvT hZ (hw _ (List.mem_of_getElem? (i := 32) rfl))) (mvT hZ (hw _ (List.mem_of_getElem? (i := 33) rfl))) (by decide) (mvT hZ (hw _ (List.mem_of_getElem? (i := 35) rfl))) (mvT hZ (hw _ (List.mem_of_getElem? (i := 34) rfl))) (backOf (W := 0) (rm4 l Z a0 hw [] a1 w_ordinal_a1 h0 n0 (Nat.le_trans Z0 (Keep.refl h0 []).1) F_ordinal_a1 ) hZ (hw _ (List.mem_of_getElem? (i := 37) rfl)) (hw _ (List.mem_of_getElem? (i := 36) rfl)) (by decide) (by decide)) q1a q1c (g := (mkF m 1 #[.val (.ref a1)] [(.ref a1)])) rfl (by rw [hml]; rfl) (Steps.refl _) (argsL := []) (rest := []) (lenOf pd0 rfl) rfl (by show 2 * 0 + _ ≤ _; exact Nat.le_of_eq rfl) (hb hby d3_1) (fun _ _ => ⟨rfl, e0, (by decide : 0 + 0 ≤ _), (by decide : 0 + 0 ≤ _)⟩)
  dsimp only [Pt.U, Pt.locs, Pt.cells, Pt.slots] at X1 l1 y1 z1 st1 hQ1
  subst l1 y1 z1
  obtain ⟨rfl, rfl, e1⟩ := hQ1
  have N1 := Fr.app N0 (Fr.nil n0)
  have pre2 : ∀ t, Steps p.tables e below (T1.setTop (mkF m 4 #[.val (.ref a1)] [(.int w_ordinal_a1)])) t → Steps p.tables e below (s₁.setTop (entryFrame m #[(.ref a1)] 1)) t := by
    intro t kt
    refine pre0 _ ?_
    show Steps p.tables e below (s₁.setTop (mkF m 0 #[.val (.ref a1)] [])) _
    refine XS.aloadN X0.here hx rfl (hb hby d3_0) rfl rfl ?_
    show Steps p.tables e below (s₁.setTop (mkF m 1 #[.val (.ref a1)] [(.ref a1)])) _
    refine st1.trans ?_
    exact kt
  by_cases hs4_3 : w_ordinal_a1 = (7 : Int32)
  · obtain ⟨T4, X4, e4, st4⟩ := getS2 X1 hx hZ hown (host := "") (Or.inl (hw _ (List.mem_of_getElem? (i := 40) rfl))) Via.refl e1 S_S (g := (mkF m 32 #[.val (.ref a1)] [])) rfl (hb hby d3_32)
    obtain ⟨fs, hr, hrun, hended, hW, hsame⟩ := X4.leave (v := some (.ref w_S)) (fun h => by rw [Bd.returns] at h; cases h)
    refine ⟨_, _, pre2 _ ?_, hrun, hended, _, _, rfl, ?_, ⟨_, rfl⟩, hW, hsame.mono (by decide) (by decide)⟩
    · show Steps p.tables e below (T1.setTop (mkF m 4 #[.val (.ref a1)] [(.int w_ordinal_a1)])) _
      refine XS.tswIn X1.here hx rfl (pc0 := 4) (pc' := 32) (o := 28) rfl (hb hby d3_4) rfl (by rw [hs4_3]; decide) (by rw [hs4_3]; rfl) (by decide) (by decide) ?_
      show Steps p.tables e below (T1.setTop (mkF m 32 #[.val (.ref a1)] [])) _
      refine st4 _ ?_
      show Steps p.tables e below (T4.setTop (mkF m 35 #[.val (.ref a1)] [(.ref w_S)])) _
      refine XS.goto X4.here hx rfl (pc0 := 35) (pc' := 67) rfl (hb hby d3_35) (by decide) (by decide) ?_
      show Steps p.tables e below (T4.setTop (mkF m 67 #[.val (.ref a1)] [(.ref w_S)])) _
      exact retOut X4 hx Bd.returns rfl (Or.inr (Or.inr (Or.inr (Or.inr ⟨rfl, rfl, rfl⟩)))) (hb hby d3_67) hr
    · show Q3 Z a1 w_ordinal_a1 w_S w_N w_B h0 n0 _ T4.heap _
      rw [e4]
      exact ⟨by rw [res3, if_pos hs4_3], rfl, rfl⟩
  · by_cases hs4_5 : w_ordinal_a1 = (8 : Int32)
    · obtain ⟨T6, X6, e6, st6⟩ := getS2 X1 hx hZ hown (host := "") (Or.inl (hw _ (List.mem_of_getElem? (i := 44) rfl))) Via.refl e1 S_N (g := (mkF m 38 #[.val (.ref a1)] [])) rfl (hb hby d3_38)
      obtain ⟨fs, hr, hrun, hended, hW, hsame⟩ := X6.leave (v := some (.ref w_N)) (fun h => by rw [Bd.returns] at h; cases h)
      refine ⟨_, _, pre2 _ ?_, hrun, hended, _, _, rfl, ?_, ⟨_, rfl⟩, hW, hsame.mono (by decide) (by decide)⟩
      · show Steps p.tables e below (T1.setTop (mkF m 4 #[.val (.ref a1)] [(.int w_ordinal_a1)])) _
        refine XS.tswIn X1.here hx rfl (pc0 := 4) (pc' := 38) (o := 34) rfl (hb hby d3_4) rfl (by rw [hs4_5]; decide) (by rw [hs4_5]; rfl) (by decide) (by decide) ?_
        show Steps p.tables e below (T1.setTop (mkF m 38 #[.val (.ref a1)] [])) _
        refine st6 _ ?_
        show Steps p.tables e below (T6.setTop (mkF m 41 #[.val (.ref a1)] [(.ref w_N)])) _
        refine XS.goto X6.here hx rfl (pc0 := 41) (pc' := 67) rfl (hb hby d3_41) (by decide) (by decide) ?_
        show Steps p.tables e below (T6.setTop (mkF m 67 #[.val (.ref a1)] [(.ref w_N)])) _
        exact retOut X6 hx Bd.returns rfl (Or.inr (Or.inr (Or.inr (Or.inr ⟨rfl, rfl, rfl⟩)))) (hb hby d3_67) hr
      · show Q3 Z a1 w_ordinal_a1 w_S w_N w_B h0 n0 _ T6.heap _
        rw [e6]
        exact ⟨by rw [res3, if_neg hs4_3, if_pos hs4_5], rfl, rfl⟩
    · by_cases hs4_7 : w_ordinal_a1 = (9 : Int32)
      · obtain ⟨T8, X8, e8, st8⟩ := getS2 X1 hx hZ hown (host := "") (Or.inl (hw _ (List.mem_of_getElem? (i := 46) rfl))) Via.refl e1 S_B (g := (mkF m 44 #[.val (.ref a1)] [])) rfl (hb hby d3_44)
        obtain ⟨fs, hr, hrun, hended, hW, hsame⟩ := X8.leave (v := some (.ref w_B)) (fun h => by rw [Bd.returns] at h; cases h)
        refine ⟨_, _, pre2 _ ?_, hrun, hended, _, _, rfl, ?_, ⟨_, rfl⟩, hW, hsame.mono (by decide) (by decide)⟩
        · show Steps p.tables e below (T1.setTop (mkF m 4 #[.val (.ref a1)] [(.int w_ordinal_a1)])) _
          refine XS.tswIn X1.here hx rfl (pc0 := 4) (pc' := 44) (o := 40) rfl (hb hby d3_4) rfl (by rw [hs4_7]; decide) (by rw [hs4_7]; rfl) (by decide) (by decide) ?_
          show Steps p.tables e below (T1.setTop (mkF m 44 #[.val (.ref a1)] [])) _
          refine st8 _ ?_
          show Steps p.tables e below (T8.setTop (mkF m 47 #[.val (.ref a1)] [(.ref w_B)])) _
          refine XS.goto X8.here hx rfl (pc0 := 47) (pc' := 67) rfl (hb hby d3_47) (by decide) (by decide) ?_
          show Steps p.tables e below (T8.setTop (mkF m 67 #[.val (.ref a1)] [(.ref w_B)])) _
          exact retOut X8 hx Bd.returns rfl (Or.inr (Or.inr (Or.inr (Or.inr ⟨rfl, rfl, rfl⟩)))) (hb hby d3_67) hr
        · show Q3 Z a1 w_ordinal_a1 w_S w_N w_B h0 n0 _ T8.heap _
          rw [e8]
          exact ⟨by rw [res3, if_neg hs4_3, if_neg hs4_5], rfl, rfl⟩
      · exfalso
        rcases hdef with h | h | h <;> simp_all
def Dis (w_S w_N w_B w_BOOL w_NULL w_M w_L w_SS w_NS w_BS : Addr) : Prop := w_S ≠ w_SS ∧ w_S ≠ w_NS ∧ w_S ≠ w_BS ∧ w_N ≠ w_SS ∧ w_N ≠ w_NS ∧ w_N ≠ w_BS ∧ w_B ≠ w_SS ∧ w_B ≠ w_NS ∧ w_B ≠ w_BS ∧ w_BOOL ≠ w_SS ∧ w_BOOL ≠ w_NS ∧ w_BOOL ≠ w_BS ∧ w_NULL ≠ w_SS ∧ w_NULL ≠ w_NS ∧ w_NULL ≠ w_BS ∧ w_M ≠ w_SS ∧ w_M ≠ w_NS ∧ w_M ≠ w_BS ∧ w_L ≠ w_SS ∧ w_L ≠ w_NS ∧ w_L ≠ w_BS
theorem own_range_10 {i : Int32} (h0 : 0 ≤ i.toInt) (h1 : i.toInt < 10) : i = (0 : Int32) ∨ i = (1 : Int32) ∨ i = (2 : Int32) ∨ i = (3 : Int32) ∨ i = (4 : Int32) ∨ i = (5 : Int32) ∨ i = (6 : Int32) ∨ i = (7 : Int32) ∨ i = (8 : Int32) ∨ i = (9 : Int32) := by
  have h : i.toInt = 0 ∨ i.toInt = 1 ∨ i.toInt = 2 ∨ i.toInt = 3 ∨ i.toInt = 4 ∨ i.toInt = 5 ∨ i.toInt = 6 ∨ i.toInt = 7 ∨ i.toInt = 8 ∨ i.toInt = 9 := by omega
  rcases h with h | h | h | h | h | h | h | h | h | h
  · exact Or.inl (Int32.toInt_inj.mp (h.trans (by decide)))
  · exact Or.inr (Or.inl (Int32.toInt_inj.mp (h.trans (by decide))))
  · exact Or.inr (Or.inr (Or.inl (Int32.toInt_inj.mp (h.trans (by decide)))))
  · exact Or.inr (Or.inr (Or.inr (Or.inl (Int32.toInt_inj.mp (h.trans (by decide))))))
  · exact Or.inr (Or.inr (Or.inr (Or.inr (Or.inl (Int32.toInt_inj.mp (h.trans (by decide)))))))
  · exact Or.inr (Or.inr (Or.inr (Or.inr (Or.inr (Or.inl (Int32.toInt_inj.mp (h.trans (by decide))))))))
  · exact Or.inr (Or.inr (Or.inr (Or.inr (Or.inr (Or.inr (Or.inl (Int32.toInt_inj.mp (h.trans (by decide)))))))))
  · exact Or.inr (Or.inr (Or.inr (Or.inr (Or.inr (Or.inr (Or.inr (Or.inl (Int32.toInt_inj.mp (h.trans (by decide))))))))))
  · exact Or.inr (Or.inr (Or.inr (Or.inr (Or.inr (Or.inr (Or.inr (Or.inr (Or.inl (Int32.toInt_inj.mp (h.trans (by decide)))))))))))
  · exact Or.inr (Or.inr (Or.inr (Or.inr (Or.inr (Or.inr (Or.inr (Or.inr (Or.inr ((Int32.toInt_inj.mp (h.trans (by decide))))))))))))
theorem own_rng (p1 : Int32) : 0 ≤ (((p1 &&& (2147483647 : Int32)) % (10 : Int32))).toInt ∧ (((p1 &&& (2147483647 : Int32)) % (10 : Int32))).toInt < 10 := by
  have e1 : (p1 &&& (2147483647 : Int32)).toInt = p1.toInt % (2 ^ 31 : Nat) := c_mask p1 _ 31 (by decide) (by decide)
  have e2 := (c_irem (p1 &&& (2147483647 : Int32)) 10 10 (by decide)).1 (by omega)
  omega
theorem own_exa {Z : State} {h : Heap} (i : Int32) (w_S w_N w_B w_BOOL w_NULL w_M w_L w_SS w_NS w_BS : Addr) (E_S : Exa Z h w_S "com/example/elliott_bay/elliottbay/value/AttributeType") (E_N : Exa Z h w_N "com/example/elliott_bay/elliottbay/value/AttributeType") (E_B : Exa Z h w_B "com/example/elliott_bay/elliottbay/value/AttributeType") (E_BOOL : Exa Z h w_BOOL "com/example/elliott_bay/elliottbay/value/AttributeType") (E_NULL : Exa Z h w_NULL "com/example/elliott_bay/elliottbay/value/AttributeType") (E_M : Exa Z h w_M "com/example/elliott_bay/elliottbay/value/AttributeType") (E_L : Exa Z h w_L "com/example/elliott_bay/elliottbay/value/AttributeType") (E_SS : Exa Z h w_SS "com/example/elliott_bay/elliottbay/value/AttributeType") (E_NS : Exa Z h w_NS "com/example/elliott_bay/elliottbay/value/AttributeType") (E_BS : Exa Z h w_BS "com/example/elliott_bay/elliottbay/value/AttributeType") : Exa Z h (res1 i w_S w_N w_B w_BOOL w_NULL w_M w_L w_SS w_NS w_BS) "com/example/elliott_bay/elliottbay/value/AttributeType" := by
  unfold res1
  repeat' split
  all_goals assumption
theorem own_ord {Z : State} {h : Heap} (i : Int32) (h0 : 0 ≤ i.toInt) (h1 : i.toInt < 10) (w_S w_N w_B w_BOOL w_NULL w_M w_L w_SS w_NS w_BS : Addr) (F_S : Fld Z h w_S "java/lang/Enum" "ordinal" "I" (.int (0 : Int32))) (F_N : Fld Z h w_N "java/lang/Enum" "ordinal" "I" (.int (1 : Int32))) (F_B : Fld Z h w_B "java/lang/Enum" "ordinal" "I" (.int (2 : Int32))) (F_BOOL : Fld Z h w_BOOL "java/lang/Enum" "ordinal" "I" (.int (3 : Int32))) (F_NULL : Fld Z h w_NULL "java/lang/Enum" "ordinal" "I" (.int (4 : Int32))) (F_M : Fld Z h w_M "java/lang/Enum" "ordinal" "I" (.int (5 : Int32))) (F_L : Fld Z h w_L "java/lang/Enum" "ordinal" "I" (.int (6 : Int32))) (F_SS : Fld Z h w_SS "java/lang/Enum" "ordinal" "I" (.int (7 : Int32))) (F_NS : Fld Z h w_NS "java/lang/Enum" "ordinal" "I" (.int (8 : Int32))) (F_BS : Fld Z h w_BS "java/lang/Enum" "ordinal" "I" (.int (9 : Int32))) : Fld Z h (res1 i w_S w_N w_B w_BOOL w_NULL w_M w_L w_SS w_NS w_BS) "java/lang/Enum" "ordinal" "I" (.int i) := by
  rcases own_range_10 h0 h1 with rfl | rfl | rfl | rfl | rfl | rfl | rfl | rfl | rfl | rfl <;> assumption
theorem own_def (i : Int32) (h0 : 0 ≤ i.toInt) (h1 : i.toInt < 10) (w_S w_N w_B w_BOOL w_NULL w_M w_L w_SS w_NS w_BS : Addr) (hD : Dis w_S w_N w_B w_BOOL w_NULL w_M w_L w_SS w_NS w_BS) (h : ¬ (res2 (res1 i w_S w_N w_B w_BOOL w_NULL w_M w_L w_SS w_NS w_BS) w_SS w_NS w_BS) = (0 : Int32)) : i = (7 : Int32) ∨ i = (8 : Int32) ∨ i = (9 : Int32) := by
  unfold Dis at hD
  rcases own_range_10 h0 h1 with rfl | rfl | rfl | rfl | rfl | rfl | rfl | rfl | rfl | rfl <;> first | decide | (exfalso; revert h; simp [res1, res2, hD]; done)
def mg0_16_s0 (p1 : Int32) : Int32 := if ((p1 &&& (2147483647 : Int32)) % (10 : Int32)) < (7 : Int32) then (0 : Int32) else (1 : Int32)
def res0 (p1 : Int32) (w_S : Addr) (w_N : Addr) (w_B : Addr) (w_BOOL : Addr) (w_NULL : Addr) (w_M : Addr) (w_L : Addr) (w_SS : Addr) (w_NS : Addr) (w_BS : Addr) : Int32 := if (res2 (res1 ((p1 &&& (2147483647 : Int32)) % (10 : Int32)) w_S w_N w_B w_BOOL w_NULL w_M w_L w_SS w_NS w_BS) w_SS w_NS w_BS) = (mg0_16_s0 p1) then (if (res2 (res1 ((p1 &&& (2147483647 : Int32)) % (10 : Int32)) w_S w_N w_B w_BOOL w_NULL w_M w_L w_SS w_NS w_BS) w_SS w_NS w_BS) = (0 : Int32) then (1 : Int32) else if (res3 ((p1 &&& (2147483647 : Int32)) % (10 : Int32)) w_S w_N w_B) = (res1 (((p1 &&& (2147483647 : Int32)) % (10 : Int32)) - (7 : Int32)) w_S w_N w_B w_BOOL w_NULL w_M w_L w_SS w_NS w_BS) then (1 : Int32) else (0 : Int32)) else (0 : Int32)
theorem pd1 : parseMethodDescriptor "(I)Lcom/example/elliott_bay/elliottbay/value/AttributeType;" = some ⟨[.int], some (.object "com/example/elliott_bay/elliottbay/value/AttributeType")⟩ := by decide +kernel
theorem pd2 : parseMethodDescriptor "()Z" = some ⟨[], some .boolean⟩ := by decide +kernel
theorem pd3 : parseMethodDescriptor "()Lcom/example/elliott_bay/elliottbay/value/AttributeType;" = some ⟨[], some (.object "com/example/elliott_bay/elliottbay/value/AttributeType")⟩ := by decide +kernel
theorem ef0 (m : MethodId) (p1 : Int32) : entryFrame m #[(.int p1)] maxLocals = (mkF m 0 #[.val (.int p1), .unset, .unset, .unset, .unset, .unset] []) := by first | (simp [entryFrame, mkF, argsToLocals, Value.category, maxLocals]; done) | rfl
def Q0 (Z : State) (p1 : Int32) (w_S : Addr) (w_N : Addr) (w_B : Addr) (w_BOOL : Addr) (w_NULL : Addr) (w_M : Addr) (w_L : Addr) (w_SS : Addr) (w_NS : Addr) (w_BS : Addr) (h0 : Heap) (n0 : Nat) (v : Option Value) (h : Heap) (L : List Loc) : Prop := v = some (.int (res0 p1 w_S w_N w_B w_BOOL w_NULL w_M w_L w_SS w_NS w_BS)) ∧ Fr n0 L
set_option maxRecDepth 65536 in
set_option maxHeartbeats 40000000 in
theorem rm0 (l : Launch) (Z : State) (a0 : Array Value) (hw : ∀ d ∈ tables_1, d.before a0 Z = true) (ws : List Jvm.Cond) (p1 : Int32) (w_S : Addr) (w_N : Addr) (w_B : Addr) (w_BOOL : Addr) (w_NULL : Addr) (w_M : Addr) (w_L : Addr) (w_SS : Addr) (w_NS : Addr) (w_BS : Addr) (h0 : Heap) (n0 : Nat) (Z0 : n0 ≤ h0.size) (S_S : Sta Z h0 "com/example/elliott_bay/elliottbay/value/AttributeType" "S" "Lcom/example/elliott_bay/elliottbay/value/AttributeType;" (.ref w_S)) (E_w_S : Exa Z h0 w_S "com/example/elliott_bay/elliottbay/value/AttributeType") (S_N : Sta Z h0 "com/example/elliott_bay/elliottbay/value/AttributeType" "N" "Lcom/example/elliott_bay/elliottbay/value/AttributeType;" (.ref w_N)) (E_w_N : Exa Z h0 w_N "com/example/elliott_bay/elliottbay/value/AttributeType") (S_B : Sta Z h0 "com/example/elliott_bay/elliottbay/value/AttributeType" "B" "Lcom/example/elliott_bay/elliottbay/value/AttributeType;" (.ref w_B)) (E_w_B : Exa Z h0 w_B "com/example/elliott_bay/elliottbay/value/AttributeType") (S_BOOL : Sta Z h0 "com/example/elliott_bay/elliottbay/value/AttributeType" "BOOL" "Lcom/example/elliott_bay/elliottbay/value/AttributeType;" (.ref w_BOOL)) (E_w_BOOL : Exa Z h0 w_BOOL "com/example/elliott_bay/elliottbay/value/AttributeType") (S_NULL : Sta Z h0 "com/example/elliott_bay/elliottbay/value/AttributeType" "NULL" "Lcom/example/elliott_bay/elliottbay/value/AttributeType;" (.ref w_NULL)) (E_w_NULL : Exa Z h0 w_NULL "com/example/elliott_bay/elliottbay/value/AttributeType") (S_M : Sta Z h0 "com/example/elliott_bay/elliottbay/value/AttributeType" "M" "Lcom/example/elliott_bay/elliottbay/value/AttributeType;" (.ref w_M)) (E_w_M : Exa Z h0 w_M "com/example/elliott_bay/elliottbay/value/AttributeType") (S_L : Sta Z h0 "com/example/elliott_bay/elliottbay/value/AttributeType" "L" "Lcom/example/elliott_bay/elliottbay/value/AttributeType;" (.ref w_L)) (E_w_L : Exa Z h0 w_L "com/example/elliott_bay/elliottbay/value/AttributeType") (S_SS : Sta Z h0 "com/example/elliott_bay/elliottbay/value/AttributeType" "SS" "Lcom/example/elliott_bay/elliottbay/value/AttributeType;" (.ref w_SS)) (E_w_SS : Exa Z h0 w_SS "com/example/elliott_bay/elliottbay/value/AttributeType") (S_NS : Sta Z h0 "com/example/elliott_bay/elliottbay/value/AttributeType" "NS" "Lcom/example/elliott_bay/elliottbay/value/AttributeType;" (.ref w_NS)) (E_w_NS : Exa Z h0 w_NS "com/example/elliott_bay/elliottbay/value/AttributeType") (S_BS : Sta Z h0 "com/example/elliott_bay/elliottbay/value/AttributeType" "BS" "Lcom/example/elliott_bay/elliottbay/value/AttributeType;" (.ref w_BS)) (E_w_BS : Exa Z h0 w_BS "com/example/elliott_bay/elliottbay/value/AttributeType") (F_ordinal_w_S : Fld Z h0 w_S "java/lang/Enum" "ordinal" "I" (.int (0 : Int32))) (F_ordinal_w_N : Fld Z h0 w_N "java/lang/Enum" "ordinal" "I" (.int (1 : Int32))) (F_ordinal_w_B : Fld Z h0 w_B "java/lang/Enum" "ordinal" "I" (.int (2 : Int32))) (F_ordinal_w_BOOL : Fld Z h0 w_BOOL "java/lang/Enum" "ordinal" "I" (.int (3 : Int32))) (F_ordinal_w_NULL : Fld Z h0 w_NULL "java/lang/Enum" "ordinal" "I" (.int (4 : Int32))) (F_ordinal_w_M : Fld Z h0 w_M "java/lang/Enum" "ordinal" "I" (.int (5 : Int32))) (F_ordinal_w_L : Fld Z h0 w_L "java/lang/Enum" "ordinal" "I" (.int (6 : Int32))) (F_ordinal_w_SS : Fld Z h0 w_SS "java/lang/Enum" "ordinal" "I" (.int (7 : Int32))) (F_ordinal_w_NS : Fld Z h0 w_NS "java/lang/Enum" "ordinal" "I" (.int (8 : Int32))) (F_ordinal_w_BS : Fld Z h0 w_BS "java/lang/Enum" "ordinal" "I" (.int (9 : Int32))) (hD : Dis w_S w_N w_B w_BOOL w_NULL w_M w_L w_SS w_NS w_BS) :
    MetFree l x (head1 (Jvm.Cond.code x code maxLocals ret :: ws) room_1) (fun a U => a = #[(.int p1)] ∧ Z.Warmed39 U.vm ∧ U.heap = h0) (fun _ _ _ _ _ => True) (fun _ U o U' => ∃ v L, o = .returned v ∧ Q0 Z p1 w_S w_N w_B w_BOOL w_NULL w_M w_L w_SS w_NS w_BS h0 n0 v U'.heap L ∧ FrameEnd U o U' L room_1.cells room_1.slots) := by
  refine MetFree.of_bodySF (plainFor_of_name pn1) hisR ?_
  intro p e s m args below meth c s₁ Bd hml0 hP hK
  obtain ⟨rfl, hZ, hh⟩ := hP
  have hx := Bd.exec
  have hby := Bd.bytes
  have hml : c.maxLocals = 6 := hml0
  have hown : s.vm.findClass "com/example/elliott_bay/elliottbay/value/AttributeTypeIsSetPinLaw" = some m.cls := findClass_of_methodNamed Bd.named
  have hnm := (name_of_methodNamed Bd.named Bd.method).1
  have X0 : Stand p l e room_1 s m #[(.int p1)] below meth c s₁ [] 0 0 := Stand.of_body Bd
  have e0 : s₁.heap = h0 := by rw [← hh, Bd.state]; rfl
  have N0 := Fr.nil n0
  have pre0 : ∀ t, Steps p.tables e below (s₁.setTop (mkF m 0 #[.val (.int p1), .unset, .unset, .unset, .unset, .unset] [])) t → Steps p.tables e below (s₁.setTop (entryFrame m #[(.int p1)] maxLocals)) t := fun t k => castTop (ef0 m p1) k
  obtain ⟨_, _, ⟨T1, L1, k1, n1⟩, -, X1, ⟨Lc1, hQ1, l1, y1, z1⟩, st1⟩ := Jvm.LawKit.callS X0 hx (y := (⟨"com/example/elliott_bay/elliottbay/value/AttributeTypeIsSetPinLaw", "pick", "(I)Lcom/example/elliott_bay/elliottbay/value/AttributeType;"⟩ : MethodName)) hown (mvT hZ (hw _ (List.mem_of_getElem? (i := 1) rfl))) (mvT hZ (hw _ (List.mem_of_getElem? (i := 2) rfl))) (mvT hZ (hw _ (List.mem_of_getElem? (i := 3) rfl))) (mvT hZ (hw _ (List.mem_of_getElem? (i := 4) rfl))) (by decide) (backOf (W := 0) (rm1 l Z a0 hw [] ((p1 &&& (2147483647 : Int32)) % (10 : Int32)) w_S w_N w_B w_BOOL w_NULL w_M w_L w_SS w_NS w_BS h0 n0 (Nat.le_trans Z0 (Keep.refl h0 []).1) S_S S_N S_B S_BOOL S_NULL S_M S_L S_SS S_NS S_BS ) hZ (hw _ (List.mem_of_getElem? (i := 4) rfl)) (hw _ (List.mem_of_getElem? (i := 3) rfl)) (by decide) (by decide)) (g := (mkF m 9 #[.val (.int p1), .val (.int ((p1 &&& (2147483647 : Int32)) % (10 : Int32))), .unset, .unset, .unset, .unset] [(.int ((p1 &&& (2147483647 : Int32)) % (10 : Int32)))])) rfl (by rw [hml]; rfl) (argsL := [(.int ((p1 &&& (2147483647 : Int32)) % (10 : Int32)))]) (rest := []) (lenOf pd1 rfl) rfl (by show 2 * 0 + _ ≤ _; exact Nat.le_of_eq rfl) (hb hby at_9) (fun _ _ => ⟨rfl, e0, (by decide : 0 + 0 ≤ _), (by decide : 0 + 0 ≤ _)⟩)
  dsimp only [Pt.U, Pt.locs, Pt.cells, Pt.slots] at X1 l1 y1 z1 st1 hQ1
  subst l1 y1 z1
  obtain ⟨rfl, rfl, e1⟩ := hQ1
  have N1 := Fr.app N0 (Fr.nil n0)
  have hrg := own_rng p1
  have E_r := own_exa (Z := Z) (h := h0) ((p1 &&& (2147483647 : Int32)) % (10 : Int32)) w_S w_N w_B w_BOOL w_NULL w_M w_L w_SS w_NS w_BS E_w_S E_w_N E_w_B E_w_BOOL E_w_NULL E_w_M E_w_L E_w_SS E_w_NS E_w_BS
  have F_r := own_ord (Z := Z) (h := h0) ((p1 &&& (2147483647 : Int32)) % (10 : Int32)) hrg.1 hrg.2 w_S w_N w_B w_BOOL w_NULL w_M w_L w_SS w_NS w_BS F_ordinal_w_S F_ordinal_w_N F_ordinal_w_B F_ordinal_w_BOOL F_ordinal_w_NULL F_ordinal_w_M F_ordinal_w_L F_ordinal_w_SS F_ordinal_w_NS F_ordinal_w_BS
  have pre2 : ∀ t, Steps p.tables e below (T1.setTop (mkF m 16 #[.val (.int p1), .val (.int ((p1 &&& (2147483647 : Int32)) % (10 : Int32))), .val (.ref (res1 ((p1 &&& (2147483647 : Int32)) % (10 : Int32)) w_S w_N w_B w_BOOL w_NULL w_M w_L w_SS w_NS w_BS)), .unset, .unset, .unset] [(.int (7 : Int32)), (.int ((p1 &&& (2147483647 : Int32)) % (10 : Int32)))])) t → Steps p.tables e below (s₁.setTop (entryFrame m #[(.int p1)] maxLocals)) t := by
    intro t kt
    refine pre0 _ ?_
    show Steps p.tables e below (s₁.setTop (mkF m 0 #[.val (.int p1), .unset, .unset, .unset, .unset, .unset] [])) _
    refine XS.iloadN X0.here hx rfl (hb hby at_0) rfl ?_
    show Steps p.tables e below (s₁.setTop (mkF m 1 #[.val (.int p1), .unset, .unset, .unset, .unset, .unset] [(.int p1)])) _
    refine X0.ldcInt hx hown (mvT hZ (hw _ (List.mem_of_getElem? (i := 0) rfl))) (g := (mkF m 1 #[.val (.int p1), .unset, .unset, .unset, .unset, .unset] [(.int p1)])) rfl (hb hby at_1) _ ?_
    show Steps p.tables e below (s₁.setTop (mkF m 3 #[.val (.int p1), .unset, .unset, .unset, .unset, .unset] [(.int (2147483647 : Int32)), (.int p1)])) _
    refine XS.iand X0.here hx rfl (hb hby at_3) rfl ?_
    show Steps p.tables e below (s₁.setTop (mkF m 4 #[.val (.int p1), .unset, .unset, .unset, .unset, .unset] [(.int (p1 &&& (2147483647 : Int32)))])) _
    refine XS.bipush X0.here hx rfl (hb hby at_4) ?_
    show Steps p.tables e below (s₁.setTop (mkF m 6 #[.val (.int p1), .unset, .unset, .unset, .unset, .unset] [(.int (10 : Int32)), (.int (p1 &&& (2147483647 : Int32)))])) _
    refine iremM (g := (mkF m 6 #[.val (.int p1), .unset, .unset, .unset, .unset, .unset] [(.int (10 : Int32)), (.int (p1 &&& (2147483647 : Int32)))])) X0 hx rfl (hb hby at_6) rfl (by decide) ?_
    show Steps p.tables e below (s₁.setTop (mkF m 7 #[.val (.int p1), .unset, .unset, .unset, .unset, .unset] [(.int ((p1 &&& (2147483647 : Int32)) % (10 : Int32)))])) _
    refine XS.istoreN X0.here hx rfl (hb hby at_7) rfl (l' := #[.val (.int p1), .val (.int ((p1 &&& (2147483647 : Int32)) % (10 : Int32))), .unset, .unset, .unset, .unset]) rfl ?_
    show Steps p.tables e below (s₁.setTop (mkF m 8 #[.val (.int p1), .val (.int ((p1 &&& (2147483647 : Int32)) % (10 : Int32))), .unset, .unset, .unset, .unset] [])) _
    refine XS.iloadN X0.here hx rfl (hb hby at_8) rfl ?_
    show Steps p.tables e below (s₁.setTop (mkF m 9 #[.val (.int p1), .val (.int ((p1 &&& (2147483647 : Int32)) % (10 : Int32))), .unset, .unset, .unset, .unset] [(.int ((p1 &&& (2147483647 : Int32)) % (10 : Int32)))])) _
    refine st1 _ ?_
    show Steps p.tables e below (T1.setTop (mkF m 12 #[.val (.int p1), .val (.int ((p1 &&& (2147483647 : Int32)) % (10 : Int32))), .unset, .unset, .unset, .unset] [(.ref (res1 ((p1 &&& (2147483647 : Int32)) % (10 : Int32)) w_S w_N w_B w_BOOL w_NULL w_M w_L w_SS w_NS w_BS))])) _
    refine XS.astoreN X1.here hx rfl (hb hby at_12) rfl rfl (l' := #[.val (.int p1), .val (.int ((p1 &&& (2147483647 : Int32)) % (10 : Int32))), .val (.ref (res1 ((p1 &&& (2147483647 : Int32)) % (10 : Int32)) w_S w_N w_B w_BOOL w_NULL w_M w_L w_SS w_NS w_BS)), .unset, .unset, .unset]) rfl ?_
    show Steps p.tables e below (T1.setTop (mkF m 13 #[.val (.int p1), .val (.int ((p1 &&& (2147483647 : Int32)) % (10 : Int32))), .val (.ref (res1 ((p1 &&& (2147483647 : Int32)) % (10 : Int32)) w_S w_N w_B w_BOOL w_NULL w_M w_L w_SS w_NS w_BS)), .unset, .unset, .unset] [])) _
    refine XS.iloadN X1.here hx rfl (hb hby at_13) rfl ?_
    show Steps p.tables e below (T1.setTop (mkF m 14 #[.val (.int p1), .val (.int ((p1 &&& (2147483647 : Int32)) % (10 : Int32))), .val (.ref (res1 ((p1 &&& (2147483647 : Int32)) % (10 : Int32)) w_S w_N w_B w_BOOL w_NULL w_M w_L w_SS w_NS w_BS)), .unset, .unset, .unset] [(.int ((p1 &&& (2147483647 : Int32)) % (10 : Int32)))])) _
    refine XS.bipush X1.here hx rfl (hb hby at_14) ?_
    exact kt
  have pre4 : ∀ t, Steps p.tables e below (T1.setTop (mkF m 24 #[.val (.int p1), .val (.int ((p1 &&& (2147483647 : Int32)) % (10 : Int32))), .val (.ref (res1 ((p1 &&& (2147483647 : Int32)) % (10 : Int32)) w_S w_N w_B w_BOOL w_NULL w_M w_L w_SS w_NS w_BS)), .unset, .unset, .unset] [(.int (mg0_16_s0 p1))])) t → Steps p.tables e below (s₁.setTop (entryFrame m #[(.int p1)] maxLocals)) t := by
    intro t kt
    by_cases hc16_3 : ((p1 &&& (2147483647 : Int32)) % (10 : Int32)) < (7 : Int32)
    · rw [show (mg0_16_s0 p1) = (0 : Int32) from by rw [mg0_16_s0, if_pos hc16_3]] at kt
      refine pre2 _ ?_
      show Steps p.tables e below (T1.setTop (mkF m 16 #[.val (.int p1), .val (.int ((p1 &&& (2147483647 : Int32)) % (10 : Int32))), .val (.ref (res1 ((p1 &&& (2147483647 : Int32)) % (10 : Int32)) w_S w_N w_B w_BOOL w_NULL w_M w_L w_SS w_NS w_BS)), .unset, .unset, .unset] [(.int (7 : Int32)), (.int ((p1 &&& (2147483647 : Int32)) % (10 : Int32)))])) _
      refine XS.icmpYes X1.here hx rfl (pc0 := 16) (pc' := 23) rfl (hb hby at_16) rfl (tlt hc16_3).1 (by decide) (by decide) ?_
      show Steps p.tables e below (T1.setTop (mkF m 23 #[.val (.int p1), .val (.int ((p1 &&& (2147483647 : Int32)) % (10 : Int32))), .val (.ref (res1 ((p1 &&& (2147483647 : Int32)) % (10 : Int32)) w_S w_N w_B w_BOOL w_NULL w_M w_L w_SS w_NS w_BS)), .unset, .unset, .unset] [])) _
      refine XS.iconst X1.here hx rfl (hb hby at_23) ?_
      exact kt
    · rw [show (mg0_16_s0 p1) = (1 : Int32) from by rw [mg0_16_s0, if_neg hc16_3]] at kt
      refine pre2 _ ?_
      show Steps p.tables e below (T1.setTop (mkF m 16 #[.val (.int p1), .val (.int ((p1 &&& (2147483647 : Int32)) % (10 : Int32))), .val (.ref (res1 ((p1 &&& (2147483647 : Int32)) % (10 : Int32)) w_S w_N w_B w_BOOL w_NULL w_M w_L w_SS w_NS w_BS)), .unset, .unset, .unset] [(.int (7 : Int32)), (.int ((p1 &&& (2147483647 : Int32)) % (10 : Int32)))])) _
      refine XS.icmpNo X1.here hx rfl (hb hby at_16) rfl (flt hc16_3).1 ?_
      show Steps p.tables e below (T1.setTop (mkF m 19 #[.val (.int p1), .val (.int ((p1 &&& (2147483647 : Int32)) % (10 : Int32))), .val (.ref (res1 ((p1 &&& (2147483647 : Int32)) % (10 : Int32)) w_S w_N w_B w_BOOL w_NULL w_M w_L w_SS w_NS w_BS)), .unset, .unset, .unset] [])) _
      refine XS.iconst X1.here hx rfl (hb hby at_19) ?_
      show Steps p.tables e below (T1.setTop (mkF m 20 #[.val (.int p1), .val (.int ((p1 &&& (2147483647 : Int32)) % (10 : Int32))), .val (.ref (res1 ((p1 &&& (2147483647 : Int32)) % (10 : Int32)) w_S w_N w_B w_BOOL w_NULL w_M w_L w_SS w_NS w_BS)), .unset, .unset, .unset] [(.int (1 : Int32))])) _
      refine XS.goto X1.here hx rfl (pc0 := 20) (pc' := 24) rfl (hb hby at_20) (by decide) (by decide) ?_
      exact kt
  obtain ⟨cq5, kq5, q5a, q5b, q5c⟩ := isOf hZ e1 E_r
  obtain ⟨_, _, ⟨T5, L5, k5, n5⟩, -, X5, ⟨Lc5, hQ5, l5, y5, z5⟩, st5⟩ := X1.virtualBack hx (y := (⟨"com/example/elliott_bay/elliottbay/value/AttributeType", "isSet", "()Z"⟩ : MethodName)) (z := (⟨"com/example/elliott_bay/elliottbay/value/AttributeType", "isSet", "()Z"⟩ : MethodName)) hown (mvT hZ (hw _ (List.mem_of_getElem? (i := 8) rfl))) (mvT hZ (hw _ (List.mem_of_getElem? (i := 9) rfl))) (notFace_of_selects (args := #[]) (mvT hZ (hw _ (List.mem_of_getElem? (i := 11) rfl)))) (mvT hZ (hw _ (List.mem_of_getElem? (i := 11) rfl))) (mvT hZ (hw _ (List.mem_of_getElem? (i := 10) rfl))) (by decide) (backOf (W := 0) (rm2 l Z a0 hw [] (res1 ((p1 &&& (2147483647 : Int32)) % (10 : Int32)) w_S w_N w_B w_BOOL w_NULL w_M w_L w_SS w_NS w_BS) w_SS w_NS w_BS h0 n0 (Nat.le_trans Z0 (Keep.refl h0 []).1) S_SS S_NS S_BS ) hZ (hw _ (List.mem_of_getElem? (i := 12) rfl)) (hw _ (List.mem_of_getElem? (i := 6) rfl)) (by decide) (by decide)) q5a q5c (g := (mkF m 26 #[.val (.int p1), .val (.int ((p1 &&& (2147483647 : Int32)) % (10 : Int32))), .val (.ref (res1 ((p1 &&& (2147483647 : Int32)) % (10 : Int32)) w_S w_N w_B w_BOOL w_NULL w_M w_L w_SS w_NS w_BS)), .val (.int (mg0_16_s0 p1)), .unset, .unset] [(.ref (res1 ((p1 &&& (2147483647 : Int32)) % (10 : Int32)) w_S w_N w_B w_BOOL w_NULL w_M w_L w_SS w_NS w_BS))])) rfl (by rw [hml]; rfl) (Steps.refl _) (argsL := []) (rest := []) (lenOf pd2 rfl) rfl (by show 2 * 0 + _ ≤ _; exact Nat.le_of_eq rfl) (hb hby at_26) (fun _ _ => ⟨rfl, e1, (by decide : 0 + 0 ≤ _), (by decide : 0 + 0 ≤ _)⟩)
  dsimp only [Pt.U, Pt.locs, Pt.cells, Pt.slots] at X5 l5 y5 z5 st5 hQ5
  subst l5 y5 z5
  obtain ⟨rfl, rfl, e5⟩ := hQ5
  have N5 := Fr.app N1 (Fr.nil n0)
  have pre6 : ∀ t, Steps p.tables e below (T5.setTop (mkF m 34 #[.val (.int p1), .val (.int ((p1 &&& (2147483647 : Int32)) % (10 : Int32))), .val (.ref (res1 ((p1 &&& (2147483647 : Int32)) % (10 : Int32)) w_S w_N w_B w_BOOL w_NULL w_M w_L w_SS w_NS w_BS)), .val (.int (mg0_16_s0 p1)), .val (.int (res2 (res1 ((p1 &&& (2147483647 : Int32)) % (10 : Int32)) w_S w_N w_B w_BOOL w_NULL w_M w_L w_SS w_NS w_BS) w_SS w_NS w_BS)), .unset] [(.int (mg0_16_s0 p1)), (.int (res2 (res1 ((p1 &&& (2147483647 : Int32)) % (10 : Int32)) w_S w_N w_B w_BOOL w_NULL w_M w_L w_SS w_NS w_BS) w_SS w_NS w_BS))])) t → Steps p.tables e below (s₁.setTop (entryFrame m #[(.int p1)] maxLocals)) t := by
    intro t kt
    refine pre4 _ ?_
    show Steps p.tables e below (T1.setTop (mkF m 24 #[.val (.int p1), .val (.int ((p1 &&& (2147483647 : Int32)) % (10 : Int32))), .val (.ref (res1 ((p1 &&& (2147483647 : Int32)) % (10 : Int32)) w_S w_N w_B w_BOOL w_NULL w_M w_L w_SS w_NS w_BS)), .unset, .unset, .unset] [(.int (mg0_16_s0 p1))])) _
    refine XS.istoreN X1.here hx rfl (hb hby at_24) rfl (l' := #[.val (.int p1), .val (.int ((p1 &&& (2147483647 : Int32)) % (10 : Int32))), .val (.ref (res1 ((p1 &&& (2147483647 : Int32)) % (10 : Int32)) w_S w_N w_B w_BOOL w_NULL w_M w_L w_SS w_NS w_BS)), .val (.int (mg0_16_s0 p1)), .unset, .unset]) rfl ?_
    show Steps p.tables e below (T1.setTop (mkF m 25 #[.val (.int p1), .val (.int ((p1 &&& (2147483647 : Int32)) % (10 : Int32))), .val (.ref (res1 ((p1 &&& (2147483647 : Int32)) % (10 : Int32)) w_S w_N w_B w_BOOL w_NULL w_M w_L w_SS w_NS w_BS)), .val (.int (mg0_16_s0 p1)), .unset, .unset] [])) _
    refine XS.aloadN X1.here hx rfl (hb hby at_25) rfl rfl ?_
    show Steps p.tables e below (T1.setTop (mkF m 26 #[.val (.int p1), .val (.int ((p1 &&& (2147483647 : Int32)) % (10 : Int32))), .val (.ref (res1 ((p1 &&& (2147483647 : Int32)) % (10 : Int32)) w_S w_N w_B w_BOOL w_NULL w_M w_L w_SS w_NS w_BS)), .val (.int (mg0_16_s0 p1)), .unset, .unset] [(.ref (res1 ((p1 &&& (2147483647 : Int32)) % (10 : Int32)) w_S w_N w_B w_BOOL w_NULL w_M w_L w_SS w_NS w_BS))])) _
    refine st5.trans ?_
    show Steps p.tables e below (T5.setTop (mkF m 29 #[.val (.int p1), .val (.int ((p1 &&& (2147483647 : Int32)) % (10 : Int32))), .val (.ref (res1 ((p1 &&& (2147483647 : Int32)) % (10 : Int32)) w_S w_N w_B w_BOOL w_NULL w_M w_L w_SS w_NS w_BS)), .val (.int (mg0_16_s0 p1)), .unset, .unset] [(.int (res2 (res1 ((p1 &&& (2147483647 : Int32)) % (10 : Int32)) w_S w_N w_B w_BOOL w_NULL w_M w_L w_SS w_NS w_BS) w_SS w_NS w_BS))])) _
    refine XS.istore X5.here hx rfl (hb hby at_29) rfl (l' := #[.val (.int p1), .val (.int ((p1 &&& (2147483647 : Int32)) % (10 : Int32))), .val (.ref (res1 ((p1 &&& (2147483647 : Int32)) % (10 : Int32)) w_S w_N w_B w_BOOL w_NULL w_M w_L w_SS w_NS w_BS)), .val (.int (mg0_16_s0 p1)), .val (.int (res2 (res1 ((p1 &&& (2147483647 : Int32)) % (10 : Int32)) w_S w_N w_B w_BOOL w_NULL w_M w_L w_SS w_NS w_BS) w_SS w_NS w_BS)), .unset]) rfl ?_
    show Steps p.tables e below (T5.setTop (mkF m 31 #[.val (.int p1), .val (.int ((p1 &&& (2147483647 : Int32)) % (10 : Int32))), .val (.ref (res1 ((p1 &&& (2147483647 : Int32)) % (10 : Int32)) w_S w_N w_B w_BOOL w_NULL w_M w_L w_SS w_NS w_BS)), .val (.int (mg0_16_s0 p1)), .val (.int (res2 (res1 ((p1 &&& (2147483647 : Int32)) % (10 : Int32)) w_S w_N w_B w_BOOL w_NULL w_M w_L w_SS w_NS w_BS) w_SS w_NS w_BS)), .unset] [])) _
    refine XS.iload X5.here hx rfl (hb hby at_31) rfl ?_
    show Steps p.tables e below (T5.setTop (mkF m 33 #[.val (.int p1), .val (.int ((p1 &&& (2147483647 : Int32)) % (10 : Int32))), .val (.ref (res1 ((p1 &&& (2147483647 : Int32)) % (10 : Int32)) w_S w_N w_B w_BOOL w_NULL w_M w_L w_SS w_NS w_BS)), .val (.int (mg0_16_s0 p1)), .val (.int (res2 (res1 ((p1 &&& (2147483647 : Int32)) % (10 : Int32)) w_S w_N w_B w_BOOL w_NULL w_M w_L w_SS w_NS w_BS) w_SS w_NS w_BS)), .unset] [(.int (res2 (res1 ((p1 &&& (2147483647 : Int32)) % (10 : Int32)) w_S w_N w_B w_BOOL w_NULL w_M w_L w_SS w_NS w_BS) w_SS w_NS w_BS))])) _
    refine XS.iloadN X5.here hx rfl (hb hby at_33) rfl ?_
    exact kt
  by_cases hc34_7 : (res2 (res1 ((p1 &&& (2147483647 : Int32)) % (10 : Int32)) w_S w_N w_B w_BOOL w_NULL w_M w_L w_SS w_NS w_BS) w_SS w_NS w_BS) = (mg0_16_s0 p1)
  · have pre8 : ∀ t, Steps p.tables e below (T5.setTop (mkF m 41 #[.val (.int p1), .val (.int ((p1 &&& (2147483647 : Int32)) % (10 : Int32))), .val (.ref (res1 ((p1 &&& (2147483647 : Int32)) % (10 : Int32)) w_S w_N w_B w_BOOL w_NULL w_M w_L w_SS w_NS w_BS)), .val (.int (mg0_16_s0 p1)), .val (.int (res2 (res1 ((p1 &&& (2147483647 : Int32)) % (10 : Int32)) w_S w_N w_B w_BOOL w_NULL w_M w_L w_SS w_NS w_BS) w_SS w_NS w_BS)), .unset] [(.int (res2 (res1 ((p1 &&& (2147483647 : Int32)) % (10 : Int32)) w_S w_N w_B w_BOOL w_NULL w_M w_L w_SS w_NS w_BS) w_SS w_NS w_BS))])) t → Steps p.tables e below (s₁.setTop (entryFrame m #[(.int p1)] maxLocals)) t := by
      intro t kt
      refine pre6 _ ?_
      show Steps p.tables e below (T5.setTop (mkF m 34 #[.val (.int p1), .val (.int ((p1 &&& (2147483647 : Int32)) % (10 : Int32))), .val (.ref (res1 ((p1 &&& (2147483647 : Int32)) % (10 : Int32)) w_S w_N w_B w_BOOL w_NULL w_M w_L w_SS w_NS w_BS)), .val (.int (mg0_16_s0 p1)), .val (.int (res2 (res1 ((p1 &&& (2147483647 : Int32)) % (10 : Int32)) w_S w_N w_B w_BOOL w_NULL w_M w_L w_SS w_NS w_BS) w_SS w_NS w_BS)), .unset] [(.int (mg0_16_s0 p1)), (.int (res2 (res1 ((p1 &&& (2147483647 : Int32)) % (10 : Int32)) w_S w_N w_B w_BOOL w_NULL w_M w_L w_SS w_NS w_BS) w_SS w_NS w_BS))])) _
      refine XS.icmpYes X5.here hx rfl (pc0 := 34) (pc' := 39) rfl (hb hby at_34) rfl (teq hc34_7).1 (by decide) (by decide) ?_
      show Steps p.tables e below (T5.setTop (mkF m 39 #[.val (.int p1), .val (.int ((p1 &&& (2147483647 : Int32)) % (10 : Int32))), .val (.ref (res1 ((p1 &&& (2147483647 : Int32)) % (10 : Int32)) w_S w_N w_B w_BOOL w_NULL w_M w_L w_SS w_NS w_BS)), .val (.int (mg0_16_s0 p1)), .val (.int (res2 (res1 ((p1 &&& (2147483647 : Int32)) % (10 : Int32)) w_S w_N w_B w_BOOL w_NULL w_M w_L w_SS w_NS w_BS) w_SS w_NS w_BS)), .unset] [])) _
      refine XS.iload X5.here hx rfl (hb hby at_39) rfl ?_
      exact kt
    by_cases hc41_9 : (res2 (res1 ((p1 &&& (2147483647 : Int32)) % (10 : Int32)) w_S w_N w_B w_BOOL w_NULL w_M w_L w_SS w_NS w_BS) w_SS w_NS w_BS) = (0 : Int32)
    · obtain ⟨fs, hr, hrun, hended, hW, hsame⟩ := X5.leave (v := some (.int (1 : Int32))) (fun h => by rw [Bd.returns] at h; cases h)
      refine ⟨_, _, pre8 _ ?_, hrun, hended, _, _, rfl, ?_, ⟨_, rfl⟩, hW, hsame.mono (by decide) (by decide)⟩
      · show Steps p.tables e below (T5.setTop (mkF m 41 #[.val (.int p1), .val (.int ((p1 &&& (2147483647 : Int32)) % (10 : Int32))), .val (.ref (res1 ((p1 &&& (2147483647 : Int32)) % (10 : Int32)) w_S w_N w_B w_BOOL w_NULL w_M w_L w_SS w_NS w_BS)), .val (.int (mg0_16_s0 p1)), .val (.int (res2 (res1 ((p1 &&& (2147483647 : Int32)) % (10 : Int32)) w_S w_N w_B w_BOOL w_NULL w_M w_L w_SS w_NS w_BS) w_SS w_NS w_BS)), .unset] [(.int (res2 (res1 ((p1 &&& (2147483647 : Int32)) % (10 : Int32)) w_S w_N w_B w_BOOL w_NULL w_M w_L w_SS w_NS w_BS) w_SS w_NS w_BS))])) _
        refine XS.ifYes X5.here hx rfl (pc0 := 41) (pc' := 68) rfl (hb hby at_41) rfl ((if0 _ _).trans (teq hc41_9).1) (by decide) (by decide) ?_
        show Steps p.tables e below (T5.setTop (mkF m 68 #[.val (.int p1), .val (.int ((p1 &&& (2147483647 : Int32)) % (10 : Int32))), .val (.ref (res1 ((p1 &&& (2147483647 : Int32)) % (10 : Int32)) w_S w_N w_B w_BOOL w_NULL w_M w_L w_SS w_NS w_BS)), .val (.int (mg0_16_s0 p1)), .val (.int (res2 (res1 ((p1 &&& (2147483647 : Int32)) % (10 : Int32)) w_S w_N w_B w_BOOL w_NULL w_M w_L w_SS w_NS w_BS) w_SS w_NS w_BS)), .unset] [])) _
        refine XS.iconst X5.here hx rfl (hb hby at_68) ?_
        show Steps p.tables e below (T5.setTop (mkF m 69 #[.val (.int p1), .val (.int ((p1 &&& (2147483647 : Int32)) % (10 : Int32))), .val (.ref (res1 ((p1 &&& (2147483647 : Int32)) % (10 : Int32)) w_S w_N w_B w_BOOL w_NULL w_M w_L w_SS w_NS w_BS)), .val (.int (mg0_16_s0 p1)), .val (.int (res2 (res1 ((p1 &&& (2147483647 : Int32)) % (10 : Int32)) w_S w_N w_B w_BOOL w_NULL w_M w_L w_SS w_NS w_BS) w_SS w_NS w_BS)), .unset] [(.int (1 : Int32))])) _
        exact retN X5 hx (t := .boolean) Bd.returns (by simp) (hb hby at_69) hr
      · show Q0 Z p1 w_S w_N w_B w_BOOL w_NULL w_M w_L w_SS w_NS w_BS h0 n0 _ T5.heap _
        rw [e5]
        exact ⟨by rw [res0, if_pos hc34_7, if_pos hc41_9], N5⟩
    · obtain ⟨cq10, kq10, q10a, q10b, q10c⟩ := isOf hZ e5 E_r
      obtain ⟨_, _, ⟨T10, L10, k10, n10⟩, -, X10, ⟨Lc10, hQ10, l10, y10, z10⟩, st10⟩ := X5.virtualBack hx (y := (⟨"com/example/elliott_bay/elliottbay/value/AttributeType", "memberType", "()Lcom/example/elliott_bay/elliottbay/value/AttributeType;"⟩ : MethodName)) (z := (⟨"com/example/elliott_bay/elliottbay/value/AttributeType", "memberType", "()Lcom/example/elliott_bay/elliottbay/value/AttributeType;"⟩ : MethodName)) hown (mvT hZ (hw _ (List.mem_of_getElem? (i := 26) rfl))) (mvT hZ (hw _ (List.mem_of_getElem? (i := 27) rfl))) (notFace_of_selects (args := #[]) (mvT hZ (hw _ (List.mem_of_getElem? (i := 29) rfl)))) (mvT hZ (hw _ (List.mem_of_getElem? (i := 29) rfl))) (mvT hZ (hw _ (List.mem_of_getElem? (i := 28) rfl))) (by decide) (backOf (W := 0) (rm3 l Z a0 hw [] (res1 ((p1 &&& (2147483647 : Int32)) % (10 : Int32)) w_S w_N w_B w_BOOL w_NULL w_M w_L w_SS w_NS w_BS) ((p1 &&& (2147483647 : Int32)) % (10 : Int32)) w_S w_N w_B h0 n0 (Nat.le_trans Z0 (Keep.refl h0 []).1) F_r E_r S_S S_N S_B (own_def ((p1 &&& (2147483647 : Int32)) % (10 : Int32)) hrg.1 hrg.2 w_S w_N w_B w_BOOL w_NULL w_M w_L w_SS w_NS w_BS hD hc41_9 : ((p1 &&& (2147483647 : Int32)) % (10 : Int32)) = (7 : Int32) ∨ ((p1 &&& (2147483647 : Int32)) % (10 : Int32)) = (8 : Int32) ∨ ((p1 &&& (2147483647 : Int32)) % (10 : Int32)) = (9 : Int32))) hZ (hw _ (List.mem_of_getElem? (i := 30) rfl)) (hw _ (List.mem_of_getElem? (i := 6) rfl)) (by decide) (by decide)) q10a q10c (g := (mkF m 45 #[.val (.int p1), .val (.int ((p1 &&& (2147483647 : Int32)) % (10 : Int32))), .val (.ref (res1 ((p1 &&& (2147483647 : Int32)) % (10 : Int32)) w_S w_N w_B w_BOOL w_NULL w_M w_L w_SS w_NS w_BS)), .val (.int (mg0_16_s0 p1)), .val (.int (res2 (res1 ((p1 &&& (2147483647 : Int32)) % (10 : Int32)) w_S w_N w_B w_BOOL w_NULL w_M w_L w_SS w_NS w_BS) w_SS w_NS w_BS)), .unset] [(.ref (res1 ((p1 &&& (2147483647 : Int32)) % (10 : Int32)) w_S w_N w_B w_BOOL w_NULL w_M w_L w_SS w_NS w_BS))])) rfl (by rw [hml]; rfl) (Steps.refl _) (argsL := []) (rest := []) (lenOf pd3 rfl) rfl (by show 2 * 0 + _ ≤ _; exact Nat.le_of_eq rfl) (hb hby at_45) (fun _ _ => ⟨rfl, e5, (by decide : 0 + 0 ≤ _), (by decide : 0 + 0 ≤ _)⟩)
      dsimp only [Pt.U, Pt.locs, Pt.cells, Pt.slots] at X10 l10 y10 z10 st10 hQ10
      subst l10 y10 z10
      obtain ⟨rfl, rfl, e10⟩ := hQ10
      have N10 := Fr.app N5 (Fr.nil n0)
      obtain ⟨_, _, ⟨T11, L11, k11, n11⟩, -, X11, ⟨Lc11, hQ11, l11, y11, z11⟩, st11⟩ := Jvm.LawKit.callS X10 hx (y := (⟨"com/example/elliott_bay/elliottbay/value/AttributeTypeIsSetPinLaw", "pick", "(I)Lcom/example/elliott_bay/elliottbay/value/AttributeType;"⟩ : MethodName)) hown (mvT hZ (hw _ (List.mem_of_getElem? (i := 1) rfl))) (mvT hZ (hw _ (List.mem_of_getElem? (i := 2) rfl))) (mvT hZ (hw _ (List.mem_of_getElem? (i := 3) rfl))) (mvT hZ (hw _ (List.mem_of_getElem? (i := 4) rfl))) (by decide) (backOf (W := 1) (rm1 l Z a0 hw [] (((p1 &&& (2147483647 : Int32)) % (10 : Int32)) - (7 : Int32)) w_S w_N w_B w_BOOL w_NULL w_M w_L w_SS w_NS w_BS h0 n0 (Nat.le_trans Z0 (Keep.refl h0 []).1) S_S S_N S_B S_BOOL S_NULL S_M S_L S_SS S_NS S_BS ) hZ (hw _ (List.mem_of_getElem? (i := 4) rfl)) (hw _ (List.mem_of_getElem? (i := 3) rfl)) (by decide) (by decide)) (g := (mkF m 56 #[.val (.int p1), .val (.int ((p1 &&& (2147483647 : Int32)) % (10 : Int32))), .val (.ref (res1 ((p1 &&& (2147483647 : Int32)) % (10 : Int32)) w_S w_N w_B w_BOOL w_NULL w_M w_L w_SS w_NS w_BS)), .val (.int (mg0_16_s0 p1)), .val (.int (res2 (res1 ((p1 &&& (2147483647 : Int32)) % (10 : Int32)) w_S w_N w_B w_BOOL w_NULL w_M w_L w_SS w_NS w_BS) w_SS w_NS w_BS)), .val (.ref (res3 ((p1 &&& (2147483647 : Int32)) % (10 : Int32)) w_S w_N w_B))] [(.int (((p1 &&& (2147483647 : Int32)) % (10 : Int32)) - (7 : Int32))), (.ref (res3 ((p1 &&& (2147483647 : Int32)) % (10 : Int32)) w_S w_N w_B))])) rfl (by rw [hml]; rfl) (argsL := [(.int (((p1 &&& (2147483647 : Int32)) % (10 : Int32)) - (7 : Int32)))]) (rest := [(.ref (res3 ((p1 &&& (2147483647 : Int32)) % (10 : Int32)) w_S w_N w_B))]) (lenOf pd1 rfl) rfl (by show 2 * 0 + _ ≤ _; exact Nat.le_of_eq rfl) (hb hby at_56) (fun _ _ => ⟨rfl, e10, (by decide : 0 + 0 ≤ _), (by decide : 0 + 0 ≤ _)⟩)
      dsimp only [Pt.U, Pt.locs, Pt.cells, Pt.slots] at X11 l11 y11 z11 st11 hQ11
      subst l11 y11 z11
      obtain ⟨rfl, rfl, e11⟩ := hQ11
      have N11 := Fr.app N10 (Fr.nil n0)
      have pre12 : ∀ t, Steps p.tables e below (T11.setTop (mkF m 59 #[.val (.int p1), .val (.int ((p1 &&& (2147483647 : Int32)) % (10 : Int32))), .val (.ref (res1 ((p1 &&& (2147483647 : Int32)) % (10 : Int32)) w_S w_N w_B w_BOOL w_NULL w_M w_L w_SS w_NS w_BS)), .val (.int (mg0_16_s0 p1)), .val (.int (res2 (res1 ((p1 &&& (2147483647 : Int32)) % (10 : Int32)) w_S w_N w_B w_BOOL w_NULL w_M w_L w_SS w_NS w_BS) w_SS w_NS w_BS)), .val (.ref (res3 ((p1 &&& (2147483647 : Int32)) % (10 : Int32)) w_S w_N w_B))] [(.ref (res1 (((p1 &&& (2147483647 : Int32)) % (10 : Int32)) - (7 : Int32)) w_S w_N w_B w_BOOL w_NULL w_M w_L w_SS w_NS w_BS)), (.ref (res3 ((p1 &&& (2147483647 : Int32)) % (10 : Int32)) w_S w_N w_B))])) t → Steps p.tables e below (s₁.setTop (entryFrame m #[(.int p1)] maxLocals)) t := by
        intro t kt
        refine pre8 _ ?_
        show Steps p.tables e below (T5.setTop (mkF m 41 #[.val (.int p1), .val (.int ((p1 &&& (2147483647 : Int32)) % (10 : Int32))), .val (.ref (res1 ((p1 &&& (2147483647 : Int32)) % (10 : Int32)) w_S w_N w_B w_BOOL w_NULL w_M w_L w_SS w_NS w_BS)), .val (.int (mg0_16_s0 p1)), .val (.int (res2 (res1 ((p1 &&& (2147483647 : Int32)) % (10 : Int32)) w_S w_N w_B w_BOOL w_NULL w_M w_L w_SS w_NS w_BS) w_SS w_NS w_BS)), .unset] [(.int (res2 (res1 ((p1 &&& (2147483647 : Int32)) % (10 : Int32)) w_S w_N w_B w_BOOL w_NULL w_M w_L w_SS w_NS w_BS) w_SS w_NS w_BS))])) _
        refine XS.ifNo X5.here hx rfl (hb hby at_41) rfl ((if0 _ _).trans (feq hc41_9).1) ?_
        show Steps p.tables e below (T5.setTop (mkF m 44 #[.val (.int p1), .val (.int ((p1 &&& (2147483647 : Int32)) % (10 : Int32))), .val (.ref (res1 ((p1 &&& (2147483647 : Int32)) % (10 : Int32)) w_S w_N w_B w_BOOL w_NULL w_M w_L w_SS w_NS w_BS)), .val (.int (mg0_16_s0 p1)), .val (.int (res2 (res1 ((p1 &&& (2147483647 : Int32)) % (10 : Int32)) w_S w_N w_B w_BOOL w_NULL w_M w_L w_SS w_NS w_BS) w_SS w_NS w_BS)), .unset] [])) _
        refine XS.aloadN X5.here hx rfl (hb hby at_44) rfl rfl ?_
        show Steps p.tables e below (T5.setTop (mkF m 45 #[.val (.int p1), .val (.int ((p1 &&& (2147483647 : Int32)) % (10 : Int32))), .val (.ref (res1 ((p1 &&& (2147483647 : Int32)) % (10 : Int32)) w_S w_N w_B w_BOOL w_NULL w_M w_L w_SS w_NS w_BS)), .val (.int (mg0_16_s0 p1)), .val (.int (res2 (res1 ((p1 &&& (2147483647 : Int32)) % (10 : Int32)) w_S w_N w_B w_BOOL w_NULL w_M w_L w_SS w_NS w_BS) w_SS w_NS w_BS)), .unset] [(.ref (res1 ((p1 &&& (2147483647 : Int32)) % (10 : Int32)) w_S w_N w_B w_BOOL w_NULL w_M w_L w_SS w_NS w_BS))])) _
        refine st10.trans ?_
        show Steps p.tables e below (T10.setTop (mkF m 48 #[.val (.int p1), .val (.int ((p1 &&& (2147483647 : Int32)) % (10 : Int32))), .val (.ref (res1 ((p1 &&& (2147483647 : Int32)) % (10 : Int32)) w_S w_N w_B w_BOOL w_NULL w_M w_L w_SS w_NS w_BS)), .val (.int (mg0_16_s0 p1)), .val (.int (res2 (res1 ((p1 &&& (2147483647 : Int32)) % (10 : Int32)) w_S w_N w_B w_BOOL w_NULL w_M w_L w_SS w_NS w_BS) w_SS w_NS w_BS)), .unset] [(.ref (res3 ((p1 &&& (2147483647 : Int32)) % (10 : Int32)) w_S w_N w_B))])) _
        refine XS.astore X10.here hx rfl (hb hby at_48) rfl rfl (l' := #[.val (.int p1), .val (.int ((p1 &&& (2147483647 : Int32)) % (10 : Int32))), .val (.ref (res1 ((p1 &&& (2147483647 : Int32)) % (10 : Int32)) w_S w_N w_B w_BOOL w_NULL w_M w_L w_SS w_NS w_BS)), .val (.int (mg0_16_s0 p1)), .val (.int (res2 (res1 ((p1 &&& (2147483647 : Int32)) % (10 : Int32)) w_S w_N w_B w_BOOL w_NULL w_M w_L w_SS w_NS w_BS) w_SS w_NS w_BS)), .val (.ref (res3 ((p1 &&& (2147483647 : Int32)) % (10 : Int32)) w_S w_N w_B))]) rfl ?_
        show Steps p.tables e below (T10.setTop (mkF m 50 #[.val (.int p1), .val (.int ((p1 &&& (2147483647 : Int32)) % (10 : Int32))), .val (.ref (res1 ((p1 &&& (2147483647 : Int32)) % (10 : Int32)) w_S w_N w_B w_BOOL w_NULL w_M w_L w_SS w_NS w_BS)), .val (.int (mg0_16_s0 p1)), .val (.int (res2 (res1 ((p1 &&& (2147483647 : Int32)) % (10 : Int32)) w_S w_N w_B w_BOOL w_NULL w_M w_L w_SS w_NS w_BS) w_SS w_NS w_BS)), .val (.ref (res3 ((p1 &&& (2147483647 : Int32)) % (10 : Int32)) w_S w_N w_B))] [])) _
        refine XS.aload X10.here hx rfl (hb hby at_50) rfl rfl ?_
        show Steps p.tables e below (T10.setTop (mkF m 52 #[.val (.int p1), .val (.int ((p1 &&& (2147483647 : Int32)) % (10 : Int32))), .val (.ref (res1 ((p1 &&& (2147483647 : Int32)) % (10 : Int32)) w_S w_N w_B w_BOOL w_NULL w_M w_L w_SS w_NS w_BS)), .val (.int (mg0_16_s0 p1)), .val (.int (res2 (res1 ((p1 &&& (2147483647 : Int32)) % (10 : Int32)) w_S w_N w_B w_BOOL w_NULL w_M w_L w_SS w_NS w_BS) w_SS w_NS w_BS)), .val (.ref (res3 ((p1 &&& (2147483647 : Int32)) % (10 : Int32)) w_S w_N w_B))] [(.ref (res3 ((p1 &&& (2147483647 : Int32)) % (10 : Int32)) w_S w_N w_B))])) _
        refine XS.iloadN X10.here hx rfl (hb hby at_52) rfl ?_
        show Steps p.tables e below (T10.setTop (mkF m 53 #[.val (.int p1), .val (.int ((p1 &&& (2147483647 : Int32)) % (10 : Int32))), .val (.ref (res1 ((p1 &&& (2147483647 : Int32)) % (10 : Int32)) w_S w_N w_B w_BOOL w_NULL w_M w_L w_SS w_NS w_BS)), .val (.int (mg0_16_s0 p1)), .val (.int (res2 (res1 ((p1 &&& (2147483647 : Int32)) % (10 : Int32)) w_S w_N w_B w_BOOL w_NULL w_M w_L w_SS w_NS w_BS) w_SS w_NS w_BS)), .val (.ref (res3 ((p1 &&& (2147483647 : Int32)) % (10 : Int32)) w_S w_N w_B))] [(.int ((p1 &&& (2147483647 : Int32)) % (10 : Int32))), (.ref (res3 ((p1 &&& (2147483647 : Int32)) % (10 : Int32)) w_S w_N w_B))])) _
        refine XS.bipush X10.here hx rfl (hb hby at_53) ?_
        show Steps p.tables e below (T10.setTop (mkF m 55 #[.val (.int p1), .val (.int ((p1 &&& (2147483647 : Int32)) % (10 : Int32))), .val (.ref (res1 ((p1 &&& (2147483647 : Int32)) % (10 : Int32)) w_S w_N w_B w_BOOL w_NULL w_M w_L w_SS w_NS w_BS)), .val (.int (mg0_16_s0 p1)), .val (.int (res2 (res1 ((p1 &&& (2147483647 : Int32)) % (10 : Int32)) w_S w_N w_B w_BOOL w_NULL w_M w_L w_SS w_NS w_BS) w_SS w_NS w_BS)), .val (.ref (res3 ((p1 &&& (2147483647 : Int32)) % (10 : Int32)) w_S w_N w_B))] [(.int (7 : Int32)), (.int ((p1 &&& (2147483647 : Int32)) % (10 : Int32))), (.ref (res3 ((p1 &&& (2147483647 : Int32)) % (10 : Int32)) w_S w_N w_B))])) _
        refine XS.isub X10.here hx rfl (hb hby at_55) rfl ?_
        show Steps p.tables e below (T10.setTop (mkF m 56 #[.val (.int p1), .val (.int ((p1 &&& (2147483647 : Int32)) % (10 : Int32))), .val (.ref (res1 ((p1 &&& (2147483647 : Int32)) % (10 : Int32)) w_S w_N w_B w_BOOL w_NULL w_M w_L w_SS w_NS w_BS)), .val (.int (mg0_16_s0 p1)), .val (.int (res2 (res1 ((p1 &&& (2147483647 : Int32)) % (10 : Int32)) w_S w_N w_B w_BOOL w_NULL w_M w_L w_SS w_NS w_BS) w_SS w_NS w_BS)), .val (.ref (res3 ((p1 &&& (2147483647 : Int32)) % (10 : Int32)) w_S w_N w_B))] [(.int (((p1 &&& (2147483647 : Int32)) % (10 : Int32)) - (7 : Int32))), (.ref (res3 ((p1 &&& (2147483647 : Int32)) % (10 : Int32)) w_S w_N w_B))])) _
        refine st11 _ ?_
        exact kt
      by_cases hc59_13 : (res3 ((p1 &&& (2147483647 : Int32)) % (10 : Int32)) w_S w_N w_B) = (res1 (((p1 &&& (2147483647 : Int32)) % (10 : Int32)) - (7 : Int32)) w_S w_N w_B w_BOOL w_NULL w_M w_L w_SS w_NS w_BS)
      · obtain ⟨fs, hr, hrun, hended, hW, hsame⟩ := X11.leave (v := some (.int (1 : Int32))) (fun h => by rw [Bd.returns] at h; cases h)
        refine ⟨_, _, pre12 _ ?_, hrun, hended, _, _, rfl, ?_, ⟨_, rfl⟩, hW, hsame.mono (by decide) (by decide)⟩
        · show Steps p.tables e below (T11.setTop (mkF m 59 #[.val (.int p1), .val (.int ((p1 &&& (2147483647 : Int32)) % (10 : Int32))), .val (.ref (res1 ((p1 &&& (2147483647 : Int32)) % (10 : Int32)) w_S w_N w_B w_BOOL w_NULL w_M w_L w_SS w_NS w_BS)), .val (.int (mg0_16_s0 p1)), .val (.int (res2 (res1 ((p1 &&& (2147483647 : Int32)) % (10 : Int32)) w_S w_N w_B w_BOOL w_NULL w_M w_L w_SS w_NS w_BS) w_SS w_NS w_BS)), .val (.ref (res3 ((p1 &&& (2147483647 : Int32)) % (10 : Int32)) w_S w_N w_B))] [(.ref (res1 (((p1 &&& (2147483647 : Int32)) % (10 : Int32)) - (7 : Int32)) w_S w_N w_B w_BOOL w_NULL w_M w_L w_SS w_NS w_BS)), (.ref (res3 ((p1 &&& (2147483647 : Int32)) % (10 : Int32)) w_S w_N w_B))])) _
          refine Jvm.RoadKit.acmp (g := (mkF m 59 #[.val (.int p1), .val (.int ((p1 &&& (2147483647 : Int32)) % (10 : Int32))), .val (.ref (res1 ((p1 &&& (2147483647 : Int32)) % (10 : Int32)) w_S w_N w_B w_BOOL w_NULL w_M w_L w_SS w_NS w_BS)), .val (.int (mg0_16_s0 p1)), .val (.int (res2 (res1 ((p1 &&& (2147483647 : Int32)) % (10 : Int32)) w_S w_N w_B w_BOOL w_NULL w_M w_L w_SS w_NS w_BS) w_SS w_NS w_BS)), .val (.ref (res3 ((p1 &&& (2147483647 : Int32)) % (10 : Int32)) w_S w_N w_B))] [(.ref (res1 (((p1 &&& (2147483647 : Int32)) % (10 : Int32)) - (7 : Int32)) w_S w_N w_B w_BOOL w_NULL w_M w_L w_SS w_NS w_BS)), (.ref (res3 ((p1 &&& (2147483647 : Int32)) % (10 : Int32)) w_S w_N w_B))])) X11 hx rfl rfl rfl (pc0 := 59) (pc' := 62) (same := true) rfl (hb hby at_59) rfl (decide_eq_true (congrArg Value.ref hc59_13)) (by decide) (by decide) ?_
          show Steps p.tables e below (T11.setTop (mkF m 62 #[.val (.int p1), .val (.int ((p1 &&& (2147483647 : Int32)) % (10 : Int32))), .val (.ref (res1 ((p1 &&& (2147483647 : Int32)) % (10 : Int32)) w_S w_N w_B w_BOOL w_NULL w_M w_L w_SS w_NS w_BS)), .val (.int (mg0_16_s0 p1)), .val (.int (res2 (res1 ((p1 &&& (2147483647 : Int32)) % (10 : Int32)) w_S w_N w_B w_BOOL w_NULL w_M w_L w_SS w_NS w_BS) w_SS w_NS w_BS)), .val (.ref (res3 ((p1 &&& (2147483647 : Int32)) % (10 : Int32)) w_S w_N w_B))] [])) _
          refine XS.iconst X11.here hx rfl (hb hby at_62) ?_
          show Steps p.tables e below (T11.setTop (mkF m 63 #[.val (.int p1), .val (.int ((p1 &&& (2147483647 : Int32)) % (10 : Int32))), .val (.ref (res1 ((p1 &&& (2147483647 : Int32)) % (10 : Int32)) w_S w_N w_B w_BOOL w_NULL w_M w_L w_SS w_NS w_BS)), .val (.int (mg0_16_s0 p1)), .val (.int (res2 (res1 ((p1 &&& (2147483647 : Int32)) % (10 : Int32)) w_S w_N w_B w_BOOL w_NULL w_M w_L w_SS w_NS w_BS) w_SS w_NS w_BS)), .val (.ref (res3 ((p1 &&& (2147483647 : Int32)) % (10 : Int32)) w_S w_N w_B))] [(.int (1 : Int32))])) _
          refine XS.goto X11.here hx rfl (pc0 := 63) (pc' := 67) rfl (hb hby at_63) (by decide) (by decide) ?_
          show Steps p.tables e below (T11.setTop (mkF m 67 #[.val (.int p1), .val (.int ((p1 &&& (2147483647 : Int32)) % (10 : Int32))), .val (.ref (res1 ((p1 &&& (2147483647 : Int32)) % (10 : Int32)) w_S w_N w_B w_BOOL w_NULL w_M w_L w_SS w_NS w_BS)), .val (.int (mg0_16_s0 p1)), .val (.int (res2 (res1 ((p1 &&& (2147483647 : Int32)) % (10 : Int32)) w_S w_N w_B w_BOOL w_NULL w_M w_L w_SS w_NS w_BS) w_SS w_NS w_BS)), .val (.ref (res3 ((p1 &&& (2147483647 : Int32)) % (10 : Int32)) w_S w_N w_B))] [(.int (1 : Int32))])) _
          exact retN X11 hx (t := .boolean) Bd.returns (by simp) (hb hby at_67) hr
        · show Q0 Z p1 w_S w_N w_B w_BOOL w_NULL w_M w_L w_SS w_NS w_BS h0 n0 _ T11.heap _
          rw [e11]
          exact ⟨by rw [res0, if_pos hc34_7, if_neg hc41_9, if_pos hc59_13], N11⟩
      · obtain ⟨fs, hr, hrun, hended, hW, hsame⟩ := X11.leave (v := some (.int (0 : Int32))) (fun h => by rw [Bd.returns] at h; cases h)
        refine ⟨_, _, pre12 _ ?_, hrun, hended, _, _, rfl, ?_, ⟨_, rfl⟩, hW, hsame.mono (by decide) (by decide)⟩
        · show Steps p.tables e below (T11.setTop (mkF m 59 #[.val (.int p1), .val (.int ((p1 &&& (2147483647 : Int32)) % (10 : Int32))), .val (.ref (res1 ((p1 &&& (2147483647 : Int32)) % (10 : Int32)) w_S w_N w_B w_BOOL w_NULL w_M w_L w_SS w_NS w_BS)), .val (.int (mg0_16_s0 p1)), .val (.int (res2 (res1 ((p1 &&& (2147483647 : Int32)) % (10 : Int32)) w_S w_N w_B w_BOOL w_NULL w_M w_L w_SS w_NS w_BS) w_SS w_NS w_BS)), .val (.ref (res3 ((p1 &&& (2147483647 : Int32)) % (10 : Int32)) w_S w_N w_B))] [(.ref (res1 (((p1 &&& (2147483647 : Int32)) % (10 : Int32)) - (7 : Int32)) w_S w_N w_B w_BOOL w_NULL w_M w_L w_SS w_NS w_BS)), (.ref (res3 ((p1 &&& (2147483647 : Int32)) % (10 : Int32)) w_S w_N w_B))])) _
          refine Jvm.RoadKit.acmp (g := (mkF m 59 #[.val (.int p1), .val (.int ((p1 &&& (2147483647 : Int32)) % (10 : Int32))), .val (.ref (res1 ((p1 &&& (2147483647 : Int32)) % (10 : Int32)) w_S w_N w_B w_BOOL w_NULL w_M w_L w_SS w_NS w_BS)), .val (.int (mg0_16_s0 p1)), .val (.int (res2 (res1 ((p1 &&& (2147483647 : Int32)) % (10 : Int32)) w_S w_N w_B w_BOOL w_NULL w_M w_L w_SS w_NS w_BS) w_SS w_NS w_BS)), .val (.ref (res3 ((p1 &&& (2147483647 : Int32)) % (10 : Int32)) w_S w_N w_B))] [(.ref (res1 (((p1 &&& (2147483647 : Int32)) % (10 : Int32)) - (7 : Int32)) w_S w_N w_B w_BOOL w_NULL w_M w_L w_SS w_NS w_BS)), (.ref (res3 ((p1 &&& (2147483647 : Int32)) % (10 : Int32)) w_S w_N w_B))])) X11 hx rfl rfl rfl (pc0 := 59) (pc' := 66) (same := false) rfl (hb hby at_59) rfl (decide_eq_false fun q => hc59_13 (Value.ref.inj q)) (by decide) (by decide) ?_
          show Steps p.tables e below (T11.setTop (mkF m 66 #[.val (.int p1), .val (.int ((p1 &&& (2147483647 : Int32)) % (10 : Int32))), .val (.ref (res1 ((p1 &&& (2147483647 : Int32)) % (10 : Int32)) w_S w_N w_B w_BOOL w_NULL w_M w_L w_SS w_NS w_BS)), .val (.int (mg0_16_s0 p1)), .val (.int (res2 (res1 ((p1 &&& (2147483647 : Int32)) % (10 : Int32)) w_S w_N w_B w_BOOL w_NULL w_M w_L w_SS w_NS w_BS) w_SS w_NS w_BS)), .val (.ref (res3 ((p1 &&& (2147483647 : Int32)) % (10 : Int32)) w_S w_N w_B))] [])) _
          refine XS.iconst X11.here hx rfl (hb hby at_66) ?_
          show Steps p.tables e below (T11.setTop (mkF m 67 #[.val (.int p1), .val (.int ((p1 &&& (2147483647 : Int32)) % (10 : Int32))), .val (.ref (res1 ((p1 &&& (2147483647 : Int32)) % (10 : Int32)) w_S w_N w_B w_BOOL w_NULL w_M w_L w_SS w_NS w_BS)), .val (.int (mg0_16_s0 p1)), .val (.int (res2 (res1 ((p1 &&& (2147483647 : Int32)) % (10 : Int32)) w_S w_N w_B w_BOOL w_NULL w_M w_L w_SS w_NS w_BS) w_SS w_NS w_BS)), .val (.ref (res3 ((p1 &&& (2147483647 : Int32)) % (10 : Int32)) w_S w_N w_B))] [(.int (0 : Int32))])) _
          exact retN X11 hx (t := .boolean) Bd.returns (by simp) (hb hby at_67) hr
        · show Q0 Z p1 w_S w_N w_B w_BOOL w_NULL w_M w_L w_SS w_NS w_BS h0 n0 _ T11.heap _
          rw [e11]
          exact ⟨by rw [res0, if_pos hc34_7, if_neg hc41_9, if_neg hc59_13], N11⟩
  · obtain ⟨fs, hr, hrun, hended, hW, hsame⟩ := X5.leave (v := some (.int (0 : Int32))) (fun h => by rw [Bd.returns] at h; cases h)
    refine ⟨_, _, pre6 _ ?_, hrun, hended, _, _, rfl, ?_, ⟨_, rfl⟩, hW, hsame.mono (by decide) (by decide)⟩
    · show Steps p.tables e below (T5.setTop (mkF m 34 #[.val (.int p1), .val (.int ((p1 &&& (2147483647 : Int32)) % (10 : Int32))), .val (.ref (res1 ((p1 &&& (2147483647 : Int32)) % (10 : Int32)) w_S w_N w_B w_BOOL w_NULL w_M w_L w_SS w_NS w_BS)), .val (.int (mg0_16_s0 p1)), .val (.int (res2 (res1 ((p1 &&& (2147483647 : Int32)) % (10 : Int32)) w_S w_N w_B w_BOOL w_NULL w_M w_L w_SS w_NS w_BS) w_SS w_NS w_BS)), .unset] [(.int (mg0_16_s0 p1)), (.int (res2 (res1 ((p1 &&& (2147483647 : Int32)) % (10 : Int32)) w_S w_N w_B w_BOOL w_NULL w_M w_L w_SS w_NS w_BS) w_SS w_NS w_BS))])) _
      refine XS.icmpNo X5.here hx rfl (hb hby at_34) rfl (feq hc34_7).1 ?_
      show Steps p.tables e below (T5.setTop (mkF m 37 #[.val (.int p1), .val (.int ((p1 &&& (2147483647 : Int32)) % (10 : Int32))), .val (.ref (res1 ((p1 &&& (2147483647 : Int32)) % (10 : Int32)) w_S w_N w_B w_BOOL w_NULL w_M w_L w_SS w_NS w_BS)), .val (.int (mg0_16_s0 p1)), .val (.int (res2 (res1 ((p1 &&& (2147483647 : Int32)) % (10 : Int32)) w_S w_N w_B w_BOOL w_NULL w_M w_L w_SS w_NS w_BS) w_SS w_NS w_BS)), .unset] [])) _
      refine XS.iconst X5.here hx rfl (hb hby at_37) ?_
      show Steps p.tables e below (T5.setTop (mkF m 38 #[.val (.int p1), .val (.int ((p1 &&& (2147483647 : Int32)) % (10 : Int32))), .val (.ref (res1 ((p1 &&& (2147483647 : Int32)) % (10 : Int32)) w_S w_N w_B w_BOOL w_NULL w_M w_L w_SS w_NS w_BS)), .val (.int (mg0_16_s0 p1)), .val (.int (res2 (res1 ((p1 &&& (2147483647 : Int32)) % (10 : Int32)) w_S w_N w_B w_BOOL w_NULL w_M w_L w_SS w_NS w_BS) w_SS w_NS w_BS)), .unset] [(.int (0 : Int32))])) _
      exact retN X5 hx (t := .boolean) Bd.returns (by simp) (hb hby at_38) hr
    · show Q0 Z p1 w_S w_N w_B w_BOOL w_NULL w_M w_L w_SS w_NS w_BS h0 n0 _ T5.heap _
      rw [e5]
      exact ⟨by rw [res0, if_neg hc34_7], N5⟩
theorem own_fin (p1 : Int32) (w_S w_N w_B w_BOOL w_NULL w_M w_L w_SS w_NS w_BS : Addr) (hD : Dis w_S w_N w_B w_BOOL w_NULL w_M w_L w_SS w_NS w_BS) : (res0 p1 w_S w_N w_B w_BOOL w_NULL w_M w_L w_SS w_NS w_BS) = 1 := by
  have e3 := own_range_10 (own_rng p1).1 (own_rng p1).2
  unfold Dis at hD
  unfold res0 mg0_16_s0
  generalize ((p1 &&& (2147483647 : Int32)) % (10 : Int32)) = i at e3
  rcases e3 with rfl | rfl | rfl | rfl | rfl | rfl | rfl | rfl | rfl | rfl <;> simp [res1, res2, res3, hD]
set_option maxRecDepth 65536 in
set_option maxHeartbeats 40000000 in
theorem comes_1 {Post : Tables → Env → Array Value → State → Outcome → State → Prop} (hpost : ∀ tb e args s v u, (limb_1_1.after args s (.returned v) u = true ∧ limb_1_2.after args s (.returned v) u = true ∧ True) → FrameEnd s (.returned v) u (Jvm.fieldLocs frame_1_writes args s ++ Jvm.arrayLocs frame_1_arrays args s ++ Jvm.staticLocs frame_1_statics s) 0 0 → Post tb e args s (.returned v) u) :
    ArmFor flags0 classFile x code maxLocals ret World_1 tables_1 room_1 Calls_1 rest_1 Pre_1 Post := by
  intro l hfl _ _ p e ha hc hk s m args below hf hA hF happ hP
  obtain ⟨hcalls, hrest, hpre⟩ := hP
  obtain ⟨-, -, -, hnamed, -, -, -, hat⟩ := (Spec.applies_iff hf).mp happ
  obtain ⟨hg, hn⟩ := and_e (Cond.before_iff.mp (show (Jvm.Cond.and given_1 narrow_1).before args s = true from hpre))
  obtain ⟨ga0, gb0⟩ := and_e hg
  obtain ⟨w0, rfl⟩ : ∃ w0 : Value, args = #[w0] := by
    have hs : args.size = 1 := by simpa [Cond.value, given_1] using ga0
    obtain ⟨L⟩ := args
    match L, hs with
    | [w0], _ => exact ⟨w0, rfl⟩
  have hw := fun d (hd : d ∈ tables_1) => atoms_spec (ws := Jvm.Cond.code x code maxLocals ret :: tables_1) hat d (List.mem_cons_of_mem _ hd)
  have hfit : Fit s := fun {y c} hc i hi => by
    obtain ⟨ha, rfl⟩ := Array.getElem?_eq_some_iff.mp hc
    have q := List.all_eq_true.mp ((Array.all_eq_true_iff_forall_mem.mp hF) _ (Array.getElem_mem ha)) i (List.mem_range.mpr hi)
    simpa [Array.getElem?_eq_getElem hi] using q
  obtain ⟨i0, ei0⟩ := is_v gb0
  obtain rfl : w0 = (.int i0) := Option.some.inj ei0
  obtain ⟨na1, nb1⟩ := and_e hn
  obtain ⟨na2, nb2⟩ := and_e nb1
  obtain ⟨na3, nb3⟩ := and_e nb2
  obtain ⟨na4, nb4⟩ := and_e nb3
  obtain ⟨na5, nb5⟩ := and_e nb4
  obtain ⟨na6, nb6⟩ := and_e nb5
  obtain ⟨na7, nb7⟩ := and_e nb6
  obtain ⟨na8, nb8⟩ := and_e nb7
  obtain ⟨na9, nb9⟩ := and_e nb8
  obtain ⟨na10, nb10⟩ := and_e nb9
  obtain ⟨na11, nb11⟩ := and_e nb10
  obtain ⟨na12, nb12⟩ := and_e nb11
  obtain ⟨na13, nb13⟩ := and_e nb12
  obtain ⟨na14, nb14⟩ := and_e nb13
  obtain ⟨na15, nb15⟩ := and_e nb14
  obtain ⟨na16, nb16⟩ := and_e nb15
  obtain ⟨na17, nb17⟩ := and_e nb16
  obtain ⟨na18, nb18⟩ := and_e nb17
  obtain ⟨na19, nb19⟩ := and_e nb18
  obtain ⟨w_S, ev_S⟩ := exa_v na1
  have S_S := Sta.start ev_S (Or.inr ⟨(hw _ (List.mem_of_getElem? (i := 6) rfl)), (hw _ (List.mem_of_getElem? (i := 7) rfl))⟩)
  have E_w_S := Exa.start ev_S na1
  obtain ⟨w_SS, ev_SS⟩ := exa_v na2
  have S_SS := Sta.start ev_SS (Or.inr ⟨(hw _ (List.mem_of_getElem? (i := 6) rfl)), (hw _ (List.mem_of_getElem? (i := 14) rfl))⟩)
  have E_w_SS := Exa.start ev_SS na2
  have F_ordinal_w_S := Fld.start ((fld_at ev_S).symm.trans (own_eqv (Or.inl ⟨_, rfl⟩) (Term.int_eval _) na3))
  have F_ordinal_w_SS := Fld.start ((fld_at ev_SS).symm.trans (own_eqv (Or.inl ⟨_, rfl⟩) (Term.int_eval _) na4))
  obtain ⟨w_NS, ev_NS⟩ := exa_v na5
  have S_NS := Sta.start ev_NS (Or.inr ⟨(hw _ (List.mem_of_getElem? (i := 6) rfl)), (hw _ (List.mem_of_getElem? (i := 16) rfl))⟩)
  have E_w_NS := Exa.start ev_NS na5
  have F_ordinal_w_NS := Fld.start ((fld_at ev_NS).symm.trans (own_eqv (Or.inl ⟨_, rfl⟩) (Term.int_eval _) na6))
  obtain ⟨w_BS, ev_BS⟩ := exa_v na7
  have S_BS := Sta.start ev_BS (Or.inr ⟨(hw _ (List.mem_of_getElem? (i := 6) rfl)), (hw _ (List.mem_of_getElem? (i := 18) rfl))⟩)
  have E_w_BS := Exa.start ev_BS na7
  have F_ordinal_w_BS := Fld.start ((fld_at ev_BS).symm.trans (own_eqv (Or.inl ⟨_, rfl⟩) (Term.int_eval _) na8))
  obtain ⟨w_BOOL, ev_BOOL⟩ := exa_v na9
  have S_BOOL := Sta.start ev_BOOL (Or.inr ⟨(hw _ (List.mem_of_getElem? (i := 6) rfl)), (hw _ (List.mem_of_getElem? (i := 20) rfl))⟩)
  have E_w_BOOL := Exa.start ev_BOOL na9
  have F_ordinal_w_BOOL := Fld.start ((fld_at ev_BOOL).symm.trans (own_eqv (Or.inl ⟨_, rfl⟩) (Term.int_eval _) na10))
  obtain ⟨w_N, ev_N⟩ := exa_v na11
  have S_N := Sta.start ev_N (Or.inr ⟨(hw _ (List.mem_of_getElem? (i := 6) rfl)), (hw _ (List.mem_of_getElem? (i := 22) rfl))⟩)
  have E_w_N := Exa.start ev_N na11
  have F_ordinal_w_N := Fld.start ((fld_at ev_N).symm.trans (own_eqv (Or.inl ⟨_, rfl⟩) (Term.int_eval _) na12))
  obtain ⟨w_NULL, ev_NULL⟩ := exa_v na13
  have S_NULL := Sta.start ev_NULL (Or.inr ⟨(hw _ (List.mem_of_getElem? (i := 6) rfl)), (hw _ (List.mem_of_getElem? (i := 24) rfl))⟩)
  have E_w_NULL := Exa.start ev_NULL na13
  have F_ordinal_w_NULL := Fld.start ((fld_at ev_NULL).symm.trans (own_eqv (Or.inl ⟨_, rfl⟩) (Term.int_eval _) na14))
  obtain ⟨w_B, ev_B⟩ := exa_v na15
  have S_B := Sta.start ev_B (Or.inr ⟨(hw _ (List.mem_of_getElem? (i := 6) rfl)), (hw _ (List.mem_of_getElem? (i := 42) rfl))⟩)
  have E_w_B := Exa.start ev_B na15
  have F_ordinal_w_B := Fld.start ((fld_at ev_B).symm.trans (own_eqv (Or.inl ⟨_, rfl⟩) (Term.int_eval _) na16))
  obtain ⟨w_M, ev_M⟩ := exa_v na17
  have S_M := Sta.start ev_M (Or.inr ⟨(hw _ (List.mem_of_getElem? (i := 6) rfl)), (hw _ (List.mem_of_getElem? (i := 48) rfl))⟩)
  have E_w_M := Exa.start ev_M na17
  have F_ordinal_w_M := Fld.start ((fld_at ev_M).symm.trans (own_eqv (Or.inl ⟨_, rfl⟩) (Term.int_eval _) na18))
  obtain ⟨w_L, ev_L⟩ := exa_v na19
  have S_L := Sta.start ev_L (Or.inr ⟨(hw _ (List.mem_of_getElem? (i := 6) rfl)), (hw _ (List.mem_of_getElem? (i := 50) rfl))⟩)
  have E_w_L := Exa.start ev_L na19
  have F_ordinal_w_L := Fld.start ((fld_at ev_L).symm.trans (own_eqv (Or.inl ⟨_, rfl⟩) (Term.int_eval _) nb19))
  have hD : Dis w_S w_N w_B w_BOOL w_NULL w_M w_L w_SS w_NS w_BS := ⟨Fld.ne F_ordinal_w_S F_ordinal_w_SS (by decide), Fld.ne F_ordinal_w_S F_ordinal_w_NS (by decide), Fld.ne F_ordinal_w_S F_ordinal_w_BS (by decide), Fld.ne F_ordinal_w_N F_ordinal_w_SS (by decide), Fld.ne F_ordinal_w_N F_ordinal_w_NS (by decide), Fld.ne F_ordinal_w_N F_ordinal_w_BS (by decide), Fld.ne F_ordinal_w_B F_ordinal_w_SS (by decide), Fld.ne F_ordinal_w_B F_ordinal_w_NS (by decide), Fld.ne F_ordinal_w_B F_ordinal_w_BS (by decide), Fld.ne F_ordinal_w_BOOL F_ordinal_w_SS (by decide), Fld.ne F_ordinal_w_BOOL F_ordinal_w_NS (by decide), Fld.ne F_ordinal_w_BOOL F_ordinal_w_BS (by decide), Fld.ne F_ordinal_w_NULL F_ordinal_w_SS (by decide), Fld.ne F_ordinal_w_NULL F_ordinal_w_NS (by decide), Fld.ne F_ordinal_w_NULL F_ordinal_w_BS (by decide), Fld.ne F_ordinal_w_M F_ordinal_w_SS (by decide), Fld.ne F_ordinal_w_M F_ordinal_w_NS (by decide), Fld.ne F_ordinal_w_M F_ordinal_w_BS (by decide), Fld.ne F_ordinal_w_L F_ordinal_w_SS (by decide), Fld.ne F_ordinal_w_L F_ordinal_w_NS (by decide), Fld.ne F_ordinal_w_L F_ordinal_w_BS (by decide)⟩
  obtain ⟨n, o, h1, h2, h3, _, L, rfl, ⟨rfl, N⟩, hq⟩ := rm0 l s _ hw tables_1 i0 w_S w_N w_B w_BOOL w_NULL w_M w_L w_SS w_NS w_BS s.heap s.heap.size (Nat.le_refl _) S_S E_w_S S_N E_w_N S_B E_w_B S_BOOL E_w_BOOL S_NULL E_w_NULL S_M E_w_M S_L E_w_L S_SS E_w_SS S_NS E_w_NS S_BS E_w_BS F_ordinal_w_S F_ordinal_w_N F_ordinal_w_B F_ordinal_w_BOOL F_ordinal_w_NULL F_ordinal_w_M F_ordinal_w_L F_ordinal_w_SS F_ordinal_w_NS F_ordinal_w_BS hD p e ha hc hk s m _ below hf ((Spec.applies_iff_loose hf).mp happ).1 ⟨rfl, State.Warmed39.refl s, rfl⟩ trivial
  have hfin : (res0 i0 w_S w_N w_B w_BOOL w_NULL w_M w_L w_SS w_NS w_BS) = (1 : Int32) := own_fin i0 w_S w_N w_B w_BOOL w_NULL w_M w_L w_SS w_NS w_BS hD
  refine ⟨n, _, h1, h2, h3, hpost _ _ _ _ _ _ ⟨Cond.after_iff.mpr rfl, Cond.after_iff.mpr (eq_i res_at (Term.int_eval (1)) (by rw [hfin])), trivial⟩ ⟨hq.1, hq.2.1, (hq.2.2.sift fun y hy => Or.inr (N y hy)).mono (by decide) (by decide)⟩⟩
theorem main_1_1 : Claimed_1_1 := comes_1 fun _ _ _ _ _ _ h hF => ⟨h.1, hF⟩
theorem main_1_2 : Claimed_1_2 := comes_1 fun _ _ _ _ _ _ h hF => ⟨h.2.1, hF⟩
end Jvm.Pilot.@@N@@
namespace Jvm.Pilot.@@N@@
open Jvm Jvm.ClassFile Sem Op Lib Jvm.Free Jvm.Stand Jvm.Pilot.@@N@@.Jvm.D
/-! MADE BY PROGRAM (witnessworld.py) out of the Statement's table words and the real class files: 12 classes; the members and pool entries that the words name. The judged class is class 1, her method 2. -/
namespace start1
open Jvm.ClassFile
def u (s : String) : CpInfo := .utf8 (stringToUtf16 s)
/-- a pool by its gaps: so many unusable entries, then the entry; so many at the end -/
def gap : Nat → List CpInfo → List CpInfo
  | 0, r => r
  | n + 1, r => .unusable :: gap n r
def poolList (es : List (Nat × CpInfo)) (last : Nat) : List CpInfo := es.foldr (fun e r => gap e.1 (e.2 :: r)) (gap last [])
def pool (es : List (Nat × CpInfo)) (last : Nat) : Array CpInfo := ⟨poolList es last⟩
def fileOf (pool : Array CpInfo) (this : Nat) (attrs : Array Attribute := #[]) (ms : Array MethodInfo := #[]) (fl : Nat := 33) (sup : Nat := 0) (ifs : Array Nat := #[]) (fds : Array FieldInfo := #[]) : ClassFile where
  minorVersion := 0
  majorVersion := 65
  constantPool := pool
  accessFlags := fl
  thisClass := this
  superClass := sup
  interfaces := ifs
  fields := fds
  methods := ms
  attributes := attrs
def plain (name : String) (sup : Option ClassId) : Class where
  name := name
  kind := .ordinary
  loader := none
  accessFlags := 33
  super := sup
  interfaces := #[]
  cf := none
  fields := #[]
  methods := #[]
  instanceTypes := #[]
  staticTypes := #[]
  resolved := #[]
  callSites := []
  init := .initialized
  statics := none
  mirror := none

def pool0 : Array CpInfo := pool [(5, u "<init>"), (0, u "()V"), (1, .class_ 10), (1, u "java/lang/Object")] 113

def k0m0 : Method := { name := "<init>", desc := "()V", sig := { parameters := [], returnType := none }, accessFlags := 1, code := none }
/-- java/lang/Object -/
def k0 : Class := { plain "java/lang/Object" none with
  accessFlags := 33
  interfaces := #[]
  cf := some (fileOf pool0 8 #[] #[{ accessFlags := 1, nameIndex := 5, descriptorIndex := 6, attributes := #[] }] 33 0 #[] #[])
  fields := #[]
  methods := #[k0m0]
  instanceTypes := #[]
  staticTypes := #[]
  resolved := Array.replicate 124 none
  statics := none }

def pool1 : Array CpInfo := pool [(2, .class_ 4), (1, u "java/lang/Object"), (0, u "<init>"), (0, u "()V"), (0, .fieldref 8 9), (0, .class_ 10), (0, .nameAndType 11 12), (0, u "com/example/elliott_bay/elliottbay/value/AttributeType"), (0, u "S"), (0, u "Lcom/example/elliott_bay/elliottbay/value/AttributeType;"), (0, .fieldref 8 14), (0, .nameAndType 15 12), (0, u "N"), (0, .fieldref 8 17), (0, .nameAndType 18 12), (0, u "B"), (0, .fieldref 8 20), (0, .nameAndType 21 12), (0, u "BOOL"), (0, .fieldref 8 23), (0, .nameAndType 24 12), (0, u "NULL"), (0, .fieldref 8 26), (0, .nameAndType 27 12), (0, u "M"), (0, .fieldref 8 29), (0, .nameAndType 30 12), (0, u "L"), (0, .fieldref 8 32), (0, .nameAndType 33 12), (0, u "SS"), (0, .fieldref 8 35), (0, .nameAndType 36 12), (0, u "NS"), (0, .fieldref 8 38), (0, .nameAndType 39 12), (0, u "BS"), (0, .integer 2147483647), (0, .methodref 42 43), (0, .class_ 44), (0, .nameAndType 45 46), (0, u "com/example/elliott_bay/elliottbay/value/AttributeTypeIsSetPinLaw"), (0, u "pick"), (0, u "(I)Lcom/example/elliott_bay/elliottbay/value/AttributeType;"), (0, .methodref 8 48), (0, .nameAndType 49 50), (0, u "isSet"), (0, u "()Z"), (0, .methodref 8 52), (0, .nameAndType 53 54), (0, u "memberType"), (0, u "()Lcom/example/elliott_bay/elliottbay/value/AttributeType;"), (3, u "law"), (0, u "(I)Z")] 2

def k1m0 : Method := { name := "<init>", desc := "()V", sig := { parameters := [], returnType := none }, accessFlags := 2, code := none }
def k1c1 : Code := { maxStack := 2, maxLocals := 1, code := method_2_code, exceptionTable := #[], attributes := #[] }
def k1m1 : Method := { name := "pick", desc := "(I)Lcom/example/elliott_bay/elliottbay/value/AttributeType;", sig := { parameters := [.int], returnType := some (.object "com/example/elliott_bay/elliottbay/value/AttributeType") }, accessFlags := 10, code := some k1c1 }
def k1c2 : Code := { maxStack := 3, maxLocals := 6, code := code, exceptionTable := #[], attributes := #[] }
def k1m2 : Method := { name := "law", desc := "(I)Z", sig := { parameters := [.int], returnType := some .boolean }, accessFlags := 9, code := some k1c2 }
/-- com/example/elliott_bay/elliottbay/value/AttributeTypeIsSetPinLaw -/
def k1 : Class := { plain "com/example/elliott_bay/elliottbay/value/AttributeTypeIsSetPinLaw" (some 0) with
  accessFlags := 49
  interfaces := #[]
  cf := some (fileOf pool1 42 #[] #[{ accessFlags := 2, nameIndex := 5, descriptorIndex := 6, attributes := #[] }, { accessFlags := 10, nameIndex := 45, descriptorIndex := 46, attributes := #[] }, { accessFlags := 9, nameIndex := 58, descriptorIndex := 59, attributes := #[] }] 49 2 #[] #[])
  fields := #[]
  methods := #[k1m0, k1m1, k1m2]
  instanceTypes := #[]
  staticTypes := #[]
  resolved := Array.replicate 62 none
  statics := none }

def pool2 : Array CpInfo := pool [(1, .class_ 2), (0, u "java/lang/constant/Constable"), (0, .class_ 4), (0, u "java/lang/Object")] 6

/-- java/lang/constant/Constable -/
def k2 : Class := { plain "java/lang/constant/Constable" (some 0) with
  accessFlags := 1537
  interfaces := #[]
  cf := some (fileOf pool2 1 #[] #[] 1537 3 #[] #[])
  fields := #[]
  methods := #[]
  instanceTypes := #[]
  staticTypes := #[]
  resolved := Array.replicate 11 none
  statics := none }

def pool3 : Array CpInfo := pool [(1, .class_ 2), (0, u "java/lang/Comparable"), (0, .class_ 4), (0, u "java/lang/Object")] 7

/-- java/lang/Comparable -/
def k3 : Class := { plain "java/lang/Comparable" (some 0) with
  accessFlags := 1537
  interfaces := #[]
  cf := some (fileOf pool3 1 #[] #[] 1537 3 #[] #[])
  fields := #[]
  methods := #[]
  instanceTypes := #[]
  staticTypes := #[]
  resolved := Array.replicate 12 none
  statics := none }

def pool4 : Array CpInfo := pool [(1, .class_ 2), (0, u "java/io/Serializable"), (0, .class_ 4), (0, u "java/lang/Object")] 2

/-- java/io/Serializable -/
def k4 : Class := { plain "java/io/Serializable" (some 0) with
  accessFlags := 1537
  interfaces := #[]
  cf := some (fileOf pool4 1 #[] #[] 1537 3 #[] #[])
  fields := #[]
  methods := #[]
  instanceTypes := #[]
  staticTypes := #[]
  resolved := Array.replicate 7 none
  statics := none }

def pool5 : Array CpInfo := pool [(2, .class_ 4), (1, u "java/lang/Enum"), (0, u "name"), (0, u "Ljava/lang/String;"), (0, .fieldref 2 8), (0, .nameAndType 9 10), (0, u "ordinal"), (0, u "I"), (1, .class_ 14), (1, u "java/lang/Object"), (4, u "hash"), (86, .class_ 108), (1, u "java/lang/Enum$EnumDesc"), (2, .class_ 112), (0, u "java/lang/constant/Constable"), (0, .class_ 114), (0, u "java/lang/Comparable"), (0, .class_ 116), (0, u "java/io/Serializable"), (9, u "()I")] 77

def k5c0 : Code := { maxStack := 1, maxLocals := 1, code := jdk_37_method_2_code, exceptionTable := #[], attributes := #[] }
def k5m0 : Method := { name := "ordinal", desc := "()I", sig := { parameters := [], returnType := some .int }, accessFlags := 17, code := some k5c0 }
/-- java/lang/Enum -/
def k5 : Class := { plain "java/lang/Enum" (some 0) with
  accessFlags := 1057
  interfaces := #[2, 3, 4]
  cf := some (fileOf pool5 2 #[.nestMembers #[106]] #[{ accessFlags := 17, nameIndex := 9, descriptorIndex := 126, attributes := #[] }] 1057 12 #[111, 113, 115] #[{ accessFlags := 18, nameIndex := 5, descriptorIndex := 6, attributes := #[] }, { accessFlags := 18, nameIndex := 9, descriptorIndex := 10, attributes := #[] }, { accessFlags := 2, nameIndex := 19, descriptorIndex := 10, attributes := #[] }])
  fields := #[{ name := "name", type := (.object "java/lang/String"), accessFlags := 18, slot := 0, constantValue := 0 }, { name := "ordinal", type := .int, accessFlags := 18, slot := 1, constantValue := 0 }, { name := "hash", type := .int, accessFlags := 2, slot := 2, constantValue := 0 }]
  methods := #[k5m0]
  instanceTypes := #[(.object "java/lang/String"), .int, .int]
  staticTypes := #[]
  resolved := Array.replicate 204 none
  statics := none }

def pool6 : Array CpInfo := pool [(1, .class_ 2), (0, u "com/example/elliott_bay/elliottbay/value/AttributeType"), (0, .fieldref 1 4), (0, .nameAndType 5 6), (0, u "S"), (0, u "Lcom/example/elliott_bay/elliottbay/value/AttributeType;"), (0, .fieldref 1 8), (0, .nameAndType 9 6), (0, u "N"), (0, .fieldref 1 11), (0, .nameAndType 12 6), (0, u "B"), (2, u "BOOL"), (2, u "NULL"), (2, u "M"), (2, u "L"), (0, .fieldref 1 26), (0, .nameAndType 27 6), (0, u "SS"), (0, .fieldref 1 29), (0, .nameAndType 30 6), (0, u "NS"), (0, .fieldref 1 32), (0, .nameAndType 33 6), (0, u "BS"), (2, u "$VALUES"), (0, u "[Lcom/example/elliott_bay/elliottbay/value/AttributeType;"), (6, .class_ 46), (1, u "java/lang/Enum"), (6, .methodref 1 54), (0, .nameAndType 55 56), (0, u "ordinal"), (0, u "()I"), (37, u "()Z"), (1, u "isSet"), (0, u "memberType"), (0, u "()Lcom/example/elliott_bay/elliottbay/value/AttributeType;")] 19

def k6c0 : Code := { maxStack := 2, maxLocals := 1, code := prog_109_method_5_code, exceptionTable := #[], attributes := #[] }
def k6m0 : Method := { name := "isSet", desc := "()Z", sig := { parameters := [], returnType := some .boolean }, accessFlags := 1, code := some k6c0 }
def k6c1 : Code := { maxStack := 3, maxLocals := 1, code := prog_109_method_6_code, exceptionTable := #[], attributes := #[] }
def k6m1 : Method := { name := "memberType", desc := "()Lcom/example/elliott_bay/elliottbay/value/AttributeType;", sig := { parameters := [], returnType := some (.object "com/example/elliott_bay/elliottbay/value/AttributeType") }, accessFlags := 1, code := some k6c1 }
/-- com/example/elliott_bay/elliottbay/value/AttributeType -/
def k6 : Class := { plain "com/example/elliott_bay/elliottbay/value/AttributeType" (some 5) with
  accessFlags := 16433
  interfaces := #[]
  cf := some (fileOf pool6 1 #[] #[{ accessFlags := 1, nameIndex := 96, descriptorIndex := 94, attributes := #[] }, { accessFlags := 1, nameIndex := 97, descriptorIndex := 98, attributes := #[] }] 16433 44 #[] #[{ accessFlags := 16409, nameIndex := 5, descriptorIndex := 6, attributes := #[] }, { accessFlags := 16409, nameIndex := 9, descriptorIndex := 6, attributes := #[] }, { accessFlags := 16409, nameIndex := 12, descriptorIndex := 6, attributes := #[] }, { accessFlags := 16409, nameIndex := 15, descriptorIndex := 6, attributes := #[] }, { accessFlags := 16409, nameIndex := 18, descriptorIndex := 6, attributes := #[] }, { accessFlags := 16409, nameIndex := 21, descriptorIndex := 6, attributes := #[] }, { accessFlags := 16409, nameIndex := 24, descriptorIndex := 6, attributes := #[] }, { accessFlags := 16409, nameIndex := 27, descriptorIndex := 6, attributes := #[] }, { accessFlags := 16409, nameIndex := 30, descriptorIndex := 6, attributes := #[] }, { accessFlags := 16409, nameIndex := 33, descriptorIndex := 6, attributes := #[] }, { accessFlags := 4122, nameIndex := 36, descriptorIndex := 37, attributes := #[] }])
  fields := #[{ name := "S", type := (.object "com/example/elliott_bay/elliottbay/value/AttributeType"), accessFlags := 16409, slot := 0, constantValue := 0 }, { name := "N", type := (.object "com/example/elliott_bay/elliottbay/value/AttributeType"), accessFlags := 16409, slot := 1, constantValue := 0 }, { name := "B", type := (.object "com/example/elliott_bay/elliottbay/value/AttributeType"), accessFlags := 16409, slot := 2, constantValue := 0 }, { name := "BOOL", type := (.object "com/example/elliott_bay/elliottbay/value/AttributeType"), accessFlags := 16409, slot := 3, constantValue := 0 }, { name := "NULL", type := (.object "com/example/elliott_bay/elliottbay/value/AttributeType"), accessFlags := 16409, slot := 4, constantValue := 0 }, { name := "M", type := (.object "com/example/elliott_bay/elliottbay/value/AttributeType"), accessFlags := 16409, slot := 5, constantValue := 0 }, { name := "L", type := (.object "com/example/elliott_bay/elliottbay/value/AttributeType"), accessFlags := 16409, slot := 6, constantValue := 0 }, { name := "SS", type := (.object "com/example/elliott_bay/elliottbay/value/AttributeType"), accessFlags := 16409, slot := 7, constantValue := 0 }, { name := "NS", type := (.object "com/example/elliott_bay/elliottbay/value/AttributeType"), accessFlags := 16409, slot := 8, constantValue := 0 }, { name := "BS", type := (.object "com/example/elliott_bay/elliottbay/value/AttributeType"), accessFlags := 16409, slot := 9, constantValue := 0 }, { name := "$VALUES", type := (.array (.object "com/example/elliott_bay/elliottbay/value/AttributeType")), accessFlags := 4122, slot := 10, constantValue := 0 }]
  methods := #[k6m0, k6m1]
  instanceTypes := #[(.object "java/lang/String"), .int, .int]
  staticTypes := #[(.object "com/example/elliott_bay/elliottbay/value/AttributeType"), (.object "com/example/elliott_bay/elliottbay/value/AttributeType"), (.object "com/example/elliott_bay/elliottbay/value/AttributeType"), (.object "com/example/elliott_bay/elliottbay/value/AttributeType"), (.object "com/example/elliott_bay/elliottbay/value/AttributeType"), (.object "com/example/elliott_bay/elliottbay/value/AttributeType"), (.object "com/example/elliott_bay/elliottbay/value/AttributeType"), (.object "com/example/elliott_bay/elliottbay/value/AttributeType"), (.object "com/example/elliott_bay/elliottbay/value/AttributeType"), (.object "com/example/elliott_bay/elliottbay/value/AttributeType"), (.array (.object "com/example/elliott_bay/elliottbay/value/AttributeType"))]
  resolved := Array.replicate 118 none
  statics := some 0 }

def pool7 : Array CpInfo := pool [(1, u "java/lang/Cloneable"), (0, .class_ 1), (0, u "java/lang/Object"), (0, .class_ 3)] 3

/-- java/lang/Cloneable -/
def k7 : Class := { plain "java/lang/Cloneable" (some 0) with
  accessFlags := 1537
  interfaces := #[]
  cf := some (fileOf pool7 2 #[] #[] 1537 4 #[] #[])
  fields := #[]
  methods := #[]
  instanceTypes := #[]
  staticTypes := #[]
  resolved := Array.replicate 8 none
  statics := none }

/-- the primitive byte -/
def k8 : Class := { plain "byte" none with kind := .primitive 'B', accessFlags := 0x411 }
/-- [B -/
def k9 : Class := { plain "[B" (some 0) with kind := .array 8 .byte, interfaces := #[7, 4], accessFlags := 1041 }

/-- the primitive int -/
def k10 : Class := { plain "int" none with kind := .primitive 'I', accessFlags := 0x411 }
/-- [I -/
def k11 : Class := { plain "[I" (some 0) with kind := .array 10 .int, interfaces := #[7, 4], accessFlags := 1041 }

def heap : Heap := #[{ cls := 6, slots := #[.ref 1, .ref 2, .ref 3, .ref 4, .ref 5, .ref 6, .ref 7, .ref 8, .ref 9, .ref 10, .null], vm := .statics 6 },
  { cls := 6, slots := #[.null, .int 0, .int 0], vm := .none },
  { cls := 6, slots := #[.null, .int 1, .int 0], vm := .none },
  { cls := 6, slots := #[.null, .int 2, .int 0], vm := .none },
  { cls := 6, slots := #[.null, .int 3, .int 0], vm := .none },
  { cls := 6, slots := #[.null, .int 4, .int 0], vm := .none },
  { cls := 6, slots := #[.null, .int 5, .int 0], vm := .none },
  { cls := 6, slots := #[.null, .int 6, .int 0], vm := .none },
  { cls := 6, slots := #[.null, .int 7, .int 0], vm := .none },
  { cls := 6, slots := #[.null, .int 8, .int 0], vm := .none },
  { cls := 6, slots := #[.null, .int 9, .int 0], vm := .none }]
def classes : Array Class := #[k0, k1, k2, k3, k4, k5, k6, k7, k8, k9, k10, k11]
def interned : List (Array UInt16 × Addr) := []
def slotsUsed : Nat := 41
def theMethod : MethodId := ⟨1, 2⟩
def args0 : Array Value := #[.int 8]
def aboutOver (below : List Frame) : State where
  vm := { classes := classes, interned := interned.toArray }
  heap := heap
  slotsUsed := slotsUsed
  threads := #[{ frames := .invoking theMethod args0 :: below }]
def below0 : List Frame := [.native { method := ⟨0, 0⟩, args := #[] }]
def about1 : State := aboutOver below0
def p0 : Program := .bare "" "" ""
def e0 : Env := launch0.env 0 0 0
theorem w_frames : about1.frames = Frame.invoking theMethod args0 :: below0 := rfl
set_option maxRecDepth 65536 in
theorem w_args : argsFit about1.vm theMethod args0 = true := by decide +kernel
set_option maxRecDepth 65536 in
theorem w_heap : heapFits about1 = true := by decide +kernel
set_option maxRecDepth 65536 in
theorem w_runnable : about1.curStatus? = some .runnable := by decide +kernel
set_option maxRecDepth 65536 in
theorem w_alone : about1.alone = true := by decide +kernel
set_option maxRecDepth 65536 in
theorem w_named : about1.methodNamed? x = some theMethod := by decide +kernel
set_option maxRecDepth 65536 in
theorem w_hears : about1.hears theMethod below0 = true := by decide +kernel
set_option maxRecDepth 65536 in
theorem w_ripe : about1.ripe theMethod args0 below0 = true := by decide +kernel
theorem w_running : about1.status = .running := rfl
set_option maxRecDepth 65536 in
theorem w_room : about1.hasRoom e0.platform room_1 = true :=
  launch0.hasRoom_least _ room_1 (by decide +kernel) (by decide +kernel) (by decide +kernel) (by decide +kernel) (by decide +kernel) (by decide +kernel)
theorem allAtoms_all (ts : List Jvm.Cond) (a : Array Jvm.Value) (st : Jvm.State) : (allAtoms ts).before a st = ts.all (fun c => c.before a st) := by
  induction ts with
  | nil => rfl
  | cons c t ih =>
    show (Jvm.Cond.and c (allAtoms t)).before a st = _
    rw [Jvm.Cond.before_and, ih, List.all_cons]
def words1 : List Jvm.Cond := Jvm.Cond.code x code maxLocals ret :: tables_1
/-- a 'code' word, met by the world's own term for the bytes: nothing is compared byte by byte -/
theorem code_word {y : MethodName} {bytes : ByteArray} {mx : Nat} {rt : Option FieldType} {a : Array Value} {s : State} {m : MethodId} {meth : Method} {c : Code} (h1 : s.methodNamed? y = some m) (h2 : s.vm.method? m = some meth) (h3 : meth.code = some c) (h4 : c.code = bytes)
    (h5 : (c.maxLocals == mx && c.exceptionTable.isEmpty && decide (c.maxStack ≤ mostOperands) && decide (meth.sig.returnType = rt) && !meth.locks && decide (parseMethodDescriptor y.desc = some meth.sig)) = true) : (Jvm.Cond.code y bytes mx rt).before a s = true := by
  simp only [Bool.and_eq_true, beq_iff_eq, Bool.not_eq_true', decide_eq_true_eq] at h5
  obtain ⟨⟨⟨⟨⟨g1, g2⟩, g3⟩, g4⟩, g5⟩, g6⟩ := h5
  simp [Cond.before, Cond.holds, Cond.value, h1, h2, h3, h4, g1, g2, g3, g4, g5, g6]
def isCode : Jvm.Cond → Bool
  | .code _ _ _ _ => true
  | _ => false
theorem all_split {L : List Jvm.Cond} {P : Jvm.Cond → Bool} (h1 : L.all (fun c => isCode c || P c) = true) (h2 : ∀ c ∈ L.filter isCode, P c = true) : L.all P = true := by
  refine List.all_eq_true.mpr fun c hc => ?_
  have h := List.all_eq_true.mp h1 c hc
  rcases Bool.eq_false_or_eq_true (isCode c) with hi | hi
  · exact h2 c (List.mem_filter.mpr ⟨hc, hi⟩)
  · simpa [hi] using h
set_option maxRecDepth 65536 in
theorem w_c0 : (Jvm.Cond.code x code maxLocals ret).before args0 about1 = true := code_word (m := ⟨1, 2⟩) (meth := k1m2) (c := k1c2) (by decide +kernel) rfl rfl rfl (by decide +kernel)
set_option maxRecDepth 65536 in
theorem w_c1 : (Jvm.Cond.code ({ cls := "com/example/elliott_bay/elliottbay/value/AttributeTypeIsSetPinLaw", name := "pick", desc := "(I)Lcom/example/elliott_bay/elliottbay/value/AttributeType;" } : Jvm.MethodName) method_2_code (1 : Nat) (Option.some (Jvm.ClassFile.FieldType.object "com/example/elliott_bay/elliottbay/value/AttributeType"))).before args0 about1 = true := code_word (m := ⟨1, 1⟩) (meth := k1m1) (c := k1c1) (by decide +kernel) rfl rfl rfl (by decide +kernel)
set_option maxRecDepth 65536 in
theorem w_c2 : (Jvm.Cond.code ({ cls := "com/example/elliott_bay/elliottbay/value/AttributeType", name := "isSet", desc := "()Z" } : Jvm.MethodName) prog_109_method_5_code (1 : Nat) (Option.some Jvm.ClassFile.FieldType.boolean)).before args0 about1 = true := code_word (m := ⟨6, 0⟩) (meth := k6m0) (c := k6c0) (by decide +kernel) rfl rfl rfl (by decide +kernel)
set_option maxRecDepth 65536 in
theorem w_c3 : (Jvm.Cond.code ({ cls := "com/example/elliott_bay/elliottbay/value/AttributeType", name := "memberType", desc := "()Lcom/example/elliott_bay/elliottbay/value/AttributeType;" } : Jvm.MethodName) prog_109_method_6_code (1 : Nat) (Option.some (Jvm.ClassFile.FieldType.object "com/example/elliott_bay/elliottbay/value/AttributeType"))).before args0 about1 = true := code_word (m := ⟨6, 1⟩) (meth := k6m1) (c := k6c1) (by decide +kernel) rfl rfl rfl (by decide +kernel)
set_option maxRecDepth 65536 in
theorem w_c4 : (Jvm.Cond.code ({ cls := "java/lang/Enum", name := "ordinal", desc := "()I" } : Jvm.MethodName) jdk_37_method_2_code (1 : Nat) (Option.some Jvm.ClassFile.FieldType.int)).before args0 about1 = true := code_word (m := ⟨5, 0⟩) (meth := k5m0) (c := k5c0) (by decide +kernel) rfl rfl rfl (by decide +kernel)
def codes1 : List Jvm.Cond := [Jvm.Cond.code x code maxLocals ret, Jvm.Cond.code ({ cls := "com/example/elliott_bay/elliottbay/value/AttributeTypeIsSetPinLaw", name := "pick", desc := "(I)Lcom/example/elliott_bay/elliottbay/value/AttributeType;" } : Jvm.MethodName) method_2_code (1 : Nat) (Option.some (Jvm.ClassFile.FieldType.object "com/example/elliott_bay/elliottbay/value/AttributeType")), Jvm.Cond.code ({ cls := "com/example/elliott_bay/elliottbay/value/AttributeType", name := "isSet", desc := "()Z" } : Jvm.MethodName) prog_109_method_5_code (1 : Nat) (Option.some Jvm.ClassFile.FieldType.boolean), Jvm.Cond.code ({ cls := "com/example/elliott_bay/elliottbay/value/AttributeType", name := "memberType", desc := "()Lcom/example/elliott_bay/elliottbay/value/AttributeType;" } : Jvm.MethodName) prog_109_method_6_code (1 : Nat) (Option.some (Jvm.ClassFile.FieldType.object "com/example/elliott_bay/elliottbay/value/AttributeType")), Jvm.Cond.code ({ cls := "java/lang/Enum", name := "ordinal", desc := "()I" } : Jvm.MethodName) jdk_37_method_2_code (1 : Nat) (Option.some Jvm.ClassFile.FieldType.int)]
set_option maxRecDepth 65536 in
theorem codes_eq : words1.filter isCode = codes1 := rfl
theorem w_codes : ∀ c ∈ words1.filter isCode, c.before args0 about1 = true := by
  rw [codes_eq]
  intro c hc
  simp only [codes1, List.mem_cons, List.not_mem_nil, or_false] at hc
  rcases hc with rfl | rfl | rfl | rfl | rfl
  · exact w_c0
  · exact w_c1
  · exact w_c2
  · exact w_c3
  · exact w_c4
set_option maxRecDepth 65536 in
theorem w_t1 : (words1.take 24).all (fun c => isCode c || c.before args0 about1) = true := by decide +kernel
set_option maxRecDepth 65536 in
theorem w_t2 : ((words1.drop 24).take 24).all (fun c => isCode c || c.before args0 about1) = true := by decide +kernel
set_option maxRecDepth 65536 in
theorem w_t3 : ((words1.drop 24).drop 24).all (fun c => isCode c || c.before args0 about1) = true := by decide +kernel
theorem w_tables : (allAtoms (Jvm.Cond.code x code maxLocals ret :: tables_1)).before args0 about1 = true := by
  rw [allAtoms_all]
  show words1.all (fun c => c.before args0 about1) = true
  refine all_split ?_ w_codes
  rw [← List.take_append_drop 24 words1, List.all_append, w_t1, ← List.take_append_drop 24 (words1.drop 24), List.all_append, w_t2, w_t3]
  rfl
set_option maxRecDepth 65536 in
theorem w_case : (Jvm.Cond.and given_1 narrow_1).before args0 about1 = true := by decide +kernel
theorem w_applies : (headSpec (Jvm.Cond.code x code maxLocals ret :: tables_1) room_1).applies x e0.platform about1 = true :=
  (Spec.applies_iff w_frames).mpr ⟨w_running, w_runnable, w_alone, w_named, w_hears, w_ripe, w_room, w_tables⟩
theorem atStart : AtStart classFile x code maxLocals ret World_1 tables_1 room_1 Calls_1 rest_1 Pre_1 launch0 p0 e0 about1 theMethod args0 below0 :=
  ⟨lists_1, trivial, launch0.admits_env _ _ _, launch0.least_env, fairChoices_fair.cas, fairChoices_fair.clock, w_frames, w_args, w_heap, w_applies, trivial, trivial, w_case⟩
end start1
theorem witness_1 : WitnessClaimed_1 := ⟨start1.p0, start1.e0, start1.about1, start1.theMethod, start1.args0, start1.below0, start1.atStart⟩
end Jvm.Pilot.@@N@@
