import JvmDerived
import JvmDerived.Pilot.@@N@@Statement
import JvmDerived.Pilot.@@N@@Code
set_option linter.unusedVariables false
set_option linter.unusedSimpArgs false
namespace Jvm.RoadKit
open Sem ClassFile Op Lib Jvm.Stand Jvm.Free Jvm.LawKit
section New
variable {p : Program} {l : Launch} {e : Env} {R : Room} {s : State} {m : MethodId} {args : Array Value} {below : List Frame} {meth : Method} {c : Code} {T : State} {locs : List Loc} {cells slots : Nat}
theorem retI (X : Stand p l e R s m args below meth c T locs cells slots) (hx : p.tables.exec = Jvm.exec) {pc : Nat} {Ls : Array Slot} {z : Int32} {rest : List Value} (hret : meth.sig.returnType = some .int) (hd : decode c.code pc = .ok (.ireturn, 1)) {fs : List Frame}
    (hl : ∀ (f : JFrame) (acts : List Action), f.method = m → f.locked = none → f.entered = [] → (doReturn e (T.setTop f) acts (some (.int z))).1 = T.setFrames fs) : Steps p.tables e below (T.setTop (mkF m pc Ls (.int z :: rest))) (T.setFrames fs) := by
  have hm' : T.vm.method? m = some meth := X.method'
  have hn : narrow .int (.int z) = .int z := rfl
  show Steps p.tables e below (T.setTop { method := m, pc := pc, locals := Ls, stack := _ :: rest, locked := none }) _
  jvm_step X.here [X.here.top, hx, hd, hm', hret, hn]
  first | (intro acts; rw [hl _ acts rfl rfl rfl]) | rw [hl _ _ rfl rfl rfl]
  exact Steps.refl _
end New
theorem own_sta_keep {Z : State} {h h' : Heap} {C n d : String} {w : Value} {ws : List Addr} (F : Sta Z h C n d w) (K : Keep h h' ws) (q : ∀ x ∈ ws, ∃ c : Cell, h[x]? = some c ∧ c.vm.isStatics = false) : Sta Z h' C n d w := by
  obtain ⟨cf, i, k, f, st, cell, h1, h2, h3, h4, h5, h6, h7⟩ := F
  refine ⟨cf, i, k, f, st, cell, h1, h2, h3, h4, K.2.1 st cell h5 (fun hm => ?_), h6, h7⟩
  obtain ⟨c, g1, g2⟩ := q st hm
  cases h5.symm.trans g1
  rw [h6] at g2; cases g2
theorem own_exa_ns {Z : State} {h : Heap} {a : Addr} {C : String} (F : Exa Z h a C) : ∃ c : Cell, h[a]? = some c ∧ c.vm.isStatics = false := by
  obtain ⟨cell, k, h1, -, -, h4, -⟩ := F
  exact ⟨cell, h1, h4⟩
theorem own_arv_ns {Z : State} {h : Heap} {a : Addr} {k : ClassId} {ty : FieldType} {z : Int32} {vs : List Value} {d : Value} (F : Arv Z h a k ty z vs d) : ∃ c : Cell, h[a]? = some c ∧ c.vm.isStatics = false := by
  obtain ⟨cell, A, -⟩ := F
  exact ⟨cell, A.1, A.plain⟩
theorem own_arv {Z : State} {h : Heap} {a : Addr} {k : ClassId} {ty : FieldType} {z : Int32} {vs : List Value} {d : Value} (F : Arh Z h a k ty z [] vs d) : Arv Z h a k ty z vs d := F
theorem own_eqv {Z : State} {args : Array Value} {t u : Term} {v : Value} (hv : (∃ k, v = .int k) ∨ ∃ a, v = .ref a) (hu : u.eval args Z none [] Z = some v) (h : (Jvm.Cond.eq t u).value args Z none Z [] = some true) : t.eval args Z none [] Z = some v := by
  simp only [Jvm.Cond.value, hu] at h
  cases ht : t.eval args Z none [] Z with
  | none => simp [ht] at h
  | some x => rcases hv with ⟨k, rfl⟩ | ⟨a, rfl⟩ <;> cases x <;> simp [ht] at h ⊢ <;> exact h
theorem own_len {Z : State} {args : Array Value} {t : Term} {a : Addr} {cl : Cell} {ty : FieldType} {z : Int32} (ev : t.eval args Z none [] Z = some (.ref a)) (A : Arr Z Z.heap a cl ty) (h : (Term.length t).eval args Z none [] Z = some (.int z)) : cl.slots.size < 2 ^ 31 ∧ cl.slots.size.toInt32 = z := by
  obtain ⟨a', cell, ha', hat, hv⟩ := Term.length_spec h
  cases ev.symm.trans ha'
  cases A.1.symm.trans (State.arrayAt?_spec hat).1
  cases hv
  refine ⟨?_, rfl⟩
  by_cases q : cl.slots.size < 2 ^ 31
  · exact q
  · exfalso
    simp [Term.eval, ev, hat, q] at h
end Jvm.RoadKit
namespace Jvm.Pilot.@@N@@
open Jvm Jvm.ClassFile Sem Op Lib Jvm.Free Jvm.Stand Jvm.LawKit Jvm.RoadKit Bundle Jvm.Pilot.@@N@@.Jvm.D
theorem d7_0 : decode jdk_30_method_1_code 0 = .ok (.aload_n 0, 1) := by decide +kernel
theorem d7_1 : decode jdk_30_method_1_code 1 = .ok (.invokespecial 1, 3) := by decide +kernel
theorem d7_4 : decode jdk_30_method_1_code 4 = .ok (.return_, 1) := by decide +kernel
theorem pn0 : plainName "java/lang/Record" = true := by first | (simp [plainName, overriddenIn]; done) | decide +kernel
theorem ef7 (m : MethodId) (a1 : Addr) : entryFrame m #[(.ref a1)] 1 = (mkF m 0 #[.val (.ref a1)] []) := by first | (simp [entryFrame, mkF, argsToLocals, Value.category]; done) | rfl
def Q7 (Z : State) (a1 : Addr) (h0 : Heap) (n0 : Nat) (v : Option Value) (h : Heap) (L : List Loc) : Prop := v = none ∧ L = [] ∧ h = h0
set_option maxRecDepth 65536 in
set_option maxHeartbeats 40000000 in
theorem rm7 (l : Launch) (Z : State) (a0 : Array Value) (hw : ∀ d ∈ tables_1, d.before a0 Z = true) (ws : List Jvm.Cond) (a1 : Addr) (h0 : Heap) (n0 : Nat) (Z0 : n0 ≤ h0.size) :
    MetFree l (⟨"java/lang/Record", "<init>", "()V"⟩ : MethodName) (head1 (Jvm.Cond.code (⟨"java/lang/Record", "<init>", "()V"⟩ : MethodName) jdk_30_method_1_code 1 none :: ws) ({ frames := 1, cells := 0, slots := 0, locals := 12 } : Room)) (fun a U => a = #[(.ref a1)] ∧ Z.Warmed39 U.vm ∧ U.heap = h0) (fun _ _ _ _ _ => True) (fun _ U o U' => ∃ v L, o = .returned v ∧ Q7 Z a1 h0 n0 v U'.heap L ∧ FrameEnd U o U' L ({ frames := 1, cells := 0, slots := 0, locals := 12 } : Room).cells ({ frames := 1, cells := 0, slots := 0, locals := 12 } : Room).slots) := by
  refine MetFree.of_bodySF (plainFor_of_name pn0) hisR ?_
  intro p e s m args below meth c s₁ Bd hml0 hP hK
  obtain ⟨rfl, hZ, hh⟩ := hP
  have hx := Bd.exec
  have hby := Bd.bytes
  have hml : c.maxLocals = 1 := hml0
  have hown : s.vm.findClass "java/lang/Record" = some m.cls := findClass_of_methodNamed Bd.named
  have hnm := (name_of_methodNamed Bd.named Bd.method).1
  have X0 : Stand p l e ({ frames := 1, cells := 0, slots := 0, locals := 12 } : Room) s m #[(.ref a1)] below meth c s₁ [] 0 0 := Stand.of_body Bd
  have e0 : s₁.heap = h0 := by rw [← hh, Bd.state]; rfl
  have N0 := Fr.nil n0
  have pre0 : ∀ t, Steps p.tables e below (s₁.setTop (mkF m 0 #[.val (.ref a1)] [])) t → Steps p.tables e below (s₁.setTop (entryFrame m #[(.ref a1)] 1)) t := fun t k => castTop (ef7 m a1) k
  obtain ⟨T1, X1, e1, st1⟩ := initO X0 hx hZ hown (hw _ (List.mem_of_getElem? (i := 37) rfl)) (hw _ (List.mem_of_getElem? (i := 20) rfl)) (hw _ (List.mem_of_getElem? (i := 21) rfl)) e0 (g := (mkF m 1 #[.val (.ref a1)] [(.ref a1)])) rfl (by rw [hml]; rfl) rfl (hb hby d7_1) (by decide) (W := 0) (by show 2 * 0 + _ ≤ _; exact Nat.le_of_eq rfl) (by decide)
  obtain ⟨fs, hr, hrun, hended, hW, hsame⟩ := X1.leave (v := none) (fun _ => rfl)
  refine ⟨_, _, pre0 _ ?_, hrun, hended, _, _, rfl, ?_, ⟨_, rfl⟩, hW, hsame.mono (by decide) (by decide)⟩
  · show Steps p.tables e below (s₁.setTop (mkF m 0 #[.val (.ref a1)] [])) _
    refine XS.aloadN X0.here hx rfl (hb hby d7_0) rfl rfl ?_
    show Steps p.tables e below (s₁.setTop (mkF m 1 #[.val (.ref a1)] [(.ref a1)])) _
    refine st1 _ ?_
    show Steps p.tables e below (T1.setTop (mkF m 4 #[.val (.ref a1)] [])) _
    exact X1.returnOut hx Bd.returns (hb hby d7_4) hr
  · show Q7 Z a1 h0 n0 _ T1.heap _
    rw [e1]
    exact ⟨rfl, rfl, rfl⟩
theorem d2_0 : decode jdk_43_method_3_code 0 = .ok (.iload_n 0, 1) := by decide +kernel
theorem d2_1 : decode jdk_43_method_3_code 1 = .ok (.sipush 255, 3) := by decide +kernel
theorem d2_4 : decode jdk_43_method_3_code 4 = .ok (.if_icmp .gt 7, 3) := by decide +kernel
theorem d2_7 : decode jdk_43_method_3_code 7 = .ok (.iconst 1, 1) := by decide +kernel
theorem d2_8 : decode jdk_43_method_3_code 8 = .ok (.goto 4, 3) := by decide +kernel
theorem d2_11 : decode jdk_43_method_3_code 11 = .ok (.iconst 0, 1) := by decide +kernel
theorem d2_12 : decode jdk_43_method_3_code 12 = .ok (.ireturn, 1) := by decide +kernel
def res2 (p1 : Int32) : Int32 := if (255 : Int32) < p1 then (0 : Int32) else (1 : Int32)
theorem pn1 : plainName "java/lang/StringLatin1" = true := by first | (simp [plainName, overriddenIn]; done) | decide +kernel
theorem ef2 (m : MethodId) (p1 : Int32) : entryFrame m #[(.int p1)] 1 = (mkF m 0 #[.val (.int p1)] []) := by first | (simp [entryFrame, mkF, argsToLocals, Value.category]; done) | rfl
def Q2 (Z : State) (p1 : Int32) (h0 : Heap) (n0 : Nat) (v : Option Value) (h : Heap) (L : List Loc) : Prop := v = some (.int (res2 p1)) ∧ L = [] ∧ h = h0
set_option maxRecDepth 65536 in
set_option maxHeartbeats 40000000 in
theorem rm2 (l : Launch) (Z : State) (a0 : Array Value) (hw : ∀ d ∈ tables_1, d.before a0 Z = true) (ws : List Jvm.Cond) (p1 : Int32) (h0 : Heap) (n0 : Nat) (Z0 : n0 ≤ h0.size) :
    MetFree l (⟨"java/lang/StringLatin1", "canEncode", "(C)Z"⟩ : MethodName) (head1 (Jvm.Cond.code (⟨"java/lang/StringLatin1", "canEncode", "(C)Z"⟩ : MethodName) jdk_43_method_3_code 1 (some .boolean) :: ws) ({ frames := 0, cells := 0, slots := 0, locals := 0 } : Room)) (fun a U => a = #[(.int p1)] ∧ Z.Warmed39 U.vm ∧ U.heap = h0) (fun _ _ _ _ _ => True) (fun _ U o U' => ∃ v L, o = .returned v ∧ Q2 Z p1 h0 n0 v U'.heap L ∧ FrameEnd U o U' L ({ frames := 0, cells := 0, slots := 0, locals := 0 } : Room).cells ({ frames := 0, cells := 0, slots := 0, locals := 0 } : Room).slots) := by
  refine MetFree.of_bodySF (plainFor_of_name pn1) hisR ?_
  intro p e s m args below meth c s₁ Bd hml0 hP hK
  obtain ⟨rfl, hZ, hh⟩ := hP
  have hx := Bd.exec
  have hby := Bd.bytes
  have hml : c.maxLocals = 1 := hml0
  have hown : s.vm.findClass "java/lang/StringLatin1" = some m.cls := findClass_of_methodNamed Bd.named
  have hnm := (name_of_methodNamed Bd.named Bd.method).1
  have X0 : Stand p l e ({ frames := 0, cells := 0, slots := 0, locals := 0 } : Room) s m #[(.int p1)] below meth c s₁ [] 0 0 := Stand.of_body Bd
  have e0 : s₁.heap = h0 := by rw [← hh, Bd.state]; rfl
  have N0 := Fr.nil n0
  have pre0 : ∀ t, Steps p.tables e below (s₁.setTop (mkF m 0 #[.val (.int p1)] [])) t → Steps p.tables e below (s₁.setTop (entryFrame m #[(.int p1)] 1)) t := fun t k => castTop (ef2 m p1) k
  have pre1 : ∀ t, Steps p.tables e below (s₁.setTop (mkF m 4 #[.val (.int p1)] [(.int (255 : Int32)), (.int p1)])) t → Steps p.tables e below (s₁.setTop (entryFrame m #[(.int p1)] 1)) t := by
    intro t kt
    refine pre0 _ ?_
    show Steps p.tables e below (s₁.setTop (mkF m 0 #[.val (.int p1)] [])) _
    refine XS.iloadN X0.here hx rfl (hb hby d2_0) rfl ?_
    show Steps p.tables e below (s₁.setTop (mkF m 1 #[.val (.int p1)] [(.int p1)])) _
    refine XS.sipush X0.here hx rfl (hb hby d2_1) ?_
    exact kt
  by_cases hc4_2 : (255 : Int32) < p1
  · obtain ⟨fs, hr, hrun, hended, hW, hsame⟩ := X0.leave (v := some (.int (0 : Int32))) (fun h => by rw [Bd.returns] at h; cases h)
    refine ⟨_, _, pre1 _ ?_, hrun, hended, _, _, rfl, ?_, ⟨_, rfl⟩, hW, hsame.mono (by decide) (by decide)⟩
    · show Steps p.tables e below (s₁.setTop (mkF m 4 #[.val (.int p1)] [(.int (255 : Int32)), (.int p1)])) _
      refine XS.icmpYes X0.here hx rfl (pc0 := 4) (pc' := 11) rfl (hb hby d2_4) rfl (tlt hc4_2).2.2.1 (by decide) (by decide) ?_
      show Steps p.tables e below (s₁.setTop (mkF m 11 #[.val (.int p1)] [])) _
      refine XS.iconst X0.here hx rfl (hb hby d2_11) ?_
      show Steps p.tables e below (s₁.setTop (mkF m 12 #[.val (.int p1)] [(.int (0 : Int32))])) _
      exact retN X0 hx (t := .boolean) Bd.returns (by simp) (hb hby d2_12) hr
    · show Q2 Z p1 h0 n0 _ s₁.heap _
      rw [e0]
      exact ⟨by rw [res2, if_pos hc4_2], rfl, rfl⟩
  · obtain ⟨fs, hr, hrun, hended, hW, hsame⟩ := X0.leave (v := some (.int (1 : Int32))) (fun h => by rw [Bd.returns] at h; cases h)
    refine ⟨_, _, pre1 _ ?_, hrun, hended, _, _, rfl, ?_, ⟨_, rfl⟩, hW, hsame.mono (by decide) (by decide)⟩
    · show Steps p.tables e below (s₁.setTop (mkF m 4 #[.val (.int p1)] [(.int (255 : Int32)), (.int p1)])) _
      refine XS.icmpNo X0.here hx rfl (hb hby d2_4) rfl (flt hc4_2).2.2.1 ?_
      show Steps p.tables e below (s₁.setTop (mkF m 7 #[.val (.int p1)] [])) _
      refine XS.iconst X0.here hx rfl (hb hby d2_7) ?_
      show Steps p.tables e below (s₁.setTop (mkF m 8 #[.val (.int p1)] [(.int (1 : Int32))])) _
      refine XS.goto X0.here hx rfl (pc0 := 8) (pc' := 12) rfl (hb hby d2_8) (by decide) (by decide) ?_
      show Steps p.tables e below (s₁.setTop (mkF m 12 #[.val (.int p1)] [(.int (1 : Int32))])) _
      exact retN X0 hx (t := .boolean) Bd.returns (by simp) (hb hby d2_12) hr
    · show Q2 Z p1 h0 n0 _ s₁.heap _
      rw [e0]
      exact ⟨by rw [res2, if_neg hc4_2], rfl, rfl⟩
theorem d3_0 : decode jdk_43_method_46_code 0 = .ok (.iconst 1, 1) := by decide +kernel
theorem d3_1 : decode jdk_43_method_46_code 1 = .ok (.newarray .byte, 2) := by decide +kernel
theorem d3_3 : decode jdk_43_method_46_code 3 = .ok (.dup, 1) := by decide +kernel
theorem d3_4 : decode jdk_43_method_46_code 4 = .ok (.iconst 0, 1) := by decide +kernel
theorem d3_5 : decode jdk_43_method_46_code 5 = .ok (.iload_n 0, 1) := by decide +kernel
theorem d3_6 : decode jdk_43_method_46_code 6 = .ok (.i2b, 1) := by decide +kernel
theorem d3_7 : decode jdk_43_method_46_code 7 = .ok (.bastore, 1) := by decide +kernel
theorem d3_8 : decode jdk_43_method_46_code 8 = .ok (.areturn, 1) := by decide +kernel
theorem ef3 (m : MethodId) (p1 : Int32) : entryFrame m #[(.int p1)] 1 = (mkF m 0 #[.val (.int p1)] []) := by first | (simp [entryFrame, mkF, argsToLocals, Value.category]; done) | rfl
def Q3 (Z : State) (p1 : Int32) (h0 : Heap) (n0 : Nat) (v : Option Value) (h : Heap) (L : List Loc) : Prop := ∃ (b1 : Addr) (k1 : ClassId), v = some (.ref b1) ∧ Fr n0 L ∧ Keep h0 h [] ∧ h0.size ≤ b1 ∧ Arv Z h b1 k1 .byte (1 : Int32) [(.int (nar .byte (p1.toInt8.toInt32)))] (.int (0 : Int32))
set_option maxRecDepth 65536 in
set_option maxHeartbeats 40000000 in
theorem rm3 (l : Launch) (Z : State) (a0 : Array Value) (hw : ∀ d ∈ tables_1, d.before a0 Z = true) (ws : List Jvm.Cond) (p1 : Int32) (h0 : Heap) (n0 : Nat) (Z0 : n0 ≤ h0.size) :
    MetFree l (⟨"java/lang/StringLatin1", "toBytes", "(C)[B"⟩ : MethodName) (head1 (Jvm.Cond.code (⟨"java/lang/StringLatin1", "toBytes", "(C)[B"⟩ : MethodName) jdk_43_method_46_code 1 (some (.array .byte)) :: ws) ({ frames := 0, cells := 1, slots := 1, locals := 0 } : Room)) (fun a U => a = #[(.int p1)] ∧ Z.Warmed39 U.vm ∧ U.heap = h0) (fun _ _ _ _ _ => True) (fun _ U o U' => ∃ v L, o = .returned v ∧ Q3 Z p1 h0 n0 v U'.heap L ∧ FrameEnd U o U' L ({ frames := 0, cells := 1, slots := 1, locals := 0 } : Room).cells ({ frames := 0, cells := 1, slots := 1, locals := 0 } : Room).slots) := by
  refine MetFree.of_bodySF (plainFor_of_name pn1) hisR ?_
  intro p e s m args below meth c s₁ Bd hml0 hP hK
  obtain ⟨rfl, hZ, hh⟩ := hP
  have hx := Bd.exec
  have hby := Bd.bytes
  have hml : c.maxLocals = 1 := hml0
  have hown : s.vm.findClass "java/lang/StringLatin1" = some m.cls := findClass_of_methodNamed Bd.named
  have hnm := (name_of_methodNamed Bd.named Bd.method).1
  have X0 : Stand p l e ({ frames := 0, cells := 1, slots := 1, locals := 0 } : Room) s m #[(.int p1)] below meth c s₁ [] 0 0 := Stand.of_body Bd
  have e0 : s₁.heap = h0 := by rw [← hh, Bd.state]; rfl
  have N0 := Fr.nil n0
  have pre0 : ∀ t, Steps p.tables e below (s₁.setTop (mkF m 0 #[.val (.int p1)] [])) t → Steps p.tables e below (s₁.setTop (entryFrame m #[(.int p1)] 1)) t := fun t k => castTop (ef3 m p1) k
  obtain ⟨T1, h1, k1, X1, e1, E1, A1, st1⟩ := newP X0 hx hZ (hw _ (List.mem_of_getElem? (i := 14) rfl)) e0 (g := (mkF m 1 #[.val (.int p1)] [(.int (1 : Int32))])) rfl (hb hby d3_1) rfl (by decide) (cap := 1) (by decide) (by decide) (by decide) (by decide)
  obtain ⟨b1, g1⟩ : ∃ z, z = h0.size := ⟨_, rfl⟩
  rw [← g1] at A1 st1
  have sz_b1 : h0.size ≤ b1 := Nat.le_trans (Keep.refl h0 []).1 (Nat.le_of_eq g1.symm)
  have g_b1 : n0 ≤ b1 := Nat.le_trans Z0 sz_b1
  have K1 : Keep h0 h1 [] := (Keep.refl h0 []).ext E1
  have V_b1 : Arv Z h1 b1 k1 .byte (1 : Int32) [(.int (0 : Int32))] (.int (0 : Int32)) := (Arv.new A1 (by decide)).pad (pad_rep [] (.int (0 : Int32)) 1)
  obtain ⟨cl_b1_7_2, Ar_b1_7_2, q_b1_7_2, S_b1_7_2, N_b1_7_2, H_b1_7_2, G_b1_7_2⟩ := id V_b1
  have hin_b1_7_2 : ¬ ((0 : Int32) < 0 ∨ cl_b1_7_2.slots.size ≤ ((0 : Int32) : Int32).toNatClampNeg) := inb_of S_b1_7_2 ⟨by decide, by decide⟩
  obtain ⟨T3, h3, X3, e3, W3, st3⟩ := stB X1 hx hZ e1 Ar_b1_7_2 (j := (0 : Int32)) hin_b1_7_2 (g := (mkF m 7 #[.val (.int p1)] [(.int (p1.toInt8.toInt32)), (.int (0 : Int32)), (.ref b1), (.ref b1)])) rfl rfl (hb hby d3_7)
  have V_b1_7_2 : Arv Z h3 b1 k1 .byte (1 : Int32) [(.int (nar .byte (p1.toInt8.toInt32)))] (.int (0 : Int32)) := Arv.set Ar_b1_7_2 q_b1_7_2 S_b1_7_2 N_b1_7_2 H_b1_7_2 G_b1_7_2 (fits_nar_byte _) W3 0 rfl (Nat.le_of_ble_eq_true rfl)
  have K3 : Keep h0 h3 [] := K1.wr W3 (Or.inr sz_b1)
  have N3 := Fr.snoc X3 N0 g_b1
  obtain ⟨fs, hr, hrun, hended, hW, hsame⟩ := X3.leave (v := some (.ref b1)) (fun h => by rw [Bd.returns] at h; cases h)
  refine ⟨_, _, pre0 _ ?_, hrun, hended, _, _, rfl, ?_, ⟨_, rfl⟩, hW, hsame.mono (by decide) (by decide)⟩
  · show Steps p.tables e below (s₁.setTop (mkF m 0 #[.val (.int p1)] [])) _
    refine XS.iconst X0.here hx rfl (hb hby d3_0) ?_
    show Steps p.tables e below (s₁.setTop (mkF m 1 #[.val (.int p1)] [(.int (1 : Int32))])) _
    refine st1 _ ?_
    show Steps p.tables e below (T1.setTop (mkF m 3 #[.val (.int p1)] [(.ref b1)])) _
    refine XS.dup X1.here hx rfl (hb hby d3_3) rfl rfl ?_
    show Steps p.tables e below (T1.setTop (mkF m 4 #[.val (.int p1)] [(.ref b1), (.ref b1)])) _
    refine XS.iconst X1.here hx rfl (hb hby d3_4) ?_
    show Steps p.tables e below (T1.setTop (mkF m 5 #[.val (.int p1)] [(.int (0 : Int32)), (.ref b1), (.ref b1)])) _
    refine XS.iloadN X1.here hx rfl (hb hby d3_5) rfl ?_
    show Steps p.tables e below (T1.setTop (mkF m 6 #[.val (.int p1)] [(.int p1), (.int (0 : Int32)), (.ref b1), (.ref b1)])) _
    refine XS.i2b X1.here hx rfl (hb hby d3_6) rfl ?_
    show Steps p.tables e below (T1.setTop (mkF m 7 #[.val (.int p1)] [(.int (p1.toInt8.toInt32)), (.int (0 : Int32)), (.ref b1), (.ref b1)])) _
    refine st3 _ ?_
    show Steps p.tables e below (T3.setTop (mkF m 8 #[.val (.int p1)] [(.ref b1)])) _
    exact retOut X3 hx Bd.returns rfl (Or.inr (Or.inr (Or.inr (Or.inr ⟨rfl, rfl, rfl⟩)))) (hb hby d3_8) hr
  · show Q3 Z p1 h0 n0 _ T3.heap _
    rw [e3]
    exact ⟨b1, k1, rfl, N3, K3, sz_b1, V_b1_7_2⟩
theorem d4_0 : decode jdk_42_method_151_code 0 = .ok (.aload_n 0, 1) := by decide +kernel
theorem d4_1 : decode jdk_42_method_151_code 1 = .ok (.invokespecial 1, 3) := by decide +kernel
theorem d4_4 : decode jdk_42_method_151_code 4 = .ok (.aload_n 0, 1) := by decide +kernel
theorem d4_5 : decode jdk_42_method_151_code 5 = .ok (.aload_n 1, 1) := by decide +kernel
theorem d4_6 : decode jdk_42_method_151_code 6 = .ok (.putfield 9, 3) := by decide +kernel
theorem d4_9 : decode jdk_42_method_151_code 9 = .ok (.aload_n 0, 1) := by decide +kernel
theorem d4_10 : decode jdk_42_method_151_code 10 = .ok (.iload_n 2, 1) := by decide +kernel
theorem d4_11 : decode jdk_42_method_151_code 11 = .ok (.putfield 15, 3) := by decide +kernel
theorem d4_14 : decode jdk_42_method_151_code 14 = .ok (.return_, 1) := by decide +kernel
theorem pn2 : plainName "java/lang/String" = true := by first | (simp [plainName, overriddenIn]; done) | decide +kernel
theorem ef4 (m : MethodId) (a1 : Addr) (a2 : Addr) (p3 : Int32) : entryFrame m #[(.ref a1), (.ref a2), (.int p3)] 3 = (mkF m 0 #[.val (.ref a1), .val (.ref a2), .val (.int p3)] []) := by first | (simp [entryFrame, mkF, argsToLocals, Value.category]; done) | rfl
def Q4 (Z : State) (a1 : Addr) (a2 : Addr) (p3 : Int32) (u_value_a1 : Value) (u_coder_a1 : Value) (h0 : Heap) (n0 : Nat) (v : Option Value) (h : Heap) (L : List Loc) : Prop := v = none ∧ Fr n0 L ∧ Keep h0 h [a1] ∧ Exa Z h a1 "java/lang/String" ∧ Fld Z h a1 "java/lang/String" "value" "[B" (.ref a2) ∧ Fld Z h a1 "java/lang/String" "coder" "B" (.int (nar .byte p3))
set_option maxRecDepth 65536 in
set_option maxHeartbeats 40000000 in
theorem rm4 (l : Launch) (Z : State) (a0 : Array Value) (hw : ∀ d ∈ tables_1, d.before a0 Z = true) (ws : List Jvm.Cond) (a1 : Addr) (a2 : Addr) (p3 : Int32) (u_value_a1 : Value) (u_coder_a1 : Value) (h0 : Heap) (n0 : Nat) (Z0 : n0 ≤ h0.size) (E_a1 : Exa Z h0 a1 "java/lang/String") (F_value_a1 : Fld Z h0 a1 "java/lang/String" "value" "[B" u_value_a1) (g_a1 : n0 ≤ a1) (F_coder_a1 : Fld Z h0 a1 "java/lang/String" "coder" "B" u_coder_a1) :
    MetFree l (⟨"java/lang/String", "<init>", "([BB)V"⟩ : MethodName) (head1 (Jvm.Cond.code (⟨"java/lang/String", "<init>", "([BB)V"⟩ : MethodName) jdk_42_method_151_code 3 none :: ws) ({ frames := 1, cells := 0, slots := 0, locals := 12 } : Room)) (fun a U => a = #[(.ref a1), (.ref a2), (.int p3)] ∧ Z.Warmed39 U.vm ∧ U.heap = h0) (fun _ _ _ _ _ => True) (fun _ U o U' => ∃ v L, o = .returned v ∧ Q4 Z a1 a2 p3 u_value_a1 u_coder_a1 h0 n0 v U'.heap L ∧ FrameEnd U o U' L ({ frames := 1, cells := 0, slots := 0, locals := 12 } : Room).cells ({ frames := 1, cells := 0, slots := 0, locals := 12 } : Room).slots) := by
  refine MetFree.of_bodySF (plainFor_of_name pn2) hisR ?_
  intro p e s m args below meth c s₁ Bd hml0 hP hK
  obtain ⟨rfl, hZ, hh⟩ := hP
  have hx := Bd.exec
  have hby := Bd.bytes
  have hml : c.maxLocals = 3 := hml0
  have hown : s.vm.findClass "java/lang/String" = some m.cls := findClass_of_methodNamed Bd.named
  have hnm := (name_of_methodNamed Bd.named Bd.method).1
  have X0 : Stand p l e ({ frames := 1, cells := 0, slots := 0, locals := 12 } : Room) s m #[(.ref a1), (.ref a2), (.int p3)] below meth c s₁ [] 0 0 := Stand.of_body Bd
  have e0 : s₁.heap = h0 := by rw [← hh, Bd.state]; rfl
  have N0 := Fr.nil n0
  have pre0 : ∀ t, Steps p.tables e below (s₁.setTop (mkF m 0 #[.val (.ref a1), .val (.ref a2), .val (.int p3)] [])) t → Steps p.tables e below (s₁.setTop (entryFrame m #[(.ref a1), (.ref a2), (.int p3)] 3)) t := fun t k => castTop (ef4 m a1 a2 p3) k
  obtain ⟨T1, X1, e1, st1⟩ := initO X0 hx hZ hown (hw _ (List.mem_of_getElem? (i := 19) rfl)) (hw _ (List.mem_of_getElem? (i := 20) rfl)) (hw _ (List.mem_of_getElem? (i := 21) rfl)) e0 (g := (mkF m 1 #[.val (.ref a1), .val (.ref a2), .val (.int p3)] [(.ref a1)])) rfl (by rw [hml]; rfl) rfl (hb hby d4_1) (by decide) (W := 0) (by show 2 * 0 + _ ≤ _; exact Nat.le_of_eq rfl) (by decide)
  obtain ⟨T2, h2, X2, e2, W2, st2⟩ := putF X1 hx hZ hown (host := "") (Or.inl (hw _ (List.mem_of_getElem? (i := 22) rfl))) Via.refl e1 F_value_a1 E_a1 (Or.inr ⟨(hw _ (List.mem_of_getElem? (i := 23) rfl)), rfl, hnm⟩) (hw _ (List.mem_of_getElem? (i := 10) rfl)) (ty := (.array .byte)) (by decide) rfl rfl (g := (mkF m 6 #[.val (.ref a1), .val (.ref a2), .val (.int p3)] [(.ref a2), (.ref a1)])) rfl rfl (hb hby d4_6)
  have Fw2 := F_value_a1.same W2
  have K2 : Keep h0 h2 [a1] := (Keep.refl h0 [a1]).wr W2 (Or.inl (List.mem_of_getElem? (i := 0) rfl))
  have N2 := Fr.snoc X2 N0 g_a1
  obtain ⟨T3, h3, X3, e3, W3, st3⟩ := putFN X2 hx hZ hown (hw _ (List.mem_of_getElem? (i := 24) rfl)) Via.refl e2 (F_coder_a1.other W2 (Or.inr (slot_ne (Or.inr (hw _ (List.mem_of_getElem? (i := 25) rfl))) (Or.inr (hw _ (List.mem_of_getElem? (i := 23) rfl))) (by decide) (t := .byte) (t' := (.array .byte)) (by decide) (by decide)))) (E_a1.wr W2) (Or.inr ⟨(hw _ (List.mem_of_getElem? (i := 25) rfl)), rfl, hnm⟩) (hw _ (List.mem_of_getElem? (i := 10) rfl)) (ty := .byte) (v' := (.int (nar .byte p3))) (by decide) rfl (fits_nar_byte _) (g := (mkF m 11 #[.val (.ref a1), .val (.ref a2), .val (.int p3)] [(.int p3), (.ref a1)])) rfl rfl (hb hby d4_11)
  have Fw3 := (F_coder_a1.other W2 (Or.inr (slot_ne (Or.inr (hw _ (List.mem_of_getElem? (i := 25) rfl))) (Or.inr (hw _ (List.mem_of_getElem? (i := 23) rfl))) (by decide) (t := .byte) (t' := (.array .byte)) (by decide) (by decide)))).same W3
  have K3 : Keep h0 h3 [a1] := K2.wr W3 (Or.inl (List.mem_of_getElem? (i := 0) rfl))
  have N3 := Fr.snoc X3 N2 g_a1
  obtain ⟨fs, hr, hrun, hended, hW, hsame⟩ := X3.leave (v := none) (fun _ => rfl)
  refine ⟨_, _, pre0 _ ?_, hrun, hended, _, _, rfl, ?_, ⟨_, rfl⟩, hW, hsame.mono (by decide) (by decide)⟩
  · show Steps p.tables e below (s₁.setTop (mkF m 0 #[.val (.ref a1), .val (.ref a2), .val (.int p3)] [])) _
    refine XS.aloadN X0.here hx rfl (hb hby d4_0) rfl rfl ?_
    show Steps p.tables e below (s₁.setTop (mkF m 1 #[.val (.ref a1), .val (.ref a2), .val (.int p3)] [(.ref a1)])) _
    refine st1 _ ?_
    show Steps p.tables e below (T1.setTop (mkF m 4 #[.val (.ref a1), .val (.ref a2), .val (.int p3)] [])) _
    refine XS.aloadN X1.here hx rfl (hb hby d4_4) rfl rfl ?_
    show Steps p.tables e below (T1.setTop (mkF m 5 #[.val (.ref a1), .val (.ref a2), .val (.int p3)] [(.ref a1)])) _
    refine XS.aloadN X1.here hx rfl (hb hby d4_5) rfl rfl ?_
    show Steps p.tables e below (T1.setTop (mkF m 6 #[.val (.ref a1), .val (.ref a2), .val (.int p3)] [(.ref a2), (.ref a1)])) _
    refine st2 _ ?_
    show Steps p.tables e below (T2.setTop (mkF m 9 #[.val (.ref a1), .val (.ref a2), .val (.int p3)] [])) _
    refine XS.aloadN X2.here hx rfl (hb hby d4_9) rfl rfl ?_
    show Steps p.tables e below (T2.setTop (mkF m 10 #[.val (.ref a1), .val (.ref a2), .val (.int p3)] [(.ref a1)])) _
    refine XS.iloadN X2.here hx rfl (hb hby d4_10) rfl ?_
    show Steps p.tables e below (T2.setTop (mkF m 11 #[.val (.ref a1), .val (.ref a2), .val (.int p3)] [(.int p3), (.ref a1)])) _
    refine st3 _ ?_
    show Steps p.tables e below (T3.setTop (mkF m 14 #[.val (.ref a1), .val (.ref a2), .val (.int p3)] [])) _
    exact X3.returnOut hx Bd.returns (hb hby d4_14) hr
  · show Q4 Z a1 a2 p3 u_value_a1 u_coder_a1 h0 n0 _ T3.heap _
    rw [e3]
    exact ⟨rfl, N3, K3, ((E_a1.wr W2).wr W3), (Fw2.other W3 (Or.inr (slot_ne (Or.inr (hw _ (List.mem_of_getElem? (i := 23) rfl))) (Or.inr (hw _ (List.mem_of_getElem? (i := 25) rfl))) (by decide) (t := (.array .byte)) (t' := .byte) (by decide) (by decide)))), Fw3⟩
theorem d1_0 : decode jdk_42_method_139_code 0 = .ok (.getstatic 38, 3) := by decide +kernel
theorem d1_3 : decode jdk_42_method_139_code 3 = .ok (.ifCond .eq 23, 3) := by decide +kernel
theorem d1_6 : decode jdk_42_method_139_code 6 = .ok (.iload_n 0, 1) := by decide +kernel
theorem d1_7 : decode jdk_42_method_139_code 7 = .ok (.invokestatic 1015, 3) := by decide +kernel
theorem d1_10 : decode jdk_42_method_139_code 10 = .ok (.ifCond .eq 16, 3) := by decide +kernel
theorem d1_13 : decode jdk_42_method_139_code 13 = .ok (.new 10, 3) := by decide +kernel
theorem d1_16 : decode jdk_42_method_139_code 16 = .ok (.dup, 1) := by decide +kernel
theorem d1_17 : decode jdk_42_method_139_code 17 = .ok (.iload_n 0, 1) := by decide +kernel
theorem d1_18 : decode jdk_42_method_139_code 18 = .ok (.invokestatic 1018, 3) := by decide +kernel
theorem d1_21 : decode jdk_42_method_139_code 21 = .ok (.iconst 0, 1) := by decide +kernel
theorem d1_22 : decode jdk_42_method_139_code 22 = .ok (.invokespecial 209, 3) := by decide +kernel
theorem d1_25 : decode jdk_42_method_139_code 25 = .ok (.areturn, 1) := by decide +kernel
theorem pd0 : parseMethodDescriptor "(C)Z" = some ⟨[.char], some .boolean⟩ := by decide +kernel
theorem pd1 : parseMethodDescriptor "(C)[B" = some ⟨[.char], some (.array .byte)⟩ := by decide +kernel
theorem pd2 : parseMethodDescriptor "([BB)V" = some ⟨[(.array .byte), .byte], none⟩ := by decide +kernel
theorem ef1 (m : MethodId) (p1 : Int32) : entryFrame m #[(.int p1)] 1 = (mkF m 0 #[.val (.int p1)] []) := by first | (simp [entryFrame, mkF, argsToLocals, Value.category]; done) | rfl
def Q1 (Z : State) (p1 : Int32) (w_COMPACT_STRINGS : Int32) (h0 : Heap) (n0 : Nat) (v : Option Value) (h : Heap) (L : List Loc) : Prop := ∃ (b3 : Addr) (b1_4 : Addr) (k1_4 : ClassId), v = some (.ref b3) ∧ Fr n0 L ∧ Keep h0 h [] ∧ h0.size ≤ b3 ∧ h0.size ≤ b1_4 ∧ Exa Z h b3 "java/lang/String" ∧ Fld Z h b3 "java/lang/String" "value" "[B" (.ref b1_4) ∧ Fld Z h b3 "java/lang/String" "coder" "B" (.int (nar .byte (0 : Int32))) ∧ Arv Z h b1_4 k1_4 .byte (1 : Int32) [(.int (nar .byte (p1.toInt8.toInt32)))] (.int (0 : Int32))
set_option maxRecDepth 65536 in
set_option maxHeartbeats 40000000 in
theorem rm1 (l : Launch) (Z : State) (a0 : Array Value) (hw : ∀ d ∈ tables_1, d.before a0 Z = true) (ws : List Jvm.Cond) (p1 : Int32) (w_COMPACT_STRINGS : Int32) (h0 : Heap) (n0 : Nat) (Z0 : n0 ≤ h0.size) (S_COMPACT_STRINGS : Sta Z h0 "java/lang/String" "COMPACT_STRINGS" "Z" (.int w_COMPACT_STRINGS)) (hc3 : ¬ (w_COMPACT_STRINGS = (0 : Int32))) (hc10 : ¬ ((res2 p1) = (0 : Int32))) :
    MetFree l (⟨"java/lang/String", "valueOf", "(C)Ljava/lang/String;"⟩ : MethodName) (head1 (Jvm.Cond.code (⟨"java/lang/String", "valueOf", "(C)Ljava/lang/String;"⟩ : MethodName) jdk_42_method_139_code 1 (some (.object "java/lang/String")) :: ws) ({ frames := 2, cells := 2, slots := 5, locals := 27 } : Room)) (fun a U => a = #[(.int p1)] ∧ Z.Warmed39 U.vm ∧ U.heap = h0) (fun _ _ _ _ _ => True) (fun _ U o U' => ∃ v L, o = .returned v ∧ Q1 Z p1 w_COMPACT_STRINGS h0 n0 v U'.heap L ∧ FrameEnd U o U' L ({ frames := 2, cells := 2, slots := 5, locals := 27 } : Room).cells ({ frames := 2, cells := 2, slots := 5, locals := 27 } : Room).slots) := by
  refine MetFree.of_bodySF (plainFor_of_name pn2) hisR ?_
  intro p e s m args below meth c s₁ Bd hml0 hP hK
  obtain ⟨rfl, hZ, hh⟩ := hP
  have hx := Bd.exec
  have hby := Bd.bytes
  have hml : c.maxLocals = 1 := hml0
  have hown : s.vm.findClass "java/lang/String" = some m.cls := findClass_of_methodNamed Bd.named
  have hnm := (name_of_methodNamed Bd.named Bd.method).1
  have X0 : Stand p l e ({ frames := 2, cells := 2, slots := 5, locals := 27 } : Room) s m #[(.int p1)] below meth c s₁ [] 0 0 := Stand.of_body Bd
  have e0 : s₁.heap = h0 := by rw [← hh, Bd.state]; rfl
  have N0 := Fr.nil n0
  have pre0 : ∀ t, Steps p.tables e below (s₁.setTop (mkF m 0 #[.val (.int p1)] [])) t → Steps p.tables e below (s₁.setTop (entryFrame m #[(.int p1)] 1)) t := fun t k => castTop (ef1 m p1) k
  obtain ⟨T1, X1, e1, st1⟩ := getS2 X0 hx hZ hown (host := "") (Or.inl (hw _ (List.mem_of_getElem? (i := 4) rfl))) Via.refl e0 S_COMPACT_STRINGS (g := (mkF m 0 #[.val (.int p1)] [])) rfl (hb hby d1_0)
  obtain ⟨_, _, ⟨T2, L2, k2, n2⟩, -, X2, ⟨Lc2, hQ2, l2, y2, z2⟩, st2⟩ := Jvm.LawKit.callS X1 hx (y := (⟨"java/lang/StringLatin1", "canEncode", "(C)Z"⟩ : MethodName)) hown (mvT hZ (hw _ (List.mem_of_getElem? (i := 5) rfl))) (mvT hZ (hw _ (List.mem_of_getElem? (i := 6) rfl))) (mvT hZ (hw _ (List.mem_of_getElem? (i := 7) rfl))) (mvT hZ (hw _ (List.mem_of_getElem? (i := 8) rfl))) (by decide) (backOf (W := 0) (rm2 l Z a0 hw [] p1  h0 n0 (Nat.le_trans Z0 (Keep.refl h0 []).1)  ) hZ (hw _ (List.mem_of_getElem? (i := 8) rfl)) (hw _ (List.mem_of_getElem? (i := 7) rfl)) (by decide) (by decide)) (g := (mkF m 7 #[.val (.int p1)] [(.int p1)])) rfl (by rw [hml]; rfl) (argsL := [(.int p1)]) (rest := []) (lenOf pd0 rfl) rfl (by show 2 * 0 + _ ≤ _; exact Nat.le_of_eq rfl) (hb hby d1_7) (fun _ _ => ⟨rfl, e1, (by decide : 0 + 0 ≤ _), (by decide : 0 + 0 ≤ _)⟩)
  dsimp only [Pt.U, Pt.locs, Pt.cells, Pt.slots] at X2 l2 y2 z2 st2 hQ2
  subst l2 y2 z2
  obtain ⟨rfl, rfl, e2⟩ := hQ2
  have N2 := Fr.app N0 (Fr.nil n0)
  obtain ⟨T3, h3, X3, e3, E3, A3, D3, -, st3⟩ := newO X2 hx hZ hown (hw _ (List.mem_of_getElem? (i := 9) rfl)) (hw _ (List.mem_of_getElem? (i := 10) rfl)) (hw _ (List.mem_of_getElem? (i := 2) rfl)) e2 (g := (mkF m 13 #[.val (.int p1)] [])) rfl (hb hby d1_13) (by decide) (by decide)
  obtain ⟨b3, g3⟩ : ∃ z, z = h0.size := ⟨_, rfl⟩
  rw [← g3] at A3 D3 st3
  have sz_b3 : h0.size ≤ b3 := Nat.le_trans (Keep.refl h0 []).1 (Nat.le_of_eq g3.symm)
  have g_b3 : n0 ≤ b3 := Nat.le_trans Z0 sz_b3
  have K3 : Keep h0 h3 [] := (Keep.refl h0 []).ext E3
  have F_value_b3 : Fld Z h3 b3 "java/lang/String" "value" "[B" .null := D3 (Or.inr (hw _ (List.mem_of_getElem? (i := 23) rfl))) (ty := (.array .byte)) (by decide)
  have F_coder_b3 : Fld Z h3 b3 "java/lang/String" "coder" "B" (.int (0 : Int32)) := D3 (Or.inr (hw _ (List.mem_of_getElem? (i := 25) rfl))) (ty := .byte) (by decide)
  obtain ⟨_, _, ⟨T4, L4, k4, n4⟩, -, X4, ⟨Lc4, hQ4, l4, y4, z4⟩, st4⟩ := Jvm.LawKit.callS X3 hx (y := (⟨"java/lang/StringLatin1", "toBytes", "(C)[B"⟩ : MethodName)) hown (mvT hZ (hw _ (List.mem_of_getElem? (i := 11) rfl))) (mvT hZ (hw _ (List.mem_of_getElem? (i := 12) rfl))) (mvT hZ (hw _ (List.mem_of_getElem? (i := 7) rfl))) (mvT hZ (hw _ (List.mem_of_getElem? (i := 13) rfl))) (by decide) (backOf (W := 2) (rm3 l Z a0 hw [] p1  h3 n0 (Nat.le_trans Z0 K3.1)  ) hZ (hw _ (List.mem_of_getElem? (i := 13) rfl)) (hw _ (List.mem_of_getElem? (i := 7) rfl)) (by decide) (by decide)) (g := (mkF m 18 #[.val (.int p1)] [(.int p1), (.ref b3), (.ref b3)])) rfl (by rw [hml]; rfl) (argsL := [(.int p1)]) (rest := [(.ref b3), (.ref b3)]) (lenOf pd1 rfl) rfl (by show 2 * 0 + _ ≤ _; exact Nat.le_of_eq rfl) (hb hby d1_18) (fun _ _ => ⟨rfl, e3, (by decide : 1 + 1 ≤ _), (by decide : 4 + 1 ≤ _)⟩)
  dsimp only [Pt.U, Pt.locs, Pt.cells, Pt.slots] at X4 l4 y4 z4 st4 hQ4
  subst l4 y4 z4
  obtain ⟨b1_4, k1_4, rfl, N4q, K4, s4_b1, f4_0⟩ := hQ4
  have N4 := Fr.app N2 N4q
  have sz_b1_4 : h0.size ≤ b1_4 := Nat.le_trans K3.1 s4_b1
  have g_b1_4 : n0 ≤ b1_4 := Nat.le_trans Z0 sz_b1_4
  have KK4 : Keep h0 T4.heap [] := K3.trans K4 all0
  obtain ⟨_, _, ⟨T5, L5, k5, n5⟩, -, X5, ⟨Lc5, hQ5, l5, y5, z5⟩, st5⟩ := X4.specialBack hx (y := (⟨"java/lang/String", "<init>", "([BB)V"⟩ : MethodName)) rfl hown (mvT hZ (hw _ (List.mem_of_getElem? (i := 15) rfl))) (mvT hZ (hw _ (List.mem_of_getElem? (i := 16) rfl))) (mvT hZ (hw _ (List.mem_of_getElem? (i := 18) rfl))) (by decide) (backOf (W := 1) (rm4 l Z a0 hw [] b3 b1_4 (0 : Int32) .null (.int (0 : Int32)) T4.heap n0 (Nat.le_trans Z0 KK4.1) (A3.keep K4) (F_value_b3.keep K4 nin0) g_b3 (F_coder_b3.keep K4 nin0) ) hZ (hw _ (List.mem_of_getElem? (i := 18) rfl)) (hw _ (List.mem_of_getElem? (i := 2) rfl)) (by decide) (by decide)) (g := (mkF m 22 #[.val (.int p1)] [(.int (0 : Int32)), (.ref b1_4), (.ref b3), (.ref b3)])) rfl (by rw [hml]; rfl) (Steps.refl _) (a := b3) (argsL := [(.ref b1_4), (.int (0 : Int32))]) (rest := [(.ref b3)]) (lenOf pd2 rfl) rfl (by show 2 * 0 + _ ≤ _; exact Nat.le_of_eq rfl) (hb hby d1_22) (fun _ _ => ⟨rfl, rfl, (by decide : 2 + 0 ≤ _), (by decide : 5 + 0 ≤ _)⟩)
  dsimp only [Pt.U, Pt.locs, Pt.cells, Pt.slots] at X5 l5 y5 z5 st5 hQ5
  subst l5 y5 z5
  obtain ⟨rfl, N5q, K5, f5_0, f5_1, f5_2⟩ := hQ5
  have N5 := Fr.app N4 N5q
  have KK5 : Keep h0 T5.heap [] := KK4.trans K5 (allS (Or.inr sz_b3) all0)
  obtain ⟨fs, hr, hrun, hended, hW, hsame⟩ := X5.leave (v := some (.ref b3)) (fun h => by rw [Bd.returns] at h; cases h)
  refine ⟨_, _, pre0 _ ?_, hrun, hended, _, _, rfl, ?_, ⟨_, rfl⟩, hW, hsame.mono (by decide) (by decide)⟩
  · show Steps p.tables e below (s₁.setTop (mkF m 0 #[.val (.int p1)] [])) _
    refine st1 _ ?_
    show Steps p.tables e below (T1.setTop (mkF m 3 #[.val (.int p1)] [(.int w_COMPACT_STRINGS)])) _
    refine XS.ifNo X1.here hx rfl (hb hby d1_3) rfl ((if0 _ _).trans (feq hc3).1) ?_
    show Steps p.tables e below (T1.setTop (mkF m 6 #[.val (.int p1)] [])) _
    refine XS.iloadN X1.here hx rfl (hb hby d1_6) rfl ?_
    show Steps p.tables e below (T1.setTop (mkF m 7 #[.val (.int p1)] [(.int p1)])) _
    refine st2 _ ?_
    show Steps p.tables e below (T2.setTop (mkF m 10 #[.val (.int p1)] [(.int (res2 p1))])) _
    refine XS.ifNo X2.here hx rfl (hb hby d1_10) rfl ((if0 _ _).trans (feq hc10).1) ?_
    show Steps p.tables e below (T2.setTop (mkF m 13 #[.val (.int p1)] [])) _
    refine st3 _ ?_
    show Steps p.tables e below (T3.setTop (mkF m 16 #[.val (.int p1)] [(.ref b3)])) _
    refine XS.dup X3.here hx rfl (hb hby d1_16) rfl rfl ?_
    show Steps p.tables e below (T3.setTop (mkF m 17 #[.val (.int p1)] [(.ref b3), (.ref b3)])) _
    refine XS.iloadN X3.here hx rfl (hb hby d1_17) rfl ?_
    show Steps p.tables e below (T3.setTop (mkF m 18 #[.val (.int p1)] [(.int p1), (.ref b3), (.ref b3)])) _
    refine st4 _ ?_
    show Steps p.tables e below (T4.setTop (mkF m 21 #[.val (.int p1)] [(.ref b1_4), (.ref b3), (.ref b3)])) _
    refine XS.iconst X4.here hx rfl (hb hby d1_21) ?_
    show Steps p.tables e below (T4.setTop (mkF m 22 #[.val (.int p1)] [(.int (0 : Int32)), (.ref b1_4), (.ref b3), (.ref b3)])) _
    refine st5.trans ?_
    show Steps p.tables e below (T5.setTop (mkF m 25 #[.val (.int p1)] [(.ref b3)])) _
    exact retOut X5 hx Bd.returns rfl (Or.inr (Or.inr (Or.inr (Or.inr ⟨rfl, rfl, rfl⟩)))) (hb hby d1_25) hr
  · show Q1 Z p1 w_COMPACT_STRINGS h0 n0 _ T5.heap _
    exact ⟨b3, b1_4, k1_4, rfl, N5, KK5, sz_b3, sz_b1_4, ((A3.keep K4).keep K5), f5_1, f5_2, (f4_0.keep K5 (ninS (Ne.symm (Nat.ne_of_lt (Nat.lt_of_lt_of_le A3.lt s4_b1))) nin0))⟩
theorem d6_0 : decode prog_30_method_1_code 0 = .ok (.aload_n 0, 1) := by decide +kernel
theorem d6_1 : decode prog_30_method_1_code 1 = .ok (.invokespecial 1, 3) := by decide +kernel
theorem d6_4 : decode prog_30_method_1_code 4 = .ok (.aload_n 0, 1) := by decide +kernel
theorem d6_5 : decode prog_30_method_1_code 5 = .ok (.aload_n 1, 1) := by decide +kernel
theorem d6_6 : decode prog_30_method_1_code 6 = .ok (.putfield 7, 3) := by decide +kernel
theorem d6_9 : decode prog_30_method_1_code 9 = .ok (.aload_n 0, 1) := by decide +kernel
theorem d6_10 : decode prog_30_method_1_code 10 = .ok (.iload_n 2, 1) := by decide +kernel
theorem d6_11 : decode prog_30_method_1_code 11 = .ok (.putfield 13, 3) := by decide +kernel
theorem d6_14 : decode prog_30_method_1_code 14 = .ok (.aload_n 0, 1) := by decide +kernel
theorem d6_15 : decode prog_30_method_1_code 15 = .ok (.iload_n 3, 1) := by decide +kernel
theorem d6_16 : decode prog_30_method_1_code 16 = .ok (.putfield 17, 3) := by decide +kernel
theorem d6_19 : decode prog_30_method_1_code 19 = .ok (.return_, 1) := by decide +kernel
theorem pd3 : parseMethodDescriptor "()V" = some ⟨[], none⟩ := by decide +kernel
theorem pn3 : plainName "com/example/chartlight/chartlight/eval/Bracketing$Bracket" = true := by first | (simp [plainName, overriddenIn]; done) | decide +kernel
theorem ef6 (m : MethodId) (a1 : Addr) (a2 : Addr) (p3 : Int32) (p4 : Int32) : entryFrame m #[(.ref a1), (.ref a2), (.int p3), (.int p4)] 4 = (mkF m 0 #[.val (.ref a1), .val (.ref a2), .val (.int p3), .val (.int p4)] []) := by first | (simp [entryFrame, mkF, argsToLocals, Value.category]; done) | rfl
def Q6 (Z : State) (a1 : Addr) (a2 : Addr) (p3 : Int32) (p4 : Int32) (u_label_a1 : Value) (u_start_a1 : Value) (u_end_a1 : Value) (h0 : Heap) (n0 : Nat) (v : Option Value) (h : Heap) (L : List Loc) : Prop := v = none ∧ Fr n0 L ∧ Keep h0 h [a1] ∧ Exa Z h a1 "com/example/chartlight/chartlight/eval/Bracketing$Bracket" ∧ Fld Z h a1 "com/example/chartlight/chartlight/eval/Bracketing$Bracket" "label" "Ljava/lang/String;" (.ref a2) ∧ Fld Z h a1 "com/example/chartlight/chartlight/eval/Bracketing$Bracket" "start" "I" (.int p3) ∧ Fld Z h a1 "com/example/chartlight/chartlight/eval/Bracketing$Bracket" "end" "I" (.int p4)
set_option maxRecDepth 65536 in
set_option maxHeartbeats 40000000 in
theorem rm6 (l : Launch) (Z : State) (a0 : Array Value) (hw : ∀ d ∈ tables_1, d.before a0 Z = true) (ws : List Jvm.Cond) (a1 : Addr) (a2 : Addr) (p3 : Int32) (p4 : Int32) (u_label_a1 : Value) (u_start_a1 : Value) (u_end_a1 : Value) (h0 : Heap) (n0 : Nat) (Z0 : n0 ≤ h0.size) (E_a1 : Exa Z h0 a1 "com/example/chartlight/chartlight/eval/Bracketing$Bracket") (F_label_a1 : Fld Z h0 a1 "com/example/chartlight/chartlight/eval/Bracketing$Bracket" "label" "Ljava/lang/String;" u_label_a1) (g_a1 : n0 ≤ a1) (F_start_a1 : Fld Z h0 a1 "com/example/chartlight/chartlight/eval/Bracketing$Bracket" "start" "I" u_start_a1) (F_end_a1 : Fld Z h0 a1 "com/example/chartlight/chartlight/eval/Bracketing$Bracket" "end" "I" u_end_a1) :
    MetFree l (⟨"com/example/chartlight/chartlight/eval/Bracketing$Bracket", "<init>", "(Ljava/lang/String;II)V"⟩ : MethodName) (head1 (Jvm.Cond.code (⟨"com/example/chartlight/chartlight/eval/Bracketing$Bracket", "<init>", "(Ljava/lang/String;II)V"⟩ : MethodName) prog_30_method_1_code 4 none :: ws) ({ frames := 2, cells := 0, slots := 0, locals := 24 } : Room)) (fun a U => a = #[(.ref a1), (.ref a2), (.int p3), (.int p4)] ∧ Z.Warmed39 U.vm ∧ U.heap = h0) (fun _ _ _ _ _ => True) (fun _ U o U' => ∃ v L, o = .returned v ∧ Q6 Z a1 a2 p3 p4 u_label_a1 u_start_a1 u_end_a1 h0 n0 v U'.heap L ∧ FrameEnd U o U' L ({ frames := 2, cells := 0, slots := 0, locals := 24 } : Room).cells ({ frames := 2, cells := 0, slots := 0, locals := 24 } : Room).slots) := by
  refine MetFree.of_bodySF (plainFor_of_name pn3) hisR ?_
  intro p e s m args below meth c s₁ Bd hml0 hP hK
  obtain ⟨rfl, hZ, hh⟩ := hP
  have hx := Bd.exec
  have hby := Bd.bytes
  have hml : c.maxLocals = 4 := hml0
  have hown : s.vm.findClass "com/example/chartlight/chartlight/eval/Bracketing$Bracket" = some m.cls := findClass_of_methodNamed Bd.named
  have hnm := (name_of_methodNamed Bd.named Bd.method).1
  have X0 : Stand p l e ({ frames := 2, cells := 0, slots := 0, locals := 24 } : Room) s m #[(.ref a1), (.ref a2), (.int p3), (.int p4)] below meth c s₁ [] 0 0 := Stand.of_body Bd
  have e0 : s₁.heap = h0 := by rw [← hh, Bd.state]; rfl
  have N0 := Fr.nil n0
  have pre0 : ∀ t, Steps p.tables e below (s₁.setTop (mkF m 0 #[.val (.ref a1), .val (.ref a2), .val (.int p3), .val (.int p4)] [])) t → Steps p.tables e below (s₁.setTop (entryFrame m #[(.ref a1), (.ref a2), (.int p3), (.int p4)] 4)) t := fun t k => castTop (ef6 m a1 a2 p3 p4) k
  obtain ⟨_, _, ⟨T1, L1, k1, n1⟩, -, X1, ⟨Lc1, hQ1, l1, y1, z1⟩, st1⟩ := X0.specialBack hx (y := (⟨"java/lang/Record", "<init>", "()V"⟩ : MethodName)) rfl hown (mvT hZ (hw _ (List.mem_of_getElem? (i := 32) rfl))) (mvT hZ (hw _ (List.mem_of_getElem? (i := 33) rfl))) (mvT hZ (hw _ (List.mem_of_getElem? (i := 36) rfl))) (by decide) (backOf (W := 0) (rm7 l Z a0 hw [] a1  h0 n0 (Nat.le_trans Z0 (Keep.refl h0 [a1]).1)  ) hZ (hw _ (List.mem_of_getElem? (i := 36) rfl)) (hw _ (List.mem_of_getElem? (i := 35) rfl)) (by decide) (by decide)) (g := (mkF m 1 #[.val (.ref a1), .val (.ref a2), .val (.int p3), .val (.int p4)] [(.ref a1)])) rfl (by rw [hml]; rfl) (Steps.refl _) (a := a1) (argsL := []) (rest := []) (lenOf pd3 rfl) rfl (by show 2 * 0 + _ ≤ _; exact Nat.le_of_eq rfl) (hb hby d6_1) (fun _ _ => ⟨rfl, e0, (by decide : 0 + 0 ≤ _), (by decide : 0 + 0 ≤ _)⟩)
  dsimp only [Pt.U, Pt.locs, Pt.cells, Pt.slots] at X1 l1 y1 z1 st1 hQ1
  subst l1 y1 z1
  obtain ⟨rfl, rfl, e1⟩ := hQ1
  have N1 := Fr.app N0 (Fr.nil n0)
  obtain ⟨T2, h2, X2, e2, W2, st2⟩ := putF X1 hx hZ hown (host := "") (Or.inl (hw _ (List.mem_of_getElem? (i := 38) rfl))) Via.refl e1 F_label_a1 E_a1 (Or.inr ⟨(hw _ (List.mem_of_getElem? (i := 39) rfl)), rfl, hnm⟩) (hw _ (List.mem_of_getElem? (i := 27) rfl)) (ty := (.object "java/lang/String")) (by decide) rfl rfl (g := (mkF m 6 #[.val (.ref a1), .val (.ref a2), .val (.int p3), .val (.int p4)] [(.ref a2), (.ref a1)])) rfl rfl (hb hby d6_6)
  have Fw2 := F_label_a1.same W2
  have K2 : Keep h0 h2 [a1] := (Keep.refl h0 [a1]).wr W2 (Or.inl (List.mem_of_getElem? (i := 0) rfl))
  have N2 := Fr.snoc X2 N1 g_a1
  obtain ⟨T3, h3, X3, e3, W3, st3⟩ := putF X2 hx hZ hown (host := "") (Or.inl (hw _ (List.mem_of_getElem? (i := 40) rfl))) Via.refl e2 (F_start_a1.other W2 (Or.inr (slot_ne (Or.inr (hw _ (List.mem_of_getElem? (i := 41) rfl))) (Or.inr (hw _ (List.mem_of_getElem? (i := 39) rfl))) (by decide) (t := .int) (t' := (.object "java/lang/String")) (by decide) (by decide)))) (E_a1.wr W2) (Or.inr ⟨(hw _ (List.mem_of_getElem? (i := 41) rfl)), rfl, hnm⟩) (hw _ (List.mem_of_getElem? (i := 27) rfl)) (ty := .int) (by decide) rfl rfl (g := (mkF m 11 #[.val (.ref a1), .val (.ref a2), .val (.int p3), .val (.int p4)] [(.int p3), (.ref a1)])) rfl rfl (hb hby d6_11)
  have Fw3 := (F_start_a1.other W2 (Or.inr (slot_ne (Or.inr (hw _ (List.mem_of_getElem? (i := 41) rfl))) (Or.inr (hw _ (List.mem_of_getElem? (i := 39) rfl))) (by decide) (t := .int) (t' := (.object "java/lang/String")) (by decide) (by decide)))).same W3
  have K3 : Keep h0 h3 [a1] := K2.wr W3 (Or.inl (List.mem_of_getElem? (i := 0) rfl))
  have N3 := Fr.snoc X3 N2 g_a1
  obtain ⟨T4, h4, X4, e4, W4, st4⟩ := putF X3 hx hZ hown (host := "") (Or.inl (hw _ (List.mem_of_getElem? (i := 42) rfl))) Via.refl e3 ((F_end_a1.other W2 (Or.inr (slot_ne (Or.inr (hw _ (List.mem_of_getElem? (i := 43) rfl))) (Or.inr (hw _ (List.mem_of_getElem? (i := 39) rfl))) (by decide) (t := .int) (t' := (.object "java/lang/String")) (by decide) (by decide)))).other W3 (Or.inr (slot_ne (Or.inr (hw _ (List.mem_of_getElem? (i := 43) rfl))) (Or.inr (hw _ (List.mem_of_getElem? (i := 41) rfl))) (by decide) (t := .int) (t' := .int) (by decide) (by decide)))) ((E_a1.wr W2).wr W3) (Or.inr ⟨(hw _ (List.mem_of_getElem? (i := 43) rfl)), rfl, hnm⟩) (hw _ (List.mem_of_getElem? (i := 27) rfl)) (ty := .int) (by decide) rfl rfl (g := (mkF m 16 #[.val (.ref a1), .val (.ref a2), .val (.int p3), .val (.int p4)] [(.int p4), (.ref a1)])) rfl rfl (hb hby d6_16)
  have Fw4 := ((F_end_a1.other W2 (Or.inr (slot_ne (Or.inr (hw _ (List.mem_of_getElem? (i := 43) rfl))) (Or.inr (hw _ (List.mem_of_getElem? (i := 39) rfl))) (by decide) (t := .int) (t' := (.object "java/lang/String")) (by decide) (by decide)))).other W3 (Or.inr (slot_ne (Or.inr (hw _ (List.mem_of_getElem? (i := 43) rfl))) (Or.inr (hw _ (List.mem_of_getElem? (i := 41) rfl))) (by decide) (t := .int) (t' := .int) (by decide) (by decide)))).same W4
  have K4 : Keep h0 h4 [a1] := K3.wr W4 (Or.inl (List.mem_of_getElem? (i := 0) rfl))
  have N4 := Fr.snoc X4 N3 g_a1
  obtain ⟨fs, hr, hrun, hended, hW, hsame⟩ := X4.leave (v := none) (fun _ => rfl)
  refine ⟨_, _, pre0 _ ?_, hrun, hended, _, _, rfl, ?_, ⟨_, rfl⟩, hW, hsame.mono (by decide) (by decide)⟩
  · show Steps p.tables e below (s₁.setTop (mkF m 0 #[.val (.ref a1), .val (.ref a2), .val (.int p3), .val (.int p4)] [])) _
    refine XS.aloadN X0.here hx rfl (hb hby d6_0) rfl rfl ?_
    show Steps p.tables e below (s₁.setTop (mkF m 1 #[.val (.ref a1), .val (.ref a2), .val (.int p3), .val (.int p4)] [(.ref a1)])) _
    refine st1.trans ?_
    show Steps p.tables e below (T1.setTop (mkF m 4 #[.val (.ref a1), .val (.ref a2), .val (.int p3), .val (.int p4)] [])) _
    refine XS.aloadN X1.here hx rfl (hb hby d6_4) rfl rfl ?_
    show Steps p.tables e below (T1.setTop (mkF m 5 #[.val (.ref a1), .val (.ref a2), .val (.int p3), .val (.int p4)] [(.ref a1)])) _
    refine XS.aloadN X1.here hx rfl (hb hby d6_5) rfl rfl ?_
    show Steps p.tables e below (T1.setTop (mkF m 6 #[.val (.ref a1), .val (.ref a2), .val (.int p3), .val (.int p4)] [(.ref a2), (.ref a1)])) _
    refine st2 _ ?_
    show Steps p.tables e below (T2.setTop (mkF m 9 #[.val (.ref a1), .val (.ref a2), .val (.int p3), .val (.int p4)] [])) _
    refine XS.aloadN X2.here hx rfl (hb hby d6_9) rfl rfl ?_
    show Steps p.tables e below (T2.setTop (mkF m 10 #[.val (.ref a1), .val (.ref a2), .val (.int p3), .val (.int p4)] [(.ref a1)])) _
    refine XS.iloadN X2.here hx rfl (hb hby d6_10) rfl ?_
    show Steps p.tables e below (T2.setTop (mkF m 11 #[.val (.ref a1), .val (.ref a2), .val (.int p3), .val (.int p4)] [(.int p3), (.ref a1)])) _
    refine st3 _ ?_
    show Steps p.tables e below (T3.setTop (mkF m 14 #[.val (.ref a1), .val (.ref a2), .val (.int p3), .val (.int p4)] [])) _
    refine XS.aloadN X3.here hx rfl (hb hby d6_14) rfl rfl ?_
    show Steps p.tables e below (T3.setTop (mkF m 15 #[.val (.ref a1), .val (.ref a2), .val (.int p3), .val (.int p4)] [(.ref a1)])) _
    refine XS.iloadN X3.here hx rfl (hb hby d6_15) rfl ?_
    show Steps p.tables e below (T3.setTop (mkF m 16 #[.val (.ref a1), .val (.ref a2), .val (.int p3), .val (.int p4)] [(.int p4), (.ref a1)])) _
    refine st4 _ ?_
    show Steps p.tables e below (T4.setTop (mkF m 19 #[.val (.ref a1), .val (.ref a2), .val (.int p3), .val (.int p4)] [])) _
    exact X4.returnOut hx Bd.returns (hb hby d6_19) hr
  · show Q6 Z a1 a2 p3 p4 u_label_a1 u_start_a1 u_end_a1 h0 n0 _ T4.heap _
    rw [e4]
    exact ⟨rfl, N4, K4, (((E_a1.wr W2).wr W3).wr W4), ((Fw2.other W3 (Or.inr (slot_ne (Or.inr (hw _ (List.mem_of_getElem? (i := 39) rfl))) (Or.inr (hw _ (List.mem_of_getElem? (i := 41) rfl))) (by decide) (t := (.object "java/lang/String")) (t' := .int) (by decide) (by decide)))).other W4 (Or.inr (slot_ne (Or.inr (hw _ (List.mem_of_getElem? (i := 39) rfl))) (Or.inr (hw _ (List.mem_of_getElem? (i := 43) rfl))) (by decide) (t := (.object "java/lang/String")) (t' := .int) (by decide) (by decide)))), (Fw3.other W4 (Or.inr (slot_ne (Or.inr (hw _ (List.mem_of_getElem? (i := 41) rfl))) (Or.inr (hw _ (List.mem_of_getElem? (i := 43) rfl))) (by decide) (t := .int) (t' := .int) (by decide) (by decide)))), Fw4⟩
theorem d8_0 : decode jdk_29_method_65_code 0 = .ok (.iload_n 0, 1) := by decide +kernel
theorem d8_1 : decode jdk_29_method_65_code 1 = .ok (.iload_n 1, 1) := by decide +kernel
theorem d8_2 : decode jdk_29_method_65_code 2 = .ok (.if_icmp .lt 7, 3) := by decide +kernel
theorem d8_5 : decode jdk_29_method_65_code 5 = .ok (.iload_n 0, 1) := by decide +kernel
theorem d8_6 : decode jdk_29_method_65_code 6 = .ok (.goto 4, 3) := by decide +kernel
theorem d8_9 : decode jdk_29_method_65_code 9 = .ok (.iload_n 1, 1) := by decide +kernel
theorem d8_10 : decode jdk_29_method_65_code 10 = .ok (.ireturn, 1) := by decide +kernel
def res8 (p1 : Int32) (p2 : Int32) : Int32 := if p1 < p2 then p2 else p1
theorem ef8 (m : MethodId) (p1 : Int32) (p2 : Int32) : entryFrame m #[(.int p1), (.int p2)] 2 = (mkF m 0 #[.val (.int p1), .val (.int p2)] []) := by first | (simp [entryFrame, mkF, argsToLocals, Value.category]; done) | rfl
def Q8 (Z : State) (p1 : Int32) (p2 : Int32) (h0 : Heap) (n0 : Nat) (v : Option Value) (h : Heap) (L : List Loc) : Prop := v = some (.int (res8 p1 p2)) ∧ L = [] ∧ h = h0
set_option maxRecDepth 65536 in
set_option maxHeartbeats 40000000 in
theorem rm8 (l : Launch) (Z : State) (a0 : Array Value) (hw : ∀ d ∈ tables_1, d.before a0 Z = true) (ws : List Jvm.Cond) (p1 : Int32) (p2 : Int32) (h0 : Heap) (n0 : Nat) (Z0 : n0 ≤ h0.size) :
    MetFree l (⟨"java/lang/Math", "max", "(II)I"⟩ : MethodName) (head1 (Jvm.Cond.code (⟨"java/lang/Math", "max", "(II)I"⟩ : MethodName) jdk_29_method_65_code 2 (some .int) :: ws) ({ frames := 0, cells := 0, slots := 0, locals := 0 } : Room)) (fun a U => a = #[(.int p1), (.int p2)] ∧ Z.Warmed39 U.vm ∧ U.heap = h0) (fun _ _ _ _ _ => True) (fun _ U o U' => ∃ v L, o = .returned v ∧ Q8 Z p1 p2 h0 n0 v U'.heap L ∧ FrameEnd U o U' L ({ frames := 0, cells := 0, slots := 0, locals := 0 } : Room).cells ({ frames := 0, cells := 0, slots := 0, locals := 0 } : Room).slots) := by
  refine MetFree.of_bodySF (Jvm.Free.JP.mathPlain rfl (by decide +kernel)) hisR ?_
  intro p e s m args below meth c s₁ Bd hml0 hP hK
  obtain ⟨rfl, hZ, hh⟩ := hP
  have hx := Bd.exec
  have hby := Bd.bytes
  have hml : c.maxLocals = 2 := hml0
  have hown : s.vm.findClass "java/lang/Math" = some m.cls := findClass_of_methodNamed Bd.named
  have hnm := (name_of_methodNamed Bd.named Bd.method).1
  have X0 : Stand p l e ({ frames := 0, cells := 0, slots := 0, locals := 0 } : Room) s m #[(.int p1), (.int p2)] below meth c s₁ [] 0 0 := Stand.of_body Bd
  have e0 : s₁.heap = h0 := by rw [← hh, Bd.state]; rfl
  have N0 := Fr.nil n0
  have pre0 : ∀ t, Steps p.tables e below (s₁.setTop (mkF m 0 #[.val (.int p1), .val (.int p2)] [])) t → Steps p.tables e below (s₁.setTop (entryFrame m #[(.int p1), (.int p2)] 2)) t := fun t k => castTop (ef8 m p1 p2) k
  have pre1 : ∀ t, Steps p.tables e below (s₁.setTop (mkF m 2 #[.val (.int p1), .val (.int p2)] [(.int p2), (.int p1)])) t → Steps p.tables e below (s₁.setTop (entryFrame m #[(.int p1), (.int p2)] 2)) t := by
    intro t kt
    refine pre0 _ ?_
    show Steps p.tables e below (s₁.setTop (mkF m 0 #[.val (.int p1), .val (.int p2)] [])) _
    refine XS.iloadN X0.here hx rfl (hb hby d8_0) rfl ?_
    show Steps p.tables e below (s₁.setTop (mkF m 1 #[.val (.int p1), .val (.int p2)] [(.int p1)])) _
    refine XS.iloadN X0.here hx rfl (hb hby d8_1) rfl ?_
    exact kt
  by_cases hc2_2 : p1 < p2
  · obtain ⟨fs, hr, hrun, hended, hW, hsame⟩ := X0.leave (v := some (.int p2)) (fun h => by rw [Bd.returns] at h; cases h)
    refine ⟨_, _, pre1 _ ?_, hrun, hended, _, _, rfl, ?_, ⟨_, rfl⟩, hW, hsame.mono (by decide) (by decide)⟩
    · show Steps p.tables e below (s₁.setTop (mkF m 2 #[.val (.int p1), .val (.int p2)] [(.int p2), (.int p1)])) _
      refine XS.icmpYes X0.here hx rfl (pc0 := 2) (pc' := 9) rfl (hb hby d8_2) rfl (tlt hc2_2).1 (by decide) (by decide) ?_
      show Steps p.tables e below (s₁.setTop (mkF m 9 #[.val (.int p1), .val (.int p2)] [])) _
      refine XS.iloadN X0.here hx rfl (hb hby d8_9) rfl ?_
      show Steps p.tables e below (s₁.setTop (mkF m 10 #[.val (.int p1), .val (.int p2)] [(.int p2)])) _
      exact retI X0 hx Bd.returns (hb hby d8_10) hr
    · show Q8 Z p1 p2 h0 n0 _ s₁.heap _
      rw [e0]
      exact ⟨by rw [res8, if_pos hc2_2], rfl, rfl⟩
  · obtain ⟨fs, hr, hrun, hended, hW, hsame⟩ := X0.leave (v := some (.int p1)) (fun h => by rw [Bd.returns] at h; cases h)
    refine ⟨_, _, pre1 _ ?_, hrun, hended, _, _, rfl, ?_, ⟨_, rfl⟩, hW, hsame.mono (by decide) (by decide)⟩
    · show Steps p.tables e below (s₁.setTop (mkF m 2 #[.val (.int p1), .val (.int p2)] [(.int p2), (.int p1)])) _
      refine XS.icmpNo X0.here hx rfl (hb hby d8_2) rfl (flt hc2_2).1 ?_
      show Steps p.tables e below (s₁.setTop (mkF m 5 #[.val (.int p1), .val (.int p2)] [])) _
      refine XS.iloadN X0.here hx rfl (hb hby d8_5) rfl ?_
      show Steps p.tables e below (s₁.setTop (mkF m 6 #[.val (.int p1), .val (.int p2)] [(.int p1)])) _
      refine XS.goto X0.here hx rfl (pc0 := 6) (pc' := 10) rfl (hb hby d8_6) (by decide) (by decide) ?_
      show Steps p.tables e below (s₁.setTop (mkF m 10 #[.val (.int p1), .val (.int p2)] [(.int p1)])) _
      exact retI X0 hx Bd.returns (hb hby d8_10) hr
    · show Q8 Z p1 p2 h0 n0 _ s₁.heap _
      rw [e0]
      exact ⟨by rw [res8, if_neg hc2_2], rfl, rfl⟩
theorem d9_0 : decode jdk_29_method_69_code 0 = .ok (.iload_n 0, 1) := by decide +kernel
theorem d9_1 : decode jdk_29_method_69_code 1 = .ok (.iload_n 1, 1) := by decide +kernel
theorem d9_2 : decode jdk_29_method_69_code 2 = .ok (.if_icmp .gt 7, 3) := by decide +kernel
theorem d9_5 : decode jdk_29_method_69_code 5 = .ok (.iload_n 0, 1) := by decide +kernel
theorem d9_6 : decode jdk_29_method_69_code 6 = .ok (.goto 4, 3) := by decide +kernel
theorem d9_9 : decode jdk_29_method_69_code 9 = .ok (.iload_n 1, 1) := by decide +kernel
theorem d9_10 : decode jdk_29_method_69_code 10 = .ok (.ireturn, 1) := by decide +kernel
def res9 (p1 : Int32) (p2 : Int32) : Int32 := if p2 < p1 then p2 else p1
theorem ef9 (m : MethodId) (p1 : Int32) (p2 : Int32) : entryFrame m #[(.int p1), (.int p2)] 2 = (mkF m 0 #[.val (.int p1), .val (.int p2)] []) := by first | (simp [entryFrame, mkF, argsToLocals, Value.category]; done) | rfl
def Q9 (Z : State) (p1 : Int32) (p2 : Int32) (h0 : Heap) (n0 : Nat) (v : Option Value) (h : Heap) (L : List Loc) : Prop := v = some (.int (res9 p1 p2)) ∧ L = [] ∧ h = h0
set_option maxRecDepth 65536 in
set_option maxHeartbeats 40000000 in
theorem rm9 (l : Launch) (Z : State) (a0 : Array Value) (hw : ∀ d ∈ tables_1, d.before a0 Z = true) (ws : List Jvm.Cond) (p1 : Int32) (p2 : Int32) (h0 : Heap) (n0 : Nat) (Z0 : n0 ≤ h0.size) :
    MetFree l (⟨"java/lang/Math", "min", "(II)I"⟩ : MethodName) (head1 (Jvm.Cond.code (⟨"java/lang/Math", "min", "(II)I"⟩ : MethodName) jdk_29_method_69_code 2 (some .int) :: ws) ({ frames := 0, cells := 0, slots := 0, locals := 0 } : Room)) (fun a U => a = #[(.int p1), (.int p2)] ∧ Z.Warmed39 U.vm ∧ U.heap = h0) (fun _ _ _ _ _ => True) (fun _ U o U' => ∃ v L, o = .returned v ∧ Q9 Z p1 p2 h0 n0 v U'.heap L ∧ FrameEnd U o U' L ({ frames := 0, cells := 0, slots := 0, locals := 0 } : Room).cells ({ frames := 0, cells := 0, slots := 0, locals := 0 } : Room).slots) := by
  refine MetFree.of_bodySF (Jvm.Free.JP.mathPlain rfl (by decide +kernel)) hisR ?_
  intro p e s m args below meth c s₁ Bd hml0 hP hK
  obtain ⟨rfl, hZ, hh⟩ := hP
  have hx := Bd.exec
  have hby := Bd.bytes
  have hml : c.maxLocals = 2 := hml0
  have hown : s.vm.findClass "java/lang/Math" = some m.cls := findClass_of_methodNamed Bd.named
  have hnm := (name_of_methodNamed Bd.named Bd.method).1
  have X0 : Stand p l e ({ frames := 0, cells := 0, slots := 0, locals := 0 } : Room) s m #[(.int p1), (.int p2)] below meth c s₁ [] 0 0 := Stand.of_body Bd
  have e0 : s₁.heap = h0 := by rw [← hh, Bd.state]; rfl
  have N0 := Fr.nil n0
  have pre0 : ∀ t, Steps p.tables e below (s₁.setTop (mkF m 0 #[.val (.int p1), .val (.int p2)] [])) t → Steps p.tables e below (s₁.setTop (entryFrame m #[(.int p1), (.int p2)] 2)) t := fun t k => castTop (ef9 m p1 p2) k
  have pre1 : ∀ t, Steps p.tables e below (s₁.setTop (mkF m 2 #[.val (.int p1), .val (.int p2)] [(.int p2), (.int p1)])) t → Steps p.tables e below (s₁.setTop (entryFrame m #[(.int p1), (.int p2)] 2)) t := by
    intro t kt
    refine pre0 _ ?_
    show Steps p.tables e below (s₁.setTop (mkF m 0 #[.val (.int p1), .val (.int p2)] [])) _
    refine XS.iloadN X0.here hx rfl (hb hby d9_0) rfl ?_
    show Steps p.tables e below (s₁.setTop (mkF m 1 #[.val (.int p1), .val (.int p2)] [(.int p1)])) _
    refine XS.iloadN X0.here hx rfl (hb hby d9_1) rfl ?_
    exact kt
  by_cases hc2_2 : p2 < p1
  · obtain ⟨fs, hr, hrun, hended, hW, hsame⟩ := X0.leave (v := some (.int p2)) (fun h => by rw [Bd.returns] at h; cases h)
    refine ⟨_, _, pre1 _ ?_, hrun, hended, _, _, rfl, ?_, ⟨_, rfl⟩, hW, hsame.mono (by decide) (by decide)⟩
    · show Steps p.tables e below (s₁.setTop (mkF m 2 #[.val (.int p1), .val (.int p2)] [(.int p2), (.int p1)])) _
      refine XS.icmpYes X0.here hx rfl (pc0 := 2) (pc' := 9) rfl (hb hby d9_2) rfl (tlt hc2_2).2.2.1 (by decide) (by decide) ?_
      show Steps p.tables e below (s₁.setTop (mkF m 9 #[.val (.int p1), .val (.int p2)] [])) _
      refine XS.iloadN X0.here hx rfl (hb hby d9_9) rfl ?_
      show Steps p.tables e below (s₁.setTop (mkF m 10 #[.val (.int p1), .val (.int p2)] [(.int p2)])) _
      exact retI X0 hx Bd.returns (hb hby d9_10) hr
    · show Q9 Z p1 p2 h0 n0 _ s₁.heap _
      rw [e0]
      exact ⟨by rw [res9, if_pos hc2_2], rfl, rfl⟩
  · obtain ⟨fs, hr, hrun, hended, hW, hsame⟩ := X0.leave (v := some (.int p1)) (fun h => by rw [Bd.returns] at h; cases h)
    refine ⟨_, _, pre1 _ ?_, hrun, hended, _, _, rfl, ?_, ⟨_, rfl⟩, hW, hsame.mono (by decide) (by decide)⟩
    · show Steps p.tables e below (s₁.setTop (mkF m 2 #[.val (.int p1), .val (.int p2)] [(.int p2), (.int p1)])) _
      refine XS.icmpNo X0.here hx rfl (hb hby d9_2) rfl (flt hc2_2).2.2.1 ?_
      show Steps p.tables e below (s₁.setTop (mkF m 5 #[.val (.int p1), .val (.int p2)] [])) _
      refine XS.iloadN X0.here hx rfl (hb hby d9_5) rfl ?_
      show Steps p.tables e below (s₁.setTop (mkF m 6 #[.val (.int p1), .val (.int p2)] [(.int p1)])) _
      refine XS.goto X0.here hx rfl (pc0 := 6) (pc' := 10) rfl (hb hby d9_6) (by decide) (by decide) ?_
      show Steps p.tables e below (s₁.setTop (mkF m 10 #[.val (.int p1), .val (.int p2)] [(.int p1)])) _
      exact retI X0 hx Bd.returns (hb hby d9_10) hr
    · show Q9 Z p1 p2 h0 n0 _ s₁.heap _
      rw [e0]
      exact ⟨by rw [res9, if_neg hc2_2], rfl, rfl⟩
theorem d10_0 : decode prog_30_method_2_code 0 = .ok (.aload_n 0, 1) := by decide +kernel
theorem d10_1 : decode prog_30_method_2_code 1 = .ok (.getfield 13, 3) := by decide +kernel
theorem d10_4 : decode prog_30_method_2_code 4 = .ok (.aload_n 1, 1) := by decide +kernel
theorem d10_5 : decode prog_30_method_2_code 5 = .ok (.getfield 13, 3) := by decide +kernel
theorem d10_8 : decode prog_30_method_2_code 8 = .ok (.if_icmp .ge 25, 3) := by decide +kernel
theorem d10_11 : decode prog_30_method_2_code 11 = .ok (.aload_n 1, 1) := by decide +kernel
theorem d10_12 : decode prog_30_method_2_code 12 = .ok (.getfield 13, 3) := by decide +kernel
theorem d10_15 : decode prog_30_method_2_code 15 = .ok (.aload_n 0, 1) := by decide +kernel
theorem d10_16 : decode prog_30_method_2_code 16 = .ok (.getfield 17, 3) := by decide +kernel
theorem d10_19 : decode prog_30_method_2_code 19 = .ok (.if_icmp .ge 14, 3) := by decide +kernel
theorem d10_22 : decode prog_30_method_2_code 22 = .ok (.aload_n 0, 1) := by decide +kernel
theorem d10_23 : decode prog_30_method_2_code 23 = .ok (.getfield 17, 3) := by decide +kernel
theorem d10_26 : decode prog_30_method_2_code 26 = .ok (.aload_n 1, 1) := by decide +kernel
theorem d10_27 : decode prog_30_method_2_code 27 = .ok (.getfield 17, 3) := by decide +kernel
theorem d10_30 : decode prog_30_method_2_code 30 = .ok (.if_icmp .lt 36, 3) := by decide +kernel
theorem d10_33 : decode prog_30_method_2_code 33 = .ok (.aload_n 1, 1) := by decide +kernel
theorem d10_34 : decode prog_30_method_2_code 34 = .ok (.getfield 13, 3) := by decide +kernel
theorem d10_37 : decode prog_30_method_2_code 37 = .ok (.aload_n 0, 1) := by decide +kernel
theorem d10_38 : decode prog_30_method_2_code 38 = .ok (.getfield 13, 3) := by decide +kernel
theorem d10_41 : decode prog_30_method_2_code 41 = .ok (.if_icmp .ge 29, 3) := by decide +kernel
theorem d10_44 : decode prog_30_method_2_code 44 = .ok (.aload_n 0, 1) := by decide +kernel
theorem d10_45 : decode prog_30_method_2_code 45 = .ok (.getfield 13, 3) := by decide +kernel
theorem d10_48 : decode prog_30_method_2_code 48 = .ok (.aload_n 1, 1) := by decide +kernel
theorem d10_49 : decode prog_30_method_2_code 49 = .ok (.getfield 17, 3) := by decide +kernel
theorem d10_52 : decode prog_30_method_2_code 52 = .ok (.if_icmp .ge 18, 3) := by decide +kernel
theorem d10_55 : decode prog_30_method_2_code 55 = .ok (.aload_n 1, 1) := by decide +kernel
theorem d10_56 : decode prog_30_method_2_code 56 = .ok (.getfield 17, 3) := by decide +kernel
theorem d10_59 : decode prog_30_method_2_code 59 = .ok (.aload_n 0, 1) := by decide +kernel
theorem d10_60 : decode prog_30_method_2_code 60 = .ok (.getfield 17, 3) := by decide +kernel
theorem d10_63 : decode prog_30_method_2_code 63 = .ok (.if_icmp .ge 7, 3) := by decide +kernel
theorem d10_66 : decode prog_30_method_2_code 66 = .ok (.iconst 1, 1) := by decide +kernel
theorem d10_67 : decode prog_30_method_2_code 67 = .ok (.goto 4, 3) := by decide +kernel
theorem d10_70 : decode prog_30_method_2_code 70 = .ok (.iconst 0, 1) := by decide +kernel
theorem d10_71 : decode prog_30_method_2_code 71 = .ok (.ireturn, 1) := by decide +kernel
def res10 (w_start_a1 : Int32) (w_start_a2 : Int32) (w_end_a1 : Int32) (w_end_a2 : Int32) : Int32 := if w_start_a1 < w_start_a2 then (if w_start_a2 < w_end_a1 then (if w_end_a1 < w_end_a2 then (1 : Int32) else if w_start_a2 < w_start_a1 then (if w_start_a1 < w_end_a2 then (if w_end_a2 < w_end_a1 then (1 : Int32) else (0 : Int32)) else (0 : Int32)) else (0 : Int32)) else if w_start_a2 < w_start_a1 then (if w_start_a1 < w_end_a2 then (if w_end_a2 < w_end_a1 then (1 : Int32) else (0 : Int32)) else (0 : Int32)) else (0 : Int32)) else if w_start_a2 < w_start_a1 then (if w_start_a1 < w_end_a2 then (if w_end_a2 < w_end_a1 then (1 : Int32) else (0 : Int32)) else (0 : Int32)) else (0 : Int32)
theorem ef10 (m : MethodId) (a1 : Addr) (a2 : Addr) : entryFrame m #[(.ref a1), (.ref a2)] 2 = (mkF m 0 #[.val (.ref a1), .val (.ref a2)] []) := by first | (simp [entryFrame, mkF, argsToLocals, Value.category]; done) | rfl
def Q10 (Z : State) (a1 : Addr) (a2 : Addr) (w_start_a1 : Int32) (w_start_a2 : Int32) (w_end_a1 : Int32) (w_end_a2 : Int32) (h0 : Heap) (n0 : Nat) (v : Option Value) (h : Heap) (L : List Loc) : Prop := v = some (.int (res10 w_start_a1 w_start_a2 w_end_a1 w_end_a2)) ∧ L = [] ∧ h = h0
set_option maxRecDepth 65536 in
set_option maxHeartbeats 40000000 in
theorem rm10 (l : Launch) (Z : State) (a0 : Array Value) (hw : ∀ d ∈ tables_1, d.before a0 Z = true) (ws : List Jvm.Cond) (a1 : Addr) (a2 : Addr) (w_start_a1 : Int32) (w_start_a2 : Int32) (w_end_a1 : Int32) (w_end_a2 : Int32) (h0 : Heap) (n0 : Nat) (Z0 : n0 ≤ h0.size) (F_start_a1 : Fld Z h0 a1 "com/example/chartlight/chartlight/eval/Bracketing$Bracket" "start" "I" (.int w_start_a1)) (F_start_a2 : Fld Z h0 a2 "com/example/chartlight/chartlight/eval/Bracketing$Bracket" "start" "I" (.int w_start_a2)) (F_end_a1 : Fld Z h0 a1 "com/example/chartlight/chartlight/eval/Bracketing$Bracket" "end" "I" (.int w_end_a1)) (F_end_a2 : Fld Z h0 a2 "com/example/chartlight/chartlight/eval/Bracketing$Bracket" "end" "I" (.int w_end_a2)) :
    MetFree l (⟨"com/example/chartlight/chartlight/eval/Bracketing$Bracket", "crosses", "(Lcom/example/chartlight/chartlight/eval/Bracketing$Bracket;)Z"⟩ : MethodName) (head1 (Jvm.Cond.code (⟨"com/example/chartlight/chartlight/eval/Bracketing$Bracket", "crosses", "(Lcom/example/chartlight/chartlight/eval/Bracketing$Bracket;)Z"⟩ : MethodName) prog_30_method_2_code 2 (some .boolean) :: ws) ({ frames := 0, cells := 0, slots := 0, locals := 0 } : Room)) (fun a U => a = #[(.ref a1), (.ref a2)] ∧ Z.Warmed39 U.vm ∧ U.heap = h0) (fun _ _ _ _ _ => True) (fun _ U o U' => ∃ v L, o = .returned v ∧ Q10 Z a1 a2 w_start_a1 w_start_a2 w_end_a1 w_end_a2 h0 n0 v U'.heap L ∧ FrameEnd U o U' L ({ frames := 0, cells := 0, slots := 0, locals := 0 } : Room).cells ({ frames := 0, cells := 0, slots := 0, locals := 0 } : Room).slots) := by
  refine MetFree.of_bodySF (plainFor_of_name pn3) hisR ?_
  intro p e s m args below meth c s₁ Bd hml0 hP hK
  obtain ⟨rfl, hZ, hh⟩ := hP
  have hx := Bd.exec
  have hby := Bd.bytes
  have hml : c.maxLocals = 2 := hml0
  have hown : s.vm.findClass "com/example/chartlight/chartlight/eval/Bracketing$Bracket" = some m.cls := findClass_of_methodNamed Bd.named
  have hnm := (name_of_methodNamed Bd.named Bd.method).1
  have X0 : Stand p l e ({ frames := 0, cells := 0, slots := 0, locals := 0 } : Room) s m #[(.ref a1), (.ref a2)] below meth c s₁ [] 0 0 := Stand.of_body Bd
  have e0 : s₁.heap = h0 := by rw [← hh, Bd.state]; rfl
  have N0 := Fr.nil n0
  have pre0 : ∀ t, Steps p.tables e below (s₁.setTop (mkF m 0 #[.val (.ref a1), .val (.ref a2)] [])) t → Steps p.tables e below (s₁.setTop (entryFrame m #[(.ref a1), (.ref a2)] 2)) t := fun t k => castTop (ef10 m a1 a2) k
  obtain ⟨T1, X1, e1, st1⟩ := getF X0 hx hZ hown (host := "") (Or.inl (hw _ (List.mem_of_getElem? (i := 40) rfl))) Via.refl e0 F_start_a1 (g := (mkF m 1 #[.val (.ref a1), .val (.ref a2)] [(.ref a1)])) rfl rfl (hb hby d10_1)
  obtain ⟨T2, X2, e2, st2⟩ := getF X1 hx hZ hown (host := "") (Or.inl (hw _ (List.mem_of_getElem? (i := 40) rfl))) Via.refl e1 F_start_a2 (g := (mkF m 5 #[.val (.ref a1), .val (.ref a2)] [(.ref a2), (.int w_start_a1)])) rfl rfl (hb hby d10_5)
  have pre3 : ∀ t, Steps p.tables e below (T2.setTop (mkF m 8 #[.val (.ref a1), .val (.ref a2)] [(.int w_start_a2), (.int w_start_a1)])) t → Steps p.tables e below (s₁.setTop (entryFrame m #[(.ref a1), (.ref a2)] 2)) t := by
    intro t kt
    refine pre0 _ ?_
    show Steps p.tables e below (s₁.setTop (mkF m 0 #[.val (.ref a1), .val (.ref a2)] [])) _
    refine XS.aloadN X0.here hx rfl (hb hby d10_0) rfl rfl ?_
    show Steps p.tables e below (s₁.setTop (mkF m 1 #[.val (.ref a1), .val (.ref a2)] [(.ref a1)])) _
    refine st1 _ ?_
    show Steps p.tables e below (T1.setTop (mkF m 4 #[.val (.ref a1), .val (.ref a2)] [(.int w_start_a1)])) _
    refine XS.aloadN X1.here hx rfl (hb hby d10_4) rfl rfl ?_
    show Steps p.tables e below (T1.setTop (mkF m 5 #[.val (.ref a1), .val (.ref a2)] [(.ref a2), (.int w_start_a1)])) _
    refine st2 _ ?_
    exact kt
  by_cases hc8_4 : w_start_a1 < w_start_a2
  · obtain ⟨T5, X5, e5, st5⟩ := getF X2 hx hZ hown (host := "") (Or.inl (hw _ (List.mem_of_getElem? (i := 40) rfl))) Via.refl e2 F_start_a2 (g := (mkF m 12 #[.val (.ref a1), .val (.ref a2)] [(.ref a2)])) rfl rfl (hb hby d10_12)
    obtain ⟨T6, X6, e6, st6⟩ := getF X5 hx hZ hown (host := "") (Or.inl (hw _ (List.mem_of_getElem? (i := 42) rfl))) Via.refl e5 F_end_a1 (g := (mkF m 16 #[.val (.ref a1), .val (.ref a2)] [(.ref a1), (.int w_start_a2)])) rfl rfl (hb hby d10_16)
    have pre7 : ∀ t, Steps p.tables e below (T6.setTop (mkF m 19 #[.val (.ref a1), .val (.ref a2)] [(.int w_end_a1), (.int w_start_a2)])) t → Steps p.tables e below (s₁.setTop (entryFrame m #[(.ref a1), (.ref a2)] 2)) t := by
      intro t kt
      refine pre3 _ ?_
      show Steps p.tables e below (T2.setTop (mkF m 8 #[.val (.ref a1), .val (.ref a2)] [(.int w_start_a2), (.int w_start_a1)])) _
      refine XS.icmpNo X2.here hx rfl (hb hby d10_8) rfl (tlt hc8_4).2.1 ?_
      show Steps p.tables e below (T2.setTop (mkF m 11 #[.val (.ref a1), .val (.ref a2)] [])) _
      refine XS.aloadN X2.here hx rfl (hb hby d10_11) rfl rfl ?_
      show Steps p.tables e below (T2.setTop (mkF m 12 #[.val (.ref a1), .val (.ref a2)] [(.ref a2)])) _
      refine st5 _ ?_
      show Steps p.tables e below (T5.setTop (mkF m 15 #[.val (.ref a1), .val (.ref a2)] [(.int w_start_a2)])) _
      refine XS.aloadN X5.here hx rfl (hb hby d10_15) rfl rfl ?_
      show Steps p.tables e below (T5.setTop (mkF m 16 #[.val (.ref a1), .val (.ref a2)] [(.ref a1), (.int w_start_a2)])) _
      refine st6 _ ?_
      exact kt
    by_cases hc19_8 : w_start_a2 < w_end_a1
    · obtain ⟨T9, X9, e9, st9⟩ := getF X6 hx hZ hown (host := "") (Or.inl (hw _ (List.mem_of_getElem? (i := 42) rfl))) Via.refl e6 F_end_a1 (g := (mkF m 23 #[.val (.ref a1), .val (.ref a2)] [(.ref a1)])) rfl rfl (hb hby d10_23)
      obtain ⟨T10, X10, e10, st10⟩ := getF X9 hx hZ hown (host := "") (Or.inl (hw _ (List.mem_of_getElem? (i := 42) rfl))) Via.refl e9 F_end_a2 (g := (mkF m 27 #[.val (.ref a1), .val (.ref a2)] [(.ref a2), (.int w_end_a1)])) rfl rfl (hb hby d10_27)
      have pre11 : ∀ t, Steps p.tables e below (T10.setTop (mkF m 30 #[.val (.ref a1), .val (.ref a2)] [(.int w_end_a2), (.int w_end_a1)])) t → Steps p.tables e below (s₁.setTop (entryFrame m #[(.ref a1), (.ref a2)] 2)) t := by
        intro t kt
        refine pre7 _ ?_
        show Steps p.tables e below (T6.setTop (mkF m 19 #[.val (.ref a1), .val (.ref a2)] [(.int w_end_a1), (.int w_start_a2)])) _
        refine XS.icmpNo X6.here hx rfl (hb hby d10_19) rfl (tlt hc19_8).2.1 ?_
        show Steps p.tables e below (T6.setTop (mkF m 22 #[.val (.ref a1), .val (.ref a2)] [])) _
        refine XS.aloadN X6.here hx rfl (hb hby d10_22) rfl rfl ?_
        show Steps p.tables e below (T6.setTop (mkF m 23 #[.val (.ref a1), .val (.ref a2)] [(.ref a1)])) _
        refine st9 _ ?_
        show Steps p.tables e below (T9.setTop (mkF m 26 #[.val (.ref a1), .val (.ref a2)] [(.int w_end_a1)])) _
        refine XS.aloadN X9.here hx rfl (hb hby d10_26) rfl rfl ?_
        show Steps p.tables e below (T9.setTop (mkF m 27 #[.val (.ref a1), .val (.ref a2)] [(.ref a2), (.int w_end_a1)])) _
        refine st10 _ ?_
        exact kt
      by_cases hc30_12 : w_end_a1 < w_end_a2
      · obtain ⟨fs, hr, hrun, hended, hW, hsame⟩ := X10.leave (v := some (.int (1 : Int32))) (fun h => by rw [Bd.returns] at h; cases h)
        refine ⟨_, _, pre11 _ ?_, hrun, hended, _, _, rfl, ?_, ⟨_, rfl⟩, hW, hsame.mono (by decide) (by decide)⟩
        · show Steps p.tables e below (T10.setTop (mkF m 30 #[.val (.ref a1), .val (.ref a2)] [(.int w_end_a2), (.int w_end_a1)])) _
          refine XS.icmpYes X10.here hx rfl (pc0 := 30) (pc' := 66) rfl (hb hby d10_30) rfl (tlt hc30_12).1 (by decide) (by decide) ?_
          show Steps p.tables e below (T10.setTop (mkF m 66 #[.val (.ref a1), .val (.ref a2)] [])) _
          refine XS.iconst X10.here hx rfl (hb hby d10_66) ?_
          show Steps p.tables e below (T10.setTop (mkF m 67 #[.val (.ref a1), .val (.ref a2)] [(.int (1 : Int32))])) _
          refine XS.goto X10.here hx rfl (pc0 := 67) (pc' := 71) rfl (hb hby d10_67) (by decide) (by decide) ?_
          show Steps p.tables e below (T10.setTop (mkF m 71 #[.val (.ref a1), .val (.ref a2)] [(.int (1 : Int32))])) _
          exact retN X10 hx (t := .boolean) Bd.returns (by simp) (hb hby d10_71) hr
        · show Q10 Z a1 a2 w_start_a1 w_start_a2 w_end_a1 w_end_a2 h0 n0 _ T10.heap _
          rw [e10]
          exact ⟨by rw [res10, if_pos hc8_4, if_pos hc19_8, if_pos hc30_12], rfl, rfl⟩
      · obtain ⟨T13, X13, e13, st13⟩ := getF X10 hx hZ hown (host := "") (Or.inl (hw _ (List.mem_of_getElem? (i := 40) rfl))) Via.refl e10 F_start_a2 (g := (mkF m 34 #[.val (.ref a1), .val (.ref a2)] [(.ref a2)])) rfl rfl (hb hby d10_34)
        obtain ⟨T14, X14, e14, st14⟩ := getF X13 hx hZ hown (host := "") (Or.inl (hw _ (List.mem_of_getElem? (i := 40) rfl))) Via.refl e13 F_start_a1 (g := (mkF m 38 #[.val (.ref a1), .val (.ref a2)] [(.ref a1), (.int w_start_a2)])) rfl rfl (hb hby d10_38)
        have pre15 : ∀ t, Steps p.tables e below (T14.setTop (mkF m 41 #[.val (.ref a1), .val (.ref a2)] [(.int w_start_a1), (.int w_start_a2)])) t → Steps p.tables e below (s₁.setTop (entryFrame m #[(.ref a1), (.ref a2)] 2)) t := by
          intro t kt
          refine pre11 _ ?_
          show Steps p.tables e below (T10.setTop (mkF m 30 #[.val (.ref a1), .val (.ref a2)] [(.int w_end_a2), (.int w_end_a1)])) _
          refine XS.icmpNo X10.here hx rfl (hb hby d10_30) rfl (flt hc30_12).1 ?_
          show Steps p.tables e below (T10.setTop (mkF m 33 #[.val (.ref a1), .val (.ref a2)] [])) _
          refine XS.aloadN X10.here hx rfl (hb hby d10_33) rfl rfl ?_
          show Steps p.tables e below (T10.setTop (mkF m 34 #[.val (.ref a1), .val (.ref a2)] [(.ref a2)])) _
          refine st13 _ ?_
          show Steps p.tables e below (T13.setTop (mkF m 37 #[.val (.ref a1), .val (.ref a2)] [(.int w_start_a2)])) _
          refine XS.aloadN X13.here hx rfl (hb hby d10_37) rfl rfl ?_
          show Steps p.tables e below (T13.setTop (mkF m 38 #[.val (.ref a1), .val (.ref a2)] [(.ref a1), (.int w_start_a2)])) _
          refine st14 _ ?_
          exact kt
        by_cases hc41_16 : w_start_a2 < w_start_a1
        · obtain ⟨T17, X17, e17, st17⟩ := getF X14 hx hZ hown (host := "") (Or.inl (hw _ (List.mem_of_getElem? (i := 40) rfl))) Via.refl e14 F_start_a1 (g := (mkF m 45 #[.val (.ref a1), .val (.ref a2)] [(.ref a1)])) rfl rfl (hb hby d10_45)
          obtain ⟨T18, X18, e18, st18⟩ := getF X17 hx hZ hown (host := "") (Or.inl (hw _ (List.mem_of_getElem? (i := 42) rfl))) Via.refl e17 F_end_a2 (g := (mkF m 49 #[.val (.ref a1), .val (.ref a2)] [(.ref a2), (.int w_start_a1)])) rfl rfl (hb hby d10_49)
          have pre19 : ∀ t, Steps p.tables e below (T18.setTop (mkF m 52 #[.val (.ref a1), .val (.ref a2)] [(.int w_end_a2), (.int w_start_a1)])) t → Steps p.tables e below (s₁.setTop (entryFrame m #[(.ref a1), (.ref a2)] 2)) t := by
            intro t kt
            refine pre15 _ ?_
            show Steps p.tables e below (T14.setTop (mkF m 41 #[.val (.ref a1), .val (.ref a2)] [(.int w_start_a1), (.int w_start_a2)])) _
            refine XS.icmpNo X14.here hx rfl (hb hby d10_41) rfl (tlt hc41_16).2.1 ?_
            show Steps p.tables e below (T14.setTop (mkF m 44 #[.val (.ref a1), .val (.ref a2)] [])) _
            refine XS.aloadN X14.here hx rfl (hb hby d10_44) rfl rfl ?_
            show Steps p.tables e below (T14.setTop (mkF m 45 #[.val (.ref a1), .val (.ref a2)] [(.ref a1)])) _
            refine st17 _ ?_
            show Steps p.tables e below (T17.setTop (mkF m 48 #[.val (.ref a1), .val (.ref a2)] [(.int w_start_a1)])) _
            refine XS.aloadN X17.here hx rfl (hb hby d10_48) rfl rfl ?_
            show Steps p.tables e below (T17.setTop (mkF m 49 #[.val (.ref a1), .val (.ref a2)] [(.ref a2), (.int w_start_a1)])) _
            refine st18 _ ?_
            exact kt
          by_cases hc52_20 : w_start_a1 < w_end_a2
          · obtain ⟨T21, X21, e21, st21⟩ := getF X18 hx hZ hown (host := "") (Or.inl (hw _ (List.mem_of_getElem? (i := 42) rfl))) Via.refl e18 F_end_a2 (g := (mkF m 56 #[.val (.ref a1), .val (.ref a2)] [(.ref a2)])) rfl rfl (hb hby d10_56)
            obtain ⟨T22, X22, e22, st22⟩ := getF X21 hx hZ hown (host := "") (Or.inl (hw _ (List.mem_of_getElem? (i := 42) rfl))) Via.refl e21 F_end_a1 (g := (mkF m 60 #[.val (.ref a1), .val (.ref a2)] [(.ref a1), (.int w_end_a2)])) rfl rfl (hb hby d10_60)
            have pre23 : ∀ t, Steps p.tables e below (T22.setTop (mkF m 63 #[.val (.ref a1), .val (.ref a2)] [(.int w_end_a1), (.int w_end_a2)])) t → Steps p.tables e below (s₁.setTop (entryFrame m #[(.ref a1), (.ref a2)] 2)) t := by
              intro t kt
              refine pre19 _ ?_
              show Steps p.tables e below (T18.setTop (mkF m 52 #[.val (.ref a1), .val (.ref a2)] [(.int w_end_a2), (.int w_start_a1)])) _
              refine XS.icmpNo X18.here hx rfl (hb hby d10_52) rfl (tlt hc52_20).2.1 ?_
              show Steps p.tables e below (T18.setTop (mkF m 55 #[.val (.ref a1), .val (.ref a2)] [])) _
              refine XS.aloadN X18.here hx rfl (hb hby d10_55) rfl rfl ?_
              show Steps p.tables e below (T18.setTop (mkF m 56 #[.val (.ref a1), .val (.ref a2)] [(.ref a2)])) _
              refine st21 _ ?_
              show Steps p.tables e below (T21.setTop (mkF m 59 #[.val (.ref a1), .val (.ref a2)] [(.int w_end_a2)])) _
              refine XS.aloadN X21.here hx rfl (hb hby d10_59) rfl rfl ?_
              show Steps p.tables e below (T21.setTop (mkF m 60 #[.val (.ref a1), .val (.ref a2)] [(.ref a1), (.int w_end_a2)])) _
              refine st22 _ ?_
              exact kt
            by_cases hc63_24 : w_end_a2 < w_end_a1
            · obtain ⟨fs, hr, hrun, hended, hW, hsame⟩ := X22.leave (v := some (.int (1 : Int32))) (fun h => by rw [Bd.returns] at h; cases h)
              refine ⟨_, _, pre23 _ ?_, hrun, hended, _, _, rfl, ?_, ⟨_, rfl⟩, hW, hsame.mono (by decide) (by decide)⟩
              · show Steps p.tables e below (T22.setTop (mkF m 63 #[.val (.ref a1), .val (.ref a2)] [(.int w_end_a1), (.int w_end_a2)])) _
                refine XS.icmpNo X22.here hx rfl (hb hby d10_63) rfl (tlt hc63_24).2.1 ?_
                show Steps p.tables e below (T22.setTop (mkF m 66 #[.val (.ref a1), .val (.ref a2)] [])) _
                refine XS.iconst X22.here hx rfl (hb hby d10_66) ?_
                show Steps p.tables e below (T22.setTop (mkF m 67 #[.val (.ref a1), .val (.ref a2)] [(.int (1 : Int32))])) _
                refine XS.goto X22.here hx rfl (pc0 := 67) (pc' := 71) rfl (hb hby d10_67) (by decide) (by decide) ?_
                show Steps p.tables e below (T22.setTop (mkF m 71 #[.val (.ref a1), .val (.ref a2)] [(.int (1 : Int32))])) _
                exact retN X22 hx (t := .boolean) Bd.returns (by simp) (hb hby d10_71) hr
              · show Q10 Z a1 a2 w_start_a1 w_start_a2 w_end_a1 w_end_a2 h0 n0 _ T22.heap _
                rw [e22]
                exact ⟨by rw [res10, if_pos hc8_4, if_pos hc19_8, if_neg hc30_12, if_pos hc41_16, if_pos hc52_20, if_pos hc63_24], rfl, rfl⟩
            · obtain ⟨fs, hr, hrun, hended, hW, hsame⟩ := X22.leave (v := some (.int (0 : Int32))) (fun h => by rw [Bd.returns] at h; cases h)
              refine ⟨_, _, pre23 _ ?_, hrun, hended, _, _, rfl, ?_, ⟨_, rfl⟩, hW, hsame.mono (by decide) (by decide)⟩
              · show Steps p.tables e below (T22.setTop (mkF m 63 #[.val (.ref a1), .val (.ref a2)] [(.int w_end_a1), (.int w_end_a2)])) _
                refine XS.icmpYes X22.here hx rfl (pc0 := 63) (pc' := 70) rfl (hb hby d10_63) rfl (flt hc63_24).2.1 (by decide) (by decide) ?_
                show Steps p.tables e below (T22.setTop (mkF m 70 #[.val (.ref a1), .val (.ref a2)] [])) _
                refine XS.iconst X22.here hx rfl (hb hby d10_70) ?_
                show Steps p.tables e below (T22.setTop (mkF m 71 #[.val (.ref a1), .val (.ref a2)] [(.int (0 : Int32))])) _
                exact retN X22 hx (t := .boolean) Bd.returns (by simp) (hb hby d10_71) hr
              · show Q10 Z a1 a2 w_start_a1 w_start_a2 w_end_a1 w_end_a2 h0 n0 _ T22.heap _
                rw [e22]
                exact ⟨by rw [res10, if_pos hc8_4, if_pos hc19_8, if_neg hc30_12, if_pos hc41_16, if_pos hc52_20, if_neg hc63_24], rfl, rfl⟩
          · obtain ⟨fs, hr, hrun, hended, hW, hsame⟩ := X18.leave (v := some (.int (0 : Int32))) (fun h => by rw [Bd.returns] at h; cases h)
            refine ⟨_, _, pre19 _ ?_, hrun, hended, _, _, rfl, ?_, ⟨_, rfl⟩, hW, hsame.mono (by decide) (by decide)⟩
            · show Steps p.tables e below (T18.setTop (mkF m 52 #[.val (.ref a1), .val (.ref a2)] [(.int w_end_a2), (.int w_start_a1)])) _
              refine XS.icmpYes X18.here hx rfl (pc0 := 52) (pc' := 70) rfl (hb hby d10_52) rfl (flt hc52_20).2.1 (by decide) (by decide) ?_
              show Steps p.tables e below (T18.setTop (mkF m 70 #[.val (.ref a1), .val (.ref a2)] [])) _
              refine XS.iconst X18.here hx rfl (hb hby d10_70) ?_
              show Steps p.tables e below (T18.setTop (mkF m 71 #[.val (.ref a1), .val (.ref a2)] [(.int (0 : Int32))])) _
              exact retN X18 hx (t := .boolean) Bd.returns (by simp) (hb hby d10_71) hr
            · show Q10 Z a1 a2 w_start_a1 w_start_a2 w_end_a1 w_end_a2 h0 n0 _ T18.heap _
              rw [e18]
              exact ⟨by rw [res10, if_pos hc8_4, if_pos hc19_8, if_neg hc30_12, if_pos hc41_16, if_neg hc52_20], rfl, rfl⟩
        · obtain ⟨fs, hr, hrun, hended, hW, hsame⟩ := X14.leave (v := some (.int (0 : Int32))) (fun h => by rw [Bd.returns] at h; cases h)
          refine ⟨_, _, pre15 _ ?_, hrun, hended, _, _, rfl, ?_, ⟨_, rfl⟩, hW, hsame.mono (by decide) (by decide)⟩
          · show Steps p.tables e below (T14.setTop (mkF m 41 #[.val (.ref a1), .val (.ref a2)] [(.int w_start_a1), (.int w_start_a2)])) _
            refine XS.icmpYes X14.here hx rfl (pc0 := 41) (pc' := 70) rfl (hb hby d10_41) rfl (flt hc41_16).2.1 (by decide) (by decide) ?_
            show Steps p.tables e below (T14.setTop (mkF m 70 #[.val (.ref a1), .val (.ref a2)] [])) _
            refine XS.iconst X14.here hx rfl (hb hby d10_70) ?_
            show Steps p.tables e below (T14.setTop (mkF m 71 #[.val (.ref a1), .val (.ref a2)] [(.int (0 : Int32))])) _
            exact retN X14 hx (t := .boolean) Bd.returns (by simp) (hb hby d10_71) hr
          · show Q10 Z a1 a2 w_start_a1 w_start_a2 w_end_a1 w_end_a2 h0 n0 _ T14.heap _
            rw [e14]
            exact ⟨by rw [res10, if_pos hc8_4, if_pos hc19_8, if_neg hc30_12, if_neg hc41_16], rfl, rfl⟩
    · obtain ⟨T25, X25, e25, st25⟩ := getF X6 hx hZ hown (host := "") (Or.inl (hw _ (List.mem_of_getElem? (i := 40) rfl))) Via.refl e6 F_start_a2 (g := (mkF m 34 #[.val (.ref a1), .val (.ref a2)] [(.ref a2)])) rfl rfl (hb hby d10_34)
      obtain ⟨T26, X26, e26, st26⟩ := getF X25 hx hZ hown (host := "") (Or.inl (hw _ (List.mem_of_getElem? (i := 40) rfl))) Via.refl e25 F_start_a1 (g := (mkF m 38 #[.val (.ref a1), .val (.ref a2)] [(.ref a1), (.int w_start_a2)])) rfl rfl (hb hby d10_38)
      have pre27 : ∀ t, Steps p.tables e below (T26.setTop (mkF m 41 #[.val (.ref a1), .val (.ref a2)] [(.int w_start_a1), (.int w_start_a2)])) t → Steps p.tables e below (s₁.setTop (entryFrame m #[(.ref a1), (.ref a2)] 2)) t := by
        intro t kt
        refine pre7 _ ?_
        show Steps p.tables e below (T6.setTop (mkF m 19 #[.val (.ref a1), .val (.ref a2)] [(.int w_end_a1), (.int w_start_a2)])) _
        refine XS.icmpYes X6.here hx rfl (pc0 := 19) (pc' := 33) rfl (hb hby d10_19) rfl (flt hc19_8).2.1 (by decide) (by decide) ?_
        show Steps p.tables e below (T6.setTop (mkF m 33 #[.val (.ref a1), .val (.ref a2)] [])) _
        refine XS.aloadN X6.here hx rfl (hb hby d10_33) rfl rfl ?_
        show Steps p.tables e below (T6.setTop (mkF m 34 #[.val (.ref a1), .val (.ref a2)] [(.ref a2)])) _
        refine st25 _ ?_
        show Steps p.tables e below (T25.setTop (mkF m 37 #[.val (.ref a1), .val (.ref a2)] [(.int w_start_a2)])) _
        refine XS.aloadN X25.here hx rfl (hb hby d10_37) rfl rfl ?_
        show Steps p.tables e below (T25.setTop (mkF m 38 #[.val (.ref a1), .val (.ref a2)] [(.ref a1), (.int w_start_a2)])) _
        refine st26 _ ?_
        exact kt
      by_cases hc41_28 : w_start_a2 < w_start_a1
      · obtain ⟨T29, X29, e29, st29⟩ := getF X26 hx hZ hown (host := "") (Or.inl (hw _ (List.mem_of_getElem? (i := 40) rfl))) Via.refl e26 F_start_a1 (g := (mkF m 45 #[.val (.ref a1), .val (.ref a2)] [(.ref a1)])) rfl rfl (hb hby d10_45)
        obtain ⟨T30, X30, e30, st30⟩ := getF X29 hx hZ hown (host := "") (Or.inl (hw _ (List.mem_of_getElem? (i := 42) rfl))) Via.refl e29 F_end_a2 (g := (mkF m 49 #[.val (.ref a1), .val (.ref a2)] [(.ref a2), (.int w_start_a1)])) rfl rfl (hb hby d10_49)
        have pre31 : ∀ t, Steps p.tables e below (T30.setTop (mkF m 52 #[.val (.ref a1), .val (.ref a2)] [(.int w_end_a2), (.int w_start_a1)])) t → Steps p.tables e below (s₁.setTop (entryFrame m #[(.ref a1), (.ref a2)] 2)) t := by
          intro t kt
          refine pre27 _ ?_
          show Steps p.tables e below (T26.setTop (mkF m 41 #[.val (.ref a1), .val (.ref a2)] [(.int w_start_a1), (.int w_start_a2)])) _
          refine XS.icmpNo X26.here hx rfl (hb hby d10_41) rfl (tlt hc41_28).2.1 ?_
          show Steps p.tables e below (T26.setTop (mkF m 44 #[.val (.ref a1), .val (.ref a2)] [])) _
          refine XS.aloadN X26.here hx rfl (hb hby d10_44) rfl rfl ?_
          show Steps p.tables e below (T26.setTop (mkF m 45 #[.val (.ref a1), .val (.ref a2)] [(.ref a1)])) _
          refine st29 _ ?_
          show Steps p.tables e below (T29.setTop (mkF m 48 #[.val (.ref a1), .val (.ref a2)] [(.int w_start_a1)])) _
          refine XS.aloadN X29.here hx rfl (hb hby d10_48) rfl rfl ?_
          show Steps p.tables e below (T29.setTop (mkF m 49 #[.val (.ref a1), .val (.ref a2)] [(.ref a2), (.int w_start_a1)])) _
          refine st30 _ ?_
          exact kt
        by_cases hc52_32 : w_start_a1 < w_end_a2
        · obtain ⟨T33, X33, e33, st33⟩ := getF X30 hx hZ hown (host := "") (Or.inl (hw _ (List.mem_of_getElem? (i := 42) rfl))) Via.refl e30 F_end_a2 (g := (mkF m 56 #[.val (.ref a1), .val (.ref a2)] [(.ref a2)])) rfl rfl (hb hby d10_56)
          obtain ⟨T34, X34, e34, st34⟩ := getF X33 hx hZ hown (host := "") (Or.inl (hw _ (List.mem_of_getElem? (i := 42) rfl))) Via.refl e33 F_end_a1 (g := (mkF m 60 #[.val (.ref a1), .val (.ref a2)] [(.ref a1), (.int w_end_a2)])) rfl rfl (hb hby d10_60)
          have pre35 : ∀ t, Steps p.tables e below (T34.setTop (mkF m 63 #[.val (.ref a1), .val (.ref a2)] [(.int w_end_a1), (.int w_end_a2)])) t → Steps p.tables e below (s₁.setTop (entryFrame m #[(.ref a1), (.ref a2)] 2)) t := by
            intro t kt
            refine pre31 _ ?_
            show Steps p.tables e below (T30.setTop (mkF m 52 #[.val (.ref a1), .val (.ref a2)] [(.int w_end_a2), (.int w_start_a1)])) _
            refine XS.icmpNo X30.here hx rfl (hb hby d10_52) rfl (tlt hc52_32).2.1 ?_
            show Steps p.tables e below (T30.setTop (mkF m 55 #[.val (.ref a1), .val (.ref a2)] [])) _
            refine XS.aloadN X30.here hx rfl (hb hby d10_55) rfl rfl ?_
            show Steps p.tables e below (T30.setTop (mkF m 56 #[.val (.ref a1), .val (.ref a2)] [(.ref a2)])) _
            refine st33 _ ?_
            show Steps p.tables e below (T33.setTop (mkF m 59 #[.val (.ref a1), .val (.ref a2)] [(.int w_end_a2)])) _
            refine XS.aloadN X33.here hx rfl (hb hby d10_59) rfl rfl ?_
            show Steps p.tables e below (T33.setTop (mkF m 60 #[.val (.ref a1), .val (.ref a2)] [(.ref a1), (.int w_end_a2)])) _
            refine st34 _ ?_
            exact kt
          by_cases hc63_36 : w_end_a2 < w_end_a1
          · obtain ⟨fs, hr, hrun, hended, hW, hsame⟩ := X34.leave (v := some (.int (1 : Int32))) (fun h => by rw [Bd.returns] at h; cases h)
            refine ⟨_, _, pre35 _ ?_, hrun, hended, _, _, rfl, ?_, ⟨_, rfl⟩, hW, hsame.mono (by decide) (by decide)⟩
            · show Steps p.tables e below (T34.setTop (mkF m 63 #[.val (.ref a1), .val (.ref a2)] [(.int w_end_a1), (.int w_end_a2)])) _
              refine XS.icmpNo X34.here hx rfl (hb hby d10_63) rfl (tlt hc63_36).2.1 ?_
              show Steps p.tables e below (T34.setTop (mkF m 66 #[.val (.ref a1), .val (.ref a2)] [])) _
              refine XS.iconst X34.here hx rfl (hb hby d10_66) ?_
              show Steps p.tables e below (T34.setTop (mkF m 67 #[.val (.ref a1), .val (.ref a2)] [(.int (1 : Int32))])) _
              refine XS.goto X34.here hx rfl (pc0 := 67) (pc' := 71) rfl (hb hby d10_67) (by decide) (by decide) ?_
              show Steps p.tables e below (T34.setTop (mkF m 71 #[.val (.ref a1), .val (.ref a2)] [(.int (1 : Int32))])) _
              exact retN X34 hx (t := .boolean) Bd.returns (by simp) (hb hby d10_71) hr
            · show Q10 Z a1 a2 w_start_a1 w_start_a2 w_end_a1 w_end_a2 h0 n0 _ T34.heap _
              rw [e34]
              exact ⟨by rw [res10, if_pos hc8_4, if_neg hc19_8, if_pos hc41_28, if_pos hc52_32, if_pos hc63_36], rfl, rfl⟩
          · obtain ⟨fs, hr, hrun, hended, hW, hsame⟩ := X34.leave (v := some (.int (0 : Int32))) (fun h => by rw [Bd.returns] at h; cases h)
            refine ⟨_, _, pre35 _ ?_, hrun, hended, _, _, rfl, ?_, ⟨_, rfl⟩, hW, hsame.mono (by decide) (by decide)⟩
            · show Steps p.tables e below (T34.setTop (mkF m 63 #[.val (.ref a1), .val (.ref a2)] [(.int w_end_a1), (.int w_end_a2)])) _
              refine XS.icmpYes X34.here hx rfl (pc0 := 63) (pc' := 70) rfl (hb hby d10_63) rfl (flt hc63_36).2.1 (by decide) (by decide) ?_
              show Steps p.tables e below (T34.setTop (mkF m 70 #[.val (.ref a1), .val (.ref a2)] [])) _
              refine XS.iconst X34.here hx rfl (hb hby d10_70) ?_
              show Steps p.tables e below (T34.setTop (mkF m 71 #[.val (.ref a1), .val (.ref a2)] [(.int (0 : Int32))])) _
              exact retN X34 hx (t := .boolean) Bd.returns (by simp) (hb hby d10_71) hr
            · show Q10 Z a1 a2 w_start_a1 w_start_a2 w_end_a1 w_end_a2 h0 n0 _ T34.heap _
              rw [e34]
              exact ⟨by rw [res10, if_pos hc8_4, if_neg hc19_8, if_pos hc41_28, if_pos hc52_32, if_neg hc63_36], rfl, rfl⟩
        · obtain ⟨fs, hr, hrun, hended, hW, hsame⟩ := X30.leave (v := some (.int (0 : Int32))) (fun h => by rw [Bd.returns] at h; cases h)
          refine ⟨_, _, pre31 _ ?_, hrun, hended, _, _, rfl, ?_, ⟨_, rfl⟩, hW, hsame.mono (by decide) (by decide)⟩
          · show Steps p.tables e below (T30.setTop (mkF m 52 #[.val (.ref a1), .val (.ref a2)] [(.int w_end_a2), (.int w_start_a1)])) _
            refine XS.icmpYes X30.here hx rfl (pc0 := 52) (pc' := 70) rfl (hb hby d10_52) rfl (flt hc52_32).2.1 (by decide) (by decide) ?_
            show Steps p.tables e below (T30.setTop (mkF m 70 #[.val (.ref a1), .val (.ref a2)] [])) _
            refine XS.iconst X30.here hx rfl (hb hby d10_70) ?_
            show Steps p.tables e below (T30.setTop (mkF m 71 #[.val (.ref a1), .val (.ref a2)] [(.int (0 : Int32))])) _
            exact retN X30 hx (t := .boolean) Bd.returns (by simp) (hb hby d10_71) hr
          · show Q10 Z a1 a2 w_start_a1 w_start_a2 w_end_a1 w_end_a2 h0 n0 _ T30.heap _
            rw [e30]
            exact ⟨by rw [res10, if_pos hc8_4, if_neg hc19_8, if_pos hc41_28, if_neg hc52_32], rfl, rfl⟩
      · obtain ⟨fs, hr, hrun, hended, hW, hsame⟩ := X26.leave (v := some (.int (0 : Int32))) (fun h => by rw [Bd.returns] at h; cases h)
        refine ⟨_, _, pre27 _ ?_, hrun, hended, _, _, rfl, ?_, ⟨_, rfl⟩, hW, hsame.mono (by decide) (by decide)⟩
        · show Steps p.tables e below (T26.setTop (mkF m 41 #[.val (.ref a1), .val (.ref a2)] [(.int w_start_a1), (.int w_start_a2)])) _
          refine XS.icmpYes X26.here hx rfl (pc0 := 41) (pc' := 70) rfl (hb hby d10_41) rfl (flt hc41_28).2.1 (by decide) (by decide) ?_
          show Steps p.tables e below (T26.setTop (mkF m 70 #[.val (.ref a1), .val (.ref a2)] [])) _
          refine XS.iconst X26.here hx rfl (hb hby d10_70) ?_
          show Steps p.tables e below (T26.setTop (mkF m 71 #[.val (.ref a1), .val (.ref a2)] [(.int (0 : Int32))])) _
          exact retN X26 hx (t := .boolean) Bd.returns (by simp) (hb hby d10_71) hr
        · show Q10 Z a1 a2 w_start_a1 w_start_a2 w_end_a1 w_end_a2 h0 n0 _ T26.heap _
          rw [e26]
          exact ⟨by rw [res10, if_pos hc8_4, if_neg hc19_8, if_neg hc41_28], rfl, rfl⟩
  · obtain ⟨T37, X37, e37, st37⟩ := getF X2 hx hZ hown (host := "") (Or.inl (hw _ (List.mem_of_getElem? (i := 40) rfl))) Via.refl e2 F_start_a2 (g := (mkF m 34 #[.val (.ref a1), .val (.ref a2)] [(.ref a2)])) rfl rfl (hb hby d10_34)
    obtain ⟨T38, X38, e38, st38⟩ := getF X37 hx hZ hown (host := "") (Or.inl (hw _ (List.mem_of_getElem? (i := 40) rfl))) Via.refl e37 F_start_a1 (g := (mkF m 38 #[.val (.ref a1), .val (.ref a2)] [(.ref a1), (.int w_start_a2)])) rfl rfl (hb hby d10_38)
    have pre39 : ∀ t, Steps p.tables e below (T38.setTop (mkF m 41 #[.val (.ref a1), .val (.ref a2)] [(.int w_start_a1), (.int w_start_a2)])) t → Steps p.tables e below (s₁.setTop (entryFrame m #[(.ref a1), (.ref a2)] 2)) t := by
      intro t kt
      refine pre3 _ ?_
      show Steps p.tables e below (T2.setTop (mkF m 8 #[.val (.ref a1), .val (.ref a2)] [(.int w_start_a2), (.int w_start_a1)])) _
      refine XS.icmpYes X2.here hx rfl (pc0 := 8) (pc' := 33) rfl (hb hby d10_8) rfl (flt hc8_4).2.1 (by decide) (by decide) ?_
      show Steps p.tables e below (T2.setTop (mkF m 33 #[.val (.ref a1), .val (.ref a2)] [])) _
      refine XS.aloadN X2.here hx rfl (hb hby d10_33) rfl rfl ?_
      show Steps p.tables e below (T2.setTop (mkF m 34 #[.val (.ref a1), .val (.ref a2)] [(.ref a2)])) _
      refine st37 _ ?_
      show Steps p.tables e below (T37.setTop (mkF m 37 #[.val (.ref a1), .val (.ref a2)] [(.int w_start_a2)])) _
      refine XS.aloadN X37.here hx rfl (hb hby d10_37) rfl rfl ?_
      show Steps p.tables e below (T37.setTop (mkF m 38 #[.val (.ref a1), .val (.ref a2)] [(.ref a1), (.int w_start_a2)])) _
      refine st38 _ ?_
      exact kt
    by_cases hc41_40 : w_start_a2 < w_start_a1
    · obtain ⟨T41, X41, e41, st41⟩ := getF X38 hx hZ hown (host := "") (Or.inl (hw _ (List.mem_of_getElem? (i := 40) rfl))) Via.refl e38 F_start_a1 (g := (mkF m 45 #[.val (.ref a1), .val (.ref a2)] [(.ref a1)])) rfl rfl (hb hby d10_45)
      obtain ⟨T42, X42, e42, st42⟩ := getF X41 hx hZ hown (host := "") (Or.inl (hw _ (List.mem_of_getElem? (i := 42) rfl))) Via.refl e41 F_end_a2 (g := (mkF m 49 #[.val (.ref a1), .val (.ref a2)] [(.ref a2), (.int w_start_a1)])) rfl rfl (hb hby d10_49)
      have pre43 : ∀ t, Steps p.tables e below (T42.setTop (mkF m 52 #[.val (.ref a1), .val (.ref a2)] [(.int w_end_a2), (.int w_start_a1)])) t → Steps p.tables e below (s₁.setTop (entryFrame m #[(.ref a1), (.ref a2)] 2)) t := by
        intro t kt
        refine pre39 _ ?_
        show Steps p.tables e below (T38.setTop (mkF m 41 #[.val (.ref a1), .val (.ref a2)] [(.int w_start_a1), (.int w_start_a2)])) _
        refine XS.icmpNo X38.here hx rfl (hb hby d10_41) rfl (tlt hc41_40).2.1 ?_
        show Steps p.tables e below (T38.setTop (mkF m 44 #[.val (.ref a1), .val (.ref a2)] [])) _
        refine XS.aloadN X38.here hx rfl (hb hby d10_44) rfl rfl ?_
        show Steps p.tables e below (T38.setTop (mkF m 45 #[.val (.ref a1), .val (.ref a2)] [(.ref a1)])) _
        refine st41 _ ?_
        show Steps p.tables e below (T41.setTop (mkF m 48 #[.val (.ref a1), .val (.ref a2)] [(.int w_start_a1)])) _
        refine XS.aloadN X41.here hx rfl (hb hby d10_48) rfl rfl ?_
        show Steps p.tables e below (T41.setTop (mkF m 49 #[.val (.ref a1), .val (.ref a2)] [(.ref a2), (.int w_start_a1)])) _
        refine st42 _ ?_
        exact kt
      by_cases hc52_44 : w_start_a1 < w_end_a2
      · obtain ⟨T45, X45, e45, st45⟩ := getF X42 hx hZ hown (host := "") (Or.inl (hw _ (List.mem_of_getElem? (i := 42) rfl))) Via.refl e42 F_end_a2 (g := (mkF m 56 #[.val (.ref a1), .val (.ref a2)] [(.ref a2)])) rfl rfl (hb hby d10_56)
        obtain ⟨T46, X46, e46, st46⟩ := getF X45 hx hZ hown (host := "") (Or.inl (hw _ (List.mem_of_getElem? (i := 42) rfl))) Via.refl e45 F_end_a1 (g := (mkF m 60 #[.val (.ref a1), .val (.ref a2)] [(.ref a1), (.int w_end_a2)])) rfl rfl (hb hby d10_60)
        have pre47 : ∀ t, Steps p.tables e below (T46.setTop (mkF m 63 #[.val (.ref a1), .val (.ref a2)] [(.int w_end_a1), (.int w_end_a2)])) t → Steps p.tables e below (s₁.setTop (entryFrame m #[(.ref a1), (.ref a2)] 2)) t := by
          intro t kt
          refine pre43 _ ?_
          show Steps p.tables e below (T42.setTop (mkF m 52 #[.val (.ref a1), .val (.ref a2)] [(.int w_end_a2), (.int w_start_a1)])) _
          refine XS.icmpNo X42.here hx rfl (hb hby d10_52) rfl (tlt hc52_44).2.1 ?_
          show Steps p.tables e below (T42.setTop (mkF m 55 #[.val (.ref a1), .val (.ref a2)] [])) _
          refine XS.aloadN X42.here hx rfl (hb hby d10_55) rfl rfl ?_
          show Steps p.tables e below (T42.setTop (mkF m 56 #[.val (.ref a1), .val (.ref a2)] [(.ref a2)])) _
          refine st45 _ ?_
          show Steps p.tables e below (T45.setTop (mkF m 59 #[.val (.ref a1), .val (.ref a2)] [(.int w_end_a2)])) _
          refine XS.aloadN X45.here hx rfl (hb hby d10_59) rfl rfl ?_
          show Steps p.tables e below (T45.setTop (mkF m 60 #[.val (.ref a1), .val (.ref a2)] [(.ref a1), (.int w_end_a2)])) _
          refine st46 _ ?_
          exact kt
        by_cases hc63_48 : w_end_a2 < w_end_a1
        · obtain ⟨fs, hr, hrun, hended, hW, hsame⟩ := X46.leave (v := some (.int (1 : Int32))) (fun h => by rw [Bd.returns] at h; cases h)
          refine ⟨_, _, pre47 _ ?_, hrun, hended, _, _, rfl, ?_, ⟨_, rfl⟩, hW, hsame.mono (by decide) (by decide)⟩
          · show Steps p.tables e below (T46.setTop (mkF m 63 #[.val (.ref a1), .val (.ref a2)] [(.int w_end_a1), (.int w_end_a2)])) _
            refine XS.icmpNo X46.here hx rfl (hb hby d10_63) rfl (tlt hc63_48).2.1 ?_
            show Steps p.tables e below (T46.setTop (mkF m 66 #[.val (.ref a1), .val (.ref a2)] [])) _
            refine XS.iconst X46.here hx rfl (hb hby d10_66) ?_
            show Steps p.tables e below (T46.setTop (mkF m 67 #[.val (.ref a1), .val (.ref a2)] [(.int (1 : Int32))])) _
            refine XS.goto X46.here hx rfl (pc0 := 67) (pc' := 71) rfl (hb hby d10_67) (by decide) (by decide) ?_
            show Steps p.tables e below (T46.setTop (mkF m 71 #[.val (.ref a1), .val (.ref a2)] [(.int (1 : Int32))])) _
            exact retN X46 hx (t := .boolean) Bd.returns (by simp) (hb hby d10_71) hr
          · show Q10 Z a1 a2 w_start_a1 w_start_a2 w_end_a1 w_end_a2 h0 n0 _ T46.heap _
            rw [e46]
            exact ⟨by rw [res10, if_neg hc8_4, if_pos hc41_40, if_pos hc52_44, if_pos hc63_48], rfl, rfl⟩
        · obtain ⟨fs, hr, hrun, hended, hW, hsame⟩ := X46.leave (v := some (.int (0 : Int32))) (fun h => by rw [Bd.returns] at h; cases h)
          refine ⟨_, _, pre47 _ ?_, hrun, hended, _, _, rfl, ?_, ⟨_, rfl⟩, hW, hsame.mono (by decide) (by decide)⟩
          · show Steps p.tables e below (T46.setTop (mkF m 63 #[.val (.ref a1), .val (.ref a2)] [(.int w_end_a1), (.int w_end_a2)])) _
            refine XS.icmpYes X46.here hx rfl (pc0 := 63) (pc' := 70) rfl (hb hby d10_63) rfl (flt hc63_48).2.1 (by decide) (by decide) ?_
            show Steps p.tables e below (T46.setTop (mkF m 70 #[.val (.ref a1), .val (.ref a2)] [])) _
            refine XS.iconst X46.here hx rfl (hb hby d10_70) ?_
            show Steps p.tables e below (T46.setTop (mkF m 71 #[.val (.ref a1), .val (.ref a2)] [(.int (0 : Int32))])) _
            exact retN X46 hx (t := .boolean) Bd.returns (by simp) (hb hby d10_71) hr
          · show Q10 Z a1 a2 w_start_a1 w_start_a2 w_end_a1 w_end_a2 h0 n0 _ T46.heap _
            rw [e46]
            exact ⟨by rw [res10, if_neg hc8_4, if_pos hc41_40, if_pos hc52_44, if_neg hc63_48], rfl, rfl⟩
      · obtain ⟨fs, hr, hrun, hended, hW, hsame⟩ := X42.leave (v := some (.int (0 : Int32))) (fun h => by rw [Bd.returns] at h; cases h)
        refine ⟨_, _, pre43 _ ?_, hrun, hended, _, _, rfl, ?_, ⟨_, rfl⟩, hW, hsame.mono (by decide) (by decide)⟩
        · show Steps p.tables e below (T42.setTop (mkF m 52 #[.val (.ref a1), .val (.ref a2)] [(.int w_end_a2), (.int w_start_a1)])) _
          refine XS.icmpYes X42.here hx rfl (pc0 := 52) (pc' := 70) rfl (hb hby d10_52) rfl (flt hc52_44).2.1 (by decide) (by decide) ?_
          show Steps p.tables e below (T42.setTop (mkF m 70 #[.val (.ref a1), .val (.ref a2)] [])) _
          refine XS.iconst X42.here hx rfl (hb hby d10_70) ?_
          show Steps p.tables e below (T42.setTop (mkF m 71 #[.val (.ref a1), .val (.ref a2)] [(.int (0 : Int32))])) _
          exact retN X42 hx (t := .boolean) Bd.returns (by simp) (hb hby d10_71) hr
        · show Q10 Z a1 a2 w_start_a1 w_start_a2 w_end_a1 w_end_a2 h0 n0 _ T42.heap _
          rw [e42]
          exact ⟨by rw [res10, if_neg hc8_4, if_pos hc41_40, if_neg hc52_44], rfl, rfl⟩
    · obtain ⟨fs, hr, hrun, hended, hW, hsame⟩ := X38.leave (v := some (.int (0 : Int32))) (fun h => by rw [Bd.returns] at h; cases h)
      refine ⟨_, _, pre39 _ ?_, hrun, hended, _, _, rfl, ?_, ⟨_, rfl⟩, hW, hsame.mono (by decide) (by decide)⟩
      · show Steps p.tables e below (T38.setTop (mkF m 41 #[.val (.ref a1), .val (.ref a2)] [(.int w_start_a1), (.int w_start_a2)])) _
        refine XS.icmpYes X38.here hx rfl (pc0 := 41) (pc' := 70) rfl (hb hby d10_41) rfl (flt hc41_40).2.1 (by decide) (by decide) ?_
        show Steps p.tables e below (T38.setTop (mkF m 70 #[.val (.ref a1), .val (.ref a2)] [])) _
        refine XS.iconst X38.here hx rfl (hb hby d10_70) ?_
        show Steps p.tables e below (T38.setTop (mkF m 71 #[.val (.ref a1), .val (.ref a2)] [(.int (0 : Int32))])) _
        exact retN X38 hx (t := .boolean) Bd.returns (by simp) (hb hby d10_71) hr
      · show Q10 Z a1 a2 w_start_a1 w_start_a2 w_end_a1 w_end_a2 h0 n0 _ T38.heap _
        rw [e38]
        exact ⟨by rw [res10, if_neg hc8_4, if_neg hc41_40], rfl, rfl⟩
theorem own_enc (x : Int32) : ¬ (res2 ((x &&& (255 : Int32)).toUInt32.toUInt16.toUInt32.toInt32)) = (0 : Int32) := by
  have e : (x &&& (255 : Int32)).toInt = x.toInt % (2 ^ 8 : Nat) := c_mask x _ 8 (by decide) (by decide)
  have h : ¬ ((255 : Int32) < (x &&& (255 : Int32))) := by rw [Int32.lt_iff_toInt_lt, e]; have : (255 : Int32).toInt = 255 := by decide
                                                           omega
  rw [i2c_mask, res2, if_neg h]
  decide
def mg0_63_s0 (p1 : Int32) (p2 : Int32) (p3 : Int32) (p4 : Int32) : Int32 := if (res8 p1 p3) < (res9 p2 p4) then (1 : Int32) else (0 : Int32)
def mg0_75_s0 (p1 : Int32) (p2 : Int32) (p3 : Int32) (p4 : Int32) : Int32 := if p3 < p1 then (0 : Int32) else if p2 < p4 then (0 : Int32) else (1 : Int32)
def mg0_92_s0 (p1 : Int32) (p2 : Int32) (p3 : Int32) (p4 : Int32) : Int32 := if p1 < p3 then (0 : Int32) else if p4 < p2 then (0 : Int32) else (1 : Int32)
def mg0_109_s0 (p1 : Int32) (p2 : Int32) (p3 : Int32) (p4 : Int32) : Int32 := if (mg0_63_s0 p1 p2 p3 p4) = (0 : Int32) then (0 : Int32) else if (mg0_75_s0 p1 p2 p3 p4) = (0 : Int32) then (if (mg0_92_s0 p1 p2 p3 p4) = (0 : Int32) then (1 : Int32) else (0 : Int32)) else (0 : Int32)
def res0 (p1 : Int32) (p2 : Int32) (p3 : Int32) (p4 : Int32) : Int32 := if (res10 p1 p3 p2 p4) = (mg0_109_s0 p1 p2 p3 p4) then (if (res10 p3 p1 p4 p2) = (mg0_109_s0 p1 p2 p3 p4) then (1 : Int32) else (0 : Int32)) else (0 : Int32)
theorem pd4 : parseMethodDescriptor "(C)Ljava/lang/String;" = some ⟨[.char], some (.object "java/lang/String")⟩ := by decide +kernel
theorem pd5 : parseMethodDescriptor "(Ljava/lang/String;II)V" = some ⟨[(.object "java/lang/String"), .int, .int], none⟩ := by decide +kernel
theorem pd6 : parseMethodDescriptor "(II)I" = some ⟨[.int, .int], some .int⟩ := by decide +kernel
theorem pd7 : parseMethodDescriptor "(Lcom/example/chartlight/chartlight/eval/Bracketing$Bracket;)Z" = some ⟨[(.object "com/example/chartlight/chartlight/eval/Bracketing$Bracket")], some .boolean⟩ := by decide +kernel
theorem pn4 : plainName "com/example/chartlight/chartlight/eval/BracketCrossesPinLaw" = true := by first | (simp [plainName, overriddenIn]; done) | decide +kernel
theorem ef0 (m : MethodId) (p1 : Int32) (p2 : Int32) (p3 : Int32) (p4 : Int32) (p5 : Int32) : entryFrame m #[(.int p1), (.int p2), (.int p3), (.int p4), (.int p5)] maxLocals = (mkF m 0 #[.val (.int p1), .val (.int p2), .val (.int p3), .val (.int p4), .val (.int p5), .unset, .unset, .unset, .unset, .unset, .unset, .unset, .unset] []) := by first | (simp [entryFrame, mkF, argsToLocals, Value.category, maxLocals]; done) | rfl
def Q0 (Z : State) (p1 : Int32) (p2 : Int32) (p3 : Int32) (p4 : Int32) (p5 : Int32) (w_COMPACT_STRINGS : Int32) (h0 : Heap) (n0 : Nat) (v : Option Value) (h : Heap) (L : List Loc) : Prop := v = some (.int (res0 p1 p2 p3 p4)) ∧ Fr n0 L
set_option maxRecDepth 65536 in
set_option maxHeartbeats 40000000 in
theorem rm0 (l : Launch) (Z : State) (a0 : Array Value) (hw : ∀ d ∈ tables_1, d.before a0 Z = true) (ws : List Jvm.Cond) (p1 : Int32) (p2 : Int32) (p3 : Int32) (p4 : Int32) (p5 : Int32) (w_COMPACT_STRINGS : Int32) (h0 : Heap) (n0 : Nat) (Z0 : n0 ≤ h0.size) (S_COMPACT_STRINGS : Sta Z h0 "java/lang/String" "COMPACT_STRINGS" "Z" (.int w_COMPACT_STRINGS)) (hCS : ¬ (w_COMPACT_STRINGS = (0 : Int32))) :
    MetFree l x (head1 (Jvm.Cond.code x code maxLocals ret :: ws) room_1) (fun a U => a = #[(.int p1), (.int p2), (.int p3), (.int p4), (.int p5)] ∧ Z.Warmed39 U.vm ∧ U.heap = h0) (fun _ _ _ _ _ => True) (fun _ U o U' => ∃ v L, o = .returned v ∧ Q0 Z p1 p2 p3 p4 p5 w_COMPACT_STRINGS h0 n0 v U'.heap L ∧ FrameEnd U o U' L room_1.cells room_1.slots) := by
  refine MetFree.of_bodySF (plainFor_of_name pn4) hisR ?_
  intro p e s m args below meth c s₁ Bd hml0 hP hK
  obtain ⟨rfl, hZ, hh⟩ := hP
  have hx := Bd.exec
  have hby := Bd.bytes
  have hml : c.maxLocals = 13 := hml0
  have hown : s.vm.findClass "com/example/chartlight/chartlight/eval/BracketCrossesPinLaw" = some m.cls := findClass_of_methodNamed Bd.named
  have hnm := (name_of_methodNamed Bd.named Bd.method).1
  have X0 : Stand p l e room_1 s m #[(.int p1), (.int p2), (.int p3), (.int p4), (.int p5)] below meth c s₁ [] 0 0 := Stand.of_body Bd
  have e0 : s₁.heap = h0 := by rw [← hh, Bd.state]; rfl
  have N0 := Fr.nil n0
  have pre0 : ∀ t, Steps p.tables e below (s₁.setTop (mkF m 0 #[.val (.int p1), .val (.int p2), .val (.int p3), .val (.int p4), .val (.int p5), .unset, .unset, .unset, .unset, .unset, .unset, .unset, .unset] [])) t → Steps p.tables e below (s₁.setTop (entryFrame m #[(.int p1), (.int p2), (.int p3), (.int p4), (.int p5)] maxLocals)) t := fun t k => castTop (ef0 m p1 p2 p3 p4 p5) k
  obtain ⟨_, _, ⟨T1, L1, k1, n1⟩, -, X1, ⟨Lc1, hQ1, l1, y1, z1⟩, st1⟩ := Jvm.LawKit.callS X0 hx (y := (⟨"java/lang/String", "valueOf", "(C)Ljava/lang/String;"⟩ : MethodName)) hown (mvT hZ (hw _ (List.mem_of_getElem? (i := 0) rfl))) (mvT hZ (hw _ (List.mem_of_getElem? (i := 1) rfl))) (mvT hZ (hw _ (List.mem_of_getElem? (i := 2) rfl))) (mvT hZ (hw _ (List.mem_of_getElem? (i := 3) rfl))) (by decide) (backOf (W := 0) (rm1 l Z a0 hw [] ((p5 &&& (255 : Int32)).toUInt32.toUInt16.toUInt32.toInt32) w_COMPACT_STRINGS h0 n0 (Nat.le_trans Z0 (Keep.refl h0 []).1) S_COMPACT_STRINGS (hCS : ¬ (w_COMPACT_STRINGS = (0 : Int32))) (own_enc _ : ¬ ((res2 ((p5 &&& (255 : Int32)).toUInt32.toUInt16.toUInt32.toInt32)) = (0 : Int32)))) hZ (hw _ (List.mem_of_getElem? (i := 3) rfl)) (hw _ (List.mem_of_getElem? (i := 2) rfl)) (by decide) (by decide)) (g := (mkF m 7 #[.val (.int p1), .val (.int p2), .val (.int p3), .val (.int p4), .val (.int p5), .unset, .unset, .unset, .unset, .unset, .unset, .unset, .unset] [(.int ((p5 &&& (255 : Int32)).toUInt32.toUInt16.toUInt32.toInt32))])) rfl (by rw [hml]; rfl) (argsL := [(.int ((p5 &&& (255 : Int32)).toUInt32.toUInt16.toUInt32.toInt32))]) (rest := []) (lenOf pd4 rfl) rfl (by show 2 * 0 + _ ≤ _; exact Nat.le_of_eq rfl) (hb hby at_7) (fun _ _ => ⟨rfl, e0, (by decide : 0 + 2 ≤ _), (by decide : 0 + 5 ≤ _)⟩)
  dsimp only [Pt.U, Pt.locs, Pt.cells, Pt.slots] at X1 l1 y1 z1 st1 hQ1
  subst l1 y1 z1
  obtain ⟨b3_1, b1_4_1, k1_4_1, rfl, N1q, K1, s1_b3, s1_b1_4, f1_0, f1_1, f1_2, f1_3⟩ := hQ1
  have N1 := Fr.app N0 N1q
  have sz_b3_1 : h0.size ≤ b3_1 := Nat.le_trans (Keep.refl h0 []).1 s1_b3
  have g_b3_1 : n0 ≤ b3_1 := Nat.le_trans Z0 sz_b3_1
  have sz_b1_4_1 : h0.size ≤ b1_4_1 := Nat.le_trans (Keep.refl h0 []).1 s1_b1_4
  have g_b1_4_1 : n0 ≤ b1_4_1 := Nat.le_trans Z0 sz_b1_4_1
  have KK1 : Keep h0 T1.heap [] := (Keep.refl h0 []).trans K1 all0
  obtain ⟨_, _, ⟨T2, L2, k2, n2⟩, -, X2, ⟨Lc2, hQ2, l2, y2, z2⟩, st2⟩ := Jvm.LawKit.callS X1 hx (y := (⟨"java/lang/String", "valueOf", "(C)Ljava/lang/String;"⟩ : MethodName)) hown (mvT hZ (hw _ (List.mem_of_getElem? (i := 0) rfl))) (mvT hZ (hw _ (List.mem_of_getElem? (i := 1) rfl))) (mvT hZ (hw _ (List.mem_of_getElem? (i := 2) rfl))) (mvT hZ (hw _ (List.mem_of_getElem? (i := 3) rfl))) (by decide) (backOf (W := 0) (rm1 l Z a0 hw [] ((((p5.toUInt32 >>> ((8 : Int32) &&& 31).toUInt32).toInt32) &&& (255 : Int32)).toUInt32.toUInt16.toUInt32.toInt32) w_COMPACT_STRINGS T1.heap n0 (Nat.le_trans Z0 KK1.1) (own_sta_keep S_COMPACT_STRINGS K1 all0) (hCS : ¬ (w_COMPACT_STRINGS = (0 : Int32))) (own_enc _ : ¬ ((res2 ((((p5.toUInt32 >>> ((8 : Int32) &&& 31).toUInt32).toInt32) &&& (255 : Int32)).toUInt32.toUInt16.toUInt32.toInt32)) = (0 : Int32)))) hZ (hw _ (List.mem_of_getElem? (i := 3) rfl)) (hw _ (List.mem_of_getElem? (i := 2) rfl)) (by decide) (by decide)) (g := (mkF m 22 #[.val (.int p1), .val (.int p2), .val (.int p3), .val (.int p4), .val (.int p5), .val (.ref b3_1), .unset, .unset, .unset, .unset, .unset, .unset, .unset] [(.int ((((p5.toUInt32 >>> ((8 : Int32) &&& 31).toUInt32).toInt32) &&& (255 : Int32)).toUInt32.toUInt16.toUInt32.toInt32))])) rfl (by rw [hml]; rfl) (argsL := [(.int ((((p5.toUInt32 >>> ((8 : Int32) &&& 31).toUInt32).toInt32) &&& (255 : Int32)).toUInt32.toUInt16.toUInt32.toInt32))]) (rest := []) (lenOf pd4 rfl) rfl (by show 2 * 0 + _ ≤ _; exact Nat.le_of_eq rfl) (hb hby at_22) (fun _ _ => ⟨rfl, rfl, (by decide : 2 + 2 ≤ _), (by decide : 5 + 5 ≤ _)⟩)
  dsimp only [Pt.U, Pt.locs, Pt.cells, Pt.slots] at X2 l2 y2 z2 st2 hQ2
  subst l2 y2 z2
  obtain ⟨b3_2, b1_4_2, k1_4_2, rfl, N2q, K2, s2_b3, s2_b1_4, f2_0, f2_1, f2_2, f2_3⟩ := hQ2
  have N2 := Fr.app N1 N2q
  have sz_b3_2 : h0.size ≤ b3_2 := Nat.le_trans KK1.1 s2_b3
  have g_b3_2 : n0 ≤ b3_2 := Nat.le_trans Z0 sz_b3_2
  have sz_b1_4_2 : h0.size ≤ b1_4_2 := Nat.le_trans KK1.1 s2_b1_4
  have g_b1_4_2 : n0 ≤ b1_4_2 := Nat.le_trans Z0 sz_b1_4_2
  have KK2 : Keep h0 T2.heap [] := KK1.trans K2 all0
  obtain ⟨T3, h3, X3, e3, E3, A3, D3, -, st3⟩ := newO X2 hx hZ hown (hw _ (List.mem_of_getElem? (i := 26) rfl)) (hw _ (List.mem_of_getElem? (i := 27) rfl)) (hw _ (List.mem_of_getElem? (i := 28) rfl)) rfl (g := (mkF m 27 #[.val (.int p1), .val (.int p2), .val (.int p3), .val (.int p4), .val (.int p5), .val (.ref b3_1), .val (.ref b3_2), .unset, .unset, .unset, .unset, .unset, .unset] [])) rfl (hb hby at_27) (by decide) (by decide)
  obtain ⟨b3, g3⟩ : ∃ z, z = T2.heap.size := ⟨_, rfl⟩
  rw [← g3] at A3 D3 st3
  have sz_b3 : h0.size ≤ b3 := Nat.le_trans KK2.1 (Nat.le_of_eq g3.symm)
  have g_b3 : n0 ≤ b3 := Nat.le_trans Z0 sz_b3
  have K3 : Keep h0 h3 [] := KK2.ext E3
  have F_label_b3 : Fld Z h3 b3 "com/example/chartlight/chartlight/eval/Bracketing$Bracket" "label" "Ljava/lang/String;" .null := D3 (Or.inr (hw _ (List.mem_of_getElem? (i := 39) rfl))) (ty := (.object "java/lang/String")) (by decide)
  have F_start_b3 : Fld Z h3 b3 "com/example/chartlight/chartlight/eval/Bracketing$Bracket" "start" "I" (.int (0 : Int32)) := D3 (Or.inr (hw _ (List.mem_of_getElem? (i := 41) rfl))) (ty := .int) (by decide)
  have F_end_b3 : Fld Z h3 b3 "com/example/chartlight/chartlight/eval/Bracketing$Bracket" "end" "I" (.int (0 : Int32)) := D3 (Or.inr (hw _ (List.mem_of_getElem? (i := 43) rfl))) (ty := .int) (by decide)
  obtain ⟨_, _, ⟨T4, L4, k4, n4⟩, -, X4, ⟨Lc4, hQ4, l4, y4, z4⟩, st4⟩ := X3.specialBack hx (y := (⟨"com/example/chartlight/chartlight/eval/Bracketing$Bracket", "<init>", "(Ljava/lang/String;II)V"⟩ : MethodName)) rfl hown (mvT hZ (hw _ (List.mem_of_getElem? (i := 29) rfl))) (mvT hZ (hw _ (List.mem_of_getElem? (i := 30) rfl))) (mvT hZ (hw _ (List.mem_of_getElem? (i := 31) rfl))) (by decide) (backOf (W := 1) (rm6 l Z a0 hw [] b3 b3_1 p1 p2 .null (.int (0 : Int32)) (.int (0 : Int32)) h3 n0 (Nat.le_trans Z0 K3.1) A3 F_label_b3 g_b3 F_start_b3 F_end_b3 ) hZ (hw _ (List.mem_of_getElem? (i := 31) rfl)) (hw _ (List.mem_of_getElem? (i := 28) rfl)) (by decide) (by decide)) (g := (mkF m 35 #[.val (.int p1), .val (.int p2), .val (.int p3), .val (.int p4), .val (.int p5), .val (.ref b3_1), .val (.ref b3_2), .unset, .unset, .unset, .unset, .unset, .unset] [(.int p2), (.int p1), (.ref b3_1), (.ref b3), (.ref b3)])) rfl (by rw [hml]; rfl) (Steps.refl _) (a := b3) (argsL := [(.ref b3_1), (.int p1), (.int p2)]) (rest := [(.ref b3)]) (lenOf pd5 rfl) rfl (by show 2 * 0 + _ ≤ _; exact Nat.le_of_eq rfl) (hb hby at_35) (fun _ _ => ⟨rfl, e3, (by decide : 5 + 0 ≤ _), (by decide : 13 + 0 ≤ _)⟩)
  dsimp only [Pt.U, Pt.locs, Pt.cells, Pt.slots] at X4 l4 y4 z4 st4 hQ4
  subst l4 y4 z4
  obtain ⟨rfl, N4q, K4, f4_0, f4_1, f4_2, f4_3⟩ := hQ4
  have N4 := Fr.app N2 N4q
  have KK4 : Keep h0 T4.heap [] := K3.trans K4 (allS (Or.inr sz_b3) all0)
  obtain ⟨T5, h5, X5, e5, E5, A5, D5, -, st5⟩ := newO X4 hx hZ hown (hw _ (List.mem_of_getElem? (i := 26) rfl)) (hw _ (List.mem_of_getElem? (i := 27) rfl)) (hw _ (List.mem_of_getElem? (i := 28) rfl)) rfl (g := (mkF m 40 #[.val (.int p1), .val (.int p2), .val (.int p3), .val (.int p4), .val (.int p5), .val (.ref b3_1), .val (.ref b3_2), .val (.ref b3), .unset, .unset, .unset, .unset, .unset] [])) rfl (hb hby at_40) (by decide) (by decide)
  obtain ⟨b5, g5⟩ : ∃ z, z = T4.heap.size := ⟨_, rfl⟩
  rw [← g5] at A5 D5 st5
  have sz_b5 : h0.size ≤ b5 := Nat.le_trans KK4.1 (Nat.le_of_eq g5.symm)
  have g_b5 : n0 ≤ b5 := Nat.le_trans Z0 sz_b5
  have K5 : Keep h0 h5 [] := KK4.ext E5
  have F_label_b5 : Fld Z h5 b5 "com/example/chartlight/chartlight/eval/Bracketing$Bracket" "label" "Ljava/lang/String;" .null := D5 (Or.inr (hw _ (List.mem_of_getElem? (i := 39) rfl))) (ty := (.object "java/lang/String")) (by decide)
  have F_start_b5 : Fld Z h5 b5 "com/example/chartlight/chartlight/eval/Bracketing$Bracket" "start" "I" (.int (0 : Int32)) := D5 (Or.inr (hw _ (List.mem_of_getElem? (i := 41) rfl))) (ty := .int) (by decide)
  have F_end_b5 : Fld Z h5 b5 "com/example/chartlight/chartlight/eval/Bracketing$Bracket" "end" "I" (.int (0 : Int32)) := D5 (Or.inr (hw _ (List.mem_of_getElem? (i := 43) rfl))) (ty := .int) (by decide)
  obtain ⟨_, _, ⟨T6, L6, k6, n6⟩, -, X6, ⟨Lc6, hQ6, l6, y6, z6⟩, st6⟩ := X5.specialBack hx (y := (⟨"com/example/chartlight/chartlight/eval/Bracketing$Bracket", "<init>", "(Ljava/lang/String;II)V"⟩ : MethodName)) rfl hown (mvT hZ (hw _ (List.mem_of_getElem? (i := 29) rfl))) (mvT hZ (hw _ (List.mem_of_getElem? (i := 30) rfl))) (mvT hZ (hw _ (List.mem_of_getElem? (i := 31) rfl))) (by decide) (backOf (W := 1) (rm6 l Z a0 hw [] b5 b3_2 p3 p4 .null (.int (0 : Int32)) (.int (0 : Int32)) h5 n0 (Nat.le_trans Z0 K5.1) A5 F_label_b5 g_b5 F_start_b5 F_end_b5 ) hZ (hw _ (List.mem_of_getElem? (i := 31) rfl)) (hw _ (List.mem_of_getElem? (i := 28) rfl)) (by decide) (by decide)) (g := (mkF m 48 #[.val (.int p1), .val (.int p2), .val (.int p3), .val (.int p4), .val (.int p5), .val (.ref b3_1), .val (.ref b3_2), .val (.ref b3), .unset, .unset, .unset, .unset, .unset] [(.int p4), (.int p3), (.ref b3_2), (.ref b5), (.ref b5)])) rfl (by rw [hml]; rfl) (Steps.refl _) (a := b5) (argsL := [(.ref b3_2), (.int p3), (.int p4)]) (rest := [(.ref b5)]) (lenOf pd5 rfl) rfl (by show 2 * 0 + _ ≤ _; exact Nat.le_of_eq rfl) (hb hby at_48) (fun _ _ => ⟨rfl, e5, (by decide : 6 + 0 ≤ _), (by decide : 16 + 0 ≤ _)⟩)
  dsimp only [Pt.U, Pt.locs, Pt.cells, Pt.slots] at X6 l6 y6 z6 st6 hQ6
  subst l6 y6 z6
  obtain ⟨rfl, N6q, K6, f6_0, f6_1, f6_2, f6_3⟩ := hQ6
  have N6 := Fr.app N4 N6q
  have KK6 : Keep h0 T6.heap [] := K5.trans K6 (allS (Or.inr sz_b5) all0)
  obtain ⟨_, _, ⟨T7, L7, k7, n7⟩, -, X7, ⟨Lc7, hQ7, l7, y7, z7⟩, st7⟩ := Jvm.LawKit.callS X6 hx (y := (⟨"java/lang/Math", "max", "(II)I"⟩ : MethodName)) hown (mvT hZ (hw _ (List.mem_of_getElem? (i := 44) rfl))) (mvT hZ (hw _ (List.mem_of_getElem? (i := 45) rfl))) (mvT hZ (hw _ (List.mem_of_getElem? (i := 46) rfl))) (mvT hZ (hw _ (List.mem_of_getElem? (i := 47) rfl))) (by decide) (backOf (W := 0) (rm8 l Z a0 hw [] p1 p3  T6.heap n0 (Nat.le_trans Z0 KK6.1)  ) hZ (hw _ (List.mem_of_getElem? (i := 47) rfl)) (hw _ (List.mem_of_getElem? (i := 46) rfl)) (by decide) (by decide)) (g := (mkF m 55 #[.val (.int p1), .val (.int p2), .val (.int p3), .val (.int p4), .val (.int p5), .val (.ref b3_1), .val (.ref b3_2), .val (.ref b3), .val (.ref b5), .unset, .unset, .unset, .unset] [(.int p3), (.int p1)])) rfl (by rw [hml]; rfl) (argsL := [(.int p1), (.int p3)]) (rest := []) (lenOf pd6 rfl) rfl (by show 2 * 0 + _ ≤ _; exact Nat.le_of_eq rfl) (hb hby at_55) (fun _ _ => ⟨rfl, rfl, (by decide : 6 + 0 ≤ _), (by decide : 16 + 0 ≤ _)⟩)
  dsimp only [Pt.U, Pt.locs, Pt.cells, Pt.slots] at X7 l7 y7 z7 st7 hQ7
  subst l7 y7 z7
  obtain ⟨rfl, rfl, e7⟩ := hQ7
  have N7 := Fr.app N6 (Fr.nil n0)
  obtain ⟨_, _, ⟨T8, L8, k8, n8⟩, -, X8, ⟨Lc8, hQ8, l8, y8, z8⟩, st8⟩ := Jvm.LawKit.callS X7 hx (y := (⟨"java/lang/Math", "min", "(II)I"⟩ : MethodName)) hown (mvT hZ (hw _ (List.mem_of_getElem? (i := 48) rfl))) (mvT hZ (hw _ (List.mem_of_getElem? (i := 49) rfl))) (mvT hZ (hw _ (List.mem_of_getElem? (i := 46) rfl))) (mvT hZ (hw _ (List.mem_of_getElem? (i := 50) rfl))) (by decide) (backOf (W := 1) (rm9 l Z a0 hw [] p2 p4  T6.heap n0 (Nat.le_trans Z0 KK6.1)  ) hZ (hw _ (List.mem_of_getElem? (i := 50) rfl)) (hw _ (List.mem_of_getElem? (i := 46) rfl)) (by decide) (by decide)) (g := (mkF m 60 #[.val (.int p1), .val (.int p2), .val (.int p3), .val (.int p4), .val (.int p5), .val (.ref b3_1), .val (.ref b3_2), .val (.ref b3), .val (.ref b5), .unset, .unset, .unset, .unset] [(.int p4), (.int p2), (.int (res8 p1 p3))])) rfl (by rw [hml]; rfl) (argsL := [(.int p2), (.int p4)]) (rest := [(.int (res8 p1 p3))]) (lenOf pd6 rfl) rfl (by show 2 * 0 + _ ≤ _; exact Nat.le_of_eq rfl) (hb hby at_60) (fun _ _ => ⟨rfl, e7, (by decide : 6 + 0 ≤ _), (by decide : 16 + 0 ≤ _)⟩)
  dsimp only [Pt.U, Pt.locs, Pt.cells, Pt.slots] at X8 l8 y8 z8 st8 hQ8
  subst l8 y8 z8
  obtain ⟨rfl, rfl, e8⟩ := hQ8
  have N8 := Fr.app N7 (Fr.nil n0)
  have pre9 : ∀ t, Steps p.tables e below (T8.setTop (mkF m 63 #[.val (.int p1), .val (.int p2), .val (.int p3), .val (.int p4), .val (.int p5), .val (.ref b3_1), .val (.ref b3_2), .val (.ref b3), .val (.ref b5), .unset, .unset, .unset, .unset] [(.int (res9 p2 p4)), (.int (res8 p1 p3))])) t → Steps p.tables e below (s₁.setTop (entryFrame m #[(.int p1), (.int p2), (.int p3), (.int p4), (.int p5)] maxLocals)) t := by
    intro t kt
    refine pre0 _ ?_
    show Steps p.tables e below (s₁.setTop (mkF m 0 #[.val (.int p1), .val (.int p2), .val (.int p3), .val (.int p4), .val (.int p5), .unset, .unset, .unset, .unset, .unset, .unset, .unset, .unset] [])) _
    refine XS.iload X0.here hx rfl (hb hby at_0) rfl ?_
    show Steps p.tables e below (s₁.setTop (mkF m 2 #[.val (.int p1), .val (.int p2), .val (.int p3), .val (.int p4), .val (.int p5), .unset, .unset, .unset, .unset, .unset, .unset, .unset, .unset] [(.int p5)])) _
    refine XS.sipush X0.here hx rfl (hb hby at_2) ?_
    show Steps p.tables e below (s₁.setTop (mkF m 5 #[.val (.int p1), .val (.int p2), .val (.int p3), .val (.int p4), .val (.int p5), .unset, .unset, .unset, .unset, .unset, .unset, .unset, .unset] [(.int (255 : Int32)), (.int p5)])) _
    refine XS.iand X0.here hx rfl (hb hby at_5) rfl ?_
    show Steps p.tables e below (s₁.setTop (mkF m 6 #[.val (.int p1), .val (.int p2), .val (.int p3), .val (.int p4), .val (.int p5), .unset, .unset, .unset, .unset, .unset, .unset, .unset, .unset] [(.int (p5 &&& (255 : Int32)))])) _
    refine XS.i2c X0.here hx rfl (hb hby at_6) rfl ?_
    show Steps p.tables e below (s₁.setTop (mkF m 7 #[.val (.int p1), .val (.int p2), .val (.int p3), .val (.int p4), .val (.int p5), .unset, .unset, .unset, .unset, .unset, .unset, .unset, .unset] [(.int ((p5 &&& (255 : Int32)).toUInt32.toUInt16.toUInt32.toInt32))])) _
    refine st1 _ ?_
    show Steps p.tables e below (T1.setTop (mkF m 10 #[.val (.int p1), .val (.int p2), .val (.int p3), .val (.int p4), .val (.int p5), .unset, .unset, .unset, .unset, .unset, .unset, .unset, .unset] [(.ref b3_1)])) _
    refine XS.astore X1.here hx rfl (hb hby at_10) rfl rfl (l' := #[.val (.int p1), .val (.int p2), .val (.int p3), .val (.int p4), .val (.int p5), .val (.ref b3_1), .unset, .unset, .unset, .unset, .unset, .unset, .unset]) rfl ?_
    show Steps p.tables e below (T1.setTop (mkF m 12 #[.val (.int p1), .val (.int p2), .val (.int p3), .val (.int p4), .val (.int p5), .val (.ref b3_1), .unset, .unset, .unset, .unset, .unset, .unset, .unset] [])) _
    refine XS.iload X1.here hx rfl (hb hby at_12) rfl ?_
    show Steps p.tables e below (T1.setTop (mkF m 14 #[.val (.int p1), .val (.int p2), .val (.int p3), .val (.int p4), .val (.int p5), .val (.ref b3_1), .unset, .unset, .unset, .unset, .unset, .unset, .unset] [(.int p5)])) _
    refine XS.bipush X1.here hx rfl (hb hby at_14) ?_
    show Steps p.tables e below (T1.setTop (mkF m 16 #[.val (.int p1), .val (.int p2), .val (.int p3), .val (.int p4), .val (.int p5), .val (.ref b3_1), .unset, .unset, .unset, .unset, .unset, .unset, .unset] [(.int (8 : Int32)), (.int p5)])) _
    refine XS.iushr X1.here hx rfl (hb hby at_16) rfl ?_
    show Steps p.tables e below (T1.setTop (mkF m 17 #[.val (.int p1), .val (.int p2), .val (.int p3), .val (.int p4), .val (.int p5), .val (.ref b3_1), .unset, .unset, .unset, .unset, .unset, .unset, .unset] [(.int ((p5.toUInt32 >>> ((8 : Int32) &&& 31).toUInt32).toInt32))])) _
    refine XS.sipush X1.here hx rfl (hb hby at_17) ?_
    show Steps p.tables e below (T1.setTop (mkF m 20 #[.val (.int p1), .val (.int p2), .val (.int p3), .val (.int p4), .val (.int p5), .val (.ref b3_1), .unset, .unset, .unset, .unset, .unset, .unset, .unset] [(.int (255 : Int32)), (.int ((p5.toUInt32 >>> ((8 : Int32) &&& 31).toUInt32).toInt32))])) _
    refine XS.iand X1.here hx rfl (hb hby at_20) rfl ?_
    show Steps p.tables e below (T1.setTop (mkF m 21 #[.val (.int p1), .val (.int p2), .val (.int p3), .val (.int p4), .val (.int p5), .val (.ref b3_1), .unset, .unset, .unset, .unset, .unset, .unset, .unset] [(.int (((p5.toUInt32 >>> ((8 : Int32) &&& 31).toUInt32).toInt32) &&& (255 : Int32)))])) _
    refine XS.i2c X1.here hx rfl (hb hby at_21) rfl ?_
    show Steps p.tables e below (T1.setTop (mkF m 22 #[.val (.int p1), .val (.int p2), .val (.int p3), .val (.int p4), .val (.int p5), .val (.ref b3_1), .unset, .unset, .unset, .unset, .unset, .unset, .unset] [(.int ((((p5.toUInt32 >>> ((8 : Int32) &&& 31).toUInt32).toInt32) &&& (255 : Int32)).toUInt32.toUInt16.toUInt32.toInt32))])) _
    refine st2 _ ?_
    show Steps p.tables e below (T2.setTop (mkF m 25 #[.val (.int p1), .val (.int p2), .val (.int p3), .val (.int p4), .val (.int p5), .val (.ref b3_1), .unset, .unset, .unset, .unset, .unset, .unset, .unset] [(.ref b3_2)])) _
    refine XS.astore X2.here hx rfl (hb hby at_25) rfl rfl (l' := #[.val (.int p1), .val (.int p2), .val (.int p3), .val (.int p4), .val (.int p5), .val (.ref b3_1), .val (.ref b3_2), .unset, .unset, .unset, .unset, .unset, .unset]) rfl ?_
    show Steps p.tables e below (T2.setTop (mkF m 27 #[.val (.int p1), .val (.int p2), .val (.int p3), .val (.int p4), .val (.int p5), .val (.ref b3_1), .val (.ref b3_2), .unset, .unset, .unset, .unset, .unset, .unset] [])) _
    refine st3 _ ?_
    show Steps p.tables e below (T3.setTop (mkF m 30 #[.val (.int p1), .val (.int p2), .val (.int p3), .val (.int p4), .val (.int p5), .val (.ref b3_1), .val (.ref b3_2), .unset, .unset, .unset, .unset, .unset, .unset] [(.ref b3)])) _
    refine XS.dup X3.here hx rfl (hb hby at_30) rfl rfl ?_
    show Steps p.tables e below (T3.setTop (mkF m 31 #[.val (.int p1), .val (.int p2), .val (.int p3), .val (.int p4), .val (.int p5), .val (.ref b3_1), .val (.ref b3_2), .unset, .unset, .unset, .unset, .unset, .unset] [(.ref b3), (.ref b3)])) _
    refine XS.aload X3.here hx rfl (hb hby at_31) rfl rfl ?_
    show Steps p.tables e below (T3.setTop (mkF m 33 #[.val (.int p1), .val (.int p2), .val (.int p3), .val (.int p4), .val (.int p5), .val (.ref b3_1), .val (.ref b3_2), .unset, .unset, .unset, .unset, .unset, .unset] [(.ref b3_1), (.ref b3), (.ref b3)])) _
    refine XS.iloadN X3.here hx rfl (hb hby at_33) rfl ?_
    show Steps p.tables e below (T3.setTop (mkF m 34 #[.val (.int p1), .val (.int p2), .val (.int p3), .val (.int p4), .val (.int p5), .val (.ref b3_1), .val (.ref b3_2), .unset, .unset, .unset, .unset, .unset, .unset] [(.int p1), (.ref b3_1), (.ref b3), (.ref b3)])) _
    refine XS.iloadN X3.here hx rfl (hb hby at_34) rfl ?_
    show Steps p.tables e below (T3.setTop (mkF m 35 #[.val (.int p1), .val (.int p2), .val (.int p3), .val (.int p4), .val (.int p5), .val (.ref b3_1), .val (.ref b3_2), .unset, .unset, .unset, .unset, .unset, .unset] [(.int p2), (.int p1), (.ref b3_1), (.ref b3), (.ref b3)])) _
    refine st4.trans ?_
    show Steps p.tables e below (T4.setTop (mkF m 38 #[.val (.int p1), .val (.int p2), .val (.int p3), .val (.int p4), .val (.int p5), .val (.ref b3_1), .val (.ref b3_2), .unset, .unset, .unset, .unset, .unset, .unset] [(.ref b3)])) _
    refine XS.astore X4.here hx rfl (hb hby at_38) rfl rfl (l' := #[.val (.int p1), .val (.int p2), .val (.int p3), .val (.int p4), .val (.int p5), .val (.ref b3_1), .val (.ref b3_2), .val (.ref b3), .unset, .unset, .unset, .unset, .unset]) rfl ?_
    show Steps p.tables e below (T4.setTop (mkF m 40 #[.val (.int p1), .val (.int p2), .val (.int p3), .val (.int p4), .val (.int p5), .val (.ref b3_1), .val (.ref b3_2), .val (.ref b3), .unset, .unset, .unset, .unset, .unset] [])) _
    refine st5 _ ?_
    show Steps p.tables e below (T5.setTop (mkF m 43 #[.val (.int p1), .val (.int p2), .val (.int p3), .val (.int p4), .val (.int p5), .val (.ref b3_1), .val (.ref b3_2), .val (.ref b3), .unset, .unset, .unset, .unset, .unset] [(.ref b5)])) _
    refine XS.dup X5.here hx rfl (hb hby at_43) rfl rfl ?_
    show Steps p.tables e below (T5.setTop (mkF m 44 #[.val (.int p1), .val (.int p2), .val (.int p3), .val (.int p4), .val (.int p5), .val (.ref b3_1), .val (.ref b3_2), .val (.ref b3), .unset, .unset, .unset, .unset, .unset] [(.ref b5), (.ref b5)])) _
    refine XS.aload X5.here hx rfl (hb hby at_44) rfl rfl ?_
    show Steps p.tables e below (T5.setTop (mkF m 46 #[.val (.int p1), .val (.int p2), .val (.int p3), .val (.int p4), .val (.int p5), .val (.ref b3_1), .val (.ref b3_2), .val (.ref b3), .unset, .unset, .unset, .unset, .unset] [(.ref b3_2), (.ref b5), (.ref b5)])) _
    refine XS.iloadN X5.here hx rfl (hb hby at_46) rfl ?_
    show Steps p.tables e below (T5.setTop (mkF m 47 #[.val (.int p1), .val (.int p2), .val (.int p3), .val (.int p4), .val (.int p5), .val (.ref b3_1), .val (.ref b3_2), .val (.ref b3), .unset, .unset, .unset, .unset, .unset] [(.int p3), (.ref b3_2), (.ref b5), (.ref b5)])) _
    refine XS.iloadN X5.here hx rfl (hb hby at_47) rfl ?_
    show Steps p.tables e below (T5.setTop (mkF m 48 #[.val (.int p1), .val (.int p2), .val (.int p3), .val (.int p4), .val (.int p5), .val (.ref b3_1), .val (.ref b3_2), .val (.ref b3), .unset, .unset, .unset, .unset, .unset] [(.int p4), (.int p3), (.ref b3_2), (.ref b5), (.ref b5)])) _
    refine st6.trans ?_
    show Steps p.tables e below (T6.setTop (mkF m 51 #[.val (.int p1), .val (.int p2), .val (.int p3), .val (.int p4), .val (.int p5), .val (.ref b3_1), .val (.ref b3_2), .val (.ref b3), .unset, .unset, .unset, .unset, .unset] [(.ref b5)])) _
    refine XS.astore X6.here hx rfl (hb hby at_51) rfl rfl (l' := #[.val (.int p1), .val (.int p2), .val (.int p3), .val (.int p4), .val (.int p5), .val (.ref b3_1), .val (.ref b3_2), .val (.ref b3), .val (.ref b5), .unset, .unset, .unset, .unset]) rfl ?_
    show Steps p.tables e below (T6.setTop (mkF m 53 #[.val (.int p1), .val (.int p2), .val (.int p3), .val (.int p4), .val (.int p5), .val (.ref b3_1), .val (.ref b3_2), .val (.ref b3), .val (.ref b5), .unset, .unset, .unset, .unset] [])) _
    refine XS.iloadN X6.here hx rfl (hb hby at_53) rfl ?_
    show Steps p.tables e below (T6.setTop (mkF m 54 #[.val (.int p1), .val (.int p2), .val (.int p3), .val (.int p4), .val (.int p5), .val (.ref b3_1), .val (.ref b3_2), .val (.ref b3), .val (.ref b5), .unset, .unset, .unset, .unset] [(.int p1)])) _
    refine XS.iloadN X6.here hx rfl (hb hby at_54) rfl ?_
    show Steps p.tables e below (T6.setTop (mkF m 55 #[.val (.int p1), .val (.int p2), .val (.int p3), .val (.int p4), .val (.int p5), .val (.ref b3_1), .val (.ref b3_2), .val (.ref b3), .val (.ref b5), .unset, .unset, .unset, .unset] [(.int p3), (.int p1)])) _
    refine st7 _ ?_
    show Steps p.tables e below (T7.setTop (mkF m 58 #[.val (.int p1), .val (.int p2), .val (.int p3), .val (.int p4), .val (.int p5), .val (.ref b3_1), .val (.ref b3_2), .val (.ref b3), .val (.ref b5), .unset, .unset, .unset, .unset] [(.int (res8 p1 p3))])) _
    refine XS.iloadN X7.here hx rfl (hb hby at_58) rfl ?_
    show Steps p.tables e below (T7.setTop (mkF m 59 #[.val (.int p1), .val (.int p2), .val (.int p3), .val (.int p4), .val (.int p5), .val (.ref b3_1), .val (.ref b3_2), .val (.ref b3), .val (.ref b5), .unset, .unset, .unset, .unset] [(.int p2), (.int (res8 p1 p3))])) _
    refine XS.iloadN X7.here hx rfl (hb hby at_59) rfl ?_
    show Steps p.tables e below (T7.setTop (mkF m 60 #[.val (.int p1), .val (.int p2), .val (.int p3), .val (.int p4), .val (.int p5), .val (.ref b3_1), .val (.ref b3_2), .val (.ref b3), .val (.ref b5), .unset, .unset, .unset, .unset] [(.int p4), (.int p2), (.int (res8 p1 p3))])) _
    refine st8 _ ?_
    exact kt
  have pre11 : ∀ t, Steps p.tables e below (T8.setTop (mkF m 71 #[.val (.int p1), .val (.int p2), .val (.int p3), .val (.int p4), .val (.int p5), .val (.ref b3_1), .val (.ref b3_2), .val (.ref b3), .val (.ref b5), .unset, .unset, .unset, .unset] [(.int (mg0_63_s0 p1 p2 p3 p4))])) t → Steps p.tables e below (s₁.setTop (entryFrame m #[(.int p1), (.int p2), (.int p3), (.int p4), (.int p5)] maxLocals)) t := by
    intro t kt
    by_cases hc63_10 : (res8 p1 p3) < (res9 p2 p4)
    · rw [show (mg0_63_s0 p1 p2 p3 p4) = (1 : Int32) from by rw [mg0_63_s0, if_pos hc63_10]] at kt
      refine pre9 _ ?_
      show Steps p.tables e below (T8.setTop (mkF m 63 #[.val (.int p1), .val (.int p2), .val (.int p3), .val (.int p4), .val (.int p5), .val (.ref b3_1), .val (.ref b3_2), .val (.ref b3), .val (.ref b5), .unset, .unset, .unset, .unset] [(.int (res9 p2 p4)), (.int (res8 p1 p3))])) _
      refine XS.icmpNo X8.here hx rfl (hb hby at_63) rfl (tlt hc63_10).2.1 ?_
      show Steps p.tables e below (T8.setTop (mkF m 66 #[.val (.int p1), .val (.int p2), .val (.int p3), .val (.int p4), .val (.int p5), .val (.ref b3_1), .val (.ref b3_2), .val (.ref b3), .val (.ref b5), .unset, .unset, .unset, .unset] [])) _
      refine XS.iconst X8.here hx rfl (hb hby at_66) ?_
      show Steps p.tables e below (T8.setTop (mkF m 67 #[.val (.int p1), .val (.int p2), .val (.int p3), .val (.int p4), .val (.int p5), .val (.ref b3_1), .val (.ref b3_2), .val (.ref b3), .val (.ref b5), .unset, .unset, .unset, .unset] [(.int (1 : Int32))])) _
      refine XS.goto X8.here hx rfl (pc0 := 67) (pc' := 71) rfl (hb hby at_67) (by decide) (by decide) ?_
      exact kt
    · rw [show (mg0_63_s0 p1 p2 p3 p4) = (0 : Int32) from by rw [mg0_63_s0, if_neg hc63_10]] at kt
      refine pre9 _ ?_
      show Steps p.tables e below (T8.setTop (mkF m 63 #[.val (.int p1), .val (.int p2), .val (.int p3), .val (.int p4), .val (.int p5), .val (.ref b3_1), .val (.ref b3_2), .val (.ref b3), .val (.ref b5), .unset, .unset, .unset, .unset] [(.int (res9 p2 p4)), (.int (res8 p1 p3))])) _
      refine XS.icmpYes X8.here hx rfl (pc0 := 63) (pc' := 70) rfl (hb hby at_63) rfl (flt hc63_10).2.1 (by decide) (by decide) ?_
      show Steps p.tables e below (T8.setTop (mkF m 70 #[.val (.int p1), .val (.int p2), .val (.int p3), .val (.int p4), .val (.int p5), .val (.ref b3_1), .val (.ref b3_2), .val (.ref b3), .val (.ref b5), .unset, .unset, .unset, .unset] [])) _
      refine XS.iconst X8.here hx rfl (hb hby at_70) ?_
      exact kt
  have pre12 : ∀ t, Steps p.tables e below (T8.setTop (mkF m 75 #[.val (.int p1), .val (.int p2), .val (.int p3), .val (.int p4), .val (.int p5), .val (.ref b3_1), .val (.ref b3_2), .val (.ref b3), .val (.ref b5), .val (.int (mg0_63_s0 p1 p2 p3 p4)), .unset, .unset, .unset] [(.int p3), (.int p1)])) t → Steps p.tables e below (s₁.setTop (entryFrame m #[(.int p1), (.int p2), (.int p3), (.int p4), (.int p5)] maxLocals)) t := by
    intro t kt
    refine pre11 _ ?_
    show Steps p.tables e below (T8.setTop (mkF m 71 #[.val (.int p1), .val (.int p2), .val (.int p3), .val (.int p4), .val (.int p5), .val (.ref b3_1), .val (.ref b3_2), .val (.ref b3), .val (.ref b5), .unset, .unset, .unset, .unset] [(.int (mg0_63_s0 p1 p2 p3 p4))])) _
    refine XS.istore X8.here hx rfl (hb hby at_71) rfl (l' := #[.val (.int p1), .val (.int p2), .val (.int p3), .val (.int p4), .val (.int p5), .val (.ref b3_1), .val (.ref b3_2), .val (.ref b3), .val (.ref b5), .val (.int (mg0_63_s0 p1 p2 p3 p4)), .unset, .unset, .unset]) rfl ?_
    show Steps p.tables e below (T8.setTop (mkF m 73 #[.val (.int p1), .val (.int p2), .val (.int p3), .val (.int p4), .val (.int p5), .val (.ref b3_1), .val (.ref b3_2), .val (.ref b3), .val (.ref b5), .val (.int (mg0_63_s0 p1 p2 p3 p4)), .unset, .unset, .unset] [])) _
    refine XS.iloadN X8.here hx rfl (hb hby at_73) rfl ?_
    show Steps p.tables e below (T8.setTop (mkF m 74 #[.val (.int p1), .val (.int p2), .val (.int p3), .val (.int p4), .val (.int p5), .val (.ref b3_1), .val (.ref b3_2), .val (.ref b3), .val (.ref b5), .val (.int (mg0_63_s0 p1 p2 p3 p4)), .unset, .unset, .unset] [(.int p1)])) _
    refine XS.iloadN X8.here hx rfl (hb hby at_74) rfl ?_
    exact kt
  have pre16 : ∀ t, Steps p.tables e below (T8.setTop (mkF m 88 #[.val (.int p1), .val (.int p2), .val (.int p3), .val (.int p4), .val (.int p5), .val (.ref b3_1), .val (.ref b3_2), .val (.ref b3), .val (.ref b5), .val (.int (mg0_63_s0 p1 p2 p3 p4)), .unset, .unset, .unset] [(.int (mg0_75_s0 p1 p2 p3 p4))])) t → Steps p.tables e below (s₁.setTop (entryFrame m #[(.int p1), (.int p2), (.int p3), (.int p4), (.int p5)] maxLocals)) t := by
    intro t kt
    by_cases hc75_13 : p3 < p1
    · rw [show (mg0_75_s0 p1 p2 p3 p4) = (0 : Int32) from by rw [mg0_75_s0, if_pos hc75_13]] at kt
      refine pre12 _ ?_
      show Steps p.tables e below (T8.setTop (mkF m 75 #[.val (.int p1), .val (.int p2), .val (.int p3), .val (.int p4), .val (.int p5), .val (.ref b3_1), .val (.ref b3_2), .val (.ref b3), .val (.ref b5), .val (.int (mg0_63_s0 p1 p2 p3 p4)), .unset, .unset, .unset] [(.int p3), (.int p1)])) _
      refine XS.icmpYes X8.here hx rfl (pc0 := 75) (pc' := 87) rfl (hb hby at_75) rfl (tlt hc75_13).2.2.1 (by decide) (by decide) ?_
      show Steps p.tables e below (T8.setTop (mkF m 87 #[.val (.int p1), .val (.int p2), .val (.int p3), .val (.int p4), .val (.int p5), .val (.ref b3_1), .val (.ref b3_2), .val (.ref b3), .val (.ref b5), .val (.int (mg0_63_s0 p1 p2 p3 p4)), .unset, .unset, .unset] [])) _
      refine XS.iconst X8.here hx rfl (hb hby at_87) ?_
      exact kt
    · have pre14 : ∀ t, Steps p.tables e below (T8.setTop (mkF m 80 #[.val (.int p1), .val (.int p2), .val (.int p3), .val (.int p4), .val (.int p5), .val (.ref b3_1), .val (.ref b3_2), .val (.ref b3), .val (.ref b5), .val (.int (mg0_63_s0 p1 p2 p3 p4)), .unset, .unset, .unset] [(.int p2), (.int p4)])) t → Steps p.tables e below (s₁.setTop (entryFrame m #[(.int p1), (.int p2), (.int p3), (.int p4), (.int p5)] maxLocals)) t := by
        intro t kt
        refine pre12 _ ?_
        show Steps p.tables e below (T8.setTop (mkF m 75 #[.val (.int p1), .val (.int p2), .val (.int p3), .val (.int p4), .val (.int p5), .val (.ref b3_1), .val (.ref b3_2), .val (.ref b3), .val (.ref b5), .val (.int (mg0_63_s0 p1 p2 p3 p4)), .unset, .unset, .unset] [(.int p3), (.int p1)])) _
        refine XS.icmpNo X8.here hx rfl (hb hby at_75) rfl (flt hc75_13).2.2.1 ?_
        show Steps p.tables e below (T8.setTop (mkF m 78 #[.val (.int p1), .val (.int p2), .val (.int p3), .val (.int p4), .val (.int p5), .val (.ref b3_1), .val (.ref b3_2), .val (.ref b3), .val (.ref b5), .val (.int (mg0_63_s0 p1 p2 p3 p4)), .unset, .unset, .unset] [])) _
        refine XS.iloadN X8.here hx rfl (hb hby at_78) rfl ?_
        show Steps p.tables e below (T8.setTop (mkF m 79 #[.val (.int p1), .val (.int p2), .val (.int p3), .val (.int p4), .val (.int p5), .val (.ref b3_1), .val (.ref b3_2), .val (.ref b3), .val (.ref b5), .val (.int (mg0_63_s0 p1 p2 p3 p4)), .unset, .unset, .unset] [(.int p4)])) _
        refine XS.iloadN X8.here hx rfl (hb hby at_79) rfl ?_
        exact kt
      by_cases hc80_15 : p2 < p4
      · rw [show (mg0_75_s0 p1 p2 p3 p4) = (0 : Int32) from by rw [mg0_75_s0, if_neg hc75_13, if_pos hc80_15]] at kt
        refine pre14 _ ?_
        show Steps p.tables e below (T8.setTop (mkF m 80 #[.val (.int p1), .val (.int p2), .val (.int p3), .val (.int p4), .val (.int p5), .val (.ref b3_1), .val (.ref b3_2), .val (.ref b3), .val (.ref b5), .val (.int (mg0_63_s0 p1 p2 p3 p4)), .unset, .unset, .unset] [(.int p2), (.int p4)])) _
        refine XS.icmpYes X8.here hx rfl (pc0 := 80) (pc' := 87) rfl (hb hby at_80) rfl (tlt hc80_15).2.2.1 (by decide) (by decide) ?_
        show Steps p.tables e below (T8.setTop (mkF m 87 #[.val (.int p1), .val (.int p2), .val (.int p3), .val (.int p4), .val (.int p5), .val (.ref b3_1), .val (.ref b3_2), .val (.ref b3), .val (.ref b5), .val (.int (mg0_63_s0 p1 p2 p3 p4)), .unset, .unset, .unset] [])) _
        refine XS.iconst X8.here hx rfl (hb hby at_87) ?_
        exact kt
      · rw [show (mg0_75_s0 p1 p2 p3 p4) = (1 : Int32) from by rw [mg0_75_s0, if_neg hc75_13, if_neg hc80_15]] at kt
        refine pre14 _ ?_
        show Steps p.tables e below (T8.setTop (mkF m 80 #[.val (.int p1), .val (.int p2), .val (.int p3), .val (.int p4), .val (.int p5), .val (.ref b3_1), .val (.ref b3_2), .val (.ref b3), .val (.ref b5), .val (.int (mg0_63_s0 p1 p2 p3 p4)), .unset, .unset, .unset] [(.int p2), (.int p4)])) _
        refine XS.icmpNo X8.here hx rfl (hb hby at_80) rfl (flt hc80_15).2.2.1 ?_
        show Steps p.tables e below (T8.setTop (mkF m 83 #[.val (.int p1), .val (.int p2), .val (.int p3), .val (.int p4), .val (.int p5), .val (.ref b3_1), .val (.ref b3_2), .val (.ref b3), .val (.ref b5), .val (.int (mg0_63_s0 p1 p2 p3 p4)), .unset, .unset, .unset] [])) _
        refine XS.iconst X8.here hx rfl (hb hby at_83) ?_
        show Steps p.tables e below (T8.setTop (mkF m 84 #[.val (.int p1), .val (.int p2), .val (.int p3), .val (.int p4), .val (.int p5), .val (.ref b3_1), .val (.ref b3_2), .val (.ref b3), .val (.ref b5), .val (.int (mg0_63_s0 p1 p2 p3 p4)), .unset, .unset, .unset] [(.int (1 : Int32))])) _
        refine XS.goto X8.here hx rfl (pc0 := 84) (pc' := 88) rfl (hb hby at_84) (by decide) (by decide) ?_
        exact kt
  have pre17 : ∀ t, Steps p.tables e below (T8.setTop (mkF m 92 #[.val (.int p1), .val (.int p2), .val (.int p3), .val (.int p4), .val (.int p5), .val (.ref b3_1), .val (.ref b3_2), .val (.ref b3), .val (.ref b5), .val (.int (mg0_63_s0 p1 p2 p3 p4)), .val (.int (mg0_75_s0 p1 p2 p3 p4)), .unset, .unset] [(.int p1), (.int p3)])) t → Steps p.tables e below (s₁.setTop (entryFrame m #[(.int p1), (.int p2), (.int p3), (.int p4), (.int p5)] maxLocals)) t := by
    intro t kt
    refine pre16 _ ?_
    show Steps p.tables e below (T8.setTop (mkF m 88 #[.val (.int p1), .val (.int p2), .val (.int p3), .val (.int p4), .val (.int p5), .val (.ref b3_1), .val (.ref b3_2), .val (.ref b3), .val (.ref b5), .val (.int (mg0_63_s0 p1 p2 p3 p4)), .unset, .unset, .unset] [(.int (mg0_75_s0 p1 p2 p3 p4))])) _
    refine XS.istore X8.here hx rfl (hb hby at_88) rfl (l' := #[.val (.int p1), .val (.int p2), .val (.int p3), .val (.int p4), .val (.int p5), .val (.ref b3_1), .val (.ref b3_2), .val (.ref b3), .val (.ref b5), .val (.int (mg0_63_s0 p1 p2 p3 p4)), .val (.int (mg0_75_s0 p1 p2 p3 p4)), .unset, .unset]) rfl ?_
    show Steps p.tables e below (T8.setTop (mkF m 90 #[.val (.int p1), .val (.int p2), .val (.int p3), .val (.int p4), .val (.int p5), .val (.ref b3_1), .val (.ref b3_2), .val (.ref b3), .val (.ref b5), .val (.int (mg0_63_s0 p1 p2 p3 p4)), .val (.int (mg0_75_s0 p1 p2 p3 p4)), .unset, .unset] [])) _
    refine XS.iloadN X8.here hx rfl (hb hby at_90) rfl ?_
    show Steps p.tables e below (T8.setTop (mkF m 91 #[.val (.int p1), .val (.int p2), .val (.int p3), .val (.int p4), .val (.int p5), .val (.ref b3_1), .val (.ref b3_2), .val (.ref b3), .val (.ref b5), .val (.int (mg0_63_s0 p1 p2 p3 p4)), .val (.int (mg0_75_s0 p1 p2 p3 p4)), .unset, .unset] [(.int p3)])) _
    refine XS.iloadN X8.here hx rfl (hb hby at_91) rfl ?_
    exact kt
  have pre21 : ∀ t, Steps p.tables e below (T8.setTop (mkF m 105 #[.val (.int p1), .val (.int p2), .val (.int p3), .val (.int p4), .val (.int p5), .val (.ref b3_1), .val (.ref b3_2), .val (.ref b3), .val (.ref b5), .val (.int (mg0_63_s0 p1 p2 p3 p4)), .val (.int (mg0_75_s0 p1 p2 p3 p4)), .unset, .unset] [(.int (mg0_92_s0 p1 p2 p3 p4))])) t → Steps p.tables e below (s₁.setTop (entryFrame m #[(.int p1), (.int p2), (.int p3), (.int p4), (.int p5)] maxLocals)) t := by
    intro t kt
    by_cases hc92_18 : p1 < p3
    · rw [show (mg0_92_s0 p1 p2 p3 p4) = (0 : Int32) from by rw [mg0_92_s0, if_pos hc92_18]] at kt
      refine pre17 _ ?_
      show Steps p.tables e below (T8.setTop (mkF m 92 #[.val (.int p1), .val (.int p2), .val (.int p3), .val (.int p4), .val (.int p5), .val (.ref b3_1), .val (.ref b3_2), .val (.ref b3), .val (.ref b5), .val (.int (mg0_63_s0 p1 p2 p3 p4)), .val (.int (mg0_75_s0 p1 p2 p3 p4)), .unset, .unset] [(.int p1), (.int p3)])) _
      refine XS.icmpYes X8.here hx rfl (pc0 := 92) (pc' := 104) rfl (hb hby at_92) rfl (tlt hc92_18).2.2.1 (by decide) (by decide) ?_
      show Steps p.tables e below (T8.setTop (mkF m 104 #[.val (.int p1), .val (.int p2), .val (.int p3), .val (.int p4), .val (.int p5), .val (.ref b3_1), .val (.ref b3_2), .val (.ref b3), .val (.ref b5), .val (.int (mg0_63_s0 p1 p2 p3 p4)), .val (.int (mg0_75_s0 p1 p2 p3 p4)), .unset, .unset] [])) _
      refine XS.iconst X8.here hx rfl (hb hby at_104) ?_
      exact kt
    · have pre19 : ∀ t, Steps p.tables e below (T8.setTop (mkF m 97 #[.val (.int p1), .val (.int p2), .val (.int p3), .val (.int p4), .val (.int p5), .val (.ref b3_1), .val (.ref b3_2), .val (.ref b3), .val (.ref b5), .val (.int (mg0_63_s0 p1 p2 p3 p4)), .val (.int (mg0_75_s0 p1 p2 p3 p4)), .unset, .unset] [(.int p4), (.int p2)])) t → Steps p.tables e below (s₁.setTop (entryFrame m #[(.int p1), (.int p2), (.int p3), (.int p4), (.int p5)] maxLocals)) t := by
        intro t kt
        refine pre17 _ ?_
        show Steps p.tables e below (T8.setTop (mkF m 92 #[.val (.int p1), .val (.int p2), .val (.int p3), .val (.int p4), .val (.int p5), .val (.ref b3_1), .val (.ref b3_2), .val (.ref b3), .val (.ref b5), .val (.int (mg0_63_s0 p1 p2 p3 p4)), .val (.int (mg0_75_s0 p1 p2 p3 p4)), .unset, .unset] [(.int p1), (.int p3)])) _
        refine XS.icmpNo X8.here hx rfl (hb hby at_92) rfl (flt hc92_18).2.2.1 ?_
        show Steps p.tables e below (T8.setTop (mkF m 95 #[.val (.int p1), .val (.int p2), .val (.int p3), .val (.int p4), .val (.int p5), .val (.ref b3_1), .val (.ref b3_2), .val (.ref b3), .val (.ref b5), .val (.int (mg0_63_s0 p1 p2 p3 p4)), .val (.int (mg0_75_s0 p1 p2 p3 p4)), .unset, .unset] [])) _
        refine XS.iloadN X8.here hx rfl (hb hby at_95) rfl ?_
        show Steps p.tables e below (T8.setTop (mkF m 96 #[.val (.int p1), .val (.int p2), .val (.int p3), .val (.int p4), .val (.int p5), .val (.ref b3_1), .val (.ref b3_2), .val (.ref b3), .val (.ref b5), .val (.int (mg0_63_s0 p1 p2 p3 p4)), .val (.int (mg0_75_s0 p1 p2 p3 p4)), .unset, .unset] [(.int p2)])) _
        refine XS.iloadN X8.here hx rfl (hb hby at_96) rfl ?_
        exact kt
      by_cases hc97_20 : p4 < p2
      · rw [show (mg0_92_s0 p1 p2 p3 p4) = (0 : Int32) from by rw [mg0_92_s0, if_neg hc92_18, if_pos hc97_20]] at kt
        refine pre19 _ ?_
        show Steps p.tables e below (T8.setTop (mkF m 97 #[.val (.int p1), .val (.int p2), .val (.int p3), .val (.int p4), .val (.int p5), .val (.ref b3_1), .val (.ref b3_2), .val (.ref b3), .val (.ref b5), .val (.int (mg0_63_s0 p1 p2 p3 p4)), .val (.int (mg0_75_s0 p1 p2 p3 p4)), .unset, .unset] [(.int p4), (.int p2)])) _
        refine XS.icmpYes X8.here hx rfl (pc0 := 97) (pc' := 104) rfl (hb hby at_97) rfl (tlt hc97_20).2.2.1 (by decide) (by decide) ?_
        show Steps p.tables e below (T8.setTop (mkF m 104 #[.val (.int p1), .val (.int p2), .val (.int p3), .val (.int p4), .val (.int p5), .val (.ref b3_1), .val (.ref b3_2), .val (.ref b3), .val (.ref b5), .val (.int (mg0_63_s0 p1 p2 p3 p4)), .val (.int (mg0_75_s0 p1 p2 p3 p4)), .unset, .unset] [])) _
        refine XS.iconst X8.here hx rfl (hb hby at_104) ?_
        exact kt
      · rw [show (mg0_92_s0 p1 p2 p3 p4) = (1 : Int32) from by rw [mg0_92_s0, if_neg hc92_18, if_neg hc97_20]] at kt
        refine pre19 _ ?_
        show Steps p.tables e below (T8.setTop (mkF m 97 #[.val (.int p1), .val (.int p2), .val (.int p3), .val (.int p4), .val (.int p5), .val (.ref b3_1), .val (.ref b3_2), .val (.ref b3), .val (.ref b5), .val (.int (mg0_63_s0 p1 p2 p3 p4)), .val (.int (mg0_75_s0 p1 p2 p3 p4)), .unset, .unset] [(.int p4), (.int p2)])) _
        refine XS.icmpNo X8.here hx rfl (hb hby at_97) rfl (flt hc97_20).2.2.1 ?_
        show Steps p.tables e below (T8.setTop (mkF m 100 #[.val (.int p1), .val (.int p2), .val (.int p3), .val (.int p4), .val (.int p5), .val (.ref b3_1), .val (.ref b3_2), .val (.ref b3), .val (.ref b5), .val (.int (mg0_63_s0 p1 p2 p3 p4)), .val (.int (mg0_75_s0 p1 p2 p3 p4)), .unset, .unset] [])) _
        refine XS.iconst X8.here hx rfl (hb hby at_100) ?_
        show Steps p.tables e below (T8.setTop (mkF m 101 #[.val (.int p1), .val (.int p2), .val (.int p3), .val (.int p4), .val (.int p5), .val (.ref b3_1), .val (.ref b3_2), .val (.ref b3), .val (.ref b5), .val (.int (mg0_63_s0 p1 p2 p3 p4)), .val (.int (mg0_75_s0 p1 p2 p3 p4)), .unset, .unset] [(.int (1 : Int32))])) _
        refine XS.goto X8.here hx rfl (pc0 := 101) (pc' := 105) rfl (hb hby at_101) (by decide) (by decide) ?_
        exact kt
  have pre22 : ∀ t, Steps p.tables e below (T8.setTop (mkF m 109 #[.val (.int p1), .val (.int p2), .val (.int p3), .val (.int p4), .val (.int p5), .val (.ref b3_1), .val (.ref b3_2), .val (.ref b3), .val (.ref b5), .val (.int (mg0_63_s0 p1 p2 p3 p4)), .val (.int (mg0_75_s0 p1 p2 p3 p4)), .val (.int (mg0_92_s0 p1 p2 p3 p4)), .unset] [(.int (mg0_63_s0 p1 p2 p3 p4))])) t → Steps p.tables e below (s₁.setTop (entryFrame m #[(.int p1), (.int p2), (.int p3), (.int p4), (.int p5)] maxLocals)) t := by
    intro t kt
    refine pre21 _ ?_
    show Steps p.tables e below (T8.setTop (mkF m 105 #[.val (.int p1), .val (.int p2), .val (.int p3), .val (.int p4), .val (.int p5), .val (.ref b3_1), .val (.ref b3_2), .val (.ref b3), .val (.ref b5), .val (.int (mg0_63_s0 p1 p2 p3 p4)), .val (.int (mg0_75_s0 p1 p2 p3 p4)), .unset, .unset] [(.int (mg0_92_s0 p1 p2 p3 p4))])) _
    refine XS.istore X8.here hx rfl (hb hby at_105) rfl (l' := #[.val (.int p1), .val (.int p2), .val (.int p3), .val (.int p4), .val (.int p5), .val (.ref b3_1), .val (.ref b3_2), .val (.ref b3), .val (.ref b5), .val (.int (mg0_63_s0 p1 p2 p3 p4)), .val (.int (mg0_75_s0 p1 p2 p3 p4)), .val (.int (mg0_92_s0 p1 p2 p3 p4)), .unset]) rfl ?_
    show Steps p.tables e below (T8.setTop (mkF m 107 #[.val (.int p1), .val (.int p2), .val (.int p3), .val (.int p4), .val (.int p5), .val (.ref b3_1), .val (.ref b3_2), .val (.ref b3), .val (.ref b5), .val (.int (mg0_63_s0 p1 p2 p3 p4)), .val (.int (mg0_75_s0 p1 p2 p3 p4)), .val (.int (mg0_92_s0 p1 p2 p3 p4)), .unset] [])) _
    refine XS.iload X8.here hx rfl (hb hby at_107) rfl ?_
    exact kt
  have pre28 : ∀ t, Steps p.tables e below (T8.setTop (mkF m 127 #[.val (.int p1), .val (.int p2), .val (.int p3), .val (.int p4), .val (.int p5), .val (.ref b3_1), .val (.ref b3_2), .val (.ref b3), .val (.ref b5), .val (.int (mg0_63_s0 p1 p2 p3 p4)), .val (.int (mg0_75_s0 p1 p2 p3 p4)), .val (.int (mg0_92_s0 p1 p2 p3 p4)), .unset] [(.int (mg0_109_s0 p1 p2 p3 p4))])) t → Steps p.tables e below (s₁.setTop (entryFrame m #[(.int p1), (.int p2), (.int p3), (.int p4), (.int p5)] maxLocals)) t := by
    intro t kt
    by_cases hc109_23 : (mg0_63_s0 p1 p2 p3 p4) = (0 : Int32)
    · rw [show (mg0_109_s0 p1 p2 p3 p4) = (0 : Int32) from by rw [mg0_109_s0, if_pos hc109_23]] at kt
      refine pre22 _ ?_
      show Steps p.tables e below (T8.setTop (mkF m 109 #[.val (.int p1), .val (.int p2), .val (.int p3), .val (.int p4), .val (.int p5), .val (.ref b3_1), .val (.ref b3_2), .val (.ref b3), .val (.ref b5), .val (.int (mg0_63_s0 p1 p2 p3 p4)), .val (.int (mg0_75_s0 p1 p2 p3 p4)), .val (.int (mg0_92_s0 p1 p2 p3 p4)), .unset] [(.int (mg0_63_s0 p1 p2 p3 p4))])) _
      refine XS.ifYes X8.here hx rfl (pc0 := 109) (pc' := 126) rfl (hb hby at_109) rfl ((if0 _ _).trans (teq hc109_23).1) (by decide) (by decide) ?_
      show Steps p.tables e below (T8.setTop (mkF m 126 #[.val (.int p1), .val (.int p2), .val (.int p3), .val (.int p4), .val (.int p5), .val (.ref b3_1), .val (.ref b3_2), .val (.ref b3), .val (.ref b5), .val (.int (mg0_63_s0 p1 p2 p3 p4)), .val (.int (mg0_75_s0 p1 p2 p3 p4)), .val (.int (mg0_92_s0 p1 p2 p3 p4)), .unset] [])) _
      refine XS.iconst X8.here hx rfl (hb hby at_126) ?_
      exact kt
    · have pre24 : ∀ t, Steps p.tables e below (T8.setTop (mkF m 114 #[.val (.int p1), .val (.int p2), .val (.int p3), .val (.int p4), .val (.int p5), .val (.ref b3_1), .val (.ref b3_2), .val (.ref b3), .val (.ref b5), .val (.int (mg0_63_s0 p1 p2 p3 p4)), .val (.int (mg0_75_s0 p1 p2 p3 p4)), .val (.int (mg0_92_s0 p1 p2 p3 p4)), .unset] [(.int (mg0_75_s0 p1 p2 p3 p4))])) t → Steps p.tables e below (s₁.setTop (entryFrame m #[(.int p1), (.int p2), (.int p3), (.int p4), (.int p5)] maxLocals)) t := by
        intro t kt
        refine pre22 _ ?_
        show Steps p.tables e below (T8.setTop (mkF m 109 #[.val (.int p1), .val (.int p2), .val (.int p3), .val (.int p4), .val (.int p5), .val (.ref b3_1), .val (.ref b3_2), .val (.ref b3), .val (.ref b5), .val (.int (mg0_63_s0 p1 p2 p3 p4)), .val (.int (mg0_75_s0 p1 p2 p3 p4)), .val (.int (mg0_92_s0 p1 p2 p3 p4)), .unset] [(.int (mg0_63_s0 p1 p2 p3 p4))])) _
        refine XS.ifNo X8.here hx rfl (hb hby at_109) rfl ((if0 _ _).trans (feq hc109_23).1) ?_
        show Steps p.tables e below (T8.setTop (mkF m 112 #[.val (.int p1), .val (.int p2), .val (.int p3), .val (.int p4), .val (.int p5), .val (.ref b3_1), .val (.ref b3_2), .val (.ref b3), .val (.ref b5), .val (.int (mg0_63_s0 p1 p2 p3 p4)), .val (.int (mg0_75_s0 p1 p2 p3 p4)), .val (.int (mg0_92_s0 p1 p2 p3 p4)), .unset] [])) _
        refine XS.iload X8.here hx rfl (hb hby at_112) rfl ?_
        exact kt
      by_cases hc114_25 : (mg0_75_s0 p1 p2 p3 p4) = (0 : Int32)
      · have pre26 : ∀ t, Steps p.tables e below (T8.setTop (mkF m 119 #[.val (.int p1), .val (.int p2), .val (.int p3), .val (.int p4), .val (.int p5), .val (.ref b3_1), .val (.ref b3_2), .val (.ref b3), .val (.ref b5), .val (.int (mg0_63_s0 p1 p2 p3 p4)), .val (.int (mg0_75_s0 p1 p2 p3 p4)), .val (.int (mg0_92_s0 p1 p2 p3 p4)), .unset] [(.int (mg0_92_s0 p1 p2 p3 p4))])) t → Steps p.tables e below (s₁.setTop (entryFrame m #[(.int p1), (.int p2), (.int p3), (.int p4), (.int p5)] maxLocals)) t := by
          intro t kt
          refine pre24 _ ?_
          show Steps p.tables e below (T8.setTop (mkF m 114 #[.val (.int p1), .val (.int p2), .val (.int p3), .val (.int p4), .val (.int p5), .val (.ref b3_1), .val (.ref b3_2), .val (.ref b3), .val (.ref b5), .val (.int (mg0_63_s0 p1 p2 p3 p4)), .val (.int (mg0_75_s0 p1 p2 p3 p4)), .val (.int (mg0_92_s0 p1 p2 p3 p4)), .unset] [(.int (mg0_75_s0 p1 p2 p3 p4))])) _
          refine XS.ifNo X8.here hx rfl (hb hby at_114) rfl ((if0 _ _).trans (teq hc114_25).2) ?_
          show Steps p.tables e below (T8.setTop (mkF m 117 #[.val (.int p1), .val (.int p2), .val (.int p3), .val (.int p4), .val (.int p5), .val (.ref b3_1), .val (.ref b3_2), .val (.ref b3), .val (.ref b5), .val (.int (mg0_63_s0 p1 p2 p3 p4)), .val (.int (mg0_75_s0 p1 p2 p3 p4)), .val (.int (mg0_92_s0 p1 p2 p3 p4)), .unset] [])) _
          refine XS.iload X8.here hx rfl (hb hby at_117) rfl ?_
          exact kt
        by_cases hc119_27 : (mg0_92_s0 p1 p2 p3 p4) = (0 : Int32)
        · rw [show (mg0_109_s0 p1 p2 p3 p4) = (1 : Int32) from by rw [mg0_109_s0, if_neg hc109_23, if_pos hc114_25, if_pos hc119_27]] at kt
          refine pre26 _ ?_
          show Steps p.tables e below (T8.setTop (mkF m 119 #[.val (.int p1), .val (.int p2), .val (.int p3), .val (.int p4), .val (.int p5), .val (.ref b3_1), .val (.ref b3_2), .val (.ref b3), .val (.ref b5), .val (.int (mg0_63_s0 p1 p2 p3 p4)), .val (.int (mg0_75_s0 p1 p2 p3 p4)), .val (.int (mg0_92_s0 p1 p2 p3 p4)), .unset] [(.int (mg0_92_s0 p1 p2 p3 p4))])) _
          refine XS.ifNo X8.here hx rfl (hb hby at_119) rfl ((if0 _ _).trans (teq hc119_27).2) ?_
          show Steps p.tables e below (T8.setTop (mkF m 122 #[.val (.int p1), .val (.int p2), .val (.int p3), .val (.int p4), .val (.int p5), .val (.ref b3_1), .val (.ref b3_2), .val (.ref b3), .val (.ref b5), .val (.int (mg0_63_s0 p1 p2 p3 p4)), .val (.int (mg0_75_s0 p1 p2 p3 p4)), .val (.int (mg0_92_s0 p1 p2 p3 p4)), .unset] [])) _
          refine XS.iconst X8.here hx rfl (hb hby at_122) ?_
          show Steps p.tables e below (T8.setTop (mkF m 123 #[.val (.int p1), .val (.int p2), .val (.int p3), .val (.int p4), .val (.int p5), .val (.ref b3_1), .val (.ref b3_2), .val (.ref b3), .val (.ref b5), .val (.int (mg0_63_s0 p1 p2 p3 p4)), .val (.int (mg0_75_s0 p1 p2 p3 p4)), .val (.int (mg0_92_s0 p1 p2 p3 p4)), .unset] [(.int (1 : Int32))])) _
          refine XS.goto X8.here hx rfl (pc0 := 123) (pc' := 127) rfl (hb hby at_123) (by decide) (by decide) ?_
          exact kt
        · rw [show (mg0_109_s0 p1 p2 p3 p4) = (0 : Int32) from by rw [mg0_109_s0, if_neg hc109_23, if_pos hc114_25, if_neg hc119_27]] at kt
          refine pre26 _ ?_
          show Steps p.tables e below (T8.setTop (mkF m 119 #[.val (.int p1), .val (.int p2), .val (.int p3), .val (.int p4), .val (.int p5), .val (.ref b3_1), .val (.ref b3_2), .val (.ref b3), .val (.ref b5), .val (.int (mg0_63_s0 p1 p2 p3 p4)), .val (.int (mg0_75_s0 p1 p2 p3 p4)), .val (.int (mg0_92_s0 p1 p2 p3 p4)), .unset] [(.int (mg0_92_s0 p1 p2 p3 p4))])) _
          refine XS.ifYes X8.here hx rfl (pc0 := 119) (pc' := 126) rfl (hb hby at_119) rfl ((if0 _ _).trans (feq hc119_27).2) (by decide) (by decide) ?_
          show Steps p.tables e below (T8.setTop (mkF m 126 #[.val (.int p1), .val (.int p2), .val (.int p3), .val (.int p4), .val (.int p5), .val (.ref b3_1), .val (.ref b3_2), .val (.ref b3), .val (.ref b5), .val (.int (mg0_63_s0 p1 p2 p3 p4)), .val (.int (mg0_75_s0 p1 p2 p3 p4)), .val (.int (mg0_92_s0 p1 p2 p3 p4)), .unset] [])) _
          refine XS.iconst X8.here hx rfl (hb hby at_126) ?_
          exact kt
      · rw [show (mg0_109_s0 p1 p2 p3 p4) = (0 : Int32) from by rw [mg0_109_s0, if_neg hc109_23, if_neg hc114_25]] at kt
        refine pre24 _ ?_
        show Steps p.tables e below (T8.setTop (mkF m 114 #[.val (.int p1), .val (.int p2), .val (.int p3), .val (.int p4), .val (.int p5), .val (.ref b3_1), .val (.ref b3_2), .val (.ref b3), .val (.ref b5), .val (.int (mg0_63_s0 p1 p2 p3 p4)), .val (.int (mg0_75_s0 p1 p2 p3 p4)), .val (.int (mg0_92_s0 p1 p2 p3 p4)), .unset] [(.int (mg0_75_s0 p1 p2 p3 p4))])) _
        refine XS.ifYes X8.here hx rfl (pc0 := 114) (pc' := 126) rfl (hb hby at_114) rfl ((if0 _ _).trans (feq hc114_25).2) (by decide) (by decide) ?_
        show Steps p.tables e below (T8.setTop (mkF m 126 #[.val (.int p1), .val (.int p2), .val (.int p3), .val (.int p4), .val (.int p5), .val (.ref b3_1), .val (.ref b3_2), .val (.ref b3), .val (.ref b5), .val (.int (mg0_63_s0 p1 p2 p3 p4)), .val (.int (mg0_75_s0 p1 p2 p3 p4)), .val (.int (mg0_92_s0 p1 p2 p3 p4)), .unset] [])) _
        refine XS.iconst X8.here hx rfl (hb hby at_126) ?_
        exact kt
  obtain ⟨cq29, kq29, q29a, q29b, q29c⟩ := isOf hZ e8 (((A3.keep K4).ext E5).keep K6)
  obtain ⟨_, _, ⟨T29, L29, k29, n29⟩, -, X29, ⟨Lc29, hQ29, l29, y29, z29⟩, st29⟩ := X8.virtualBack hx (y := (⟨"com/example/chartlight/chartlight/eval/Bracketing$Bracket", "crosses", "(Lcom/example/chartlight/chartlight/eval/Bracketing$Bracket;)Z"⟩ : MethodName)) (z := (⟨"com/example/chartlight/chartlight/eval/Bracketing$Bracket", "crosses", "(Lcom/example/chartlight/chartlight/eval/Bracketing$Bracket;)Z"⟩ : MethodName)) hown (mvT hZ (hw _ (List.mem_of_getElem? (i := 51) rfl))) (mvT hZ (hw _ (List.mem_of_getElem? (i := 52) rfl))) (notFace_of_selects (args := #[]) (mvT hZ (hw _ (List.mem_of_getElem? (i := 54) rfl)))) (mvT hZ (hw _ (List.mem_of_getElem? (i := 54) rfl))) (mvT hZ (hw _ (List.mem_of_getElem? (i := 53) rfl))) (by decide) (backOf (W := 0) (rm10 l Z a0 hw [] b3 b5 p1 p3 p2 p4 T6.heap n0 (Nat.le_trans Z0 KK6.1) ((f4_2.ext E5).keep K6 (ninS (Nat.ne_of_lt (Nat.lt_of_lt_of_le (A3.keep K4).lt (Nat.le_of_eq g5.symm))) nin0)) f6_2 ((f4_3.ext E5).keep K6 (ninS (Nat.ne_of_lt (Nat.lt_of_lt_of_le (A3.keep K4).lt (Nat.le_of_eq g5.symm))) nin0)) f6_3 ) hZ (hw _ (List.mem_of_getElem? (i := 55) rfl)) (hw _ (List.mem_of_getElem? (i := 28) rfl)) (by decide) (by decide)) q29a q29c (g := (mkF m 133 #[.val (.int p1), .val (.int p2), .val (.int p3), .val (.int p4), .val (.int p5), .val (.ref b3_1), .val (.ref b3_2), .val (.ref b3), .val (.ref b5), .val (.int (mg0_63_s0 p1 p2 p3 p4)), .val (.int (mg0_75_s0 p1 p2 p3 p4)), .val (.int (mg0_92_s0 p1 p2 p3 p4)), .val (.int (mg0_109_s0 p1 p2 p3 p4))] [(.ref b5), (.ref b3)])) rfl (by rw [hml]; rfl) (Steps.refl _) (argsL := [(.ref b5)]) (rest := []) (lenOf pd7 rfl) rfl (by show 2 * 0 + _ ≤ _; exact Nat.le_of_eq rfl) (hb hby at_133) (fun _ _ => ⟨rfl, e8, (by decide : 6 + 0 ≤ _), (by decide : 16 + 0 ≤ _)⟩)
  dsimp only [Pt.U, Pt.locs, Pt.cells, Pt.slots] at X29 l29 y29 z29 st29 hQ29
  subst l29 y29 z29
  obtain ⟨rfl, rfl, e29⟩ := hQ29
  have N29 := Fr.app N8 (Fr.nil n0)
  have pre30 : ∀ t, Steps p.tables e below (T29.setTop (mkF m 138 #[.val (.int p1), .val (.int p2), .val (.int p3), .val (.int p4), .val (.int p5), .val (.ref b3_1), .val (.ref b3_2), .val (.ref b3), .val (.ref b5), .val (.int (mg0_63_s0 p1 p2 p3 p4)), .val (.int (mg0_75_s0 p1 p2 p3 p4)), .val (.int (mg0_92_s0 p1 p2 p3 p4)), .val (.int (mg0_109_s0 p1 p2 p3 p4))] [(.int (mg0_109_s0 p1 p2 p3 p4)), (.int (res10 p1 p3 p2 p4))])) t → Steps p.tables e below (s₁.setTop (entryFrame m #[(.int p1), (.int p2), (.int p3), (.int p4), (.int p5)] maxLocals)) t := by
    intro t kt
    refine pre28 _ ?_
    show Steps p.tables e below (T8.setTop (mkF m 127 #[.val (.int p1), .val (.int p2), .val (.int p3), .val (.int p4), .val (.int p5), .val (.ref b3_1), .val (.ref b3_2), .val (.ref b3), .val (.ref b5), .val (.int (mg0_63_s0 p1 p2 p3 p4)), .val (.int (mg0_75_s0 p1 p2 p3 p4)), .val (.int (mg0_92_s0 p1 p2 p3 p4)), .unset] [(.int (mg0_109_s0 p1 p2 p3 p4))])) _
    refine XS.istore X8.here hx rfl (hb hby at_127) rfl (l' := #[.val (.int p1), .val (.int p2), .val (.int p3), .val (.int p4), .val (.int p5), .val (.ref b3_1), .val (.ref b3_2), .val (.ref b3), .val (.ref b5), .val (.int (mg0_63_s0 p1 p2 p3 p4)), .val (.int (mg0_75_s0 p1 p2 p3 p4)), .val (.int (mg0_92_s0 p1 p2 p3 p4)), .val (.int (mg0_109_s0 p1 p2 p3 p4))]) rfl ?_
    show Steps p.tables e below (T8.setTop (mkF m 129 #[.val (.int p1), .val (.int p2), .val (.int p3), .val (.int p4), .val (.int p5), .val (.ref b3_1), .val (.ref b3_2), .val (.ref b3), .val (.ref b5), .val (.int (mg0_63_s0 p1 p2 p3 p4)), .val (.int (mg0_75_s0 p1 p2 p3 p4)), .val (.int (mg0_92_s0 p1 p2 p3 p4)), .val (.int (mg0_109_s0 p1 p2 p3 p4))] [])) _
    refine XS.aload X8.here hx rfl (hb hby at_129) rfl rfl ?_
    show Steps p.tables e below (T8.setTop (mkF m 131 #[.val (.int p1), .val (.int p2), .val (.int p3), .val (.int p4), .val (.int p5), .val (.ref b3_1), .val (.ref b3_2), .val (.ref b3), .val (.ref b5), .val (.int (mg0_63_s0 p1 p2 p3 p4)), .val (.int (mg0_75_s0 p1 p2 p3 p4)), .val (.int (mg0_92_s0 p1 p2 p3 p4)), .val (.int (mg0_109_s0 p1 p2 p3 p4))] [(.ref b3)])) _
    refine XS.aload X8.here hx rfl (hb hby at_131) rfl rfl ?_
    show Steps p.tables e below (T8.setTop (mkF m 133 #[.val (.int p1), .val (.int p2), .val (.int p3), .val (.int p4), .val (.int p5), .val (.ref b3_1), .val (.ref b3_2), .val (.ref b3), .val (.ref b5), .val (.int (mg0_63_s0 p1 p2 p3 p4)), .val (.int (mg0_75_s0 p1 p2 p3 p4)), .val (.int (mg0_92_s0 p1 p2 p3 p4)), .val (.int (mg0_109_s0 p1 p2 p3 p4))] [(.ref b5), (.ref b3)])) _
    refine st29.trans ?_
    show Steps p.tables e below (T29.setTop (mkF m 136 #[.val (.int p1), .val (.int p2), .val (.int p3), .val (.int p4), .val (.int p5), .val (.ref b3_1), .val (.ref b3_2), .val (.ref b3), .val (.ref b5), .val (.int (mg0_63_s0 p1 p2 p3 p4)), .val (.int (mg0_75_s0 p1 p2 p3 p4)), .val (.int (mg0_92_s0 p1 p2 p3 p4)), .val (.int (mg0_109_s0 p1 p2 p3 p4))] [(.int (res10 p1 p3 p2 p4))])) _
    refine XS.iload X29.here hx rfl (hb hby at_136) rfl ?_
    exact kt
  by_cases hc138_31 : (res10 p1 p3 p2 p4) = (mg0_109_s0 p1 p2 p3 p4)
  · obtain ⟨cq32, kq32, q32a, q32b, q32c⟩ := isOf hZ e29 (A5.keep K6)
    obtain ⟨_, _, ⟨T32, L32, k32, n32⟩, -, X32, ⟨Lc32, hQ32, l32, y32, z32⟩, st32⟩ := X29.virtualBack hx (y := (⟨"com/example/chartlight/chartlight/eval/Bracketing$Bracket", "crosses", "(Lcom/example/chartlight/chartlight/eval/Bracketing$Bracket;)Z"⟩ : MethodName)) (z := (⟨"com/example/chartlight/chartlight/eval/Bracketing$Bracket", "crosses", "(Lcom/example/chartlight/chartlight/eval/Bracketing$Bracket;)Z"⟩ : MethodName)) hown (mvT hZ (hw _ (List.mem_of_getElem? (i := 51) rfl))) (mvT hZ (hw _ (List.mem_of_getElem? (i := 52) rfl))) (notFace_of_selects (args := #[]) (mvT hZ (hw _ (List.mem_of_getElem? (i := 54) rfl)))) (mvT hZ (hw _ (List.mem_of_getElem? (i := 54) rfl))) (mvT hZ (hw _ (List.mem_of_getElem? (i := 53) rfl))) (by decide) (backOf (W := 0) (rm10 l Z a0 hw [] b5 b3 p3 p1 p4 p2 T6.heap n0 (Nat.le_trans Z0 KK6.1) f6_2 ((f4_2.ext E5).keep K6 (ninS (Nat.ne_of_lt (Nat.lt_of_lt_of_le (A3.keep K4).lt (Nat.le_of_eq g5.symm))) nin0)) f6_3 ((f4_3.ext E5).keep K6 (ninS (Nat.ne_of_lt (Nat.lt_of_lt_of_le (A3.keep K4).lt (Nat.le_of_eq g5.symm))) nin0)) ) hZ (hw _ (List.mem_of_getElem? (i := 55) rfl)) (hw _ (List.mem_of_getElem? (i := 28) rfl)) (by decide) (by decide)) q32a q32c (g := (mkF m 145 #[.val (.int p1), .val (.int p2), .val (.int p3), .val (.int p4), .val (.int p5), .val (.ref b3_1), .val (.ref b3_2), .val (.ref b3), .val (.ref b5), .val (.int (mg0_63_s0 p1 p2 p3 p4)), .val (.int (mg0_75_s0 p1 p2 p3 p4)), .val (.int (mg0_92_s0 p1 p2 p3 p4)), .val (.int (mg0_109_s0 p1 p2 p3 p4))] [(.ref b3), (.ref b5)])) rfl (by rw [hml]; rfl) (Steps.refl _) (argsL := [(.ref b3)]) (rest := []) (lenOf pd7 rfl) rfl (by show 2 * 0 + _ ≤ _; exact Nat.le_of_eq rfl) (hb hby at_145) (fun _ _ => ⟨rfl, e29, (by decide : 6 + 0 ≤ _), (by decide : 16 + 0 ≤ _)⟩)
    dsimp only [Pt.U, Pt.locs, Pt.cells, Pt.slots] at X32 l32 y32 z32 st32 hQ32
    subst l32 y32 z32
    obtain ⟨rfl, rfl, e32⟩ := hQ32
    have N32 := Fr.app N29 (Fr.nil n0)
    have pre33 : ∀ t, Steps p.tables e below (T32.setTop (mkF m 150 #[.val (.int p1), .val (.int p2), .val (.int p3), .val (.int p4), .val (.int p5), .val (.ref b3_1), .val (.ref b3_2), .val (.ref b3), .val (.ref b5), .val (.int (mg0_63_s0 p1 p2 p3 p4)), .val (.int (mg0_75_s0 p1 p2 p3 p4)), .val (.int (mg0_92_s0 p1 p2 p3 p4)), .val (.int (mg0_109_s0 p1 p2 p3 p4))] [(.int (mg0_109_s0 p1 p2 p3 p4)), (.int (res10 p3 p1 p4 p2))])) t → Steps p.tables e below (s₁.setTop (entryFrame m #[(.int p1), (.int p2), (.int p3), (.int p4), (.int p5)] maxLocals)) t := by
      intro t kt
      refine pre30 _ ?_
      show Steps p.tables e below (T29.setTop (mkF m 138 #[.val (.int p1), .val (.int p2), .val (.int p3), .val (.int p4), .val (.int p5), .val (.ref b3_1), .val (.ref b3_2), .val (.ref b3), .val (.ref b5), .val (.int (mg0_63_s0 p1 p2 p3 p4)), .val (.int (mg0_75_s0 p1 p2 p3 p4)), .val (.int (mg0_92_s0 p1 p2 p3 p4)), .val (.int (mg0_109_s0 p1 p2 p3 p4))] [(.int (mg0_109_s0 p1 p2 p3 p4)), (.int (res10 p1 p3 p2 p4))])) _
      refine XS.icmpNo X29.here hx rfl (hb hby at_138) rfl (teq hc138_31).2 ?_
      show Steps p.tables e below (T29.setTop (mkF m 141 #[.val (.int p1), .val (.int p2), .val (.int p3), .val (.int p4), .val (.int p5), .val (.ref b3_1), .val (.ref b3_2), .val (.ref b3), .val (.ref b5), .val (.int (mg0_63_s0 p1 p2 p3 p4)), .val (.int (mg0_75_s0 p1 p2 p3 p4)), .val (.int (mg0_92_s0 p1 p2 p3 p4)), .val (.int (mg0_109_s0 p1 p2 p3 p4))] [])) _
      refine XS.aload X29.here hx rfl (hb hby at_141) rfl rfl ?_
      show Steps p.tables e below (T29.setTop (mkF m 143 #[.val (.int p1), .val (.int p2), .val (.int p3), .val (.int p4), .val (.int p5), .val (.ref b3_1), .val (.ref b3_2), .val (.ref b3), .val (.ref b5), .val (.int (mg0_63_s0 p1 p2 p3 p4)), .val (.int (mg0_75_s0 p1 p2 p3 p4)), .val (.int (mg0_92_s0 p1 p2 p3 p4)), .val (.int (mg0_109_s0 p1 p2 p3 p4))] [(.ref b5)])) _
      refine XS.aload X29.here hx rfl (hb hby at_143) rfl rfl ?_
      show Steps p.tables e below (T29.setTop (mkF m 145 #[.val (.int p1), .val (.int p2), .val (.int p3), .val (.int p4), .val (.int p5), .val (.ref b3_1), .val (.ref b3_2), .val (.ref b3), .val (.ref b5), .val (.int (mg0_63_s0 p1 p2 p3 p4)), .val (.int (mg0_75_s0 p1 p2 p3 p4)), .val (.int (mg0_92_s0 p1 p2 p3 p4)), .val (.int (mg0_109_s0 p1 p2 p3 p4))] [(.ref b3), (.ref b5)])) _
      refine st32.trans ?_
      show Steps p.tables e below (T32.setTop (mkF m 148 #[.val (.int p1), .val (.int p2), .val (.int p3), .val (.int p4), .val (.int p5), .val (.ref b3_1), .val (.ref b3_2), .val (.ref b3), .val (.ref b5), .val (.int (mg0_63_s0 p1 p2 p3 p4)), .val (.int (mg0_75_s0 p1 p2 p3 p4)), .val (.int (mg0_92_s0 p1 p2 p3 p4)), .val (.int (mg0_109_s0 p1 p2 p3 p4))] [(.int (res10 p3 p1 p4 p2))])) _
      refine XS.iload X32.here hx rfl (hb hby at_148) rfl ?_
      exact kt
    by_cases hc150_34 : (res10 p3 p1 p4 p2) = (mg0_109_s0 p1 p2 p3 p4)
    · obtain ⟨fs, hr, hrun, hended, hW, hsame⟩ := X32.leave (v := some (.int (1 : Int32))) (fun h => by rw [Bd.returns] at h; cases h)
      refine ⟨_, _, pre33 _ ?_, hrun, hended, _, _, rfl, ?_, ⟨_, rfl⟩, hW, hsame.mono (by decide) (by decide)⟩
      · show Steps p.tables e below (T32.setTop (mkF m 150 #[.val (.int p1), .val (.int p2), .val (.int p3), .val (.int p4), .val (.int p5), .val (.ref b3_1), .val (.ref b3_2), .val (.ref b3), .val (.ref b5), .val (.int (mg0_63_s0 p1 p2 p3 p4)), .val (.int (mg0_75_s0 p1 p2 p3 p4)), .val (.int (mg0_92_s0 p1 p2 p3 p4)), .val (.int (mg0_109_s0 p1 p2 p3 p4))] [(.int (mg0_109_s0 p1 p2 p3 p4)), (.int (res10 p3 p1 p4 p2))])) _
        refine XS.icmpNo X32.here hx rfl (hb hby at_150) rfl (teq hc150_34).2 ?_
        show Steps p.tables e below (T32.setTop (mkF m 153 #[.val (.int p1), .val (.int p2), .val (.int p3), .val (.int p4), .val (.int p5), .val (.ref b3_1), .val (.ref b3_2), .val (.ref b3), .val (.ref b5), .val (.int (mg0_63_s0 p1 p2 p3 p4)), .val (.int (mg0_75_s0 p1 p2 p3 p4)), .val (.int (mg0_92_s0 p1 p2 p3 p4)), .val (.int (mg0_109_s0 p1 p2 p3 p4))] [])) _
        refine XS.iconst X32.here hx rfl (hb hby at_153) ?_
        show Steps p.tables e below (T32.setTop (mkF m 154 #[.val (.int p1), .val (.int p2), .val (.int p3), .val (.int p4), .val (.int p5), .val (.ref b3_1), .val (.ref b3_2), .val (.ref b3), .val (.ref b5), .val (.int (mg0_63_s0 p1 p2 p3 p4)), .val (.int (mg0_75_s0 p1 p2 p3 p4)), .val (.int (mg0_92_s0 p1 p2 p3 p4)), .val (.int (mg0_109_s0 p1 p2 p3 p4))] [(.int (1 : Int32))])) _
        refine XS.goto X32.here hx rfl (pc0 := 154) (pc' := 158) rfl (hb hby at_154) (by decide) (by decide) ?_
        show Steps p.tables e below (T32.setTop (mkF m 158 #[.val (.int p1), .val (.int p2), .val (.int p3), .val (.int p4), .val (.int p5), .val (.ref b3_1), .val (.ref b3_2), .val (.ref b3), .val (.ref b5), .val (.int (mg0_63_s0 p1 p2 p3 p4)), .val (.int (mg0_75_s0 p1 p2 p3 p4)), .val (.int (mg0_92_s0 p1 p2 p3 p4)), .val (.int (mg0_109_s0 p1 p2 p3 p4))] [(.int (1 : Int32))])) _
        exact retN X32 hx (t := .boolean) Bd.returns (by simp) (hb hby at_158) hr
      · show Q0 Z p1 p2 p3 p4 p5 w_COMPACT_STRINGS h0 n0 _ T32.heap _
        rw [e32]
        exact ⟨by rw [res0, if_pos hc138_31, if_pos hc150_34], N32⟩
    · obtain ⟨fs, hr, hrun, hended, hW, hsame⟩ := X32.leave (v := some (.int (0 : Int32))) (fun h => by rw [Bd.returns] at h; cases h)
      refine ⟨_, _, pre33 _ ?_, hrun, hended, _, _, rfl, ?_, ⟨_, rfl⟩, hW, hsame.mono (by decide) (by decide)⟩
      · show Steps p.tables e below (T32.setTop (mkF m 150 #[.val (.int p1), .val (.int p2), .val (.int p3), .val (.int p4), .val (.int p5), .val (.ref b3_1), .val (.ref b3_2), .val (.ref b3), .val (.ref b5), .val (.int (mg0_63_s0 p1 p2 p3 p4)), .val (.int (mg0_75_s0 p1 p2 p3 p4)), .val (.int (mg0_92_s0 p1 p2 p3 p4)), .val (.int (mg0_109_s0 p1 p2 p3 p4))] [(.int (mg0_109_s0 p1 p2 p3 p4)), (.int (res10 p3 p1 p4 p2))])) _
        refine XS.icmpYes X32.here hx rfl (pc0 := 150) (pc' := 157) rfl (hb hby at_150) rfl (feq hc150_34).2 (by decide) (by decide) ?_
        show Steps p.tables e below (T32.setTop (mkF m 157 #[.val (.int p1), .val (.int p2), .val (.int p3), .val (.int p4), .val (.int p5), .val (.ref b3_1), .val (.ref b3_2), .val (.ref b3), .val (.ref b5), .val (.int (mg0_63_s0 p1 p2 p3 p4)), .val (.int (mg0_75_s0 p1 p2 p3 p4)), .val (.int (mg0_92_s0 p1 p2 p3 p4)), .val (.int (mg0_109_s0 p1 p2 p3 p4))] [])) _
        refine XS.iconst X32.here hx rfl (hb hby at_157) ?_
        show Steps p.tables e below (T32.setTop (mkF m 158 #[.val (.int p1), .val (.int p2), .val (.int p3), .val (.int p4), .val (.int p5), .val (.ref b3_1), .val (.ref b3_2), .val (.ref b3), .val (.ref b5), .val (.int (mg0_63_s0 p1 p2 p3 p4)), .val (.int (mg0_75_s0 p1 p2 p3 p4)), .val (.int (mg0_92_s0 p1 p2 p3 p4)), .val (.int (mg0_109_s0 p1 p2 p3 p4))] [(.int (0 : Int32))])) _
        exact retN X32 hx (t := .boolean) Bd.returns (by simp) (hb hby at_158) hr
      · show Q0 Z p1 p2 p3 p4 p5 w_COMPACT_STRINGS h0 n0 _ T32.heap _
        rw [e32]
        exact ⟨by rw [res0, if_pos hc138_31, if_neg hc150_34], N32⟩
  · obtain ⟨fs, hr, hrun, hended, hW, hsame⟩ := X29.leave (v := some (.int (0 : Int32))) (fun h => by rw [Bd.returns] at h; cases h)
    refine ⟨_, _, pre30 _ ?_, hrun, hended, _, _, rfl, ?_, ⟨_, rfl⟩, hW, hsame.mono (by decide) (by decide)⟩
    · show Steps p.tables e below (T29.setTop (mkF m 138 #[.val (.int p1), .val (.int p2), .val (.int p3), .val (.int p4), .val (.int p5), .val (.ref b3_1), .val (.ref b3_2), .val (.ref b3), .val (.ref b5), .val (.int (mg0_63_s0 p1 p2 p3 p4)), .val (.int (mg0_75_s0 p1 p2 p3 p4)), .val (.int (mg0_92_s0 p1 p2 p3 p4)), .val (.int (mg0_109_s0 p1 p2 p3 p4))] [(.int (mg0_109_s0 p1 p2 p3 p4)), (.int (res10 p1 p3 p2 p4))])) _
      refine XS.icmpYes X29.here hx rfl (pc0 := 138) (pc' := 157) rfl (hb hby at_138) rfl (feq hc138_31).2 (by decide) (by decide) ?_
      show Steps p.tables e below (T29.setTop (mkF m 157 #[.val (.int p1), .val (.int p2), .val (.int p3), .val (.int p4), .val (.int p5), .val (.ref b3_1), .val (.ref b3_2), .val (.ref b3), .val (.ref b5), .val (.int (mg0_63_s0 p1 p2 p3 p4)), .val (.int (mg0_75_s0 p1 p2 p3 p4)), .val (.int (mg0_92_s0 p1 p2 p3 p4)), .val (.int (mg0_109_s0 p1 p2 p3 p4))] [])) _
      refine XS.iconst X29.here hx rfl (hb hby at_157) ?_
      show Steps p.tables e below (T29.setTop (mkF m 158 #[.val (.int p1), .val (.int p2), .val (.int p3), .val (.int p4), .val (.int p5), .val (.ref b3_1), .val (.ref b3_2), .val (.ref b3), .val (.ref b5), .val (.int (mg0_63_s0 p1 p2 p3 p4)), .val (.int (mg0_75_s0 p1 p2 p3 p4)), .val (.int (mg0_92_s0 p1 p2 p3 p4)), .val (.int (mg0_109_s0 p1 p2 p3 p4))] [(.int (0 : Int32))])) _
      exact retN X29 hx (t := .boolean) Bd.returns (by simp) (hb hby at_158) hr
    · show Q0 Z p1 p2 p3 p4 p5 w_COMPACT_STRINGS h0 n0 _ T29.heap _
      rw [e29]
      exact ⟨by rw [res0, if_neg hc138_31], N29⟩
theorem own_cross (a b c d : Int32) : res10 a c b d = mg0_109_s0 a b c d ∧ res10 c a d b = mg0_109_s0 a b c d := by
  have e0 : (0 : Int32).toInt = 0 := by decide
  have e1 : (1 : Int32).toInt = 1 := by decide
  unfold mg0_109_s0 mg0_63_s0 mg0_75_s0 mg0_92_s0 res8 res9 res10
  constructor
  · repeat' split
    all_goals first | rfl | (exfalso; first | contradiction | (simp only [Int32.lt_iff_toInt_lt, ← Int32.toInt_inj] at *; omega))
  · repeat' split
    all_goals first | rfl | (exfalso; first | contradiction | (simp only [Int32.lt_iff_toInt_lt, ← Int32.toInt_inj] at *; omega))
theorem own_fin (p1 p2 p3 p4 p5 : Int32) : (res0 p1 p2 p3 p4) = 1 := by
  unfold res0
  rw [if_pos (own_cross p1 p2 p3 p4).1, if_pos (own_cross p1 p2 p3 p4).2]
set_option maxRecDepth 65536 in
set_option maxHeartbeats 40000000 in
theorem comes_1 {Post : Tables → Env → Array Value → State → Outcome → State → Prop} (hpost : ∀ tb e args s v u, (limb_1_1.after args s (.returned v) u = true ∧ limb_1_2.after args s (.returned v) u = true ∧ True) → FrameEnd s (.returned v) u (Jvm.fieldLocs frame_1_writes args s ++ Jvm.arrayLocs frame_1_arrays args s ++ Jvm.staticLocs frame_1_statics s) 24 128 → Post tb e args s (.returned v) u) :
    ArmFor flags0 classFile x code maxLocals ret World_1 tables_1 room_1 Calls_1 rest_1 Pre_1 Post := by
  intro l hfl _ _ p e ha hc hk s m args below hf hA hF happ hP
  obtain ⟨hcalls, hrest, hpre⟩ := hP
  obtain ⟨-, -, -, hnamed, -, -, -, hat⟩ := (Spec.applies_iff hf).mp happ
  obtain ⟨hg, hn⟩ := and_e (Cond.before_iff.mp (show (Jvm.Cond.and given_1 narrow_1).before args s = true from hpre))
  obtain ⟨ga0, gb0⟩ := and_e hg
  obtain ⟨ga1, gb1⟩ := and_e gb0
  obtain ⟨ga2, gb2⟩ := and_e gb1
  obtain ⟨ga3, gb3⟩ := and_e gb2
  obtain ⟨ga4, gb4⟩ := and_e gb3
  obtain ⟨w0, w1, w2, w3, w4, rfl⟩ : ∃ w0 w1 w2 w3 w4 : Value, args = #[w0, w1, w2, w3, w4] := by
    have hs : args.size = 5 := by simpa [Cond.value, given_1] using ga0
    obtain ⟨L⟩ := args
    match L, hs with
    | [w0, w1, w2, w3, w4], _ => exact ⟨w0, w1, w2, w3, w4, rfl⟩
  have hw := fun d (hd : d ∈ tables_1) => atoms_spec (ws := Jvm.Cond.code x code maxLocals ret :: tables_1) hat d (List.mem_cons_of_mem _ hd)
  have hfit : Fit s := fun {y c} hc i hi => by
    obtain ⟨ha, rfl⟩ := Array.getElem?_eq_some_iff.mp hc
    have q := List.all_eq_true.mp ((Array.all_eq_true_iff_forall_mem.mp hF) _ (Array.getElem_mem ha)) i (List.mem_range.mpr hi)
    simpa [Array.getElem?_eq_getElem hi] using q
  obtain ⟨i0, ei0⟩ := is_v ga1
  obtain rfl : w0 = (.int i0) := Option.some.inj ei0
  obtain ⟨i1, ei1⟩ := is_v ga2
  obtain rfl : w1 = (.int i1) := Option.some.inj ei1
  obtain ⟨i2, ei2⟩ := is_v ga3
  obtain rfl : w2 = (.int i2) := Option.some.inj ei2
  obtain ⟨i3, ei3⟩ := is_v ga4
  obtain rfl : w3 = (.int i3) := Option.some.inj ei3
  obtain ⟨i4, ei4⟩ := is_v gb4
  obtain rfl : w4 = (.int i4) := Option.some.inj ei4
  obtain ⟨hsets, hown0⟩ := atoms_of _ (rest_1_c_eq ▸ (show rest_1_c.before _ s = true from hrest))
  have n5 := not_v (Cond.before_iff.mp (hsets _ (List.mem_of_getElem? (i := 2) rfl)))
  obtain ⟨w_COMPACT_STRINGS, e10⟩ := is_v (Cond.before_iff.mp (hsets _ (List.mem_of_getElem? (i := 1) rfl)))
  have S_COMPACT_STRINGS : Sta s s.heap "java/lang/String" "COMPACT_STRINGS" "Z" (.int w_COMPACT_STRINGS) := Sta.start e10 (Or.inl (hsets _ (List.mem_of_getElem? (i := 0) rfl)))
  obtain ⟨w_SIOOBE_FORMATTER, e14, hSF⟩ := isR_v (Cond.before_iff.mp (hsets _ (List.mem_of_getElem? (i := 8) rfl)))
  have S_SIOOBE_FORMATTER : Sta s s.heap "jdk/internal/util/Preconditions" "SIOOBE_FORMATTER" "Ljava/util/function/BiFunction;" w_SIOOBE_FORMATTER := Sta.start e14 (Or.inl (hsets _ (List.mem_of_getElem? (i := 7) rfl)))
  have hCS : ¬ (w_COMPACT_STRINGS = (0 : Int32)) := gotF (Cond.eq_ints e10 (Term.int_eval (0))) n5
  obtain ⟨n, o, h1, h2, h3, _, L, rfl, ⟨rfl, N⟩, hq⟩ := rm0 l s _ hw tables_1 i0 i1 i2 i3 i4 w_COMPACT_STRINGS s.heap s.heap.size (Nat.le_refl _) S_COMPACT_STRINGS hCS p e ha hc hk s m _ below hf ((Spec.applies_iff_loose hf).mp happ).1 ⟨rfl, State.Warmed39.refl s, rfl⟩ trivial
  have hfin : (res0 i0 i1 i2 i3) = (1 : Int32) := own_fin i0 i1 i2 i3 i4
  refine ⟨n, _, h1, h2, h3, hpost _ _ _ _ _ _ ⟨Cond.after_iff.mpr rfl, Cond.after_iff.mpr (eq_i res_at (Term.int_eval (1)) (by rw [hfin])), trivial⟩ ⟨hq.1, hq.2.1, (hq.2.2.sift fun y hy => Or.inr (N y hy)).mono (by decide) (by decide)⟩⟩
theorem main_1_1 : Claimed_1_1 := comes_1 fun _ _ _ _ _ _ h hF => ⟨h.1, hF⟩
theorem main_1_2 : Claimed_1_2 := comes_1 fun _ _ _ _ _ _ h hF => ⟨h.2.1, hF⟩
end Jvm.Pilot.@@N@@
namespace Jvm.Pilot.@@N@@
open Jvm Jvm.ClassFile Sem Op Lib Jvm.Free Jvm.Stand Jvm.Pilot.@@N@@.Jvm.D
/-! MADE BY PROGRAM (witnessworld.py) out of the Statement's table words and the real class files: 19 classes; the members and pool entries that the words name. The judged class is class 1, her method 1. -/
namespace start1
open Jvm.ClassFile
def u (s : String) : CpInfo := .utf8 (stringToUtf16 s)
/-- a pool by its gaps: so many unusable entries, then the entry; so many at the end -/
def gap : Nat → List CpInfo → List CpInfo
  | 0, r => r
  | n + 1, r => .unusable :: gap n r
def poolList (es : List (Nat × CpInfo)) (last : Nat) : List CpInfo := es.foldr (fun e r => gap e.1 (e.2 :: r)) (gap last [])
def pool (es : List (Nat × CpInfo)) (last : Nat) : Array CpInfo := ⟨poolList es last⟩
def fileOf (pool : Array CpInfo) (this : Nat) (attrs : Array Attribute := #[]) (ms : Array MethodInfo := #[]) (fl : Nat := 33) (sup : Nat := 0) (ifs : Array Nat := #[]) (fds : Array FieldInfo := #[]) : ClassFile where
  minorVersion := 0
  majorVersion := 65
  constantPool := pool
  accessFlags := fl
  thisClass := this
  superClass := sup
  interfaces := ifs
  fields := fds
  methods := ms
  attributes := attrs
def plain (name : String) (sup : Option ClassId) : Class where
  name := name
  kind := .ordinary
  loader := none
  accessFlags := 33
  super := sup
  interfaces := #[]
  cf := none
  fields := #[]
  methods := #[]
  instanceTypes := #[]
  staticTypes := #[]
  resolved := #[]
  callSites := []
  init := .initialized
  statics := none
  mirror := none

def pool0 : Array CpInfo := pool [(5, u "<init>"), (0, u "()V"), (1, .class_ 10), (1, u "java/lang/Object")] 113

def k0c0 : Code := { maxStack := 0, maxLocals := 1, code := object_method_1_code, exceptionTable := #[], attributes := #[] }
def k0m0 : Method := { name := "<init>", desc := "()V", sig := { parameters := [], returnType := none }, accessFlags := 1, code := some k0c0 }
/-- java/lang/Object -/
def k0 : Class := { plain "java/lang/Object" none with
  accessFlags := 33
  interfaces := #[]
  cf := some (fileOf pool0 8 #[] #[{ accessFlags := 1, nameIndex := 5, descriptorIndex := 6, attributes := #[] }] 33 0 #[] #[])
  fields := #[]
  methods := #[k0m0]
  instanceTypes := #[]
  staticTypes := #[]
  resolved := Array.replicate 124 none
  statics := none }

def pool1 : Array CpInfo := pool [(2, .class_ 4), (1, u "java/lang/Object"), (0, u "<init>"), (0, u "()V"), (0, .methodref 8 9), (0, .class_ 10), (0, .nameAndType 11 12), (0, u "java/lang/String"), (0, u "valueOf"), (0, u "(C)Ljava/lang/String;"), (0, .class_ 14), (0, u "com/example/chartlight/chartlight/eval/Bracketing$Bracket"), (0, .methodref 13 16), (0, .nameAndType 5 17), (0, u "(Ljava/lang/String;II)V"), (0, .methodref 19 20), (0, .class_ 21), (0, .nameAndType 22 23), (0, u "java/lang/Math"), (0, u "max"), (0, u "(II)I"), (0, .methodref 19 25), (0, .nameAndType 26 23), (0, u "min"), (0, .methodref 13 28), (0, .nameAndType 29 30), (0, u "crosses"), (0, u "(Lcom/example/chartlight/chartlight/eval/Bracketing$Bracket;)Z"), (0, .class_ 32), (0, u "com/example/chartlight/chartlight/eval/BracketCrossesPinLaw"), (2, u "law"), (0, u "(IIIII)Z")] 7

def k1m0 : Method := { name := "<init>", desc := "()V", sig := { parameters := [], returnType := none }, accessFlags := 1, code := none }
def k1c1 : Code := { maxStack := 5, maxLocals := 13, code := code, exceptionTable := #[], attributes := #[] }
def k1m1 : Method := { name := "law", desc := "(IIIII)Z", sig := { parameters := [.int, .int, .int, .int, .int], returnType := some .boolean }, accessFlags := 9, code := some k1c1 }
/-- com/example/chartlight/chartlight/eval/BracketCrossesPinLaw -/
def k1 : Class := { plain "com/example/chartlight/chartlight/eval/BracketCrossesPinLaw" (some 0) with
  accessFlags := 49
  interfaces := #[]
  cf := some (fileOf pool1 31 #[] #[{ accessFlags := 1, nameIndex := 5, descriptorIndex := 6, attributes := #[] }, { accessFlags := 9, nameIndex := 35, descriptorIndex := 36, attributes := #[] }] 49 2 #[] #[])
  fields := #[]
  methods := #[k1m0, k1m1]
  instanceTypes := #[]
  staticTypes := #[]
  resolved := Array.replicate 44 none
  statics := none }

def pool2 : Array CpInfo := pool [(1, .class_ 2), (0, u "java/io/Serializable"), (0, .class_ 4), (0, u "java/lang/Object")] 2

/-- java/io/Serializable -/
def k2 : Class := { plain "java/io/Serializable" (some 0) with
  accessFlags := 1537
  interfaces := #[]
  cf := some (fileOf pool2 1 #[] #[] 1537 3 #[] #[])
  fields := #[]
  methods := #[]
  instanceTypes := #[]
  staticTypes := #[]
  resolved := Array.replicate 7 none
  statics := none }

def pool3 : Array CpInfo := pool [(1, .class_ 2), (0, u "java/lang/Comparable"), (0, .class_ 4), (0, u "java/lang/Object")] 7

/-- java/lang/Comparable -/
def k3 : Class := { plain "java/lang/Comparable" (some 0) with
  accessFlags := 1537
  interfaces := #[]
  cf := some (fileOf pool3 1 #[] #[] 1537 3 #[] #[])
  fields := #[]
  methods := #[]
  instanceTypes := #[]
  staticTypes := #[]
  resolved := Array.replicate 12 none
  statics := none }

def pool4 : Array CpInfo := pool [(2, .class_ 4), (1, u "java/lang/CharSequence"), (42, .class_ 48), (0, u "java/lang/CharSequence$1CodePointIterator"), (10, .class_ 60), (0, u "java/lang/CharSequence$1CharIterator"), (5, .class_ 67), (0, u "java/lang/Object")] 63

/-- java/lang/CharSequence -/
def k4 : Class := { plain "java/lang/CharSequence" (some 0) with
  accessFlags := 1537
  interfaces := #[]
  cf := some (fileOf pool4 2 #[.nestMembers #[47, 59]] #[] 1537 66 #[] #[])
  fields := #[]
  methods := #[]
  instanceTypes := #[]
  staticTypes := #[]
  resolved := Array.replicate 131 none
  statics := none }

def pool5 : Array CpInfo := pool [(1, .class_ 2), (0, u "java/lang/constant/Constable"), (0, .class_ 4), (0, u "java/lang/Object")] 6

/-- java/lang/constant/Constable -/
def k5 : Class := { plain "java/lang/constant/Constable" (some 0) with
  accessFlags := 1537
  interfaces := #[]
  cf := some (fileOf pool5 1 #[] #[] 1537 3 #[] #[])
  fields := #[]
  methods := #[]
  instanceTypes := #[]
  staticTypes := #[]
  resolved := Array.replicate 11 none
  statics := none }

def pool6 : Array CpInfo := pool [(1, .class_ 2), (0, u "java/lang/constant/ConstantDesc"), (0, .class_ 4), (0, u "java/lang/Object")] 32

/-- java/lang/constant/ConstantDesc -/
def k6 : Class := { plain "java/lang/constant/ConstantDesc" (some 0) with
  accessFlags := 1537
  interfaces := #[]
  cf := some (fileOf pool6 1 #[] #[] 1537 3 #[] #[])
  fields := #[]
  methods := #[]
  instanceTypes := #[]
  staticTypes := #[]
  resolved := Array.replicate 37 none
  statics := none }

def pool7 : Array CpInfo := pool [(1, .methodref 2 3), (0, .class_ 4), (0, .nameAndType 5 6), (0, u "java/lang/Object"), (0, u "<init>"), (0, u "()V"), (2, .fieldref 10 11), (0, .class_ 12), (0, .nameAndType 13 14), (0, u "java/lang/String"), (0, u "value"), (0, u "[B"), (0, .fieldref 10 16), (0, .nameAndType 17 18), (0, u "coder"), (0, u "B"), (2, u "hash"), (0, u "I"), (2, u "hashIsZero"), (0, u "Z"), (11, .fieldref 10 39), (0, .nameAndType 40 26), (0, u "COMPACT_STRINGS"), (12, u "toBytes"), (53, .class_ 109), (1, u "java/lang/StringLatin1"), (99, .methodref 10 210), (0, .nameAndType 5 211), (0, u "([BB)V"), (157, u "(C)Z"), (205, .class_ 576), (0, u "java/lang/CharSequence"), (22, u "CASE_INSENSITIVE_ORDER"), (0, u "Ljava/util/Comparator;"), (181, u "valueOf"), (0, u "(C)Ljava/lang/String;"), (231, .methodref 107 1016), (0, .nameAndType 1017 369), (0, u "canEncode"), (0, .methodref 107 1019), (0, .nameAndType 53 1020), (0, u "(C)[B"), (80, u "serialPersistentFields"), (0, u "[Ljava/io/ObjectStreamField;"), (0, .class_ 1104), (0, u "java/lang/String$CaseInsensitiveComparator"), (1, .class_ 1107), (0, u "java/io/Serializable"), (0, .class_ 1109), (0, u "java/lang/Comparable"), (0, .class_ 1111), (0, u "java/lang/constant/Constable"), (0, .class_ 1113), (0, u "java/lang/constant/ConstantDesc"), (2, u "serialVersionUID"), (0, u "J"), (3, u "REPL"), (0, u "C"), (2, u "LATIN1"), (1, u "UTF16")] 323

def k7m0 : Method := { name := "<init>", desc := "()V", sig := { parameters := [], returnType := none }, accessFlags := 1, code := none }
def k7c1 : Code := { maxStack := 4, maxLocals := 1, code := jdk_42_method_139_code, exceptionTable := #[], attributes := #[] }
def k7m1 : Method := { name := "valueOf", desc := "(C)Ljava/lang/String;", sig := { parameters := [.char], returnType := some (.object "java/lang/String") }, accessFlags := 9, code := some k7c1 }
def k7c2 : Code := { maxStack := 2, maxLocals := 3, code := jdk_42_method_151_code, exceptionTable := #[], attributes := #[] }
def k7m2 : Method := { name := "<init>", desc := "([BB)V", sig := { parameters := [(.array .byte), .byte], returnType := none }, accessFlags := 0, code := some k7c2 }
/-- java/lang/String -/
def k7 : Class := { plain "java/lang/String" (some 0) with
  accessFlags := 49
  interfaces := #[2, 3, 4, 5, 6]
  cf := some (fileOf pool7 10 #[.nestMembers #[1103]] #[{ accessFlags := 1, nameIndex := 5, descriptorIndex := 6, attributes := #[] }, { accessFlags := 9, nameIndex := 782, descriptorIndex := 783, attributes := #[] }, { accessFlags := 0, nameIndex := 5, descriptorIndex := 211, attributes := #[] }] 49 2 #[1106, 1108, 575, 1110, 1112] #[{ accessFlags := 18, nameIndex := 13, descriptorIndex := 14, attributes := #[] }, { accessFlags := 18, nameIndex := 17, descriptorIndex := 18, attributes := #[] }, { accessFlags := 2, nameIndex := 21, descriptorIndex := 22, attributes := #[] }, { accessFlags := 2, nameIndex := 25, descriptorIndex := 26, attributes := #[] }, { accessFlags := 26, nameIndex := 1116, descriptorIndex := 1117, attributes := #[] }, { accessFlags := 24, nameIndex := 40, descriptorIndex := 26, attributes := #[] }, { accessFlags := 26, nameIndex := 1101, descriptorIndex := 1102, attributes := #[] }, { accessFlags := 26, nameIndex := 1121, descriptorIndex := 1122, attributes := #[] }, { accessFlags := 25, nameIndex := 599, descriptorIndex := 600, attributes := #[] }, { accessFlags := 24, nameIndex := 1125, descriptorIndex := 18, attributes := #[] }, { accessFlags := 24, nameIndex := 1127, descriptorIndex := 18, attributes := #[] }])
  fields := #[{ name := "value", type := (.array .byte), accessFlags := 18, slot := 0, constantValue := 0 }, { name := "coder", type := .byte, accessFlags := 18, slot := 1, constantValue := 0 }, { name := "hash", type := .int, accessFlags := 2, slot := 2, constantValue := 0 }, { name := "hashIsZero", type := .boolean, accessFlags := 2, slot := 3, constantValue := 0 }, { name := "serialVersionUID", type := .long, accessFlags := 26, slot := 0, constantValue := 0 }, { name := "COMPACT_STRINGS", type := .boolean, accessFlags := 24, slot := 1, constantValue := 0 }, { name := "serialPersistentFields", type := (.array (.object "java/io/ObjectStreamField")), accessFlags := 26, slot := 2, constantValue := 0 }, { name := "REPL", type := .char, accessFlags := 26, slot := 3, constantValue := 0 }, { name := "CASE_INSENSITIVE_ORDER", type := (.object "java/util/Comparator"), accessFlags := 25, slot := 4, constantValue := 0 }, { name := "LATIN1", type := .byte, accessFlags := 24, slot := 5, constantValue := 0 }, { name := "UTF16", type := .byte, accessFlags := 24, slot := 6, constantValue := 0 }]
  methods := #[k7m0, k7m1, k7m2]
  instanceTypes := #[(.array .byte), .byte, .int, .boolean]
  staticTypes := #[.long, .boolean, (.array (.object "java/io/ObjectStreamField")), .char, (.object "java/util/Comparator"), .byte, .byte]
  resolved := Array.replicate 1451 none
  statics := some 0 }

def pool8 : Array CpInfo := pool [(4, .class_ 6), (1, u "java/lang/Object"), (0, u "<init>"), (0, u "()V"), (5, .class_ 16), (1, u "java/lang/StringLatin1"), (73, u "canEncode"), (14, u "(C)Z"), (15, u "$assertionsDisabled"), (0, u "Z"), (98, .class_ 223), (1, u "java/lang/StringLatin1$LinesSpliterator"), (156, u "toBytes"), (1, u "(C)[B"), (7, .class_ 391), (0, u "java/lang/StringLatin1$CharsSpliterator")] 3

def k8m0 : Method := { name := "<init>", desc := "()V", sig := { parameters := [], returnType := none }, accessFlags := 0, code := none }
def k8c1 : Code := { maxStack := 2, maxLocals := 1, code := jdk_43_method_3_code, exceptionTable := #[], attributes := #[] }
def k8m1 : Method := { name := "canEncode", desc := "(C)Z", sig := { parameters := [.char], returnType := some .boolean }, accessFlags := 9, code := some k8c1 }
def k8c2 : Code := { maxStack := 4, maxLocals := 1, code := jdk_43_method_46_code, exceptionTable := #[], attributes := #[] }
def k8m2 : Method := { name := "toBytes", desc := "(C)[B", sig := { parameters := [.char], returnType := some (.array .byte) }, accessFlags := 9, code := some k8c2 }
/-- java/lang/StringLatin1 -/
def k8 : Class := { plain "java/lang/StringLatin1" (some 0) with
  accessFlags := 48
  interfaces := #[]
  cf := some (fileOf pool8 14 #[.nestMembers #[390, 221]] #[{ accessFlags := 0, nameIndex := 7, descriptorIndex := 8, attributes := #[] }, { accessFlags := 9, nameIndex := 90, descriptorIndex := 105, attributes := #[] }, { accessFlags := 9, nameIndex := 380, descriptorIndex := 382, attributes := #[] }] 48 4 #[] #[{ accessFlags := 4120, nameIndex := 121, descriptorIndex := 122, attributes := #[] }])
  fields := #[{ name := "$assertionsDisabled", type := .boolean, accessFlags := 4120, slot := 0, constantValue := 0 }]
  methods := #[k8m0, k8m1, k8m2]
  instanceTypes := #[]
  staticTypes := #[.boolean]
  resolved := Array.replicate 395 none
  statics := none }

def pool9 : Array CpInfo := pool [(1, .methodref 2 3), (0, .class_ 4), (0, .nameAndType 5 6), (0, u "java/lang/Object"), (0, u "<init>"), (0, u "()V"), (0, .class_ 8), (0, u "java/lang/Record")] 13

def k9c0 : Code := { maxStack := 1, maxLocals := 1, code := jdk_30_method_1_code, exceptionTable := #[], attributes := #[] }
def k9m0 : Method := { name := "<init>", desc := "()V", sig := { parameters := [], returnType := none }, accessFlags := 4, code := some k9c0 }
/-- java/lang/Record -/
def k9 : Class := { plain "java/lang/Record" (some 0) with
  accessFlags := 1057
  interfaces := #[]
  cf := some (fileOf pool9 7 #[] #[{ accessFlags := 4, nameIndex := 5, descriptorIndex := 6, attributes := #[] }] 1057 2 #[] #[])
  fields := #[]
  methods := #[k9m0]
  instanceTypes := #[]
  staticTypes := #[]
  resolved := Array.replicate 22 none
  statics := none }

def pool10 : Array CpInfo := pool [(1, .methodref 2 3), (0, .class_ 4), (0, .nameAndType 5 6), (0, u "java/lang/Record"), (0, u "<init>"), (0, u "()V"), (0, .fieldref 8 9), (0, .class_ 10), (0, .nameAndType 11 12), (0, u "com/example/chartlight/chartlight/eval/Bracketing$Bracket"), (0, u "label"), (0, u "Ljava/lang/String;"), (0, .fieldref 8 14), (0, .nameAndType 15 16), (0, u "start"), (0, u "I"), (0, .fieldref 8 18), (0, .nameAndType 19 16), (0, u "end"), (12, u "(Ljava/lang/String;II)V"), (3, u "crosses"), (0, u "(Lcom/example/chartlight/chartlight/eval/Bracketing$Bracket;)Z"), (7, .class_ 46), (0, u "com/example/chartlight/chartlight/eval/Bracketing")] 21

def k10c0 : Code := { maxStack := 2, maxLocals := 4, code := prog_30_method_1_code, exceptionTable := #[], attributes := #[] }
def k10m0 : Method := { name := "<init>", desc := "(Ljava/lang/String;II)V", sig := { parameters := [(.object "java/lang/String"), .int, .int], returnType := none }, accessFlags := 0, code := some k10c0 }
def k10c1 : Code := { maxStack := 2, maxLocals := 2, code := prog_30_method_2_code, exceptionTable := #[], attributes := #[] }
def k10m1 : Method := { name := "crosses", desc := "(Lcom/example/chartlight/chartlight/eval/Bracketing$Bracket;)Z", sig := { parameters := [(.object "com/example/chartlight/chartlight/eval/Bracketing$Bracket")], returnType := some .boolean }, accessFlags := 0, code := some k10c1 }
/-- com/example/chartlight/chartlight/eval/Bracketing$Bracket -/
def k10 : Class := { plain "com/example/chartlight/chartlight/eval/Bracketing$Bracket" (some 9) with
  accessFlags := 48
  interfaces := #[]
  cf := some (fileOf pool10 8 #[.nestHost 45] #[{ accessFlags := 0, nameIndex := 5, descriptorIndex := 32, attributes := #[] }, { accessFlags := 0, nameIndex := 36, descriptorIndex := 37, attributes := #[] }] 48 2 #[] #[{ accessFlags := 18, nameIndex := 11, descriptorIndex := 12, attributes := #[] }, { accessFlags := 18, nameIndex := 15, descriptorIndex := 16, attributes := #[] }, { accessFlags := 18, nameIndex := 19, descriptorIndex := 16, attributes := #[] }])
  fields := #[{ name := "label", type := (.object "java/lang/String"), accessFlags := 18, slot := 0, constantValue := 0 }, { name := "start", type := .int, accessFlags := 18, slot := 1, constantValue := 0 }, { name := "end", type := .int, accessFlags := 18, slot := 2, constantValue := 0 }]
  methods := #[k10m0, k10m1]
  instanceTypes := #[(.object "java/lang/String"), .int, .int]
  staticTypes := #[]
  resolved := Array.replicate 68 none
  statics := none }

def pool11 : Array CpInfo := pool [(1, .class_ 2), (0, u "java/lang/Math"), (1, .class_ 6), (1, u "java/lang/Object"), (0, u "<init>"), (0, u "()V"), (89, .class_ 100), (1, u "java/lang/Math$RandomNumberGeneratorHolder"), (71, u "negativeZeroFloatBits"), (0, u "J"), (2, u "negativeZeroDoubleBits"), (21, u "max"), (2, u "min"), (43, u "$assertionsDisabled"), (0, u "Z"), (88, u "(II)I"), (2, u "twoToTheDoubleScaleDown"), (0, u "D"), (4, u "twoToTheDoubleScaleUp"), (9, u "E"), (3, u "PI"), (2, u "TAU"), (2, u "DEGREES_TO_RADIANS"), (0, u "RADIANS_TO_DEGREES")] 94

def k11m0 : Method := { name := "<init>", desc := "()V", sig := { parameters := [], returnType := none }, accessFlags := 2, code := none }
def k11c1 : Code := { maxStack := 2, maxLocals := 2, code := jdk_29_method_65_code, exceptionTable := #[], attributes := #[] }
def k11m1 : Method := { name := "max", desc := "(II)I", sig := { parameters := [.int, .int], returnType := some .int }, accessFlags := 9, code := some k11c1 }
def k11c2 : Code := { maxStack := 2, maxLocals := 2, code := jdk_29_method_69_code, exceptionTable := #[], attributes := #[] }
def k11m2 : Method := { name := "min", desc := "(II)I", sig := { parameters := [.int, .int], returnType := some .int }, accessFlags := 9, code := some k11c2 }
/-- java/lang/Math -/
def k11 : Class := { plain "java/lang/Math" (some 0) with
  accessFlags := 49
  interfaces := #[]
  cf := some (fileOf pool11 1 #[.nestMembers #[98]] #[{ accessFlags := 2, nameIndex := 7, descriptorIndex := 8, attributes := #[] }, { accessFlags := 9, nameIndex := 198, descriptorIndex := 335, attributes := #[] }, { accessFlags := 9, nameIndex := 201, descriptorIndex := 335, attributes := #[] }] 49 4 #[] #[{ accessFlags := 25, nameIndex := 354, descriptorIndex := 339, attributes := #[] }, { accessFlags := 25, nameIndex := 358, descriptorIndex := 339, attributes := #[] }, { accessFlags := 25, nameIndex := 361, descriptorIndex := 339, attributes := #[] }, { accessFlags := 26, nameIndex := 364, descriptorIndex := 339, attributes := #[] }, { accessFlags := 26, nameIndex := 365, descriptorIndex := 339, attributes := #[] }, { accessFlags := 26, nameIndex := 172, descriptorIndex := 173, attributes := #[] }, { accessFlags := 26, nameIndex := 176, descriptorIndex := 173, attributes := #[] }, { accessFlags := 8, nameIndex := 344, descriptorIndex := 339, attributes := #[] }, { accessFlags := 8, nameIndex := 338, descriptorIndex := 339, attributes := #[] }, { accessFlags := 4120, nameIndex := 245, descriptorIndex := 246, attributes := #[] }])
  fields := #[{ name := "E", type := .double, accessFlags := 25, slot := 0, constantValue := 0 }, { name := "PI", type := .double, accessFlags := 25, slot := 1, constantValue := 0 }, { name := "TAU", type := .double, accessFlags := 25, slot := 2, constantValue := 0 }, { name := "DEGREES_TO_RADIANS", type := .double, accessFlags := 26, slot := 3, constantValue := 0 }, { name := "RADIANS_TO_DEGREES", type := .double, accessFlags := 26, slot := 4, constantValue := 0 }, { name := "negativeZeroFloatBits", type := .long, accessFlags := 26, slot := 5, constantValue := 0 }, { name := "negativeZeroDoubleBits", type := .long, accessFlags := 26, slot := 6, constantValue := 0 }, { name := "twoToTheDoubleScaleUp", type := .double, accessFlags := 8, slot := 7, constantValue := 0 }, { name := "twoToTheDoubleScaleDown", type := .double, accessFlags := 8, slot := 8, constantValue := 0 }, { name := "$assertionsDisabled", type := .boolean, accessFlags := 4120, slot := 9, constantValue := 0 }]
  methods := #[k11m0, k11m1, k11m2]
  instanceTypes := #[]
  staticTypes := #[.double, .double, .double, .double, .double, .long, .long, .double, .double, .boolean]
  resolved := Array.replicate 460 none
  statics := none }

def pool12 : Array CpInfo := pool [(2, .class_ 4), (1, u "java/lang/Object"), (0, u "<init>"), (0, u "()V"), (17, .class_ 26), (1, u "jdk/internal/util/Preconditions"), (28, .class_ 56), (0, u "jdk/internal/util/Preconditions$4"), (57, .class_ 115), (0, u "jdk/internal/util/Preconditions$1"), (7, u "SIOOBE_FORMATTER"), (0, u "Ljava/util/function/BiFunction;"), (0, .class_ 126), (0, u "jdk/internal/util/Preconditions$2"), (3, u "AIOOBE_FORMATTER"), (0, .class_ 132), (0, u "jdk/internal/util/Preconditions$3"), (3, u "IOOBE_FORMATTER")] 57

def k12m0 : Method := { name := "<init>", desc := "()V", sig := { parameters := [], returnType := none }, accessFlags := 1, code := none }
/-- jdk/internal/util/Preconditions -/
def k12 : Class := { plain "jdk/internal/util/Preconditions" (some 0) with
  accessFlags := 33
  interfaces := #[]
  cf := some (fileOf pool12 24 #[.nestMembers #[55, 131, 125, 114]] #[{ accessFlags := 1, nameIndex := 5, descriptorIndex := 6, attributes := #[] }] 33 2 #[] #[{ accessFlags := 25, nameIndex := 123, descriptorIndex := 124, attributes := #[] }, { accessFlags := 25, nameIndex := 130, descriptorIndex := 124, attributes := #[] }, { accessFlags := 25, nameIndex := 136, descriptorIndex := 124, attributes := #[] }])
  fields := #[{ name := "SIOOBE_FORMATTER", type := (.object "java/util/function/BiFunction"), accessFlags := 25, slot := 0, constantValue := 0 }, { name := "AIOOBE_FORMATTER", type := (.object "java/util/function/BiFunction"), accessFlags := 25, slot := 1, constantValue := 0 }, { name := "IOOBE_FORMATTER", type := (.object "java/util/function/BiFunction"), accessFlags := 25, slot := 2, constantValue := 0 }]
  methods := #[k12m0]
  instanceTypes := #[]
  staticTypes := #[(.object "java/util/function/BiFunction"), (.object "java/util/function/BiFunction"), (.object "java/util/function/BiFunction")]
  resolved := Array.replicate 194 none
  statics := some 1 }

def pool13 : Array CpInfo := pool [(9, u "<init>"), (6, .class_ 18), (1, u "java/lang/Object"), (0, u "()V"), (1, .class_ 23), (1, u "jdk/internal/util/ArraysSupport"), (0, u "LOG2_ARRAY_LONG_INDEX_SCALE"), (0, u "I"), (2, u "U"), (0, u "Ljdk/internal/misc/Unsafe;"), (8, u "BIG_ENDIAN"), (0, u "Z"), (8, u "LOG2_BYTE_BIT_SIZE"), (4, u "LOG2_ARRAY_INT_INDEX_SCALE"), (54, u "JLA"), (0, u "Ljdk/internal/access/JavaLangAccess;"), (11, u "LOG2_ARRAY_BOOLEAN_INDEX_SCALE"), (9, u "LOG2_ARRAY_BYTE_INDEX_SCALE"), (5, u "LOG2_ARRAY_CHAR_INDEX_SCALE"), (5, u "LOG2_ARRAY_SHORT_INDEX_SCALE"), (18, u "LOG2_ARRAY_FLOAT_INDEX_SCALE"), (24, u "LOG2_ARRAY_DOUBLE_INDEX_SCALE"), (89, u "T_BOOLEAN"), (2, u "T_CHAR"), (1, u "T_FLOAT"), (1, u "T_DOUBLE"), (1, u "T_BYTE"), (1, u "T_SHORT"), (1, u "T_INT"), (1, u "T_LONG"), (1, u "SOFT_MAX_ARRAY_LENGTH")] 83

def k13m0 : Method := { name := "<init>", desc := "()V", sig := { parameters := [], returnType := none }, accessFlags := 2, code := none }
/-- jdk/internal/util/ArraysSupport -/
def k13 : Class := { plain "jdk/internal/util/ArraysSupport" (some 0) with
  accessFlags := 33
  interfaces := #[]
  cf := some (fileOf pool13 21 #[] #[{ accessFlags := 2, nameIndex := 9, descriptorIndex := 19, attributes := #[] }] 33 16 #[] #[{ accessFlags := 24, nameIndex := 28, descriptorIndex := 29, attributes := #[] }, { accessFlags := 26, nameIndex := 38, descriptorIndex := 39, attributes := #[] }, { accessFlags := 25, nameIndex := 121, descriptorIndex := 25, attributes := #[] }, { accessFlags := 25, nameIndex := 131, descriptorIndex := 25, attributes := #[] }, { accessFlags := 25, nameIndex := 137, descriptorIndex := 25, attributes := #[] }, { accessFlags := 25, nameIndex := 143, descriptorIndex := 25, attributes := #[] }, { accessFlags := 25, nameIndex := 53, descriptorIndex := 25, attributes := #[] }, { accessFlags := 25, nameIndex := 24, descriptorIndex := 25, attributes := #[] }, { accessFlags := 25, nameIndex := 162, descriptorIndex := 25, attributes := #[] }, { accessFlags := 25, nameIndex := 187, descriptorIndex := 25, attributes := #[] }, { accessFlags := 26, nameIndex := 48, descriptorIndex := 25, attributes := #[] }, { accessFlags := 25, nameIndex := 277, descriptorIndex := 25, attributes := #[] }, { accessFlags := 25, nameIndex := 280, descriptorIndex := 25, attributes := #[] }, { accessFlags := 25, nameIndex := 282, descriptorIndex := 25, attributes := #[] }, { accessFlags := 25, nameIndex := 284, descriptorIndex := 25, attributes := #[] }, { accessFlags := 25, nameIndex := 286, descriptorIndex := 25, attributes := #[] }, { accessFlags := 25, nameIndex := 288, descriptorIndex := 25, attributes := #[] }, { accessFlags := 25, nameIndex := 290, descriptorIndex := 25, attributes := #[] }, { accessFlags := 25, nameIndex := 292, descriptorIndex := 25, attributes := #[] }, { accessFlags := 26, nameIndex := 108, descriptorIndex := 109, attributes := #[] }, { accessFlags := 25, nameIndex := 294, descriptorIndex := 25, attributes := #[] }])
  fields := #[{ name := "U", type := (.object "jdk/internal/misc/Unsafe"), accessFlags := 24, slot := 0, constantValue := 0 }, { name := "BIG_ENDIAN", type := .boolean, accessFlags := 26, slot := 1, constantValue := 0 }, { name := "LOG2_ARRAY_BOOLEAN_INDEX_SCALE", type := .int, accessFlags := 25, slot := 2, constantValue := 0 }, { name := "LOG2_ARRAY_BYTE_INDEX_SCALE", type := .int, accessFlags := 25, slot := 3, constantValue := 0 }, { name := "LOG2_ARRAY_CHAR_INDEX_SCALE", type := .int, accessFlags := 25, slot := 4, constantValue := 0 }, { name := "LOG2_ARRAY_SHORT_INDEX_SCALE", type := .int, accessFlags := 25, slot := 5, constantValue := 0 }, { name := "LOG2_ARRAY_INT_INDEX_SCALE", type := .int, accessFlags := 25, slot := 6, constantValue := 0 }, { name := "LOG2_ARRAY_LONG_INDEX_SCALE", type := .int, accessFlags := 25, slot := 7, constantValue := 0 }, { name := "LOG2_ARRAY_FLOAT_INDEX_SCALE", type := .int, accessFlags := 25, slot := 8, constantValue := 0 }, { name := "LOG2_ARRAY_DOUBLE_INDEX_SCALE", type := .int, accessFlags := 25, slot := 9, constantValue := 0 }, { name := "LOG2_BYTE_BIT_SIZE", type := .int, accessFlags := 26, slot := 10, constantValue := 0 }, { name := "T_BOOLEAN", type := .int, accessFlags := 25, slot := 11, constantValue := 0 }, { name := "T_CHAR", type := .int, accessFlags := 25, slot := 12, constantValue := 0 }, { name := "T_FLOAT", type := .int, accessFlags := 25, slot := 13, constantValue := 0 }, { name := "T_DOUBLE", type := .int, accessFlags := 25, slot := 14, constantValue := 0 }, { name := "T_BYTE", type := .int, accessFlags := 25, slot := 15, constantValue := 0 }, { name := "T_SHORT", type := .int, accessFlags := 25, slot := 16, constantValue := 0 }, { name := "T_INT", type := .int, accessFlags := 25, slot := 17, constantValue := 0 }, { name := "T_LONG", type := .int, accessFlags := 25, slot := 18, constantValue := 0 }, { name := "JLA", type := (.object "jdk/internal/access/JavaLangAccess"), accessFlags := 26, slot := 19, constantValue := 0 }, { name := "SOFT_MAX_ARRAY_LENGTH", type := .int, accessFlags := 25, slot := 20, constantValue := 0 }]
  methods := #[k13m0]
  instanceTypes := #[]
  staticTypes := #[(.object "jdk/internal/misc/Unsafe"), .boolean, .int, .int, .int, .int, .int, .int, .int, .int, .int, .int, .int, .int, .int, .int, .int, .int, .int, (.object "jdk/internal/access/JavaLangAccess"), .int]
  resolved := Array.replicate 378 none
  statics := none }

def pool14 : Array CpInfo := pool [(1, u "java/lang/Cloneable"), (0, .class_ 1), (0, u "java/lang/Object"), (0, .class_ 3)] 3

/-- java/lang/Cloneable -/
def k14 : Class := { plain "java/lang/Cloneable" (some 0) with
  accessFlags := 1537
  interfaces := #[]
  cf := some (fileOf pool14 2 #[] #[] 1537 4 #[] #[])
  fields := #[]
  methods := #[]
  instanceTypes := #[]
  staticTypes := #[]
  resolved := Array.replicate 8 none
  statics := none }

/-- the primitive byte -/
def k15 : Class := { plain "byte" none with kind := .primitive 'B', accessFlags := 0x411 }
/-- [B -/
def k16 : Class := { plain "[B" (some 0) with kind := .array 15 .byte, interfaces := #[14, 2], accessFlags := 1041 }

/-- the primitive int -/
def k17 : Class := { plain "int" none with kind := .primitive 'I', accessFlags := 0x411 }
/-- [I -/
def k18 : Class := { plain "[I" (some 0) with kind := .array 17 .int, interfaces := #[14, 2], accessFlags := 1041 }

def heap : Heap := #[{ cls := 7, slots := #[.long 0, .int 1, .null, .int 0, .null, .int 0, .int 0], vm := .statics 7 },
  { cls := 12, slots := #[.null, .null, .null], vm := .statics 12 }]
def classes : Array Class := #[k0, k1, k2, k3, k4, k5, k6, k7, k8, k9, k10, k11, k12, k13, k14, k15, k16, k17, k18]
def interned : List (Array UInt16 × Addr) := []
def slotsUsed : Nat := 10
def theMethod : MethodId := ⟨1, 1⟩
def args0 : Array Value := #[.int 1, .int 5, .int 3, .int 9, .int 77]
def aboutOver (below : List Frame) : State where
  vm := { classes := classes, interned := interned.toArray }
  heap := heap
  slotsUsed := slotsUsed
  threads := #[{ frames := .invoking theMethod args0 :: below }]
def below0 : List Frame := [.native { method := ⟨0, 0⟩, args := #[] }]
def about1 : State := aboutOver below0
def p0 : Program := .bare "" "" ""
def e0 : Env := launch0.env 0 0 0
theorem w_frames : about1.frames = Frame.invoking theMethod args0 :: below0 := rfl
set_option maxRecDepth 65536 in
theorem w_args : argsFit about1.vm theMethod args0 = true := by decide +kernel
set_option maxRecDepth 65536 in
theorem w_heap : heapFits about1 = true := by decide +kernel
set_option maxRecDepth 65536 in
theorem w_runnable : about1.curStatus? = some .runnable := by decide +kernel
set_option maxRecDepth 65536 in
theorem w_alone : about1.alone = true := by decide +kernel
set_option maxRecDepth 65536 in
theorem w_named : about1.methodNamed? x = some theMethod := by decide +kernel
set_option maxRecDepth 65536 in
theorem w_hears : about1.hears theMethod below0 = true := by decide +kernel
set_option maxRecDepth 65536 in
theorem w_ripe : about1.ripe theMethod args0 below0 = true := by decide +kernel
theorem w_running : about1.status = .running := rfl
set_option maxRecDepth 65536 in
theorem w_room : about1.hasRoom e0.platform room_1 = true :=
  launch0.hasRoom_least _ room_1 (by decide +kernel) (by decide +kernel) (by decide +kernel) (by decide +kernel) (by decide +kernel) (by decide +kernel)
theorem allAtoms_all (ts : List Jvm.Cond) (a : Array Jvm.Value) (st : Jvm.State) : (allAtoms ts).before a st = ts.all (fun c => c.before a st) := by
  induction ts with
  | nil => rfl
  | cons c t ih =>
    show (Jvm.Cond.and c (allAtoms t)).before a st = _
    rw [Jvm.Cond.before_and, ih, List.all_cons]
def words1 : List Jvm.Cond := Jvm.Cond.code x code maxLocals ret :: tables_1
/-- a 'code' word, met by the world's own term for the bytes: nothing is compared byte by byte -/
theorem code_word {y : MethodName} {bytes : ByteArray} {mx : Nat} {rt : Option FieldType} {a : Array Value} {s : State} {m : MethodId} {meth : Method} {c : Code} (h1 : s.methodNamed? y = some m) (h2 : s.vm.method? m = some meth) (h3 : meth.code = some c) (h4 : c.code = bytes)
    (h5 : (c.maxLocals == mx && c.exceptionTable.isEmpty && decide (c.maxStack ≤ mostOperands) && decide (meth.sig.returnType = rt) && !meth.locks && decide (parseMethodDescriptor y.desc = some meth.sig)) = true) : (Jvm.Cond.code y bytes mx rt).before a s = true := by
  simp only [Bool.and_eq_true, beq_iff_eq, Bool.not_eq_true', decide_eq_true_eq] at h5
  obtain ⟨⟨⟨⟨⟨g1, g2⟩, g3⟩, g4⟩, g5⟩, g6⟩ := h5
  simp [Cond.before, Cond.holds, Cond.value, h1, h2, h3, h4, g1, g2, g3, g4, g5, g6]
def isCode : Jvm.Cond → Bool
  | .code _ _ _ _ => true
  | _ => false
theorem all_split {L : List Jvm.Cond} {P : Jvm.Cond → Bool} (h1 : L.all (fun c => isCode c || P c) = true) (h2 : ∀ c ∈ L.filter isCode, P c = true) : L.all P = true := by
  refine List.all_eq_true.mpr fun c hc => ?_
  have h := List.all_eq_true.mp h1 c hc
  rcases Bool.eq_false_or_eq_true (isCode c) with hi | hi
  · exact h2 c (List.mem_filter.mpr ⟨hc, hi⟩)
  · simpa [hi] using h
set_option maxRecDepth 65536 in
theorem w_c0 : (Jvm.Cond.code x code maxLocals ret).before args0 about1 = true := code_word (m := ⟨1, 1⟩) (meth := k1m1) (c := k1c1) (by decide +kernel) rfl rfl rfl (by decide +kernel)
set_option maxRecDepth 65536 in
theorem w_c1 : (Jvm.Cond.code ({ cls := "java/lang/String", name := "valueOf", desc := "(C)Ljava/lang/String;" } : Jvm.MethodName) jdk_42_method_139_code (1 : Nat) (Option.some (Jvm.ClassFile.FieldType.object "java/lang/String"))).before args0 about1 = true := code_word (m := ⟨7, 1⟩) (meth := k7m1) (c := k7c1) (by decide +kernel) rfl rfl rfl (by decide +kernel)
set_option maxRecDepth 65536 in
theorem w_c2 : (Jvm.Cond.code ({ cls := "java/lang/StringLatin1", name := "canEncode", desc := "(C)Z" } : Jvm.MethodName) jdk_43_method_3_code (1 : Nat) (Option.some Jvm.ClassFile.FieldType.boolean)).before args0 about1 = true := code_word (m := ⟨8, 1⟩) (meth := k8m1) (c := k8c1) (by decide +kernel) rfl rfl rfl (by decide +kernel)
set_option maxRecDepth 65536 in
theorem w_c3 : (Jvm.Cond.code ({ cls := "java/lang/StringLatin1", name := "toBytes", desc := "(C)[B" } : Jvm.MethodName) jdk_43_method_46_code (1 : Nat) (Option.some (Jvm.ClassFile.FieldType.array Jvm.ClassFile.FieldType.byte))).before args0 about1 = true := code_word (m := ⟨8, 2⟩) (meth := k8m2) (c := k8c2) (by decide +kernel) rfl rfl rfl (by decide +kernel)
set_option maxRecDepth 65536 in
theorem w_c4 : (Jvm.Cond.code ({ cls := "java/lang/String", name := "<init>", desc := "([BB)V" } : Jvm.MethodName) jdk_42_method_151_code (3 : Nat) (Option.none : Option Jvm.ClassFile.FieldType)).before args0 about1 = true := code_word (m := ⟨7, 2⟩) (meth := k7m2) (c := k7c2) (by decide +kernel) rfl rfl rfl (by decide +kernel)
set_option maxRecDepth 65536 in
theorem w_c5 : (Jvm.Cond.code ({ cls := "java/lang/Object", name := "<init>", desc := "()V" } : Jvm.MethodName) object_method_1_code (1 : Nat) (Option.none : Option Jvm.ClassFile.FieldType)).before args0 about1 = true := code_word (m := ⟨0, 0⟩) (meth := k0m0) (c := k0c0) (by decide +kernel) rfl rfl rfl (by decide +kernel)
set_option maxRecDepth 65536 in
theorem w_c6 : (Jvm.Cond.code ({ cls := "com/example/chartlight/chartlight/eval/Bracketing$Bracket", name := "<init>", desc := "(Ljava/lang/String;II)V" } : Jvm.MethodName) prog_30_method_1_code (4 : Nat) (Option.none : Option Jvm.ClassFile.FieldType)).before args0 about1 = true := code_word (m := ⟨10, 0⟩) (meth := k10m0) (c := k10c0) (by decide +kernel) rfl rfl rfl (by decide +kernel)
set_option maxRecDepth 65536 in
theorem w_c7 : (Jvm.Cond.code ({ cls := "java/lang/Record", name := "<init>", desc := "()V" } : Jvm.MethodName) jdk_30_method_1_code (1 : Nat) (Option.none : Option Jvm.ClassFile.FieldType)).before args0 about1 = true := code_word (m := ⟨9, 0⟩) (meth := k9m0) (c := k9c0) (by decide +kernel) rfl rfl rfl (by decide +kernel)
set_option maxRecDepth 65536 in
theorem w_c8 : (Jvm.Cond.code ({ cls := "java/lang/Math", name := "max", desc := "(II)I" } : Jvm.MethodName) jdk_29_method_65_code (2 : Nat) (Option.some Jvm.ClassFile.FieldType.int)).before args0 about1 = true := code_word (m := ⟨11, 1⟩) (meth := k11m1) (c := k11c1) (by decide +kernel) rfl rfl rfl (by decide +kernel)
set_option maxRecDepth 65536 in
theorem w_c9 : (Jvm.Cond.code ({ cls := "java/lang/Math", name := "min", desc := "(II)I" } : Jvm.MethodName) jdk_29_method_69_code (2 : Nat) (Option.some Jvm.ClassFile.FieldType.int)).before args0 about1 = true := code_word (m := ⟨11, 2⟩) (meth := k11m2) (c := k11c2) (by decide +kernel) rfl rfl rfl (by decide +kernel)
set_option maxRecDepth 65536 in
theorem w_c10 : (Jvm.Cond.code ({ cls := "com/example/chartlight/chartlight/eval/Bracketing$Bracket", name := "crosses", desc := "(Lcom/example/chartlight/chartlight/eval/Bracketing$Bracket;)Z" } : Jvm.MethodName) prog_30_method_2_code (2 : Nat) (Option.some Jvm.ClassFile.FieldType.boolean)).before args0 about1 = true := code_word (m := ⟨10, 1⟩) (meth := k10m1) (c := k10c1) (by decide +kernel) rfl rfl rfl (by decide +kernel)
def codes1 : List Jvm.Cond := [Jvm.Cond.code x code maxLocals ret, Jvm.Cond.code ({ cls := "java/lang/String", name := "valueOf", desc := "(C)Ljava/lang/String;" } : Jvm.MethodName) jdk_42_method_139_code (1 : Nat) (Option.some (Jvm.ClassFile.FieldType.object "java/lang/String")), Jvm.Cond.code ({ cls := "java/lang/StringLatin1", name := "canEncode", desc := "(C)Z" } : Jvm.MethodName) jdk_43_method_3_code (1 : Nat) (Option.some Jvm.ClassFile.FieldType.boolean), Jvm.Cond.code ({ cls := "java/lang/StringLatin1", name := "toBytes", desc := "(C)[B" } : Jvm.MethodName) jdk_43_method_46_code (1 : Nat) (Option.some (Jvm.ClassFile.FieldType.array Jvm.ClassFile.FieldType.byte)), Jvm.Cond.code ({ cls := "java/lang/String", name := "<init>", desc := "([BB)V" } : Jvm.MethodName) jdk_42_method_151_code (3 : Nat) (Option.none : Option Jvm.ClassFile.FieldType), Jvm.Cond.code ({ cls := "java/lang/Object", name := "<init>", desc := "()V" } : Jvm.MethodName) object_method_1_code (1 : Nat) (Option.none : Option Jvm.ClassFile.FieldType), Jvm.Cond.code ({ cls := "com/example/chartlight/chartlight/eval/Bracketing$Bracket", name := "<init>", desc := "(Ljava/lang/String;II)V" } : Jvm.MethodName) prog_30_method_1_code (4 : Nat) (Option.none : Option Jvm.ClassFile.FieldType), Jvm.Cond.code ({ cls := "java/lang/Record", name := "<init>", desc := "()V" } : Jvm.MethodName) jdk_30_method_1_code (1 : Nat) (Option.none : Option Jvm.ClassFile.FieldType), Jvm.Cond.code ({ cls := "java/lang/Math", name := "max", desc := "(II)I" } : Jvm.MethodName) jdk_29_method_65_code (2 : Nat) (Option.some Jvm.ClassFile.FieldType.int), Jvm.Cond.code ({ cls := "java/lang/Math", name := "min", desc := "(II)I" } : Jvm.MethodName) jdk_29_method_69_code (2 : Nat) (Option.some Jvm.ClassFile.FieldType.int), Jvm.Cond.code ({ cls := "com/example/chartlight/chartlight/eval/Bracketing$Bracket", name := "crosses", desc := "(Lcom/example/chartlight/chartlight/eval/Bracketing$Bracket;)Z" } : Jvm.MethodName) prog_30_method_2_code (2 : Nat) (Option.some Jvm.ClassFile.FieldType.boolean)]
set_option maxRecDepth 65536 in
theorem codes_eq : words1.filter isCode = codes1 := rfl
theorem w_codes : ∀ c ∈ words1.filter isCode, c.before args0 about1 = true := by
  rw [codes_eq]
  intro c hc
  simp only [codes1, List.mem_cons, List.not_mem_nil, or_false] at hc
  rcases hc with rfl | rfl | rfl | rfl | rfl | rfl | rfl | rfl | rfl | rfl | rfl
  · exact w_c0
  · exact w_c1
  · exact w_c2
  · exact w_c3
  · exact w_c4
  · exact w_c5
  · exact w_c6
  · exact w_c7
  · exact w_c8
  · exact w_c9
  · exact w_c10
set_option maxRecDepth 65536 in
theorem w_t1 : (words1.take 24).all (fun c => isCode c || c.before args0 about1) = true := by decide +kernel
set_option maxRecDepth 65536 in
theorem w_t2 : ((words1.drop 24).take 24).all (fun c => isCode c || c.before args0 about1) = true := by decide +kernel
set_option maxRecDepth 65536 in
theorem w_t3 : ((words1.drop 24).drop 24).all (fun c => isCode c || c.before args0 about1) = true := by decide +kernel
theorem w_tables : (allAtoms (Jvm.Cond.code x code maxLocals ret :: tables_1)).before args0 about1 = true := by
  rw [allAtoms_all]
  show words1.all (fun c => c.before args0 about1) = true
  refine all_split ?_ w_codes
  rw [← List.take_append_drop 24 words1, List.all_append, w_t1, ← List.take_append_drop 24 (words1.drop 24), List.all_append, w_t2, w_t3]
  rfl
set_option maxRecDepth 65536 in
theorem w_rest : rest_1_c.before args0 about1 = true := by decide +kernel
set_option maxRecDepth 65536 in
theorem w_case : (Jvm.Cond.and given_1 narrow_1).before args0 about1 = true := by decide +kernel
theorem w_applies : (headSpec (Jvm.Cond.code x code maxLocals ret :: tables_1) room_1).applies x e0.platform about1 = true :=
  (Spec.applies_iff w_frames).mpr ⟨w_running, w_runnable, w_alone, w_named, w_hears, w_ripe, w_room, w_tables⟩
theorem atStart : AtStart classFile x code maxLocals ret World_1 tables_1 room_1 Calls_1 rest_1 Pre_1 launch0 p0 e0 about1 theMethod args0 below0 :=
  ⟨lists_1, trivial, launch0.admits_env _ _ _, launch0.least_env, fairChoices_fair.cas, fairChoices_fair.clock, w_frames, w_args, w_heap, w_applies, trivial, w_rest, w_case⟩
end start1
theorem witness_1 : WitnessClaimed_1 := ⟨start1.p0, start1.e0, start1.about1, start1.theMethod, start1.args0, start1.below0, start1.atStart⟩
end Jvm.Pilot.@@N@@
