import JvmDerived
import JvmDerived.Pilot.@@N@@Statement
import JvmDerived.Pilot.@@N@@Code
set_option linter.unusedVariables false
set_option linter.unusedSimpArgs false
namespace Jvm.RoadKit
open Sem ClassFile Op Lib Jvm.Stand Jvm.Free Jvm.LawKit
section New
variable {p : Program} {l : Launch} {e : Env} {R : Room} {s : State} {m : MethodId} {args : Array Value} {below : List Frame} {meth : Method} {c : Code} {T : State} {locs : List Loc} {cells slots : Nat}
theorem retI (X : Stand p l e R s m args below meth c T locs cells slots) (hx : p.tables.exec = Jvm.exec) {pc : Nat} {Ls : Array Slot} {z : Int32} {rest : List Value} (hret : meth.sig.returnType = some .int) (hd : decode c.code pc = .ok (.ireturn, 1)) {fs : List Frame}
    (hl : ∀ (f : JFrame) (acts : List Action), f.method = m → f.locked = none → f.entered = [] → (doReturn e (T.setTop f) acts (some (.int z))).1 = T.setFrames fs) : Steps p.tables e below (T.setTop (mkF m pc Ls (.int z :: rest))) (T.setFrames fs) := by
  have hm' : T.vm.method? m = some meth := X.method'
  have hn : narrow .int (.int z) = .int z := rfl
  show Steps p.tables e below (T.setTop { method := m, pc := pc, locals := Ls, stack := _ :: rest, locked := none }) _
  jvm_step X.here [X.here.top, hx, hd, hm', hret, hn]
  first | (intro acts; rw [hl _ acts rfl rfl rfl]) | rw [hl _ _ rfl rfl rfl]
  exact Steps.refl _
end New
theorem own_sta_keep {Z : State} {h h' : Heap} {C n d : String} {w : Value} {ws : List Addr} (F : Sta Z h C n d w) (K : Keep h h' ws) (q : ∀ x ∈ ws, ∃ c : Cell, h[x]? = some c ∧ c.vm.isStatics = false) : Sta Z h' C n d w := by
  obtain ⟨cf, i, k, f, st, cell, h1, h2, h3, h4, h5, h6, h7⟩ := F
  refine ⟨cf, i, k, f, st, cell, h1, h2, h3, h4, K.2.1 st cell h5 (fun hm => ?_), h6, h7⟩
  obtain ⟨c, g1, g2⟩ := q st hm
  cases h5.symm.trans g1
  rw [h6] at g2; cases g2
theorem own_exa_ns {Z : State} {h : Heap} {a : Addr} {C : String} (F : Exa Z h a C) : ∃ c : Cell, h[a]? = some c ∧ c.vm.isStatics = false := by
  obtain ⟨cell, k, h1, -, -, h4, -⟩ := F
  exact ⟨cell, h1, h4⟩
theorem own_arv_ns {Z : State} {h : Heap} {a : Addr} {k : ClassId} {ty : FieldType} {z : Int32} {vs : List Value} {d : Value} (F : Arv Z h a k ty z vs d) : ∃ c : Cell, h[a]? = some c ∧ c.vm.isStatics = false := by
  obtain ⟨cell, A, -⟩ := F
  exact ⟨cell, A.1, A.plain⟩
theorem own_arv {Z : State} {h : Heap} {a : Addr} {k : ClassId} {ty : FieldType} {z : Int32} {vs : List Value} {d : Value} (F : Arh Z h a k ty z [] vs d) : Arv Z h a k ty z vs d := F
theorem own_eqv {Z : State} {args : Array Value} {t u : Term} {v : Value} (hv : (∃ k, v = .int k) ∨ ∃ a, v = .ref a) (hu : u.eval args Z none [] Z = some v) (h : (Jvm.Cond.eq t u).value args Z none Z [] = some true) : t.eval args Z none [] Z = some v := by
  simp only [Jvm.Cond.value, hu] at h
  cases ht : t.eval args Z none [] Z with
  | none => simp [ht] at h
  | some x => rcases hv with ⟨k, rfl⟩ | ⟨a, rfl⟩ <;> cases x <;> simp [ht] at h ⊢ <;> exact h
theorem own_len {Z : State} {args : Array Value} {t : Term} {a : Addr} {cl : Cell} {ty : FieldType} {z : Int32} (ev : t.eval args Z none [] Z = some (.ref a)) (A : Arr Z Z.heap a cl ty) (h : (Term.length t).eval args Z none [] Z = some (.int z)) : cl.slots.size < 2 ^ 31 ∧ cl.slots.size.toInt32 = z := by
  obtain ⟨a', cell, ha', hat, hv⟩ := Term.length_spec h
  cases ev.symm.trans ha'
  cases A.1.symm.trans (State.arrayAt?_spec hat).1
  cases hv
  refine ⟨?_, rfl⟩
  by_cases q : cl.slots.size < 2 ^ 31
  · exact q
  · exfalso
    simp [Term.eval, ev, hat, q] at h
end Jvm.RoadKit
namespace Jvm.Pilot.@@N@@
open Jvm Jvm.ClassFile Sem Op Lib Jvm.Free Jvm.Stand Jvm.LawKit Jvm.RoadKit Bundle Jvm.Pilot.@@N@@.Jvm.D
theorem d3_0 : decode jdk_30_method_1_code 0 = .ok (.aload_n 0, 1) := by decide +kernel
theorem d3_1 : decode jdk_30_method_1_code 1 = .ok (.invokespecial 1, 3) := by decide +kernel
theorem d3_4 : decode jdk_30_method_1_code 4 = .ok (.return_, 1) := by decide +kernel
theorem pn0 : plainName "java/lang/Record" = true := by first | (simp [plainName, overriddenIn]; done) | decide +kernel
theorem ef3 (m : MethodId) (a1 : Addr) : entryFrame m #[(.ref a1)] 1 = (mkF m 0 #[.val (.ref a1)] []) := by first | (simp [entryFrame, mkF, argsToLocals, Value.category]; done) | rfl
def Q3 (Z : State) (a1 : Addr) (h0 : Heap) (n0 : Nat) (v : Option Value) (h : Heap) (L : List Loc) : Prop := v = none ∧ L = [] ∧ h = h0
set_option maxRecDepth 65536 in
set_option maxHeartbeats 40000000 in
theorem rm3 (l : Launch) (Z : State) (a0 : Array Value) (hw : ∀ d ∈ tables_1, d.before a0 Z = true) (ws : List Jvm.Cond) (a1 : Addr) (h0 : Heap) (n0 : Nat) (Z0 : n0 ≤ h0.size) :
    MetFree l (⟨"java/lang/Record", "<init>", "()V"⟩ : MethodName) (head1 (Jvm.Cond.code (⟨"java/lang/Record", "<init>", "()V"⟩ : MethodName) jdk_30_method_1_code 1 none :: ws) ({ frames := 1, cells := 0, slots := 0, locals := 12 } : Room)) (fun a U => a = #[(.ref a1)] ∧ Z.Warmed39 U.vm ∧ U.heap = h0) (fun _ _ _ _ _ => True) (fun _ U o U' => ∃ v L, o = .returned v ∧ Q3 Z a1 h0 n0 v U'.heap L ∧ FrameEnd U o U' L ({ frames := 1, cells := 0, slots := 0, locals := 12 } : Room).cells ({ frames := 1, cells := 0, slots := 0, locals := 12 } : Room).slots) := by
  refine MetFree.of_bodySF (plainFor_of_name pn0) hisR ?_
  intro p e s m args below meth c s₁ Bd hml0 hP hK
  obtain ⟨rfl, hZ, hh⟩ := hP
  have hx := Bd.exec
  have hby := Bd.bytes
  have hml : c.maxLocals = 1 := hml0
  have hown : s.vm.findClass "java/lang/Record" = some m.cls := findClass_of_methodNamed Bd.named
  have hnm := (name_of_methodNamed Bd.named Bd.method).1
  have X0 : Stand p l e ({ frames := 1, cells := 0, slots := 0, locals := 12 } : Room) s m #[(.ref a1)] below meth c s₁ [] 0 0 := Stand.of_body Bd
  have e0 : s₁.heap = h0 := by rw [← hh, Bd.state]; rfl
  have N0 := Fr.nil n0
  have pre0 : ∀ t, Steps p.tables e below (s₁.setTop (mkF m 0 #[.val (.ref a1)] [])) t → Steps p.tables e below (s₁.setTop (entryFrame m #[(.ref a1)] 1)) t := fun t k => castTop (ef3 m a1) k
  obtain ⟨T1, X1, e1, st1⟩ := initO X0 hx hZ hown (hw _ (List.mem_of_getElem? (i := 19) rfl)) (hw _ (List.mem_of_getElem? (i := 20) rfl)) (hw _ (List.mem_of_getElem? (i := 21) rfl)) e0 (g := (mkF m 1 #[.val (.ref a1)] [(.ref a1)])) rfl (by rw [hml]; rfl) rfl (hb hby d3_1) (by decide) (W := 0) (by show 2 * 0 + _ ≤ _; exact Nat.le_of_eq rfl) (by decide)
  obtain ⟨fs, hr, hrun, hended, hW, hsame⟩ := X1.leave (v := none) (fun _ => rfl)
  refine ⟨_, _, pre0 _ ?_, hrun, hended, _, _, rfl, ?_, ⟨_, rfl⟩, hW, hsame.mono (by decide) (by decide)⟩
  · show Steps p.tables e below (s₁.setTop (mkF m 0 #[.val (.ref a1)] [])) _
    refine XS.aloadN X0.here hx rfl (hb hby d3_0) rfl rfl ?_
    show Steps p.tables e below (s₁.setTop (mkF m 1 #[.val (.ref a1)] [(.ref a1)])) _
    refine st1 _ ?_
    show Steps p.tables e below (T1.setTop (mkF m 4 #[.val (.ref a1)] [])) _
    exact X1.returnOut hx Bd.returns (hb hby d3_4) hr
  · show Q3 Z a1 h0 n0 _ T1.heap _
    rw [e1]
    exact ⟨rfl, rfl, rfl⟩
theorem d2_0 : decode prog_100_method_3_code 0 = .ok (.aload_n 0, 1) := by decide +kernel
theorem d2_1 : decode prog_100_method_3_code 1 = .ok (.invokespecial 1, 3) := by decide +kernel
theorem d2_4 : decode prog_100_method_3_code 4 = .ok (.aload_n 0, 1) := by decide +kernel
theorem d2_5 : decode prog_100_method_3_code 5 = .ok (.iload_n 1, 1) := by decide +kernel
theorem d2_6 : decode prog_100_method_3_code 6 = .ok (.putfield 7, 3) := by decide +kernel
theorem d2_9 : decode prog_100_method_3_code 9 = .ok (.aload_n 0, 1) := by decide +kernel
theorem d2_10 : decode prog_100_method_3_code 10 = .ok (.iload_n 2, 1) := by decide +kernel
theorem d2_11 : decode prog_100_method_3_code 11 = .ok (.putfield 13, 3) := by decide +kernel
theorem d2_14 : decode prog_100_method_3_code 14 = .ok (.aload_n 0, 1) := by decide +kernel
theorem d2_15 : decode prog_100_method_3_code 15 = .ok (.iload_n 3, 1) := by decide +kernel
theorem d2_16 : decode prog_100_method_3_code 16 = .ok (.putfield 16, 3) := by decide +kernel
theorem d2_19 : decode prog_100_method_3_code 19 = .ok (.aload_n 0, 1) := by decide +kernel
theorem d2_20 : decode prog_100_method_3_code 20 = .ok (.iload 4, 2) := by decide +kernel
theorem d2_22 : decode prog_100_method_3_code 22 = .ok (.putfield 19, 3) := by decide +kernel
theorem d2_25 : decode prog_100_method_3_code 25 = .ok (.aload_n 0, 1) := by decide +kernel
theorem d2_26 : decode prog_100_method_3_code 26 = .ok (.aload 5, 2) := by decide +kernel
theorem d2_28 : decode prog_100_method_3_code 28 = .ok (.putfield 22, 3) := by decide +kernel
theorem d2_31 : decode prog_100_method_3_code 31 = .ok (.aload_n 0, 1) := by decide +kernel
theorem d2_32 : decode prog_100_method_3_code 32 = .ok (.aload 6, 2) := by decide +kernel
theorem d2_34 : decode prog_100_method_3_code 34 = .ok (.putfield 26, 3) := by decide +kernel
theorem d2_37 : decode prog_100_method_3_code 37 = .ok (.return_, 1) := by decide +kernel
theorem pd0 : parseMethodDescriptor "()V" = some ⟨[], none⟩ := by decide +kernel
theorem pn1 : plainName "com/example/whereas/whereas/Scope" = true := by first | (simp [plainName, overriddenIn]; done) | decide +kernel
theorem ef2 (m : MethodId) (a1 : Addr) (p2 : Int32) (p3 : Int32) (p4 : Int32) (p5 : Int32) (a6 : Addr) (a7 : Addr) : entryFrame m #[(.ref a1), (.int p2), (.int p3), (.int p4), (.int p5), (.ref a6), (.ref a7)] 7 = (mkF m 0 #[.val (.ref a1), .val (.int p2), .val (.int p3), .val (.int p4), .val (.int p5), .val (.ref a6), .val (.ref a7)] []) := by first | (simp [entryFrame, mkF, argsToLocals, Value.category]; done) | rfl
def Q2 (Z : State) (a1 : Addr) (p2 : Int32) (p3 : Int32) (p4 : Int32) (p5 : Int32) (a6 : Addr) (a7 : Addr) (u_start_a1 : Value) (u_end_a1 : Value) (u_startColumn_a1 : Value) (u_endColumn_a1 : Value) (u_untoldStart_a1 : Value) (u_untoldEnd_a1 : Value) (h0 : Heap) (n0 : Nat) (v : Option Value) (h : Heap) (L : List Loc) : Prop := v = none ∧ Fr n0 L ∧ Keep h0 h [a1] ∧ Exa Z h a1 "com/example/whereas/whereas/Scope" ∧ Fld Z h a1 "com/example/whereas/whereas/Scope" "start" "I" (.int p2) ∧ Fld Z h a1 "com/example/whereas/whereas/Scope" "end" "I" (.int p3) ∧ Fld Z h a1 "com/example/whereas/whereas/Scope" "startColumn" "I" (.int p4) ∧ Fld Z h a1 "com/example/whereas/whereas/Scope" "endColumn" "I" (.int p5) ∧ Fld Z h a1 "com/example/whereas/whereas/Scope" "untoldStart" "Lcom/example/whereas/whereas/Untold;" (.ref a6) ∧ Fld Z h a1 "com/example/whereas/whereas/Scope" "untoldEnd" "Lcom/example/whereas/whereas/Untold;" (.ref a7)
set_option maxRecDepth 65536 in
set_option maxHeartbeats 40000000 in
theorem rm2 (l : Launch) (Z : State) (a0 : Array Value) (hw : ∀ d ∈ tables_1, d.before a0 Z = true) (ws : List Jvm.Cond) (a1 : Addr) (p2 : Int32) (p3 : Int32) (p4 : Int32) (p5 : Int32) (a6 : Addr) (a7 : Addr) (u_start_a1 : Value) (u_end_a1 : Value) (u_startColumn_a1 : Value) (u_endColumn_a1 : Value) (u_untoldStart_a1 : Value) (u_untoldEnd_a1 : Value) (h0 : Heap) (n0 : Nat) (Z0 : n0 ≤ h0.size) (E_a1 : Exa Z h0 a1 "com/example/whereas/whereas/Scope") (F_start_a1 : Fld Z h0 a1 "com/example/whereas/whereas/Scope" "start" "I" u_start_a1) (g_a1 : n0 ≤ a1) (F_end_a1 : Fld Z h0 a1 "com/example/whereas/whereas/Scope" "end" "I" u_end_a1) (F_startColumn_a1 : Fld Z h0 a1 "com/example/whereas/whereas/Scope" "startColumn" "I" u_startColumn_a1) (F_endColumn_a1 : Fld Z h0 a1 "com/example/whereas/whereas/Scope" "endColumn" "I" u_endColumn_a1) (F_untoldStart_a1 : Fld Z h0 a1 "com/example/whereas/whereas/Scope" "untoldStart" "Lcom/example/whereas/whereas/Untold;" u_untoldStart_a1) (F_untoldEnd_a1 : Fld Z h0 a1 "com/example/whereas/whereas/Scope" "untoldEnd" "Lcom/example/whereas/whereas/Untold;" u_untoldEnd_a1) :
    MetFree l (⟨"com/example/whereas/whereas/Scope", "<init>", "(IIIILcom/example/whereas/whereas/Untold;Lcom/example/whereas/whereas/Untold;)V"⟩ : MethodName) (head1 (Jvm.Cond.code (⟨"com/example/whereas/whereas/Scope", "<init>", "(IIIILcom/example/whereas/whereas/Untold;Lcom/example/whereas/whereas/Untold;)V"⟩ : MethodName) prog_100_method_3_code 7 none :: ws) ({ frames := 2, cells := 0, slots := 0, locals := 24 } : Room)) (fun a U => a = #[(.ref a1), (.int p2), (.int p3), (.int p4), (.int p5), (.ref a6), (.ref a7)] ∧ Z.Warmed39 U.vm ∧ U.heap = h0) (fun _ _ _ _ _ => True) (fun _ U o U' => ∃ v L, o = .returned v ∧ Q2 Z a1 p2 p3 p4 p5 a6 a7 u_start_a1 u_end_a1 u_startColumn_a1 u_endColumn_a1 u_untoldStart_a1 u_untoldEnd_a1 h0 n0 v U'.heap L ∧ FrameEnd U o U' L ({ frames := 2, cells := 0, slots := 0, locals := 24 } : Room).cells ({ frames := 2, cells := 0, slots := 0, locals := 24 } : Room).slots) := by
  refine MetFree.of_bodySF (plainFor_of_name pn1) hisR ?_
  intro p e s m args below meth c s₁ Bd hml0 hP hK
  obtain ⟨rfl, hZ, hh⟩ := hP
  have hx := Bd.exec
  have hby := Bd.bytes
  have hml : c.maxLocals = 7 := hml0
  have hown : s.vm.findClass "com/example/whereas/whereas/Scope" = some m.cls := findClass_of_methodNamed Bd.named
  have hnm := (name_of_methodNamed Bd.named Bd.method).1
  have X0 : Stand p l e ({ frames := 2, cells := 0, slots := 0, locals := 24 } : Room) s m #[(.ref a1), (.int p2), (.int p3), (.int p4), (.int p5), (.ref a6), (.ref a7)] below meth c s₁ [] 0 0 := Stand.of_body Bd
  have e0 : s₁.heap = h0 := by rw [← hh, Bd.state]; rfl
  have N0 := Fr.nil n0
  have pre0 : ∀ t, Steps p.tables e below (s₁.setTop (mkF m 0 #[.val (.ref a1), .val (.int p2), .val (.int p3), .val (.int p4), .val (.int p5), .val (.ref a6), .val (.ref a7)] [])) t → Steps p.tables e below (s₁.setTop (entryFrame m #[(.ref a1), (.int p2), (.int p3), (.int p4), (.int p5), (.ref a6), (.ref a7)] 7)) t := fun t k => castTop (ef2 m a1 p2 p3 p4 p5 a6 a7) k
  obtain ⟨_, _, ⟨T1, L1, k1, n1⟩, -, X1, ⟨Lc1, hQ1, l1, y1, z1⟩, st1⟩ := X0.specialBack hx (y := (⟨"java/lang/Record", "<init>", "()V"⟩ : MethodName)) rfl hown (mvT hZ (hw _ (List.mem_of_getElem? (i := 14) rfl))) (mvT hZ (hw _ (List.mem_of_getElem? (i := 15) rfl))) (mvT hZ (hw _ (List.mem_of_getElem? (i := 18) rfl))) (by decide) (backOf (W := 0) (rm3 l Z a0 hw [] a1  h0 n0 (Nat.le_trans Z0 (Keep.refl h0 [a1]).1)  ) hZ (hw _ (List.mem_of_getElem? (i := 18) rfl)) (hw _ (List.mem_of_getElem? (i := 17) rfl)) (by decide) (by decide)) (g := (mkF m 1 #[.val (.ref a1), .val (.int p2), .val (.int p3), .val (.int p4), .val (.int p5), .val (.ref a6), .val (.ref a7)] [(.ref a1)])) rfl (by rw [hml]; rfl) (Steps.refl _) (a := a1) (argsL := []) (rest := []) (lenOf pd0 rfl) rfl (by show 2 * 0 + _ ≤ _; exact Nat.le_of_eq rfl) (hb hby d2_1) (fun _ _ => ⟨rfl, e0, (by decide : 0 + 0 ≤ _), (by decide : 0 + 0 ≤ _)⟩)
  dsimp only [Pt.U, Pt.locs, Pt.cells, Pt.slots] at X1 l1 y1 z1 st1 hQ1
  subst l1 y1 z1
  obtain ⟨rfl, rfl, e1⟩ := hQ1
  have N1 := Fr.app N0 (Fr.nil n0)
  obtain ⟨T2, h2, X2, e2, W2, st2⟩ := putF X1 hx hZ hown (host := "") (Or.inl (hw _ (List.mem_of_getElem? (i := 22) rfl))) Via.refl e1 F_start_a1 E_a1 (Or.inr ⟨(hw _ (List.mem_of_getElem? (i := 23) rfl)), rfl, hnm⟩) (hw _ (List.mem_of_getElem? (i := 2) rfl)) (ty := .int) (by decide) rfl rfl (g := (mkF m 6 #[.val (.ref a1), .val (.int p2), .val (.int p3), .val (.int p4), .val (.int p5), .val (.ref a6), .val (.ref a7)] [(.int p2), (.ref a1)])) rfl rfl (hb hby d2_6)
  have Fw2 := F_start_a1.same W2
  have K2 : Keep h0 h2 [a1] := (Keep.refl h0 [a1]).wr W2 (Or.inl (List.mem_of_getElem? (i := 0) rfl))
  have N2 := Fr.snoc X2 N1 g_a1
  obtain ⟨T3, h3, X3, e3, W3, st3⟩ := putF X2 hx hZ hown (host := "") (Or.inl (hw _ (List.mem_of_getElem? (i := 24) rfl))) Via.refl e2 (F_end_a1.other W2 (Or.inr (slot_ne (Or.inr (hw _ (List.mem_of_getElem? (i := 25) rfl))) (Or.inr (hw _ (List.mem_of_getElem? (i := 23) rfl))) (by decide) (t := .int) (t' := .int) (by decide) (by decide)))) (E_a1.wr W2) (Or.inr ⟨(hw _ (List.mem_of_getElem? (i := 25) rfl)), rfl, hnm⟩) (hw _ (List.mem_of_getElem? (i := 2) rfl)) (ty := .int) (by decide) rfl rfl (g := (mkF m 11 #[.val (.ref a1), .val (.int p2), .val (.int p3), .val (.int p4), .val (.int p5), .val (.ref a6), .val (.ref a7)] [(.int p3), (.ref a1)])) rfl rfl (hb hby d2_11)
  have Fw3 := (F_end_a1.other W2 (Or.inr (slot_ne (Or.inr (hw _ (List.mem_of_getElem? (i := 25) rfl))) (Or.inr (hw _ (List.mem_of_getElem? (i := 23) rfl))) (by decide) (t := .int) (t' := .int) (by decide) (by decide)))).same W3
  have K3 : Keep h0 h3 [a1] := K2.wr W3 (Or.inl (List.mem_of_getElem? (i := 0) rfl))
  have N3 := Fr.snoc X3 N2 g_a1
  obtain ⟨T4, h4, X4, e4, W4, st4⟩ := putF X3 hx hZ hown (host := "") (Or.inl (hw _ (List.mem_of_getElem? (i := 26) rfl))) Via.refl e3 ((F_startColumn_a1.other W2 (Or.inr (slot_ne (Or.inr (hw _ (List.mem_of_getElem? (i := 27) rfl))) (Or.inr (hw _ (List.mem_of_getElem? (i := 23) rfl))) (by decide) (t := .int) (t' := .int) (by decide) (by decide)))).other W3 (Or.inr (slot_ne (Or.inr (hw _ (List.mem_of_getElem? (i := 27) rfl))) (Or.inr (hw _ (List.mem_of_getElem? (i := 25) rfl))) (by decide) (t := .int) (t' := .int) (by decide) (by decide)))) ((E_a1.wr W2).wr W3) (Or.inr ⟨(hw _ (List.mem_of_getElem? (i := 27) rfl)), rfl, hnm⟩) (hw _ (List.mem_of_getElem? (i := 2) rfl)) (ty := .int) (by decide) rfl rfl (g := (mkF m 16 #[.val (.ref a1), .val (.int p2), .val (.int p3), .val (.int p4), .val (.int p5), .val (.ref a6), .val (.ref a7)] [(.int p4), (.ref a1)])) rfl rfl (hb hby d2_16)
  have Fw4 := ((F_startColumn_a1.other W2 (Or.inr (slot_ne (Or.inr (hw _ (List.mem_of_getElem? (i := 27) rfl))) (Or.inr (hw _ (List.mem_of_getElem? (i := 23) rfl))) (by decide) (t := .int) (t' := .int) (by decide) (by decide)))).other W3 (Or.inr (slot_ne (Or.inr (hw _ (List.mem_of_getElem? (i := 27) rfl))) (Or.inr (hw _ (List.mem_of_getElem? (i := 25) rfl))) (by decide) (t := .int) (t' := .int) (by decide) (by decide)))).same W4
  have K4 : Keep h0 h4 [a1] := K3.wr W4 (Or.inl (List.mem_of_getElem? (i := 0) rfl))
  have N4 := Fr.snoc X4 N3 g_a1
  obtain ⟨T5, h5, X5, e5, W5, st5⟩ := putF X4 hx hZ hown (host := "") (Or.inl (hw _ (List.mem_of_getElem? (i := 28) rfl))) Via.refl e4 (((F_endColumn_a1.other W2 (Or.inr (slot_ne (Or.inr (hw _ (List.mem_of_getElem? (i := 29) rfl))) (Or.inr (hw _ (List.mem_of_getElem? (i := 23) rfl))) (by decide) (t := .int) (t' := .int) (by decide) (by decide)))).other W3 (Or.inr (slot_ne (Or.inr (hw _ (List.mem_of_getElem? (i := 29) rfl))) (Or.inr (hw _ (List.mem_of_getElem? (i := 25) rfl))) (by decide) (t := .int) (t' := .int) (by decide) (by decide)))).other W4 (Or.inr (slot_ne (Or.inr (hw _ (List.mem_of_getElem? (i := 29) rfl))) (Or.inr (hw _ (List.mem_of_getElem? (i := 27) rfl))) (by decide) (t := .int) (t' := .int) (by decide) (by decide)))) (((E_a1.wr W2).wr W3).wr W4) (Or.inr ⟨(hw _ (List.mem_of_getElem? (i := 29) rfl)), rfl, hnm⟩) (hw _ (List.mem_of_getElem? (i := 2) rfl)) (ty := .int) (by decide) rfl rfl (g := (mkF m 22 #[.val (.ref a1), .val (.int p2), .val (.int p3), .val (.int p4), .val (.int p5), .val (.ref a6), .val (.ref a7)] [(.int p5), (.ref a1)])) rfl rfl (hb hby d2_22)
  have Fw5 := (((F_endColumn_a1.other W2 (Or.inr (slot_ne (Or.inr (hw _ (List.mem_of_getElem? (i := 29) rfl))) (Or.inr (hw _ (List.mem_of_getElem? (i := 23) rfl))) (by decide) (t := .int) (t' := .int) (by decide) (by decide)))).other W3 (Or.inr (slot_ne (Or.inr (hw _ (List.mem_of_getElem? (i := 29) rfl))) (Or.inr (hw _ (List.mem_of_getElem? (i := 25) rfl))) (by decide) (t := .int) (t' := .int) (by decide) (by decide)))).other W4 (Or.inr (slot_ne (Or.inr (hw _ (List.mem_of_getElem? (i := 29) rfl))) (Or.inr (hw _ (List.mem_of_getElem? (i := 27) rfl))) (by decide) (t := .int) (t' := .int) (by decide) (by decide)))).same W5
  have K5 : Keep h0 h5 [a1] := K4.wr W5 (Or.inl (List.mem_of_getElem? (i := 0) rfl))
  have N5 := Fr.snoc X5 N4 g_a1
  obtain ⟨T6, h6, X6, e6, W6, st6⟩ := putF X5 hx hZ hown (host := "") (Or.inl (hw _ (List.mem_of_getElem? (i := 30) rfl))) Via.refl e5 ((((F_untoldStart_a1.other W2 (Or.inr (slot_ne (Or.inr (hw _ (List.mem_of_getElem? (i := 31) rfl))) (Or.inr (hw _ (List.mem_of_getElem? (i := 23) rfl))) (by decide) (t := (.object "com/example/whereas/whereas/Untold")) (t' := .int) (by decide) (by decide)))).other W3 (Or.inr (slot_ne (Or.inr (hw _ (List.mem_of_getElem? (i := 31) rfl))) (Or.inr (hw _ (List.mem_of_getElem? (i := 25) rfl))) (by decide) (t := (.object "com/example/whereas/whereas/Untold")) (t' := .int) (by decide) (by decide)))).other W4 (Or.inr (slot_ne (Or.inr (hw _ (List.mem_of_getElem? (i := 31) rfl))) (Or.inr (hw _ (List.mem_of_getElem? (i := 27) rfl))) (by decide) (t := (.object "com/example/whereas/whereas/Untold")) (t' := .int) (by decide) (by decide)))).other W5 (Or.inr (slot_ne (Or.inr (hw _ (List.mem_of_getElem? (i := 31) rfl))) (Or.inr (hw _ (List.mem_of_getElem? (i := 29) rfl))) (by decide) (t := (.object "com/example/whereas/whereas/Untold")) (t' := .int) (by decide) (by decide)))) ((((E_a1.wr W2).wr W3).wr W4).wr W5) (Or.inr ⟨(hw _ (List.mem_of_getElem? (i := 31) rfl)), rfl, hnm⟩) (hw _ (List.mem_of_getElem? (i := 2) rfl)) (ty := (.object "com/example/whereas/whereas/Untold")) (by decide) rfl rfl (g := (mkF m 28 #[.val (.ref a1), .val (.int p2), .val (.int p3), .val (.int p4), .val (.int p5), .val (.ref a6), .val (.ref a7)] [(.ref a6), (.ref a1)])) rfl rfl (hb hby d2_28)
  have Fw6 := ((((F_untoldStart_a1.other W2 (Or.inr (slot_ne (Or.inr (hw _ (List.mem_of_getElem? (i := 31) rfl))) (Or.inr (hw _ (List.mem_of_getElem? (i := 23) rfl))) (by decide) (t := (.object "com/example/whereas/whereas/Untold")) (t' := .int) (by decide) (by decide)))).other W3 (Or.inr (slot_ne (Or.inr (hw _ (List.mem_of_getElem? (i := 31) rfl))) (Or.inr (hw _ (List.mem_of_getElem? (i := 25) rfl))) (by decide) (t := (.object "com/example/whereas/whereas/Untold")) (t' := .int) (by decide) (by decide)))).other W4 (Or.inr (slot_ne (Or.inr (hw _ (List.mem_of_getElem? (i := 31) rfl))) (Or.inr (hw _ (List.mem_of_getElem? (i := 27) rfl))) (by decide) (t := (.object "com/example/whereas/whereas/Untold")) (t' := .int) (by decide) (by decide)))).other W5 (Or.inr (slot_ne (Or.inr (hw _ (List.mem_of_getElem? (i := 31) rfl))) (Or.inr (hw _ (List.mem_of_getElem? (i := 29) rfl))) (by decide) (t := (.object "com/example/whereas/whereas/Untold")) (t' := .int) (by decide) (by decide)))).same W6
  have K6 : Keep h0 h6 [a1] := K5.wr W6 (Or.inl (List.mem_of_getElem? (i := 0) rfl))
  have N6 := Fr.snoc X6 N5 g_a1
  obtain ⟨T7, h7, X7, e7, W7, st7⟩ := putF X6 hx hZ hown (host := "") (Or.inl (hw _ (List.mem_of_getElem? (i := 32) rfl))) Via.refl e6 (((((F_untoldEnd_a1.other W2 (Or.inr (slot_ne (Or.inr (hw _ (List.mem_of_getElem? (i := 33) rfl))) (Or.inr (hw _ (List.mem_of_getElem? (i := 23) rfl))) (by decide) (t := (.object "com/example/whereas/whereas/Untold")) (t' := .int) (by decide) (by decide)))).other W3 (Or.inr (slot_ne (Or.inr (hw _ (List.mem_of_getElem? (i := 33) rfl))) (Or.inr (hw _ (List.mem_of_getElem? (i := 25) rfl))) (by decide) (t := (.object "com/example/whereas/whereas/Untold")) (t' := .int) (by decide) (by decide)))).other W4 (Or.inr (slot_ne (Or.inr (hw _ (List.mem_of_getElem? (i := 33) rfl))) (Or.inr (hw _ (List.mem_of_getElem? (i := 27) rfl))) (by decide) (t := (.object "com/example/whereas/whereas/Untold")) (t' := .int) (by decide) (by decide)))).other W5 (Or.inr (slot_ne (Or.inr (hw _ (List.mem_of_getElem? (i := 33) rfl))) (Or.inr (hw _ (List.mem_of_getElem? (i := 29) rfl))) (by decide) (t := (.object "com/example/whereas/whereas/Untold")) (t' := .int) (by decide) (by decide)))).other W6 (Or.inr (slot_ne (Or.inr (hw _ (List.mem_of_getElem? (i := 33) rfl))) (Or.inr (hw _ (List.mem_of_getElem? (i := 31) rfl))) (by decide) (t := (.object "com/example/whereas/whereas/Untold")) (t' := (.object "com/example/whereas/whereas/Untold")) (by decide) (by decide)))) (((((E_a1.wr W2).wr W3).wr W4).wr W5).wr W6) (Or.inr ⟨(hw _ (List.mem_of_getElem? (i := 33) rfl)), rfl, hnm⟩) (hw _ (List.mem_of_getElem? (i := 2) rfl)) (ty := (.object "com/example/whereas/whereas/Untold")) (by decide) rfl rfl (g := (mkF m 34 #[.val (.ref a1), .val (.int p2), .val (.int p3), .val (.int p4), .val (.int p5), .val (.ref a6), .val (.ref a7)] [(.ref a7), (.ref a1)])) rfl rfl (hb hby d2_34)
  have Fw7 := (((((F_untoldEnd_a1.other W2 (Or.inr (slot_ne (Or.inr (hw _ (List.mem_of_getElem? (i := 33) rfl))) (Or.inr (hw _ (List.mem_of_getElem? (i := 23) rfl))) (by decide) (t := (.object "com/example/whereas/whereas/Untold")) (t' := .int) (by decide) (by decide)))).other W3 (Or.inr (slot_ne (Or.inr (hw _ (List.mem_of_getElem? (i := 33) rfl))) (Or.inr (hw _ (List.mem_of_getElem? (i := 25) rfl))) (by decide) (t := (.object "com/example/whereas/whereas/Untold")) (t' := .int) (by decide) (by decide)))).other W4 (Or.inr (slot_ne (Or.inr (hw _ (List.mem_of_getElem? (i := 33) rfl))) (Or.inr (hw _ (List.mem_of_getElem? (i := 27) rfl))) (by decide) (t := (.object "com/example/whereas/whereas/Untold")) (t' := .int) (by decide) (by decide)))).other W5 (Or.inr (slot_ne (Or.inr (hw _ (List.mem_of_getElem? (i := 33) rfl))) (Or.inr (hw _ (List.mem_of_getElem? (i := 29) rfl))) (by decide) (t := (.object "com/example/whereas/whereas/Untold")) (t' := .int) (by decide) (by decide)))).other W6 (Or.inr (slot_ne (Or.inr (hw _ (List.mem_of_getElem? (i := 33) rfl))) (Or.inr (hw _ (List.mem_of_getElem? (i := 31) rfl))) (by decide) (t := (.object "com/example/whereas/whereas/Untold")) (t' := (.object "com/example/whereas/whereas/Untold")) (by decide) (by decide)))).same W7
  have K7 : Keep h0 h7 [a1] := K6.wr W7 (Or.inl (List.mem_of_getElem? (i := 0) rfl))
  have N7 := Fr.snoc X7 N6 g_a1
  obtain ⟨fs, hr, hrun, hended, hW, hsame⟩ := X7.leave (v := none) (fun _ => rfl)
  refine ⟨_, _, pre0 _ ?_, hrun, hended, _, _, rfl, ?_, ⟨_, rfl⟩, hW, hsame.mono (by decide) (by decide)⟩
  · show Steps p.tables e below (s₁.setTop (mkF m 0 #[.val (.ref a1), .val (.int p2), .val (.int p3), .val (.int p4), .val (.int p5), .val (.ref a6), .val (.ref a7)] [])) _
    refine XS.aloadN X0.here hx rfl (hb hby d2_0) rfl rfl ?_
    show Steps p.tables e below (s₁.setTop (mkF m 1 #[.val (.ref a1), .val (.int p2), .val (.int p3), .val (.int p4), .val (.int p5), .val (.ref a6), .val (.ref a7)] [(.ref a1)])) _
    refine st1.trans ?_
    show Steps p.tables e below (T1.setTop (mkF m 4 #[.val (.ref a1), .val (.int p2), .val (.int p3), .val (.int p4), .val (.int p5), .val (.ref a6), .val (.ref a7)] [])) _
    refine XS.aloadN X1.here hx rfl (hb hby d2_4) rfl rfl ?_
    show Steps p.tables e below (T1.setTop (mkF m 5 #[.val (.ref a1), .val (.int p2), .val (.int p3), .val (.int p4), .val (.int p5), .val (.ref a6), .val (.ref a7)] [(.ref a1)])) _
    refine XS.iloadN X1.here hx rfl (hb hby d2_5) rfl ?_
    show Steps p.tables e below (T1.setTop (mkF m 6 #[.val (.ref a1), .val (.int p2), .val (.int p3), .val (.int p4), .val (.int p5), .val (.ref a6), .val (.ref a7)] [(.int p2), (.ref a1)])) _
    refine st2 _ ?_
    show Steps p.tables e below (T2.setTop (mkF m 9 #[.val (.ref a1), .val (.int p2), .val (.int p3), .val (.int p4), .val (.int p5), .val (.ref a6), .val (.ref a7)] [])) _
    refine XS.aloadN X2.here hx rfl (hb hby d2_9) rfl rfl ?_
    show Steps p.tables e below (T2.setTop (mkF m 10 #[.val (.ref a1), .val (.int p2), .val (.int p3), .val (.int p4), .val (.int p5), .val (.ref a6), .val (.ref a7)] [(.ref a1)])) _
    refine XS.iloadN X2.here hx rfl (hb hby d2_10) rfl ?_
    show Steps p.tables e below (T2.setTop (mkF m 11 #[.val (.ref a1), .val (.int p2), .val (.int p3), .val (.int p4), .val (.int p5), .val (.ref a6), .val (.ref a7)] [(.int p3), (.ref a1)])) _
    refine st3 _ ?_
    show Steps p.tables e below (T3.setTop (mkF m 14 #[.val (.ref a1), .val (.int p2), .val (.int p3), .val (.int p4), .val (.int p5), .val (.ref a6), .val (.ref a7)] [])) _
    refine XS.aloadN X3.here hx rfl (hb hby d2_14) rfl rfl ?_
    show Steps p.tables e below (T3.setTop (mkF m 15 #[.val (.ref a1), .val (.int p2), .val (.int p3), .val (.int p4), .val (.int p5), .val (.ref a6), .val (.ref a7)] [(.ref a1)])) _
    refine XS.iloadN X3.here hx rfl (hb hby d2_15) rfl ?_
    show Steps p.tables e below (T3.setTop (mkF m 16 #[.val (.ref a1), .val (.int p2), .val (.int p3), .val (.int p4), .val (.int p5), .val (.ref a6), .val (.ref a7)] [(.int p4), (.ref a1)])) _
    refine st4 _ ?_
    show Steps p.tables e below (T4.setTop (mkF m 19 #[.val (.ref a1), .val (.int p2), .val (.int p3), .val (.int p4), .val (.int p5), .val (.ref a6), .val (.ref a7)] [])) _
    refine XS.aloadN X4.here hx rfl (hb hby d2_19) rfl rfl ?_
    show Steps p.tables e below (T4.setTop (mkF m 20 #[.val (.ref a1), .val (.int p2), .val (.int p3), .val (.int p4), .val (.int p5), .val (.ref a6), .val (.ref a7)] [(.ref a1)])) _
    refine XS.iload X4.here hx rfl (hb hby d2_20) rfl ?_
    show Steps p.tables e below (T4.setTop (mkF m 22 #[.val (.ref a1), .val (.int p2), .val (.int p3), .val (.int p4), .val (.int p5), .val (.ref a6), .val (.ref a7)] [(.int p5), (.ref a1)])) _
    refine st5 _ ?_
    show Steps p.tables e below (T5.setTop (mkF m 25 #[.val (.ref a1), .val (.int p2), .val (.int p3), .val (.int p4), .val (.int p5), .val (.ref a6), .val (.ref a7)] [])) _
    refine XS.aloadN X5.here hx rfl (hb hby d2_25) rfl rfl ?_
    show Steps p.tables e below (T5.setTop (mkF m 26 #[.val (.ref a1), .val (.int p2), .val (.int p3), .val (.int p4), .val (.int p5), .val (.ref a6), .val (.ref a7)] [(.ref a1)])) _
    refine XS.aload X5.here hx rfl (hb hby d2_26) rfl rfl ?_
    show Steps p.tables e below (T5.setTop (mkF m 28 #[.val (.ref a1), .val (.int p2), .val (.int p3), .val (.int p4), .val (.int p5), .val (.ref a6), .val (.ref a7)] [(.ref a6), (.ref a1)])) _
    refine st6 _ ?_
    show Steps p.tables e below (T6.setTop (mkF m 31 #[.val (.ref a1), .val (.int p2), .val (.int p3), .val (.int p4), .val (.int p5), .val (.ref a6), .val (.ref a7)] [])) _
    refine XS.aloadN X6.here hx rfl (hb hby d2_31) rfl rfl ?_
    show Steps p.tables e below (T6.setTop (mkF m 32 #[.val (.ref a1), .val (.int p2), .val (.int p3), .val (.int p4), .val (.int p5), .val (.ref a6), .val (.ref a7)] [(.ref a1)])) _
    refine XS.aload X6.here hx rfl (hb hby d2_32) rfl rfl ?_
    show Steps p.tables e below (T6.setTop (mkF m 34 #[.val (.ref a1), .val (.int p2), .val (.int p3), .val (.int p4), .val (.int p5), .val (.ref a6), .val (.ref a7)] [(.ref a7), (.ref a1)])) _
    refine st7 _ ?_
    show Steps p.tables e below (T7.setTop (mkF m 37 #[.val (.ref a1), .val (.int p2), .val (.int p3), .val (.int p4), .val (.int p5), .val (.ref a6), .val (.ref a7)] [])) _
    exact X7.returnOut hx Bd.returns (hb hby d2_37) hr
  · show Q2 Z a1 p2 p3 p4 p5 a6 a7 u_start_a1 u_end_a1 u_startColumn_a1 u_endColumn_a1 u_untoldStart_a1 u_untoldEnd_a1 h0 n0 _ T7.heap _
    rw [e7]
    exact ⟨rfl, N7, K7, ((((((E_a1.wr W2).wr W3).wr W4).wr W5).wr W6).wr W7), (((((Fw2.other W3 (Or.inr (slot_ne (Or.inr (hw _ (List.mem_of_getElem? (i := 23) rfl))) (Or.inr (hw _ (List.mem_of_getElem? (i := 25) rfl))) (by decide) (t := .int) (t' := .int) (by decide) (by decide)))).other W4 (Or.inr (slot_ne (Or.inr (hw _ (List.mem_of_getElem? (i := 23) rfl))) (Or.inr (hw _ (List.mem_of_getElem? (i := 27) rfl))) (by decide) (t := .int) (t' := .int) (by decide) (by decide)))).other W5 (Or.inr (slot_ne (Or.inr (hw _ (List.mem_of_getElem? (i := 23) rfl))) (Or.inr (hw _ (List.mem_of_getElem? (i := 29) rfl))) (by decide) (t := .int) (t' := .int) (by decide) (by decide)))).other W6 (Or.inr (slot_ne (Or.inr (hw _ (List.mem_of_getElem? (i := 23) rfl))) (Or.inr (hw _ (List.mem_of_getElem? (i := 31) rfl))) (by decide) (t := .int) (t' := (.object "com/example/whereas/whereas/Untold")) (by decide) (by decide)))).other W7 (Or.inr (slot_ne (Or.inr (hw _ (List.mem_of_getElem? (i := 23) rfl))) (Or.inr (hw _ (List.mem_of_getElem? (i := 33) rfl))) (by decide) (t := .int) (t' := (.object "com/example/whereas/whereas/Untold")) (by decide) (by decide)))), ((((Fw3.other W4 (Or.inr (slot_ne (Or.inr (hw _ (List.mem_of_getElem? (i := 25) rfl))) (Or.inr (hw _ (List.mem_of_getElem? (i := 27) rfl))) (by decide) (t := .int) (t' := .int) (by decide) (by decide)))).other W5 (Or.inr (slot_ne (Or.inr (hw _ (List.mem_of_getElem? (i := 25) rfl))) (Or.inr (hw _ (List.mem_of_getElem? (i := 29) rfl))) (by decide) (t := .int) (t' := .int) (by decide) (by decide)))).other W6 (Or.inr (slot_ne (Or.inr (hw _ (List.mem_of_getElem? (i := 25) rfl))) (Or.inr (hw _ (List.mem_of_getElem? (i := 31) rfl))) (by decide) (t := .int) (t' := (.object "com/example/whereas/whereas/Untold")) (by decide) (by decide)))).other W7 (Or.inr (slot_ne (Or.inr (hw _ (List.mem_of_getElem? (i := 25) rfl))) (Or.inr (hw _ (List.mem_of_getElem? (i := 33) rfl))) (by decide) (t := .int) (t' := (.object "com/example/whereas/whereas/Untold")) (by decide) (by decide)))), (((Fw4.other W5 (Or.inr (slot_ne (Or.inr (hw _ (List.mem_of_getElem? (i := 27) rfl))) (Or.inr (hw _ (List.mem_of_getElem? (i := 29) rfl))) (by decide) (t := .int) (t' := .int) (by decide) (by decide)))).other W6 (Or.inr (slot_ne (Or.inr (hw _ (List.mem_of_getElem? (i := 27) rfl))) (Or.inr (hw _ (List.mem_of_getElem? (i := 31) rfl))) (by decide) (t := .int) (t' := (.object "com/example/whereas/whereas/Untold")) (by decide) (by decide)))).other W7 (Or.inr (slot_ne (Or.inr (hw _ (List.mem_of_getElem? (i := 27) rfl))) (Or.inr (hw _ (List.mem_of_getElem? (i := 33) rfl))) (by decide) (t := .int) (t' := (.object "com/example/whereas/whereas/Untold")) (by decide) (by decide)))), ((Fw5.other W6 (Or.inr (slot_ne (Or.inr (hw _ (List.mem_of_getElem? (i := 29) rfl))) (Or.inr (hw _ (List.mem_of_getElem? (i := 31) rfl))) (by decide) (t := .int) (t' := (.object "com/example/whereas/whereas/Untold")) (by decide) (by decide)))).other W7 (Or.inr (slot_ne (Or.inr (hw _ (List.mem_of_getElem? (i := 29) rfl))) (Or.inr (hw _ (List.mem_of_getElem? (i := 33) rfl))) (by decide) (t := .int) (t' := (.object "com/example/whereas/whereas/Untold")) (by decide) (by decide)))), (Fw6.other W7 (Or.inr (slot_ne (Or.inr (hw _ (List.mem_of_getElem? (i := 31) rfl))) (Or.inr (hw _ (List.mem_of_getElem? (i := 33) rfl))) (by decide) (t := (.object "com/example/whereas/whereas/Untold")) (t' := (.object "com/example/whereas/whereas/Untold")) (by decide) (by decide)))), Fw7⟩
theorem d1_0 : decode method_2_code 0 = .ok (.iload_n 0, 1) := by decide +kernel
theorem d1_1 : decode method_2_code 1 = .ok (.ifCond .ne 7, 3) := by decide +kernel
theorem d1_4 : decode method_2_code 4 = .ok (.getstatic 7, 3) := by decide +kernel
theorem d1_7 : decode method_2_code 7 = .ok (.areturn, 1) := by decide +kernel
theorem d1_8 : decode method_2_code 8 = .ok (.iload_n 0, 1) := by decide +kernel
theorem d1_9 : decode method_2_code 9 = .ok (.iconst 1, 1) := by decide +kernel
theorem d1_10 : decode method_2_code 10 = .ok (.if_icmp .ne 7, 3) := by decide +kernel
theorem d1_13 : decode method_2_code 13 = .ok (.getstatic 13, 3) := by decide +kernel
theorem d1_16 : decode method_2_code 16 = .ok (.areturn, 1) := by decide +kernel
theorem d1_17 : decode method_2_code 17 = .ok (.iload_n 0, 1) := by decide +kernel
theorem d1_18 : decode method_2_code 18 = .ok (.iconst 2, 1) := by decide +kernel
theorem d1_19 : decode method_2_code 19 = .ok (.if_icmp .ne 7, 3) := by decide +kernel
theorem d1_22 : decode method_2_code 22 = .ok (.getstatic 16, 3) := by decide +kernel
theorem d1_25 : decode method_2_code 25 = .ok (.areturn, 1) := by decide +kernel
theorem d1_26 : decode method_2_code 26 = .ok (.iload_n 0, 1) := by decide +kernel
theorem d1_27 : decode method_2_code 27 = .ok (.iconst 3, 1) := by decide +kernel
theorem d1_28 : decode method_2_code 28 = .ok (.if_icmp .ne 7, 3) := by decide +kernel
theorem d1_31 : decode method_2_code 31 = .ok (.getstatic 19, 3) := by decide +kernel
theorem d1_34 : decode method_2_code 34 = .ok (.areturn, 1) := by decide +kernel
theorem d1_35 : decode method_2_code 35 = .ok (.getstatic 22, 3) := by decide +kernel
theorem d1_38 : decode method_2_code 38 = .ok (.areturn, 1) := by decide +kernel
def res1 (p1 : Int32) (w_NOTHING : Addr) (w_HEADING : Addr) (w_LIST_END : Addr) (w_FULL_STOP : Addr) (w_INITIAL : Addr) : Addr := if p1 = (0 : Int32) then w_NOTHING else if p1 = (1 : Int32) then w_HEADING else if p1 = (2 : Int32) then w_LIST_END else if p1 = (3 : Int32) then w_FULL_STOP else w_INITIAL
theorem pn2 : plainName "com/example/whereas/whereas/ScopeReachesPinLaw" = true := by first | (simp [plainName, overriddenIn]; done) | decide +kernel
theorem ef1 (m : MethodId) (p1 : Int32) : entryFrame m #[(.int p1)] 1 = (mkF m 0 #[.val (.int p1)] []) := by first | (simp [entryFrame, mkF, argsToLocals, Value.category]; done) | rfl
def Q1 (Z : State) (p1 : Int32) (w_NOTHING : Addr) (w_HEADING : Addr) (w_LIST_END : Addr) (w_FULL_STOP : Addr) (w_INITIAL : Addr) (h0 : Heap) (n0 : Nat) (v : Option Value) (h : Heap) (L : List Loc) : Prop := v = some (.ref (res1 p1 w_NOTHING w_HEADING w_LIST_END w_FULL_STOP w_INITIAL)) ∧ L = [] ∧ h = h0
set_option maxRecDepth 65536 in
set_option maxHeartbeats 40000000 in
theorem rm1 (l : Launch) (Z : State) (a0 : Array Value) (hw : ∀ d ∈ tables_1, d.before a0 Z = true) (ws : List Jvm.Cond) (p1 : Int32) (w_NOTHING : Addr) (w_HEADING : Addr) (w_LIST_END : Addr) (w_FULL_STOP : Addr) (w_INITIAL : Addr) (h0 : Heap) (n0 : Nat) (Z0 : n0 ≤ h0.size) (S_NOTHING : Sta Z h0 "com/example/whereas/whereas/Untold" "NOTHING" "Lcom/example/whereas/whereas/Untold;" (.ref w_NOTHING)) (S_HEADING : Sta Z h0 "com/example/whereas/whereas/Untold" "HEADING" "Lcom/example/whereas/whereas/Untold;" (.ref w_HEADING)) (S_LIST_END : Sta Z h0 "com/example/whereas/whereas/Untold" "LIST_END" "Lcom/example/whereas/whereas/Untold;" (.ref w_LIST_END)) (S_FULL_STOP : Sta Z h0 "com/example/whereas/whereas/Untold" "FULL_STOP" "Lcom/example/whereas/whereas/Untold;" (.ref w_FULL_STOP)) (S_INITIAL : Sta Z h0 "com/example/whereas/whereas/Untold" "INITIAL" "Lcom/example/whereas/whereas/Untold;" (.ref w_INITIAL)) :
    MetFree l (⟨"com/example/whereas/whereas/ScopeReachesPinLaw", "untold", "(I)Lcom/example/whereas/whereas/Untold;"⟩ : MethodName) (head1 (Jvm.Cond.code (⟨"com/example/whereas/whereas/ScopeReachesPinLaw", "untold", "(I)Lcom/example/whereas/whereas/Untold;"⟩ : MethodName) method_2_code 1 (some (.object "com/example/whereas/whereas/Untold")) :: ws) ({ frames := 0, cells := 0, slots := 0, locals := 0 } : Room)) (fun a U => a = #[(.int p1)] ∧ Z.Warmed39 U.vm ∧ U.heap = h0) (fun _ _ _ _ _ => True) (fun _ U o U' => ∃ v L, o = .returned v ∧ Q1 Z p1 w_NOTHING w_HEADING w_LIST_END w_FULL_STOP w_INITIAL h0 n0 v U'.heap L ∧ FrameEnd U o U' L ({ frames := 0, cells := 0, slots := 0, locals := 0 } : Room).cells ({ frames := 0, cells := 0, slots := 0, locals := 0 } : Room).slots) := by
  refine MetFree.of_bodySF (plainFor_of_name pn2) hisR ?_
  intro p e s m args below meth c s₁ Bd hml0 hP hK
  obtain ⟨rfl, hZ, hh⟩ := hP
  have hx := Bd.exec
  have hby := Bd.bytes
  have hml : c.maxLocals = 1 := hml0
  have hown : s.vm.findClass "com/example/whereas/whereas/ScopeReachesPinLaw" = some m.cls := findClass_of_methodNamed Bd.named
  have hnm := (name_of_methodNamed Bd.named Bd.method).1
  have X0 : Stand p l e ({ frames := 0, cells := 0, slots := 0, locals := 0 } : Room) s m #[(.int p1)] below meth c s₁ [] 0 0 := Stand.of_body Bd
  have e0 : s₁.heap = h0 := by rw [← hh, Bd.state]; rfl
  have N0 := Fr.nil n0
  have pre0 : ∀ t, Steps p.tables e below (s₁.setTop (mkF m 0 #[.val (.int p1)] [])) t → Steps p.tables e below (s₁.setTop (entryFrame m #[(.int p1)] 1)) t := fun t k => castTop (ef1 m p1) k
  have pre1 : ∀ t, Steps p.tables e below (s₁.setTop (mkF m 1 #[.val (.int p1)] [(.int p1)])) t → Steps p.tables e below (s₁.setTop (entryFrame m #[(.int p1)] 1)) t := by
    intro t kt
    refine pre0 _ ?_
    show Steps p.tables e below (s₁.setTop (mkF m 0 #[.val (.int p1)] [])) _
    refine XS.iloadN X0.here hx rfl (hb hby d1_0) rfl ?_
    exact kt
  by_cases hc1_2 : p1 = (0 : Int32)
  · obtain ⟨T3, X3, e3, st3⟩ := getS2 X0 hx hZ hown (host := "") (Or.inl (hw _ (List.mem_of_getElem? (i := 8) rfl))) Via.refl e0 S_NOTHING (g := (mkF m 4 #[.val (.int p1)] [])) rfl (hb hby d1_4)
    obtain ⟨fs, hr, hrun, hended, hW, hsame⟩ := X3.leave (v := some (.ref w_NOTHING)) (fun h => by rw [Bd.returns] at h; cases h)
    refine ⟨_, _, pre1 _ ?_, hrun, hended, _, _, rfl, ?_, ⟨_, rfl⟩, hW, hsame.mono (by decide) (by decide)⟩
    · show Steps p.tables e below (s₁.setTop (mkF m 1 #[.val (.int p1)] [(.int p1)])) _
      refine XS.ifNo X0.here hx rfl (hb hby d1_1) rfl ((if0 _ _).trans (teq hc1_2).2) ?_
      show Steps p.tables e below (s₁.setTop (mkF m 4 #[.val (.int p1)] [])) _
      refine st3 _ ?_
      show Steps p.tables e below (T3.setTop (mkF m 7 #[.val (.int p1)] [(.ref w_NOTHING)])) _
      exact retOut X3 hx Bd.returns rfl (Or.inr (Or.inr (Or.inr (Or.inr ⟨rfl, rfl, rfl⟩)))) (hb hby d1_7) hr
    · show Q1 Z p1 w_NOTHING w_HEADING w_LIST_END w_FULL_STOP w_INITIAL h0 n0 _ T3.heap _
      rw [e3]
      exact ⟨by rw [res1, if_pos hc1_2], rfl, rfl⟩
  · have pre4 : ∀ t, Steps p.tables e below (s₁.setTop (mkF m 10 #[.val (.int p1)] [(.int (1 : Int32)), (.int p1)])) t → Steps p.tables e below (s₁.setTop (entryFrame m #[(.int p1)] 1)) t := by
      intro t kt
      refine pre1 _ ?_
      show Steps p.tables e below (s₁.setTop (mkF m 1 #[.val (.int p1)] [(.int p1)])) _
      refine XS.ifYes X0.here hx rfl (pc0 := 1) (pc' := 8) rfl (hb hby d1_1) rfl ((if0 _ _).trans (feq hc1_2).2) (by decide) (by decide) ?_
      show Steps p.tables e below (s₁.setTop (mkF m 8 #[.val (.int p1)] [])) _
      refine XS.iloadN X0.here hx rfl (hb hby d1_8) rfl ?_
      show Steps p.tables e below (s₁.setTop (mkF m 9 #[.val (.int p1)] [(.int p1)])) _
      refine XS.iconst X0.here hx rfl (hb hby d1_9) ?_
      exact kt
    by_cases hc10_5 : p1 = (1 : Int32)
    · obtain ⟨T6, X6, e6, st6⟩ := getS2 X0 hx hZ hown (host := "") (Or.inl (hw _ (List.mem_of_getElem? (i := 34) rfl))) Via.refl e0 S_HEADING (g := (mkF m 13 #[.val (.int p1)] [])) rfl (hb hby d1_13)
      obtain ⟨fs, hr, hrun, hended, hW, hsame⟩ := X6.leave (v := some (.ref w_HEADING)) (fun h => by rw [Bd.returns] at h; cases h)
      refine ⟨_, _, pre4 _ ?_, hrun, hended, _, _, rfl, ?_, ⟨_, rfl⟩, hW, hsame.mono (by decide) (by decide)⟩
      · show Steps p.tables e below (s₁.setTop (mkF m 10 #[.val (.int p1)] [(.int (1 : Int32)), (.int p1)])) _
        refine XS.icmpNo X0.here hx rfl (hb hby d1_10) rfl (teq hc10_5).2 ?_
        show Steps p.tables e below (s₁.setTop (mkF m 13 #[.val (.int p1)] [])) _
        refine st6 _ ?_
        show Steps p.tables e below (T6.setTop (mkF m 16 #[.val (.int p1)] [(.ref w_HEADING)])) _
        exact retOut X6 hx Bd.returns rfl (Or.inr (Or.inr (Or.inr (Or.inr ⟨rfl, rfl, rfl⟩)))) (hb hby d1_16) hr
      · show Q1 Z p1 w_NOTHING w_HEADING w_LIST_END w_FULL_STOP w_INITIAL h0 n0 _ T6.heap _
        rw [e6]
        exact ⟨by rw [res1, if_neg hc1_2, if_pos hc10_5], rfl, rfl⟩
    · have pre7 : ∀ t, Steps p.tables e below (s₁.setTop (mkF m 19 #[.val (.int p1)] [(.int (2 : Int32)), (.int p1)])) t → Steps p.tables e below (s₁.setTop (entryFrame m #[(.int p1)] 1)) t := by
        intro t kt
        refine pre4 _ ?_
        show Steps p.tables e below (s₁.setTop (mkF m 10 #[.val (.int p1)] [(.int (1 : Int32)), (.int p1)])) _
        refine XS.icmpYes X0.here hx rfl (pc0 := 10) (pc' := 17) rfl (hb hby d1_10) rfl (feq hc10_5).2 (by decide) (by decide) ?_
        show Steps p.tables e below (s₁.setTop (mkF m 17 #[.val (.int p1)] [])) _
        refine XS.iloadN X0.here hx rfl (hb hby d1_17) rfl ?_
        show Steps p.tables e below (s₁.setTop (mkF m 18 #[.val (.int p1)] [(.int p1)])) _
        refine XS.iconst X0.here hx rfl (hb hby d1_18) ?_
        exact kt
      by_cases hc19_8 : p1 = (2 : Int32)
      · obtain ⟨T9, X9, e9, st9⟩ := getS2 X0 hx hZ hown (host := "") (Or.inl (hw _ (List.mem_of_getElem? (i := 46) rfl))) Via.refl e0 S_LIST_END (g := (mkF m 22 #[.val (.int p1)] [])) rfl (hb hby d1_22)
        obtain ⟨fs, hr, hrun, hended, hW, hsame⟩ := X9.leave (v := some (.ref w_LIST_END)) (fun h => by rw [Bd.returns] at h; cases h)
        refine ⟨_, _, pre7 _ ?_, hrun, hended, _, _, rfl, ?_, ⟨_, rfl⟩, hW, hsame.mono (by decide) (by decide)⟩
        · show Steps p.tables e below (s₁.setTop (mkF m 19 #[.val (.int p1)] [(.int (2 : Int32)), (.int p1)])) _
          refine XS.icmpNo X0.here hx rfl (hb hby d1_19) rfl (teq hc19_8).2 ?_
          show Steps p.tables e below (s₁.setTop (mkF m 22 #[.val (.int p1)] [])) _
          refine st9 _ ?_
          show Steps p.tables e below (T9.setTop (mkF m 25 #[.val (.int p1)] [(.ref w_LIST_END)])) _
          exact retOut X9 hx Bd.returns rfl (Or.inr (Or.inr (Or.inr (Or.inr ⟨rfl, rfl, rfl⟩)))) (hb hby d1_25) hr
        · show Q1 Z p1 w_NOTHING w_HEADING w_LIST_END w_FULL_STOP w_INITIAL h0 n0 _ T9.heap _
          rw [e9]
          exact ⟨by rw [res1, if_neg hc1_2, if_neg hc10_5, if_pos hc19_8], rfl, rfl⟩
      · have pre10 : ∀ t, Steps p.tables e below (s₁.setTop (mkF m 28 #[.val (.int p1)] [(.int (3 : Int32)), (.int p1)])) t → Steps p.tables e below (s₁.setTop (entryFrame m #[(.int p1)] 1)) t := by
          intro t kt
          refine pre7 _ ?_
          show Steps p.tables e below (s₁.setTop (mkF m 19 #[.val (.int p1)] [(.int (2 : Int32)), (.int p1)])) _
          refine XS.icmpYes X0.here hx rfl (pc0 := 19) (pc' := 26) rfl (hb hby d1_19) rfl (feq hc19_8).2 (by decide) (by decide) ?_
          show Steps p.tables e below (s₁.setTop (mkF m 26 #[.val (.int p1)] [])) _
          refine XS.iloadN X0.here hx rfl (hb hby d1_26) rfl ?_
          show Steps p.tables e below (s₁.setTop (mkF m 27 #[.val (.int p1)] [(.int p1)])) _
          refine XS.iconst X0.here hx rfl (hb hby d1_27) ?_
          exact kt
        by_cases hc28_11 : p1 = (3 : Int32)
        · obtain ⟨T12, X12, e12, st12⟩ := getS2 X0 hx hZ hown (host := "") (Or.inl (hw _ (List.mem_of_getElem? (i := 55) rfl))) Via.refl e0 S_FULL_STOP (g := (mkF m 31 #[.val (.int p1)] [])) rfl (hb hby d1_31)
          obtain ⟨fs, hr, hrun, hended, hW, hsame⟩ := X12.leave (v := some (.ref w_FULL_STOP)) (fun h => by rw [Bd.returns] at h; cases h)
          refine ⟨_, _, pre10 _ ?_, hrun, hended, _, _, rfl, ?_, ⟨_, rfl⟩, hW, hsame.mono (by decide) (by decide)⟩
          · show Steps p.tables e below (s₁.setTop (mkF m 28 #[.val (.int p1)] [(.int (3 : Int32)), (.int p1)])) _
            refine XS.icmpNo X0.here hx rfl (hb hby d1_28) rfl (teq hc28_11).2 ?_
            show Steps p.tables e below (s₁.setTop (mkF m 31 #[.val (.int p1)] [])) _
            refine st12 _ ?_
            show Steps p.tables e below (T12.setTop (mkF m 34 #[.val (.int p1)] [(.ref w_FULL_STOP)])) _
            exact retOut X12 hx Bd.returns rfl (Or.inr (Or.inr (Or.inr (Or.inr ⟨rfl, rfl, rfl⟩)))) (hb hby d1_34) hr
          · show Q1 Z p1 w_NOTHING w_HEADING w_LIST_END w_FULL_STOP w_INITIAL h0 n0 _ T12.heap _
            rw [e12]
            exact ⟨by rw [res1, if_neg hc1_2, if_neg hc10_5, if_neg hc19_8, if_pos hc28_11], rfl, rfl⟩
        · obtain ⟨T13, X13, e13, st13⟩ := getS2 X0 hx hZ hown (host := "") (Or.inl (hw _ (List.mem_of_getElem? (i := 48) rfl))) Via.refl e0 S_INITIAL (g := (mkF m 35 #[.val (.int p1)] [])) rfl (hb hby d1_35)
          obtain ⟨fs, hr, hrun, hended, hW, hsame⟩ := X13.leave (v := some (.ref w_INITIAL)) (fun h => by rw [Bd.returns] at h; cases h)
          refine ⟨_, _, pre10 _ ?_, hrun, hended, _, _, rfl, ?_, ⟨_, rfl⟩, hW, hsame.mono (by decide) (by decide)⟩
          · show Steps p.tables e below (s₁.setTop (mkF m 28 #[.val (.int p1)] [(.int (3 : Int32)), (.int p1)])) _
            refine XS.icmpYes X0.here hx rfl (pc0 := 28) (pc' := 35) rfl (hb hby d1_28) rfl (feq hc28_11).2 (by decide) (by decide) ?_
            show Steps p.tables e below (s₁.setTop (mkF m 35 #[.val (.int p1)] [])) _
            refine st13 _ ?_
            show Steps p.tables e below (T13.setTop (mkF m 38 #[.val (.int p1)] [(.ref w_INITIAL)])) _
            exact retOut X13 hx Bd.returns rfl (Or.inr (Or.inr (Or.inr (Or.inr ⟨rfl, rfl, rfl⟩)))) (hb hby d1_38) hr
          · show Q1 Z p1 w_NOTHING w_HEADING w_LIST_END w_FULL_STOP w_INITIAL h0 n0 _ T13.heap _
            rw [e13]
            exact ⟨by rw [res1, if_neg hc1_2, if_neg hc10_5, if_neg hc19_8, if_neg hc28_11], rfl, rfl⟩
theorem d6_0 : decode prog_100_method_39_code 0 = .ok (.aload_n 0, 1) := by decide +kernel
theorem d6_1 : decode prog_100_method_39_code 1 = .ok (.getfield 7, 3) := by decide +kernel
theorem d6_4 : decode prog_100_method_39_code 4 = .ok (.ireturn, 1) := by decide +kernel
theorem ef6 (m : MethodId) (a1 : Addr) : entryFrame m #[(.ref a1)] 1 = (mkF m 0 #[.val (.ref a1)] []) := by first | (simp [entryFrame, mkF, argsToLocals, Value.category]; done) | rfl
def Q6 (Z : State) (a1 : Addr) (w_start_a1 : Int32) (h0 : Heap) (n0 : Nat) (v : Option Value) (h : Heap) (L : List Loc) : Prop := v = some (.int w_start_a1) ∧ L = [] ∧ h = h0
set_option maxRecDepth 65536 in
set_option maxHeartbeats 40000000 in
theorem rm6 (l : Launch) (Z : State) (a0 : Array Value) (hw : ∀ d ∈ tables_1, d.before a0 Z = true) (ws : List Jvm.Cond) (a1 : Addr) (w_start_a1 : Int32) (h0 : Heap) (n0 : Nat) (Z0 : n0 ≤ h0.size) (F_start_a1 : Fld Z h0 a1 "com/example/whereas/whereas/Scope" "start" "I" (.int w_start_a1)) :
    MetFree l (⟨"com/example/whereas/whereas/Scope", "start", "()I"⟩ : MethodName) (head1 (Jvm.Cond.code (⟨"com/example/whereas/whereas/Scope", "start", "()I"⟩ : MethodName) prog_100_method_39_code 1 (some .int) :: ws) ({ frames := 0, cells := 0, slots := 0, locals := 0 } : Room)) (fun a U => a = #[(.ref a1)] ∧ Z.Warmed39 U.vm ∧ U.heap = h0) (fun _ _ _ _ _ => True) (fun _ U o U' => ∃ v L, o = .returned v ∧ Q6 Z a1 w_start_a1 h0 n0 v U'.heap L ∧ FrameEnd U o U' L ({ frames := 0, cells := 0, slots := 0, locals := 0 } : Room).cells ({ frames := 0, cells := 0, slots := 0, locals := 0 } : Room).slots) := by
  refine MetFree.of_bodySF (plainFor_of_name pn1) hisR ?_
  intro p e s m args below meth c s₁ Bd hml0 hP hK
  obtain ⟨rfl, hZ, hh⟩ := hP
  have hx := Bd.exec
  have hby := Bd.bytes
  have hml : c.maxLocals = 1 := hml0
  have hown : s.vm.findClass "com/example/whereas/whereas/Scope" = some m.cls := findClass_of_methodNamed Bd.named
  have hnm := (name_of_methodNamed Bd.named Bd.method).1
  have X0 : Stand p l e ({ frames := 0, cells := 0, slots := 0, locals := 0 } : Room) s m #[(.ref a1)] below meth c s₁ [] 0 0 := Stand.of_body Bd
  have e0 : s₁.heap = h0 := by rw [← hh, Bd.state]; rfl
  have N0 := Fr.nil n0
  have pre0 : ∀ t, Steps p.tables e below (s₁.setTop (mkF m 0 #[.val (.ref a1)] [])) t → Steps p.tables e below (s₁.setTop (entryFrame m #[(.ref a1)] 1)) t := fun t k => castTop (ef6 m a1) k
  obtain ⟨T1, X1, e1, st1⟩ := getF X0 hx hZ hown (host := "") (Or.inl (hw _ (List.mem_of_getElem? (i := 22) rfl))) Via.refl e0 F_start_a1 (g := (mkF m 1 #[.val (.ref a1)] [(.ref a1)])) rfl rfl (hb hby d6_1)
  obtain ⟨fs, hr, hrun, hended, hW, hsame⟩ := X1.leave (v := some (.int w_start_a1)) (fun h => by rw [Bd.returns] at h; cases h)
  refine ⟨_, _, pre0 _ ?_, hrun, hended, _, _, rfl, ?_, ⟨_, rfl⟩, hW, hsame.mono (by decide) (by decide)⟩
  · show Steps p.tables e below (s₁.setTop (mkF m 0 #[.val (.ref a1)] [])) _
    refine XS.aloadN X0.here hx rfl (hb hby d6_0) rfl rfl ?_
    show Steps p.tables e below (s₁.setTop (mkF m 1 #[.val (.ref a1)] [(.ref a1)])) _
    refine st1 _ ?_
    show Steps p.tables e below (T1.setTop (mkF m 4 #[.val (.ref a1)] [(.int w_start_a1)])) _
    exact retI X1 hx Bd.returns (hb hby d6_4) hr
  · show Q6 Z a1 w_start_a1 h0 n0 _ T1.heap _
    rw [e1]
    exact ⟨rfl, rfl, rfl⟩
theorem d7_0 : decode prog_100_method_41_code 0 = .ok (.aload_n 0, 1) := by decide +kernel
theorem d7_1 : decode prog_100_method_41_code 1 = .ok (.getfield 16, 3) := by decide +kernel
theorem d7_4 : decode prog_100_method_41_code 4 = .ok (.ireturn, 1) := by decide +kernel
theorem ef7 (m : MethodId) (a1 : Addr) : entryFrame m #[(.ref a1)] 1 = (mkF m 0 #[.val (.ref a1)] []) := by first | (simp [entryFrame, mkF, argsToLocals, Value.category]; done) | rfl
def Q7 (Z : State) (a1 : Addr) (w_startColumn_a1 : Int32) (h0 : Heap) (n0 : Nat) (v : Option Value) (h : Heap) (L : List Loc) : Prop := v = some (.int w_startColumn_a1) ∧ L = [] ∧ h = h0
set_option maxRecDepth 65536 in
set_option maxHeartbeats 40000000 in
theorem rm7 (l : Launch) (Z : State) (a0 : Array Value) (hw : ∀ d ∈ tables_1, d.before a0 Z = true) (ws : List Jvm.Cond) (a1 : Addr) (w_startColumn_a1 : Int32) (h0 : Heap) (n0 : Nat) (Z0 : n0 ≤ h0.size) (F_startColumn_a1 : Fld Z h0 a1 "com/example/whereas/whereas/Scope" "startColumn" "I" (.int w_startColumn_a1)) :
    MetFree l (⟨"com/example/whereas/whereas/Scope", "startColumn", "()I"⟩ : MethodName) (head1 (Jvm.Cond.code (⟨"com/example/whereas/whereas/Scope", "startColumn", "()I"⟩ : MethodName) prog_100_method_41_code 1 (some .int) :: ws) ({ frames := 0, cells := 0, slots := 0, locals := 0 } : Room)) (fun a U => a = #[(.ref a1)] ∧ Z.Warmed39 U.vm ∧ U.heap = h0) (fun _ _ _ _ _ => True) (fun _ U o U' => ∃ v L, o = .returned v ∧ Q7 Z a1 w_startColumn_a1 h0 n0 v U'.heap L ∧ FrameEnd U o U' L ({ frames := 0, cells := 0, slots := 0, locals := 0 } : Room).cells ({ frames := 0, cells := 0, slots := 0, locals := 0 } : Room).slots) := by
  refine MetFree.of_bodySF (plainFor_of_name pn1) hisR ?_
  intro p e s m args below meth c s₁ Bd hml0 hP hK
  obtain ⟨rfl, hZ, hh⟩ := hP
  have hx := Bd.exec
  have hby := Bd.bytes
  have hml : c.maxLocals = 1 := hml0
  have hown : s.vm.findClass "com/example/whereas/whereas/Scope" = some m.cls := findClass_of_methodNamed Bd.named
  have hnm := (name_of_methodNamed Bd.named Bd.method).1
  have X0 : Stand p l e ({ frames := 0, cells := 0, slots := 0, locals := 0 } : Room) s m #[(.ref a1)] below meth c s₁ [] 0 0 := Stand.of_body Bd
  have e0 : s₁.heap = h0 := by rw [← hh, Bd.state]; rfl
  have N0 := Fr.nil n0
  have pre0 : ∀ t, Steps p.tables e below (s₁.setTop (mkF m 0 #[.val (.ref a1)] [])) t → Steps p.tables e below (s₁.setTop (entryFrame m #[(.ref a1)] 1)) t := fun t k => castTop (ef7 m a1) k
  obtain ⟨T1, X1, e1, st1⟩ := getF X0 hx hZ hown (host := "") (Or.inl (hw _ (List.mem_of_getElem? (i := 26) rfl))) Via.refl e0 F_startColumn_a1 (g := (mkF m 1 #[.val (.ref a1)] [(.ref a1)])) rfl rfl (hb hby d7_1)
  obtain ⟨fs, hr, hrun, hended, hW, hsame⟩ := X1.leave (v := some (.int w_startColumn_a1)) (fun h => by rw [Bd.returns] at h; cases h)
  refine ⟨_, _, pre0 _ ?_, hrun, hended, _, _, rfl, ?_, ⟨_, rfl⟩, hW, hsame.mono (by decide) (by decide)⟩
  · show Steps p.tables e below (s₁.setTop (mkF m 0 #[.val (.ref a1)] [])) _
    refine XS.aloadN X0.here hx rfl (hb hby d7_0) rfl rfl ?_
    show Steps p.tables e below (s₁.setTop (mkF m 1 #[.val (.ref a1)] [(.ref a1)])) _
    refine st1 _ ?_
    show Steps p.tables e below (T1.setTop (mkF m 4 #[.val (.ref a1)] [(.int w_startColumn_a1)])) _
    exact retI X1 hx Bd.returns (hb hby d7_4) hr
  · show Q7 Z a1 w_startColumn_a1 h0 n0 _ T1.heap _
    rw [e1]
    exact ⟨rfl, rfl, rfl⟩
theorem d5_0 : decode prog_100_method_11_code 0 = .ok (.aload_n 0, 1) := by decide +kernel
theorem d5_1 : decode prog_100_method_11_code 1 = .ok (.getfield 13, 3) := by decide +kernel
theorem d5_4 : decode prog_100_method_11_code 4 = .ok (.iconst 1, 1) := by decide +kernel
theorem d5_5 : decode prog_100_method_11_code 5 = .ok (.isub, 1) := by decide +kernel
theorem d5_6 : decode prog_100_method_11_code 6 = .ok (.istore_n 2, 1) := by decide +kernel
theorem d5_7 : decode prog_100_method_11_code 7 = .ok (.iload_n 2, 1) := by decide +kernel
theorem d5_8 : decode prog_100_method_11_code 8 = .ok (.aload_n 1, 1) := by decide +kernel
theorem d5_9 : decode prog_100_method_11_code 9 = .ok (.invokevirtual 80, 3) := by decide +kernel
theorem d5_12 : decode prog_100_method_11_code 12 = .ok (.if_icmp .gt 22, 3) := by decide +kernel
theorem d5_15 : decode prog_100_method_11_code 15 = .ok (.iload_n 2, 1) := by decide +kernel
theorem d5_16 : decode prog_100_method_11_code 16 = .ok (.aload_n 1, 1) := by decide +kernel
theorem d5_17 : decode prog_100_method_11_code 17 = .ok (.invokevirtual 80, 3) := by decide +kernel
theorem d5_20 : decode prog_100_method_11_code 20 = .ok (.if_icmp .ne 18, 3) := by decide +kernel
theorem d5_23 : decode prog_100_method_11_code 23 = .ok (.aload_n 0, 1) := by decide +kernel
theorem d5_24 : decode prog_100_method_11_code 24 = .ok (.getfield 19, 3) := by decide +kernel
theorem d5_27 : decode prog_100_method_11_code 27 = .ok (.aload_n 1, 1) := by decide +kernel
theorem d5_28 : decode prog_100_method_11_code 28 = .ok (.invokevirtual 82, 3) := by decide +kernel
theorem d5_31 : decode prog_100_method_11_code 31 = .ok (.if_icmp .le 7, 3) := by decide +kernel
theorem d5_34 : decode prog_100_method_11_code 34 = .ok (.iconst 1, 1) := by decide +kernel
theorem d5_35 : decode prog_100_method_11_code 35 = .ok (.goto 4, 3) := by decide +kernel
theorem d5_38 : decode prog_100_method_11_code 38 = .ok (.iconst 0, 1) := by decide +kernel
theorem d5_39 : decode prog_100_method_11_code 39 = .ok (.ireturn, 1) := by decide +kernel
def res5 (w_end_a1 : Int32) (w_start_a1 : Int32) (w_endColumn_a1 : Int32) (w_startColumn_a1 : Int32) : Int32 := if w_start_a1 < (w_end_a1 - (1 : Int32)) then (1 : Int32) else if (w_end_a1 - (1 : Int32)) = w_start_a1 then (if w_startColumn_a1 < w_endColumn_a1 then (1 : Int32) else (0 : Int32)) else (0 : Int32)
theorem pd1 : parseMethodDescriptor "()I" = some ⟨[], some .int⟩ := by decide +kernel
theorem ef5 (m : MethodId) (a1 : Addr) (a2 : Addr) : entryFrame m #[(.ref a1), (.ref a2)] 3 = (mkF m 0 #[.val (.ref a1), .val (.ref a2), .unset] []) := by first | (simp [entryFrame, mkF, argsToLocals, Value.category]; done) | rfl
def Q5 (Z : State) (a1 : Addr) (a2 : Addr) (w_end_a1 : Int32) (w_start_a1 : Int32) (w_endColumn_a1 : Int32) (w_startColumn_a1 : Int32) (h0 : Heap) (n0 : Nat) (v : Option Value) (h : Heap) (L : List Loc) : Prop := v = some (.int (res5 w_end_a1 w_start_a1 w_endColumn_a1 w_startColumn_a1)) ∧ L = [] ∧ h = h0
set_option maxRecDepth 65536 in
set_option maxHeartbeats 40000000 in
theorem rm5 (l : Launch) (Z : State) (a0 : Array Value) (hw : ∀ d ∈ tables_1, d.before a0 Z = true) (ws : List Jvm.Cond) (a1 : Addr) (a2 : Addr) (w_end_a1 : Int32) (w_start_a1 : Int32) (w_endColumn_a1 : Int32) (w_startColumn_a1 : Int32) (h0 : Heap) (n0 : Nat) (Z0 : n0 ≤ h0.size) (F_end_a1 : Fld Z h0 a1 "com/example/whereas/whereas/Scope" "end" "I" (.int w_end_a1)) (F_start_a1 : Fld Z h0 a2 "com/example/whereas/whereas/Scope" "start" "I" (.int w_start_a1)) (E_a2 : Exa Z h0 a2 "com/example/whereas/whereas/Scope") (F_endColumn_a1 : Fld Z h0 a1 "com/example/whereas/whereas/Scope" "endColumn" "I" (.int w_endColumn_a1)) (F_startColumn_a1 : Fld Z h0 a2 "com/example/whereas/whereas/Scope" "startColumn" "I" (.int w_startColumn_a1)) :
    MetFree l (⟨"com/example/whereas/whereas/Scope", "reaches", "(Lcom/example/whereas/whereas/Scope;)Z"⟩ : MethodName) (head1 (Jvm.Cond.code (⟨"com/example/whereas/whereas/Scope", "reaches", "(Lcom/example/whereas/whereas/Scope;)Z"⟩ : MethodName) prog_100_method_11_code 3 (some .boolean) :: ws) ({ frames := 1, cells := 0, slots := 0, locals := 13 } : Room)) (fun a U => a = #[(.ref a1), (.ref a2)] ∧ Z.Warmed39 U.vm ∧ U.heap = h0) (fun _ _ _ _ _ => True) (fun _ U o U' => ∃ v L, o = .returned v ∧ Q5 Z a1 a2 w_end_a1 w_start_a1 w_endColumn_a1 w_startColumn_a1 h0 n0 v U'.heap L ∧ FrameEnd U o U' L ({ frames := 1, cells := 0, slots := 0, locals := 13 } : Room).cells ({ frames := 1, cells := 0, slots := 0, locals := 13 } : Room).slots) := by
  refine MetFree.of_bodySF (plainFor_of_name pn1) hisR ?_
  intro p e s m args below meth c s₁ Bd hml0 hP hK
  obtain ⟨rfl, hZ, hh⟩ := hP
  have hx := Bd.exec
  have hby := Bd.bytes
  have hml : c.maxLocals = 3 := hml0
  have hown : s.vm.findClass "com/example/whereas/whereas/Scope" = some m.cls := findClass_of_methodNamed Bd.named
  have hnm := (name_of_methodNamed Bd.named Bd.method).1
  have X0 : Stand p l e ({ frames := 1, cells := 0, slots := 0, locals := 13 } : Room) s m #[(.ref a1), (.ref a2)] below meth c s₁ [] 0 0 := Stand.of_body Bd
  have e0 : s₁.heap = h0 := by rw [← hh, Bd.state]; rfl
  have N0 := Fr.nil n0
  have pre0 : ∀ t, Steps p.tables e below (s₁.setTop (mkF m 0 #[.val (.ref a1), .val (.ref a2), .unset] [])) t → Steps p.tables e below (s₁.setTop (entryFrame m #[(.ref a1), (.ref a2)] 3)) t := fun t k => castTop (ef5 m a1 a2) k
  obtain ⟨T1, X1, e1, st1⟩ := getF X0 hx hZ hown (host := "") (Or.inl (hw _ (List.mem_of_getElem? (i := 24) rfl))) Via.refl e0 F_end_a1 (g := (mkF m 1 #[.val (.ref a1), .val (.ref a2), .unset] [(.ref a1)])) rfl rfl (hb hby d5_1)
  obtain ⟨cq2, kq2, q2a, q2b, q2c⟩ := isOf hZ e1 E_a2
  obtain ⟨_, _, ⟨T2, L2, k2, n2⟩, -, X2, ⟨Lc2, hQ2, l2, y2, z2⟩, st2⟩ := X1.virtualBack hx (y := (⟨"com/example/whereas/whereas/Scope", "start", "()I"⟩ : MethodName)) (z := (⟨"com/example/whereas/whereas/Scope", "start", "()I"⟩ : MethodName)) hown (mvT hZ (hw _ (List.mem_of_getElem? (i := 41) rfl))) (mvT hZ (hw _ (List.mem_of_getElem? (i := 42) rfl))) (notFace_of_selects (args := #[]) (mvT hZ (hw _ (List.mem_of_getElem? (i := 44) rfl)))) (mvT hZ (hw _ (List.mem_of_getElem? (i := 44) rfl))) (mvT hZ (hw _ (List.mem_of_getElem? (i := 43) rfl))) (by decide) (backOf (W := 1) (rm6 l Z a0 hw [] a2 w_start_a1 h0 n0 (Nat.le_trans Z0 (Keep.refl h0 []).1) F_start_a1 ) hZ (hw _ (List.mem_of_getElem? (i := 45) rfl)) (hw _ (List.mem_of_getElem? (i := 3) rfl)) (by decide) (by decide)) q2a q2c (g := (mkF m 9 #[.val (.ref a1), .val (.ref a2), .val (.int (w_end_a1 - (1 : Int32)))] [(.ref a2), (.int (w_end_a1 - (1 : Int32)))])) rfl (by rw [hml]; rfl) (Steps.refl _) (argsL := []) (rest := [(.int (w_end_a1 - (1 : Int32)))]) (lenOf pd1 rfl) rfl (by show 2 * 0 + _ ≤ _; exact Nat.le_of_eq rfl) (hb hby d5_9) (fun _ _ => ⟨rfl, e1, (by decide : 0 + 0 ≤ _), (by decide : 0 + 0 ≤ _)⟩)
  dsimp only [Pt.U, Pt.locs, Pt.cells, Pt.slots] at X2 l2 y2 z2 st2 hQ2
  subst l2 y2 z2
  obtain ⟨rfl, rfl, e2⟩ := hQ2
  have N2 := Fr.app N0 (Fr.nil n0)
  have pre3 : ∀ t, Steps p.tables e below (T2.setTop (mkF m 12 #[.val (.ref a1), .val (.ref a2), .val (.int (w_end_a1 - (1 : Int32)))] [(.int w_start_a1), (.int (w_end_a1 - (1 : Int32)))])) t → Steps p.tables e below (s₁.setTop (entryFrame m #[(.ref a1), (.ref a2)] 3)) t := by
    intro t kt
    refine pre0 _ ?_
    show Steps p.tables e below (s₁.setTop (mkF m 0 #[.val (.ref a1), .val (.ref a2), .unset] [])) _
    refine XS.aloadN X0.here hx rfl (hb hby d5_0) rfl rfl ?_
    show Steps p.tables e below (s₁.setTop (mkF m 1 #[.val (.ref a1), .val (.ref a2), .unset] [(.ref a1)])) _
    refine st1 _ ?_
    show Steps p.tables e below (T1.setTop (mkF m 4 #[.val (.ref a1), .val (.ref a2), .unset] [(.int w_end_a1)])) _
    refine XS.iconst X1.here hx rfl (hb hby d5_4) ?_
    show Steps p.tables e below (T1.setTop (mkF m 5 #[.val (.ref a1), .val (.ref a2), .unset] [(.int (1 : Int32)), (.int w_end_a1)])) _
    refine XS.isub X1.here hx rfl (hb hby d5_5) rfl ?_
    show Steps p.tables e below (T1.setTop (mkF m 6 #[.val (.ref a1), .val (.ref a2), .unset] [(.int (w_end_a1 - (1 : Int32)))])) _
    refine XS.istoreN X1.here hx rfl (hb hby d5_6) rfl (l' := #[.val (.ref a1), .val (.ref a2), .val (.int (w_end_a1 - (1 : Int32)))]) rfl ?_
    show Steps p.tables e below (T1.setTop (mkF m 7 #[.val (.ref a1), .val (.ref a2), .val (.int (w_end_a1 - (1 : Int32)))] [])) _
    refine XS.iloadN X1.here hx rfl (hb hby d5_7) rfl ?_
    show Steps p.tables e below (T1.setTop (mkF m 8 #[.val (.ref a1), .val (.ref a2), .val (.int (w_end_a1 - (1 : Int32)))] [(.int (w_end_a1 - (1 : Int32)))])) _
    refine XS.aloadN X1.here hx rfl (hb hby d5_8) rfl rfl ?_
    show Steps p.tables e below (T1.setTop (mkF m 9 #[.val (.ref a1), .val (.ref a2), .val (.int (w_end_a1 - (1 : Int32)))] [(.ref a2), (.int (w_end_a1 - (1 : Int32)))])) _
    refine st2.trans ?_
    exact kt
  by_cases hc12_4 : w_start_a1 < (w_end_a1 - (1 : Int32))
  · obtain ⟨fs, hr, hrun, hended, hW, hsame⟩ := X2.leave (v := some (.int (1 : Int32))) (fun h => by rw [Bd.returns] at h; cases h)
    refine ⟨_, _, pre3 _ ?_, hrun, hended, _, _, rfl, ?_, ⟨_, rfl⟩, hW, hsame.mono (by decide) (by decide)⟩
    · show Steps p.tables e below (T2.setTop (mkF m 12 #[.val (.ref a1), .val (.ref a2), .val (.int (w_end_a1 - (1 : Int32)))] [(.int w_start_a1), (.int (w_end_a1 - (1 : Int32)))])) _
      refine XS.icmpYes X2.here hx rfl (pc0 := 12) (pc' := 34) rfl (hb hby d5_12) rfl (tlt hc12_4).2.2.1 (by decide) (by decide) ?_
      show Steps p.tables e below (T2.setTop (mkF m 34 #[.val (.ref a1), .val (.ref a2), .val (.int (w_end_a1 - (1 : Int32)))] [])) _
      refine XS.iconst X2.here hx rfl (hb hby d5_34) ?_
      show Steps p.tables e below (T2.setTop (mkF m 35 #[.val (.ref a1), .val (.ref a2), .val (.int (w_end_a1 - (1 : Int32)))] [(.int (1 : Int32))])) _
      refine XS.goto X2.here hx rfl (pc0 := 35) (pc' := 39) rfl (hb hby d5_35) (by decide) (by decide) ?_
      show Steps p.tables e below (T2.setTop (mkF m 39 #[.val (.ref a1), .val (.ref a2), .val (.int (w_end_a1 - (1 : Int32)))] [(.int (1 : Int32))])) _
      exact retN X2 hx (t := .boolean) Bd.returns (by simp) (hb hby d5_39) hr
    · show Q5 Z a1 a2 w_end_a1 w_start_a1 w_endColumn_a1 w_startColumn_a1 h0 n0 _ T2.heap _
      rw [e2]
      exact ⟨by rw [res5, if_pos hc12_4], rfl, rfl⟩
  · obtain ⟨cq5, kq5, q5a, q5b, q5c⟩ := isOf hZ e2 E_a2
    obtain ⟨_, _, ⟨T5, L5, k5, n5⟩, -, X5, ⟨Lc5, hQ5, l5, y5, z5⟩, st5⟩ := X2.virtualBack hx (y := (⟨"com/example/whereas/whereas/Scope", "start", "()I"⟩ : MethodName)) (z := (⟨"com/example/whereas/whereas/Scope", "start", "()I"⟩ : MethodName)) hown (mvT hZ (hw _ (List.mem_of_getElem? (i := 41) rfl))) (mvT hZ (hw _ (List.mem_of_getElem? (i := 42) rfl))) (notFace_of_selects (args := #[]) (mvT hZ (hw _ (List.mem_of_getElem? (i := 44) rfl)))) (mvT hZ (hw _ (List.mem_of_getElem? (i := 44) rfl))) (mvT hZ (hw _ (List.mem_of_getElem? (i := 43) rfl))) (by decide) (backOf (W := 1) (rm6 l Z a0 hw [] a2 w_start_a1 h0 n0 (Nat.le_trans Z0 (Keep.refl h0 []).1) F_start_a1 ) hZ (hw _ (List.mem_of_getElem? (i := 45) rfl)) (hw _ (List.mem_of_getElem? (i := 3) rfl)) (by decide) (by decide)) q5a q5c (g := (mkF m 17 #[.val (.ref a1), .val (.ref a2), .val (.int (w_end_a1 - (1 : Int32)))] [(.ref a2), (.int (w_end_a1 - (1 : Int32)))])) rfl (by rw [hml]; rfl) (Steps.refl _) (argsL := []) (rest := [(.int (w_end_a1 - (1 : Int32)))]) (lenOf pd1 rfl) rfl (by show 2 * 0 + _ ≤ _; exact Nat.le_of_eq rfl) (hb hby d5_17) (fun _ _ => ⟨rfl, e2, (by decide : 0 + 0 ≤ _), (by decide : 0 + 0 ≤ _)⟩)
    dsimp only [Pt.U, Pt.locs, Pt.cells, Pt.slots] at X5 l5 y5 z5 st5 hQ5
    subst l5 y5 z5
    obtain ⟨rfl, rfl, e5⟩ := hQ5
    have N5 := Fr.app N2 (Fr.nil n0)
    have pre6 : ∀ t, Steps p.tables e below (T5.setTop (mkF m 20 #[.val (.ref a1), .val (.ref a2), .val (.int (w_end_a1 - (1 : Int32)))] [(.int w_start_a1), (.int (w_end_a1 - (1 : Int32)))])) t → Steps p.tables e below (s₁.setTop (entryFrame m #[(.ref a1), (.ref a2)] 3)) t := by
      intro t kt
      refine pre3 _ ?_
      show Steps p.tables e below (T2.setTop (mkF m 12 #[.val (.ref a1), .val (.ref a2), .val (.int (w_end_a1 - (1 : Int32)))] [(.int w_start_a1), (.int (w_end_a1 - (1 : Int32)))])) _
      refine XS.icmpNo X2.here hx rfl (hb hby d5_12) rfl (flt hc12_4).2.2.1 ?_
      show Steps p.tables e below (T2.setTop (mkF m 15 #[.val (.ref a1), .val (.ref a2), .val (.int (w_end_a1 - (1 : Int32)))] [])) _
      refine XS.iloadN X2.here hx rfl (hb hby d5_15) rfl ?_
      show Steps p.tables e below (T2.setTop (mkF m 16 #[.val (.ref a1), .val (.ref a2), .val (.int (w_end_a1 - (1 : Int32)))] [(.int (w_end_a1 - (1 : Int32)))])) _
      refine XS.aloadN X2.here hx rfl (hb hby d5_16) rfl rfl ?_
      show Steps p.tables e below (T2.setTop (mkF m 17 #[.val (.ref a1), .val (.ref a2), .val (.int (w_end_a1 - (1 : Int32)))] [(.ref a2), (.int (w_end_a1 - (1 : Int32)))])) _
      refine st5.trans ?_
      exact kt
    by_cases hc20_7 : (w_end_a1 - (1 : Int32)) = w_start_a1
    · obtain ⟨T8, X8, e8, st8⟩ := getF X5 hx hZ hown (host := "") (Or.inl (hw _ (List.mem_of_getElem? (i := 28) rfl))) Via.refl e5 F_endColumn_a1 (g := (mkF m 24 #[.val (.ref a1), .val (.ref a2), .val (.int (w_end_a1 - (1 : Int32)))] [(.ref a1)])) rfl rfl (hb hby d5_24)
      obtain ⟨cq9, kq9, q9a, q9b, q9c⟩ := isOf hZ e8 E_a2
      obtain ⟨_, _, ⟨T9, L9, k9, n9⟩, -, X9, ⟨Lc9, hQ9, l9, y9, z9⟩, st9⟩ := X8.virtualBack hx (y := (⟨"com/example/whereas/whereas/Scope", "startColumn", "()I"⟩ : MethodName)) (z := (⟨"com/example/whereas/whereas/Scope", "startColumn", "()I"⟩ : MethodName)) hown (mvT hZ (hw _ (List.mem_of_getElem? (i := 50) rfl))) (mvT hZ (hw _ (List.mem_of_getElem? (i := 51) rfl))) (notFace_of_selects (args := #[]) (mvT hZ (hw _ (List.mem_of_getElem? (i := 53) rfl)))) (mvT hZ (hw _ (List.mem_of_getElem? (i := 53) rfl))) (mvT hZ (hw _ (List.mem_of_getElem? (i := 52) rfl))) (by decide) (backOf (W := 1) (rm7 l Z a0 hw [] a2 w_startColumn_a1 h0 n0 (Nat.le_trans Z0 (Keep.refl h0 []).1) F_startColumn_a1 ) hZ (hw _ (List.mem_of_getElem? (i := 54) rfl)) (hw _ (List.mem_of_getElem? (i := 3) rfl)) (by decide) (by decide)) q9a q9c (g := (mkF m 28 #[.val (.ref a1), .val (.ref a2), .val (.int (w_end_a1 - (1 : Int32)))] [(.ref a2), (.int w_endColumn_a1)])) rfl (by rw [hml]; rfl) (Steps.refl _) (argsL := []) (rest := [(.int w_endColumn_a1)]) (lenOf pd1 rfl) rfl (by show 2 * 0 + _ ≤ _; exact Nat.le_of_eq rfl) (hb hby d5_28) (fun _ _ => ⟨rfl, e8, (by decide : 0 + 0 ≤ _), (by decide : 0 + 0 ≤ _)⟩)
      dsimp only [Pt.U, Pt.locs, Pt.cells, Pt.slots] at X9 l9 y9 z9 st9 hQ9
      subst l9 y9 z9
      obtain ⟨rfl, rfl, e9⟩ := hQ9
      have N9 := Fr.app N5 (Fr.nil n0)
      have pre10 : ∀ t, Steps p.tables e below (T9.setTop (mkF m 31 #[.val (.ref a1), .val (.ref a2), .val (.int (w_end_a1 - (1 : Int32)))] [(.int w_startColumn_a1), (.int w_endColumn_a1)])) t → Steps p.tables e below (s₁.setTop (entryFrame m #[(.ref a1), (.ref a2)] 3)) t := by
        intro t kt
        refine pre6 _ ?_
        show Steps p.tables e below (T5.setTop (mkF m 20 #[.val (.ref a1), .val (.ref a2), .val (.int (w_end_a1 - (1 : Int32)))] [(.int w_start_a1), (.int (w_end_a1 - (1 : Int32)))])) _
        refine XS.icmpNo X5.here hx rfl (hb hby d5_20) rfl (teq hc20_7).2 ?_
        show Steps p.tables e below (T5.setTop (mkF m 23 #[.val (.ref a1), .val (.ref a2), .val (.int (w_end_a1 - (1 : Int32)))] [])) _
        refine XS.aloadN X5.here hx rfl (hb hby d5_23) rfl rfl ?_
        show Steps p.tables e below (T5.setTop (mkF m 24 #[.val (.ref a1), .val (.ref a2), .val (.int (w_end_a1 - (1 : Int32)))] [(.ref a1)])) _
        refine st8 _ ?_
        show Steps p.tables e below (T8.setTop (mkF m 27 #[.val (.ref a1), .val (.ref a2), .val (.int (w_end_a1 - (1 : Int32)))] [(.int w_endColumn_a1)])) _
        refine XS.aloadN X8.here hx rfl (hb hby d5_27) rfl rfl ?_
        show Steps p.tables e below (T8.setTop (mkF m 28 #[.val (.ref a1), .val (.ref a2), .val (.int (w_end_a1 - (1 : Int32)))] [(.ref a2), (.int w_endColumn_a1)])) _
        refine st9.trans ?_
        exact kt
      by_cases hc31_11 : w_startColumn_a1 < w_endColumn_a1
      · obtain ⟨fs, hr, hrun, hended, hW, hsame⟩ := X9.leave (v := some (.int (1 : Int32))) (fun h => by rw [Bd.returns] at h; cases h)
        refine ⟨_, _, pre10 _ ?_, hrun, hended, _, _, rfl, ?_, ⟨_, rfl⟩, hW, hsame.mono (by decide) (by decide)⟩
        · show Steps p.tables e below (T9.setTop (mkF m 31 #[.val (.ref a1), .val (.ref a2), .val (.int (w_end_a1 - (1 : Int32)))] [(.int w_startColumn_a1), (.int w_endColumn_a1)])) _
          refine XS.icmpNo X9.here hx rfl (hb hby d5_31) rfl (tlt hc31_11).2.2.2 ?_
          show Steps p.tables e below (T9.setTop (mkF m 34 #[.val (.ref a1), .val (.ref a2), .val (.int (w_end_a1 - (1 : Int32)))] [])) _
          refine XS.iconst X9.here hx rfl (hb hby d5_34) ?_
          show Steps p.tables e below (T9.setTop (mkF m 35 #[.val (.ref a1), .val (.ref a2), .val (.int (w_end_a1 - (1 : Int32)))] [(.int (1 : Int32))])) _
          refine XS.goto X9.here hx rfl (pc0 := 35) (pc' := 39) rfl (hb hby d5_35) (by decide) (by decide) ?_
          show Steps p.tables e below (T9.setTop (mkF m 39 #[.val (.ref a1), .val (.ref a2), .val (.int (w_end_a1 - (1 : Int32)))] [(.int (1 : Int32))])) _
          exact retN X9 hx (t := .boolean) Bd.returns (by simp) (hb hby d5_39) hr
        · show Q5 Z a1 a2 w_end_a1 w_start_a1 w_endColumn_a1 w_startColumn_a1 h0 n0 _ T9.heap _
          rw [e9]
          exact ⟨by rw [res5, if_neg hc12_4, if_pos hc20_7, if_pos hc31_11], rfl, rfl⟩
      · obtain ⟨fs, hr, hrun, hended, hW, hsame⟩ := X9.leave (v := some (.int (0 : Int32))) (fun h => by rw [Bd.returns] at h; cases h)
        refine ⟨_, _, pre10 _ ?_, hrun, hended, _, _, rfl, ?_, ⟨_, rfl⟩, hW, hsame.mono (by decide) (by decide)⟩
        · show Steps p.tables e below (T9.setTop (mkF m 31 #[.val (.ref a1), .val (.ref a2), .val (.int (w_end_a1 - (1 : Int32)))] [(.int w_startColumn_a1), (.int w_endColumn_a1)])) _
          refine XS.icmpYes X9.here hx rfl (pc0 := 31) (pc' := 38) rfl (hb hby d5_31) rfl (flt hc31_11).2.2.2 (by decide) (by decide) ?_
          show Steps p.tables e below (T9.setTop (mkF m 38 #[.val (.ref a1), .val (.ref a2), .val (.int (w_end_a1 - (1 : Int32)))] [])) _
          refine XS.iconst X9.here hx rfl (hb hby d5_38) ?_
          show Steps p.tables e below (T9.setTop (mkF m 39 #[.val (.ref a1), .val (.ref a2), .val (.int (w_end_a1 - (1 : Int32)))] [(.int (0 : Int32))])) _
          exact retN X9 hx (t := .boolean) Bd.returns (by simp) (hb hby d5_39) hr
        · show Q5 Z a1 a2 w_end_a1 w_start_a1 w_endColumn_a1 w_startColumn_a1 h0 n0 _ T9.heap _
          rw [e9]
          exact ⟨by rw [res5, if_neg hc12_4, if_pos hc20_7, if_neg hc31_11], rfl, rfl⟩
    · obtain ⟨fs, hr, hrun, hended, hW, hsame⟩ := X5.leave (v := some (.int (0 : Int32))) (fun h => by rw [Bd.returns] at h; cases h)
      refine ⟨_, _, pre6 _ ?_, hrun, hended, _, _, rfl, ?_, ⟨_, rfl⟩, hW, hsame.mono (by decide) (by decide)⟩
      · show Steps p.tables e below (T5.setTop (mkF m 20 #[.val (.ref a1), .val (.ref a2), .val (.int (w_end_a1 - (1 : Int32)))] [(.int w_start_a1), (.int (w_end_a1 - (1 : Int32)))])) _
        refine XS.icmpYes X5.here hx rfl (pc0 := 20) (pc' := 38) rfl (hb hby d5_20) rfl (feq hc20_7).2 (by decide) (by decide) ?_
        show Steps p.tables e below (T5.setTop (mkF m 38 #[.val (.ref a1), .val (.ref a2), .val (.int (w_end_a1 - (1 : Int32)))] [])) _
        refine XS.iconst X5.here hx rfl (hb hby d5_38) ?_
        show Steps p.tables e below (T5.setTop (mkF m 39 #[.val (.ref a1), .val (.ref a2), .val (.int (w_end_a1 - (1 : Int32)))] [(.int (0 : Int32))])) _
        exact retN X5 hx (t := .boolean) Bd.returns (by simp) (hb hby d5_39) hr
      · show Q5 Z a1 a2 w_end_a1 w_start_a1 w_endColumn_a1 w_startColumn_a1 h0 n0 _ T5.heap _
        rw [e5]
        exact ⟨by rw [res5, if_neg hc12_4, if_neg hc20_7], rfl, rfl⟩
def mg0_9_s0 (p1 : Int32) : Int32 := if (p1 &&& (1 : Int32)) = (0 : Int32) then (0 : Int32) else (1 : Int32)
def mg0_21_s0 (p1 : Int32) (p2 : Int32) (p5 : Int32) : Int32 := if (mg0_9_s0 p1) = (0 : Int32) then p5 else ((p2 &&& (2147483647 : Int32)) - (1 : Int32))
def mg0_120_s0 (p1 : Int32) (p2 : Int32) (p4 : Int32) (p5 : Int32) (p6 : Int32) : Int32 := if (0 : Int32) < (lcmpW (((p2 &&& (2147483647 : Int32)).toInt64) - ((mg0_21_s0 p1 p2 p5).toInt64)) (1 : Int64)) then (1 : Int32) else if (lcmpW (((p2 &&& (2147483647 : Int32)).toInt64) - ((mg0_21_s0 p1 p2 p5).toInt64)) (1 : Int64)) = (0 : Int32) then (if p6 < p4 then (1 : Int32) else (0 : Int32)) else (0 : Int32)
def res0 (p1 : Int32) (p2 : Int32) (p4 : Int32) (p5 : Int32) (p6 : Int32) : Int32 := if (res5 (p2 &&& (2147483647 : Int32)) (mg0_21_s0 p1 p2 p5) p4 p6) = (mg0_120_s0 p1 p2 p4 p5 p6) then (1 : Int32) else (0 : Int32)
theorem pd2 : parseMethodDescriptor "(I)Lcom/example/whereas/whereas/Untold;" = some ⟨[.int], some (.object "com/example/whereas/whereas/Untold")⟩ := by decide +kernel
theorem pd3 : parseMethodDescriptor "(IIIILcom/example/whereas/whereas/Untold;Lcom/example/whereas/whereas/Untold;)V" = some ⟨[.int, .int, .int, .int, (.object "com/example/whereas/whereas/Untold"), (.object "com/example/whereas/whereas/Untold")], none⟩ := by decide +kernel
theorem pd4 : parseMethodDescriptor "(Lcom/example/whereas/whereas/Scope;)Z" = some ⟨[(.object "com/example/whereas/whereas/Scope")], some .boolean⟩ := by decide +kernel
theorem ef0 (m : MethodId) (p1 : Int32) (p2 : Int32) (p3 : Int32) (p4 : Int32) (p5 : Int32) (p6 : Int32) : entryFrame m #[(.int p1), (.int p2), (.int p3), (.int p4), (.int p5), (.int p6)] maxLocals = (mkF m 0 #[.val (.int p1), .val (.int p2), .val (.int p3), .val (.int p4), .val (.int p5), .val (.int p6), .unset, .unset, .unset, .unset, .unset, .unset, .unset, .unset, .unset] []) := by first | (simp [entryFrame, mkF, argsToLocals, Value.category, maxLocals]; done) | rfl
def Q0 (Z : State) (p1 : Int32) (p2 : Int32) (p3 : Int32) (p4 : Int32) (p5 : Int32) (p6 : Int32) (w_NOTHING : Addr) (w_HEADING : Addr) (w_LIST_END : Addr) (w_FULL_STOP : Addr) (w_INITIAL : Addr) (h0 : Heap) (n0 : Nat) (v : Option Value) (h : Heap) (L : List Loc) : Prop := v = some (.int (res0 p1 p2 p4 p5 p6)) ∧ Fr n0 L
set_option maxRecDepth 65536 in
set_option maxHeartbeats 40000000 in
theorem rm0 (l : Launch) (Z : State) (a0 : Array Value) (hw : ∀ d ∈ tables_1, d.before a0 Z = true) (ws : List Jvm.Cond) (p1 : Int32) (p2 : Int32) (p3 : Int32) (p4 : Int32) (p5 : Int32) (p6 : Int32) (w_NOTHING : Addr) (w_HEADING : Addr) (w_LIST_END : Addr) (w_FULL_STOP : Addr) (w_INITIAL : Addr) (h0 : Heap) (n0 : Nat) (Z0 : n0 ≤ h0.size) (S_NOTHING : Sta Z h0 "com/example/whereas/whereas/Untold" "NOTHING" "Lcom/example/whereas/whereas/Untold;" (.ref w_NOTHING)) (S_HEADING : Sta Z h0 "com/example/whereas/whereas/Untold" "HEADING" "Lcom/example/whereas/whereas/Untold;" (.ref w_HEADING)) (S_LIST_END : Sta Z h0 "com/example/whereas/whereas/Untold" "LIST_END" "Lcom/example/whereas/whereas/Untold;" (.ref w_LIST_END)) (S_FULL_STOP : Sta Z h0 "com/example/whereas/whereas/Untold" "FULL_STOP" "Lcom/example/whereas/whereas/Untold;" (.ref w_FULL_STOP)) (S_INITIAL : Sta Z h0 "com/example/whereas/whereas/Untold" "INITIAL" "Lcom/example/whereas/whereas/Untold;" (.ref w_INITIAL)) :
    MetFree l x (head1 (Jvm.Cond.code x code maxLocals ret :: ws) room_1) (fun a U => a = #[(.int p1), (.int p2), (.int p3), (.int p4), (.int p5), (.int p6)] ∧ Z.Warmed39 U.vm ∧ U.heap = h0) (fun _ _ _ _ _ => True) (fun _ U o U' => ∃ v L, o = .returned v ∧ Q0 Z p1 p2 p3 p4 p5 p6 w_NOTHING w_HEADING w_LIST_END w_FULL_STOP w_INITIAL h0 n0 v U'.heap L ∧ FrameEnd U o U' L room_1.cells room_1.slots) := by
  refine MetFree.of_bodySF (plainFor_of_name pn2) hisR ?_
  intro p e s m args below meth c s₁ Bd hml0 hP hK
  obtain ⟨rfl, hZ, hh⟩ := hP
  have hx := Bd.exec
  have hby := Bd.bytes
  have hml : c.maxLocals = 15 := hml0
  have hown : s.vm.findClass "com/example/whereas/whereas/ScopeReachesPinLaw" = some m.cls := findClass_of_methodNamed Bd.named
  have hnm := (name_of_methodNamed Bd.named Bd.method).1
  have X0 : Stand p l e room_1 s m #[(.int p1), (.int p2), (.int p3), (.int p4), (.int p5), (.int p6)] below meth c s₁ [] 0 0 := Stand.of_body Bd
  have e0 : s₁.heap = h0 := by rw [← hh, Bd.state]; rfl
  have N0 := Fr.nil n0
  have pre0 : ∀ t, Steps p.tables e below (s₁.setTop (mkF m 0 #[.val (.int p1), .val (.int p2), .val (.int p3), .val (.int p4), .val (.int p5), .val (.int p6), .unset, .unset, .unset, .unset, .unset, .unset, .unset, .unset, .unset] [])) t → Steps p.tables e below (s₁.setTop (entryFrame m #[(.int p1), (.int p2), (.int p3), (.int p4), (.int p5), (.int p6)] maxLocals)) t := fun t k => castTop (ef0 m p1 p2 p3 p4 p5 p6) k
  have pre1 : ∀ t, Steps p.tables e below (s₁.setTop (mkF m 9 #[.val (.int p1), .val (.int p2), .val (.int p3), .val (.int p4), .val (.int p5), .val (.int p6), .val (.int (p2 &&& (2147483647 : Int32))), .unset, .unset, .unset, .unset, .unset, .unset, .unset, .unset] [(.int (p1 &&& (1 : Int32)))])) t → Steps p.tables e below (s₁.setTop (entryFrame m #[(.int p1), (.int p2), (.int p3), (.int p4), (.int p5), (.int p6)] maxLocals)) t := by
    intro t kt
    refine pre0 _ ?_
    show Steps p.tables e below (s₁.setTop (mkF m 0 #[.val (.int p1), .val (.int p2), .val (.int p3), .val (.int p4), .val (.int p5), .val (.int p6), .unset, .unset, .unset, .unset, .unset, .unset, .unset, .unset, .unset] [])) _
    refine XS.iloadN X0.here hx rfl (hb hby at_0) rfl ?_
    show Steps p.tables e below (s₁.setTop (mkF m 1 #[.val (.int p1), .val (.int p2), .val (.int p3), .val (.int p4), .val (.int p5), .val (.int p6), .unset, .unset, .unset, .unset, .unset, .unset, .unset, .unset, .unset] [(.int p2)])) _
    refine X0.ldcInt hx hown (mvT hZ (hw _ (List.mem_of_getElem? (i := 0) rfl))) (g := (mkF m 1 #[.val (.int p1), .val (.int p2), .val (.int p3), .val (.int p4), .val (.int p5), .val (.int p6), .unset, .unset, .unset, .unset, .unset, .unset, .unset, .unset, .unset] [(.int p2)])) rfl (hb hby at_1) _ ?_
    show Steps p.tables e below (s₁.setTop (mkF m 3 #[.val (.int p1), .val (.int p2), .val (.int p3), .val (.int p4), .val (.int p5), .val (.int p6), .unset, .unset, .unset, .unset, .unset, .unset, .unset, .unset, .unset] [(.int (2147483647 : Int32)), (.int p2)])) _
    refine XS.iand X0.here hx rfl (hb hby at_3) rfl ?_
    show Steps p.tables e below (s₁.setTop (mkF m 4 #[.val (.int p1), .val (.int p2), .val (.int p3), .val (.int p4), .val (.int p5), .val (.int p6), .unset, .unset, .unset, .unset, .unset, .unset, .unset, .unset, .unset] [(.int (p2 &&& (2147483647 : Int32)))])) _
    refine XS.istore X0.here hx rfl (hb hby at_4) rfl (l' := #[.val (.int p1), .val (.int p2), .val (.int p3), .val (.int p4), .val (.int p5), .val (.int p6), .val (.int (p2 &&& (2147483647 : Int32))), .unset, .unset, .unset, .unset, .unset, .unset, .unset, .unset]) rfl ?_
    show Steps p.tables e below (s₁.setTop (mkF m 6 #[.val (.int p1), .val (.int p2), .val (.int p3), .val (.int p4), .val (.int p5), .val (.int p6), .val (.int (p2 &&& (2147483647 : Int32))), .unset, .unset, .unset, .unset, .unset, .unset, .unset, .unset] [])) _
    refine XS.iloadN X0.here hx rfl (hb hby at_6) rfl ?_
    show Steps p.tables e below (s₁.setTop (mkF m 7 #[.val (.int p1), .val (.int p2), .val (.int p3), .val (.int p4), .val (.int p5), .val (.int p6), .val (.int (p2 &&& (2147483647 : Int32))), .unset, .unset, .unset, .unset, .unset, .unset, .unset, .unset] [(.int p1)])) _
    refine XS.iconst X0.here hx rfl (hb hby at_7) ?_
    show Steps p.tables e below (s₁.setTop (mkF m 8 #[.val (.int p1), .val (.int p2), .val (.int p3), .val (.int p4), .val (.int p5), .val (.int p6), .val (.int (p2 &&& (2147483647 : Int32))), .unset, .unset, .unset, .unset, .unset, .unset, .unset, .unset] [(.int (1 : Int32)), (.int p1)])) _
    refine XS.iand X0.here hx rfl (hb hby at_8) rfl ?_
    exact kt
  have pre3 : ∀ t, Steps p.tables e below (s₁.setTop (mkF m 17 #[.val (.int p1), .val (.int p2), .val (.int p3), .val (.int p4), .val (.int p5), .val (.int p6), .val (.int (p2 &&& (2147483647 : Int32))), .unset, .unset, .unset, .unset, .unset, .unset, .unset, .unset] [(.int (mg0_9_s0 p1))])) t → Steps p.tables e below (s₁.setTop (entryFrame m #[(.int p1), (.int p2), (.int p3), (.int p4), (.int p5), (.int p6)] maxLocals)) t := by
    intro t kt
    by_cases hc9_2 : (p1 &&& (1 : Int32)) = (0 : Int32)
    · rw [show (mg0_9_s0 p1) = (0 : Int32) from by rw [mg0_9_s0, if_pos hc9_2]] at kt
      refine pre1 _ ?_
      show Steps p.tables e below (s₁.setTop (mkF m 9 #[.val (.int p1), .val (.int p2), .val (.int p3), .val (.int p4), .val (.int p5), .val (.int p6), .val (.int (p2 &&& (2147483647 : Int32))), .unset, .unset, .unset, .unset, .unset, .unset, .unset, .unset] [(.int (p1 &&& (1 : Int32)))])) _
      refine XS.ifYes X0.here hx rfl (pc0 := 9) (pc' := 16) rfl (hb hby at_9) rfl ((if0 _ _).trans (teq hc9_2).1) (by decide) (by decide) ?_
      show Steps p.tables e below (s₁.setTop (mkF m 16 #[.val (.int p1), .val (.int p2), .val (.int p3), .val (.int p4), .val (.int p5), .val (.int p6), .val (.int (p2 &&& (2147483647 : Int32))), .unset, .unset, .unset, .unset, .unset, .unset, .unset, .unset] [])) _
      refine XS.iconst X0.here hx rfl (hb hby at_16) ?_
      exact kt
    · rw [show (mg0_9_s0 p1) = (1 : Int32) from by rw [mg0_9_s0, if_neg hc9_2]] at kt
      refine pre1 _ ?_
      show Steps p.tables e below (s₁.setTop (mkF m 9 #[.val (.int p1), .val (.int p2), .val (.int p3), .val (.int p4), .val (.int p5), .val (.int p6), .val (.int (p2 &&& (2147483647 : Int32))), .unset, .unset, .unset, .unset, .unset, .unset, .unset, .unset] [(.int (p1 &&& (1 : Int32)))])) _
      refine XS.ifNo X0.here hx rfl (hb hby at_9) rfl ((if0 _ _).trans (feq hc9_2).1) ?_
      show Steps p.tables e below (s₁.setTop (mkF m 12 #[.val (.int p1), .val (.int p2), .val (.int p3), .val (.int p4), .val (.int p5), .val (.int p6), .val (.int (p2 &&& (2147483647 : Int32))), .unset, .unset, .unset, .unset, .unset, .unset, .unset, .unset] [])) _
      refine XS.iconst X0.here hx rfl (hb hby at_12) ?_
      show Steps p.tables e below (s₁.setTop (mkF m 13 #[.val (.int p1), .val (.int p2), .val (.int p3), .val (.int p4), .val (.int p5), .val (.int p6), .val (.int (p2 &&& (2147483647 : Int32))), .unset, .unset, .unset, .unset, .unset, .unset, .unset, .unset] [(.int (1 : Int32))])) _
      refine XS.goto X0.here hx rfl (pc0 := 13) (pc' := 17) rfl (hb hby at_13) (by decide) (by decide) ?_
      exact kt
  have pre4 : ∀ t, Steps p.tables e below (s₁.setTop (mkF m 21 #[.val (.int p1), .val (.int p2), .val (.int p3), .val (.int p4), .val (.int p5), .val (.int p6), .val (.int (p2 &&& (2147483647 : Int32))), .val (.int (mg0_9_s0 p1)), .unset, .unset, .unset, .unset, .unset, .unset, .unset] [(.int (mg0_9_s0 p1))])) t → Steps p.tables e below (s₁.setTop (entryFrame m #[(.int p1), (.int p2), (.int p3), (.int p4), (.int p5), (.int p6)] maxLocals)) t := by
    intro t kt
    refine pre3 _ ?_
    show Steps p.tables e below (s₁.setTop (mkF m 17 #[.val (.int p1), .val (.int p2), .val (.int p3), .val (.int p4), .val (.int p5), .val (.int p6), .val (.int (p2 &&& (2147483647 : Int32))), .unset, .unset, .unset, .unset, .unset, .unset, .unset, .unset] [(.int (mg0_9_s0 p1))])) _
    refine XS.istore X0.here hx rfl (hb hby at_17) rfl (l' := #[.val (.int p1), .val (.int p2), .val (.int p3), .val (.int p4), .val (.int p5), .val (.int p6), .val (.int (p2 &&& (2147483647 : Int32))), .val (.int (mg0_9_s0 p1)), .unset, .unset, .unset, .unset, .unset, .unset, .unset]) rfl ?_
    show Steps p.tables e below (s₁.setTop (mkF m 19 #[.val (.int p1), .val (.int p2), .val (.int p3), .val (.int p4), .val (.int p5), .val (.int p6), .val (.int (p2 &&& (2147483647 : Int32))), .val (.int (mg0_9_s0 p1)), .unset, .unset, .unset, .unset, .unset, .unset, .unset] [])) _
    refine XS.iload X0.here hx rfl (hb hby at_19) rfl ?_
    exact kt
  have pre6 : ∀ t, Steps p.tables e below (s₁.setTop (mkF m 33 #[.val (.int p1), .val (.int p2), .val (.int p3), .val (.int p4), .val (.int p5), .val (.int p6), .val (.int (p2 &&& (2147483647 : Int32))), .val (.int (mg0_9_s0 p1)), .unset, .unset, .unset, .unset, .unset, .unset, .unset] [(.int (mg0_21_s0 p1 p2 p5))])) t → Steps p.tables e below (s₁.setTop (entryFrame m #[(.int p1), (.int p2), (.int p3), (.int p4), (.int p5), (.int p6)] maxLocals)) t := by
    intro t kt
    by_cases hc21_5 : (mg0_9_s0 p1) = (0 : Int32)
    · rw [show (mg0_21_s0 p1 p2 p5) = p5 from by rw [mg0_21_s0, if_pos hc21_5]] at kt
      refine pre4 _ ?_
      show Steps p.tables e below (s₁.setTop (mkF m 21 #[.val (.int p1), .val (.int p2), .val (.int p3), .val (.int p4), .val (.int p5), .val (.int p6), .val (.int (p2 &&& (2147483647 : Int32))), .val (.int (mg0_9_s0 p1)), .unset, .unset, .unset, .unset, .unset, .unset, .unset] [(.int (mg0_9_s0 p1))])) _
      refine XS.ifYes X0.here hx rfl (pc0 := 21) (pc' := 31) rfl (hb hby at_21) rfl ((if0 _ _).trans (teq hc21_5).1) (by decide) (by decide) ?_
      show Steps p.tables e below (s₁.setTop (mkF m 31 #[.val (.int p1), .val (.int p2), .val (.int p3), .val (.int p4), .val (.int p5), .val (.int p6), .val (.int (p2 &&& (2147483647 : Int32))), .val (.int (mg0_9_s0 p1)), .unset, .unset, .unset, .unset, .unset, .unset, .unset] [])) _
      refine XS.iload X0.here hx rfl (hb hby at_31) rfl ?_
      exact kt
    · rw [show (mg0_21_s0 p1 p2 p5) = ((p2 &&& (2147483647 : Int32)) - (1 : Int32)) from by rw [mg0_21_s0, if_neg hc21_5]] at kt
      refine pre4 _ ?_
      show Steps p.tables e below (s₁.setTop (mkF m 21 #[.val (.int p1), .val (.int p2), .val (.int p3), .val (.int p4), .val (.int p5), .val (.int p6), .val (.int (p2 &&& (2147483647 : Int32))), .val (.int (mg0_9_s0 p1)), .unset, .unset, .unset, .unset, .unset, .unset, .unset] [(.int (mg0_9_s0 p1))])) _
      refine XS.ifNo X0.here hx rfl (hb hby at_21) rfl ((if0 _ _).trans (feq hc21_5).1) ?_
      show Steps p.tables e below (s₁.setTop (mkF m 24 #[.val (.int p1), .val (.int p2), .val (.int p3), .val (.int p4), .val (.int p5), .val (.int p6), .val (.int (p2 &&& (2147483647 : Int32))), .val (.int (mg0_9_s0 p1)), .unset, .unset, .unset, .unset, .unset, .unset, .unset] [])) _
      refine XS.iload X0.here hx rfl (hb hby at_24) rfl ?_
      show Steps p.tables e below (s₁.setTop (mkF m 26 #[.val (.int p1), .val (.int p2), .val (.int p3), .val (.int p4), .val (.int p5), .val (.int p6), .val (.int (p2 &&& (2147483647 : Int32))), .val (.int (mg0_9_s0 p1)), .unset, .unset, .unset, .unset, .unset, .unset, .unset] [(.int (p2 &&& (2147483647 : Int32)))])) _
      refine XS.iconst X0.here hx rfl (hb hby at_26) ?_
      show Steps p.tables e below (s₁.setTop (mkF m 27 #[.val (.int p1), .val (.int p2), .val (.int p3), .val (.int p4), .val (.int p5), .val (.int p6), .val (.int (p2 &&& (2147483647 : Int32))), .val (.int (mg0_9_s0 p1)), .unset, .unset, .unset, .unset, .unset, .unset, .unset] [(.int (1 : Int32)), (.int (p2 &&& (2147483647 : Int32)))])) _
      refine XS.isub X0.here hx rfl (hb hby at_27) rfl ?_
      show Steps p.tables e below (s₁.setTop (mkF m 28 #[.val (.int p1), .val (.int p2), .val (.int p3), .val (.int p4), .val (.int p5), .val (.int p6), .val (.int (p2 &&& (2147483647 : Int32))), .val (.int (mg0_9_s0 p1)), .unset, .unset, .unset, .unset, .unset, .unset, .unset] [(.int ((p2 &&& (2147483647 : Int32)) - (1 : Int32)))])) _
      refine XS.goto X0.here hx rfl (pc0 := 28) (pc' := 33) rfl (hb hby at_28) (by decide) (by decide) ?_
      exact kt
  obtain ⟨T7, h7, X7, e7, E7, A7, D7, -, st7⟩ := newO X0 hx hZ hown (hw _ (List.mem_of_getElem? (i := 1) rfl)) (hw _ (List.mem_of_getElem? (i := 2) rfl)) (hw _ (List.mem_of_getElem? (i := 3) rfl)) e0 (g := (mkF m 35 #[.val (.int p1), .val (.int p2), .val (.int p3), .val (.int p4), .val (.int p5), .val (.int p6), .val (.int (p2 &&& (2147483647 : Int32))), .val (.int (mg0_9_s0 p1)), .val (.int (mg0_21_s0 p1 p2 p5)), .unset, .unset, .unset, .unset, .unset, .unset] [])) rfl (hb hby at_35) (by decide) (by decide)
  obtain ⟨b7, g7⟩ : ∃ z, z = h0.size := ⟨_, rfl⟩
  rw [← g7] at A7 D7 st7
  have sz_b7 : h0.size ≤ b7 := Nat.le_trans (Keep.refl h0 []).1 (Nat.le_of_eq g7.symm)
  have g_b7 : n0 ≤ b7 := Nat.le_trans Z0 sz_b7
  have K7 : Keep h0 h7 [] := (Keep.refl h0 []).ext E7
  have F_start_b7 : Fld Z h7 b7 "com/example/whereas/whereas/Scope" "start" "I" (.int (0 : Int32)) := D7 (Or.inr (hw _ (List.mem_of_getElem? (i := 23) rfl))) (ty := .int) (by decide)
  have F_end_b7 : Fld Z h7 b7 "com/example/whereas/whereas/Scope" "end" "I" (.int (0 : Int32)) := D7 (Or.inr (hw _ (List.mem_of_getElem? (i := 25) rfl))) (ty := .int) (by decide)
  have F_startColumn_b7 : Fld Z h7 b7 "com/example/whereas/whereas/Scope" "startColumn" "I" (.int (0 : Int32)) := D7 (Or.inr (hw _ (List.mem_of_getElem? (i := 27) rfl))) (ty := .int) (by decide)
  have F_endColumn_b7 : Fld Z h7 b7 "com/example/whereas/whereas/Scope" "endColumn" "I" (.int (0 : Int32)) := D7 (Or.inr (hw _ (List.mem_of_getElem? (i := 29) rfl))) (ty := .int) (by decide)
  have F_untoldStart_b7 : Fld Z h7 b7 "com/example/whereas/whereas/Scope" "untoldStart" "Lcom/example/whereas/whereas/Untold;" .null := D7 (Or.inr (hw _ (List.mem_of_getElem? (i := 31) rfl))) (ty := (.object "com/example/whereas/whereas/Untold")) (by decide)
  have F_untoldEnd_b7 : Fld Z h7 b7 "com/example/whereas/whereas/Scope" "untoldEnd" "Lcom/example/whereas/whereas/Untold;" .null := D7 (Or.inr (hw _ (List.mem_of_getElem? (i := 33) rfl))) (ty := (.object "com/example/whereas/whereas/Untold")) (by decide)
  obtain ⟨_, _, ⟨T8, L8, k8, n8⟩, -, X8, ⟨Lc8, hQ8, l8, y8, z8⟩, st8⟩ := Jvm.LawKit.callS X7 hx (y := (⟨"com/example/whereas/whereas/ScopeReachesPinLaw", "untold", "(I)Lcom/example/whereas/whereas/Untold;"⟩ : MethodName)) hown (mvT hZ (hw _ (List.mem_of_getElem? (i := 4) rfl))) (mvT hZ (hw _ (List.mem_of_getElem? (i := 5) rfl))) (mvT hZ (hw _ (List.mem_of_getElem? (i := 6) rfl))) (mvT hZ (hw _ (List.mem_of_getElem? (i := 7) rfl))) (by decide) (backOf (W := 6) (rm1 l Z a0 hw [] (((p1.toUInt32 >>> ((1 : Int32) &&& 31).toUInt32).toInt32) % (5 : Int32)) w_NOTHING w_HEADING w_LIST_END w_FULL_STOP w_INITIAL h7 n0 (Nat.le_trans Z0 K7.1) (S_NOTHING.ext E7) (S_HEADING.ext E7) (S_LIST_END.ext E7) (S_FULL_STOP.ext E7) (S_INITIAL.ext E7) ) hZ (hw _ (List.mem_of_getElem? (i := 7) rfl)) (hw _ (List.mem_of_getElem? (i := 6) rfl)) (by decide) (by decide)) (g := (mkF m 49 #[.val (.int p1), .val (.int p2), .val (.int p3), .val (.int p4), .val (.int p5), .val (.int p6), .val (.int (p2 &&& (2147483647 : Int32))), .val (.int (mg0_9_s0 p1)), .val (.int (mg0_21_s0 p1 p2 p5)), .unset, .unset, .unset, .unset, .unset, .unset] [(.int (((p1.toUInt32 >>> ((1 : Int32) &&& 31).toUInt32).toInt32) % (5 : Int32))), (.int p4), (.int p3), (.int (p2 &&& (2147483647 : Int32))), (.int p1), (.ref b7), (.ref b7)])) rfl (by rw [hml]; rfl) (argsL := [(.int (((p1.toUInt32 >>> ((1 : Int32) &&& 31).toUInt32).toInt32) % (5 : Int32)))]) (rest := [(.int p4), (.int p3), (.int (p2 &&& (2147483647 : Int32))), (.int p1), (.ref b7), (.ref b7)]) (lenOf pd2 rfl) rfl (by show 2 * 0 + _ ≤ _; exact Nat.le_of_eq rfl) (hb hby at_49) (fun _ _ => ⟨rfl, e7, (by decide : 1 + 0 ≤ _), (by decide : 6 + 0 ≤ _)⟩)
  dsimp only [Pt.U, Pt.locs, Pt.cells, Pt.slots] at X8 l8 y8 z8 st8 hQ8
  subst l8 y8 z8
  obtain ⟨rfl, rfl, e8⟩ := hQ8
  have N8 := Fr.app N0 (Fr.nil n0)
  obtain ⟨_, _, ⟨T9, L9, k9, n9⟩, -, X9, ⟨Lc9, hQ9, l9, y9, z9⟩, st9⟩ := Jvm.LawKit.callS X8 hx (y := (⟨"com/example/whereas/whereas/ScopeReachesPinLaw", "untold", "(I)Lcom/example/whereas/whereas/Untold;"⟩ : MethodName)) hown (mvT hZ (hw _ (List.mem_of_getElem? (i := 4) rfl))) (mvT hZ (hw _ (List.mem_of_getElem? (i := 5) rfl))) (mvT hZ (hw _ (List.mem_of_getElem? (i := 6) rfl))) (mvT hZ (hw _ (List.mem_of_getElem? (i := 7) rfl))) (by decide) (backOf (W := 7) (rm1 l Z a0 hw [] (((p1.toUInt32 >>> ((4 : Int32) &&& 31).toUInt32).toInt32) % (5 : Int32)) w_NOTHING w_HEADING w_LIST_END w_FULL_STOP w_INITIAL h7 n0 (Nat.le_trans Z0 K7.1) (S_NOTHING.ext E7) (S_HEADING.ext E7) (S_LIST_END.ext E7) (S_FULL_STOP.ext E7) (S_INITIAL.ext E7) ) hZ (hw _ (List.mem_of_getElem? (i := 7) rfl)) (hw _ (List.mem_of_getElem? (i := 6) rfl)) (by decide) (by decide)) (g := (mkF m 57 #[.val (.int p1), .val (.int p2), .val (.int p3), .val (.int p4), .val (.int p5), .val (.int p6), .val (.int (p2 &&& (2147483647 : Int32))), .val (.int (mg0_9_s0 p1)), .val (.int (mg0_21_s0 p1 p2 p5)), .unset, .unset, .unset, .unset, .unset, .unset] [(.int (((p1.toUInt32 >>> ((4 : Int32) &&& 31).toUInt32).toInt32) % (5 : Int32))), (.ref (res1 (((p1.toUInt32 >>> ((1 : Int32) &&& 31).toUInt32).toInt32) % (5 : Int32)) w_NOTHING w_HEADING w_LIST_END w_FULL_STOP w_INITIAL)), (.int p4), (.int p3), (.int (p2 &&& (2147483647 : Int32))), (.int p1), (.ref b7), (.ref b7)])) rfl (by rw [hml]; rfl) (argsL := [(.int (((p1.toUInt32 >>> ((4 : Int32) &&& 31).toUInt32).toInt32) % (5 : Int32)))]) (rest := [(.ref (res1 (((p1.toUInt32 >>> ((1 : Int32) &&& 31).toUInt32).toInt32) % (5 : Int32)) w_NOTHING w_HEADING w_LIST_END w_FULL_STOP w_INITIAL)), (.int p4), (.int p3), (.int (p2 &&& (2147483647 : Int32))), (.int p1), (.ref b7), (.ref b7)]) (lenOf pd2 rfl) rfl (by show 2 * 0 + _ ≤ _; exact Nat.le_of_eq rfl) (hb hby at_57) (fun _ _ => ⟨rfl, e8, (by decide : 1 + 0 ≤ _), (by decide : 6 + 0 ≤ _)⟩)
  dsimp only [Pt.U, Pt.locs, Pt.cells, Pt.slots] at X9 l9 y9 z9 st9 hQ9
  subst l9 y9 z9
  obtain ⟨rfl, rfl, e9⟩ := hQ9
  have N9 := Fr.app N8 (Fr.nil n0)
  obtain ⟨_, _, ⟨T10, L10, k10, n10⟩, -, X10, ⟨Lc10, hQ10, l10, y10, z10⟩, st10⟩ := X9.specialBack hx (y := (⟨"com/example/whereas/whereas/Scope", "<init>", "(IIIILcom/example/whereas/whereas/Untold;Lcom/example/whereas/whereas/Untold;)V"⟩ : MethodName)) rfl hown (mvT hZ (hw _ (List.mem_of_getElem? (i := 11) rfl))) (mvT hZ (hw _ (List.mem_of_getElem? (i := 12) rfl))) (mvT hZ (hw _ (List.mem_of_getElem? (i := 13) rfl))) (by decide) (backOf (W := 1) (rm2 l Z a0 hw [] b7 p1 (p2 &&& (2147483647 : Int32)) p3 p4 (res1 (((p1.toUInt32 >>> ((1 : Int32) &&& 31).toUInt32).toInt32) % (5 : Int32)) w_NOTHING w_HEADING w_LIST_END w_FULL_STOP w_INITIAL) (res1 (((p1.toUInt32 >>> ((4 : Int32) &&& 31).toUInt32).toInt32) % (5 : Int32)) w_NOTHING w_HEADING w_LIST_END w_FULL_STOP w_INITIAL) (.int (0 : Int32)) (.int (0 : Int32)) (.int (0 : Int32)) (.int (0 : Int32)) .null .null h7 n0 (Nat.le_trans Z0 K7.1) A7 F_start_b7 g_b7 F_end_b7 F_startColumn_b7 F_endColumn_b7 F_untoldStart_b7 F_untoldEnd_b7 ) hZ (hw _ (List.mem_of_getElem? (i := 13) rfl)) (hw _ (List.mem_of_getElem? (i := 3) rfl)) (by decide) (by decide)) (g := (mkF m 60 #[.val (.int p1), .val (.int p2), .val (.int p3), .val (.int p4), .val (.int p5), .val (.int p6), .val (.int (p2 &&& (2147483647 : Int32))), .val (.int (mg0_9_s0 p1)), .val (.int (mg0_21_s0 p1 p2 p5)), .unset, .unset, .unset, .unset, .unset, .unset] [(.ref (res1 (((p1.toUInt32 >>> ((4 : Int32) &&& 31).toUInt32).toInt32) % (5 : Int32)) w_NOTHING w_HEADING w_LIST_END w_FULL_STOP w_INITIAL)), (.ref (res1 (((p1.toUInt32 >>> ((1 : Int32) &&& 31).toUInt32).toInt32) % (5 : Int32)) w_NOTHING w_HEADING w_LIST_END w_FULL_STOP w_INITIAL)), (.int p4), (.int p3), (.int (p2 &&& (2147483647 : Int32))), (.int p1), (.ref b7), (.ref b7)])) rfl (by rw [hml]; rfl) (Steps.refl _) (a := b7) (argsL := [(.int p1), (.int (p2 &&& (2147483647 : Int32))), (.int p3), (.int p4), (.ref (res1 (((p1.toUInt32 >>> ((1 : Int32) &&& 31).toUInt32).toInt32) % (5 : Int32)) w_NOTHING w_HEADING w_LIST_END w_FULL_STOP w_INITIAL)), (.ref (res1 (((p1.toUInt32 >>> ((4 : Int32) &&& 31).toUInt32).toInt32) % (5 : Int32)) w_NOTHING w_HEADING w_LIST_END w_FULL_STOP w_INITIAL))]) (rest := [(.ref b7)]) (lenOf pd3 rfl) rfl (by show 2 * 0 + _ ≤ _; exact Nat.le_of_eq rfl) (hb hby at_60) (fun _ _ => ⟨rfl, e9, (by decide : 1 + 0 ≤ _), (by decide : 6 + 0 ≤ _)⟩)
  dsimp only [Pt.U, Pt.locs, Pt.cells, Pt.slots] at X10 l10 y10 z10 st10 hQ10
  subst l10 y10 z10
  obtain ⟨rfl, N10q, K10, f10_0, f10_1, f10_2, f10_3, f10_4, f10_5, f10_6⟩ := hQ10
  have N10 := Fr.app N9 N10q
  have KK10 : Keep h0 T10.heap [] := K7.trans K10 (allS (Or.inr sz_b7) all0)
  obtain ⟨T11, h11, X11, e11, E11, A11, D11, -, st11⟩ := newO X10 hx hZ hown (hw _ (List.mem_of_getElem? (i := 1) rfl)) (hw _ (List.mem_of_getElem? (i := 2) rfl)) (hw _ (List.mem_of_getElem? (i := 3) rfl)) rfl (g := (mkF m 65 #[.val (.int p1), .val (.int p2), .val (.int p3), .val (.int p4), .val (.int p5), .val (.int p6), .val (.int (p2 &&& (2147483647 : Int32))), .val (.int (mg0_9_s0 p1)), .val (.int (mg0_21_s0 p1 p2 p5)), .val (.ref b7), .unset, .unset, .unset, .unset, .unset] [])) rfl (hb hby at_65) (by decide) (by decide)
  obtain ⟨b11, g11⟩ : ∃ z, z = T10.heap.size := ⟨_, rfl⟩
  rw [← g11] at A11 D11 st11
  have sz_b11 : h0.size ≤ b11 := Nat.le_trans KK10.1 (Nat.le_of_eq g11.symm)
  have g_b11 : n0 ≤ b11 := Nat.le_trans Z0 sz_b11
  have K11 : Keep h0 h11 [] := KK10.ext E11
  have F_start_b11 : Fld Z h11 b11 "com/example/whereas/whereas/Scope" "start" "I" (.int (0 : Int32)) := D11 (Or.inr (hw _ (List.mem_of_getElem? (i := 23) rfl))) (ty := .int) (by decide)
  have F_end_b11 : Fld Z h11 b11 "com/example/whereas/whereas/Scope" "end" "I" (.int (0 : Int32)) := D11 (Or.inr (hw _ (List.mem_of_getElem? (i := 25) rfl))) (ty := .int) (by decide)
  have F_startColumn_b11 : Fld Z h11 b11 "com/example/whereas/whereas/Scope" "startColumn" "I" (.int (0 : Int32)) := D11 (Or.inr (hw _ (List.mem_of_getElem? (i := 27) rfl))) (ty := .int) (by decide)
  have F_endColumn_b11 : Fld Z h11 b11 "com/example/whereas/whereas/Scope" "endColumn" "I" (.int (0 : Int32)) := D11 (Or.inr (hw _ (List.mem_of_getElem? (i := 29) rfl))) (ty := .int) (by decide)
  have F_untoldStart_b11 : Fld Z h11 b11 "com/example/whereas/whereas/Scope" "untoldStart" "Lcom/example/whereas/whereas/Untold;" .null := D11 (Or.inr (hw _ (List.mem_of_getElem? (i := 31) rfl))) (ty := (.object "com/example/whereas/whereas/Untold")) (by decide)
  have F_untoldEnd_b11 : Fld Z h11 b11 "com/example/whereas/whereas/Scope" "untoldEnd" "Lcom/example/whereas/whereas/Untold;" .null := D11 (Or.inr (hw _ (List.mem_of_getElem? (i := 33) rfl))) (ty := (.object "com/example/whereas/whereas/Untold")) (by decide)
  obtain ⟨_, _, ⟨T12, L12, k12, n12⟩, -, X12, ⟨Lc12, hQ12, l12, y12, z12⟩, st12⟩ := Jvm.LawKit.callS X11 hx (y := (⟨"com/example/whereas/whereas/ScopeReachesPinLaw", "untold", "(I)Lcom/example/whereas/whereas/Untold;"⟩ : MethodName)) hown (mvT hZ (hw _ (List.mem_of_getElem? (i := 4) rfl))) (mvT hZ (hw _ (List.mem_of_getElem? (i := 5) rfl))) (mvT hZ (hw _ (List.mem_of_getElem? (i := 6) rfl))) (mvT hZ (hw _ (List.mem_of_getElem? (i := 7) rfl))) (by decide) (backOf (W := 6) (rm1 l Z a0 hw [] (((p5.toUInt32 >>> ((1 : Int32) &&& 31).toUInt32).toInt32) % (5 : Int32)) w_NOTHING w_HEADING w_LIST_END w_FULL_STOP w_INITIAL h11 n0 (Nat.le_trans Z0 K11.1) ((own_sta_keep (S_NOTHING.ext E7) K10 (allS (own_exa_ns A7) all0)).ext E11) ((own_sta_keep (S_HEADING.ext E7) K10 (allS (own_exa_ns A7) all0)).ext E11) ((own_sta_keep (S_LIST_END.ext E7) K10 (allS (own_exa_ns A7) all0)).ext E11) ((own_sta_keep (S_FULL_STOP.ext E7) K10 (allS (own_exa_ns A7) all0)).ext E11) ((own_sta_keep (S_INITIAL.ext E7) K10 (allS (own_exa_ns A7) all0)).ext E11) ) hZ (hw _ (List.mem_of_getElem? (i := 7) rfl)) (hw _ (List.mem_of_getElem? (i := 6) rfl)) (by decide) (by decide)) (g := (mkF m 82 #[.val (.int p1), .val (.int p2), .val (.int p3), .val (.int p4), .val (.int p5), .val (.int p6), .val (.int (p2 &&& (2147483647 : Int32))), .val (.int (mg0_9_s0 p1)), .val (.int (mg0_21_s0 p1 p2 p5)), .val (.ref b7), .unset, .unset, .unset, .unset, .unset] [(.int (((p5.toUInt32 >>> ((1 : Int32) &&& 31).toUInt32).toInt32) % (5 : Int32))), (.int p4), (.int p6), (.int (p2 &&& (2147483647 : Int32))), (.int (mg0_21_s0 p1 p2 p5)), (.ref b11), (.ref b11)])) rfl (by rw [hml]; rfl) (argsL := [(.int (((p5.toUInt32 >>> ((1 : Int32) &&& 31).toUInt32).toInt32) % (5 : Int32)))]) (rest := [(.int p4), (.int p6), (.int (p2 &&& (2147483647 : Int32))), (.int (mg0_21_s0 p1 p2 p5)), (.ref b11), (.ref b11)]) (lenOf pd2 rfl) rfl (by show 2 * 0 + _ ≤ _; exact Nat.le_of_eq rfl) (hb hby at_82) (fun _ _ => ⟨rfl, e11, (by decide : 2 + 0 ≤ _), (by decide : 12 + 0 ≤ _)⟩)
  dsimp only [Pt.U, Pt.locs, Pt.cells, Pt.slots] at X12 l12 y12 z12 st12 hQ12
  subst l12 y12 z12
  obtain ⟨rfl, rfl, e12⟩ := hQ12
  have N12 := Fr.app N10 (Fr.nil n0)
  obtain ⟨_, _, ⟨T13, L13, k13, n13⟩, -, X13, ⟨Lc13, hQ13, l13, y13, z13⟩, st13⟩ := Jvm.LawKit.callS X12 hx (y := (⟨"com/example/whereas/whereas/ScopeReachesPinLaw", "untold", "(I)Lcom/example/whereas/whereas/Untold;"⟩ : MethodName)) hown (mvT hZ (hw _ (List.mem_of_getElem? (i := 4) rfl))) (mvT hZ (hw _ (List.mem_of_getElem? (i := 5) rfl))) (mvT hZ (hw _ (List.mem_of_getElem? (i := 6) rfl))) (mvT hZ (hw _ (List.mem_of_getElem? (i := 7) rfl))) (by decide) (backOf (W := 7) (rm1 l Z a0 hw [] (((p3.toUInt32 >>> ((1 : Int32) &&& 31).toUInt32).toInt32) % (5 : Int32)) w_NOTHING w_HEADING w_LIST_END w_FULL_STOP w_INITIAL h11 n0 (Nat.le_trans Z0 K11.1) ((own_sta_keep (S_NOTHING.ext E7) K10 (allS (own_exa_ns A7) all0)).ext E11) ((own_sta_keep (S_HEADING.ext E7) K10 (allS (own_exa_ns A7) all0)).ext E11) ((own_sta_keep (S_LIST_END.ext E7) K10 (allS (own_exa_ns A7) all0)).ext E11) ((own_sta_keep (S_FULL_STOP.ext E7) K10 (allS (own_exa_ns A7) all0)).ext E11) ((own_sta_keep (S_INITIAL.ext E7) K10 (allS (own_exa_ns A7) all0)).ext E11) ) hZ (hw _ (List.mem_of_getElem? (i := 7) rfl)) (hw _ (List.mem_of_getElem? (i := 6) rfl)) (by decide) (by decide)) (g := (mkF m 90 #[.val (.int p1), .val (.int p2), .val (.int p3), .val (.int p4), .val (.int p5), .val (.int p6), .val (.int (p2 &&& (2147483647 : Int32))), .val (.int (mg0_9_s0 p1)), .val (.int (mg0_21_s0 p1 p2 p5)), .val (.ref b7), .unset, .unset, .unset, .unset, .unset] [(.int (((p3.toUInt32 >>> ((1 : Int32) &&& 31).toUInt32).toInt32) % (5 : Int32))), (.ref (res1 (((p5.toUInt32 >>> ((1 : Int32) &&& 31).toUInt32).toInt32) % (5 : Int32)) w_NOTHING w_HEADING w_LIST_END w_FULL_STOP w_INITIAL)), (.int p4), (.int p6), (.int (p2 &&& (2147483647 : Int32))), (.int (mg0_21_s0 p1 p2 p5)), (.ref b11), (.ref b11)])) rfl (by rw [hml]; rfl) (argsL := [(.int (((p3.toUInt32 >>> ((1 : Int32) &&& 31).toUInt32).toInt32) % (5 : Int32)))]) (rest := [(.ref (res1 (((p5.toUInt32 >>> ((1 : Int32) &&& 31).toUInt32).toInt32) % (5 : Int32)) w_NOTHING w_HEADING w_LIST_END w_FULL_STOP w_INITIAL)), (.int p4), (.int p6), (.int (p2 &&& (2147483647 : Int32))), (.int (mg0_21_s0 p1 p2 p5)), (.ref b11), (.ref b11)]) (lenOf pd2 rfl) rfl (by show 2 * 0 + _ ≤ _; exact Nat.le_of_eq rfl) (hb hby at_90) (fun _ _ => ⟨rfl, e12, (by decide : 2 + 0 ≤ _), (by decide : 12 + 0 ≤ _)⟩)
  dsimp only [Pt.U, Pt.locs, Pt.cells, Pt.slots] at X13 l13 y13 z13 st13 hQ13
  subst l13 y13 z13
  obtain ⟨rfl, rfl, e13⟩ := hQ13
  have N13 := Fr.app N12 (Fr.nil n0)
  obtain ⟨_, _, ⟨T14, L14, k14, n14⟩, -, X14, ⟨Lc14, hQ14, l14, y14, z14⟩, st14⟩ := X13.specialBack hx (y := (⟨"com/example/whereas/whereas/Scope", "<init>", "(IIIILcom/example/whereas/whereas/Untold;Lcom/example/whereas/whereas/Untold;)V"⟩ : MethodName)) rfl hown (mvT hZ (hw _ (List.mem_of_getElem? (i := 11) rfl))) (mvT hZ (hw _ (List.mem_of_getElem? (i := 12) rfl))) (mvT hZ (hw _ (List.mem_of_getElem? (i := 13) rfl))) (by decide) (backOf (W := 1) (rm2 l Z a0 hw [] b11 (mg0_21_s0 p1 p2 p5) (p2 &&& (2147483647 : Int32)) p6 p4 (res1 (((p5.toUInt32 >>> ((1 : Int32) &&& 31).toUInt32).toInt32) % (5 : Int32)) w_NOTHING w_HEADING w_LIST_END w_FULL_STOP w_INITIAL) (res1 (((p3.toUInt32 >>> ((1 : Int32) &&& 31).toUInt32).toInt32) % (5 : Int32)) w_NOTHING w_HEADING w_LIST_END w_FULL_STOP w_INITIAL) (.int (0 : Int32)) (.int (0 : Int32)) (.int (0 : Int32)) (.int (0 : Int32)) .null .null h11 n0 (Nat.le_trans Z0 K11.1) A11 F_start_b11 g_b11 F_end_b11 F_startColumn_b11 F_endColumn_b11 F_untoldStart_b11 F_untoldEnd_b11 ) hZ (hw _ (List.mem_of_getElem? (i := 13) rfl)) (hw _ (List.mem_of_getElem? (i := 3) rfl)) (by decide) (by decide)) (g := (mkF m 93 #[.val (.int p1), .val (.int p2), .val (.int p3), .val (.int p4), .val (.int p5), .val (.int p6), .val (.int (p2 &&& (2147483647 : Int32))), .val (.int (mg0_9_s0 p1)), .val (.int (mg0_21_s0 p1 p2 p5)), .val (.ref b7), .unset, .unset, .unset, .unset, .unset] [(.ref (res1 (((p3.toUInt32 >>> ((1 : Int32) &&& 31).toUInt32).toInt32) % (5 : Int32)) w_NOTHING w_HEADING w_LIST_END w_FULL_STOP w_INITIAL)), (.ref (res1 (((p5.toUInt32 >>> ((1 : Int32) &&& 31).toUInt32).toInt32) % (5 : Int32)) w_NOTHING w_HEADING w_LIST_END w_FULL_STOP w_INITIAL)), (.int p4), (.int p6), (.int (p2 &&& (2147483647 : Int32))), (.int (mg0_21_s0 p1 p2 p5)), (.ref b11), (.ref b11)])) rfl (by rw [hml]; rfl) (Steps.refl _) (a := b11) (argsL := [(.int (mg0_21_s0 p1 p2 p5)), (.int (p2 &&& (2147483647 : Int32))), (.int p6), (.int p4), (.ref (res1 (((p5.toUInt32 >>> ((1 : Int32) &&& 31).toUInt32).toInt32) % (5 : Int32)) w_NOTHING w_HEADING w_LIST_END w_FULL_STOP w_INITIAL)), (.ref (res1 (((p3.toUInt32 >>> ((1 : Int32) &&& 31).toUInt32).toInt32) % (5 : Int32)) w_NOTHING w_HEADING w_LIST_END w_FULL_STOP w_INITIAL))]) (rest := [(.ref b11)]) (lenOf pd3 rfl) rfl (by show 2 * 0 + _ ≤ _; exact Nat.le_of_eq rfl) (hb hby at_93) (fun _ _ => ⟨rfl, e13, (by decide : 2 + 0 ≤ _), (by decide : 12 + 0 ≤ _)⟩)
  dsimp only [Pt.U, Pt.locs, Pt.cells, Pt.slots] at X14 l14 y14 z14 st14 hQ14
  subst l14 y14 z14
  obtain ⟨rfl, N14q, K14, f14_0, f14_1, f14_2, f14_3, f14_4, f14_5, f14_6⟩ := hQ14
  have N14 := Fr.app N13 N14q
  have KK14 : Keep h0 T14.heap [] := K11.trans K14 (allS (Or.inr sz_b11) all0)
  obtain ⟨cq15, kq15, q15a, q15b, q15c⟩ := isOf hZ rfl (((A7.keep K10).ext E11).keep K14)
  obtain ⟨_, _, ⟨T15, L15, k15, n15⟩, -, X15, ⟨Lc15, hQ15, l15, y15, z15⟩, st15⟩ := X14.virtualBack hx (y := (⟨"com/example/whereas/whereas/Scope", "reaches", "(Lcom/example/whereas/whereas/Scope;)Z"⟩ : MethodName)) (z := (⟨"com/example/whereas/whereas/Scope", "reaches", "(Lcom/example/whereas/whereas/Scope;)Z"⟩ : MethodName)) hown (mvT hZ (hw _ (List.mem_of_getElem? (i := 36) rfl))) (mvT hZ (hw _ (List.mem_of_getElem? (i := 37) rfl))) (notFace_of_selects (args := #[]) (mvT hZ (hw _ (List.mem_of_getElem? (i := 39) rfl)))) (mvT hZ (hw _ (List.mem_of_getElem? (i := 39) rfl))) (mvT hZ (hw _ (List.mem_of_getElem? (i := 38) rfl))) (by decide) (backOf (W := 0) (rm5 l Z a0 hw [] b7 b11 (p2 &&& (2147483647 : Int32)) (mg0_21_s0 p1 p2 p5) p4 p6 T14.heap n0 (Nat.le_trans Z0 KK14.1) ((f10_2.ext E11).keep K14 (ninS (Nat.ne_of_lt (Nat.lt_of_lt_of_le (A7.keep K10).lt (Nat.le_of_eq g11.symm))) nin0)) f14_1 (A11.keep K14) ((f10_4.ext E11).keep K14 (ninS (Nat.ne_of_lt (Nat.lt_of_lt_of_le (A7.keep K10).lt (Nat.le_of_eq g11.symm))) nin0)) f14_3 ) hZ (hw _ (List.mem_of_getElem? (i := 40) rfl)) (hw _ (List.mem_of_getElem? (i := 3) rfl)) (by decide) (by decide)) q15a q15c (g := (mkF m 102 #[.val (.int p1), .val (.int p2), .val (.int p3), .val (.int p4), .val (.int p5), .val (.int p6), .val (.int (p2 &&& (2147483647 : Int32))), .val (.int (mg0_9_s0 p1)), .val (.int (mg0_21_s0 p1 p2 p5)), .val (.ref b7), .val (.ref b11), .unset, .unset, .unset, .unset] [(.ref b11), (.ref b7)])) rfl (by rw [hml]; rfl) (Steps.refl _) (argsL := [(.ref b11)]) (rest := []) (lenOf pd4 rfl) rfl (by show 2 * 0 + _ ≤ _; exact Nat.le_of_eq rfl) (hb hby at_102) (fun _ _ => ⟨rfl, rfl, (by decide : 2 + 0 ≤ _), (by decide : 12 + 0 ≤ _)⟩)
  dsimp only [Pt.U, Pt.locs, Pt.cells, Pt.slots] at X15 l15 y15 z15 st15 hQ15
  subst l15 y15 z15
  obtain ⟨rfl, rfl, e15⟩ := hQ15
  have N15 := Fr.app N14 (Fr.nil n0)
  have pre16 : ∀ t, Steps p.tables e below (T15.setTop (mkF m 120 #[.val (.int p1), .val (.int p2), .val (.int p3), .val (.int p4), .val (.int p5), .val (.int p6), .val (.int (p2 &&& (2147483647 : Int32))), .val (.int (mg0_9_s0 p1)), .val (.int (mg0_21_s0 p1 p2 p5)), .val (.ref b7), .val (.ref b11), .val (.int (res5 (p2 &&& (2147483647 : Int32)) (mg0_21_s0 p1 p2 p5) p4 p6)), .val (.long (((p2 &&& (2147483647 : Int32)).toInt64) - ((mg0_21_s0 p1 p2 p5).toInt64))), .second, .unset] [(.int (lcmpW (((p2 &&& (2147483647 : Int32)).toInt64) - ((mg0_21_s0 p1 p2 p5).toInt64)) (1 : Int64)))])) t → Steps p.tables e below (s₁.setTop (entryFrame m #[(.int p1), (.int p2), (.int p3), (.int p4), (.int p5), (.int p6)] maxLocals)) t := by
    intro t kt
    refine pre6 _ ?_
    show Steps p.tables e below (s₁.setTop (mkF m 33 #[.val (.int p1), .val (.int p2), .val (.int p3), .val (.int p4), .val (.int p5), .val (.int p6), .val (.int (p2 &&& (2147483647 : Int32))), .val (.int (mg0_9_s0 p1)), .unset, .unset, .unset, .unset, .unset, .unset, .unset] [(.int (mg0_21_s0 p1 p2 p5))])) _
    refine XS.istore X0.here hx rfl (hb hby at_33) rfl (l' := #[.val (.int p1), .val (.int p2), .val (.int p3), .val (.int p4), .val (.int p5), .val (.int p6), .val (.int (p2 &&& (2147483647 : Int32))), .val (.int (mg0_9_s0 p1)), .val (.int (mg0_21_s0 p1 p2 p5)), .unset, .unset, .unset, .unset, .unset, .unset]) rfl ?_
    show Steps p.tables e below (s₁.setTop (mkF m 35 #[.val (.int p1), .val (.int p2), .val (.int p3), .val (.int p4), .val (.int p5), .val (.int p6), .val (.int (p2 &&& (2147483647 : Int32))), .val (.int (mg0_9_s0 p1)), .val (.int (mg0_21_s0 p1 p2 p5)), .unset, .unset, .unset, .unset, .unset, .unset] [])) _
    refine st7 _ ?_
    show Steps p.tables e below (T7.setTop (mkF m 38 #[.val (.int p1), .val (.int p2), .val (.int p3), .val (.int p4), .val (.int p5), .val (.int p6), .val (.int (p2 &&& (2147483647 : Int32))), .val (.int (mg0_9_s0 p1)), .val (.int (mg0_21_s0 p1 p2 p5)), .unset, .unset, .unset, .unset, .unset, .unset] [(.ref b7)])) _
    refine XS.dup X7.here hx rfl (hb hby at_38) rfl rfl ?_
    show Steps p.tables e below (T7.setTop (mkF m 39 #[.val (.int p1), .val (.int p2), .val (.int p3), .val (.int p4), .val (.int p5), .val (.int p6), .val (.int (p2 &&& (2147483647 : Int32))), .val (.int (mg0_9_s0 p1)), .val (.int (mg0_21_s0 p1 p2 p5)), .unset, .unset, .unset, .unset, .unset, .unset] [(.ref b7), (.ref b7)])) _
    refine XS.iloadN X7.here hx rfl (hb hby at_39) rfl ?_
    show Steps p.tables e below (T7.setTop (mkF m 40 #[.val (.int p1), .val (.int p2), .val (.int p3), .val (.int p4), .val (.int p5), .val (.int p6), .val (.int (p2 &&& (2147483647 : Int32))), .val (.int (mg0_9_s0 p1)), .val (.int (mg0_21_s0 p1 p2 p5)), .unset, .unset, .unset, .unset, .unset, .unset] [(.int p1), (.ref b7), (.ref b7)])) _
    refine XS.iload X7.here hx rfl (hb hby at_40) rfl ?_
    show Steps p.tables e below (T7.setTop (mkF m 42 #[.val (.int p1), .val (.int p2), .val (.int p3), .val (.int p4), .val (.int p5), .val (.int p6), .val (.int (p2 &&& (2147483647 : Int32))), .val (.int (mg0_9_s0 p1)), .val (.int (mg0_21_s0 p1 p2 p5)), .unset, .unset, .unset, .unset, .unset, .unset] [(.int (p2 &&& (2147483647 : Int32))), (.int p1), (.ref b7), (.ref b7)])) _
    refine XS.iloadN X7.here hx rfl (hb hby at_42) rfl ?_
    show Steps p.tables e below (T7.setTop (mkF m 43 #[.val (.int p1), .val (.int p2), .val (.int p3), .val (.int p4), .val (.int p5), .val (.int p6), .val (.int (p2 &&& (2147483647 : Int32))), .val (.int (mg0_9_s0 p1)), .val (.int (mg0_21_s0 p1 p2 p5)), .unset, .unset, .unset, .unset, .unset, .unset] [(.int p3), (.int (p2 &&& (2147483647 : Int32))), (.int p1), (.ref b7), (.ref b7)])) _
    refine XS.iloadN X7.here hx rfl (hb hby at_43) rfl ?_
    show Steps p.tables e below (T7.setTop (mkF m 44 #[.val (.int p1), .val (.int p2), .val (.int p3), .val (.int p4), .val (.int p5), .val (.int p6), .val (.int (p2 &&& (2147483647 : Int32))), .val (.int (mg0_9_s0 p1)), .val (.int (mg0_21_s0 p1 p2 p5)), .unset, .unset, .unset, .unset, .unset, .unset] [(.int p4), (.int p3), (.int (p2 &&& (2147483647 : Int32))), (.int p1), (.ref b7), (.ref b7)])) _
    refine XS.iloadN X7.here hx rfl (hb hby at_44) rfl ?_
    show Steps p.tables e below (T7.setTop (mkF m 45 #[.val (.int p1), .val (.int p2), .val (.int p3), .val (.int p4), .val (.int p5), .val (.int p6), .val (.int (p2 &&& (2147483647 : Int32))), .val (.int (mg0_9_s0 p1)), .val (.int (mg0_21_s0 p1 p2 p5)), .unset, .unset, .unset, .unset, .unset, .unset] [(.int p1), (.int p4), (.int p3), (.int (p2 &&& (2147483647 : Int32))), (.int p1), (.ref b7), (.ref b7)])) _
    refine XS.iconst X7.here hx rfl (hb hby at_45) ?_
    show Steps p.tables e below (T7.setTop (mkF m 46 #[.val (.int p1), .val (.int p2), .val (.int p3), .val (.int p4), .val (.int p5), .val (.int p6), .val (.int (p2 &&& (2147483647 : Int32))), .val (.int (mg0_9_s0 p1)), .val (.int (mg0_21_s0 p1 p2 p5)), .unset, .unset, .unset, .unset, .unset, .unset] [(.int (1 : Int32)), (.int p1), (.int p4), (.int p3), (.int (p2 &&& (2147483647 : Int32))), (.int p1), (.ref b7), (.ref b7)])) _
    refine XS.iushr X7.here hx rfl (hb hby at_46) rfl ?_
    show Steps p.tables e below (T7.setTop (mkF m 47 #[.val (.int p1), .val (.int p2), .val (.int p3), .val (.int p4), .val (.int p5), .val (.int p6), .val (.int (p2 &&& (2147483647 : Int32))), .val (.int (mg0_9_s0 p1)), .val (.int (mg0_21_s0 p1 p2 p5)), .unset, .unset, .unset, .unset, .unset, .unset] [(.int ((p1.toUInt32 >>> ((1 : Int32) &&& 31).toUInt32).toInt32)), (.int p4), (.int p3), (.int (p2 &&& (2147483647 : Int32))), (.int p1), (.ref b7), (.ref b7)])) _
    refine XS.iconst X7.here hx rfl (hb hby at_47) ?_
    show Steps p.tables e below (T7.setTop (mkF m 48 #[.val (.int p1), .val (.int p2), .val (.int p3), .val (.int p4), .val (.int p5), .val (.int p6), .val (.int (p2 &&& (2147483647 : Int32))), .val (.int (mg0_9_s0 p1)), .val (.int (mg0_21_s0 p1 p2 p5)), .unset, .unset, .unset, .unset, .unset, .unset] [(.int (5 : Int32)), (.int ((p1.toUInt32 >>> ((1 : Int32) &&& 31).toUInt32).toInt32)), (.int p4), (.int p3), (.int (p2 &&& (2147483647 : Int32))), (.int p1), (.ref b7), (.ref b7)])) _
    refine iremM (g := (mkF m 48 #[.val (.int p1), .val (.int p2), .val (.int p3), .val (.int p4), .val (.int p5), .val (.int p6), .val (.int (p2 &&& (2147483647 : Int32))), .val (.int (mg0_9_s0 p1)), .val (.int (mg0_21_s0 p1 p2 p5)), .unset, .unset, .unset, .unset, .unset, .unset] [(.int (5 : Int32)), (.int ((p1.toUInt32 >>> ((1 : Int32) &&& 31).toUInt32).toInt32)), (.int p4), (.int p3), (.int (p2 &&& (2147483647 : Int32))), (.int p1), (.ref b7), (.ref b7)])) X7 hx rfl (hb hby at_48) rfl (by decide) ?_
    show Steps p.tables e below (T7.setTop (mkF m 49 #[.val (.int p1), .val (.int p2), .val (.int p3), .val (.int p4), .val (.int p5), .val (.int p6), .val (.int (p2 &&& (2147483647 : Int32))), .val (.int (mg0_9_s0 p1)), .val (.int (mg0_21_s0 p1 p2 p5)), .unset, .unset, .unset, .unset, .unset, .unset] [(.int (((p1.toUInt32 >>> ((1 : Int32) &&& 31).toUInt32).toInt32) % (5 : Int32))), (.int p4), (.int p3), (.int (p2 &&& (2147483647 : Int32))), (.int p1), (.ref b7), (.ref b7)])) _
    refine st8 _ ?_
    show Steps p.tables e below (T8.setTop (mkF m 52 #[.val (.int p1), .val (.int p2), .val (.int p3), .val (.int p4), .val (.int p5), .val (.int p6), .val (.int (p2 &&& (2147483647 : Int32))), .val (.int (mg0_9_s0 p1)), .val (.int (mg0_21_s0 p1 p2 p5)), .unset, .unset, .unset, .unset, .unset, .unset] [(.ref (res1 (((p1.toUInt32 >>> ((1 : Int32) &&& 31).toUInt32).toInt32) % (5 : Int32)) w_NOTHING w_HEADING w_LIST_END w_FULL_STOP w_INITIAL)), (.int p4), (.int p3), (.int (p2 &&& (2147483647 : Int32))), (.int p1), (.ref b7), (.ref b7)])) _
    refine XS.iloadN X8.here hx rfl (hb hby at_52) rfl ?_
    show Steps p.tables e below (T8.setTop (mkF m 53 #[.val (.int p1), .val (.int p2), .val (.int p3), .val (.int p4), .val (.int p5), .val (.int p6), .val (.int (p2 &&& (2147483647 : Int32))), .val (.int (mg0_9_s0 p1)), .val (.int (mg0_21_s0 p1 p2 p5)), .unset, .unset, .unset, .unset, .unset, .unset] [(.int p1), (.ref (res1 (((p1.toUInt32 >>> ((1 : Int32) &&& 31).toUInt32).toInt32) % (5 : Int32)) w_NOTHING w_HEADING w_LIST_END w_FULL_STOP w_INITIAL)), (.int p4), (.int p3), (.int (p2 &&& (2147483647 : Int32))), (.int p1), (.ref b7), (.ref b7)])) _
    refine XS.iconst X8.here hx rfl (hb hby at_53) ?_
    show Steps p.tables e below (T8.setTop (mkF m 54 #[.val (.int p1), .val (.int p2), .val (.int p3), .val (.int p4), .val (.int p5), .val (.int p6), .val (.int (p2 &&& (2147483647 : Int32))), .val (.int (mg0_9_s0 p1)), .val (.int (mg0_21_s0 p1 p2 p5)), .unset, .unset, .unset, .unset, .unset, .unset] [(.int (4 : Int32)), (.int p1), (.ref (res1 (((p1.toUInt32 >>> ((1 : Int32) &&& 31).toUInt32).toInt32) % (5 : Int32)) w_NOTHING w_HEADING w_LIST_END w_FULL_STOP w_INITIAL)), (.int p4), (.int p3), (.int (p2 &&& (2147483647 : Int32))), (.int p1), (.ref b7), (.ref b7)])) _
    refine XS.iushr X8.here hx rfl (hb hby at_54) rfl ?_
    show Steps p.tables e below (T8.setTop (mkF m 55 #[.val (.int p1), .val (.int p2), .val (.int p3), .val (.int p4), .val (.int p5), .val (.int p6), .val (.int (p2 &&& (2147483647 : Int32))), .val (.int (mg0_9_s0 p1)), .val (.int (mg0_21_s0 p1 p2 p5)), .unset, .unset, .unset, .unset, .unset, .unset] [(.int ((p1.toUInt32 >>> ((4 : Int32) &&& 31).toUInt32).toInt32)), (.ref (res1 (((p1.toUInt32 >>> ((1 : Int32) &&& 31).toUInt32).toInt32) % (5 : Int32)) w_NOTHING w_HEADING w_LIST_END w_FULL_STOP w_INITIAL)), (.int p4), (.int p3), (.int (p2 &&& (2147483647 : Int32))), (.int p1), (.ref b7), (.ref b7)])) _
    refine XS.iconst X8.here hx rfl (hb hby at_55) ?_
    show Steps p.tables e below (T8.setTop (mkF m 56 #[.val (.int p1), .val (.int p2), .val (.int p3), .val (.int p4), .val (.int p5), .val (.int p6), .val (.int (p2 &&& (2147483647 : Int32))), .val (.int (mg0_9_s0 p1)), .val (.int (mg0_21_s0 p1 p2 p5)), .unset, .unset, .unset, .unset, .unset, .unset] [(.int (5 : Int32)), (.int ((p1.toUInt32 >>> ((4 : Int32) &&& 31).toUInt32).toInt32)), (.ref (res1 (((p1.toUInt32 >>> ((1 : Int32) &&& 31).toUInt32).toInt32) % (5 : Int32)) w_NOTHING w_HEADING w_LIST_END w_FULL_STOP w_INITIAL)), (.int p4), (.int p3), (.int (p2 &&& (2147483647 : Int32))), (.int p1), (.ref b7), (.ref b7)])) _
    refine iremM (g := (mkF m 56 #[.val (.int p1), .val (.int p2), .val (.int p3), .val (.int p4), .val (.int p5), .val (.int p6), .val (.int (p2 &&& (2147483647 : Int32))), .val (.int (mg0_9_s0 p1)), .val (.int (mg0_21_s0 p1 p2 p5)), .unset, .unset, .unset, .unset, .unset, .unset] [(.int (5 : Int32)), (.int ((p1.toUInt32 >>> ((4 : Int32) &&& 31).toUInt32).toInt32)), (.ref (res1 (((p1.toUInt32 >>> ((1 : Int32) &&& 31).toUInt32).toInt32) % (5 : Int32)) w_NOTHING w_HEADING w_LIST_END w_FULL_STOP w_INITIAL)), (.int p4), (.int p3), (.int (p2 &&& (2147483647 : Int32))), (.int p1), (.ref b7), (.ref b7)])) X8 hx rfl (hb hby at_56) rfl (by decide) ?_
    show Steps p.tables e below (T8.setTop (mkF m 57 #[.val (.int p1), .val (.int p2), .val (.int p3), .val (.int p4), .val (.int p5), .val (.int p6), .val (.int (p2 &&& (2147483647 : Int32))), .val (.int (mg0_9_s0 p1)), .val (.int (mg0_21_s0 p1 p2 p5)), .unset, .unset, .unset, .unset, .unset, .unset] [(.int (((p1.toUInt32 >>> ((4 : Int32) &&& 31).toUInt32).toInt32) % (5 : Int32))), (.ref (res1 (((p1.toUInt32 >>> ((1 : Int32) &&& 31).toUInt32).toInt32) % (5 : Int32)) w_NOTHING w_HEADING w_LIST_END w_FULL_STOP w_INITIAL)), (.int p4), (.int p3), (.int (p2 &&& (2147483647 : Int32))), (.int p1), (.ref b7), (.ref b7)])) _
    refine st9 _ ?_
    show Steps p.tables e below (T9.setTop (mkF m 60 #[.val (.int p1), .val (.int p2), .val (.int p3), .val (.int p4), .val (.int p5), .val (.int p6), .val (.int (p2 &&& (2147483647 : Int32))), .val (.int (mg0_9_s0 p1)), .val (.int (mg0_21_s0 p1 p2 p5)), .unset, .unset, .unset, .unset, .unset, .unset] [(.ref (res1 (((p1.toUInt32 >>> ((4 : Int32) &&& 31).toUInt32).toInt32) % (5 : Int32)) w_NOTHING w_HEADING w_LIST_END w_FULL_STOP w_INITIAL)), (.ref (res1 (((p1.toUInt32 >>> ((1 : Int32) &&& 31).toUInt32).toInt32) % (5 : Int32)) w_NOTHING w_HEADING w_LIST_END w_FULL_STOP w_INITIAL)), (.int p4), (.int p3), (.int (p2 &&& (2147483647 : Int32))), (.int p1), (.ref b7), (.ref b7)])) _
    refine st10.trans ?_
    show Steps p.tables e below (T10.setTop (mkF m 63 #[.val (.int p1), .val (.int p2), .val (.int p3), .val (.int p4), .val (.int p5), .val (.int p6), .val (.int (p2 &&& (2147483647 : Int32))), .val (.int (mg0_9_s0 p1)), .val (.int (mg0_21_s0 p1 p2 p5)), .unset, .unset, .unset, .unset, .unset, .unset] [(.ref b7)])) _
    refine XS.astore X10.here hx rfl (hb hby at_63) rfl rfl (l' := #[.val (.int p1), .val (.int p2), .val (.int p3), .val (.int p4), .val (.int p5), .val (.int p6), .val (.int (p2 &&& (2147483647 : Int32))), .val (.int (mg0_9_s0 p1)), .val (.int (mg0_21_s0 p1 p2 p5)), .val (.ref b7), .unset, .unset, .unset, .unset, .unset]) rfl ?_
    show Steps p.tables e below (T10.setTop (mkF m 65 #[.val (.int p1), .val (.int p2), .val (.int p3), .val (.int p4), .val (.int p5), .val (.int p6), .val (.int (p2 &&& (2147483647 : Int32))), .val (.int (mg0_9_s0 p1)), .val (.int (mg0_21_s0 p1 p2 p5)), .val (.ref b7), .unset, .unset, .unset, .unset, .unset] [])) _
    refine st11 _ ?_
    show Steps p.tables e below (T11.setTop (mkF m 68 #[.val (.int p1), .val (.int p2), .val (.int p3), .val (.int p4), .val (.int p5), .val (.int p6), .val (.int (p2 &&& (2147483647 : Int32))), .val (.int (mg0_9_s0 p1)), .val (.int (mg0_21_s0 p1 p2 p5)), .val (.ref b7), .unset, .unset, .unset, .unset, .unset] [(.ref b11)])) _
    refine XS.dup X11.here hx rfl (hb hby at_68) rfl rfl ?_
    show Steps p.tables e below (T11.setTop (mkF m 69 #[.val (.int p1), .val (.int p2), .val (.int p3), .val (.int p4), .val (.int p5), .val (.int p6), .val (.int (p2 &&& (2147483647 : Int32))), .val (.int (mg0_9_s0 p1)), .val (.int (mg0_21_s0 p1 p2 p5)), .val (.ref b7), .unset, .unset, .unset, .unset, .unset] [(.ref b11), (.ref b11)])) _
    refine XS.iload X11.here hx rfl (hb hby at_69) rfl ?_
    show Steps p.tables e below (T11.setTop (mkF m 71 #[.val (.int p1), .val (.int p2), .val (.int p3), .val (.int p4), .val (.int p5), .val (.int p6), .val (.int (p2 &&& (2147483647 : Int32))), .val (.int (mg0_9_s0 p1)), .val (.int (mg0_21_s0 p1 p2 p5)), .val (.ref b7), .unset, .unset, .unset, .unset, .unset] [(.int (mg0_21_s0 p1 p2 p5)), (.ref b11), (.ref b11)])) _
    refine XS.iload X11.here hx rfl (hb hby at_71) rfl ?_
    show Steps p.tables e below (T11.setTop (mkF m 73 #[.val (.int p1), .val (.int p2), .val (.int p3), .val (.int p4), .val (.int p5), .val (.int p6), .val (.int (p2 &&& (2147483647 : Int32))), .val (.int (mg0_9_s0 p1)), .val (.int (mg0_21_s0 p1 p2 p5)), .val (.ref b7), .unset, .unset, .unset, .unset, .unset] [(.int (p2 &&& (2147483647 : Int32))), (.int (mg0_21_s0 p1 p2 p5)), (.ref b11), (.ref b11)])) _
    refine XS.iload X11.here hx rfl (hb hby at_73) rfl ?_
    show Steps p.tables e below (T11.setTop (mkF m 75 #[.val (.int p1), .val (.int p2), .val (.int p3), .val (.int p4), .val (.int p5), .val (.int p6), .val (.int (p2 &&& (2147483647 : Int32))), .val (.int (mg0_9_s0 p1)), .val (.int (mg0_21_s0 p1 p2 p5)), .val (.ref b7), .unset, .unset, .unset, .unset, .unset] [(.int p6), (.int (p2 &&& (2147483647 : Int32))), (.int (mg0_21_s0 p1 p2 p5)), (.ref b11), (.ref b11)])) _
    refine XS.iloadN X11.here hx rfl (hb hby at_75) rfl ?_
    show Steps p.tables e below (T11.setTop (mkF m 76 #[.val (.int p1), .val (.int p2), .val (.int p3), .val (.int p4), .val (.int p5), .val (.int p6), .val (.int (p2 &&& (2147483647 : Int32))), .val (.int (mg0_9_s0 p1)), .val (.int (mg0_21_s0 p1 p2 p5)), .val (.ref b7), .unset, .unset, .unset, .unset, .unset] [(.int p4), (.int p6), (.int (p2 &&& (2147483647 : Int32))), (.int (mg0_21_s0 p1 p2 p5)), (.ref b11), (.ref b11)])) _
    refine XS.iload X11.here hx rfl (hb hby at_76) rfl ?_
    show Steps p.tables e below (T11.setTop (mkF m 78 #[.val (.int p1), .val (.int p2), .val (.int p3), .val (.int p4), .val (.int p5), .val (.int p6), .val (.int (p2 &&& (2147483647 : Int32))), .val (.int (mg0_9_s0 p1)), .val (.int (mg0_21_s0 p1 p2 p5)), .val (.ref b7), .unset, .unset, .unset, .unset, .unset] [(.int p5), (.int p4), (.int p6), (.int (p2 &&& (2147483647 : Int32))), (.int (mg0_21_s0 p1 p2 p5)), (.ref b11), (.ref b11)])) _
    refine XS.iconst X11.here hx rfl (hb hby at_78) ?_
    show Steps p.tables e below (T11.setTop (mkF m 79 #[.val (.int p1), .val (.int p2), .val (.int p3), .val (.int p4), .val (.int p5), .val (.int p6), .val (.int (p2 &&& (2147483647 : Int32))), .val (.int (mg0_9_s0 p1)), .val (.int (mg0_21_s0 p1 p2 p5)), .val (.ref b7), .unset, .unset, .unset, .unset, .unset] [(.int (1 : Int32)), (.int p5), (.int p4), (.int p6), (.int (p2 &&& (2147483647 : Int32))), (.int (mg0_21_s0 p1 p2 p5)), (.ref b11), (.ref b11)])) _
    refine XS.iushr X11.here hx rfl (hb hby at_79) rfl ?_
    show Steps p.tables e below (T11.setTop (mkF m 80 #[.val (.int p1), .val (.int p2), .val (.int p3), .val (.int p4), .val (.int p5), .val (.int p6), .val (.int (p2 &&& (2147483647 : Int32))), .val (.int (mg0_9_s0 p1)), .val (.int (mg0_21_s0 p1 p2 p5)), .val (.ref b7), .unset, .unset, .unset, .unset, .unset] [(.int ((p5.toUInt32 >>> ((1 : Int32) &&& 31).toUInt32).toInt32)), (.int p4), (.int p6), (.int (p2 &&& (2147483647 : Int32))), (.int (mg0_21_s0 p1 p2 p5)), (.ref b11), (.ref b11)])) _
    refine XS.iconst X11.here hx rfl (hb hby at_80) ?_
    show Steps p.tables e below (T11.setTop (mkF m 81 #[.val (.int p1), .val (.int p2), .val (.int p3), .val (.int p4), .val (.int p5), .val (.int p6), .val (.int (p2 &&& (2147483647 : Int32))), .val (.int (mg0_9_s0 p1)), .val (.int (mg0_21_s0 p1 p2 p5)), .val (.ref b7), .unset, .unset, .unset, .unset, .unset] [(.int (5 : Int32)), (.int ((p5.toUInt32 >>> ((1 : Int32) &&& 31).toUInt32).toInt32)), (.int p4), (.int p6), (.int (p2 &&& (2147483647 : Int32))), (.int (mg0_21_s0 p1 p2 p5)), (.ref b11), (.ref b11)])) _
    refine iremM (g := (mkF m 81 #[.val (.int p1), .val (.int p2), .val (.int p3), .val (.int p4), .val (.int p5), .val (.int p6), .val (.int (p2 &&& (2147483647 : Int32))), .val (.int (mg0_9_s0 p1)), .val (.int (mg0_21_s0 p1 p2 p5)), .val (.ref b7), .unset, .unset, .unset, .unset, .unset] [(.int (5 : Int32)), (.int ((p5.toUInt32 >>> ((1 : Int32) &&& 31).toUInt32).toInt32)), (.int p4), (.int p6), (.int (p2 &&& (2147483647 : Int32))), (.int (mg0_21_s0 p1 p2 p5)), (.ref b11), (.ref b11)])) X11 hx rfl (hb hby at_81) rfl (by decide) ?_
    show Steps p.tables e below (T11.setTop (mkF m 82 #[.val (.int p1), .val (.int p2), .val (.int p3), .val (.int p4), .val (.int p5), .val (.int p6), .val (.int (p2 &&& (2147483647 : Int32))), .val (.int (mg0_9_s0 p1)), .val (.int (mg0_21_s0 p1 p2 p5)), .val (.ref b7), .unset, .unset, .unset, .unset, .unset] [(.int (((p5.toUInt32 >>> ((1 : Int32) &&& 31).toUInt32).toInt32) % (5 : Int32))), (.int p4), (.int p6), (.int (p2 &&& (2147483647 : Int32))), (.int (mg0_21_s0 p1 p2 p5)), (.ref b11), (.ref b11)])) _
    refine st12 _ ?_
    show Steps p.tables e below (T12.setTop (mkF m 85 #[.val (.int p1), .val (.int p2), .val (.int p3), .val (.int p4), .val (.int p5), .val (.int p6), .val (.int (p2 &&& (2147483647 : Int32))), .val (.int (mg0_9_s0 p1)), .val (.int (mg0_21_s0 p1 p2 p5)), .val (.ref b7), .unset, .unset, .unset, .unset, .unset] [(.ref (res1 (((p5.toUInt32 >>> ((1 : Int32) &&& 31).toUInt32).toInt32) % (5 : Int32)) w_NOTHING w_HEADING w_LIST_END w_FULL_STOP w_INITIAL)), (.int p4), (.int p6), (.int (p2 &&& (2147483647 : Int32))), (.int (mg0_21_s0 p1 p2 p5)), (.ref b11), (.ref b11)])) _
    refine XS.iloadN X12.here hx rfl (hb hby at_85) rfl ?_
    show Steps p.tables e below (T12.setTop (mkF m 86 #[.val (.int p1), .val (.int p2), .val (.int p3), .val (.int p4), .val (.int p5), .val (.int p6), .val (.int (p2 &&& (2147483647 : Int32))), .val (.int (mg0_9_s0 p1)), .val (.int (mg0_21_s0 p1 p2 p5)), .val (.ref b7), .unset, .unset, .unset, .unset, .unset] [(.int p3), (.ref (res1 (((p5.toUInt32 >>> ((1 : Int32) &&& 31).toUInt32).toInt32) % (5 : Int32)) w_NOTHING w_HEADING w_LIST_END w_FULL_STOP w_INITIAL)), (.int p4), (.int p6), (.int (p2 &&& (2147483647 : Int32))), (.int (mg0_21_s0 p1 p2 p5)), (.ref b11), (.ref b11)])) _
    refine XS.iconst X12.here hx rfl (hb hby at_86) ?_
    show Steps p.tables e below (T12.setTop (mkF m 87 #[.val (.int p1), .val (.int p2), .val (.int p3), .val (.int p4), .val (.int p5), .val (.int p6), .val (.int (p2 &&& (2147483647 : Int32))), .val (.int (mg0_9_s0 p1)), .val (.int (mg0_21_s0 p1 p2 p5)), .val (.ref b7), .unset, .unset, .unset, .unset, .unset] [(.int (1 : Int32)), (.int p3), (.ref (res1 (((p5.toUInt32 >>> ((1 : Int32) &&& 31).toUInt32).toInt32) % (5 : Int32)) w_NOTHING w_HEADING w_LIST_END w_FULL_STOP w_INITIAL)), (.int p4), (.int p6), (.int (p2 &&& (2147483647 : Int32))), (.int (mg0_21_s0 p1 p2 p5)), (.ref b11), (.ref b11)])) _
    refine XS.iushr X12.here hx rfl (hb hby at_87) rfl ?_
    show Steps p.tables e below (T12.setTop (mkF m 88 #[.val (.int p1), .val (.int p2), .val (.int p3), .val (.int p4), .val (.int p5), .val (.int p6), .val (.int (p2 &&& (2147483647 : Int32))), .val (.int (mg0_9_s0 p1)), .val (.int (mg0_21_s0 p1 p2 p5)), .val (.ref b7), .unset, .unset, .unset, .unset, .unset] [(.int ((p3.toUInt32 >>> ((1 : Int32) &&& 31).toUInt32).toInt32)), (.ref (res1 (((p5.toUInt32 >>> ((1 : Int32) &&& 31).toUInt32).toInt32) % (5 : Int32)) w_NOTHING w_HEADING w_LIST_END w_FULL_STOP w_INITIAL)), (.int p4), (.int p6), (.int (p2 &&& (2147483647 : Int32))), (.int (mg0_21_s0 p1 p2 p5)), (.ref b11), (.ref b11)])) _
    refine XS.iconst X12.here hx rfl (hb hby at_88) ?_
    show Steps p.tables e below (T12.setTop (mkF m 89 #[.val (.int p1), .val (.int p2), .val (.int p3), .val (.int p4), .val (.int p5), .val (.int p6), .val (.int (p2 &&& (2147483647 : Int32))), .val (.int (mg0_9_s0 p1)), .val (.int (mg0_21_s0 p1 p2 p5)), .val (.ref b7), .unset, .unset, .unset, .unset, .unset] [(.int (5 : Int32)), (.int ((p3.toUInt32 >>> ((1 : Int32) &&& 31).toUInt32).toInt32)), (.ref (res1 (((p5.toUInt32 >>> ((1 : Int32) &&& 31).toUInt32).toInt32) % (5 : Int32)) w_NOTHING w_HEADING w_LIST_END w_FULL_STOP w_INITIAL)), (.int p4), (.int p6), (.int (p2 &&& (2147483647 : Int32))), (.int (mg0_21_s0 p1 p2 p5)), (.ref b11), (.ref b11)])) _
    refine iremM (g := (mkF m 89 #[.val (.int p1), .val (.int p2), .val (.int p3), .val (.int p4), .val (.int p5), .val (.int p6), .val (.int (p2 &&& (2147483647 : Int32))), .val (.int (mg0_9_s0 p1)), .val (.int (mg0_21_s0 p1 p2 p5)), .val (.ref b7), .unset, .unset, .unset, .unset, .unset] [(.int (5 : Int32)), (.int ((p3.toUInt32 >>> ((1 : Int32) &&& 31).toUInt32).toInt32)), (.ref (res1 (((p5.toUInt32 >>> ((1 : Int32) &&& 31).toUInt32).toInt32) % (5 : Int32)) w_NOTHING w_HEADING w_LIST_END w_FULL_STOP w_INITIAL)), (.int p4), (.int p6), (.int (p2 &&& (2147483647 : Int32))), (.int (mg0_21_s0 p1 p2 p5)), (.ref b11), (.ref b11)])) X12 hx rfl (hb hby at_89) rfl (by decide) ?_
    show Steps p.tables e below (T12.setTop (mkF m 90 #[.val (.int p1), .val (.int p2), .val (.int p3), .val (.int p4), .val (.int p5), .val (.int p6), .val (.int (p2 &&& (2147483647 : Int32))), .val (.int (mg0_9_s0 p1)), .val (.int (mg0_21_s0 p1 p2 p5)), .val (.ref b7), .unset, .unset, .unset, .unset, .unset] [(.int (((p3.toUInt32 >>> ((1 : Int32) &&& 31).toUInt32).toInt32) % (5 : Int32))), (.ref (res1 (((p5.toUInt32 >>> ((1 : Int32) &&& 31).toUInt32).toInt32) % (5 : Int32)) w_NOTHING w_HEADING w_LIST_END w_FULL_STOP w_INITIAL)), (.int p4), (.int p6), (.int (p2 &&& (2147483647 : Int32))), (.int (mg0_21_s0 p1 p2 p5)), (.ref b11), (.ref b11)])) _
    refine st13 _ ?_
    show Steps p.tables e below (T13.setTop (mkF m 93 #[.val (.int p1), .val (.int p2), .val (.int p3), .val (.int p4), .val (.int p5), .val (.int p6), .val (.int (p2 &&& (2147483647 : Int32))), .val (.int (mg0_9_s0 p1)), .val (.int (mg0_21_s0 p1 p2 p5)), .val (.ref b7), .unset, .unset, .unset, .unset, .unset] [(.ref (res1 (((p3.toUInt32 >>> ((1 : Int32) &&& 31).toUInt32).toInt32) % (5 : Int32)) w_NOTHING w_HEADING w_LIST_END w_FULL_STOP w_INITIAL)), (.ref (res1 (((p5.toUInt32 >>> ((1 : Int32) &&& 31).toUInt32).toInt32) % (5 : Int32)) w_NOTHING w_HEADING w_LIST_END w_FULL_STOP w_INITIAL)), (.int p4), (.int p6), (.int (p2 &&& (2147483647 : Int32))), (.int (mg0_21_s0 p1 p2 p5)), (.ref b11), (.ref b11)])) _
    refine st14.trans ?_
    show Steps p.tables e below (T14.setTop (mkF m 96 #[.val (.int p1), .val (.int p2), .val (.int p3), .val (.int p4), .val (.int p5), .val (.int p6), .val (.int (p2 &&& (2147483647 : Int32))), .val (.int (mg0_9_s0 p1)), .val (.int (mg0_21_s0 p1 p2 p5)), .val (.ref b7), .unset, .unset, .unset, .unset, .unset] [(.ref b11)])) _
    refine XS.astore X14.here hx rfl (hb hby at_96) rfl rfl (l' := #[.val (.int p1), .val (.int p2), .val (.int p3), .val (.int p4), .val (.int p5), .val (.int p6), .val (.int (p2 &&& (2147483647 : Int32))), .val (.int (mg0_9_s0 p1)), .val (.int (mg0_21_s0 p1 p2 p5)), .val (.ref b7), .val (.ref b11), .unset, .unset, .unset, .unset]) rfl ?_
    show Steps p.tables e below (T14.setTop (mkF m 98 #[.val (.int p1), .val (.int p2), .val (.int p3), .val (.int p4), .val (.int p5), .val (.int p6), .val (.int (p2 &&& (2147483647 : Int32))), .val (.int (mg0_9_s0 p1)), .val (.int (mg0_21_s0 p1 p2 p5)), .val (.ref b7), .val (.ref b11), .unset, .unset, .unset, .unset] [])) _
    refine XS.aload X14.here hx rfl (hb hby at_98) rfl rfl ?_
    show Steps p.tables e below (T14.setTop (mkF m 100 #[.val (.int p1), .val (.int p2), .val (.int p3), .val (.int p4), .val (.int p5), .val (.int p6), .val (.int (p2 &&& (2147483647 : Int32))), .val (.int (mg0_9_s0 p1)), .val (.int (mg0_21_s0 p1 p2 p5)), .val (.ref b7), .val (.ref b11), .unset, .unset, .unset, .unset] [(.ref b7)])) _
    refine XS.aload X14.here hx rfl (hb hby at_100) rfl rfl ?_
    show Steps p.tables e below (T14.setTop (mkF m 102 #[.val (.int p1), .val (.int p2), .val (.int p3), .val (.int p4), .val (.int p5), .val (.int p6), .val (.int (p2 &&& (2147483647 : Int32))), .val (.int (mg0_9_s0 p1)), .val (.int (mg0_21_s0 p1 p2 p5)), .val (.ref b7), .val (.ref b11), .unset, .unset, .unset, .unset] [(.ref b11), (.ref b7)])) _
    refine st15.trans ?_
    show Steps p.tables e below (T15.setTop (mkF m 105 #[.val (.int p1), .val (.int p2), .val (.int p3), .val (.int p4), .val (.int p5), .val (.int p6), .val (.int (p2 &&& (2147483647 : Int32))), .val (.int (mg0_9_s0 p1)), .val (.int (mg0_21_s0 p1 p2 p5)), .val (.ref b7), .val (.ref b11), .unset, .unset, .unset, .unset] [(.int (res5 (p2 &&& (2147483647 : Int32)) (mg0_21_s0 p1 p2 p5) p4 p6))])) _
    refine XS.istore X15.here hx rfl (hb hby at_105) rfl (l' := #[.val (.int p1), .val (.int p2), .val (.int p3), .val (.int p4), .val (.int p5), .val (.int p6), .val (.int (p2 &&& (2147483647 : Int32))), .val (.int (mg0_9_s0 p1)), .val (.int (mg0_21_s0 p1 p2 p5)), .val (.ref b7), .val (.ref b11), .val (.int (res5 (p2 &&& (2147483647 : Int32)) (mg0_21_s0 p1 p2 p5) p4 p6)), .unset, .unset, .unset]) rfl ?_
    show Steps p.tables e below (T15.setTop (mkF m 107 #[.val (.int p1), .val (.int p2), .val (.int p3), .val (.int p4), .val (.int p5), .val (.int p6), .val (.int (p2 &&& (2147483647 : Int32))), .val (.int (mg0_9_s0 p1)), .val (.int (mg0_21_s0 p1 p2 p5)), .val (.ref b7), .val (.ref b11), .val (.int (res5 (p2 &&& (2147483647 : Int32)) (mg0_21_s0 p1 p2 p5) p4 p6)), .unset, .unset, .unset] [])) _
    refine XS.iload X15.here hx rfl (hb hby at_107) rfl ?_
    show Steps p.tables e below (T15.setTop (mkF m 109 #[.val (.int p1), .val (.int p2), .val (.int p3), .val (.int p4), .val (.int p5), .val (.int p6), .val (.int (p2 &&& (2147483647 : Int32))), .val (.int (mg0_9_s0 p1)), .val (.int (mg0_21_s0 p1 p2 p5)), .val (.ref b7), .val (.ref b11), .val (.int (res5 (p2 &&& (2147483647 : Int32)) (mg0_21_s0 p1 p2 p5) p4 p6)), .unset, .unset, .unset] [(.int (p2 &&& (2147483647 : Int32)))])) _
    refine XS.i2l X15.here hx rfl (hb hby at_109) rfl ?_
    show Steps p.tables e below (T15.setTop (mkF m 110 #[.val (.int p1), .val (.int p2), .val (.int p3), .val (.int p4), .val (.int p5), .val (.int p6), .val (.int (p2 &&& (2147483647 : Int32))), .val (.int (mg0_9_s0 p1)), .val (.int (mg0_21_s0 p1 p2 p5)), .val (.ref b7), .val (.ref b11), .val (.int (res5 (p2 &&& (2147483647 : Int32)) (mg0_21_s0 p1 p2 p5) p4 p6)), .unset, .unset, .unset] [(.long ((p2 &&& (2147483647 : Int32)).toInt64))])) _
    refine XS.iload X15.here hx rfl (hb hby at_110) rfl ?_
    show Steps p.tables e below (T15.setTop (mkF m 112 #[.val (.int p1), .val (.int p2), .val (.int p3), .val (.int p4), .val (.int p5), .val (.int p6), .val (.int (p2 &&& (2147483647 : Int32))), .val (.int (mg0_9_s0 p1)), .val (.int (mg0_21_s0 p1 p2 p5)), .val (.ref b7), .val (.ref b11), .val (.int (res5 (p2 &&& (2147483647 : Int32)) (mg0_21_s0 p1 p2 p5) p4 p6)), .unset, .unset, .unset] [(.int (mg0_21_s0 p1 p2 p5)), (.long ((p2 &&& (2147483647 : Int32)).toInt64))])) _
    refine XS.i2l X15.here hx rfl (hb hby at_112) rfl ?_
    show Steps p.tables e below (T15.setTop (mkF m 113 #[.val (.int p1), .val (.int p2), .val (.int p3), .val (.int p4), .val (.int p5), .val (.int p6), .val (.int (p2 &&& (2147483647 : Int32))), .val (.int (mg0_9_s0 p1)), .val (.int (mg0_21_s0 p1 p2 p5)), .val (.ref b7), .val (.ref b11), .val (.int (res5 (p2 &&& (2147483647 : Int32)) (mg0_21_s0 p1 p2 p5) p4 p6)), .unset, .unset, .unset] [(.long ((mg0_21_s0 p1 p2 p5).toInt64)), (.long ((p2 &&& (2147483647 : Int32)).toInt64))])) _
    refine XS.lsub X15.here hx rfl (hb hby at_113) rfl ?_
    show Steps p.tables e below (T15.setTop (mkF m 114 #[.val (.int p1), .val (.int p2), .val (.int p3), .val (.int p4), .val (.int p5), .val (.int p6), .val (.int (p2 &&& (2147483647 : Int32))), .val (.int (mg0_9_s0 p1)), .val (.int (mg0_21_s0 p1 p2 p5)), .val (.ref b7), .val (.ref b11), .val (.int (res5 (p2 &&& (2147483647 : Int32)) (mg0_21_s0 p1 p2 p5) p4 p6)), .unset, .unset, .unset] [(.long (((p2 &&& (2147483647 : Int32)).toInt64) - ((mg0_21_s0 p1 p2 p5).toInt64)))])) _
    refine XS.lstore X15.here hx rfl (hb hby at_114) rfl (l' := #[.val (.int p1), .val (.int p2), .val (.int p3), .val (.int p4), .val (.int p5), .val (.int p6), .val (.int (p2 &&& (2147483647 : Int32))), .val (.int (mg0_9_s0 p1)), .val (.int (mg0_21_s0 p1 p2 p5)), .val (.ref b7), .val (.ref b11), .val (.int (res5 (p2 &&& (2147483647 : Int32)) (mg0_21_s0 p1 p2 p5) p4 p6)), .val (.long (((p2 &&& (2147483647 : Int32)).toInt64) - ((mg0_21_s0 p1 p2 p5).toInt64))), .second, .unset]) rfl ?_
    show Steps p.tables e below (T15.setTop (mkF m 116 #[.val (.int p1), .val (.int p2), .val (.int p3), .val (.int p4), .val (.int p5), .val (.int p6), .val (.int (p2 &&& (2147483647 : Int32))), .val (.int (mg0_9_s0 p1)), .val (.int (mg0_21_s0 p1 p2 p5)), .val (.ref b7), .val (.ref b11), .val (.int (res5 (p2 &&& (2147483647 : Int32)) (mg0_21_s0 p1 p2 p5) p4 p6)), .val (.long (((p2 &&& (2147483647 : Int32)).toInt64) - ((mg0_21_s0 p1 p2 p5).toInt64))), .second, .unset] [])) _
    refine XS.lload X15.here hx rfl (hb hby at_116) rfl ?_
    show Steps p.tables e below (T15.setTop (mkF m 118 #[.val (.int p1), .val (.int p2), .val (.int p3), .val (.int p4), .val (.int p5), .val (.int p6), .val (.int (p2 &&& (2147483647 : Int32))), .val (.int (mg0_9_s0 p1)), .val (.int (mg0_21_s0 p1 p2 p5)), .val (.ref b7), .val (.ref b11), .val (.int (res5 (p2 &&& (2147483647 : Int32)) (mg0_21_s0 p1 p2 p5) p4 p6)), .val (.long (((p2 &&& (2147483647 : Int32)).toInt64) - ((mg0_21_s0 p1 p2 p5).toInt64))), .second, .unset] [(.long (((p2 &&& (2147483647 : Int32)).toInt64) - ((mg0_21_s0 p1 p2 p5).toInt64)))])) _
    refine XS.lconst X15.here hx rfl (hb hby at_118) ?_
    show Steps p.tables e below (T15.setTop (mkF m 119 #[.val (.int p1), .val (.int p2), .val (.int p3), .val (.int p4), .val (.int p5), .val (.int p6), .val (.int (p2 &&& (2147483647 : Int32))), .val (.int (mg0_9_s0 p1)), .val (.int (mg0_21_s0 p1 p2 p5)), .val (.ref b7), .val (.ref b11), .val (.int (res5 (p2 &&& (2147483647 : Int32)) (mg0_21_s0 p1 p2 p5) p4 p6)), .val (.long (((p2 &&& (2147483647 : Int32)).toInt64) - ((mg0_21_s0 p1 p2 p5).toInt64))), .second, .unset] [(.long (1 : Int64)), (.long (((p2 &&& (2147483647 : Int32)).toInt64) - ((mg0_21_s0 p1 p2 p5).toInt64)))])) _
    refine XS.lcmp X15.here hx rfl (hb hby at_119) rfl ?_
    exact kt
  have pre22 : ∀ t, Steps p.tables e below (T15.setTop (mkF m 141 #[.val (.int p1), .val (.int p2), .val (.int p3), .val (.int p4), .val (.int p5), .val (.int p6), .val (.int (p2 &&& (2147483647 : Int32))), .val (.int (mg0_9_s0 p1)), .val (.int (mg0_21_s0 p1 p2 p5)), .val (.ref b7), .val (.ref b11), .val (.int (res5 (p2 &&& (2147483647 : Int32)) (mg0_21_s0 p1 p2 p5) p4 p6)), .val (.long (((p2 &&& (2147483647 : Int32)).toInt64) - ((mg0_21_s0 p1 p2 p5).toInt64))), .second, .unset] [(.int (mg0_120_s0 p1 p2 p4 p5 p6))])) t → Steps p.tables e below (s₁.setTop (entryFrame m #[(.int p1), (.int p2), (.int p3), (.int p4), (.int p5), (.int p6)] maxLocals)) t := by
    intro t kt
    by_cases hc120_17 : (0 : Int32) < (lcmpW (((p2 &&& (2147483647 : Int32)).toInt64) - ((mg0_21_s0 p1 p2 p5).toInt64)) (1 : Int64))
    · rw [show (mg0_120_s0 p1 p2 p4 p5 p6) = (1 : Int32) from by rw [mg0_120_s0, if_pos hc120_17]] at kt
      refine pre16 _ ?_
      show Steps p.tables e below (T15.setTop (mkF m 120 #[.val (.int p1), .val (.int p2), .val (.int p3), .val (.int p4), .val (.int p5), .val (.int p6), .val (.int (p2 &&& (2147483647 : Int32))), .val (.int (mg0_9_s0 p1)), .val (.int (mg0_21_s0 p1 p2 p5)), .val (.ref b7), .val (.ref b11), .val (.int (res5 (p2 &&& (2147483647 : Int32)) (mg0_21_s0 p1 p2 p5) p4 p6)), .val (.long (((p2 &&& (2147483647 : Int32)).toInt64) - ((mg0_21_s0 p1 p2 p5).toInt64))), .second, .unset] [(.int (lcmpW (((p2 &&& (2147483647 : Int32)).toInt64) - ((mg0_21_s0 p1 p2 p5).toInt64)) (1 : Int64)))])) _
      refine XS.ifYes X15.here hx rfl (pc0 := 120) (pc' := 136) rfl (hb hby at_120) rfl ((if0 _ _).trans (tlt hc120_17).2.2.1) (by decide) (by decide) ?_
      show Steps p.tables e below (T15.setTop (mkF m 136 #[.val (.int p1), .val (.int p2), .val (.int p3), .val (.int p4), .val (.int p5), .val (.int p6), .val (.int (p2 &&& (2147483647 : Int32))), .val (.int (mg0_9_s0 p1)), .val (.int (mg0_21_s0 p1 p2 p5)), .val (.ref b7), .val (.ref b11), .val (.int (res5 (p2 &&& (2147483647 : Int32)) (mg0_21_s0 p1 p2 p5) p4 p6)), .val (.long (((p2 &&& (2147483647 : Int32)).toInt64) - ((mg0_21_s0 p1 p2 p5).toInt64))), .second, .unset] [])) _
      refine XS.iconst X15.here hx rfl (hb hby at_136) ?_
      show Steps p.tables e below (T15.setTop (mkF m 137 #[.val (.int p1), .val (.int p2), .val (.int p3), .val (.int p4), .val (.int p5), .val (.int p6), .val (.int (p2 &&& (2147483647 : Int32))), .val (.int (mg0_9_s0 p1)), .val (.int (mg0_21_s0 p1 p2 p5)), .val (.ref b7), .val (.ref b11), .val (.int (res5 (p2 &&& (2147483647 : Int32)) (mg0_21_s0 p1 p2 p5) p4 p6)), .val (.long (((p2 &&& (2147483647 : Int32)).toInt64) - ((mg0_21_s0 p1 p2 p5).toInt64))), .second, .unset] [(.int (1 : Int32))])) _
      refine XS.goto X15.here hx rfl (pc0 := 137) (pc' := 141) rfl (hb hby at_137) (by decide) (by decide) ?_
      exact kt
    · have pre18 : ∀ t, Steps p.tables e below (T15.setTop (mkF m 127 #[.val (.int p1), .val (.int p2), .val (.int p3), .val (.int p4), .val (.int p5), .val (.int p6), .val (.int (p2 &&& (2147483647 : Int32))), .val (.int (mg0_9_s0 p1)), .val (.int (mg0_21_s0 p1 p2 p5)), .val (.ref b7), .val (.ref b11), .val (.int (res5 (p2 &&& (2147483647 : Int32)) (mg0_21_s0 p1 p2 p5) p4 p6)), .val (.long (((p2 &&& (2147483647 : Int32)).toInt64) - ((mg0_21_s0 p1 p2 p5).toInt64))), .second, .unset] [(.int (lcmpW (((p2 &&& (2147483647 : Int32)).toInt64) - ((mg0_21_s0 p1 p2 p5).toInt64)) (1 : Int64)))])) t → Steps p.tables e below (s₁.setTop (entryFrame m #[(.int p1), (.int p2), (.int p3), (.int p4), (.int p5), (.int p6)] maxLocals)) t := by
        intro t kt
        refine pre16 _ ?_
        show Steps p.tables e below (T15.setTop (mkF m 120 #[.val (.int p1), .val (.int p2), .val (.int p3), .val (.int p4), .val (.int p5), .val (.int p6), .val (.int (p2 &&& (2147483647 : Int32))), .val (.int (mg0_9_s0 p1)), .val (.int (mg0_21_s0 p1 p2 p5)), .val (.ref b7), .val (.ref b11), .val (.int (res5 (p2 &&& (2147483647 : Int32)) (mg0_21_s0 p1 p2 p5) p4 p6)), .val (.long (((p2 &&& (2147483647 : Int32)).toInt64) - ((mg0_21_s0 p1 p2 p5).toInt64))), .second, .unset] [(.int (lcmpW (((p2 &&& (2147483647 : Int32)).toInt64) - ((mg0_21_s0 p1 p2 p5).toInt64)) (1 : Int64)))])) _
        refine XS.ifNo X15.here hx rfl (hb hby at_120) rfl ((if0 _ _).trans (flt hc120_17).2.2.1) ?_
        show Steps p.tables e below (T15.setTop (mkF m 123 #[.val (.int p1), .val (.int p2), .val (.int p3), .val (.int p4), .val (.int p5), .val (.int p6), .val (.int (p2 &&& (2147483647 : Int32))), .val (.int (mg0_9_s0 p1)), .val (.int (mg0_21_s0 p1 p2 p5)), .val (.ref b7), .val (.ref b11), .val (.int (res5 (p2 &&& (2147483647 : Int32)) (mg0_21_s0 p1 p2 p5) p4 p6)), .val (.long (((p2 &&& (2147483647 : Int32)).toInt64) - ((mg0_21_s0 p1 p2 p5).toInt64))), .second, .unset] [])) _
        refine XS.lload X15.here hx rfl (hb hby at_123) rfl ?_
        show Steps p.tables e below (T15.setTop (mkF m 125 #[.val (.int p1), .val (.int p2), .val (.int p3), .val (.int p4), .val (.int p5), .val (.int p6), .val (.int (p2 &&& (2147483647 : Int32))), .val (.int (mg0_9_s0 p1)), .val (.int (mg0_21_s0 p1 p2 p5)), .val (.ref b7), .val (.ref b11), .val (.int (res5 (p2 &&& (2147483647 : Int32)) (mg0_21_s0 p1 p2 p5) p4 p6)), .val (.long (((p2 &&& (2147483647 : Int32)).toInt64) - ((mg0_21_s0 p1 p2 p5).toInt64))), .second, .unset] [(.long (((p2 &&& (2147483647 : Int32)).toInt64) - ((mg0_21_s0 p1 p2 p5).toInt64)))])) _
        refine XS.lconst X15.here hx rfl (hb hby at_125) ?_
        show Steps p.tables e below (T15.setTop (mkF m 126 #[.val (.int p1), .val (.int p2), .val (.int p3), .val (.int p4), .val (.int p5), .val (.int p6), .val (.int (p2 &&& (2147483647 : Int32))), .val (.int (mg0_9_s0 p1)), .val (.int (mg0_21_s0 p1 p2 p5)), .val (.ref b7), .val (.ref b11), .val (.int (res5 (p2 &&& (2147483647 : Int32)) (mg0_21_s0 p1 p2 p5) p4 p6)), .val (.long (((p2 &&& (2147483647 : Int32)).toInt64) - ((mg0_21_s0 p1 p2 p5).toInt64))), .second, .unset] [(.long (1 : Int64)), (.long (((p2 &&& (2147483647 : Int32)).toInt64) - ((mg0_21_s0 p1 p2 p5).toInt64)))])) _
        refine XS.lcmp X15.here hx rfl (hb hby at_126) rfl ?_
        exact kt
      by_cases hc127_19 : (lcmpW (((p2 &&& (2147483647 : Int32)).toInt64) - ((mg0_21_s0 p1 p2 p5).toInt64)) (1 : Int64)) = (0 : Int32)
      · have pre20 : ∀ t, Steps p.tables e below (T15.setTop (mkF m 133 #[.val (.int p1), .val (.int p2), .val (.int p3), .val (.int p4), .val (.int p5), .val (.int p6), .val (.int (p2 &&& (2147483647 : Int32))), .val (.int (mg0_9_s0 p1)), .val (.int (mg0_21_s0 p1 p2 p5)), .val (.ref b7), .val (.ref b11), .val (.int (res5 (p2 &&& (2147483647 : Int32)) (mg0_21_s0 p1 p2 p5) p4 p6)), .val (.long (((p2 &&& (2147483647 : Int32)).toInt64) - ((mg0_21_s0 p1 p2 p5).toInt64))), .second, .unset] [(.int p6), (.int p4)])) t → Steps p.tables e below (s₁.setTop (entryFrame m #[(.int p1), (.int p2), (.int p3), (.int p4), (.int p5), (.int p6)] maxLocals)) t := by
          intro t kt
          refine pre18 _ ?_
          show Steps p.tables e below (T15.setTop (mkF m 127 #[.val (.int p1), .val (.int p2), .val (.int p3), .val (.int p4), .val (.int p5), .val (.int p6), .val (.int (p2 &&& (2147483647 : Int32))), .val (.int (mg0_9_s0 p1)), .val (.int (mg0_21_s0 p1 p2 p5)), .val (.ref b7), .val (.ref b11), .val (.int (res5 (p2 &&& (2147483647 : Int32)) (mg0_21_s0 p1 p2 p5) p4 p6)), .val (.long (((p2 &&& (2147483647 : Int32)).toInt64) - ((mg0_21_s0 p1 p2 p5).toInt64))), .second, .unset] [(.int (lcmpW (((p2 &&& (2147483647 : Int32)).toInt64) - ((mg0_21_s0 p1 p2 p5).toInt64)) (1 : Int64)))])) _
          refine XS.ifNo X15.here hx rfl (hb hby at_127) rfl ((if0 _ _).trans (teq hc127_19).2) ?_
          show Steps p.tables e below (T15.setTop (mkF m 130 #[.val (.int p1), .val (.int p2), .val (.int p3), .val (.int p4), .val (.int p5), .val (.int p6), .val (.int (p2 &&& (2147483647 : Int32))), .val (.int (mg0_9_s0 p1)), .val (.int (mg0_21_s0 p1 p2 p5)), .val (.ref b7), .val (.ref b11), .val (.int (res5 (p2 &&& (2147483647 : Int32)) (mg0_21_s0 p1 p2 p5) p4 p6)), .val (.long (((p2 &&& (2147483647 : Int32)).toInt64) - ((mg0_21_s0 p1 p2 p5).toInt64))), .second, .unset] [])) _
          refine XS.iloadN X15.here hx rfl (hb hby at_130) rfl ?_
          show Steps p.tables e below (T15.setTop (mkF m 131 #[.val (.int p1), .val (.int p2), .val (.int p3), .val (.int p4), .val (.int p5), .val (.int p6), .val (.int (p2 &&& (2147483647 : Int32))), .val (.int (mg0_9_s0 p1)), .val (.int (mg0_21_s0 p1 p2 p5)), .val (.ref b7), .val (.ref b11), .val (.int (res5 (p2 &&& (2147483647 : Int32)) (mg0_21_s0 p1 p2 p5) p4 p6)), .val (.long (((p2 &&& (2147483647 : Int32)).toInt64) - ((mg0_21_s0 p1 p2 p5).toInt64))), .second, .unset] [(.int p4)])) _
          refine XS.iload X15.here hx rfl (hb hby at_131) rfl ?_
          exact kt
        by_cases hc133_21 : p6 < p4
        · rw [show (mg0_120_s0 p1 p2 p4 p5 p6) = (1 : Int32) from by rw [mg0_120_s0, if_neg hc120_17, if_pos hc127_19, if_pos hc133_21]] at kt
          refine pre20 _ ?_
          show Steps p.tables e below (T15.setTop (mkF m 133 #[.val (.int p1), .val (.int p2), .val (.int p3), .val (.int p4), .val (.int p5), .val (.int p6), .val (.int (p2 &&& (2147483647 : Int32))), .val (.int (mg0_9_s0 p1)), .val (.int (mg0_21_s0 p1 p2 p5)), .val (.ref b7), .val (.ref b11), .val (.int (res5 (p2 &&& (2147483647 : Int32)) (mg0_21_s0 p1 p2 p5) p4 p6)), .val (.long (((p2 &&& (2147483647 : Int32)).toInt64) - ((mg0_21_s0 p1 p2 p5).toInt64))), .second, .unset] [(.int p6), (.int p4)])) _
          refine XS.icmpNo X15.here hx rfl (hb hby at_133) rfl (tlt hc133_21).2.2.2 ?_
          show Steps p.tables e below (T15.setTop (mkF m 136 #[.val (.int p1), .val (.int p2), .val (.int p3), .val (.int p4), .val (.int p5), .val (.int p6), .val (.int (p2 &&& (2147483647 : Int32))), .val (.int (mg0_9_s0 p1)), .val (.int (mg0_21_s0 p1 p2 p5)), .val (.ref b7), .val (.ref b11), .val (.int (res5 (p2 &&& (2147483647 : Int32)) (mg0_21_s0 p1 p2 p5) p4 p6)), .val (.long (((p2 &&& (2147483647 : Int32)).toInt64) - ((mg0_21_s0 p1 p2 p5).toInt64))), .second, .unset] [])) _
          refine XS.iconst X15.here hx rfl (hb hby at_136) ?_
          show Steps p.tables e below (T15.setTop (mkF m 137 #[.val (.int p1), .val (.int p2), .val (.int p3), .val (.int p4), .val (.int p5), .val (.int p6), .val (.int (p2 &&& (2147483647 : Int32))), .val (.int (mg0_9_s0 p1)), .val (.int (mg0_21_s0 p1 p2 p5)), .val (.ref b7), .val (.ref b11), .val (.int (res5 (p2 &&& (2147483647 : Int32)) (mg0_21_s0 p1 p2 p5) p4 p6)), .val (.long (((p2 &&& (2147483647 : Int32)).toInt64) - ((mg0_21_s0 p1 p2 p5).toInt64))), .second, .unset] [(.int (1 : Int32))])) _
          refine XS.goto X15.here hx rfl (pc0 := 137) (pc' := 141) rfl (hb hby at_137) (by decide) (by decide) ?_
          exact kt
        · rw [show (mg0_120_s0 p1 p2 p4 p5 p6) = (0 : Int32) from by rw [mg0_120_s0, if_neg hc120_17, if_pos hc127_19, if_neg hc133_21]] at kt
          refine pre20 _ ?_
          show Steps p.tables e below (T15.setTop (mkF m 133 #[.val (.int p1), .val (.int p2), .val (.int p3), .val (.int p4), .val (.int p5), .val (.int p6), .val (.int (p2 &&& (2147483647 : Int32))), .val (.int (mg0_9_s0 p1)), .val (.int (mg0_21_s0 p1 p2 p5)), .val (.ref b7), .val (.ref b11), .val (.int (res5 (p2 &&& (2147483647 : Int32)) (mg0_21_s0 p1 p2 p5) p4 p6)), .val (.long (((p2 &&& (2147483647 : Int32)).toInt64) - ((mg0_21_s0 p1 p2 p5).toInt64))), .second, .unset] [(.int p6), (.int p4)])) _
          refine XS.icmpYes X15.here hx rfl (pc0 := 133) (pc' := 140) rfl (hb hby at_133) rfl (flt hc133_21).2.2.2 (by decide) (by decide) ?_
          show Steps p.tables e below (T15.setTop (mkF m 140 #[.val (.int p1), .val (.int p2), .val (.int p3), .val (.int p4), .val (.int p5), .val (.int p6), .val (.int (p2 &&& (2147483647 : Int32))), .val (.int (mg0_9_s0 p1)), .val (.int (mg0_21_s0 p1 p2 p5)), .val (.ref b7), .val (.ref b11), .val (.int (res5 (p2 &&& (2147483647 : Int32)) (mg0_21_s0 p1 p2 p5) p4 p6)), .val (.long (((p2 &&& (2147483647 : Int32)).toInt64) - ((mg0_21_s0 p1 p2 p5).toInt64))), .second, .unset] [])) _
          refine XS.iconst X15.here hx rfl (hb hby at_140) ?_
          exact kt
      · rw [show (mg0_120_s0 p1 p2 p4 p5 p6) = (0 : Int32) from by rw [mg0_120_s0, if_neg hc120_17, if_neg hc127_19]] at kt
        refine pre18 _ ?_
        show Steps p.tables e below (T15.setTop (mkF m 127 #[.val (.int p1), .val (.int p2), .val (.int p3), .val (.int p4), .val (.int p5), .val (.int p6), .val (.int (p2 &&& (2147483647 : Int32))), .val (.int (mg0_9_s0 p1)), .val (.int (mg0_21_s0 p1 p2 p5)), .val (.ref b7), .val (.ref b11), .val (.int (res5 (p2 &&& (2147483647 : Int32)) (mg0_21_s0 p1 p2 p5) p4 p6)), .val (.long (((p2 &&& (2147483647 : Int32)).toInt64) - ((mg0_21_s0 p1 p2 p5).toInt64))), .second, .unset] [(.int (lcmpW (((p2 &&& (2147483647 : Int32)).toInt64) - ((mg0_21_s0 p1 p2 p5).toInt64)) (1 : Int64)))])) _
        refine XS.ifYes X15.here hx rfl (pc0 := 127) (pc' := 140) rfl (hb hby at_127) rfl ((if0 _ _).trans (feq hc127_19).2) (by decide) (by decide) ?_
        show Steps p.tables e below (T15.setTop (mkF m 140 #[.val (.int p1), .val (.int p2), .val (.int p3), .val (.int p4), .val (.int p5), .val (.int p6), .val (.int (p2 &&& (2147483647 : Int32))), .val (.int (mg0_9_s0 p1)), .val (.int (mg0_21_s0 p1 p2 p5)), .val (.ref b7), .val (.ref b11), .val (.int (res5 (p2 &&& (2147483647 : Int32)) (mg0_21_s0 p1 p2 p5) p4 p6)), .val (.long (((p2 &&& (2147483647 : Int32)).toInt64) - ((mg0_21_s0 p1 p2 p5).toInt64))), .second, .unset] [])) _
        refine XS.iconst X15.here hx rfl (hb hby at_140) ?_
        exact kt
  have pre23 : ∀ t, Steps p.tables e below (T15.setTop (mkF m 147 #[.val (.int p1), .val (.int p2), .val (.int p3), .val (.int p4), .val (.int p5), .val (.int p6), .val (.int (p2 &&& (2147483647 : Int32))), .val (.int (mg0_9_s0 p1)), .val (.int (mg0_21_s0 p1 p2 p5)), .val (.ref b7), .val (.ref b11), .val (.int (res5 (p2 &&& (2147483647 : Int32)) (mg0_21_s0 p1 p2 p5) p4 p6)), .val (.long (((p2 &&& (2147483647 : Int32)).toInt64) - ((mg0_21_s0 p1 p2 p5).toInt64))), .second, .val (.int (mg0_120_s0 p1 p2 p4 p5 p6))] [(.int (mg0_120_s0 p1 p2 p4 p5 p6)), (.int (res5 (p2 &&& (2147483647 : Int32)) (mg0_21_s0 p1 p2 p5) p4 p6))])) t → Steps p.tables e below (s₁.setTop (entryFrame m #[(.int p1), (.int p2), (.int p3), (.int p4), (.int p5), (.int p6)] maxLocals)) t := by
    intro t kt
    refine pre22 _ ?_
    show Steps p.tables e below (T15.setTop (mkF m 141 #[.val (.int p1), .val (.int p2), .val (.int p3), .val (.int p4), .val (.int p5), .val (.int p6), .val (.int (p2 &&& (2147483647 : Int32))), .val (.int (mg0_9_s0 p1)), .val (.int (mg0_21_s0 p1 p2 p5)), .val (.ref b7), .val (.ref b11), .val (.int (res5 (p2 &&& (2147483647 : Int32)) (mg0_21_s0 p1 p2 p5) p4 p6)), .val (.long (((p2 &&& (2147483647 : Int32)).toInt64) - ((mg0_21_s0 p1 p2 p5).toInt64))), .second, .unset] [(.int (mg0_120_s0 p1 p2 p4 p5 p6))])) _
    refine XS.istore X15.here hx rfl (hb hby at_141) rfl (l' := #[.val (.int p1), .val (.int p2), .val (.int p3), .val (.int p4), .val (.int p5), .val (.int p6), .val (.int (p2 &&& (2147483647 : Int32))), .val (.int (mg0_9_s0 p1)), .val (.int (mg0_21_s0 p1 p2 p5)), .val (.ref b7), .val (.ref b11), .val (.int (res5 (p2 &&& (2147483647 : Int32)) (mg0_21_s0 p1 p2 p5) p4 p6)), .val (.long (((p2 &&& (2147483647 : Int32)).toInt64) - ((mg0_21_s0 p1 p2 p5).toInt64))), .second, .val (.int (mg0_120_s0 p1 p2 p4 p5 p6))]) rfl ?_
    show Steps p.tables e below (T15.setTop (mkF m 143 #[.val (.int p1), .val (.int p2), .val (.int p3), .val (.int p4), .val (.int p5), .val (.int p6), .val (.int (p2 &&& (2147483647 : Int32))), .val (.int (mg0_9_s0 p1)), .val (.int (mg0_21_s0 p1 p2 p5)), .val (.ref b7), .val (.ref b11), .val (.int (res5 (p2 &&& (2147483647 : Int32)) (mg0_21_s0 p1 p2 p5) p4 p6)), .val (.long (((p2 &&& (2147483647 : Int32)).toInt64) - ((mg0_21_s0 p1 p2 p5).toInt64))), .second, .val (.int (mg0_120_s0 p1 p2 p4 p5 p6))] [])) _
    refine XS.iload X15.here hx rfl (hb hby at_143) rfl ?_
    show Steps p.tables e below (T15.setTop (mkF m 145 #[.val (.int p1), .val (.int p2), .val (.int p3), .val (.int p4), .val (.int p5), .val (.int p6), .val (.int (p2 &&& (2147483647 : Int32))), .val (.int (mg0_9_s0 p1)), .val (.int (mg0_21_s0 p1 p2 p5)), .val (.ref b7), .val (.ref b11), .val (.int (res5 (p2 &&& (2147483647 : Int32)) (mg0_21_s0 p1 p2 p5) p4 p6)), .val (.long (((p2 &&& (2147483647 : Int32)).toInt64) - ((mg0_21_s0 p1 p2 p5).toInt64))), .second, .val (.int (mg0_120_s0 p1 p2 p4 p5 p6))] [(.int (res5 (p2 &&& (2147483647 : Int32)) (mg0_21_s0 p1 p2 p5) p4 p6))])) _
    refine XS.iload X15.here hx rfl (hb hby at_145) rfl ?_
    exact kt
  by_cases hc147_24 : (res5 (p2 &&& (2147483647 : Int32)) (mg0_21_s0 p1 p2 p5) p4 p6) = (mg0_120_s0 p1 p2 p4 p5 p6)
  · obtain ⟨fs, hr, hrun, hended, hW, hsame⟩ := X15.leave (v := some (.int (1 : Int32))) (fun h => by rw [Bd.returns] at h; cases h)
    refine ⟨_, _, pre23 _ ?_, hrun, hended, _, _, rfl, ?_, ⟨_, rfl⟩, hW, hsame.mono (by decide) (by decide)⟩
    · show Steps p.tables e below (T15.setTop (mkF m 147 #[.val (.int p1), .val (.int p2), .val (.int p3), .val (.int p4), .val (.int p5), .val (.int p6), .val (.int (p2 &&& (2147483647 : Int32))), .val (.int (mg0_9_s0 p1)), .val (.int (mg0_21_s0 p1 p2 p5)), .val (.ref b7), .val (.ref b11), .val (.int (res5 (p2 &&& (2147483647 : Int32)) (mg0_21_s0 p1 p2 p5) p4 p6)), .val (.long (((p2 &&& (2147483647 : Int32)).toInt64) - ((mg0_21_s0 p1 p2 p5).toInt64))), .second, .val (.int (mg0_120_s0 p1 p2 p4 p5 p6))] [(.int (mg0_120_s0 p1 p2 p4 p5 p6)), (.int (res5 (p2 &&& (2147483647 : Int32)) (mg0_21_s0 p1 p2 p5) p4 p6))])) _
      refine XS.icmpNo X15.here hx rfl (hb hby at_147) rfl (teq hc147_24).2 ?_
      show Steps p.tables e below (T15.setTop (mkF m 150 #[.val (.int p1), .val (.int p2), .val (.int p3), .val (.int p4), .val (.int p5), .val (.int p6), .val (.int (p2 &&& (2147483647 : Int32))), .val (.int (mg0_9_s0 p1)), .val (.int (mg0_21_s0 p1 p2 p5)), .val (.ref b7), .val (.ref b11), .val (.int (res5 (p2 &&& (2147483647 : Int32)) (mg0_21_s0 p1 p2 p5) p4 p6)), .val (.long (((p2 &&& (2147483647 : Int32)).toInt64) - ((mg0_21_s0 p1 p2 p5).toInt64))), .second, .val (.int (mg0_120_s0 p1 p2 p4 p5 p6))] [])) _
      refine XS.iconst X15.here hx rfl (hb hby at_150) ?_
      show Steps p.tables e below (T15.setTop (mkF m 151 #[.val (.int p1), .val (.int p2), .val (.int p3), .val (.int p4), .val (.int p5), .val (.int p6), .val (.int (p2 &&& (2147483647 : Int32))), .val (.int (mg0_9_s0 p1)), .val (.int (mg0_21_s0 p1 p2 p5)), .val (.ref b7), .val (.ref b11), .val (.int (res5 (p2 &&& (2147483647 : Int32)) (mg0_21_s0 p1 p2 p5) p4 p6)), .val (.long (((p2 &&& (2147483647 : Int32)).toInt64) - ((mg0_21_s0 p1 p2 p5).toInt64))), .second, .val (.int (mg0_120_s0 p1 p2 p4 p5 p6))] [(.int (1 : Int32))])) _
      refine XS.goto X15.here hx rfl (pc0 := 151) (pc' := 155) rfl (hb hby at_151) (by decide) (by decide) ?_
      show Steps p.tables e below (T15.setTop (mkF m 155 #[.val (.int p1), .val (.int p2), .val (.int p3), .val (.int p4), .val (.int p5), .val (.int p6), .val (.int (p2 &&& (2147483647 : Int32))), .val (.int (mg0_9_s0 p1)), .val (.int (mg0_21_s0 p1 p2 p5)), .val (.ref b7), .val (.ref b11), .val (.int (res5 (p2 &&& (2147483647 : Int32)) (mg0_21_s0 p1 p2 p5) p4 p6)), .val (.long (((p2 &&& (2147483647 : Int32)).toInt64) - ((mg0_21_s0 p1 p2 p5).toInt64))), .second, .val (.int (mg0_120_s0 p1 p2 p4 p5 p6))] [(.int (1 : Int32))])) _
      exact retN X15 hx (t := .boolean) Bd.returns (by simp) (hb hby at_155) hr
    · show Q0 Z p1 p2 p3 p4 p5 p6 w_NOTHING w_HEADING w_LIST_END w_FULL_STOP w_INITIAL h0 n0 _ T15.heap _
      rw [e15]
      exact ⟨by rw [res0, if_pos hc147_24], N15⟩
  · obtain ⟨fs, hr, hrun, hended, hW, hsame⟩ := X15.leave (v := some (.int (0 : Int32))) (fun h => by rw [Bd.returns] at h; cases h)
    refine ⟨_, _, pre23 _ ?_, hrun, hended, _, _, rfl, ?_, ⟨_, rfl⟩, hW, hsame.mono (by decide) (by decide)⟩
    · show Steps p.tables e below (T15.setTop (mkF m 147 #[.val (.int p1), .val (.int p2), .val (.int p3), .val (.int p4), .val (.int p5), .val (.int p6), .val (.int (p2 &&& (2147483647 : Int32))), .val (.int (mg0_9_s0 p1)), .val (.int (mg0_21_s0 p1 p2 p5)), .val (.ref b7), .val (.ref b11), .val (.int (res5 (p2 &&& (2147483647 : Int32)) (mg0_21_s0 p1 p2 p5) p4 p6)), .val (.long (((p2 &&& (2147483647 : Int32)).toInt64) - ((mg0_21_s0 p1 p2 p5).toInt64))), .second, .val (.int (mg0_120_s0 p1 p2 p4 p5 p6))] [(.int (mg0_120_s0 p1 p2 p4 p5 p6)), (.int (res5 (p2 &&& (2147483647 : Int32)) (mg0_21_s0 p1 p2 p5) p4 p6))])) _
      refine XS.icmpYes X15.here hx rfl (pc0 := 147) (pc' := 154) rfl (hb hby at_147) rfl (feq hc147_24).2 (by decide) (by decide) ?_
      show Steps p.tables e below (T15.setTop (mkF m 154 #[.val (.int p1), .val (.int p2), .val (.int p3), .val (.int p4), .val (.int p5), .val (.int p6), .val (.int (p2 &&& (2147483647 : Int32))), .val (.int (mg0_9_s0 p1)), .val (.int (mg0_21_s0 p1 p2 p5)), .val (.ref b7), .val (.ref b11), .val (.int (res5 (p2 &&& (2147483647 : Int32)) (mg0_21_s0 p1 p2 p5) p4 p6)), .val (.long (((p2 &&& (2147483647 : Int32)).toInt64) - ((mg0_21_s0 p1 p2 p5).toInt64))), .second, .val (.int (mg0_120_s0 p1 p2 p4 p5 p6))] [])) _
      refine XS.iconst X15.here hx rfl (hb hby at_154) ?_
      show Steps p.tables e below (T15.setTop (mkF m 155 #[.val (.int p1), .val (.int p2), .val (.int p3), .val (.int p4), .val (.int p5), .val (.int p6), .val (.int (p2 &&& (2147483647 : Int32))), .val (.int (mg0_9_s0 p1)), .val (.int (mg0_21_s0 p1 p2 p5)), .val (.ref b7), .val (.ref b11), .val (.int (res5 (p2 &&& (2147483647 : Int32)) (mg0_21_s0 p1 p2 p5) p4 p6)), .val (.long (((p2 &&& (2147483647 : Int32)).toInt64) - ((mg0_21_s0 p1 p2 p5).toInt64))), .second, .val (.int (mg0_120_s0 p1 p2 p4 p5 p6))] [(.int (0 : Int32))])) _
      exact retN X15 hx (t := .boolean) Bd.returns (by simp) (hb hby at_155) hr
    · show Q0 Z p1 p2 p3 p4 p5 p6 w_NOTHING w_HEADING w_LIST_END w_FULL_STOP w_INITIAL h0 n0 _ T15.heap _
      rw [e15]
      exact ⟨by rw [res0, if_neg hc147_24], N15⟩
theorem own_fin (p1 p2 p3 p4 p5 p6 : Int32) : (res0 p1 p2 p4 p5 p6) = 1 := by
  have e : (p2 &&& (2147483647 : Int32)).toInt = p2.toInt % (2 ^ 31 : Nat) := c_mask p2 _ 31 (by decide) (by decide)
  unfold res0 mg0_120_s0 res5
  generalize (p2 &&& (2147483647 : Int32)) = E at e
  generalize mg0_21_s0 p1 p2 p5 = L
  have h1 := c_lsub E.toInt64 L.toInt64
  have h2 := c_i2l E
  have h3 := c_i2l L
  have h4 := c_isub E (1 : Int32)
  have r1 := rng32 E
  have r2 := rng32 L
  have r3 := rng64 (E.toInt64 - L.toInt64)
  have r4 := rng32 (E - (1 : Int32))
  have e1 : (1 : Int64).toInt = 1 := by decide
  have e2 : (1 : Int32).toInt = 1 := by decide
  have e0 : (0 : Int32).toInt = 0 := by decide
  simp only [lw_gt, lw_eq]
  simp only [Int32.lt_iff_toInt_lt, Int64.lt_iff_toInt_lt, ← Int32.toInt_inj, ← Int64.toInt_inj]
  repeat' split
  all_goals first | rfl | (exfalso; contradiction) | (exfalso; omega) | (exfalso; simp only [Int32.lt_iff_toInt_lt, Int64.lt_iff_toInt_lt, ← Int32.toInt_inj, ← Int64.toInt_inj] at *; omega)
set_option maxRecDepth 65536 in
set_option maxHeartbeats 40000000 in
theorem comes_1 {Post : Tables → Env → Array Value → State → Outcome → State → Prop} (hpost : ∀ tb e args s v u, (limb_1_1.after args s (.returned v) u = true ∧ limb_1_2.after args s (.returned v) u = true ∧ True) → FrameEnd s (.returned v) u (Jvm.fieldLocs frame_1_writes args s ++ Jvm.arrayLocs frame_1_arrays args s ++ Jvm.staticLocs frame_1_statics s) 16 128 → Post tb e args s (.returned v) u) :
    ArmFor flags0 classFile x code maxLocals ret World_1 tables_1 room_1 Calls_1 rest_1 Pre_1 Post := by
  intro l hfl _ _ p e ha hc hk s m args below hf hA hF happ hP
  obtain ⟨hcalls, hrest, hpre⟩ := hP
  obtain ⟨-, -, -, hnamed, -, -, -, hat⟩ := (Spec.applies_iff hf).mp happ
  obtain ⟨hg, hn⟩ := and_e (Cond.before_iff.mp (show (Jvm.Cond.and given_1 narrow_1).before args s = true from hpre))
  obtain ⟨ga0, gb0⟩ := and_e hg
  obtain ⟨ga1, gb1⟩ := and_e gb0
  obtain ⟨ga2, gb2⟩ := and_e gb1
  obtain ⟨ga3, gb3⟩ := and_e gb2
  obtain ⟨ga4, gb4⟩ := and_e gb3
  obtain ⟨ga5, gb5⟩ := and_e gb4
  obtain ⟨w0, w1, w2, w3, w4, w5, rfl⟩ : ∃ w0 w1 w2 w3 w4 w5 : Value, args = #[w0, w1, w2, w3, w4, w5] := by
    have hs : args.size = 6 := by simpa [Cond.value, given_1] using ga0
    obtain ⟨L⟩ := args
    match L, hs with
    | [w0, w1, w2, w3, w4, w5], _ => exact ⟨w0, w1, w2, w3, w4, w5, rfl⟩
  have hw := fun d (hd : d ∈ tables_1) => atoms_spec (ws := Jvm.Cond.code x code maxLocals ret :: tables_1) hat d (List.mem_cons_of_mem _ hd)
  have hfit : Fit s := fun {y c} hc i hi => by
    obtain ⟨ha, rfl⟩ := Array.getElem?_eq_some_iff.mp hc
    have q := List.all_eq_true.mp ((Array.all_eq_true_iff_forall_mem.mp hF) _ (Array.getElem_mem ha)) i (List.mem_range.mpr hi)
    simpa [Array.getElem?_eq_getElem hi] using q
  obtain ⟨i0, ei0⟩ := is_v ga1
  obtain rfl : w0 = (.int i0) := Option.some.inj ei0
  obtain ⟨i1, ei1⟩ := is_v ga2
  obtain rfl : w1 = (.int i1) := Option.some.inj ei1
  obtain ⟨i2, ei2⟩ := is_v ga3
  obtain rfl : w2 = (.int i2) := Option.some.inj ei2
  obtain ⟨i3, ei3⟩ := is_v ga4
  obtain rfl : w3 = (.int i3) := Option.some.inj ei3
  obtain ⟨i4, ei4⟩ := is_v ga5
  obtain rfl : w4 = (.int i4) := Option.some.inj ei4
  obtain ⟨i5, ei5⟩ := is_v gb5
  obtain rfl : w5 = (.int i5) := Option.some.inj ei5
  obtain ⟨na1, nb1⟩ := and_e hn
  obtain ⟨na2, nb2⟩ := and_e nb1
  obtain ⟨na3, nb3⟩ := and_e nb2
  obtain ⟨na4, nb4⟩ := and_e nb3
  obtain ⟨w_NOTHING, ev_NOTHING⟩ := exa_v na1
  have S_NOTHING := Sta.start ev_NOTHING (Or.inr ⟨(hw _ (List.mem_of_getElem? (i := 9) rfl)), (hw _ (List.mem_of_getElem? (i := 10) rfl))⟩)
  have E_w_NOTHING := Exa.start ev_NOTHING na1
  obtain ⟨w_HEADING, ev_HEADING⟩ := exa_v na2
  have S_HEADING := Sta.start ev_HEADING (Or.inr ⟨(hw _ (List.mem_of_getElem? (i := 9) rfl)), (hw _ (List.mem_of_getElem? (i := 35) rfl))⟩)
  have E_w_HEADING := Exa.start ev_HEADING na2
  obtain ⟨w_LIST_END, ev_LIST_END⟩ := exa_v na3
  have S_LIST_END := Sta.start ev_LIST_END (Or.inr ⟨(hw _ (List.mem_of_getElem? (i := 9) rfl)), (hw _ (List.mem_of_getElem? (i := 47) rfl))⟩)
  have E_w_LIST_END := Exa.start ev_LIST_END na3
  obtain ⟨w_INITIAL, ev_INITIAL⟩ := exa_v na4
  have S_INITIAL := Sta.start ev_INITIAL (Or.inr ⟨(hw _ (List.mem_of_getElem? (i := 9) rfl)), (hw _ (List.mem_of_getElem? (i := 49) rfl))⟩)
  have E_w_INITIAL := Exa.start ev_INITIAL na4
  obtain ⟨w_FULL_STOP, ev_FULL_STOP⟩ := exa_v nb4
  have S_FULL_STOP := Sta.start ev_FULL_STOP (Or.inr ⟨(hw _ (List.mem_of_getElem? (i := 9) rfl)), (hw _ (List.mem_of_getElem? (i := 56) rfl))⟩)
  have E_w_FULL_STOP := Exa.start ev_FULL_STOP nb4
  obtain ⟨n, o, h1, h2, h3, _, L, rfl, ⟨rfl, N⟩, hq⟩ := rm0 l s _ hw tables_1 i0 i1 i2 i3 i4 i5 w_NOTHING w_HEADING w_LIST_END w_FULL_STOP w_INITIAL s.heap s.heap.size (Nat.le_refl _) S_NOTHING S_HEADING S_LIST_END S_FULL_STOP S_INITIAL p e ha hc hk s m _ below hf ((Spec.applies_iff_loose hf).mp happ).1 ⟨rfl, State.Warmed39.refl s, rfl⟩ trivial
  have hfin : (res0 i0 i1 i3 i4 i5) = (1 : Int32) := own_fin i0 i1 i2 i3 i4 i5
  refine ⟨n, _, h1, h2, h3, hpost _ _ _ _ _ _ ⟨Cond.after_iff.mpr rfl, Cond.after_iff.mpr (eq_i res_at (Term.int_eval (1)) (by rw [hfin])), trivial⟩ ⟨hq.1, hq.2.1, (hq.2.2.sift fun y hy => Or.inr (N y hy)).mono (by decide) (by decide)⟩⟩
theorem main_1_1 : Claimed_1_1 := comes_1 fun _ _ _ _ _ _ h hF => ⟨h.1, hF⟩
theorem main_1_2 : Claimed_1_2 := comes_1 fun _ _ _ _ _ _ h hF => ⟨h.2.1, hF⟩
end Jvm.Pilot.@@N@@
namespace Jvm.Pilot.@@N@@
open Jvm Jvm.ClassFile Sem Op Lib Jvm.Free Jvm.Stand Jvm.Pilot.@@N@@.Jvm.D
/-! MADE BY PROGRAM (witnessworld.py) out of the Statement's table words and the real class files: 14 classes; the members and pool entries that the words name. The judged class is class 1, her method 2. -/
namespace start1
open Jvm.ClassFile
def u (s : String) : CpInfo := .utf8 (stringToUtf16 s)
/-- a pool by its gaps: so many unusable entries, then the entry; so many at the end -/
def gap : Nat → List CpInfo → List CpInfo
  | 0, r => r
  | n + 1, r => .unusable :: gap n r
def poolList (es : List (Nat × CpInfo)) (last : Nat) : List CpInfo := es.foldr (fun e r => gap e.1 (e.2 :: r)) (gap last [])
def pool (es : List (Nat × CpInfo)) (last : Nat) : Array CpInfo := ⟨poolList es last⟩
def fileOf (pool : Array CpInfo) (this : Nat) (attrs : Array Attribute := #[]) (ms : Array MethodInfo := #[]) (fl : Nat := 33) (sup : Nat := 0) (ifs : Array Nat := #[]) (fds : Array FieldInfo := #[]) : ClassFile where
  minorVersion := 0
  majorVersion := 65
  constantPool := pool
  accessFlags := fl
  thisClass := this
  superClass := sup
  interfaces := ifs
  fields := fds
  methods := ms
  attributes := attrs
def plain (name : String) (sup : Option ClassId) : Class where
  name := name
  kind := .ordinary
  loader := none
  accessFlags := 33
  super := sup
  interfaces := #[]
  cf := none
  fields := #[]
  methods := #[]
  instanceTypes := #[]
  staticTypes := #[]
  resolved := #[]
  callSites := []
  init := .initialized
  statics := none
  mirror := none

def pool0 : Array CpInfo := pool [(5, u "<init>"), (0, u "()V"), (1, .class_ 10), (1, u "java/lang/Object")] 113

def k0c0 : Code := { maxStack := 0, maxLocals := 1, code := object_method_1_code, exceptionTable := #[], attributes := #[] }
def k0m0 : Method := { name := "<init>", desc := "()V", sig := { parameters := [], returnType := none }, accessFlags := 1, code := some k0c0 }
/-- java/lang/Object -/
def k0 : Class := { plain "java/lang/Object" none with
  accessFlags := 33
  interfaces := #[]
  cf := some (fileOf pool0 8 #[] #[{ accessFlags := 1, nameIndex := 5, descriptorIndex := 6, attributes := #[] }] 33 0 #[] #[])
  fields := #[]
  methods := #[k0m0]
  instanceTypes := #[]
  staticTypes := #[]
  resolved := Array.replicate 124 none
  statics := none }

def pool1 : Array CpInfo := pool [(2, .class_ 4), (1, u "java/lang/Object"), (0, u "<init>"), (0, u "()V"), (0, .fieldref 8 9), (0, .class_ 10), (0, .nameAndType 11 12), (0, u "com/example/whereas/whereas/Untold"), (0, u "NOTHING"), (0, u "Lcom/example/whereas/whereas/Untold;"), (0, .fieldref 8 14), (0, .nameAndType 15 12), (0, u "HEADING"), (0, .fieldref 8 17), (0, .nameAndType 18 12), (0, u "LIST_END"), (0, .fieldref 8 20), (0, .nameAndType 21 12), (0, u "FULL_STOP"), (0, .fieldref 8 23), (0, .nameAndType 24 12), (0, u "INITIAL"), (0, .integer 2147483647), (0, .class_ 27), (0, u "com/example/whereas/whereas/Scope"), (0, .methodref 29 30), (0, .class_ 31), (0, .nameAndType 32 33), (0, u "com/example/whereas/whereas/ScopeReachesPinLaw"), (0, u "untold"), (0, u "(I)Lcom/example/whereas/whereas/Untold;"), (0, .methodref 26 35), (0, .nameAndType 5 36), (0, u "(IIIILcom/example/whereas/whereas/Untold;Lcom/example/whereas/whereas/Untold;)V"), (0, .methodref 26 38), (0, .nameAndType 39 40), (0, u "reaches"), (0, u "(Lcom/example/whereas/whereas/Scope;)Z"), (3, u "law"), (0, u "(IIIIII)Z")] 2

def k1m0 : Method := { name := "<init>", desc := "()V", sig := { parameters := [], returnType := none }, accessFlags := 2, code := none }
def k1c1 : Code := { maxStack := 2, maxLocals := 1, code := method_2_code, exceptionTable := #[], attributes := #[] }
def k1m1 : Method := { name := "untold", desc := "(I)Lcom/example/whereas/whereas/Untold;", sig := { parameters := [.int], returnType := some (.object "com/example/whereas/whereas/Untold") }, accessFlags := 10, code := some k1c1 }
def k1c2 : Code := { maxStack := 9, maxLocals := 15, code := code, exceptionTable := #[], attributes := #[] }
def k1m2 : Method := { name := "law", desc := "(IIIIII)Z", sig := { parameters := [.int, .int, .int, .int, .int, .int], returnType := some .boolean }, accessFlags := 9, code := some k1c2 }
/-- com/example/whereas/whereas/ScopeReachesPinLaw -/
def k1 : Class := { plain "com/example/whereas/whereas/ScopeReachesPinLaw" (some 0) with
  accessFlags := 49
  interfaces := #[]
  cf := some (fileOf pool1 29 #[] #[{ accessFlags := 2, nameIndex := 5, descriptorIndex := 6, attributes := #[] }, { accessFlags := 10, nameIndex := 32, descriptorIndex := 33, attributes := #[] }, { accessFlags := 9, nameIndex := 44, descriptorIndex := 45, attributes := #[] }] 49 2 #[] #[])
  fields := #[]
  methods := #[k1m0, k1m1, k1m2]
  instanceTypes := #[]
  staticTypes := #[]
  resolved := Array.replicate 48 none
  statics := none }

def pool2 : Array CpInfo := pool [(1, .methodref 2 3), (0, .class_ 4), (0, .nameAndType 5 6), (0, u "java/lang/Object"), (0, u "<init>"), (0, u "()V"), (0, .class_ 8), (0, u "java/lang/Record")] 13

def k2c0 : Code := { maxStack := 1, maxLocals := 1, code := jdk_30_method_1_code, exceptionTable := #[], attributes := #[] }
def k2m0 : Method := { name := "<init>", desc := "()V", sig := { parameters := [], returnType := none }, accessFlags := 4, code := some k2c0 }
/-- java/lang/Record -/
def k2 : Class := { plain "java/lang/Record" (some 0) with
  accessFlags := 1057
  interfaces := #[]
  cf := some (fileOf pool2 7 #[] #[{ accessFlags := 4, nameIndex := 5, descriptorIndex := 6, attributes := #[] }] 1057 2 #[] #[])
  fields := #[]
  methods := #[k2m0]
  instanceTypes := #[]
  staticTypes := #[]
  resolved := Array.replicate 22 none
  statics := none }

def pool3 : Array CpInfo := pool [(1, .methodref 2 3), (0, .class_ 4), (0, .nameAndType 5 6), (0, u "java/lang/Record"), (0, u "<init>"), (0, u "()V"), (0, .fieldref 8 9), (0, .class_ 10), (0, .nameAndType 11 12), (0, u "com/example/whereas/whereas/Scope"), (0, u "start"), (0, u "I"), (0, .fieldref 8 14), (0, .nameAndType 15 12), (0, u "end"), (0, .fieldref 8 17), (0, .nameAndType 18 12), (0, u "startColumn"), (0, .fieldref 8 20), (0, .nameAndType 21 12), (0, u "endColumn"), (0, .fieldref 8 23), (0, .nameAndType 24 25), (0, u "untoldStart"), (0, u "Lcom/example/whereas/whereas/Untold;"), (0, .fieldref 8 27), (0, .nameAndType 28 25), (0, u "untoldEnd"), (7, u "(IIIILcom/example/whereas/whereas/Untold;Lcom/example/whereas/whereas/Untold;)V"), (11, u "()I"), (31, .methodref 8 81), (0, .nameAndType 11 48), (0, .methodref 8 83), (0, .nameAndType 18 48), (387, .class_ 472), (0, u "com/example/whereas/whereas/Scope$OwnWords"), (47, u "BY_START"), (0, u "Ljava/util/Comparator;"), (8, u "reaches"), (0, u "(Lcom/example/whereas/whereas/Scope;)Z")] 69

def k3c0 : Code := { maxStack := 2, maxLocals := 7, code := prog_100_method_3_code, exceptionTable := #[], attributes := #[] }
def k3m0 : Method := { name := "<init>", desc := "(IIIILcom/example/whereas/whereas/Untold;Lcom/example/whereas/whereas/Untold;)V", sig := { parameters := [.int, .int, .int, .int, (.object "com/example/whereas/whereas/Untold"), (.object "com/example/whereas/whereas/Untold")], returnType := none }, accessFlags := 0, code := some k3c0 }
def k3c1 : Code := { maxStack := 2, maxLocals := 3, code := prog_100_method_11_code, exceptionTable := #[], attributes := #[] }
def k3m1 : Method := { name := "reaches", desc := "(Lcom/example/whereas/whereas/Scope;)Z", sig := { parameters := [(.object "com/example/whereas/whereas/Scope")], returnType := some .boolean }, accessFlags := 0, code := some k3c1 }
def k3c2 : Code := { maxStack := 1, maxLocals := 1, code := prog_100_method_39_code, exceptionTable := #[], attributes := #[] }
def k3m2 : Method := { name := "start", desc := "()I", sig := { parameters := [], returnType := some .int }, accessFlags := 1, code := some k3c2 }
def k3c3 : Code := { maxStack := 1, maxLocals := 1, code := prog_100_method_41_code, exceptionTable := #[], attributes := #[] }
def k3m3 : Method := { name := "startColumn", desc := "()I", sig := { parameters := [], returnType := some .int }, accessFlags := 1, code := some k3c3 }
/-- com/example/whereas/whereas/Scope -/
def k3 : Class := { plain "com/example/whereas/whereas/Scope" (some 2) with
  accessFlags := 48
  interfaces := #[]
  cf := some (fileOf pool3 8 #[.nestMembers #[471]] #[{ accessFlags := 0, nameIndex := 5, descriptorIndex := 36, attributes := #[] }, { accessFlags := 0, nameIndex := 530, descriptorIndex := 531, attributes := #[] }, { accessFlags := 1, nameIndex := 11, descriptorIndex := 48, attributes := #[] }, { accessFlags := 1, nameIndex := 18, descriptorIndex := 48, attributes := #[] }] 48 2 #[] #[{ accessFlags := 18, nameIndex := 11, descriptorIndex := 12, attributes := #[] }, { accessFlags := 18, nameIndex := 15, descriptorIndex := 12, attributes := #[] }, { accessFlags := 18, nameIndex := 18, descriptorIndex := 12, attributes := #[] }, { accessFlags := 18, nameIndex := 21, descriptorIndex := 12, attributes := #[] }, { accessFlags := 18, nameIndex := 24, descriptorIndex := 25, attributes := #[] }, { accessFlags := 18, nameIndex := 28, descriptorIndex := 25, attributes := #[] }, { accessFlags := 24, nameIndex := 520, descriptorIndex := 521, attributes := #[] }])
  fields := #[{ name := "start", type := .int, accessFlags := 18, slot := 0, constantValue := 0 }, { name := "end", type := .int, accessFlags := 18, slot := 1, constantValue := 0 }, { name := "startColumn", type := .int, accessFlags := 18, slot := 2, constantValue := 0 }, { name := "endColumn", type := .int, accessFlags := 18, slot := 3, constantValue := 0 }, { name := "untoldStart", type := (.object "com/example/whereas/whereas/Untold"), accessFlags := 18, slot := 4, constantValue := 0 }, { name := "untoldEnd", type := (.object "com/example/whereas/whereas/Untold"), accessFlags := 18, slot := 5, constantValue := 0 }, { name := "BY_START", type := (.object "java/util/Comparator"), accessFlags := 24, slot := 0, constantValue := 0 }]
  methods := #[k3m0, k3m1, k3m2, k3m3]
  instanceTypes := #[.int, .int, .int, .int, (.object "com/example/whereas/whereas/Untold"), (.object "com/example/whereas/whereas/Untold")]
  staticTypes := #[(.object "java/util/Comparator")]
  resolved := Array.replicate 601 none
  statics := none }

def pool4 : Array CpInfo := pool [(1, .class_ 2), (0, u "java/lang/constant/Constable"), (0, .class_ 4), (0, u "java/lang/Object")] 6

/-- java/lang/constant/Constable -/
def k4 : Class := { plain "java/lang/constant/Constable" (some 0) with
  accessFlags := 1537
  interfaces := #[]
  cf := some (fileOf pool4 1 #[] #[] 1537 3 #[] #[])
  fields := #[]
  methods := #[]
  instanceTypes := #[]
  staticTypes := #[]
  resolved := Array.replicate 11 none
  statics := none }

def pool5 : Array CpInfo := pool [(1, .class_ 2), (0, u "java/lang/Comparable"), (0, .class_ 4), (0, u "java/lang/Object")] 7

/-- java/lang/Comparable -/
def k5 : Class := { plain "java/lang/Comparable" (some 0) with
  accessFlags := 1537
  interfaces := #[]
  cf := some (fileOf pool5 1 #[] #[] 1537 3 #[] #[])
  fields := #[]
  methods := #[]
  instanceTypes := #[]
  staticTypes := #[]
  resolved := Array.replicate 12 none
  statics := none }

def pool6 : Array CpInfo := pool [(1, .class_ 2), (0, u "java/io/Serializable"), (0, .class_ 4), (0, u "java/lang/Object")] 2

/-- java/io/Serializable -/
def k6 : Class := { plain "java/io/Serializable" (some 0) with
  accessFlags := 1537
  interfaces := #[]
  cf := some (fileOf pool6 1 #[] #[] 1537 3 #[] #[])
  fields := #[]
  methods := #[]
  instanceTypes := #[]
  staticTypes := #[]
  resolved := Array.replicate 7 none
  statics := none }

def pool7 : Array CpInfo := pool [(2, .class_ 4), (1, u "java/lang/Enum"), (0, u "name"), (0, u "Ljava/lang/String;"), (2, u "ordinal"), (0, u "I"), (1, .class_ 14), (1, u "java/lang/Object"), (4, u "hash"), (86, .class_ 108), (1, u "java/lang/Enum$EnumDesc"), (2, .class_ 112), (0, u "java/lang/constant/Constable"), (0, .class_ 114), (0, u "java/lang/Comparable"), (0, .class_ 116), (0, u "java/io/Serializable")] 87

/-- java/lang/Enum -/
def k7 : Class := { plain "java/lang/Enum" (some 0) with
  accessFlags := 1057
  interfaces := #[4, 5, 6]
  cf := some (fileOf pool7 2 #[.nestMembers #[106]] #[] 1057 12 #[111, 113, 115] #[{ accessFlags := 18, nameIndex := 5, descriptorIndex := 6, attributes := #[] }, { accessFlags := 18, nameIndex := 9, descriptorIndex := 10, attributes := #[] }, { accessFlags := 2, nameIndex := 19, descriptorIndex := 10, attributes := #[] }])
  fields := #[{ name := "name", type := (.object "java/lang/String"), accessFlags := 18, slot := 0, constantValue := 0 }, { name := "ordinal", type := .int, accessFlags := 18, slot := 1, constantValue := 0 }, { name := "hash", type := .int, accessFlags := 2, slot := 2, constantValue := 0 }]
  methods := #[]
  instanceTypes := #[(.object "java/lang/String"), .int, .int]
  staticTypes := #[]
  resolved := Array.replicate 204 none
  statics := none }

def pool8 : Array CpInfo := pool [(1, .class_ 2), (0, u "com/example/whereas/whereas/Untold"), (2, u "NOTHING"), (0, u "Lcom/example/whereas/whereas/Untold;"), (2, u "HEADING"), (2, u "LIST_END"), (2, u "FULL_STOP"), (2, u "INITIAL"), (2, u "$VALUES"), (0, u "[Lcom/example/whereas/whereas/Untold;"), (6, .class_ 31), (1, u "java/lang/Enum"), (8, u "why"), (0, u "Ljava/lang/String;")] 35

/-- com/example/whereas/whereas/Untold -/
def k8 : Class := { plain "com/example/whereas/whereas/Untold" (some 7) with
  accessFlags := 16432
  interfaces := #[]
  cf := some (fileOf pool8 1 #[] #[] 16432 29 #[] #[{ accessFlags := 16409, nameIndex := 5, descriptorIndex := 6, attributes := #[] }, { accessFlags := 16409, nameIndex := 9, descriptorIndex := 6, attributes := #[] }, { accessFlags := 16409, nameIndex := 12, descriptorIndex := 6, attributes := #[] }, { accessFlags := 16409, nameIndex := 15, descriptorIndex := 6, attributes := #[] }, { accessFlags := 16409, nameIndex := 18, descriptorIndex := 6, attributes := #[] }, { accessFlags := 18, nameIndex := 40, descriptorIndex := 41, attributes := #[] }, { accessFlags := 4122, nameIndex := 21, descriptorIndex := 22, attributes := #[] }])
  fields := #[{ name := "NOTHING", type := (.object "com/example/whereas/whereas/Untold"), accessFlags := 16409, slot := 0, constantValue := 0 }, { name := "HEADING", type := (.object "com/example/whereas/whereas/Untold"), accessFlags := 16409, slot := 1, constantValue := 0 }, { name := "LIST_END", type := (.object "com/example/whereas/whereas/Untold"), accessFlags := 16409, slot := 2, constantValue := 0 }, { name := "FULL_STOP", type := (.object "com/example/whereas/whereas/Untold"), accessFlags := 16409, slot := 3, constantValue := 0 }, { name := "INITIAL", type := (.object "com/example/whereas/whereas/Untold"), accessFlags := 16409, slot := 4, constantValue := 0 }, { name := "why", type := (.object "java/lang/String"), accessFlags := 18, slot := 3, constantValue := 0 }, { name := "$VALUES", type := (.array (.object "com/example/whereas/whereas/Untold")), accessFlags := 4122, slot := 5, constantValue := 0 }]
  methods := #[]
  instanceTypes := #[(.object "java/lang/String"), .int, .int, (.object "java/lang/String")]
  staticTypes := #[(.object "com/example/whereas/whereas/Untold"), (.object "com/example/whereas/whereas/Untold"), (.object "com/example/whereas/whereas/Untold"), (.object "com/example/whereas/whereas/Untold"), (.object "com/example/whereas/whereas/Untold"), (.array (.object "com/example/whereas/whereas/Untold"))]
  resolved := Array.replicate 77 none
  statics := some 0 }

def pool9 : Array CpInfo := pool [(1, u "java/lang/Cloneable"), (0, .class_ 1), (0, u "java/lang/Object"), (0, .class_ 3)] 3

/-- java/lang/Cloneable -/
def k9 : Class := { plain "java/lang/Cloneable" (some 0) with
  accessFlags := 1537
  interfaces := #[]
  cf := some (fileOf pool9 2 #[] #[] 1537 4 #[] #[])
  fields := #[]
  methods := #[]
  instanceTypes := #[]
  staticTypes := #[]
  resolved := Array.replicate 8 none
  statics := none }

/-- the primitive byte -/
def k10 : Class := { plain "byte" none with kind := .primitive 'B', accessFlags := 0x411 }
/-- [B -/
def k11 : Class := { plain "[B" (some 0) with kind := .array 10 .byte, interfaces := #[9, 6], accessFlags := 1041 }

/-- the primitive int -/
def k12 : Class := { plain "int" none with kind := .primitive 'I', accessFlags := 0x411 }
/-- [I -/
def k13 : Class := { plain "[I" (some 0) with kind := .array 12 .int, interfaces := #[9, 6], accessFlags := 1041 }

def heap : Heap := #[{ cls := 8, slots := #[.ref 1, .ref 2, .ref 3, .ref 4, .ref 5, .null], vm := .statics 8 },
  { cls := 8, slots := #[.null, .int 0, .int 0, .null], vm := .none },
  { cls := 8, slots := #[.null, .int 1, .int 0, .null], vm := .none },
  { cls := 8, slots := #[.null, .int 2, .int 0, .null], vm := .none },
  { cls := 8, slots := #[.null, .int 3, .int 0, .null], vm := .none },
  { cls := 8, slots := #[.null, .int 4, .int 0, .null], vm := .none }]
def classes : Array Class := #[k0, k1, k2, k3, k4, k5, k6, k7, k8, k9, k10, k11, k12, k13]
def interned : List (Array UInt16 × Addr) := []
def slotsUsed : Nat := 26
def theMethod : MethodId := ⟨1, 2⟩
def args0 : Array Value := #[.int 1, .int 5, .int 2, .int 3, .int 4, .int 6]
def aboutOver (below : List Frame) : State where
  vm := { classes := classes, interned := interned.toArray }
  heap := heap
  slotsUsed := slotsUsed
  threads := #[{ frames := .invoking theMethod args0 :: below }]
def below0 : List Frame := [.native { method := ⟨0, 0⟩, args := #[] }]
def about1 : State := aboutOver below0
def p0 : Program := .bare "" "" ""
def e0 : Env := launch0.env 0 0 0
theorem w_frames : about1.frames = Frame.invoking theMethod args0 :: below0 := rfl
set_option maxRecDepth 65536 in
theorem w_args : argsFit about1.vm theMethod args0 = true := by decide +kernel
set_option maxRecDepth 65536 in
theorem w_heap : heapFits about1 = true := by decide +kernel
set_option maxRecDepth 65536 in
theorem w_runnable : about1.curStatus? = some .runnable := by decide +kernel
set_option maxRecDepth 65536 in
theorem w_alone : about1.alone = true := by decide +kernel
set_option maxRecDepth 65536 in
theorem w_named : about1.methodNamed? x = some theMethod := by decide +kernel
set_option maxRecDepth 65536 in
theorem w_hears : about1.hears theMethod below0 = true := by decide +kernel
set_option maxRecDepth 65536 in
theorem w_ripe : about1.ripe theMethod args0 below0 = true := by decide +kernel
theorem w_running : about1.status = .running := rfl
set_option maxRecDepth 65536 in
theorem w_room : about1.hasRoom e0.platform room_1 = true :=
  launch0.hasRoom_least _ room_1 (by decide +kernel) (by decide +kernel) (by decide +kernel) (by decide +kernel) (by decide +kernel) (by decide +kernel)
theorem allAtoms_all (ts : List Jvm.Cond) (a : Array Jvm.Value) (st : Jvm.State) : (allAtoms ts).before a st = ts.all (fun c => c.before a st) := by
  induction ts with
  | nil => rfl
  | cons c t ih =>
    show (Jvm.Cond.and c (allAtoms t)).before a st = _
    rw [Jvm.Cond.before_and, ih, List.all_cons]
def words1 : List Jvm.Cond := Jvm.Cond.code x code maxLocals ret :: tables_1
/-- a 'code' word, met by the world's own term for the bytes: nothing is compared byte by byte -/
theorem code_word {y : MethodName} {bytes : ByteArray} {mx : Nat} {rt : Option FieldType} {a : Array Value} {s : State} {m : MethodId} {meth : Method} {c : Code} (h1 : s.methodNamed? y = some m) (h2 : s.vm.method? m = some meth) (h3 : meth.code = some c) (h4 : c.code = bytes)
    (h5 : (c.maxLocals == mx && c.exceptionTable.isEmpty && decide (c.maxStack ≤ mostOperands) && decide (meth.sig.returnType = rt) && !meth.locks && decide (parseMethodDescriptor y.desc = some meth.sig)) = true) : (Jvm.Cond.code y bytes mx rt).before a s = true := by
  simp only [Bool.and_eq_true, beq_iff_eq, Bool.not_eq_true', decide_eq_true_eq] at h5
  obtain ⟨⟨⟨⟨⟨g1, g2⟩, g3⟩, g4⟩, g5⟩, g6⟩ := h5
  simp [Cond.before, Cond.holds, Cond.value, h1, h2, h3, h4, g1, g2, g3, g4, g5, g6]
def isCode : Jvm.Cond → Bool
  | .code _ _ _ _ => true
  | _ => false
theorem all_split {L : List Jvm.Cond} {P : Jvm.Cond → Bool} (h1 : L.all (fun c => isCode c || P c) = true) (h2 : ∀ c ∈ L.filter isCode, P c = true) : L.all P = true := by
  refine List.all_eq_true.mpr fun c hc => ?_
  have h := List.all_eq_true.mp h1 c hc
  rcases Bool.eq_false_or_eq_true (isCode c) with hi | hi
  · exact h2 c (List.mem_filter.mpr ⟨hc, hi⟩)
  · simpa [hi] using h
set_option maxRecDepth 65536 in
theorem w_c0 : (Jvm.Cond.code x code maxLocals ret).before args0 about1 = true := code_word (m := ⟨1, 2⟩) (meth := k1m2) (c := k1c2) (by decide +kernel) rfl rfl rfl (by decide +kernel)
set_option maxRecDepth 65536 in
theorem w_c1 : (Jvm.Cond.code ({ cls := "com/example/whereas/whereas/ScopeReachesPinLaw", name := "untold", desc := "(I)Lcom/example/whereas/whereas/Untold;" } : Jvm.MethodName) method_2_code (1 : Nat) (Option.some (Jvm.ClassFile.FieldType.object "com/example/whereas/whereas/Untold"))).before args0 about1 = true := code_word (m := ⟨1, 1⟩) (meth := k1m1) (c := k1c1) (by decide +kernel) rfl rfl rfl (by decide +kernel)
set_option maxRecDepth 65536 in
theorem w_c2 : (Jvm.Cond.code ({ cls := "com/example/whereas/whereas/Scope", name := "<init>", desc := "(IIIILcom/example/whereas/whereas/Untold;Lcom/example/whereas/whereas/Untold;)V" } : Jvm.MethodName) prog_100_method_3_code (7 : Nat) (Option.none : Option Jvm.ClassFile.FieldType)).before args0 about1 = true := code_word (m := ⟨3, 0⟩) (meth := k3m0) (c := k3c0) (by decide +kernel) rfl rfl rfl (by decide +kernel)
set_option maxRecDepth 65536 in
theorem w_c3 : (Jvm.Cond.code ({ cls := "java/lang/Record", name := "<init>", desc := "()V" } : Jvm.MethodName) jdk_30_method_1_code (1 : Nat) (Option.none : Option Jvm.ClassFile.FieldType)).before args0 about1 = true := code_word (m := ⟨2, 0⟩) (meth := k2m0) (c := k2c0) (by decide +kernel) rfl rfl rfl (by decide +kernel)
set_option maxRecDepth 65536 in
theorem w_c4 : (Jvm.Cond.code ({ cls := "java/lang/Object", name := "<init>", desc := "()V" } : Jvm.MethodName) object_method_1_code (1 : Nat) (Option.none : Option Jvm.ClassFile.FieldType)).before args0 about1 = true := code_word (m := ⟨0, 0⟩) (meth := k0m0) (c := k0c0) (by decide +kernel) rfl rfl rfl (by decide +kernel)
set_option maxRecDepth 65536 in
theorem w_c5 : (Jvm.Cond.code ({ cls := "com/example/whereas/whereas/Scope", name := "reaches", desc := "(Lcom/example/whereas/whereas/Scope;)Z" } : Jvm.MethodName) prog_100_method_11_code (3 : Nat) (Option.some Jvm.ClassFile.FieldType.boolean)).before args0 about1 = true := code_word (m := ⟨3, 1⟩) (meth := k3m1) (c := k3c1) (by decide +kernel) rfl rfl rfl (by decide +kernel)
set_option maxRecDepth 65536 in
theorem w_c6 : (Jvm.Cond.code ({ cls := "com/example/whereas/whereas/Scope", name := "start", desc := "()I" } : Jvm.MethodName) prog_100_method_39_code (1 : Nat) (Option.some Jvm.ClassFile.FieldType.int)).before args0 about1 = true := code_word (m := ⟨3, 2⟩) (meth := k3m2) (c := k3c2) (by decide +kernel) rfl rfl rfl (by decide +kernel)
set_option maxRecDepth 65536 in
theorem w_c7 : (Jvm.Cond.code ({ cls := "com/example/whereas/whereas/Scope", name := "startColumn", desc := "()I" } : Jvm.MethodName) prog_100_method_41_code (1 : Nat) (Option.some Jvm.ClassFile.FieldType.int)).before args0 about1 = true := code_word (m := ⟨3, 3⟩) (meth := k3m3) (c := k3c3) (by decide +kernel) rfl rfl rfl (by decide +kernel)
def codes1 : List Jvm.Cond := [Jvm.Cond.code x code maxLocals ret, Jvm.Cond.code ({ cls := "com/example/whereas/whereas/ScopeReachesPinLaw", name := "untold", desc := "(I)Lcom/example/whereas/whereas/Untold;" } : Jvm.MethodName) method_2_code (1 : Nat) (Option.some (Jvm.ClassFile.FieldType.object "com/example/whereas/whereas/Untold")), Jvm.Cond.code ({ cls := "com/example/whereas/whereas/Scope", name := "<init>", desc := "(IIIILcom/example/whereas/whereas/Untold;Lcom/example/whereas/whereas/Untold;)V" } : Jvm.MethodName) prog_100_method_3_code (7 : Nat) (Option.none : Option Jvm.ClassFile.FieldType), Jvm.Cond.code ({ cls := "java/lang/Record", name := "<init>", desc := "()V" } : Jvm.MethodName) jdk_30_method_1_code (1 : Nat) (Option.none : Option Jvm.ClassFile.FieldType), Jvm.Cond.code ({ cls := "java/lang/Object", name := "<init>", desc := "()V" } : Jvm.MethodName) object_method_1_code (1 : Nat) (Option.none : Option Jvm.ClassFile.FieldType), Jvm.Cond.code ({ cls := "com/example/whereas/whereas/Scope", name := "reaches", desc := "(Lcom/example/whereas/whereas/Scope;)Z" } : Jvm.MethodName) prog_100_method_11_code (3 : Nat) (Option.some Jvm.ClassFile.FieldType.boolean), Jvm.Cond.code ({ cls := "com/example/whereas/whereas/Scope", name := "start", desc := "()I" } : Jvm.MethodName) prog_100_method_39_code (1 : Nat) (Option.some Jvm.ClassFile.FieldType.int), Jvm.Cond.code ({ cls := "com/example/whereas/whereas/Scope", name := "startColumn", desc := "()I" } : Jvm.MethodName) prog_100_method_41_code (1 : Nat) (Option.some Jvm.ClassFile.FieldType.int)]
set_option maxRecDepth 65536 in
theorem codes_eq : words1.filter isCode = codes1 := rfl
theorem w_codes : ∀ c ∈ words1.filter isCode, c.before args0 about1 = true := by
  rw [codes_eq]
  intro c hc
  simp only [codes1, List.mem_cons, List.not_mem_nil, or_false] at hc
  rcases hc with rfl | rfl | rfl | rfl | rfl | rfl | rfl | rfl
  · exact w_c0
  · exact w_c1
  · exact w_c2
  · exact w_c3
  · exact w_c4
  · exact w_c5
  · exact w_c6
  · exact w_c7
set_option maxRecDepth 65536 in
theorem w_t1 : (words1.take 24).all (fun c => isCode c || c.before args0 about1) = true := by decide +kernel
set_option maxRecDepth 65536 in
theorem w_t2 : ((words1.drop 24).take 24).all (fun c => isCode c || c.before args0 about1) = true := by decide +kernel
set_option maxRecDepth 65536 in
theorem w_t3 : ((words1.drop 24).drop 24).all (fun c => isCode c || c.before args0 about1) = true := by decide +kernel
theorem w_tables : (allAtoms (Jvm.Cond.code x code maxLocals ret :: tables_1)).before args0 about1 = true := by
  rw [allAtoms_all]
  show words1.all (fun c => c.before args0 about1) = true
  refine all_split ?_ w_codes
  rw [← List.take_append_drop 24 words1, List.all_append, w_t1, ← List.take_append_drop 24 (words1.drop 24), List.all_append, w_t2, w_t3]
  rfl
set_option maxRecDepth 65536 in
theorem w_case : (Jvm.Cond.and given_1 narrow_1).before args0 about1 = true := by decide +kernel
theorem w_applies : (headSpec (Jvm.Cond.code x code maxLocals ret :: tables_1) room_1).applies x e0.platform about1 = true :=
  (Spec.applies_iff w_frames).mpr ⟨w_running, w_runnable, w_alone, w_named, w_hears, w_ripe, w_room, w_tables⟩
theorem atStart : AtStart classFile x code maxLocals ret World_1 tables_1 room_1 Calls_1 rest_1 Pre_1 launch0 p0 e0 about1 theMethod args0 below0 :=
  ⟨lists_1, trivial, launch0.admits_env _ _ _, launch0.least_env, fairChoices_fair.cas, fairChoices_fair.clock, w_frames, w_args, w_heap, w_applies, trivial, trivial, w_case⟩
end start1
theorem witness_1 : WitnessClaimed_1 := ⟨start1.p0, start1.e0, start1.about1, start1.theMethod, start1.args0, start1.below0, start1.atStart⟩
end Jvm.Pilot.@@N@@
