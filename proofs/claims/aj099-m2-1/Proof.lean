import JvmDerived
import JvmDerived.Pilot.@@N@@Statement
import JvmDerived.Pilot.@@N@@Code
set_option linter.unusedVariables false
set_option linter.unusedSimpArgs false
namespace Jvm.RoadKit
open Sem ClassFile Op Lib Jvm.Stand Jvm.Free Jvm.LawKit
section New
variable {p : Program} {l : Launch} {e : Env} {R : Room} {s : State} {m : MethodId} {args : Array Value} {below : List Frame} {meth : Method} {c : Code} {T : State} {locs : List Loc} {cells slots : Nat}
theorem retI (X : Stand p l e R s m args below meth c T locs cells slots) (hx : p.tables.exec = Jvm.exec) {pc : Nat} {Ls : Array Slot} {z : Int32} {rest : List Value} (hret : meth.sig.returnType = some .int) (hd : decode c.code pc = .ok (.ireturn, 1)) {fs : List Frame}
    (hl : ∀ (f : JFrame) (acts : List Action), f.method = m → f.locked = none → f.entered = [] → (doReturn e (T.setTop f) acts (some (.int z))).1 = T.setFrames fs) : Steps p.tables e below (T.setTop (mkF m pc Ls (.int z :: rest))) (T.setFrames fs) := by
  have hm' : T.vm.method? m = some meth := X.method'
  have hn : narrow .int (.int z) = .int z := rfl
  show Steps p.tables e below (T.setTop { method := m, pc := pc, locals := Ls, stack := _ :: rest, locked := none }) _
  jvm_step X.here [X.here.top, hx, hd, hm', hret, hn]
  first | (intro acts; rw [hl _ acts rfl rfl rfl]) | rw [hl _ _ rfl rfl rfl]
  exact Steps.refl _
end New
theorem own_sta_keep {Z : State} {h h' : Heap} {C n d : String} {w : Value} {ws : List Addr} (F : Sta Z h C n d w) (K : Keep h h' ws) (q : ∀ x ∈ ws, ∃ c : Cell, h[x]? = some c ∧ c.vm.isStatics = false) : Sta Z h' C n d w := by
  obtain ⟨cf, i, k, f, st, cell, h1, h2, h3, h4, h5, h6, h7⟩ := F
  refine ⟨cf, i, k, f, st, cell, h1, h2, h3, h4, K.2.1 st cell h5 (fun hm => ?_), h6, h7⟩
  obtain ⟨c, g1, g2⟩ := q st hm
  cases h5.symm.trans g1
  rw [h6] at g2; cases g2
theorem own_exa_ns {Z : State} {h : Heap} {a : Addr} {C : String} (F : Exa Z h a C) : ∃ c : Cell, h[a]? = some c ∧ c.vm.isStatics = false := by
  obtain ⟨cell, k, h1, -, -, h4, -⟩ := F
  exact ⟨cell, h1, h4⟩
theorem own_arv_ns {Z : State} {h : Heap} {a : Addr} {k : ClassId} {ty : FieldType} {z : Int32} {vs : List Value} {d : Value} (F : Arv Z h a k ty z vs d) : ∃ c : Cell, h[a]? = some c ∧ c.vm.isStatics = false := by
  obtain ⟨cell, A, -⟩ := F
  exact ⟨cell, A.1, A.plain⟩
theorem own_arv {Z : State} {h : Heap} {a : Addr} {k : ClassId} {ty : FieldType} {z : Int32} {vs : List Value} {d : Value} (F : Arh Z h a k ty z [] vs d) : Arv Z h a k ty z vs d := F
theorem own_eqv {Z : State} {args : Array Value} {t u : Term} {v : Value} (hv : (∃ k, v = .int k) ∨ ∃ a, v = .ref a) (hu : u.eval args Z none [] Z = some v) (h : (Jvm.Cond.eq t u).value args Z none Z [] = some true) : t.eval args Z none [] Z = some v := by
  simp only [Jvm.Cond.value, hu] at h
  cases ht : t.eval args Z none [] Z with
  | none => simp [ht] at h
  | some x => rcases hv with ⟨k, rfl⟩ | ⟨a, rfl⟩ <;> cases x <;> simp [ht] at h ⊢ <;> exact h
theorem own_len {Z : State} {args : Array Value} {t : Term} {a : Addr} {cl : Cell} {ty : FieldType} {z : Int32} (ev : t.eval args Z none [] Z = some (.ref a)) (A : Arr Z Z.heap a cl ty) (h : (Term.length t).eval args Z none [] Z = some (.int z)) : cl.slots.size < 2 ^ 31 ∧ cl.slots.size.toInt32 = z := by
  obtain ⟨a', cell, ha', hat, hv⟩ := Term.length_spec h
  cases ev.symm.trans ha'
  cases A.1.symm.trans (State.arrayAt?_spec hat).1
  cases hv
  refine ⟨?_, rfl⟩
  by_cases q : cl.slots.size < 2 ^ 31
  · exact q
  · exfalso
    simp [Term.eval, ev, hat, q] at h
end Jvm.RoadKit
namespace Jvm.Pilot.@@N@@
open Jvm Jvm.ClassFile Sem Op Lib Jvm.Free Jvm.Stand Jvm.LawKit Jvm.RoadKit Bundle Jvm.Pilot.@@N@@.Jvm.D
theorem d2_0 : decode prog_28_method_1_code 0 = .ok (.getstatic 16, 3) := by decide +kernel
theorem d2_3 : decode prog_28_method_1_code 3 = .ok (.invokevirtual 20, 3) := by decide +kernel
theorem d2_6 : decode prog_28_method_1_code 6 = .ok (.checkcast 21, 3) := by decide +kernel
theorem d2_9 : decode prog_28_method_1_code 9 = .ok (.areturn, 1) := by decide +kernel
theorem pn0 : plainName "com/example/tidemark/tidemark/table/RowKind" = true := by first | (simp [plainName, overriddenIn]; done) | decide +kernel
theorem ef2 (m : MethodId)  : entryFrame m #[] 0 = (mkF m 0 #[] []) := by first | (simp [entryFrame, mkF, argsToLocals, Value.category]; done) | rfl
def Q2 (Z : State) (w__VALUES : Addr) (kV : ClassId) (w_INSERT : Addr) (w_UPDATE_BEFORE : Addr) (w_UPDATE_AFTER : Addr) (w_DELETE : Addr) (h0 : Heap) (n0 : Nat) (v : Option Value) (h : Heap) (L : List Loc) : Prop := ∃ (b2 : Addr), v = some (.ref b2) ∧ Fr n0 L ∧ Keep h0 h [] ∧ h0.size ≤ b2 ∧ Arv Z h b2 kV (.object "com/example/tidemark/tidemark/table/RowKind") (4 : Int32) [(.ref w_INSERT), (.ref w_UPDATE_BEFORE), (.ref w_UPDATE_AFTER), (.ref w_DELETE)] .null ∧ Exa Z h b2 "[Lcom/example/tidemark/tidemark/table/RowKind;"
set_option maxRecDepth 65536 in
set_option maxHeartbeats 40000000 in
theorem rm2 (l : Launch) (Z : State) (a0 : Array Value) (hw : ∀ d ∈ tables_1, d.before a0 Z = true) (ws : List Jvm.Cond) (w__VALUES : Addr) (kV : ClassId) (w_INSERT : Addr) (w_UPDATE_BEFORE : Addr) (w_UPDATE_AFTER : Addr) (w_DELETE : Addr) (h0 : Heap) (n0 : Nat) (Z0 : n0 ≤ h0.size) (S__VALUES : Sta Z h0 "com/example/tidemark/tidemark/table/RowKind" "$VALUES" "[Lcom/example/tidemark/tidemark/table/RowKind;" (.ref w__VALUES)) (E_w__VALUES : Exa Z h0 w__VALUES "[Lcom/example/tidemark/tidemark/table/RowKind;") (V_w__VALUES : Arv Z h0 w__VALUES kV (.object "com/example/tidemark/tidemark/table/RowKind") (4 : Int32) [(.ref w_INSERT), (.ref w_UPDATE_BEFORE), (.ref w_UPDATE_AFTER), (.ref w_DELETE)] .null) :
    MetFree l (⟨"com/example/tidemark/tidemark/table/RowKind", "values", "()[Lcom/example/tidemark/tidemark/table/RowKind;"⟩ : MethodName) (head1 (Jvm.Cond.code (⟨"com/example/tidemark/tidemark/table/RowKind", "values", "()[Lcom/example/tidemark/tidemark/table/RowKind;"⟩ : MethodName) prog_28_method_1_code 0 (some (.array (.object "com/example/tidemark/tidemark/table/RowKind"))) :: ws) ({ frames := 1, cells := 1, slots := 4, locals := 14 } : Room)) (fun a U => a = #[] ∧ Z.Warmed39 U.vm ∧ U.heap = h0) (fun _ _ _ _ _ => True) (fun _ U o U' => ∃ v L, o = .returned v ∧ Q2 Z w__VALUES kV w_INSERT w_UPDATE_BEFORE w_UPDATE_AFTER w_DELETE h0 n0 v U'.heap L ∧ FrameEnd U o U' L ({ frames := 1, cells := 1, slots := 4, locals := 14 } : Room).cells ({ frames := 1, cells := 1, slots := 4, locals := 14 } : Room).slots) := by
  refine MetFree.of_bodySF (plainFor_of_name pn0) hisR ?_
  intro p e s m args below meth c s₁ Bd hml0 hP hK
  obtain ⟨rfl, hZ, hh⟩ := hP
  have hx := Bd.exec
  have hby := Bd.bytes
  have hml : c.maxLocals = 0 := hml0
  have hown : s.vm.findClass "com/example/tidemark/tidemark/table/RowKind" = some m.cls := findClass_of_methodNamed Bd.named
  have hnm := (name_of_methodNamed Bd.named Bd.method).1
  have X0 : Stand p l e ({ frames := 1, cells := 1, slots := 4, locals := 14 } : Room) s m #[] below meth c s₁ [] 0 0 := Stand.of_body Bd
  have e0 : s₁.heap = h0 := by rw [← hh, Bd.state]; rfl
  have N0 := Fr.nil n0
  have pre0 : ∀ t, Steps p.tables e below (s₁.setTop (mkF m 0 #[] [])) t → Steps p.tables e below (s₁.setTop (entryFrame m #[] 0)) t := fun t k => castTop (ef2 m ) k
  obtain ⟨T1, X1, e1, st1⟩ := getS2 X0 hx hZ hown (host := "") (Or.inl (hw _ (List.mem_of_getElem? (i := 7) rfl))) Via.refl e0 S__VALUES (g := (mkF m 0 #[] [])) rfl (hb hby d2_0)
  obtain ⟨T2, h2, X2, e2, E2, A2, B2, st2⟩ := cloneH X1 hx hZ hown (hw _ (List.mem_of_getElem? (i := 9) rfl)) (hw _ (List.mem_of_getElem? (i := 10) rfl)) (hw _ (List.mem_of_getElem? (i := 14) rfl)) (hw _ (List.mem_of_getElem? (i := 12) rfl)) (hw _ (List.mem_of_getElem? (i := 13) rfl)) (hw _ (List.mem_of_getElem? (i := 15) rfl)) e1 (V_w__VALUES).arh E_w__VALUES (g := (mkF m 3 #[] [(.ref w__VALUES)])) rfl (by rw [hml]; rfl) rfl (hb hby d2_3) (by decide) (W := 0) (cap := 4) (by show 2 * 0 + _ ≤ _; exact Nat.le_of_eq rfl) (by decide) (by decide) (by decide) (by decide)
  obtain ⟨b2, g2⟩ : ∃ z, z = h0.size := ⟨_, rfl⟩
  rw [← g2] at A2 B2 st2
  have sz_b2 : h0.size ≤ b2 := Nat.le_trans (Keep.refl h0 []).1 (Nat.le_of_eq g2.symm)
  have g_b2 : n0 ≤ b2 := Nat.le_trans Z0 sz_b2
  have K2 : Keep h0 h2 [] := (Keep.refl h0 []).ext E2
  have V_b2 := own_arv A2
  obtain ⟨T3, X3, e3, st3⟩ := castY X2 hx hZ hown (hw _ (List.mem_of_getElem? (i := 21) rfl)) e2 (Ins.self B2) (g := (mkF m 6 #[] [(.ref b2)])) rfl rfl (hb hby d2_6)
  obtain ⟨fs, hr, hrun, hended, hW, hsame⟩ := X3.leave (v := some (.ref b2)) (fun h => by rw [Bd.returns] at h; cases h)
  refine ⟨_, _, pre0 _ ?_, hrun, hended, _, _, rfl, ?_, ⟨_, rfl⟩, hW, hsame.mono (by decide) (by decide)⟩
  · show Steps p.tables e below (s₁.setTop (mkF m 0 #[] [])) _
    refine st1 _ ?_
    show Steps p.tables e below (T1.setTop (mkF m 3 #[] [(.ref w__VALUES)])) _
    refine st2 _ ?_
    show Steps p.tables e below (T2.setTop (mkF m 6 #[] [(.ref b2)])) _
    refine st3 _ ?_
    show Steps p.tables e below (T3.setTop (mkF m 9 #[] [(.ref b2)])) _
    exact retOut X3 hx Bd.returns rfl (Or.inr (Or.inr (Or.inr (Or.inr ⟨rfl, rfl, rfl⟩)))) (hb hby d2_9) hr
  · show Q2 Z w__VALUES kV w_INSERT w_UPDATE_BEFORE w_UPDATE_AFTER w_DELETE h0 n0 _ T3.heap _
    rw [e3]
    exact ⟨b2, rfl, N0, K2, sz_b2, V_b2, B2⟩
theorem own_miss {p : Int32} (h : p = (0 : Int32) ∨ p = (1 : Int32) ∨ p = (2 : Int32) ∨ p = (3 : Int32)) (a : ¬ (0 : Int32) = p) (b : ¬ (1 : Int32) = p) (c : ¬ (2 : Int32) = p) (d : ¬ (3 : Int32) = p) : False := by
  rcases h with rfl | rfl | rfl | rfl
  · exact a rfl
  · exact b rfl
  · exact c rfl
  · exact d rfl
theorem d1_0 : decode prog_28_method_5_code 0 = .ok (.invokestatic 43, 3) := by decide +kernel
theorem d1_3 : decode prog_28_method_5_code 3 = .ok (.astore_n 1, 1) := by decide +kernel
theorem d1_4 : decode prog_28_method_5_code 4 = .ok (.aload_n 1, 1) := by decide +kernel
theorem d1_5 : decode prog_28_method_5_code 5 = .ok (.arraylength, 1) := by decide +kernel
theorem d1_6 : decode prog_28_method_5_code 6 = .ok (.istore_n 2, 1) := by decide +kernel
theorem d1_7 : decode prog_28_method_5_code 7 = .ok (.iconst 0, 1) := by decide +kernel
theorem d1_8 : decode prog_28_method_5_code 8 = .ok (.istore_n 3, 1) := by decide +kernel
theorem d1_9 : decode prog_28_method_5_code 9 = .ok (.iload_n 3, 1) := by decide +kernel
theorem d1_10 : decode prog_28_method_5_code 10 = .ok (.iload_n 2, 1) := by decide +kernel
theorem d1_11 : decode prog_28_method_5_code 11 = .ok (.if_icmp .ge 26, 3) := by decide +kernel
theorem d1_14 : decode prog_28_method_5_code 14 = .ok (.aload_n 1, 1) := by decide +kernel
theorem d1_15 : decode prog_28_method_5_code 15 = .ok (.iload_n 3, 1) := by decide +kernel
theorem d1_16 : decode prog_28_method_5_code 16 = .ok (.aaload, 1) := by decide +kernel
theorem d1_17 : decode prog_28_method_5_code 17 = .ok (.astore 4, 2) := by decide +kernel
theorem d1_19 : decode prog_28_method_5_code 19 = .ok (.aload 4, 2) := by decide +kernel
theorem d1_21 : decode prog_28_method_5_code 21 = .ok (.getfield 39, 3) := by decide +kernel
theorem d1_24 : decode prog_28_method_5_code 24 = .ok (.iload_n 0, 1) := by decide +kernel
theorem d1_25 : decode prog_28_method_5_code 25 = .ok (.if_icmp .ne 6, 3) := by decide +kernel
theorem d1_28 : decode prog_28_method_5_code 28 = .ok (.aload 4, 2) := by decide +kernel
theorem d1_30 : decode prog_28_method_5_code 30 = .ok (.areturn, 1) := by decide +kernel
theorem d1_31 : decode prog_28_method_5_code 31 = .ok (.iinc 3 1, 3) := by decide +kernel
theorem d1_34 : decode prog_28_method_5_code 34 = .ok (.goto (-25), 3) := by decide +kernel
def res1 (p1 : Int32) (w_INSERT : Addr) (w_UPDATE_BEFORE : Addr) (w_UPDATE_AFTER : Addr) (w_DELETE : Addr) : Addr := if (0 : Int32) = p1 then w_INSERT else if (1 : Int32) = p1 then w_UPDATE_BEFORE else if (2 : Int32) = p1 then w_UPDATE_AFTER else w_DELETE
theorem pd0 : parseMethodDescriptor "()[Lcom/example/tidemark/tidemark/table/RowKind;" = some ⟨[], some (.array (.object "com/example/tidemark/tidemark/table/RowKind"))⟩ := by decide +kernel
theorem ef1 (m : MethodId) (p1 : Int32) : entryFrame m #[(.int p1)] 5 = (mkF m 0 #[.val (.int p1), .unset, .unset, .unset, .unset] []) := by first | (simp [entryFrame, mkF, argsToLocals, Value.category]; done) | rfl
def Q1 (Z : State) (p1 : Int32) (w__VALUES : Addr) (kV : ClassId) (w_INSERT : Addr) (w_UPDATE_BEFORE : Addr) (w_UPDATE_AFTER : Addr) (w_DELETE : Addr) (h0 : Heap) (n0 : Nat) (v : Option Value) (h : Heap) (L : List Loc) : Prop := v = some (.ref (res1 p1 w_INSERT w_UPDATE_BEFORE w_UPDATE_AFTER w_DELETE)) ∧ Fr n0 L ∧ Keep h0 h []
set_option maxRecDepth 65536 in
set_option maxHeartbeats 40000000 in
theorem rm1 (l : Launch) (Z : State) (a0 : Array Value) (hw : ∀ d ∈ tables_1, d.before a0 Z = true) (ws : List Jvm.Cond) (p1 : Int32) (w__VALUES : Addr) (kV : ClassId) (w_INSERT : Addr) (w_UPDATE_BEFORE : Addr) (w_UPDATE_AFTER : Addr) (w_DELETE : Addr) (h0 : Heap) (n0 : Nat) (Z0 : n0 ≤ h0.size) (S__VALUES : Sta Z h0 "com/example/tidemark/tidemark/table/RowKind" "$VALUES" "[Lcom/example/tidemark/tidemark/table/RowKind;" (.ref w__VALUES)) (E_w__VALUES : Exa Z h0 w__VALUES "[Lcom/example/tidemark/tidemark/table/RowKind;") (V_w__VALUES : Arv Z h0 w__VALUES kV (.object "com/example/tidemark/tidemark/table/RowKind") (4 : Int32) [(.ref w_INSERT), (.ref w_UPDATE_BEFORE), (.ref w_UPDATE_AFTER), (.ref w_DELETE)] .null) (F_value_w_INSERT : Fld Z h0 w_INSERT "com/example/tidemark/tidemark/table/RowKind" "value" "B" (.int (0 : Int32))) (F_value_w_UPDATE_BEFORE : Fld Z h0 w_UPDATE_BEFORE "com/example/tidemark/tidemark/table/RowKind" "value" "B" (.int (1 : Int32))) (F_value_w_UPDATE_AFTER : Fld Z h0 w_UPDATE_AFTER "com/example/tidemark/tidemark/table/RowKind" "value" "B" (.int (2 : Int32))) (F_value_w_DELETE : Fld Z h0 w_DELETE "com/example/tidemark/tidemark/table/RowKind" "value" "B" (.int (3 : Int32))) (hrange : p1 = (0 : Int32) ∨ p1 = (1 : Int32) ∨ p1 = (2 : Int32) ∨ p1 = (3 : Int32)) :
    MetFree l (⟨"com/example/tidemark/tidemark/table/RowKind", "fromValue", "(B)Lcom/example/tidemark/tidemark/table/RowKind;"⟩ : MethodName) (head1 (Jvm.Cond.code (⟨"com/example/tidemark/tidemark/table/RowKind", "fromValue", "(B)Lcom/example/tidemark/tidemark/table/RowKind;"⟩ : MethodName) prog_28_method_5_code 5 (some (.object "com/example/tidemark/tidemark/table/RowKind")) :: ws) ({ frames := 2, cells := 1, slots := 4, locals := 25 } : Room)) (fun a U => a = #[(.int p1)] ∧ Z.Warmed39 U.vm ∧ U.heap = h0) (fun _ _ _ _ _ => True) (fun _ U o U' => ∃ v L, o = .returned v ∧ Q1 Z p1 w__VALUES kV w_INSERT w_UPDATE_BEFORE w_UPDATE_AFTER w_DELETE h0 n0 v U'.heap L ∧ FrameEnd U o U' L ({ frames := 2, cells := 1, slots := 4, locals := 25 } : Room).cells ({ frames := 2, cells := 1, slots := 4, locals := 25 } : Room).slots) := by
  refine MetFree.of_bodySF (plainFor_of_name pn0) hisR ?_
  intro p e s m args below meth c s₁ Bd hml0 hP hK
  obtain ⟨rfl, hZ, hh⟩ := hP
  have hx := Bd.exec
  have hby := Bd.bytes
  have hml : c.maxLocals = 5 := hml0
  have hown : s.vm.findClass "com/example/tidemark/tidemark/table/RowKind" = some m.cls := findClass_of_methodNamed Bd.named
  have hnm := (name_of_methodNamed Bd.named Bd.method).1
  have X0 : Stand p l e ({ frames := 2, cells := 1, slots := 4, locals := 25 } : Room) s m #[(.int p1)] below meth c s₁ [] 0 0 := Stand.of_body Bd
  have e0 : s₁.heap = h0 := by rw [← hh, Bd.state]; rfl
  have N0 := Fr.nil n0
  have pre0 : ∀ t, Steps p.tables e below (s₁.setTop (mkF m 0 #[.val (.int p1), .unset, .unset, .unset, .unset] [])) t → Steps p.tables e below (s₁.setTop (entryFrame m #[(.int p1)] 5)) t := fun t k => castTop (ef1 m p1) k
  obtain ⟨_, _, ⟨T1, L1, k1, n1⟩, -, X1, ⟨Lc1, hQ1, l1, y1, z1⟩, st1⟩ := Jvm.LawKit.callS X0 hx (y := (⟨"com/example/tidemark/tidemark/table/RowKind", "values", "()[Lcom/example/tidemark/tidemark/table/RowKind;"⟩ : MethodName)) hown (mvT hZ (hw _ (List.mem_of_getElem? (i := 4) rfl))) (mvT hZ (hw _ (List.mem_of_getElem? (i := 5) rfl))) (mvT hZ (hw _ (List.mem_of_getElem? (i := 2) rfl))) (mvT hZ (hw _ (List.mem_of_getElem? (i := 6) rfl))) (by decide) (backOf (W := 0) (rm2 l Z a0 hw []  w__VALUES kV w_INSERT w_UPDATE_BEFORE w_UPDATE_AFTER w_DELETE h0 n0 (Nat.le_trans Z0 (Keep.refl h0 []).1) S__VALUES E_w__VALUES V_w__VALUES ) hZ (hw _ (List.mem_of_getElem? (i := 6) rfl)) (hw _ (List.mem_of_getElem? (i := 2) rfl)) (by decide) (by decide)) (g := (mkF m 0 #[.val (.int p1), .unset, .unset, .unset, .unset] [])) rfl (by rw [hml]; rfl) (argsL := []) (rest := []) (lenOf pd0 rfl) rfl (by show 2 * 0 + _ ≤ _; exact Nat.le_of_eq rfl) (hb hby d1_0) (fun _ _ => ⟨rfl, e0, (by decide : 0 + 1 ≤ _), (by decide : 0 + 4 ≤ _)⟩)
  dsimp only [Pt.U, Pt.locs, Pt.cells, Pt.slots] at X1 l1 y1 z1 st1 hQ1
  subst l1 y1 z1
  obtain ⟨b2_1, rfl, N1q, K1, s1_b2, f1_0, f1_1⟩ := hQ1
  have N1 := Fr.app N0 N1q
  have sz_b2_1 : h0.size ≤ b2_1 := Nat.le_trans (Keep.refl h0 []).1 s1_b2
  have g_b2_1 : n0 ≤ b2_1 := Nat.le_trans Z0 sz_b2_1
  have KK1 : Keep h0 T1.heap [] := (Keep.refl h0 []).trans K1 all0
  obtain ⟨cl_b2_1_5_2, Ar_b2_1_5_2, -, S_b2_1_5_2, N_b2_1_5_2, -, -⟩ := id f1_0
  obtain ⟨cl_b2_1_16_3, Ar_b2_1_16_3, q_b2_1_16_3, S_b2_1_16_3, N_b2_1_16_3, H_b2_1_16_3, G_b2_1_16_3⟩ := id f1_0
  have hin_b2_1_16_3 : ¬ ((0 : Int32) < 0 ∨ cl_b2_1_16_3.slots.size ≤ ((0 : Int32) : Int32).toNatClampNeg) := inb_of S_b2_1_16_3 ⟨by decide, by decide⟩
  obtain ⟨T4, X4, e4, st4⟩ := getF X1 hx hZ hown (host := "") (Or.inl (hw _ (List.mem_of_getElem? (i := 23) rfl))) Via.refl rfl (F_value_w_INSERT.keep K1 nin0) (g := (mkF m 21 #[.val (.int p1), .val (.ref b2_1), .val (.int (4 : Int32)), .val (.int (0 : Int32)), .val (.ref w_INSERT)] [(.ref w_INSERT)])) rfl rfl (hb hby d1_21)
  have pre5 : ∀ t, Steps p.tables e below (T4.setTop (mkF m 25 #[.val (.int p1), .val (.ref b2_1), .val (.int (4 : Int32)), .val (.int (0 : Int32)), .val (.ref w_INSERT)] [(.int p1), (.int (0 : Int32))])) t → Steps p.tables e below (s₁.setTop (entryFrame m #[(.int p1)] 5)) t := by
    intro t kt
    refine pre0 _ ?_
    show Steps p.tables e below (s₁.setTop (mkF m 0 #[.val (.int p1), .unset, .unset, .unset, .unset] [])) _
    refine st1 _ ?_
    show Steps p.tables e below (T1.setTop (mkF m 3 #[.val (.int p1), .unset, .unset, .unset, .unset] [(.ref b2_1)])) _
    refine XS.astoreN X1.here hx rfl (hb hby d1_3) rfl rfl (l' := #[.val (.int p1), .val (.ref b2_1), .unset, .unset, .unset]) rfl ?_
    show Steps p.tables e below (T1.setTop (mkF m 4 #[.val (.int p1), .val (.ref b2_1), .unset, .unset, .unset] [])) _
    refine XS.aloadN X1.here hx rfl (hb hby d1_4) rfl rfl ?_
    show Steps p.tables e below (T1.setTop (mkF m 5 #[.val (.int p1), .val (.ref b2_1), .unset, .unset, .unset] [(.ref b2_1)])) _
    refine X1.arraylength hx (by exact Ar_b2_1_5_2.1) (State.isArrayOf_alike hZ.alike Ar_b2_1_5_2.2.1) (g := (mkF m 5 #[.val (.int p1), .val (.ref b2_1), .unset, .unset, .unset] [(.ref b2_1)])) rfl rfl (hb hby d1_5) _ ?_
    rw [len_of S_b2_1_5_2 N_b2_1_5_2]
    show Steps p.tables e below (T1.setTop (mkF m 6 #[.val (.int p1), .val (.ref b2_1), .unset, .unset, .unset] [(.int (4 : Int32))])) _
    refine XS.istoreN X1.here hx rfl (hb hby d1_6) rfl (l' := #[.val (.int p1), .val (.ref b2_1), .val (.int (4 : Int32)), .unset, .unset]) rfl ?_
    show Steps p.tables e below (T1.setTop (mkF m 7 #[.val (.int p1), .val (.ref b2_1), .val (.int (4 : Int32)), .unset, .unset] [])) _
    refine XS.iconst X1.here hx rfl (hb hby d1_7) ?_
    show Steps p.tables e below (T1.setTop (mkF m 8 #[.val (.int p1), .val (.ref b2_1), .val (.int (4 : Int32)), .unset, .unset] [(.int (0 : Int32))])) _
    refine XS.istoreN X1.here hx rfl (hb hby d1_8) rfl (l' := #[.val (.int p1), .val (.ref b2_1), .val (.int (4 : Int32)), .val (.int (0 : Int32)), .unset]) rfl ?_
    show Steps p.tables e below (T1.setTop (mkF m 9 #[.val (.int p1), .val (.ref b2_1), .val (.int (4 : Int32)), .val (.int (0 : Int32)), .unset] [])) _
    refine XS.iloadN X1.here hx rfl (hb hby d1_9) rfl ?_
    show Steps p.tables e below (T1.setTop (mkF m 10 #[.val (.int p1), .val (.ref b2_1), .val (.int (4 : Int32)), .val (.int (0 : Int32)), .unset] [(.int (0 : Int32))])) _
    refine XS.iloadN X1.here hx rfl (hb hby d1_10) rfl ?_
    show Steps p.tables e below (T1.setTop (mkF m 11 #[.val (.int p1), .val (.ref b2_1), .val (.int (4 : Int32)), .val (.int (0 : Int32)), .unset] [(.int (4 : Int32)), (.int (0 : Int32))])) _
    refine XS.icmpNo X1.here hx rfl (hb hby d1_11) rfl (tlt (by decide : (0 : Int32) < (4 : Int32))).2.1 ?_
    show Steps p.tables e below (T1.setTop (mkF m 14 #[.val (.int p1), .val (.ref b2_1), .val (.int (4 : Int32)), .val (.int (0 : Int32)), .unset] [])) _
    refine XS.aloadN X1.here hx rfl (hb hby d1_14) rfl rfl ?_
    show Steps p.tables e below (T1.setTop (mkF m 15 #[.val (.int p1), .val (.ref b2_1), .val (.int (4 : Int32)), .val (.int (0 : Int32)), .unset] [(.ref b2_1)])) _
    refine XS.iloadN X1.here hx rfl (hb hby d1_15) rfl ?_
    show Steps p.tables e below (T1.setTop (mkF m 16 #[.val (.int p1), .val (.ref b2_1), .val (.int (4 : Int32)), .val (.int (0 : Int32)), .unset] [(.int (0 : Int32)), (.ref b2_1)])) _
    refine X1.aaload hx (j := (0 : Int32)) (v := (.ref w_INSERT)) (by exact Ar_b2_1_16_3.1) (State.isArrayOf_alike hZ.alike Ar_b2_1_16_3.2.1) rfl Ar_b2_1_16_3.2.2 hin_b2_1_16_3 (H_b2_1_16_3.at hin_b2_1_16_3 rfl) (g := (mkF m 16 #[.val (.int p1), .val (.ref b2_1), .val (.int (4 : Int32)), .val (.int (0 : Int32)), .unset] [(.int (0 : Int32)), (.ref b2_1)])) rfl rfl (hb hby d1_16) _ ?_
    show Steps p.tables e below (T1.setTop (mkF m 17 #[.val (.int p1), .val (.ref b2_1), .val (.int (4 : Int32)), .val (.int (0 : Int32)), .unset] [(.ref w_INSERT)])) _
    refine XS.astore X1.here hx rfl (hb hby d1_17) rfl rfl (l' := #[.val (.int p1), .val (.ref b2_1), .val (.int (4 : Int32)), .val (.int (0 : Int32)), .val (.ref w_INSERT)]) rfl ?_
    show Steps p.tables e below (T1.setTop (mkF m 19 #[.val (.int p1), .val (.ref b2_1), .val (.int (4 : Int32)), .val (.int (0 : Int32)), .val (.ref w_INSERT)] [])) _
    refine XS.aload X1.here hx rfl (hb hby d1_19) rfl rfl ?_
    show Steps p.tables e below (T1.setTop (mkF m 21 #[.val (.int p1), .val (.ref b2_1), .val (.int (4 : Int32)), .val (.int (0 : Int32)), .val (.ref w_INSERT)] [(.ref w_INSERT)])) _
    refine st4 _ ?_
    show Steps p.tables e below (T4.setTop (mkF m 24 #[.val (.int p1), .val (.ref b2_1), .val (.int (4 : Int32)), .val (.int (0 : Int32)), .val (.ref w_INSERT)] [(.int (0 : Int32))])) _
    refine XS.iloadN X4.here hx rfl (hb hby d1_24) rfl ?_
    exact kt
  by_cases hc25_6 : (0 : Int32) = p1
  · obtain ⟨fs, hr, hrun, hended, hW, hsame⟩ := X4.leave (v := some (.ref w_INSERT)) (fun h => by rw [Bd.returns] at h; cases h)
    refine ⟨_, _, pre5 _ ?_, hrun, hended, _, _, rfl, ?_, ⟨_, rfl⟩, hW, hsame.mono (by decide) (by decide)⟩
    · show Steps p.tables e below (T4.setTop (mkF m 25 #[.val (.int p1), .val (.ref b2_1), .val (.int (4 : Int32)), .val (.int (0 : Int32)), .val (.ref w_INSERT)] [(.int p1), (.int (0 : Int32))])) _
      refine XS.icmpNo X4.here hx rfl (hb hby d1_25) rfl (teq hc25_6).2 ?_
      show Steps p.tables e below (T4.setTop (mkF m 28 #[.val (.int p1), .val (.ref b2_1), .val (.int (4 : Int32)), .val (.int (0 : Int32)), .val (.ref w_INSERT)] [])) _
      refine XS.aload X4.here hx rfl (hb hby d1_28) rfl rfl ?_
      show Steps p.tables e below (T4.setTop (mkF m 30 #[.val (.int p1), .val (.ref b2_1), .val (.int (4 : Int32)), .val (.int (0 : Int32)), .val (.ref w_INSERT)] [(.ref w_INSERT)])) _
      exact retOut X4 hx Bd.returns rfl (Or.inr (Or.inr (Or.inr (Or.inr ⟨rfl, rfl, rfl⟩)))) (hb hby d1_30) hr
    · show Q1 Z p1 w__VALUES kV w_INSERT w_UPDATE_BEFORE w_UPDATE_AFTER w_DELETE h0 n0 _ T4.heap _
      rw [e4]
      exact ⟨by rw [res1, if_pos hc25_6], N1, KK1⟩
  · obtain ⟨cl_b2_1_16_7, Ar_b2_1_16_7, q_b2_1_16_7, S_b2_1_16_7, N_b2_1_16_7, H_b2_1_16_7, G_b2_1_16_7⟩ := id f1_0
    have hin_b2_1_16_7 : ¬ ((1 : Int32) < 0 ∨ cl_b2_1_16_7.slots.size ≤ ((1 : Int32) : Int32).toNatClampNeg) := inb_of S_b2_1_16_7 ⟨by decide, by decide⟩
    obtain ⟨T8, X8, e8, st8⟩ := getF X4 hx hZ hown (host := "") (Or.inl (hw _ (List.mem_of_getElem? (i := 23) rfl))) Via.refl e4 (F_value_w_UPDATE_BEFORE.keep K1 nin0) (g := (mkF m 21 #[.val (.int p1), .val (.ref b2_1), .val (.int (4 : Int32)), .val (.int (1 : Int32)), .val (.ref w_UPDATE_BEFORE)] [(.ref w_UPDATE_BEFORE)])) rfl rfl (hb hby d1_21)
    have pre9 : ∀ t, Steps p.tables e below (T8.setTop (mkF m 25 #[.val (.int p1), .val (.ref b2_1), .val (.int (4 : Int32)), .val (.int (1 : Int32)), .val (.ref w_UPDATE_BEFORE)] [(.int p1), (.int (1 : Int32))])) t → Steps p.tables e below (s₁.setTop (entryFrame m #[(.int p1)] 5)) t := by
      intro t kt
      refine pre5 _ ?_
      show Steps p.tables e below (T4.setTop (mkF m 25 #[.val (.int p1), .val (.ref b2_1), .val (.int (4 : Int32)), .val (.int (0 : Int32)), .val (.ref w_INSERT)] [(.int p1), (.int (0 : Int32))])) _
      refine XS.icmpYes X4.here hx rfl (pc0 := 25) (pc' := 31) rfl (hb hby d1_25) rfl (feq hc25_6).2 (by decide) (by decide) ?_
      show Steps p.tables e below (T4.setTop (mkF m 31 #[.val (.int p1), .val (.ref b2_1), .val (.int (4 : Int32)), .val (.int (0 : Int32)), .val (.ref w_INSERT)] [])) _
      refine XS.iinc X4.here hx rfl (hb hby d1_31) rfl (l' := #[.val (.int p1), .val (.ref b2_1), .val (.int (4 : Int32)), .val (.int (1 : Int32)), .val (.ref w_INSERT)]) rfl ?_
      show Steps p.tables e below (T4.setTop (mkF m 34 #[.val (.int p1), .val (.ref b2_1), .val (.int (4 : Int32)), .val (.int (1 : Int32)), .val (.ref w_INSERT)] [])) _
      refine XS.goto X4.here hx rfl (pc0 := 34) (pc' := 9) rfl (hb hby d1_34) (by decide) (by decide) ?_
      show Steps p.tables e below (T4.setTop (mkF m 9 #[.val (.int p1), .val (.ref b2_1), .val (.int (4 : Int32)), .val (.int (1 : Int32)), .val (.ref w_INSERT)] [])) _
      refine XS.iloadN X4.here hx rfl (hb hby d1_9) rfl ?_
      show Steps p.tables e below (T4.setTop (mkF m 10 #[.val (.int p1), .val (.ref b2_1), .val (.int (4 : Int32)), .val (.int (1 : Int32)), .val (.ref w_INSERT)] [(.int (1 : Int32))])) _
      refine XS.iloadN X4.here hx rfl (hb hby d1_10) rfl ?_
      show Steps p.tables e below (T4.setTop (mkF m 11 #[.val (.int p1), .val (.ref b2_1), .val (.int (4 : Int32)), .val (.int (1 : Int32)), .val (.ref w_INSERT)] [(.int (4 : Int32)), (.int (1 : Int32))])) _
      refine XS.icmpNo X4.here hx rfl (hb hby d1_11) rfl (tlt (by decide : (1 : Int32) < (4 : Int32))).2.1 ?_
      show Steps p.tables e below (T4.setTop (mkF m 14 #[.val (.int p1), .val (.ref b2_1), .val (.int (4 : Int32)), .val (.int (1 : Int32)), .val (.ref w_INSERT)] [])) _
      refine XS.aloadN X4.here hx rfl (hb hby d1_14) rfl rfl ?_
      show Steps p.tables e below (T4.setTop (mkF m 15 #[.val (.int p1), .val (.ref b2_1), .val (.int (4 : Int32)), .val (.int (1 : Int32)), .val (.ref w_INSERT)] [(.ref b2_1)])) _
      refine XS.iloadN X4.here hx rfl (hb hby d1_15) rfl ?_
      show Steps p.tables e below (T4.setTop (mkF m 16 #[.val (.int p1), .val (.ref b2_1), .val (.int (4 : Int32)), .val (.int (1 : Int32)), .val (.ref w_INSERT)] [(.int (1 : Int32)), (.ref b2_1)])) _
      refine X4.aaload hx (j := (1 : Int32)) (v := (.ref w_UPDATE_BEFORE)) (by rw [e4]; exact Ar_b2_1_16_7.1) (State.isArrayOf_alike hZ.alike Ar_b2_1_16_7.2.1) rfl Ar_b2_1_16_7.2.2 hin_b2_1_16_7 (H_b2_1_16_7.at hin_b2_1_16_7 rfl) (g := (mkF m 16 #[.val (.int p1), .val (.ref b2_1), .val (.int (4 : Int32)), .val (.int (1 : Int32)), .val (.ref w_INSERT)] [(.int (1 : Int32)), (.ref b2_1)])) rfl rfl (hb hby d1_16) _ ?_
      show Steps p.tables e below (T4.setTop (mkF m 17 #[.val (.int p1), .val (.ref b2_1), .val (.int (4 : Int32)), .val (.int (1 : Int32)), .val (.ref w_INSERT)] [(.ref w_UPDATE_BEFORE)])) _
      refine XS.astore X4.here hx rfl (hb hby d1_17) rfl rfl (l' := #[.val (.int p1), .val (.ref b2_1), .val (.int (4 : Int32)), .val (.int (1 : Int32)), .val (.ref w_UPDATE_BEFORE)]) rfl ?_
      show Steps p.tables e below (T4.setTop (mkF m 19 #[.val (.int p1), .val (.ref b2_1), .val (.int (4 : Int32)), .val (.int (1 : Int32)), .val (.ref w_UPDATE_BEFORE)] [])) _
      refine XS.aload X4.here hx rfl (hb hby d1_19) rfl rfl ?_
      show Steps p.tables e below (T4.setTop (mkF m 21 #[.val (.int p1), .val (.ref b2_1), .val (.int (4 : Int32)), .val (.int (1 : Int32)), .val (.ref w_UPDATE_BEFORE)] [(.ref w_UPDATE_BEFORE)])) _
      refine st8 _ ?_
      show Steps p.tables e below (T8.setTop (mkF m 24 #[.val (.int p1), .val (.ref b2_1), .val (.int (4 : Int32)), .val (.int (1 : Int32)), .val (.ref w_UPDATE_BEFORE)] [(.int (1 : Int32))])) _
      refine XS.iloadN X8.here hx rfl (hb hby d1_24) rfl ?_
      exact kt
    by_cases hc25_10 : (1 : Int32) = p1
    · obtain ⟨fs, hr, hrun, hended, hW, hsame⟩ := X8.leave (v := some (.ref w_UPDATE_BEFORE)) (fun h => by rw [Bd.returns] at h; cases h)
      refine ⟨_, _, pre9 _ ?_, hrun, hended, _, _, rfl, ?_, ⟨_, rfl⟩, hW, hsame.mono (by decide) (by decide)⟩
      · show Steps p.tables e below (T8.setTop (mkF m 25 #[.val (.int p1), .val (.ref b2_1), .val (.int (4 : Int32)), .val (.int (1 : Int32)), .val (.ref w_UPDATE_BEFORE)] [(.int p1), (.int (1 : Int32))])) _
        refine XS.icmpNo X8.here hx rfl (hb hby d1_25) rfl (teq hc25_10).2 ?_
        show Steps p.tables e below (T8.setTop (mkF m 28 #[.val (.int p1), .val (.ref b2_1), .val (.int (4 : Int32)), .val (.int (1 : Int32)), .val (.ref w_UPDATE_BEFORE)] [])) _
        refine XS.aload X8.here hx rfl (hb hby d1_28) rfl rfl ?_
        show Steps p.tables e below (T8.setTop (mkF m 30 #[.val (.int p1), .val (.ref b2_1), .val (.int (4 : Int32)), .val (.int (1 : Int32)), .val (.ref w_UPDATE_BEFORE)] [(.ref w_UPDATE_BEFORE)])) _
        exact retOut X8 hx Bd.returns rfl (Or.inr (Or.inr (Or.inr (Or.inr ⟨rfl, rfl, rfl⟩)))) (hb hby d1_30) hr
      · show Q1 Z p1 w__VALUES kV w_INSERT w_UPDATE_BEFORE w_UPDATE_AFTER w_DELETE h0 n0 _ T8.heap _
        rw [e8]
        exact ⟨by rw [res1, if_neg hc25_6, if_pos hc25_10], N1, KK1⟩
    · obtain ⟨cl_b2_1_16_11, Ar_b2_1_16_11, q_b2_1_16_11, S_b2_1_16_11, N_b2_1_16_11, H_b2_1_16_11, G_b2_1_16_11⟩ := id f1_0
      have hin_b2_1_16_11 : ¬ ((2 : Int32) < 0 ∨ cl_b2_1_16_11.slots.size ≤ ((2 : Int32) : Int32).toNatClampNeg) := inb_of S_b2_1_16_11 ⟨by decide, by decide⟩
      obtain ⟨T12, X12, e12, st12⟩ := getF X8 hx hZ hown (host := "") (Or.inl (hw _ (List.mem_of_getElem? (i := 23) rfl))) Via.refl e8 (F_value_w_UPDATE_AFTER.keep K1 nin0) (g := (mkF m 21 #[.val (.int p1), .val (.ref b2_1), .val (.int (4 : Int32)), .val (.int (2 : Int32)), .val (.ref w_UPDATE_AFTER)] [(.ref w_UPDATE_AFTER)])) rfl rfl (hb hby d1_21)
      have pre13 : ∀ t, Steps p.tables e below (T12.setTop (mkF m 25 #[.val (.int p1), .val (.ref b2_1), .val (.int (4 : Int32)), .val (.int (2 : Int32)), .val (.ref w_UPDATE_AFTER)] [(.int p1), (.int (2 : Int32))])) t → Steps p.tables e below (s₁.setTop (entryFrame m #[(.int p1)] 5)) t := by
        intro t kt
        refine pre9 _ ?_
        show Steps p.tables e below (T8.setTop (mkF m 25 #[.val (.int p1), .val (.ref b2_1), .val (.int (4 : Int32)), .val (.int (1 : Int32)), .val (.ref w_UPDATE_BEFORE)] [(.int p1), (.int (1 : Int32))])) _
        refine XS.icmpYes X8.here hx rfl (pc0 := 25) (pc' := 31) rfl (hb hby d1_25) rfl (feq hc25_10).2 (by decide) (by decide) ?_
        show Steps p.tables e below (T8.setTop (mkF m 31 #[.val (.int p1), .val (.ref b2_1), .val (.int (4 : Int32)), .val (.int (1 : Int32)), .val (.ref w_UPDATE_BEFORE)] [])) _
        refine XS.iinc X8.here hx rfl (hb hby d1_31) rfl (l' := #[.val (.int p1), .val (.ref b2_1), .val (.int (4 : Int32)), .val (.int (2 : Int32)), .val (.ref w_UPDATE_BEFORE)]) rfl ?_
        show Steps p.tables e below (T8.setTop (mkF m 34 #[.val (.int p1), .val (.ref b2_1), .val (.int (4 : Int32)), .val (.int (2 : Int32)), .val (.ref w_UPDATE_BEFORE)] [])) _
        refine XS.goto X8.here hx rfl (pc0 := 34) (pc' := 9) rfl (hb hby d1_34) (by decide) (by decide) ?_
        show Steps p.tables e below (T8.setTop (mkF m 9 #[.val (.int p1), .val (.ref b2_1), .val (.int (4 : Int32)), .val (.int (2 : Int32)), .val (.ref w_UPDATE_BEFORE)] [])) _
        refine XS.iloadN X8.here hx rfl (hb hby d1_9) rfl ?_
        show Steps p.tables e below (T8.setTop (mkF m 10 #[.val (.int p1), .val (.ref b2_1), .val (.int (4 : Int32)), .val (.int (2 : Int32)), .val (.ref w_UPDATE_BEFORE)] [(.int (2 : Int32))])) _
        refine XS.iloadN X8.here hx rfl (hb hby d1_10) rfl ?_
        show Steps p.tables e below (T8.setTop (mkF m 11 #[.val (.int p1), .val (.ref b2_1), .val (.int (4 : Int32)), .val (.int (2 : Int32)), .val (.ref w_UPDATE_BEFORE)] [(.int (4 : Int32)), (.int (2 : Int32))])) _
        refine XS.icmpNo X8.here hx rfl (hb hby d1_11) rfl (tlt (by decide : (2 : Int32) < (4 : Int32))).2.1 ?_
        show Steps p.tables e below (T8.setTop (mkF m 14 #[.val (.int p1), .val (.ref b2_1), .val (.int (4 : Int32)), .val (.int (2 : Int32)), .val (.ref w_UPDATE_BEFORE)] [])) _
        refine XS.aloadN X8.here hx rfl (hb hby d1_14) rfl rfl ?_
        show Steps p.tables e below (T8.setTop (mkF m 15 #[.val (.int p1), .val (.ref b2_1), .val (.int (4 : Int32)), .val (.int (2 : Int32)), .val (.ref w_UPDATE_BEFORE)] [(.ref b2_1)])) _
        refine XS.iloadN X8.here hx rfl (hb hby d1_15) rfl ?_
        show Steps p.tables e below (T8.setTop (mkF m 16 #[.val (.int p1), .val (.ref b2_1), .val (.int (4 : Int32)), .val (.int (2 : Int32)), .val (.ref w_UPDATE_BEFORE)] [(.int (2 : Int32)), (.ref b2_1)])) _
        refine X8.aaload hx (j := (2 : Int32)) (v := (.ref w_UPDATE_AFTER)) (by rw [e8]; exact Ar_b2_1_16_11.1) (State.isArrayOf_alike hZ.alike Ar_b2_1_16_11.2.1) rfl Ar_b2_1_16_11.2.2 hin_b2_1_16_11 (H_b2_1_16_11.at hin_b2_1_16_11 rfl) (g := (mkF m 16 #[.val (.int p1), .val (.ref b2_1), .val (.int (4 : Int32)), .val (.int (2 : Int32)), .val (.ref w_UPDATE_BEFORE)] [(.int (2 : Int32)), (.ref b2_1)])) rfl rfl (hb hby d1_16) _ ?_
        show Steps p.tables e below (T8.setTop (mkF m 17 #[.val (.int p1), .val (.ref b2_1), .val (.int (4 : Int32)), .val (.int (2 : Int32)), .val (.ref w_UPDATE_BEFORE)] [(.ref w_UPDATE_AFTER)])) _
        refine XS.astore X8.here hx rfl (hb hby d1_17) rfl rfl (l' := #[.val (.int p1), .val (.ref b2_1), .val (.int (4 : Int32)), .val (.int (2 : Int32)), .val (.ref w_UPDATE_AFTER)]) rfl ?_
        show Steps p.tables e below (T8.setTop (mkF m 19 #[.val (.int p1), .val (.ref b2_1), .val (.int (4 : Int32)), .val (.int (2 : Int32)), .val (.ref w_UPDATE_AFTER)] [])) _
        refine XS.aload X8.here hx rfl (hb hby d1_19) rfl rfl ?_
        show Steps p.tables e below (T8.setTop (mkF m 21 #[.val (.int p1), .val (.ref b2_1), .val (.int (4 : Int32)), .val (.int (2 : Int32)), .val (.ref w_UPDATE_AFTER)] [(.ref w_UPDATE_AFTER)])) _
        refine st12 _ ?_
        show Steps p.tables e below (T12.setTop (mkF m 24 #[.val (.int p1), .val (.ref b2_1), .val (.int (4 : Int32)), .val (.int (2 : Int32)), .val (.ref w_UPDATE_AFTER)] [(.int (2 : Int32))])) _
        refine XS.iloadN X12.here hx rfl (hb hby d1_24) rfl ?_
        exact kt
      by_cases hc25_14 : (2 : Int32) = p1
      · obtain ⟨fs, hr, hrun, hended, hW, hsame⟩ := X12.leave (v := some (.ref w_UPDATE_AFTER)) (fun h => by rw [Bd.returns] at h; cases h)
        refine ⟨_, _, pre13 _ ?_, hrun, hended, _, _, rfl, ?_, ⟨_, rfl⟩, hW, hsame.mono (by decide) (by decide)⟩
        · show Steps p.tables e below (T12.setTop (mkF m 25 #[.val (.int p1), .val (.ref b2_1), .val (.int (4 : Int32)), .val (.int (2 : Int32)), .val (.ref w_UPDATE_AFTER)] [(.int p1), (.int (2 : Int32))])) _
          refine XS.icmpNo X12.here hx rfl (hb hby d1_25) rfl (teq hc25_14).2 ?_
          show Steps p.tables e below (T12.setTop (mkF m 28 #[.val (.int p1), .val (.ref b2_1), .val (.int (4 : Int32)), .val (.int (2 : Int32)), .val (.ref w_UPDATE_AFTER)] [])) _
          refine XS.aload X12.here hx rfl (hb hby d1_28) rfl rfl ?_
          show Steps p.tables e below (T12.setTop (mkF m 30 #[.val (.int p1), .val (.ref b2_1), .val (.int (4 : Int32)), .val (.int (2 : Int32)), .val (.ref w_UPDATE_AFTER)] [(.ref w_UPDATE_AFTER)])) _
          exact retOut X12 hx Bd.returns rfl (Or.inr (Or.inr (Or.inr (Or.inr ⟨rfl, rfl, rfl⟩)))) (hb hby d1_30) hr
        · show Q1 Z p1 w__VALUES kV w_INSERT w_UPDATE_BEFORE w_UPDATE_AFTER w_DELETE h0 n0 _ T12.heap _
          rw [e12]
          exact ⟨by rw [res1, if_neg hc25_6, if_neg hc25_10, if_pos hc25_14], N1, KK1⟩
      · obtain ⟨cl_b2_1_16_15, Ar_b2_1_16_15, q_b2_1_16_15, S_b2_1_16_15, N_b2_1_16_15, H_b2_1_16_15, G_b2_1_16_15⟩ := id f1_0
        have hin_b2_1_16_15 : ¬ ((3 : Int32) < 0 ∨ cl_b2_1_16_15.slots.size ≤ ((3 : Int32) : Int32).toNatClampNeg) := inb_of S_b2_1_16_15 ⟨by decide, by decide⟩
        obtain ⟨T16, X16, e16, st16⟩ := getF X12 hx hZ hown (host := "") (Or.inl (hw _ (List.mem_of_getElem? (i := 23) rfl))) Via.refl e12 (F_value_w_DELETE.keep K1 nin0) (g := (mkF m 21 #[.val (.int p1), .val (.ref b2_1), .val (.int (4 : Int32)), .val (.int (3 : Int32)), .val (.ref w_DELETE)] [(.ref w_DELETE)])) rfl rfl (hb hby d1_21)
        have pre17 : ∀ t, Steps p.tables e below (T16.setTop (mkF m 25 #[.val (.int p1), .val (.ref b2_1), .val (.int (4 : Int32)), .val (.int (3 : Int32)), .val (.ref w_DELETE)] [(.int p1), (.int (3 : Int32))])) t → Steps p.tables e below (s₁.setTop (entryFrame m #[(.int p1)] 5)) t := by
          intro t kt
          refine pre13 _ ?_
          show Steps p.tables e below (T12.setTop (mkF m 25 #[.val (.int p1), .val (.ref b2_1), .val (.int (4 : Int32)), .val (.int (2 : Int32)), .val (.ref w_UPDATE_AFTER)] [(.int p1), (.int (2 : Int32))])) _
          refine XS.icmpYes X12.here hx rfl (pc0 := 25) (pc' := 31) rfl (hb hby d1_25) rfl (feq hc25_14).2 (by decide) (by decide) ?_
          show Steps p.tables e below (T12.setTop (mkF m 31 #[.val (.int p1), .val (.ref b2_1), .val (.int (4 : Int32)), .val (.int (2 : Int32)), .val (.ref w_UPDATE_AFTER)] [])) _
          refine XS.iinc X12.here hx rfl (hb hby d1_31) rfl (l' := #[.val (.int p1), .val (.ref b2_1), .val (.int (4 : Int32)), .val (.int (3 : Int32)), .val (.ref w_UPDATE_AFTER)]) rfl ?_
          show Steps p.tables e below (T12.setTop (mkF m 34 #[.val (.int p1), .val (.ref b2_1), .val (.int (4 : Int32)), .val (.int (3 : Int32)), .val (.ref w_UPDATE_AFTER)] [])) _
          refine XS.goto X12.here hx rfl (pc0 := 34) (pc' := 9) rfl (hb hby d1_34) (by decide) (by decide) ?_
          show Steps p.tables e below (T12.setTop (mkF m 9 #[.val (.int p1), .val (.ref b2_1), .val (.int (4 : Int32)), .val (.int (3 : Int32)), .val (.ref w_UPDATE_AFTER)] [])) _
          refine XS.iloadN X12.here hx rfl (hb hby d1_9) rfl ?_
          show Steps p.tables e below (T12.setTop (mkF m 10 #[.val (.int p1), .val (.ref b2_1), .val (.int (4 : Int32)), .val (.int (3 : Int32)), .val (.ref w_UPDATE_AFTER)] [(.int (3 : Int32))])) _
          refine XS.iloadN X12.here hx rfl (hb hby d1_10) rfl ?_
          show Steps p.tables e below (T12.setTop (mkF m 11 #[.val (.int p1), .val (.ref b2_1), .val (.int (4 : Int32)), .val (.int (3 : Int32)), .val (.ref w_UPDATE_AFTER)] [(.int (4 : Int32)), (.int (3 : Int32))])) _
          refine XS.icmpNo X12.here hx rfl (hb hby d1_11) rfl (tlt (by decide : (3 : Int32) < (4 : Int32))).2.1 ?_
          show Steps p.tables e below (T12.setTop (mkF m 14 #[.val (.int p1), .val (.ref b2_1), .val (.int (4 : Int32)), .val (.int (3 : Int32)), .val (.ref w_UPDATE_AFTER)] [])) _
          refine XS.aloadN X12.here hx rfl (hb hby d1_14) rfl rfl ?_
          show Steps p.tables e below (T12.setTop (mkF m 15 #[.val (.int p1), .val (.ref b2_1), .val (.int (4 : Int32)), .val (.int (3 : Int32)), .val (.ref w_UPDATE_AFTER)] [(.ref b2_1)])) _
          refine XS.iloadN X12.here hx rfl (hb hby d1_15) rfl ?_
          show Steps p.tables e below (T12.setTop (mkF m 16 #[.val (.int p1), .val (.ref b2_1), .val (.int (4 : Int32)), .val (.int (3 : Int32)), .val (.ref w_UPDATE_AFTER)] [(.int (3 : Int32)), (.ref b2_1)])) _
          refine X12.aaload hx (j := (3 : Int32)) (v := (.ref w_DELETE)) (by rw [e12]; exact Ar_b2_1_16_15.1) (State.isArrayOf_alike hZ.alike Ar_b2_1_16_15.2.1) rfl Ar_b2_1_16_15.2.2 hin_b2_1_16_15 (H_b2_1_16_15.at hin_b2_1_16_15 rfl) (g := (mkF m 16 #[.val (.int p1), .val (.ref b2_1), .val (.int (4 : Int32)), .val (.int (3 : Int32)), .val (.ref w_UPDATE_AFTER)] [(.int (3 : Int32)), (.ref b2_1)])) rfl rfl (hb hby d1_16) _ ?_
          show Steps p.tables e below (T12.setTop (mkF m 17 #[.val (.int p1), .val (.ref b2_1), .val (.int (4 : Int32)), .val (.int (3 : Int32)), .val (.ref w_UPDATE_AFTER)] [(.ref w_DELETE)])) _
          refine XS.astore X12.here hx rfl (hb hby d1_17) rfl rfl (l' := #[.val (.int p1), .val (.ref b2_1), .val (.int (4 : Int32)), .val (.int (3 : Int32)), .val (.ref w_DELETE)]) rfl ?_
          show Steps p.tables e below (T12.setTop (mkF m 19 #[.val (.int p1), .val (.ref b2_1), .val (.int (4 : Int32)), .val (.int (3 : Int32)), .val (.ref w_DELETE)] [])) _
          refine XS.aload X12.here hx rfl (hb hby d1_19) rfl rfl ?_
          show Steps p.tables e below (T12.setTop (mkF m 21 #[.val (.int p1), .val (.ref b2_1), .val (.int (4 : Int32)), .val (.int (3 : Int32)), .val (.ref w_DELETE)] [(.ref w_DELETE)])) _
          refine st16 _ ?_
          show Steps p.tables e below (T16.setTop (mkF m 24 #[.val (.int p1), .val (.ref b2_1), .val (.int (4 : Int32)), .val (.int (3 : Int32)), .val (.ref w_DELETE)] [(.int (3 : Int32))])) _
          refine XS.iloadN X16.here hx rfl (hb hby d1_24) rfl ?_
          exact kt
        by_cases hc25_18 : (3 : Int32) = p1
        · obtain ⟨fs, hr, hrun, hended, hW, hsame⟩ := X16.leave (v := some (.ref w_DELETE)) (fun h => by rw [Bd.returns] at h; cases h)
          refine ⟨_, _, pre17 _ ?_, hrun, hended, _, _, rfl, ?_, ⟨_, rfl⟩, hW, hsame.mono (by decide) (by decide)⟩
          · show Steps p.tables e below (T16.setTop (mkF m 25 #[.val (.int p1), .val (.ref b2_1), .val (.int (4 : Int32)), .val (.int (3 : Int32)), .val (.ref w_DELETE)] [(.int p1), (.int (3 : Int32))])) _
            refine XS.icmpNo X16.here hx rfl (hb hby d1_25) rfl (teq hc25_18).2 ?_
            show Steps p.tables e below (T16.setTop (mkF m 28 #[.val (.int p1), .val (.ref b2_1), .val (.int (4 : Int32)), .val (.int (3 : Int32)), .val (.ref w_DELETE)] [])) _
            refine XS.aload X16.here hx rfl (hb hby d1_28) rfl rfl ?_
            show Steps p.tables e below (T16.setTop (mkF m 30 #[.val (.int p1), .val (.ref b2_1), .val (.int (4 : Int32)), .val (.int (3 : Int32)), .val (.ref w_DELETE)] [(.ref w_DELETE)])) _
            exact retOut X16 hx Bd.returns rfl (Or.inr (Or.inr (Or.inr (Or.inr ⟨rfl, rfl, rfl⟩)))) (hb hby d1_30) hr
          · show Q1 Z p1 w__VALUES kV w_INSERT w_UPDATE_BEFORE w_UPDATE_AFTER w_DELETE h0 n0 _ T16.heap _
            rw [e16]
            exact ⟨by rw [res1, if_neg hc25_6, if_neg hc25_10, if_neg hc25_14], N1, KK1⟩
        · exfalso
          exact own_miss hrange hc25_6 hc25_10 hc25_14 hc25_18
theorem d3_0 : decode prog_28_method_7_code 0 = .ok (.aload_n 0, 1) := by decide +kernel
theorem d3_1 : decode prog_28_method_7_code 1 = .ok (.getfield 39, 3) := by decide +kernel
theorem d3_4 : decode prog_28_method_7_code 4 = .ok (.ireturn, 1) := by decide +kernel
theorem ef3 (m : MethodId) (a1 : Addr) : entryFrame m #[(.ref a1)] 1 = (mkF m 0 #[.val (.ref a1)] []) := by first | (simp [entryFrame, mkF, argsToLocals, Value.category]; done) | rfl
def Q3 (Z : State) (a1 : Addr) (w_value_a1 : Int32) (h0 : Heap) (n0 : Nat) (v : Option Value) (h : Heap) (L : List Loc) : Prop := v = some (.int (nar .byte w_value_a1)) ∧ L = [] ∧ h = h0
set_option maxRecDepth 65536 in
set_option maxHeartbeats 40000000 in
theorem rm3 (l : Launch) (Z : State) (a0 : Array Value) (hw : ∀ d ∈ tables_1, d.before a0 Z = true) (ws : List Jvm.Cond) (a1 : Addr) (w_value_a1 : Int32) (h0 : Heap) (n0 : Nat) (Z0 : n0 ≤ h0.size) (F_value_a1 : Fld Z h0 a1 "com/example/tidemark/tidemark/table/RowKind" "value" "B" (.int w_value_a1)) :
    MetFree l (⟨"com/example/tidemark/tidemark/table/RowKind", "value", "()B"⟩ : MethodName) (head1 (Jvm.Cond.code (⟨"com/example/tidemark/tidemark/table/RowKind", "value", "()B"⟩ : MethodName) prog_28_method_7_code 1 (some .byte) :: ws) ({ frames := 0, cells := 0, slots := 0, locals := 0 } : Room)) (fun a U => a = #[(.ref a1)] ∧ Z.Warmed39 U.vm ∧ U.heap = h0) (fun _ _ _ _ _ => True) (fun _ U o U' => ∃ v L, o = .returned v ∧ Q3 Z a1 w_value_a1 h0 n0 v U'.heap L ∧ FrameEnd U o U' L ({ frames := 0, cells := 0, slots := 0, locals := 0 } : Room).cells ({ frames := 0, cells := 0, slots := 0, locals := 0 } : Room).slots) := by
  refine MetFree.of_bodySF (plainFor_of_name pn0) hisR ?_
  intro p e s m args below meth c s₁ Bd hml0 hP hK
  obtain ⟨rfl, hZ, hh⟩ := hP
  have hx := Bd.exec
  have hby := Bd.bytes
  have hml : c.maxLocals = 1 := hml0
  have hown : s.vm.findClass "com/example/tidemark/tidemark/table/RowKind" = some m.cls := findClass_of_methodNamed Bd.named
  have hnm := (name_of_methodNamed Bd.named Bd.method).1
  have X0 : Stand p l e ({ frames := 0, cells := 0, slots := 0, locals := 0 } : Room) s m #[(.ref a1)] below meth c s₁ [] 0 0 := Stand.of_body Bd
  have e0 : s₁.heap = h0 := by rw [← hh, Bd.state]; rfl
  have N0 := Fr.nil n0
  have pre0 : ∀ t, Steps p.tables e below (s₁.setTop (mkF m 0 #[.val (.ref a1)] [])) t → Steps p.tables e below (s₁.setTop (entryFrame m #[(.ref a1)] 1)) t := fun t k => castTop (ef3 m a1) k
  obtain ⟨T1, X1, e1, st1⟩ := getF X0 hx hZ hown (host := "") (Or.inl (hw _ (List.mem_of_getElem? (i := 23) rfl))) Via.refl e0 F_value_a1 (g := (mkF m 1 #[.val (.ref a1)] [(.ref a1)])) rfl rfl (hb hby d3_1)
  obtain ⟨fs, hr, hrun, hended, hW, hsame⟩ := X1.leave (v := some (.int (nar .byte w_value_a1))) (fun h => by rw [Bd.returns] at h; cases h)
  refine ⟨_, _, pre0 _ ?_, hrun, hended, _, _, rfl, ?_, ⟨_, rfl⟩, hW, hsame.mono (by decide) (by decide)⟩
  · show Steps p.tables e below (s₁.setTop (mkF m 0 #[.val (.ref a1)] [])) _
    refine XS.aloadN X0.here hx rfl (hb hby d3_0) rfl rfl ?_
    show Steps p.tables e below (s₁.setTop (mkF m 1 #[.val (.ref a1)] [(.ref a1)])) _
    refine st1 _ ?_
    show Steps p.tables e below (T1.setTop (mkF m 4 #[.val (.ref a1)] [(.int w_value_a1)])) _
    exact retN X1 hx (t := .byte) Bd.returns (by simp) (hb hby d3_4) hr
  · show Q3 Z a1 w_value_a1 h0 n0 _ T1.heap _
    rw [e1]
    exact ⟨rfl, rfl, rfl⟩
theorem own_exa {Z : State} {h : Heap} (i : Int32) (w_INSERT w_UPDATE_BEFORE w_UPDATE_AFTER w_DELETE : Addr) (E_INSERT : Exa Z h w_INSERT "com/example/tidemark/tidemark/table/RowKind") (E_UPDATE_BEFORE : Exa Z h w_UPDATE_BEFORE "com/example/tidemark/tidemark/table/RowKind") (E_UPDATE_AFTER : Exa Z h w_UPDATE_AFTER "com/example/tidemark/tidemark/table/RowKind") (E_DELETE : Exa Z h w_DELETE "com/example/tidemark/tidemark/table/RowKind") : Exa Z h (res1 i w_INSERT w_UPDATE_BEFORE w_UPDATE_AFTER w_DELETE) "com/example/tidemark/tidemark/table/RowKind" := by
  unfold res1
  repeat' split
  all_goals assumption
theorem own_val {Z : State} {h : Heap} (i : Int32) (hr : i = (0 : Int32) ∨ i = (1 : Int32) ∨ i = (2 : Int32) ∨ i = (3 : Int32)) (w_INSERT w_UPDATE_BEFORE w_UPDATE_AFTER w_DELETE : Addr) (F_INSERT : Fld Z h w_INSERT "com/example/tidemark/tidemark/table/RowKind" "value" "B" (.int (0 : Int32))) (F_UPDATE_BEFORE : Fld Z h w_UPDATE_BEFORE "com/example/tidemark/tidemark/table/RowKind" "value" "B" (.int (1 : Int32))) (F_UPDATE_AFTER : Fld Z h w_UPDATE_AFTER "com/example/tidemark/tidemark/table/RowKind" "value" "B" (.int (2 : Int32))) (F_DELETE : Fld Z h w_DELETE "com/example/tidemark/tidemark/table/RowKind" "value" "B" (.int (3 : Int32))) : Fld Z h (res1 i w_INSERT w_UPDATE_BEFORE w_UPDATE_AFTER w_DELETE) "com/example/tidemark/tidemark/table/RowKind" "value" "B" (.int i) := by
  rcases hr with rfl | rfl | rfl | rfl <;> assumption
theorem own_range_4 {i : Int32} (h0 : 0 ≤ i.toInt) (h1 : i.toInt < 4) : i = (0 : Int32) ∨ i = (1 : Int32) ∨ i = (2 : Int32) ∨ i = (3 : Int32) := by
  have h : i.toInt = 0 ∨ i.toInt = 1 ∨ i.toInt = 2 ∨ i.toInt = 3 := by omega
  rcases h with h | h | h | h
  · exact Or.inl (Int32.toInt_inj.mp (h.trans (by decide)))
  · exact Or.inr (Or.inl (Int32.toInt_inj.mp (h.trans (by decide))))
  · exact Or.inr (Or.inr (Or.inl (Int32.toInt_inj.mp (h.trans (by decide)))))
  · exact Or.inr (Or.inr (Or.inr ((Int32.toInt_inj.mp (h.trans (by decide))))))
theorem own_b3 (x : Int32) : (x &&& (3 : Int32)).toInt8.toInt32 = x &&& (3 : Int32) := by
  have e : (x &&& (3 : Int32)).toInt = x.toInt % (2 ^ 2 : Nat) := c_mask x _ 2 (by decide) (by decide)
  have h := own_range_4 (i := x &&& (3 : Int32)) (by omega) (by omega)
  rcases h with h | h | h | h <;> rw [h] <;> decide
theorem own_r3 (x : Int32) : (x &&& (3 : Int32)) = (0 : Int32) ∨ (x &&& (3 : Int32)) = (1 : Int32) ∨ (x &&& (3 : Int32)) = (2 : Int32) ∨ (x &&& (3 : Int32)) = (3 : Int32) := by
  have e : (x &&& (3 : Int32)).toInt = x.toInt % (2 ^ 2 : Nat) := c_mask x _ 2 (by decide) (by decide)
  exact own_range_4 (i := x &&& (3 : Int32)) (by omega) (by omega)
def res0 (p1 : Int32) (w_INSERT : Addr) (w_UPDATE_BEFORE : Addr) (w_UPDATE_AFTER : Addr) (w_DELETE : Addr) : Int32 := if (p1 &&& (3 : Int32)) = (0 : Int32) then (if (res1 ((p1 &&& (3 : Int32)).toInt8.toInt32) w_INSERT w_UPDATE_BEFORE w_UPDATE_AFTER w_DELETE) = w_INSERT then (if (nar .byte ((p1 &&& (3 : Int32)).toInt8.toInt32)) = ((p1 &&& (3 : Int32)).toInt8.toInt32) then (1 : Int32) else (0 : Int32)) else (0 : Int32)) else if (p1 &&& (3 : Int32)) = (1 : Int32) then (if (res1 ((p1 &&& (3 : Int32)).toInt8.toInt32) w_INSERT w_UPDATE_BEFORE w_UPDATE_AFTER w_DELETE) = w_UPDATE_BEFORE then (if (nar .byte ((p1 &&& (3 : Int32)).toInt8.toInt32)) = ((p1 &&& (3 : Int32)).toInt8.toInt32) then (1 : Int32) else (0 : Int32)) else (0 : Int32)) else if (p1 &&& (3 : Int32)) = (2 : Int32) then (if (res1 ((p1 &&& (3 : Int32)).toInt8.toInt32) w_INSERT w_UPDATE_BEFORE w_UPDATE_AFTER w_DELETE) = w_UPDATE_AFTER then (if (nar .byte ((p1 &&& (3 : Int32)).toInt8.toInt32)) = ((p1 &&& (3 : Int32)).toInt8.toInt32) then (1 : Int32) else (0 : Int32)) else (0 : Int32)) else if (res1 ((p1 &&& (3 : Int32)).toInt8.toInt32) w_INSERT w_UPDATE_BEFORE w_UPDATE_AFTER w_DELETE) = w_DELETE then (if (nar .byte ((p1 &&& (3 : Int32)).toInt8.toInt32)) = ((p1 &&& (3 : Int32)).toInt8.toInt32) then (1 : Int32) else (0 : Int32)) else (0 : Int32)
theorem pd1 : parseMethodDescriptor "(B)Lcom/example/tidemark/tidemark/table/RowKind;" = some ⟨[.byte], some (.object "com/example/tidemark/tidemark/table/RowKind")⟩ := by decide +kernel
theorem pd2 : parseMethodDescriptor "()B" = some ⟨[], some .byte⟩ := by decide +kernel
theorem pn1 : plainName "com/example/tidemark/tidemark/table/RowKindFromValuePinLaw" = true := by first | (simp [plainName, overriddenIn]; done) | decide +kernel
theorem ef0 (m : MethodId) (p1 : Int32) : entryFrame m #[(.int p1)] maxLocals = (mkF m 0 #[.val (.int p1), .unset, .unset, .unset] []) := by first | (simp [entryFrame, mkF, argsToLocals, Value.category, maxLocals]; done) | rfl
def Q0 (Z : State) (p1 : Int32) (w__VALUES : Addr) (kV : ClassId) (w_INSERT : Addr) (w_UPDATE_BEFORE : Addr) (w_UPDATE_AFTER : Addr) (w_DELETE : Addr) (h0 : Heap) (n0 : Nat) (v : Option Value) (h : Heap) (L : List Loc) : Prop := v = some (.int (res0 p1 w_INSERT w_UPDATE_BEFORE w_UPDATE_AFTER w_DELETE)) ∧ Fr n0 L
set_option maxRecDepth 65536 in
set_option maxHeartbeats 40000000 in
theorem rm0 (l : Launch) (Z : State) (a0 : Array Value) (hw : ∀ d ∈ tables_1, d.before a0 Z = true) (ws : List Jvm.Cond) (p1 : Int32) (w__VALUES : Addr) (kV : ClassId) (w_INSERT : Addr) (w_UPDATE_BEFORE : Addr) (w_UPDATE_AFTER : Addr) (w_DELETE : Addr) (h0 : Heap) (n0 : Nat) (Z0 : n0 ≤ h0.size) (S__VALUES : Sta Z h0 "com/example/tidemark/tidemark/table/RowKind" "$VALUES" "[Lcom/example/tidemark/tidemark/table/RowKind;" (.ref w__VALUES)) (E_w__VALUES : Exa Z h0 w__VALUES "[Lcom/example/tidemark/tidemark/table/RowKind;") (V_w__VALUES : Arv Z h0 w__VALUES kV (.object "com/example/tidemark/tidemark/table/RowKind") (4 : Int32) [(.ref w_INSERT), (.ref w_UPDATE_BEFORE), (.ref w_UPDATE_AFTER), (.ref w_DELETE)] .null) (S_INSERT : Sta Z h0 "com/example/tidemark/tidemark/table/RowKind" "INSERT" "Lcom/example/tidemark/tidemark/table/RowKind;" (.ref w_INSERT)) (E_w_INSERT : Exa Z h0 w_INSERT "com/example/tidemark/tidemark/table/RowKind") (S_UPDATE_BEFORE : Sta Z h0 "com/example/tidemark/tidemark/table/RowKind" "UPDATE_BEFORE" "Lcom/example/tidemark/tidemark/table/RowKind;" (.ref w_UPDATE_BEFORE)) (E_w_UPDATE_BEFORE : Exa Z h0 w_UPDATE_BEFORE "com/example/tidemark/tidemark/table/RowKind") (S_UPDATE_AFTER : Sta Z h0 "com/example/tidemark/tidemark/table/RowKind" "UPDATE_AFTER" "Lcom/example/tidemark/tidemark/table/RowKind;" (.ref w_UPDATE_AFTER)) (E_w_UPDATE_AFTER : Exa Z h0 w_UPDATE_AFTER "com/example/tidemark/tidemark/table/RowKind") (S_DELETE : Sta Z h0 "com/example/tidemark/tidemark/table/RowKind" "DELETE" "Lcom/example/tidemark/tidemark/table/RowKind;" (.ref w_DELETE)) (E_w_DELETE : Exa Z h0 w_DELETE "com/example/tidemark/tidemark/table/RowKind") (F_value_w_INSERT : Fld Z h0 w_INSERT "com/example/tidemark/tidemark/table/RowKind" "value" "B" (.int (0 : Int32))) (F_value_w_UPDATE_BEFORE : Fld Z h0 w_UPDATE_BEFORE "com/example/tidemark/tidemark/table/RowKind" "value" "B" (.int (1 : Int32))) (F_value_w_UPDATE_AFTER : Fld Z h0 w_UPDATE_AFTER "com/example/tidemark/tidemark/table/RowKind" "value" "B" (.int (2 : Int32))) (F_value_w_DELETE : Fld Z h0 w_DELETE "com/example/tidemark/tidemark/table/RowKind" "value" "B" (.int (3 : Int32))) :
    MetFree l x (head1 (Jvm.Cond.code x code maxLocals ret :: ws) room_1) (fun a U => a = #[(.int p1)] ∧ Z.Warmed39 U.vm ∧ U.heap = h0) (fun _ _ _ _ _ => True) (fun _ U o U' => ∃ v L, o = .returned v ∧ Q0 Z p1 w__VALUES kV w_INSERT w_UPDATE_BEFORE w_UPDATE_AFTER w_DELETE h0 n0 v U'.heap L ∧ FrameEnd U o U' L room_1.cells room_1.slots) := by
  refine MetFree.of_bodySF (plainFor_of_name pn1) hisR ?_
  intro p e s m args below meth c s₁ Bd hml0 hP hK
  obtain ⟨rfl, hZ, hh⟩ := hP
  have hx := Bd.exec
  have hby := Bd.bytes
  have hml : c.maxLocals = 4 := hml0
  have hown : s.vm.findClass "com/example/tidemark/tidemark/table/RowKindFromValuePinLaw" = some m.cls := findClass_of_methodNamed Bd.named
  have hnm := (name_of_methodNamed Bd.named Bd.method).1
  have X0 : Stand p l e room_1 s m #[(.int p1)] below meth c s₁ [] 0 0 := Stand.of_body Bd
  have e0 : s₁.heap = h0 := by rw [← hh, Bd.state]; rfl
  have N0 := Fr.nil n0
  have pre0 : ∀ t, Steps p.tables e below (s₁.setTop (mkF m 0 #[.val (.int p1), .unset, .unset, .unset] [])) t → Steps p.tables e below (s₁.setTop (entryFrame m #[(.int p1)] maxLocals)) t := fun t k => castTop (ef0 m p1) k
  have hrg : ((p1 &&& (3 : Int32)).toInt8.toInt32) = (0 : Int32) ∨ ((p1 &&& (3 : Int32)).toInt8.toInt32) = (1 : Int32) ∨ ((p1 &&& (3 : Int32)).toInt8.toInt32) = (2 : Int32) ∨ ((p1 &&& (3 : Int32)).toInt8.toInt32) = (3 : Int32) := by rw [own_b3]; exact own_r3 p1
  obtain ⟨_, _, ⟨T1, L1, k1, n1⟩, -, X1, ⟨Lc1, hQ1, l1, y1, z1⟩, st1⟩ := Jvm.LawKit.callS X0 hx (y := (⟨"com/example/tidemark/tidemark/table/RowKind", "fromValue", "(B)Lcom/example/tidemark/tidemark/table/RowKind;"⟩ : MethodName)) hown (mvT hZ (hw _ (List.mem_of_getElem? (i := 0) rfl))) (mvT hZ (hw _ (List.mem_of_getElem? (i := 1) rfl))) (mvT hZ (hw _ (List.mem_of_getElem? (i := 2) rfl))) (mvT hZ (hw _ (List.mem_of_getElem? (i := 3) rfl))) (by decide) (backOf (W := 0) (rm1 l Z a0 hw [] ((p1 &&& (3 : Int32)).toInt8.toInt32) w__VALUES kV w_INSERT w_UPDATE_BEFORE w_UPDATE_AFTER w_DELETE h0 n0 (Nat.le_trans Z0 (Keep.refl h0 []).1) S__VALUES E_w__VALUES V_w__VALUES F_value_w_INSERT F_value_w_UPDATE_BEFORE F_value_w_UPDATE_AFTER F_value_w_DELETE (hrg : ((p1 &&& (3 : Int32)).toInt8.toInt32) = (0 : Int32) ∨ ((p1 &&& (3 : Int32)).toInt8.toInt32) = (1 : Int32) ∨ ((p1 &&& (3 : Int32)).toInt8.toInt32) = (2 : Int32) ∨ ((p1 &&& (3 : Int32)).toInt8.toInt32) = (3 : Int32))) hZ (hw _ (List.mem_of_getElem? (i := 3) rfl)) (hw _ (List.mem_of_getElem? (i := 2) rfl)) (by decide) (by decide)) (g := (mkF m 6 #[.val (.int p1), .val (.int (p1 &&& (3 : Int32))), .unset, .unset] [(.int ((p1 &&& (3 : Int32)).toInt8.toInt32))])) rfl (by rw [hml]; rfl) (argsL := [(.int ((p1 &&& (3 : Int32)).toInt8.toInt32))]) (rest := []) (lenOf pd1 rfl) rfl (by show 2 * 0 + _ ≤ _; exact Nat.le_of_eq rfl) (hb hby at_6) (fun _ _ => ⟨rfl, e0, (by decide : 0 + 1 ≤ _), (by decide : 0 + 4 ≤ _)⟩)
  dsimp only [Pt.U, Pt.locs, Pt.cells, Pt.slots] at X1 l1 y1 z1 st1 hQ1
  subst l1 y1 z1
  obtain ⟨rfl, N1q, K1⟩ := hQ1
  have N1 := Fr.app N0 N1q
  have KK1 : Keep h0 T1.heap [] := (Keep.refl h0 []).trans K1 all0
  have E_r := own_exa (Z := Z) (h := T1.heap) ((p1 &&& (3 : Int32)).toInt8.toInt32) w_INSERT w_UPDATE_BEFORE w_UPDATE_AFTER w_DELETE (E_w_INSERT.keep K1) (E_w_UPDATE_BEFORE.keep K1) (E_w_UPDATE_AFTER.keep K1) (E_w_DELETE.keep K1)
  have F_r := own_val (Z := Z) (h := T1.heap) ((p1 &&& (3 : Int32)).toInt8.toInt32) hrg w_INSERT w_UPDATE_BEFORE w_UPDATE_AFTER w_DELETE (F_value_w_INSERT.keep K1 nin0) (F_value_w_UPDATE_BEFORE.keep K1 nin0) (F_value_w_UPDATE_AFTER.keep K1 nin0) (F_value_w_DELETE.keep K1 nin0)
  have pre2 : ∀ t, Steps p.tables e below (T1.setTop (mkF m 11 #[.val (.int p1), .val (.int (p1 &&& (3 : Int32))), .val (.ref (res1 ((p1 &&& (3 : Int32)).toInt8.toInt32) w_INSERT w_UPDATE_BEFORE w_UPDATE_AFTER w_DELETE)), .unset] [(.int (p1 &&& (3 : Int32)))])) t → Steps p.tables e below (s₁.setTop (entryFrame m #[(.int p1)] maxLocals)) t := by
    intro t kt
    refine pre0 _ ?_
    show Steps p.tables e below (s₁.setTop (mkF m 0 #[.val (.int p1), .unset, .unset, .unset] [])) _
    refine XS.iloadN X0.here hx rfl (hb hby at_0) rfl ?_
    show Steps p.tables e below (s₁.setTop (mkF m 1 #[.val (.int p1), .unset, .unset, .unset] [(.int p1)])) _
    refine XS.iconst X0.here hx rfl (hb hby at_1) ?_
    show Steps p.tables e below (s₁.setTop (mkF m 2 #[.val (.int p1), .unset, .unset, .unset] [(.int (3 : Int32)), (.int p1)])) _
    refine XS.iand X0.here hx rfl (hb hby at_2) rfl ?_
    show Steps p.tables e below (s₁.setTop (mkF m 3 #[.val (.int p1), .unset, .unset, .unset] [(.int (p1 &&& (3 : Int32)))])) _
    refine XS.istoreN X0.here hx rfl (hb hby at_3) rfl (l' := #[.val (.int p1), .val (.int (p1 &&& (3 : Int32))), .unset, .unset]) rfl ?_
    show Steps p.tables e below (s₁.setTop (mkF m 4 #[.val (.int p1), .val (.int (p1 &&& (3 : Int32))), .unset, .unset] [])) _
    refine XS.iloadN X0.here hx rfl (hb hby at_4) rfl ?_
    show Steps p.tables e below (s₁.setTop (mkF m 5 #[.val (.int p1), .val (.int (p1 &&& (3 : Int32))), .unset, .unset] [(.int (p1 &&& (3 : Int32)))])) _
    refine XS.i2b X0.here hx rfl (hb hby at_5) rfl ?_
    show Steps p.tables e below (s₁.setTop (mkF m 6 #[.val (.int p1), .val (.int (p1 &&& (3 : Int32))), .unset, .unset] [(.int ((p1 &&& (3 : Int32)).toInt8.toInt32))])) _
    refine st1 _ ?_
    show Steps p.tables e below (T1.setTop (mkF m 9 #[.val (.int p1), .val (.int (p1 &&& (3 : Int32))), .unset, .unset] [(.ref (res1 ((p1 &&& (3 : Int32)).toInt8.toInt32) w_INSERT w_UPDATE_BEFORE w_UPDATE_AFTER w_DELETE))])) _
    refine XS.astoreN X1.here hx rfl (hb hby at_9) rfl rfl (l' := #[.val (.int p1), .val (.int (p1 &&& (3 : Int32))), .val (.ref (res1 ((p1 &&& (3 : Int32)).toInt8.toInt32) w_INSERT w_UPDATE_BEFORE w_UPDATE_AFTER w_DELETE)), .unset]) rfl ?_
    show Steps p.tables e below (T1.setTop (mkF m 10 #[.val (.int p1), .val (.int (p1 &&& (3 : Int32))), .val (.ref (res1 ((p1 &&& (3 : Int32)).toInt8.toInt32) w_INSERT w_UPDATE_BEFORE w_UPDATE_AFTER w_DELETE)), .unset] [])) _
    refine XS.iloadN X1.here hx rfl (hb hby at_10) rfl ?_
    exact kt
  by_cases hc11_3 : (p1 &&& (3 : Int32)) = (0 : Int32)
  · obtain ⟨T4, X4, e4, st4⟩ := getS2 X1 hx hZ hown (host := "") (Or.inl (hw _ (List.mem_of_getElem? (i := 25) rfl))) Via.refl rfl (own_sta_keep S_INSERT K1 all0) (g := (mkF m 14 #[.val (.int p1), .val (.int (p1 &&& (3 : Int32))), .val (.ref (res1 ((p1 &&& (3 : Int32)).toInt8.toInt32) w_INSERT w_UPDATE_BEFORE w_UPDATE_AFTER w_DELETE)), .unset] [])) rfl (hb hby at_14)
    have pre5 : ∀ t, Steps p.tables e below (T4.setTop (mkF m 51 #[.val (.int p1), .val (.int (p1 &&& (3 : Int32))), .val (.ref (res1 ((p1 &&& (3 : Int32)).toInt8.toInt32) w_INSERT w_UPDATE_BEFORE w_UPDATE_AFTER w_DELETE)), .val (.ref w_INSERT)] [(.ref w_INSERT), (.ref (res1 ((p1 &&& (3 : Int32)).toInt8.toInt32) w_INSERT w_UPDATE_BEFORE w_UPDATE_AFTER w_DELETE))])) t → Steps p.tables e below (s₁.setTop (entryFrame m #[(.int p1)] maxLocals)) t := by
      intro t kt
      refine pre2 _ ?_
      show Steps p.tables e below (T1.setTop (mkF m 11 #[.val (.int p1), .val (.int (p1 &&& (3 : Int32))), .val (.ref (res1 ((p1 &&& (3 : Int32)).toInt8.toInt32) w_INSERT w_UPDATE_BEFORE w_UPDATE_AFTER w_DELETE)), .unset] [(.int (p1 &&& (3 : Int32)))])) _
      refine XS.ifNo X1.here hx rfl (hb hby at_11) rfl ((if0 _ _).trans (teq hc11_3).2) ?_
      show Steps p.tables e below (T1.setTop (mkF m 14 #[.val (.int p1), .val (.int (p1 &&& (3 : Int32))), .val (.ref (res1 ((p1 &&& (3 : Int32)).toInt8.toInt32) w_INSERT w_UPDATE_BEFORE w_UPDATE_AFTER w_DELETE)), .unset] [])) _
      refine st4 _ ?_
      show Steps p.tables e below (T4.setTop (mkF m 17 #[.val (.int p1), .val (.int (p1 &&& (3 : Int32))), .val (.ref (res1 ((p1 &&& (3 : Int32)).toInt8.toInt32) w_INSERT w_UPDATE_BEFORE w_UPDATE_AFTER w_DELETE)), .unset] [(.ref w_INSERT)])) _
      refine XS.astoreN X4.here hx rfl (hb hby at_17) rfl rfl (l' := #[.val (.int p1), .val (.int (p1 &&& (3 : Int32))), .val (.ref (res1 ((p1 &&& (3 : Int32)).toInt8.toInt32) w_INSERT w_UPDATE_BEFORE w_UPDATE_AFTER w_DELETE)), .val (.ref w_INSERT)]) rfl ?_
      show Steps p.tables e below (T4.setTop (mkF m 18 #[.val (.int p1), .val (.int (p1 &&& (3 : Int32))), .val (.ref (res1 ((p1 &&& (3 : Int32)).toInt8.toInt32) w_INSERT w_UPDATE_BEFORE w_UPDATE_AFTER w_DELETE)), .val (.ref w_INSERT)] [])) _
      refine XS.goto X4.here hx rfl (pc0 := 18) (pc' := 49) rfl (hb hby at_18) (by decide) (by decide) ?_
      show Steps p.tables e below (T4.setTop (mkF m 49 #[.val (.int p1), .val (.int (p1 &&& (3 : Int32))), .val (.ref (res1 ((p1 &&& (3 : Int32)).toInt8.toInt32) w_INSERT w_UPDATE_BEFORE w_UPDATE_AFTER w_DELETE)), .val (.ref w_INSERT)] [])) _
      refine XS.aloadN X4.here hx rfl (hb hby at_49) rfl rfl ?_
      show Steps p.tables e below (T4.setTop (mkF m 50 #[.val (.int p1), .val (.int (p1 &&& (3 : Int32))), .val (.ref (res1 ((p1 &&& (3 : Int32)).toInt8.toInt32) w_INSERT w_UPDATE_BEFORE w_UPDATE_AFTER w_DELETE)), .val (.ref w_INSERT)] [(.ref (res1 ((p1 &&& (3 : Int32)).toInt8.toInt32) w_INSERT w_UPDATE_BEFORE w_UPDATE_AFTER w_DELETE))])) _
      refine XS.aloadN X4.here hx rfl (hb hby at_50) rfl rfl ?_
      exact kt
    by_cases hc51_6 : (res1 ((p1 &&& (3 : Int32)).toInt8.toInt32) w_INSERT w_UPDATE_BEFORE w_UPDATE_AFTER w_DELETE) = w_INSERT
    · obtain ⟨cq7, kq7, q7a, q7b, q7c⟩ := isOf hZ e4 E_r
      obtain ⟨_, _, ⟨T7, L7, k7, n7⟩, -, X7, ⟨Lc7, hQ7, l7, y7, z7⟩, st7⟩ := X4.virtualBack hx (y := (⟨"com/example/tidemark/tidemark/table/RowKind", "value", "()B"⟩ : MethodName)) (z := (⟨"com/example/tidemark/tidemark/table/RowKind", "value", "()B"⟩ : MethodName)) hown (mvT hZ (hw _ (List.mem_of_getElem? (i := 26) rfl))) (mvT hZ (hw _ (List.mem_of_getElem? (i := 27) rfl))) (notFace_of_selects (args := #[]) (mvT hZ (hw _ (List.mem_of_getElem? (i := 29) rfl)))) (mvT hZ (hw _ (List.mem_of_getElem? (i := 29) rfl))) (mvT hZ (hw _ (List.mem_of_getElem? (i := 28) rfl))) (by decide) (backOf (W := 0) (rm3 l Z a0 hw [] (res1 ((p1 &&& (3 : Int32)).toInt8.toInt32) w_INSERT w_UPDATE_BEFORE w_UPDATE_AFTER w_DELETE) ((p1 &&& (3 : Int32)).toInt8.toInt32) T1.heap n0 (Nat.le_trans Z0 KK1.1) F_r ) hZ (hw _ (List.mem_of_getElem? (i := 30) rfl)) (hw _ (List.mem_of_getElem? (i := 2) rfl)) (by decide) (by decide)) q7a q7c (g := (mkF m 55 #[.val (.int p1), .val (.int (p1 &&& (3 : Int32))), .val (.ref (res1 ((p1 &&& (3 : Int32)).toInt8.toInt32) w_INSERT w_UPDATE_BEFORE w_UPDATE_AFTER w_DELETE)), .val (.ref w_INSERT)] [(.ref (res1 ((p1 &&& (3 : Int32)).toInt8.toInt32) w_INSERT w_UPDATE_BEFORE w_UPDATE_AFTER w_DELETE))])) rfl (by rw [hml]; rfl) (Steps.refl _) (argsL := []) (rest := []) (lenOf pd2 rfl) rfl (by show 2 * 0 + _ ≤ _; exact Nat.le_of_eq rfl) (hb hby at_55) (fun _ _ => ⟨rfl, e4, (by decide : 1 + 0 ≤ _), (by decide : 4 + 0 ≤ _)⟩)
      dsimp only [Pt.U, Pt.locs, Pt.cells, Pt.slots] at X7 l7 y7 z7 st7 hQ7
      subst l7 y7 z7
      obtain ⟨rfl, rfl, e7⟩ := hQ7
      have N7 := Fr.app N1 (Fr.nil n0)
      have pre8 : ∀ t, Steps p.tables e below (T7.setTop (mkF m 60 #[.val (.int p1), .val (.int (p1 &&& (3 : Int32))), .val (.ref (res1 ((p1 &&& (3 : Int32)).toInt8.toInt32) w_INSERT w_UPDATE_BEFORE w_UPDATE_AFTER w_DELETE)), .val (.ref w_INSERT)] [(.int ((p1 &&& (3 : Int32)).toInt8.toInt32)), (.int (nar .byte ((p1 &&& (3 : Int32)).toInt8.toInt32)))])) t → Steps p.tables e below (s₁.setTop (entryFrame m #[(.int p1)] maxLocals)) t := by
        intro t kt
        refine pre5 _ ?_
        show Steps p.tables e below (T4.setTop (mkF m 51 #[.val (.int p1), .val (.int (p1 &&& (3 : Int32))), .val (.ref (res1 ((p1 &&& (3 : Int32)).toInt8.toInt32) w_INSERT w_UPDATE_BEFORE w_UPDATE_AFTER w_DELETE)), .val (.ref w_INSERT)] [(.ref w_INSERT), (.ref (res1 ((p1 &&& (3 : Int32)).toInt8.toInt32) w_INSERT w_UPDATE_BEFORE w_UPDATE_AFTER w_DELETE))])) _
        refine Jvm.RoadKit.acmp (g := (mkF m 51 #[.val (.int p1), .val (.int (p1 &&& (3 : Int32))), .val (.ref (res1 ((p1 &&& (3 : Int32)).toInt8.toInt32) w_INSERT w_UPDATE_BEFORE w_UPDATE_AFTER w_DELETE)), .val (.ref w_INSERT)] [(.ref w_INSERT), (.ref (res1 ((p1 &&& (3 : Int32)).toInt8.toInt32) w_INSERT w_UPDATE_BEFORE w_UPDATE_AFTER w_DELETE))])) X4 hx rfl rfl rfl (pc0 := 51) (pc' := 54) (same := true) rfl (hb hby at_51) rfl (decide_eq_true (congrArg Value.ref hc51_6)) (by decide) (by decide) ?_
        show Steps p.tables e below (T4.setTop (mkF m 54 #[.val (.int p1), .val (.int (p1 &&& (3 : Int32))), .val (.ref (res1 ((p1 &&& (3 : Int32)).toInt8.toInt32) w_INSERT w_UPDATE_BEFORE w_UPDATE_AFTER w_DELETE)), .val (.ref w_INSERT)] [])) _
        refine XS.aloadN X4.here hx rfl (hb hby at_54) rfl rfl ?_
        show Steps p.tables e below (T4.setTop (mkF m 55 #[.val (.int p1), .val (.int (p1 &&& (3 : Int32))), .val (.ref (res1 ((p1 &&& (3 : Int32)).toInt8.toInt32) w_INSERT w_UPDATE_BEFORE w_UPDATE_AFTER w_DELETE)), .val (.ref w_INSERT)] [(.ref (res1 ((p1 &&& (3 : Int32)).toInt8.toInt32) w_INSERT w_UPDATE_BEFORE w_UPDATE_AFTER w_DELETE))])) _
        refine st7.trans ?_
        show Steps p.tables e below (T7.setTop (mkF m 58 #[.val (.int p1), .val (.int (p1 &&& (3 : Int32))), .val (.ref (res1 ((p1 &&& (3 : Int32)).toInt8.toInt32) w_INSERT w_UPDATE_BEFORE w_UPDATE_AFTER w_DELETE)), .val (.ref w_INSERT)] [(.int (nar .byte ((p1 &&& (3 : Int32)).toInt8.toInt32)))])) _
        refine XS.iloadN X7.here hx rfl (hb hby at_58) rfl ?_
        show Steps p.tables e below (T7.setTop (mkF m 59 #[.val (.int p1), .val (.int (p1 &&& (3 : Int32))), .val (.ref (res1 ((p1 &&& (3 : Int32)).toInt8.toInt32) w_INSERT w_UPDATE_BEFORE w_UPDATE_AFTER w_DELETE)), .val (.ref w_INSERT)] [(.int (p1 &&& (3 : Int32))), (.int (nar .byte ((p1 &&& (3 : Int32)).toInt8.toInt32)))])) _
        refine XS.i2b X7.here hx rfl (hb hby at_59) rfl ?_
        exact kt
      by_cases hc60_9 : (nar .byte ((p1 &&& (3 : Int32)).toInt8.toInt32)) = ((p1 &&& (3 : Int32)).toInt8.toInt32)
      · obtain ⟨fs, hr, hrun, hended, hW, hsame⟩ := X7.leave (v := some (.int (1 : Int32))) (fun h => by rw [Bd.returns] at h; cases h)
        refine ⟨_, _, pre8 _ ?_, hrun, hended, _, _, rfl, ?_, ⟨_, rfl⟩, hW, hsame.mono (by decide) (by decide)⟩
        · show Steps p.tables e below (T7.setTop (mkF m 60 #[.val (.int p1), .val (.int (p1 &&& (3 : Int32))), .val (.ref (res1 ((p1 &&& (3 : Int32)).toInt8.toInt32) w_INSERT w_UPDATE_BEFORE w_UPDATE_AFTER w_DELETE)), .val (.ref w_INSERT)] [(.int ((p1 &&& (3 : Int32)).toInt8.toInt32)), (.int (nar .byte ((p1 &&& (3 : Int32)).toInt8.toInt32)))])) _
          refine XS.icmpNo X7.here hx rfl (hb hby at_60) rfl (teq hc60_9).2 ?_
          show Steps p.tables e below (T7.setTop (mkF m 63 #[.val (.int p1), .val (.int (p1 &&& (3 : Int32))), .val (.ref (res1 ((p1 &&& (3 : Int32)).toInt8.toInt32) w_INSERT w_UPDATE_BEFORE w_UPDATE_AFTER w_DELETE)), .val (.ref w_INSERT)] [])) _
          refine XS.iconst X7.here hx rfl (hb hby at_63) ?_
          show Steps p.tables e below (T7.setTop (mkF m 64 #[.val (.int p1), .val (.int (p1 &&& (3 : Int32))), .val (.ref (res1 ((p1 &&& (3 : Int32)).toInt8.toInt32) w_INSERT w_UPDATE_BEFORE w_UPDATE_AFTER w_DELETE)), .val (.ref w_INSERT)] [(.int (1 : Int32))])) _
          refine XS.goto X7.here hx rfl (pc0 := 64) (pc' := 68) rfl (hb hby at_64) (by decide) (by decide) ?_
          show Steps p.tables e below (T7.setTop (mkF m 68 #[.val (.int p1), .val (.int (p1 &&& (3 : Int32))), .val (.ref (res1 ((p1 &&& (3 : Int32)).toInt8.toInt32) w_INSERT w_UPDATE_BEFORE w_UPDATE_AFTER w_DELETE)), .val (.ref w_INSERT)] [(.int (1 : Int32))])) _
          exact retN X7 hx (t := .boolean) Bd.returns (by simp) (hb hby at_68) hr
        · show Q0 Z p1 w__VALUES kV w_INSERT w_UPDATE_BEFORE w_UPDATE_AFTER w_DELETE h0 n0 _ T7.heap _
          rw [e7]
          exact ⟨by rw [res0, if_pos hc11_3, if_pos hc51_6, if_pos hc60_9], N7⟩
      · obtain ⟨fs, hr, hrun, hended, hW, hsame⟩ := X7.leave (v := some (.int (0 : Int32))) (fun h => by rw [Bd.returns] at h; cases h)
        refine ⟨_, _, pre8 _ ?_, hrun, hended, _, _, rfl, ?_, ⟨_, rfl⟩, hW, hsame.mono (by decide) (by decide)⟩
        · show Steps p.tables e below (T7.setTop (mkF m 60 #[.val (.int p1), .val (.int (p1 &&& (3 : Int32))), .val (.ref (res1 ((p1 &&& (3 : Int32)).toInt8.toInt32) w_INSERT w_UPDATE_BEFORE w_UPDATE_AFTER w_DELETE)), .val (.ref w_INSERT)] [(.int ((p1 &&& (3 : Int32)).toInt8.toInt32)), (.int (nar .byte ((p1 &&& (3 : Int32)).toInt8.toInt32)))])) _
          refine XS.icmpYes X7.here hx rfl (pc0 := 60) (pc' := 67) rfl (hb hby at_60) rfl (feq hc60_9).2 (by decide) (by decide) ?_
          show Steps p.tables e below (T7.setTop (mkF m 67 #[.val (.int p1), .val (.int (p1 &&& (3 : Int32))), .val (.ref (res1 ((p1 &&& (3 : Int32)).toInt8.toInt32) w_INSERT w_UPDATE_BEFORE w_UPDATE_AFTER w_DELETE)), .val (.ref w_INSERT)] [])) _
          refine XS.iconst X7.here hx rfl (hb hby at_67) ?_
          show Steps p.tables e below (T7.setTop (mkF m 68 #[.val (.int p1), .val (.int (p1 &&& (3 : Int32))), .val (.ref (res1 ((p1 &&& (3 : Int32)).toInt8.toInt32) w_INSERT w_UPDATE_BEFORE w_UPDATE_AFTER w_DELETE)), .val (.ref w_INSERT)] [(.int (0 : Int32))])) _
          exact retN X7 hx (t := .boolean) Bd.returns (by simp) (hb hby at_68) hr
        · show Q0 Z p1 w__VALUES kV w_INSERT w_UPDATE_BEFORE w_UPDATE_AFTER w_DELETE h0 n0 _ T7.heap _
          rw [e7]
          exact ⟨by rw [res0, if_pos hc11_3, if_pos hc51_6, if_neg hc60_9], N7⟩
    · obtain ⟨fs, hr, hrun, hended, hW, hsame⟩ := X4.leave (v := some (.int (0 : Int32))) (fun h => by rw [Bd.returns] at h; cases h)
      refine ⟨_, _, pre5 _ ?_, hrun, hended, _, _, rfl, ?_, ⟨_, rfl⟩, hW, hsame.mono (by decide) (by decide)⟩
      · show Steps p.tables e below (T4.setTop (mkF m 51 #[.val (.int p1), .val (.int (p1 &&& (3 : Int32))), .val (.ref (res1 ((p1 &&& (3 : Int32)).toInt8.toInt32) w_INSERT w_UPDATE_BEFORE w_UPDATE_AFTER w_DELETE)), .val (.ref w_INSERT)] [(.ref w_INSERT), (.ref (res1 ((p1 &&& (3 : Int32)).toInt8.toInt32) w_INSERT w_UPDATE_BEFORE w_UPDATE_AFTER w_DELETE))])) _
        refine Jvm.RoadKit.acmp (g := (mkF m 51 #[.val (.int p1), .val (.int (p1 &&& (3 : Int32))), .val (.ref (res1 ((p1 &&& (3 : Int32)).toInt8.toInt32) w_INSERT w_UPDATE_BEFORE w_UPDATE_AFTER w_DELETE)), .val (.ref w_INSERT)] [(.ref w_INSERT), (.ref (res1 ((p1 &&& (3 : Int32)).toInt8.toInt32) w_INSERT w_UPDATE_BEFORE w_UPDATE_AFTER w_DELETE))])) X4 hx rfl rfl rfl (pc0 := 51) (pc' := 67) (same := false) rfl (hb hby at_51) rfl (decide_eq_false fun q => hc51_6 (Value.ref.inj q)) (by decide) (by decide) ?_
        show Steps p.tables e below (T4.setTop (mkF m 67 #[.val (.int p1), .val (.int (p1 &&& (3 : Int32))), .val (.ref (res1 ((p1 &&& (3 : Int32)).toInt8.toInt32) w_INSERT w_UPDATE_BEFORE w_UPDATE_AFTER w_DELETE)), .val (.ref w_INSERT)] [])) _
        refine XS.iconst X4.here hx rfl (hb hby at_67) ?_
        show Steps p.tables e below (T4.setTop (mkF m 68 #[.val (.int p1), .val (.int (p1 &&& (3 : Int32))), .val (.ref (res1 ((p1 &&& (3 : Int32)).toInt8.toInt32) w_INSERT w_UPDATE_BEFORE w_UPDATE_AFTER w_DELETE)), .val (.ref w_INSERT)] [(.int (0 : Int32))])) _
        exact retN X4 hx (t := .boolean) Bd.returns (by simp) (hb hby at_68) hr
      · show Q0 Z p1 w__VALUES kV w_INSERT w_UPDATE_BEFORE w_UPDATE_AFTER w_DELETE h0 n0 _ T4.heap _
        rw [e4]
        exact ⟨by rw [res0, if_pos hc11_3, if_neg hc51_6], N1⟩
  · have pre10 : ∀ t, Steps p.tables e below (T1.setTop (mkF m 23 #[.val (.int p1), .val (.int (p1 &&& (3 : Int32))), .val (.ref (res1 ((p1 &&& (3 : Int32)).toInt8.toInt32) w_INSERT w_UPDATE_BEFORE w_UPDATE_AFTER w_DELETE)), .unset] [(.int (1 : Int32)), (.int (p1 &&& (3 : Int32)))])) t → Steps p.tables e below (s₁.setTop (entryFrame m #[(.int p1)] maxLocals)) t := by
      intro t kt
      refine pre2 _ ?_
      show Steps p.tables e below (T1.setTop (mkF m 11 #[.val (.int p1), .val (.int (p1 &&& (3 : Int32))), .val (.ref (res1 ((p1 &&& (3 : Int32)).toInt8.toInt32) w_INSERT w_UPDATE_BEFORE w_UPDATE_AFTER w_DELETE)), .unset] [(.int (p1 &&& (3 : Int32)))])) _
      refine XS.ifYes X1.here hx rfl (pc0 := 11) (pc' := 21) rfl (hb hby at_11) rfl ((if0 _ _).trans (feq hc11_3).2) (by decide) (by decide) ?_
      show Steps p.tables e below (T1.setTop (mkF m 21 #[.val (.int p1), .val (.int (p1 &&& (3 : Int32))), .val (.ref (res1 ((p1 &&& (3 : Int32)).toInt8.toInt32) w_INSERT w_UPDATE_BEFORE w_UPDATE_AFTER w_DELETE)), .unset] [])) _
      refine XS.iloadN X1.here hx rfl (hb hby at_21) rfl ?_
      show Steps p.tables e below (T1.setTop (mkF m 22 #[.val (.int p1), .val (.int (p1 &&& (3 : Int32))), .val (.ref (res1 ((p1 &&& (3 : Int32)).toInt8.toInt32) w_INSERT w_UPDATE_BEFORE w_UPDATE_AFTER w_DELETE)), .unset] [(.int (p1 &&& (3 : Int32)))])) _
      refine XS.iconst X1.here hx rfl (hb hby at_22) ?_
      exact kt
    by_cases hc23_11 : (p1 &&& (3 : Int32)) = (1 : Int32)
    · obtain ⟨T12, X12, e12, st12⟩ := getS2 X1 hx hZ hown (host := "") (Or.inl (hw _ (List.mem_of_getElem? (i := 33) rfl))) Via.refl rfl (own_sta_keep S_UPDATE_BEFORE K1 all0) (g := (mkF m 26 #[.val (.int p1), .val (.int (p1 &&& (3 : Int32))), .val (.ref (res1 ((p1 &&& (3 : Int32)).toInt8.toInt32) w_INSERT w_UPDATE_BEFORE w_UPDATE_AFTER w_DELETE)), .unset] [])) rfl (hb hby at_26)
      have pre13 : ∀ t, Steps p.tables e below (T12.setTop (mkF m 51 #[.val (.int p1), .val (.int (p1 &&& (3 : Int32))), .val (.ref (res1 ((p1 &&& (3 : Int32)).toInt8.toInt32) w_INSERT w_UPDATE_BEFORE w_UPDATE_AFTER w_DELETE)), .val (.ref w_UPDATE_BEFORE)] [(.ref w_UPDATE_BEFORE), (.ref (res1 ((p1 &&& (3 : Int32)).toInt8.toInt32) w_INSERT w_UPDATE_BEFORE w_UPDATE_AFTER w_DELETE))])) t → Steps p.tables e below (s₁.setTop (entryFrame m #[(.int p1)] maxLocals)) t := by
        intro t kt
        refine pre10 _ ?_
        show Steps p.tables e below (T1.setTop (mkF m 23 #[.val (.int p1), .val (.int (p1 &&& (3 : Int32))), .val (.ref (res1 ((p1 &&& (3 : Int32)).toInt8.toInt32) w_INSERT w_UPDATE_BEFORE w_UPDATE_AFTER w_DELETE)), .unset] [(.int (1 : Int32)), (.int (p1 &&& (3 : Int32)))])) _
        refine XS.icmpNo X1.here hx rfl (hb hby at_23) rfl (teq hc23_11).2 ?_
        show Steps p.tables e below (T1.setTop (mkF m 26 #[.val (.int p1), .val (.int (p1 &&& (3 : Int32))), .val (.ref (res1 ((p1 &&& (3 : Int32)).toInt8.toInt32) w_INSERT w_UPDATE_BEFORE w_UPDATE_AFTER w_DELETE)), .unset] [])) _
        refine st12 _ ?_
        show Steps p.tables e below (T12.setTop (mkF m 29 #[.val (.int p1), .val (.int (p1 &&& (3 : Int32))), .val (.ref (res1 ((p1 &&& (3 : Int32)).toInt8.toInt32) w_INSERT w_UPDATE_BEFORE w_UPDATE_AFTER w_DELETE)), .unset] [(.ref w_UPDATE_BEFORE)])) _
        refine XS.astoreN X12.here hx rfl (hb hby at_29) rfl rfl (l' := #[.val (.int p1), .val (.int (p1 &&& (3 : Int32))), .val (.ref (res1 ((p1 &&& (3 : Int32)).toInt8.toInt32) w_INSERT w_UPDATE_BEFORE w_UPDATE_AFTER w_DELETE)), .val (.ref w_UPDATE_BEFORE)]) rfl ?_
        show Steps p.tables e below (T12.setTop (mkF m 30 #[.val (.int p1), .val (.int (p1 &&& (3 : Int32))), .val (.ref (res1 ((p1 &&& (3 : Int32)).toInt8.toInt32) w_INSERT w_UPDATE_BEFORE w_UPDATE_AFTER w_DELETE)), .val (.ref w_UPDATE_BEFORE)] [])) _
        refine XS.goto X12.here hx rfl (pc0 := 30) (pc' := 49) rfl (hb hby at_30) (by decide) (by decide) ?_
        show Steps p.tables e below (T12.setTop (mkF m 49 #[.val (.int p1), .val (.int (p1 &&& (3 : Int32))), .val (.ref (res1 ((p1 &&& (3 : Int32)).toInt8.toInt32) w_INSERT w_UPDATE_BEFORE w_UPDATE_AFTER w_DELETE)), .val (.ref w_UPDATE_BEFORE)] [])) _
        refine XS.aloadN X12.here hx rfl (hb hby at_49) rfl rfl ?_
        show Steps p.tables e below (T12.setTop (mkF m 50 #[.val (.int p1), .val (.int (p1 &&& (3 : Int32))), .val (.ref (res1 ((p1 &&& (3 : Int32)).toInt8.toInt32) w_INSERT w_UPDATE_BEFORE w_UPDATE_AFTER w_DELETE)), .val (.ref w_UPDATE_BEFORE)] [(.ref (res1 ((p1 &&& (3 : Int32)).toInt8.toInt32) w_INSERT w_UPDATE_BEFORE w_UPDATE_AFTER w_DELETE))])) _
        refine XS.aloadN X12.here hx rfl (hb hby at_50) rfl rfl ?_
        exact kt
      by_cases hc51_14 : (res1 ((p1 &&& (3 : Int32)).toInt8.toInt32) w_INSERT w_UPDATE_BEFORE w_UPDATE_AFTER w_DELETE) = w_UPDATE_BEFORE
      · obtain ⟨cq15, kq15, q15a, q15b, q15c⟩ := isOf hZ e12 E_r
        obtain ⟨_, _, ⟨T15, L15, k15, n15⟩, -, X15, ⟨Lc15, hQ15, l15, y15, z15⟩, st15⟩ := X12.virtualBack hx (y := (⟨"com/example/tidemark/tidemark/table/RowKind", "value", "()B"⟩ : MethodName)) (z := (⟨"com/example/tidemark/tidemark/table/RowKind", "value", "()B"⟩ : MethodName)) hown (mvT hZ (hw _ (List.mem_of_getElem? (i := 26) rfl))) (mvT hZ (hw _ (List.mem_of_getElem? (i := 27) rfl))) (notFace_of_selects (args := #[]) (mvT hZ (hw _ (List.mem_of_getElem? (i := 29) rfl)))) (mvT hZ (hw _ (List.mem_of_getElem? (i := 29) rfl))) (mvT hZ (hw _ (List.mem_of_getElem? (i := 28) rfl))) (by decide) (backOf (W := 0) (rm3 l Z a0 hw [] (res1 ((p1 &&& (3 : Int32)).toInt8.toInt32) w_INSERT w_UPDATE_BEFORE w_UPDATE_AFTER w_DELETE) ((p1 &&& (3 : Int32)).toInt8.toInt32) T1.heap n0 (Nat.le_trans Z0 KK1.1) F_r ) hZ (hw _ (List.mem_of_getElem? (i := 30) rfl)) (hw _ (List.mem_of_getElem? (i := 2) rfl)) (by decide) (by decide)) q15a q15c (g := (mkF m 55 #[.val (.int p1), .val (.int (p1 &&& (3 : Int32))), .val (.ref (res1 ((p1 &&& (3 : Int32)).toInt8.toInt32) w_INSERT w_UPDATE_BEFORE w_UPDATE_AFTER w_DELETE)), .val (.ref w_UPDATE_BEFORE)] [(.ref (res1 ((p1 &&& (3 : Int32)).toInt8.toInt32) w_INSERT w_UPDATE_BEFORE w_UPDATE_AFTER w_DELETE))])) rfl (by rw [hml]; rfl) (Steps.refl _) (argsL := []) (rest := []) (lenOf pd2 rfl) rfl (by show 2 * 0 + _ ≤ _; exact Nat.le_of_eq rfl) (hb hby at_55) (fun _ _ => ⟨rfl, e12, (by decide : 1 + 0 ≤ _), (by decide : 4 + 0 ≤ _)⟩)
        dsimp only [Pt.U, Pt.locs, Pt.cells, Pt.slots] at X15 l15 y15 z15 st15 hQ15
        subst l15 y15 z15
        obtain ⟨rfl, rfl, e15⟩ := hQ15
        have N15 := Fr.app N1 (Fr.nil n0)
        have pre16 : ∀ t, Steps p.tables e below (T15.setTop (mkF m 60 #[.val (.int p1), .val (.int (p1 &&& (3 : Int32))), .val (.ref (res1 ((p1 &&& (3 : Int32)).toInt8.toInt32) w_INSERT w_UPDATE_BEFORE w_UPDATE_AFTER w_DELETE)), .val (.ref w_UPDATE_BEFORE)] [(.int ((p1 &&& (3 : Int32)).toInt8.toInt32)), (.int (nar .byte ((p1 &&& (3 : Int32)).toInt8.toInt32)))])) t → Steps p.tables e below (s₁.setTop (entryFrame m #[(.int p1)] maxLocals)) t := by
          intro t kt
          refine pre13 _ ?_
          show Steps p.tables e below (T12.setTop (mkF m 51 #[.val (.int p1), .val (.int (p1 &&& (3 : Int32))), .val (.ref (res1 ((p1 &&& (3 : Int32)).toInt8.toInt32) w_INSERT w_UPDATE_BEFORE w_UPDATE_AFTER w_DELETE)), .val (.ref w_UPDATE_BEFORE)] [(.ref w_UPDATE_BEFORE), (.ref (res1 ((p1 &&& (3 : Int32)).toInt8.toInt32) w_INSERT w_UPDATE_BEFORE w_UPDATE_AFTER w_DELETE))])) _
          refine Jvm.RoadKit.acmp (g := (mkF m 51 #[.val (.int p1), .val (.int (p1 &&& (3 : Int32))), .val (.ref (res1 ((p1 &&& (3 : Int32)).toInt8.toInt32) w_INSERT w_UPDATE_BEFORE w_UPDATE_AFTER w_DELETE)), .val (.ref w_UPDATE_BEFORE)] [(.ref w_UPDATE_BEFORE), (.ref (res1 ((p1 &&& (3 : Int32)).toInt8.toInt32) w_INSERT w_UPDATE_BEFORE w_UPDATE_AFTER w_DELETE))])) X12 hx rfl rfl rfl (pc0 := 51) (pc' := 54) (same := true) rfl (hb hby at_51) rfl (decide_eq_true (congrArg Value.ref hc51_14)) (by decide) (by decide) ?_
          show Steps p.tables e below (T12.setTop (mkF m 54 #[.val (.int p1), .val (.int (p1 &&& (3 : Int32))), .val (.ref (res1 ((p1 &&& (3 : Int32)).toInt8.toInt32) w_INSERT w_UPDATE_BEFORE w_UPDATE_AFTER w_DELETE)), .val (.ref w_UPDATE_BEFORE)] [])) _
          refine XS.aloadN X12.here hx rfl (hb hby at_54) rfl rfl ?_
          show Steps p.tables e below (T12.setTop (mkF m 55 #[.val (.int p1), .val (.int (p1 &&& (3 : Int32))), .val (.ref (res1 ((p1 &&& (3 : Int32)).toInt8.toInt32) w_INSERT w_UPDATE_BEFORE w_UPDATE_AFTER w_DELETE)), .val (.ref w_UPDATE_BEFORE)] [(.ref (res1 ((p1 &&& (3 : Int32)).toInt8.toInt32) w_INSERT w_UPDATE_BEFORE w_UPDATE_AFTER w_DELETE))])) _
          refine st15.trans ?_
          show Steps p.tables e below (T15.setTop (mkF m 58 #[.val (.int p1), .val (.int (p1 &&& (3 : Int32))), .val (.ref (res1 ((p1 &&& (3 : Int32)).toInt8.toInt32) w_INSERT w_UPDATE_BEFORE w_UPDATE_AFTER w_DELETE)), .val (.ref w_UPDATE_BEFORE)] [(.int (nar .byte ((p1 &&& (3 : Int32)).toInt8.toInt32)))])) _
          refine XS.iloadN X15.here hx rfl (hb hby at_58) rfl ?_
          show Steps p.tables e below (T15.setTop (mkF m 59 #[.val (.int p1), .val (.int (p1 &&& (3 : Int32))), .val (.ref (res1 ((p1 &&& (3 : Int32)).toInt8.toInt32) w_INSERT w_UPDATE_BEFORE w_UPDATE_AFTER w_DELETE)), .val (.ref w_UPDATE_BEFORE)] [(.int (p1 &&& (3 : Int32))), (.int (nar .byte ((p1 &&& (3 : Int32)).toInt8.toInt32)))])) _
          refine XS.i2b X15.here hx rfl (hb hby at_59) rfl ?_
          exact kt
        by_cases hc60_17 : (nar .byte ((p1 &&& (3 : Int32)).toInt8.toInt32)) = ((p1 &&& (3 : Int32)).toInt8.toInt32)
        · obtain ⟨fs, hr, hrun, hended, hW, hsame⟩ := X15.leave (v := some (.int (1 : Int32))) (fun h => by rw [Bd.returns] at h; cases h)
          refine ⟨_, _, pre16 _ ?_, hrun, hended, _, _, rfl, ?_, ⟨_, rfl⟩, hW, hsame.mono (by decide) (by decide)⟩
          · show Steps p.tables e below (T15.setTop (mkF m 60 #[.val (.int p1), .val (.int (p1 &&& (3 : Int32))), .val (.ref (res1 ((p1 &&& (3 : Int32)).toInt8.toInt32) w_INSERT w_UPDATE_BEFORE w_UPDATE_AFTER w_DELETE)), .val (.ref w_UPDATE_BEFORE)] [(.int ((p1 &&& (3 : Int32)).toInt8.toInt32)), (.int (nar .byte ((p1 &&& (3 : Int32)).toInt8.toInt32)))])) _
            refine XS.icmpNo X15.here hx rfl (hb hby at_60) rfl (teq hc60_17).2 ?_
            show Steps p.tables e below (T15.setTop (mkF m 63 #[.val (.int p1), .val (.int (p1 &&& (3 : Int32))), .val (.ref (res1 ((p1 &&& (3 : Int32)).toInt8.toInt32) w_INSERT w_UPDATE_BEFORE w_UPDATE_AFTER w_DELETE)), .val (.ref w_UPDATE_BEFORE)] [])) _
            refine XS.iconst X15.here hx rfl (hb hby at_63) ?_
            show Steps p.tables e below (T15.setTop (mkF m 64 #[.val (.int p1), .val (.int (p1 &&& (3 : Int32))), .val (.ref (res1 ((p1 &&& (3 : Int32)).toInt8.toInt32) w_INSERT w_UPDATE_BEFORE w_UPDATE_AFTER w_DELETE)), .val (.ref w_UPDATE_BEFORE)] [(.int (1 : Int32))])) _
            refine XS.goto X15.here hx rfl (pc0 := 64) (pc' := 68) rfl (hb hby at_64) (by decide) (by decide) ?_
            show Steps p.tables e below (T15.setTop (mkF m 68 #[.val (.int p1), .val (.int (p1 &&& (3 : Int32))), .val (.ref (res1 ((p1 &&& (3 : Int32)).toInt8.toInt32) w_INSERT w_UPDATE_BEFORE w_UPDATE_AFTER w_DELETE)), .val (.ref w_UPDATE_BEFORE)] [(.int (1 : Int32))])) _
            exact retN X15 hx (t := .boolean) Bd.returns (by simp) (hb hby at_68) hr
          · show Q0 Z p1 w__VALUES kV w_INSERT w_UPDATE_BEFORE w_UPDATE_AFTER w_DELETE h0 n0 _ T15.heap _
            rw [e15]
            exact ⟨by rw [res0, if_neg hc11_3, if_pos hc23_11, if_pos hc51_14, if_pos hc60_17], N15⟩
        · obtain ⟨fs, hr, hrun, hended, hW, hsame⟩ := X15.leave (v := some (.int (0 : Int32))) (fun h => by rw [Bd.returns] at h; cases h)
          refine ⟨_, _, pre16 _ ?_, hrun, hended, _, _, rfl, ?_, ⟨_, rfl⟩, hW, hsame.mono (by decide) (by decide)⟩
          · show Steps p.tables e below (T15.setTop (mkF m 60 #[.val (.int p1), .val (.int (p1 &&& (3 : Int32))), .val (.ref (res1 ((p1 &&& (3 : Int32)).toInt8.toInt32) w_INSERT w_UPDATE_BEFORE w_UPDATE_AFTER w_DELETE)), .val (.ref w_UPDATE_BEFORE)] [(.int ((p1 &&& (3 : Int32)).toInt8.toInt32)), (.int (nar .byte ((p1 &&& (3 : Int32)).toInt8.toInt32)))])) _
            refine XS.icmpYes X15.here hx rfl (pc0 := 60) (pc' := 67) rfl (hb hby at_60) rfl (feq hc60_17).2 (by decide) (by decide) ?_
            show Steps p.tables e below (T15.setTop (mkF m 67 #[.val (.int p1), .val (.int (p1 &&& (3 : Int32))), .val (.ref (res1 ((p1 &&& (3 : Int32)).toInt8.toInt32) w_INSERT w_UPDATE_BEFORE w_UPDATE_AFTER w_DELETE)), .val (.ref w_UPDATE_BEFORE)] [])) _
            refine XS.iconst X15.here hx rfl (hb hby at_67) ?_
            show Steps p.tables e below (T15.setTop (mkF m 68 #[.val (.int p1), .val (.int (p1 &&& (3 : Int32))), .val (.ref (res1 ((p1 &&& (3 : Int32)).toInt8.toInt32) w_INSERT w_UPDATE_BEFORE w_UPDATE_AFTER w_DELETE)), .val (.ref w_UPDATE_BEFORE)] [(.int (0 : Int32))])) _
            exact retN X15 hx (t := .boolean) Bd.returns (by simp) (hb hby at_68) hr
          · show Q0 Z p1 w__VALUES kV w_INSERT w_UPDATE_BEFORE w_UPDATE_AFTER w_DELETE h0 n0 _ T15.heap _
            rw [e15]
            exact ⟨by rw [res0, if_neg hc11_3, if_pos hc23_11, if_pos hc51_14, if_neg hc60_17], N15⟩
      · obtain ⟨fs, hr, hrun, hended, hW, hsame⟩ := X12.leave (v := some (.int (0 : Int32))) (fun h => by rw [Bd.returns] at h; cases h)
        refine ⟨_, _, pre13 _ ?_, hrun, hended, _, _, rfl, ?_, ⟨_, rfl⟩, hW, hsame.mono (by decide) (by decide)⟩
        · show Steps p.tables e below (T12.setTop (mkF m 51 #[.val (.int p1), .val (.int (p1 &&& (3 : Int32))), .val (.ref (res1 ((p1 &&& (3 : Int32)).toInt8.toInt32) w_INSERT w_UPDATE_BEFORE w_UPDATE_AFTER w_DELETE)), .val (.ref w_UPDATE_BEFORE)] [(.ref w_UPDATE_BEFORE), (.ref (res1 ((p1 &&& (3 : Int32)).toInt8.toInt32) w_INSERT w_UPDATE_BEFORE w_UPDATE_AFTER w_DELETE))])) _
          refine Jvm.RoadKit.acmp (g := (mkF m 51 #[.val (.int p1), .val (.int (p1 &&& (3 : Int32))), .val (.ref (res1 ((p1 &&& (3 : Int32)).toInt8.toInt32) w_INSERT w_UPDATE_BEFORE w_UPDATE_AFTER w_DELETE)), .val (.ref w_UPDATE_BEFORE)] [(.ref w_UPDATE_BEFORE), (.ref (res1 ((p1 &&& (3 : Int32)).toInt8.toInt32) w_INSERT w_UPDATE_BEFORE w_UPDATE_AFTER w_DELETE))])) X12 hx rfl rfl rfl (pc0 := 51) (pc' := 67) (same := false) rfl (hb hby at_51) rfl (decide_eq_false fun q => hc51_14 (Value.ref.inj q)) (by decide) (by decide) ?_
          show Steps p.tables e below (T12.setTop (mkF m 67 #[.val (.int p1), .val (.int (p1 &&& (3 : Int32))), .val (.ref (res1 ((p1 &&& (3 : Int32)).toInt8.toInt32) w_INSERT w_UPDATE_BEFORE w_UPDATE_AFTER w_DELETE)), .val (.ref w_UPDATE_BEFORE)] [])) _
          refine XS.iconst X12.here hx rfl (hb hby at_67) ?_
          show Steps p.tables e below (T12.setTop (mkF m 68 #[.val (.int p1), .val (.int (p1 &&& (3 : Int32))), .val (.ref (res1 ((p1 &&& (3 : Int32)).toInt8.toInt32) w_INSERT w_UPDATE_BEFORE w_UPDATE_AFTER w_DELETE)), .val (.ref w_UPDATE_BEFORE)] [(.int (0 : Int32))])) _
          exact retN X12 hx (t := .boolean) Bd.returns (by simp) (hb hby at_68) hr
        · show Q0 Z p1 w__VALUES kV w_INSERT w_UPDATE_BEFORE w_UPDATE_AFTER w_DELETE h0 n0 _ T12.heap _
          rw [e12]
          exact ⟨by rw [res0, if_neg hc11_3, if_pos hc23_11, if_neg hc51_14], N1⟩
    · have pre18 : ∀ t, Steps p.tables e below (T1.setTop (mkF m 35 #[.val (.int p1), .val (.int (p1 &&& (3 : Int32))), .val (.ref (res1 ((p1 &&& (3 : Int32)).toInt8.toInt32) w_INSERT w_UPDATE_BEFORE w_UPDATE_AFTER w_DELETE)), .unset] [(.int (2 : Int32)), (.int (p1 &&& (3 : Int32)))])) t → Steps p.tables e below (s₁.setTop (entryFrame m #[(.int p1)] maxLocals)) t := by
        intro t kt
        refine pre10 _ ?_
        show Steps p.tables e below (T1.setTop (mkF m 23 #[.val (.int p1), .val (.int (p1 &&& (3 : Int32))), .val (.ref (res1 ((p1 &&& (3 : Int32)).toInt8.toInt32) w_INSERT w_UPDATE_BEFORE w_UPDATE_AFTER w_DELETE)), .unset] [(.int (1 : Int32)), (.int (p1 &&& (3 : Int32)))])) _
        refine XS.icmpYes X1.here hx rfl (pc0 := 23) (pc' := 33) rfl (hb hby at_23) rfl (feq hc23_11).2 (by decide) (by decide) ?_
        show Steps p.tables e below (T1.setTop (mkF m 33 #[.val (.int p1), .val (.int (p1 &&& (3 : Int32))), .val (.ref (res1 ((p1 &&& (3 : Int32)).toInt8.toInt32) w_INSERT w_UPDATE_BEFORE w_UPDATE_AFTER w_DELETE)), .unset] [])) _
        refine XS.iloadN X1.here hx rfl (hb hby at_33) rfl ?_
        show Steps p.tables e below (T1.setTop (mkF m 34 #[.val (.int p1), .val (.int (p1 &&& (3 : Int32))), .val (.ref (res1 ((p1 &&& (3 : Int32)).toInt8.toInt32) w_INSERT w_UPDATE_BEFORE w_UPDATE_AFTER w_DELETE)), .unset] [(.int (p1 &&& (3 : Int32)))])) _
        refine XS.iconst X1.here hx rfl (hb hby at_34) ?_
        exact kt
      by_cases hc35_19 : (p1 &&& (3 : Int32)) = (2 : Int32)
      · obtain ⟨T20, X20, e20, st20⟩ := getS2 X1 hx hZ hown (host := "") (Or.inl (hw _ (List.mem_of_getElem? (i := 32) rfl))) Via.refl rfl (own_sta_keep S_UPDATE_AFTER K1 all0) (g := (mkF m 38 #[.val (.int p1), .val (.int (p1 &&& (3 : Int32))), .val (.ref (res1 ((p1 &&& (3 : Int32)).toInt8.toInt32) w_INSERT w_UPDATE_BEFORE w_UPDATE_AFTER w_DELETE)), .unset] [])) rfl (hb hby at_38)
        have pre21 : ∀ t, Steps p.tables e below (T20.setTop (mkF m 51 #[.val (.int p1), .val (.int (p1 &&& (3 : Int32))), .val (.ref (res1 ((p1 &&& (3 : Int32)).toInt8.toInt32) w_INSERT w_UPDATE_BEFORE w_UPDATE_AFTER w_DELETE)), .val (.ref w_UPDATE_AFTER)] [(.ref w_UPDATE_AFTER), (.ref (res1 ((p1 &&& (3 : Int32)).toInt8.toInt32) w_INSERT w_UPDATE_BEFORE w_UPDATE_AFTER w_DELETE))])) t → Steps p.tables e below (s₁.setTop (entryFrame m #[(.int p1)] maxLocals)) t := by
          intro t kt
          refine pre18 _ ?_
          show Steps p.tables e below (T1.setTop (mkF m 35 #[.val (.int p1), .val (.int (p1 &&& (3 : Int32))), .val (.ref (res1 ((p1 &&& (3 : Int32)).toInt8.toInt32) w_INSERT w_UPDATE_BEFORE w_UPDATE_AFTER w_DELETE)), .unset] [(.int (2 : Int32)), (.int (p1 &&& (3 : Int32)))])) _
          refine XS.icmpNo X1.here hx rfl (hb hby at_35) rfl (teq hc35_19).2 ?_
          show Steps p.tables e below (T1.setTop (mkF m 38 #[.val (.int p1), .val (.int (p1 &&& (3 : Int32))), .val (.ref (res1 ((p1 &&& (3 : Int32)).toInt8.toInt32) w_INSERT w_UPDATE_BEFORE w_UPDATE_AFTER w_DELETE)), .unset] [])) _
          refine st20 _ ?_
          show Steps p.tables e below (T20.setTop (mkF m 41 #[.val (.int p1), .val (.int (p1 &&& (3 : Int32))), .val (.ref (res1 ((p1 &&& (3 : Int32)).toInt8.toInt32) w_INSERT w_UPDATE_BEFORE w_UPDATE_AFTER w_DELETE)), .unset] [(.ref w_UPDATE_AFTER)])) _
          refine XS.astoreN X20.here hx rfl (hb hby at_41) rfl rfl (l' := #[.val (.int p1), .val (.int (p1 &&& (3 : Int32))), .val (.ref (res1 ((p1 &&& (3 : Int32)).toInt8.toInt32) w_INSERT w_UPDATE_BEFORE w_UPDATE_AFTER w_DELETE)), .val (.ref w_UPDATE_AFTER)]) rfl ?_
          show Steps p.tables e below (T20.setTop (mkF m 42 #[.val (.int p1), .val (.int (p1 &&& (3 : Int32))), .val (.ref (res1 ((p1 &&& (3 : Int32)).toInt8.toInt32) w_INSERT w_UPDATE_BEFORE w_UPDATE_AFTER w_DELETE)), .val (.ref w_UPDATE_AFTER)] [])) _
          refine XS.goto X20.here hx rfl (pc0 := 42) (pc' := 49) rfl (hb hby at_42) (by decide) (by decide) ?_
          show Steps p.tables e below (T20.setTop (mkF m 49 #[.val (.int p1), .val (.int (p1 &&& (3 : Int32))), .val (.ref (res1 ((p1 &&& (3 : Int32)).toInt8.toInt32) w_INSERT w_UPDATE_BEFORE w_UPDATE_AFTER w_DELETE)), .val (.ref w_UPDATE_AFTER)] [])) _
          refine XS.aloadN X20.here hx rfl (hb hby at_49) rfl rfl ?_
          show Steps p.tables e below (T20.setTop (mkF m 50 #[.val (.int p1), .val (.int (p1 &&& (3 : Int32))), .val (.ref (res1 ((p1 &&& (3 : Int32)).toInt8.toInt32) w_INSERT w_UPDATE_BEFORE w_UPDATE_AFTER w_DELETE)), .val (.ref w_UPDATE_AFTER)] [(.ref (res1 ((p1 &&& (3 : Int32)).toInt8.toInt32) w_INSERT w_UPDATE_BEFORE w_UPDATE_AFTER w_DELETE))])) _
          refine XS.aloadN X20.here hx rfl (hb hby at_50) rfl rfl ?_
          exact kt
        by_cases hc51_22 : (res1 ((p1 &&& (3 : Int32)).toInt8.toInt32) w_INSERT w_UPDATE_BEFORE w_UPDATE_AFTER w_DELETE) = w_UPDATE_AFTER
        · obtain ⟨cq23, kq23, q23a, q23b, q23c⟩ := isOf hZ e20 E_r
          obtain ⟨_, _, ⟨T23, L23, k23, n23⟩, -, X23, ⟨Lc23, hQ23, l23, y23, z23⟩, st23⟩ := X20.virtualBack hx (y := (⟨"com/example/tidemark/tidemark/table/RowKind", "value", "()B"⟩ : MethodName)) (z := (⟨"com/example/tidemark/tidemark/table/RowKind", "value", "()B"⟩ : MethodName)) hown (mvT hZ (hw _ (List.mem_of_getElem? (i := 26) rfl))) (mvT hZ (hw _ (List.mem_of_getElem? (i := 27) rfl))) (notFace_of_selects (args := #[]) (mvT hZ (hw _ (List.mem_of_getElem? (i := 29) rfl)))) (mvT hZ (hw _ (List.mem_of_getElem? (i := 29) rfl))) (mvT hZ (hw _ (List.mem_of_getElem? (i := 28) rfl))) (by decide) (backOf (W := 0) (rm3 l Z a0 hw [] (res1 ((p1 &&& (3 : Int32)).toInt8.toInt32) w_INSERT w_UPDATE_BEFORE w_UPDATE_AFTER w_DELETE) ((p1 &&& (3 : Int32)).toInt8.toInt32) T1.heap n0 (Nat.le_trans Z0 KK1.1) F_r ) hZ (hw _ (List.mem_of_getElem? (i := 30) rfl)) (hw _ (List.mem_of_getElem? (i := 2) rfl)) (by decide) (by decide)) q23a q23c (g := (mkF m 55 #[.val (.int p1), .val (.int (p1 &&& (3 : Int32))), .val (.ref (res1 ((p1 &&& (3 : Int32)).toInt8.toInt32) w_INSERT w_UPDATE_BEFORE w_UPDATE_AFTER w_DELETE)), .val (.ref w_UPDATE_AFTER)] [(.ref (res1 ((p1 &&& (3 : Int32)).toInt8.toInt32) w_INSERT w_UPDATE_BEFORE w_UPDATE_AFTER w_DELETE))])) rfl (by rw [hml]; rfl) (Steps.refl _) (argsL := []) (rest := []) (lenOf pd2 rfl) rfl (by show 2 * 0 + _ ≤ _; exact Nat.le_of_eq rfl) (hb hby at_55) (fun _ _ => ⟨rfl, e20, (by decide : 1 + 0 ≤ _), (by decide : 4 + 0 ≤ _)⟩)
          dsimp only [Pt.U, Pt.locs, Pt.cells, Pt.slots] at X23 l23 y23 z23 st23 hQ23
          subst l23 y23 z23
          obtain ⟨rfl, rfl, e23⟩ := hQ23
          have N23 := Fr.app N1 (Fr.nil n0)
          have pre24 : ∀ t, Steps p.tables e below (T23.setTop (mkF m 60 #[.val (.int p1), .val (.int (p1 &&& (3 : Int32))), .val (.ref (res1 ((p1 &&& (3 : Int32)).toInt8.toInt32) w_INSERT w_UPDATE_BEFORE w_UPDATE_AFTER w_DELETE)), .val (.ref w_UPDATE_AFTER)] [(.int ((p1 &&& (3 : Int32)).toInt8.toInt32)), (.int (nar .byte ((p1 &&& (3 : Int32)).toInt8.toInt32)))])) t → Steps p.tables e below (s₁.setTop (entryFrame m #[(.int p1)] maxLocals)) t := by
            intro t kt
            refine pre21 _ ?_
            show Steps p.tables e below (T20.setTop (mkF m 51 #[.val (.int p1), .val (.int (p1 &&& (3 : Int32))), .val (.ref (res1 ((p1 &&& (3 : Int32)).toInt8.toInt32) w_INSERT w_UPDATE_BEFORE w_UPDATE_AFTER w_DELETE)), .val (.ref w_UPDATE_AFTER)] [(.ref w_UPDATE_AFTER), (.ref (res1 ((p1 &&& (3 : Int32)).toInt8.toInt32) w_INSERT w_UPDATE_BEFORE w_UPDATE_AFTER w_DELETE))])) _
            refine Jvm.RoadKit.acmp (g := (mkF m 51 #[.val (.int p1), .val (.int (p1 &&& (3 : Int32))), .val (.ref (res1 ((p1 &&& (3 : Int32)).toInt8.toInt32) w_INSERT w_UPDATE_BEFORE w_UPDATE_AFTER w_DELETE)), .val (.ref w_UPDATE_AFTER)] [(.ref w_UPDATE_AFTER), (.ref (res1 ((p1 &&& (3 : Int32)).toInt8.toInt32) w_INSERT w_UPDATE_BEFORE w_UPDATE_AFTER w_DELETE))])) X20 hx rfl rfl rfl (pc0 := 51) (pc' := 54) (same := true) rfl (hb hby at_51) rfl (decide_eq_true (congrArg Value.ref hc51_22)) (by decide) (by decide) ?_
            show Steps p.tables e below (T20.setTop (mkF m 54 #[.val (.int p1), .val (.int (p1 &&& (3 : Int32))), .val (.ref (res1 ((p1 &&& (3 : Int32)).toInt8.toInt32) w_INSERT w_UPDATE_BEFORE w_UPDATE_AFTER w_DELETE)), .val (.ref w_UPDATE_AFTER)] [])) _
            refine XS.aloadN X20.here hx rfl (hb hby at_54) rfl rfl ?_
            show Steps p.tables e below (T20.setTop (mkF m 55 #[.val (.int p1), .val (.int (p1 &&& (3 : Int32))), .val (.ref (res1 ((p1 &&& (3 : Int32)).toInt8.toInt32) w_INSERT w_UPDATE_BEFORE w_UPDATE_AFTER w_DELETE)), .val (.ref w_UPDATE_AFTER)] [(.ref (res1 ((p1 &&& (3 : Int32)).toInt8.toInt32) w_INSERT w_UPDATE_BEFORE w_UPDATE_AFTER w_DELETE))])) _
            refine st23.trans ?_
            show Steps p.tables e below (T23.setTop (mkF m 58 #[.val (.int p1), .val (.int (p1 &&& (3 : Int32))), .val (.ref (res1 ((p1 &&& (3 : Int32)).toInt8.toInt32) w_INSERT w_UPDATE_BEFORE w_UPDATE_AFTER w_DELETE)), .val (.ref w_UPDATE_AFTER)] [(.int (nar .byte ((p1 &&& (3 : Int32)).toInt8.toInt32)))])) _
            refine XS.iloadN X23.here hx rfl (hb hby at_58) rfl ?_
            show Steps p.tables e below (T23.setTop (mkF m 59 #[.val (.int p1), .val (.int (p1 &&& (3 : Int32))), .val (.ref (res1 ((p1 &&& (3 : Int32)).toInt8.toInt32) w_INSERT w_UPDATE_BEFORE w_UPDATE_AFTER w_DELETE)), .val (.ref w_UPDATE_AFTER)] [(.int (p1 &&& (3 : Int32))), (.int (nar .byte ((p1 &&& (3 : Int32)).toInt8.toInt32)))])) _
            refine XS.i2b X23.here hx rfl (hb hby at_59) rfl ?_
            exact kt
          by_cases hc60_25 : (nar .byte ((p1 &&& (3 : Int32)).toInt8.toInt32)) = ((p1 &&& (3 : Int32)).toInt8.toInt32)
          · obtain ⟨fs, hr, hrun, hended, hW, hsame⟩ := X23.leave (v := some (.int (1 : Int32))) (fun h => by rw [Bd.returns] at h; cases h)
            refine ⟨_, _, pre24 _ ?_, hrun, hended, _, _, rfl, ?_, ⟨_, rfl⟩, hW, hsame.mono (by decide) (by decide)⟩
            · show Steps p.tables e below (T23.setTop (mkF m 60 #[.val (.int p1), .val (.int (p1 &&& (3 : Int32))), .val (.ref (res1 ((p1 &&& (3 : Int32)).toInt8.toInt32) w_INSERT w_UPDATE_BEFORE w_UPDATE_AFTER w_DELETE)), .val (.ref w_UPDATE_AFTER)] [(.int ((p1 &&& (3 : Int32)).toInt8.toInt32)), (.int (nar .byte ((p1 &&& (3 : Int32)).toInt8.toInt32)))])) _
              refine XS.icmpNo X23.here hx rfl (hb hby at_60) rfl (teq hc60_25).2 ?_
              show Steps p.tables e below (T23.setTop (mkF m 63 #[.val (.int p1), .val (.int (p1 &&& (3 : Int32))), .val (.ref (res1 ((p1 &&& (3 : Int32)).toInt8.toInt32) w_INSERT w_UPDATE_BEFORE w_UPDATE_AFTER w_DELETE)), .val (.ref w_UPDATE_AFTER)] [])) _
              refine XS.iconst X23.here hx rfl (hb hby at_63) ?_
              show Steps p.tables e below (T23.setTop (mkF m 64 #[.val (.int p1), .val (.int (p1 &&& (3 : Int32))), .val (.ref (res1 ((p1 &&& (3 : Int32)).toInt8.toInt32) w_INSERT w_UPDATE_BEFORE w_UPDATE_AFTER w_DELETE)), .val (.ref w_UPDATE_AFTER)] [(.int (1 : Int32))])) _
              refine XS.goto X23.here hx rfl (pc0 := 64) (pc' := 68) rfl (hb hby at_64) (by decide) (by decide) ?_
              show Steps p.tables e below (T23.setTop (mkF m 68 #[.val (.int p1), .val (.int (p1 &&& (3 : Int32))), .val (.ref (res1 ((p1 &&& (3 : Int32)).toInt8.toInt32) w_INSERT w_UPDATE_BEFORE w_UPDATE_AFTER w_DELETE)), .val (.ref w_UPDATE_AFTER)] [(.int (1 : Int32))])) _
              exact retN X23 hx (t := .boolean) Bd.returns (by simp) (hb hby at_68) hr
            · show Q0 Z p1 w__VALUES kV w_INSERT w_UPDATE_BEFORE w_UPDATE_AFTER w_DELETE h0 n0 _ T23.heap _
              rw [e23]
              exact ⟨by rw [res0, if_neg hc11_3, if_neg hc23_11, if_pos hc35_19, if_pos hc51_22, if_pos hc60_25], N23⟩
          · obtain ⟨fs, hr, hrun, hended, hW, hsame⟩ := X23.leave (v := some (.int (0 : Int32))) (fun h => by rw [Bd.returns] at h; cases h)
            refine ⟨_, _, pre24 _ ?_, hrun, hended, _, _, rfl, ?_, ⟨_, rfl⟩, hW, hsame.mono (by decide) (by decide)⟩
            · show Steps p.tables e below (T23.setTop (mkF m 60 #[.val (.int p1), .val (.int (p1 &&& (3 : Int32))), .val (.ref (res1 ((p1 &&& (3 : Int32)).toInt8.toInt32) w_INSERT w_UPDATE_BEFORE w_UPDATE_AFTER w_DELETE)), .val (.ref w_UPDATE_AFTER)] [(.int ((p1 &&& (3 : Int32)).toInt8.toInt32)), (.int (nar .byte ((p1 &&& (3 : Int32)).toInt8.toInt32)))])) _
              refine XS.icmpYes X23.here hx rfl (pc0 := 60) (pc' := 67) rfl (hb hby at_60) rfl (feq hc60_25).2 (by decide) (by decide) ?_
              show Steps p.tables e below (T23.setTop (mkF m 67 #[.val (.int p1), .val (.int (p1 &&& (3 : Int32))), .val (.ref (res1 ((p1 &&& (3 : Int32)).toInt8.toInt32) w_INSERT w_UPDATE_BEFORE w_UPDATE_AFTER w_DELETE)), .val (.ref w_UPDATE_AFTER)] [])) _
              refine XS.iconst X23.here hx rfl (hb hby at_67) ?_
              show Steps p.tables e below (T23.setTop (mkF m 68 #[.val (.int p1), .val (.int (p1 &&& (3 : Int32))), .val (.ref (res1 ((p1 &&& (3 : Int32)).toInt8.toInt32) w_INSERT w_UPDATE_BEFORE w_UPDATE_AFTER w_DELETE)), .val (.ref w_UPDATE_AFTER)] [(.int (0 : Int32))])) _
              exact retN X23 hx (t := .boolean) Bd.returns (by simp) (hb hby at_68) hr
            · show Q0 Z p1 w__VALUES kV w_INSERT w_UPDATE_BEFORE w_UPDATE_AFTER w_DELETE h0 n0 _ T23.heap _
              rw [e23]
              exact ⟨by rw [res0, if_neg hc11_3, if_neg hc23_11, if_pos hc35_19, if_pos hc51_22, if_neg hc60_25], N23⟩
        · obtain ⟨fs, hr, hrun, hended, hW, hsame⟩ := X20.leave (v := some (.int (0 : Int32))) (fun h => by rw [Bd.returns] at h; cases h)
          refine ⟨_, _, pre21 _ ?_, hrun, hended, _, _, rfl, ?_, ⟨_, rfl⟩, hW, hsame.mono (by decide) (by decide)⟩
          · show Steps p.tables e below (T20.setTop (mkF m 51 #[.val (.int p1), .val (.int (p1 &&& (3 : Int32))), .val (.ref (res1 ((p1 &&& (3 : Int32)).toInt8.toInt32) w_INSERT w_UPDATE_BEFORE w_UPDATE_AFTER w_DELETE)), .val (.ref w_UPDATE_AFTER)] [(.ref w_UPDATE_AFTER), (.ref (res1 ((p1 &&& (3 : Int32)).toInt8.toInt32) w_INSERT w_UPDATE_BEFORE w_UPDATE_AFTER w_DELETE))])) _
            refine Jvm.RoadKit.acmp (g := (mkF m 51 #[.val (.int p1), .val (.int (p1 &&& (3 : Int32))), .val (.ref (res1 ((p1 &&& (3 : Int32)).toInt8.toInt32) w_INSERT w_UPDATE_BEFORE w_UPDATE_AFTER w_DELETE)), .val (.ref w_UPDATE_AFTER)] [(.ref w_UPDATE_AFTER), (.ref (res1 ((p1 &&& (3 : Int32)).toInt8.toInt32) w_INSERT w_UPDATE_BEFORE w_UPDATE_AFTER w_DELETE))])) X20 hx rfl rfl rfl (pc0 := 51) (pc' := 67) (same := false) rfl (hb hby at_51) rfl (decide_eq_false fun q => hc51_22 (Value.ref.inj q)) (by decide) (by decide) ?_
            show Steps p.tables e below (T20.setTop (mkF m 67 #[.val (.int p1), .val (.int (p1 &&& (3 : Int32))), .val (.ref (res1 ((p1 &&& (3 : Int32)).toInt8.toInt32) w_INSERT w_UPDATE_BEFORE w_UPDATE_AFTER w_DELETE)), .val (.ref w_UPDATE_AFTER)] [])) _
            refine XS.iconst X20.here hx rfl (hb hby at_67) ?_
            show Steps p.tables e below (T20.setTop (mkF m 68 #[.val (.int p1), .val (.int (p1 &&& (3 : Int32))), .val (.ref (res1 ((p1 &&& (3 : Int32)).toInt8.toInt32) w_INSERT w_UPDATE_BEFORE w_UPDATE_AFTER w_DELETE)), .val (.ref w_UPDATE_AFTER)] [(.int (0 : Int32))])) _
            exact retN X20 hx (t := .boolean) Bd.returns (by simp) (hb hby at_68) hr
          · show Q0 Z p1 w__VALUES kV w_INSERT w_UPDATE_BEFORE w_UPDATE_AFTER w_DELETE h0 n0 _ T20.heap _
            rw [e20]
            exact ⟨by rw [res0, if_neg hc11_3, if_neg hc23_11, if_pos hc35_19, if_neg hc51_22], N1⟩
      · obtain ⟨T26, X26, e26, st26⟩ := getS2 X1 hx hZ hown (host := "") (Or.inl (hw _ (List.mem_of_getElem? (i := 31) rfl))) Via.refl rfl (own_sta_keep S_DELETE K1 all0) (g := (mkF m 45 #[.val (.int p1), .val (.int (p1 &&& (3 : Int32))), .val (.ref (res1 ((p1 &&& (3 : Int32)).toInt8.toInt32) w_INSERT w_UPDATE_BEFORE w_UPDATE_AFTER w_DELETE)), .unset] [])) rfl (hb hby at_45)
        have pre27 : ∀ t, Steps p.tables e below (T26.setTop (mkF m 51 #[.val (.int p1), .val (.int (p1 &&& (3 : Int32))), .val (.ref (res1 ((p1 &&& (3 : Int32)).toInt8.toInt32) w_INSERT w_UPDATE_BEFORE w_UPDATE_AFTER w_DELETE)), .val (.ref w_DELETE)] [(.ref w_DELETE), (.ref (res1 ((p1 &&& (3 : Int32)).toInt8.toInt32) w_INSERT w_UPDATE_BEFORE w_UPDATE_AFTER w_DELETE))])) t → Steps p.tables e below (s₁.setTop (entryFrame m #[(.int p1)] maxLocals)) t := by
          intro t kt
          refine pre18 _ ?_
          show Steps p.tables e below (T1.setTop (mkF m 35 #[.val (.int p1), .val (.int (p1 &&& (3 : Int32))), .val (.ref (res1 ((p1 &&& (3 : Int32)).toInt8.toInt32) w_INSERT w_UPDATE_BEFORE w_UPDATE_AFTER w_DELETE)), .unset] [(.int (2 : Int32)), (.int (p1 &&& (3 : Int32)))])) _
          refine XS.icmpYes X1.here hx rfl (pc0 := 35) (pc' := 45) rfl (hb hby at_35) rfl (feq hc35_19).2 (by decide) (by decide) ?_
          show Steps p.tables e below (T1.setTop (mkF m 45 #[.val (.int p1), .val (.int (p1 &&& (3 : Int32))), .val (.ref (res1 ((p1 &&& (3 : Int32)).toInt8.toInt32) w_INSERT w_UPDATE_BEFORE w_UPDATE_AFTER w_DELETE)), .unset] [])) _
          refine st26 _ ?_
          show Steps p.tables e below (T26.setTop (mkF m 48 #[.val (.int p1), .val (.int (p1 &&& (3 : Int32))), .val (.ref (res1 ((p1 &&& (3 : Int32)).toInt8.toInt32) w_INSERT w_UPDATE_BEFORE w_UPDATE_AFTER w_DELETE)), .unset] [(.ref w_DELETE)])) _
          refine XS.astoreN X26.here hx rfl (hb hby at_48) rfl rfl (l' := #[.val (.int p1), .val (.int (p1 &&& (3 : Int32))), .val (.ref (res1 ((p1 &&& (3 : Int32)).toInt8.toInt32) w_INSERT w_UPDATE_BEFORE w_UPDATE_AFTER w_DELETE)), .val (.ref w_DELETE)]) rfl ?_
          show Steps p.tables e below (T26.setTop (mkF m 49 #[.val (.int p1), .val (.int (p1 &&& (3 : Int32))), .val (.ref (res1 ((p1 &&& (3 : Int32)).toInt8.toInt32) w_INSERT w_UPDATE_BEFORE w_UPDATE_AFTER w_DELETE)), .val (.ref w_DELETE)] [])) _
          refine XS.aloadN X26.here hx rfl (hb hby at_49) rfl rfl ?_
          show Steps p.tables e below (T26.setTop (mkF m 50 #[.val (.int p1), .val (.int (p1 &&& (3 : Int32))), .val (.ref (res1 ((p1 &&& (3 : Int32)).toInt8.toInt32) w_INSERT w_UPDATE_BEFORE w_UPDATE_AFTER w_DELETE)), .val (.ref w_DELETE)] [(.ref (res1 ((p1 &&& (3 : Int32)).toInt8.toInt32) w_INSERT w_UPDATE_BEFORE w_UPDATE_AFTER w_DELETE))])) _
          refine XS.aloadN X26.here hx rfl (hb hby at_50) rfl rfl ?_
          exact kt
        by_cases hc51_28 : (res1 ((p1 &&& (3 : Int32)).toInt8.toInt32) w_INSERT w_UPDATE_BEFORE w_UPDATE_AFTER w_DELETE) = w_DELETE
        · obtain ⟨cq29, kq29, q29a, q29b, q29c⟩ := isOf hZ e26 E_r
          obtain ⟨_, _, ⟨T29, L29, k29, n29⟩, -, X29, ⟨Lc29, hQ29, l29, y29, z29⟩, st29⟩ := X26.virtualBack hx (y := (⟨"com/example/tidemark/tidemark/table/RowKind", "value", "()B"⟩ : MethodName)) (z := (⟨"com/example/tidemark/tidemark/table/RowKind", "value", "()B"⟩ : MethodName)) hown (mvT hZ (hw _ (List.mem_of_getElem? (i := 26) rfl))) (mvT hZ (hw _ (List.mem_of_getElem? (i := 27) rfl))) (notFace_of_selects (args := #[]) (mvT hZ (hw _ (List.mem_of_getElem? (i := 29) rfl)))) (mvT hZ (hw _ (List.mem_of_getElem? (i := 29) rfl))) (mvT hZ (hw _ (List.mem_of_getElem? (i := 28) rfl))) (by decide) (backOf (W := 0) (rm3 l Z a0 hw [] (res1 ((p1 &&& (3 : Int32)).toInt8.toInt32) w_INSERT w_UPDATE_BEFORE w_UPDATE_AFTER w_DELETE) ((p1 &&& (3 : Int32)).toInt8.toInt32) T1.heap n0 (Nat.le_trans Z0 KK1.1) F_r ) hZ (hw _ (List.mem_of_getElem? (i := 30) rfl)) (hw _ (List.mem_of_getElem? (i := 2) rfl)) (by decide) (by decide)) q29a q29c (g := (mkF m 55 #[.val (.int p1), .val (.int (p1 &&& (3 : Int32))), .val (.ref (res1 ((p1 &&& (3 : Int32)).toInt8.toInt32) w_INSERT w_UPDATE_BEFORE w_UPDATE_AFTER w_DELETE)), .val (.ref w_DELETE)] [(.ref (res1 ((p1 &&& (3 : Int32)).toInt8.toInt32) w_INSERT w_UPDATE_BEFORE w_UPDATE_AFTER w_DELETE))])) rfl (by rw [hml]; rfl) (Steps.refl _) (argsL := []) (rest := []) (lenOf pd2 rfl) rfl (by show 2 * 0 + _ ≤ _; exact Nat.le_of_eq rfl) (hb hby at_55) (fun _ _ => ⟨rfl, e26, (by decide : 1 + 0 ≤ _), (by decide : 4 + 0 ≤ _)⟩)
          dsimp only [Pt.U, Pt.locs, Pt.cells, Pt.slots] at X29 l29 y29 z29 st29 hQ29
          subst l29 y29 z29
          obtain ⟨rfl, rfl, e29⟩ := hQ29
          have N29 := Fr.app N1 (Fr.nil n0)
          have pre30 : ∀ t, Steps p.tables e below (T29.setTop (mkF m 60 #[.val (.int p1), .val (.int (p1 &&& (3 : Int32))), .val (.ref (res1 ((p1 &&& (3 : Int32)).toInt8.toInt32) w_INSERT w_UPDATE_BEFORE w_UPDATE_AFTER w_DELETE)), .val (.ref w_DELETE)] [(.int ((p1 &&& (3 : Int32)).toInt8.toInt32)), (.int (nar .byte ((p1 &&& (3 : Int32)).toInt8.toInt32)))])) t → Steps p.tables e below (s₁.setTop (entryFrame m #[(.int p1)] maxLocals)) t := by
            intro t kt
            refine pre27 _ ?_
            show Steps p.tables e below (T26.setTop (mkF m 51 #[.val (.int p1), .val (.int (p1 &&& (3 : Int32))), .val (.ref (res1 ((p1 &&& (3 : Int32)).toInt8.toInt32) w_INSERT w_UPDATE_BEFORE w_UPDATE_AFTER w_DELETE)), .val (.ref w_DELETE)] [(.ref w_DELETE), (.ref (res1 ((p1 &&& (3 : Int32)).toInt8.toInt32) w_INSERT w_UPDATE_BEFORE w_UPDATE_AFTER w_DELETE))])) _
            refine Jvm.RoadKit.acmp (g := (mkF m 51 #[.val (.int p1), .val (.int (p1 &&& (3 : Int32))), .val (.ref (res1 ((p1 &&& (3 : Int32)).toInt8.toInt32) w_INSERT w_UPDATE_BEFORE w_UPDATE_AFTER w_DELETE)), .val (.ref w_DELETE)] [(.ref w_DELETE), (.ref (res1 ((p1 &&& (3 : Int32)).toInt8.toInt32) w_INSERT w_UPDATE_BEFORE w_UPDATE_AFTER w_DELETE))])) X26 hx rfl rfl rfl (pc0 := 51) (pc' := 54) (same := true) rfl (hb hby at_51) rfl (decide_eq_true (congrArg Value.ref hc51_28)) (by decide) (by decide) ?_
            show Steps p.tables e below (T26.setTop (mkF m 54 #[.val (.int p1), .val (.int (p1 &&& (3 : Int32))), .val (.ref (res1 ((p1 &&& (3 : Int32)).toInt8.toInt32) w_INSERT w_UPDATE_BEFORE w_UPDATE_AFTER w_DELETE)), .val (.ref w_DELETE)] [])) _
            refine XS.aloadN X26.here hx rfl (hb hby at_54) rfl rfl ?_
            show Steps p.tables e below (T26.setTop (mkF m 55 #[.val (.int p1), .val (.int (p1 &&& (3 : Int32))), .val (.ref (res1 ((p1 &&& (3 : Int32)).toInt8.toInt32) w_INSERT w_UPDATE_BEFORE w_UPDATE_AFTER w_DELETE)), .val (.ref w_DELETE)] [(.ref (res1 ((p1 &&& (3 : Int32)).toInt8.toInt32) w_INSERT w_UPDATE_BEFORE w_UPDATE_AFTER w_DELETE))])) _
            refine st29.trans ?_
            show Steps p.tables e below (T29.setTop (mkF m 58 #[.val (.int p1), .val (.int (p1 &&& (3 : Int32))), .val (.ref (res1 ((p1 &&& (3 : Int32)).toInt8.toInt32) w_INSERT w_UPDATE_BEFORE w_UPDATE_AFTER w_DELETE)), .val (.ref w_DELETE)] [(.int (nar .byte ((p1 &&& (3 : Int32)).toInt8.toInt32)))])) _
            refine XS.iloadN X29.here hx rfl (hb hby at_58) rfl ?_
            show Steps p.tables e below (T29.setTop (mkF m 59 #[.val (.int p1), .val (.int (p1 &&& (3 : Int32))), .val (.ref (res1 ((p1 &&& (3 : Int32)).toInt8.toInt32) w_INSERT w_UPDATE_BEFORE w_UPDATE_AFTER w_DELETE)), .val (.ref w_DELETE)] [(.int (p1 &&& (3 : Int32))), (.int (nar .byte ((p1 &&& (3 : Int32)).toInt8.toInt32)))])) _
            refine XS.i2b X29.here hx rfl (hb hby at_59) rfl ?_
            exact kt
          by_cases hc60_31 : (nar .byte ((p1 &&& (3 : Int32)).toInt8.toInt32)) = ((p1 &&& (3 : Int32)).toInt8.toInt32)
          · obtain ⟨fs, hr, hrun, hended, hW, hsame⟩ := X29.leave (v := some (.int (1 : Int32))) (fun h => by rw [Bd.returns] at h; cases h)
            refine ⟨_, _, pre30 _ ?_, hrun, hended, _, _, rfl, ?_, ⟨_, rfl⟩, hW, hsame.mono (by decide) (by decide)⟩
            · show Steps p.tables e below (T29.setTop (mkF m 60 #[.val (.int p1), .val (.int (p1 &&& (3 : Int32))), .val (.ref (res1 ((p1 &&& (3 : Int32)).toInt8.toInt32) w_INSERT w_UPDATE_BEFORE w_UPDATE_AFTER w_DELETE)), .val (.ref w_DELETE)] [(.int ((p1 &&& (3 : Int32)).toInt8.toInt32)), (.int (nar .byte ((p1 &&& (3 : Int32)).toInt8.toInt32)))])) _
              refine XS.icmpNo X29.here hx rfl (hb hby at_60) rfl (teq hc60_31).2 ?_
              show Steps p.tables e below (T29.setTop (mkF m 63 #[.val (.int p1), .val (.int (p1 &&& (3 : Int32))), .val (.ref (res1 ((p1 &&& (3 : Int32)).toInt8.toInt32) w_INSERT w_UPDATE_BEFORE w_UPDATE_AFTER w_DELETE)), .val (.ref w_DELETE)] [])) _
              refine XS.iconst X29.here hx rfl (hb hby at_63) ?_
              show Steps p.tables e below (T29.setTop (mkF m 64 #[.val (.int p1), .val (.int (p1 &&& (3 : Int32))), .val (.ref (res1 ((p1 &&& (3 : Int32)).toInt8.toInt32) w_INSERT w_UPDATE_BEFORE w_UPDATE_AFTER w_DELETE)), .val (.ref w_DELETE)] [(.int (1 : Int32))])) _
              refine XS.goto X29.here hx rfl (pc0 := 64) (pc' := 68) rfl (hb hby at_64) (by decide) (by decide) ?_
              show Steps p.tables e below (T29.setTop (mkF m 68 #[.val (.int p1), .val (.int (p1 &&& (3 : Int32))), .val (.ref (res1 ((p1 &&& (3 : Int32)).toInt8.toInt32) w_INSERT w_UPDATE_BEFORE w_UPDATE_AFTER w_DELETE)), .val (.ref w_DELETE)] [(.int (1 : Int32))])) _
              exact retN X29 hx (t := .boolean) Bd.returns (by simp) (hb hby at_68) hr
            · show Q0 Z p1 w__VALUES kV w_INSERT w_UPDATE_BEFORE w_UPDATE_AFTER w_DELETE h0 n0 _ T29.heap _
              rw [e29]
              exact ⟨by rw [res0, if_neg hc11_3, if_neg hc23_11, if_neg hc35_19, if_pos hc51_28, if_pos hc60_31], N29⟩
          · obtain ⟨fs, hr, hrun, hended, hW, hsame⟩ := X29.leave (v := some (.int (0 : Int32))) (fun h => by rw [Bd.returns] at h; cases h)
            refine ⟨_, _, pre30 _ ?_, hrun, hended, _, _, rfl, ?_, ⟨_, rfl⟩, hW, hsame.mono (by decide) (by decide)⟩
            · show Steps p.tables e below (T29.setTop (mkF m 60 #[.val (.int p1), .val (.int (p1 &&& (3 : Int32))), .val (.ref (res1 ((p1 &&& (3 : Int32)).toInt8.toInt32) w_INSERT w_UPDATE_BEFORE w_UPDATE_AFTER w_DELETE)), .val (.ref w_DELETE)] [(.int ((p1 &&& (3 : Int32)).toInt8.toInt32)), (.int (nar .byte ((p1 &&& (3 : Int32)).toInt8.toInt32)))])) _
              refine XS.icmpYes X29.here hx rfl (pc0 := 60) (pc' := 67) rfl (hb hby at_60) rfl (feq hc60_31).2 (by decide) (by decide) ?_
              show Steps p.tables e below (T29.setTop (mkF m 67 #[.val (.int p1), .val (.int (p1 &&& (3 : Int32))), .val (.ref (res1 ((p1 &&& (3 : Int32)).toInt8.toInt32) w_INSERT w_UPDATE_BEFORE w_UPDATE_AFTER w_DELETE)), .val (.ref w_DELETE)] [])) _
              refine XS.iconst X29.here hx rfl (hb hby at_67) ?_
              show Steps p.tables e below (T29.setTop (mkF m 68 #[.val (.int p1), .val (.int (p1 &&& (3 : Int32))), .val (.ref (res1 ((p1 &&& (3 : Int32)).toInt8.toInt32) w_INSERT w_UPDATE_BEFORE w_UPDATE_AFTER w_DELETE)), .val (.ref w_DELETE)] [(.int (0 : Int32))])) _
              exact retN X29 hx (t := .boolean) Bd.returns (by simp) (hb hby at_68) hr
            · show Q0 Z p1 w__VALUES kV w_INSERT w_UPDATE_BEFORE w_UPDATE_AFTER w_DELETE h0 n0 _ T29.heap _
              rw [e29]
              exact ⟨by rw [res0, if_neg hc11_3, if_neg hc23_11, if_neg hc35_19, if_pos hc51_28, if_neg hc60_31], N29⟩
        · obtain ⟨fs, hr, hrun, hended, hW, hsame⟩ := X26.leave (v := some (.int (0 : Int32))) (fun h => by rw [Bd.returns] at h; cases h)
          refine ⟨_, _, pre27 _ ?_, hrun, hended, _, _, rfl, ?_, ⟨_, rfl⟩, hW, hsame.mono (by decide) (by decide)⟩
          · show Steps p.tables e below (T26.setTop (mkF m 51 #[.val (.int p1), .val (.int (p1 &&& (3 : Int32))), .val (.ref (res1 ((p1 &&& (3 : Int32)).toInt8.toInt32) w_INSERT w_UPDATE_BEFORE w_UPDATE_AFTER w_DELETE)), .val (.ref w_DELETE)] [(.ref w_DELETE), (.ref (res1 ((p1 &&& (3 : Int32)).toInt8.toInt32) w_INSERT w_UPDATE_BEFORE w_UPDATE_AFTER w_DELETE))])) _
            refine Jvm.RoadKit.acmp (g := (mkF m 51 #[.val (.int p1), .val (.int (p1 &&& (3 : Int32))), .val (.ref (res1 ((p1 &&& (3 : Int32)).toInt8.toInt32) w_INSERT w_UPDATE_BEFORE w_UPDATE_AFTER w_DELETE)), .val (.ref w_DELETE)] [(.ref w_DELETE), (.ref (res1 ((p1 &&& (3 : Int32)).toInt8.toInt32) w_INSERT w_UPDATE_BEFORE w_UPDATE_AFTER w_DELETE))])) X26 hx rfl rfl rfl (pc0 := 51) (pc' := 67) (same := false) rfl (hb hby at_51) rfl (decide_eq_false fun q => hc51_28 (Value.ref.inj q)) (by decide) (by decide) ?_
            show Steps p.tables e below (T26.setTop (mkF m 67 #[.val (.int p1), .val (.int (p1 &&& (3 : Int32))), .val (.ref (res1 ((p1 &&& (3 : Int32)).toInt8.toInt32) w_INSERT w_UPDATE_BEFORE w_UPDATE_AFTER w_DELETE)), .val (.ref w_DELETE)] [])) _
            refine XS.iconst X26.here hx rfl (hb hby at_67) ?_
            show Steps p.tables e below (T26.setTop (mkF m 68 #[.val (.int p1), .val (.int (p1 &&& (3 : Int32))), .val (.ref (res1 ((p1 &&& (3 : Int32)).toInt8.toInt32) w_INSERT w_UPDATE_BEFORE w_UPDATE_AFTER w_DELETE)), .val (.ref w_DELETE)] [(.int (0 : Int32))])) _
            exact retN X26 hx (t := .boolean) Bd.returns (by simp) (hb hby at_68) hr
          · show Q0 Z p1 w__VALUES kV w_INSERT w_UPDATE_BEFORE w_UPDATE_AFTER w_DELETE h0 n0 _ T26.heap _
            rw [e26]
            exact ⟨by rw [res0, if_neg hc11_3, if_neg hc23_11, if_neg hc35_19, if_neg hc51_28], N1⟩
theorem own_fin (p1 : Int32) (w_INSERT w_UPDATE_BEFORE w_UPDATE_AFTER w_DELETE : Addr) : (res0 p1 w_INSERT w_UPDATE_BEFORE w_UPDATE_AFTER w_DELETE) = 1 := by
  have e3 := own_r3 p1
  unfold res0 
  rw [own_b3]
  generalize (p1 &&& (3 : Int32)) = i at e3
  rcases e3 with rfl | rfl | rfl | rfl <;> simp [res1] <;> decide
set_option maxRecDepth 65536 in
set_option maxHeartbeats 40000000 in
theorem comes_1 {Post : Tables → Env → Array Value → State → Outcome → State → Prop} (hpost : ∀ tb e args s v u, (limb_1_1.after args s (.returned v) u = true ∧ limb_1_2.after args s (.returned v) u = true ∧ True) → FrameEnd s (.returned v) u (Jvm.fieldLocs frame_1_writes args s ++ Jvm.arrayLocs frame_1_arrays args s ++ Jvm.staticLocs frame_1_statics s) 16 128 → Post tb e args s (.returned v) u) :
    ArmFor flags0 classFile x code maxLocals ret World_1 tables_1 room_1 Calls_1 rest_1 Pre_1 Post := by
  intro l hfl _ _ p e ha hc hk s m args below hf hA hF happ hP
  obtain ⟨hcalls, hrest, hpre⟩ := hP
  obtain ⟨-, -, -, hnamed, -, -, -, hat⟩ := (Spec.applies_iff hf).mp happ
  obtain ⟨hg, hn⟩ := and_e (Cond.before_iff.mp (show (Jvm.Cond.and given_1 narrow_1).before args s = true from hpre))
  obtain ⟨ga0, gb0⟩ := and_e hg
  obtain ⟨w0, rfl⟩ : ∃ w0 : Value, args = #[w0] := by
    have hs : args.size = 1 := by simpa [Cond.value, given_1] using ga0
    obtain ⟨L⟩ := args
    match L, hs with
    | [w0], _ => exact ⟨w0, rfl⟩
  have hw := fun d (hd : d ∈ tables_1) => atoms_spec (ws := Jvm.Cond.code x code maxLocals ret :: tables_1) hat d (List.mem_cons_of_mem _ hd)
  have hfit : Fit s := fun {y c} hc i hi => by
    obtain ⟨ha, rfl⟩ := Array.getElem?_eq_some_iff.mp hc
    have q := List.all_eq_true.mp ((Array.all_eq_true_iff_forall_mem.mp hF) _ (Array.getElem_mem ha)) i (List.mem_range.mpr hi)
    simpa [Array.getElem?_eq_getElem hi] using q
  obtain ⟨i0, ei0⟩ := is_v gb0
  obtain rfl : w0 = (.int i0) := Option.some.inj ei0
  obtain ⟨na1, nb1⟩ := and_e hn
  obtain ⟨na2, nb2⟩ := and_e nb1
  obtain ⟨na3, nb3⟩ := and_e nb2
  obtain ⟨na4, nb4⟩ := and_e nb3
  obtain ⟨na5, nb5⟩ := and_e nb4
  obtain ⟨na6, nb6⟩ := and_e nb5
  obtain ⟨na7, nb7⟩ := and_e nb6
  obtain ⟨na8, nb8⟩ := and_e nb7
  obtain ⟨na9, nb9⟩ := and_e nb8
  obtain ⟨na10, nb10⟩ := and_e nb9
  obtain ⟨na11, nb11⟩ := and_e nb10
  obtain ⟨na12, nb12⟩ := and_e nb11
  obtain ⟨na13, nb13⟩ := and_e nb12
  obtain ⟨na14, nb14⟩ := and_e nb13
  obtain ⟨w__VALUES, ev__VALUES⟩ := arr_v na1
  have S__VALUES := Sta.start ev__VALUES (Or.inl (hw _ (List.mem_of_getElem? (i := 20) rfl)))
  obtain ⟨cl__VALUES, A__VALUES⟩ := Arr.start ev__VALUES na1
  have E_w__VALUES := Exa.start ev__VALUES na2
  have L__VALUES := own_len ev__VALUES A__VALUES (own_eqv (Or.inl ⟨_, rfl⟩) (Term.int_eval _) na3)
  obtain ⟨w_INSERT, ev_INSERT⟩ := exa_v na4
  have S_INSERT := Sta.start ev_INSERT (Or.inr ⟨(hw _ (List.mem_of_getElem? (i := 2) rfl)), (hw _ (List.mem_of_getElem? (i := 16) rfl))⟩)
  have E_w_INSERT := Exa.start ev_INSERT na4
  have el__VALUES_0 := (elem_in (own_eqv (Or.inr ⟨_, rfl⟩) ev_INSERT na5) ev__VALUES (Term.int_eval _) A__VALUES.1).2
  obtain ⟨w_UPDATE_BEFORE, ev_UPDATE_BEFORE⟩ := exa_v na6
  have S_UPDATE_BEFORE := Sta.start ev_UPDATE_BEFORE (Or.inr ⟨(hw _ (List.mem_of_getElem? (i := 2) rfl)), (hw _ (List.mem_of_getElem? (i := 17) rfl))⟩)
  have E_w_UPDATE_BEFORE := Exa.start ev_UPDATE_BEFORE na6
  have el__VALUES_1 := (elem_in (own_eqv (Or.inr ⟨_, rfl⟩) ev_UPDATE_BEFORE na7) ev__VALUES (Term.int_eval _) A__VALUES.1).2
  obtain ⟨w_UPDATE_AFTER, ev_UPDATE_AFTER⟩ := exa_v na8
  have S_UPDATE_AFTER := Sta.start ev_UPDATE_AFTER (Or.inr ⟨(hw _ (List.mem_of_getElem? (i := 2) rfl)), (hw _ (List.mem_of_getElem? (i := 18) rfl))⟩)
  have E_w_UPDATE_AFTER := Exa.start ev_UPDATE_AFTER na8
  have el__VALUES_2 := (elem_in (own_eqv (Or.inr ⟨_, rfl⟩) ev_UPDATE_AFTER na9) ev__VALUES (Term.int_eval _) A__VALUES.1).2
  obtain ⟨w_DELETE, ev_DELETE⟩ := exa_v na10
  have S_DELETE := Sta.start ev_DELETE (Or.inr ⟨(hw _ (List.mem_of_getElem? (i := 2) rfl)), (hw _ (List.mem_of_getElem? (i := 19) rfl))⟩)
  have E_w_DELETE := Exa.start ev_DELETE na10
  have el__VALUES_3 := (elem_in (own_eqv (Or.inr ⟨_, rfl⟩) ev_DELETE na11) ev__VALUES (Term.int_eval _) A__VALUES.1).2
  have F_value_w_INSERT := Fld.start ((fld_at ev_INSERT).symm.trans (own_eqv (Or.inl ⟨_, rfl⟩) (Term.int_eval _) na12))
  have F_value_w_UPDATE_BEFORE := Fld.start ((fld_at ev_UPDATE_BEFORE).symm.trans (own_eqv (Or.inl ⟨_, rfl⟩) (Term.int_eval _) na13))
  have F_value_w_UPDATE_AFTER := Fld.start ((fld_at ev_UPDATE_AFTER).symm.trans (own_eqv (Or.inl ⟨_, rfl⟩) (Term.int_eval _) na14))
  have F_value_w_DELETE := Fld.start ((fld_at ev_DELETE).symm.trans (own_eqv (Or.inl ⟨_, rfl⟩) (Term.int_eval _) nb14))
  have V_w__VALUES : Arv s s.heap w__VALUES cl__VALUES.cls (.object "com/example/tidemark/tidemark/table/RowKind") (4 : Int32) [(.ref w_INSERT), (.ref w_UPDATE_BEFORE), (.ref w_UPDATE_AFTER), (.ref w_DELETE)] .null := Arv.start hfit A__VALUES L__VALUES.1 L__VALUES.2 (by decide) rfl ⟨el__VALUES_0, el__VALUES_1, el__VALUES_2, el__VALUES_3, trivial⟩
  obtain ⟨n, o, h1, h2, h3, _, L, rfl, ⟨rfl, N⟩, hq⟩ := rm0 l s _ hw tables_1 i0 w__VALUES cl__VALUES.cls w_INSERT w_UPDATE_BEFORE w_UPDATE_AFTER w_DELETE s.heap s.heap.size (Nat.le_refl _) S__VALUES E_w__VALUES V_w__VALUES S_INSERT E_w_INSERT S_UPDATE_BEFORE E_w_UPDATE_BEFORE S_UPDATE_AFTER E_w_UPDATE_AFTER S_DELETE E_w_DELETE F_value_w_INSERT F_value_w_UPDATE_BEFORE F_value_w_UPDATE_AFTER F_value_w_DELETE p e ha hc hk s m _ below hf ((Spec.applies_iff_loose hf).mp happ).1 ⟨rfl, State.Warmed39.refl s, rfl⟩ trivial
  have hfin : (res0 i0 w_INSERT w_UPDATE_BEFORE w_UPDATE_AFTER w_DELETE) = (1 : Int32) := own_fin i0 w_INSERT w_UPDATE_BEFORE w_UPDATE_AFTER w_DELETE
  refine ⟨n, _, h1, h2, h3, hpost _ _ _ _ _ _ ⟨Cond.after_iff.mpr rfl, Cond.after_iff.mpr (eq_i res_at (Term.int_eval (1)) (by rw [hfin])), trivial⟩ ⟨hq.1, hq.2.1, (hq.2.2.sift fun y hy => Or.inr (N y hy)).mono (by decide) (by decide)⟩⟩
theorem main_1_1 : Claimed_1_1 := comes_1 fun _ _ _ _ _ _ h hF => ⟨h.1, hF⟩
theorem main_1_2 : Claimed_1_2 := comes_1 fun _ _ _ _ _ _ h hF => ⟨h.2.1, hF⟩
end Jvm.Pilot.@@N@@
namespace Jvm.Pilot.@@N@@
open Jvm Jvm.ClassFile Sem Op Lib Jvm.Free Jvm.Stand Jvm.Pilot.@@N@@.Jvm.D
/-! MADE BY PROGRAM (witnessworld.py) out of the Statement's table words and the real class files: 13 classes; the members and pool entries that the words name. The judged class is class 1, her method 1. -/
namespace start1
open Jvm.ClassFile
def u (s : String) : CpInfo := .utf8 (stringToUtf16 s)
/-- a pool by its gaps: so many unusable entries, then the entry; so many at the end -/
def gap : Nat → List CpInfo → List CpInfo
  | 0, r => r
  | n + 1, r => .unusable :: gap n r
def poolList (es : List (Nat × CpInfo)) (last : Nat) : List CpInfo := es.foldr (fun e r => gap e.1 (e.2 :: r)) (gap last [])
def pool (es : List (Nat × CpInfo)) (last : Nat) : Array CpInfo := ⟨poolList es last⟩
def fileOf (pool : Array CpInfo) (this : Nat) (attrs : Array Attribute := #[]) (ms : Array MethodInfo := #[]) (fl : Nat := 33) (sup : Nat := 0) (ifs : Array Nat := #[]) (fds : Array FieldInfo := #[]) : ClassFile where
  minorVersion := 0
  majorVersion := 65
  constantPool := pool
  accessFlags := fl
  thisClass := this
  superClass := sup
  interfaces := ifs
  fields := fds
  methods := ms
  attributes := attrs
def plain (name : String) (sup : Option ClassId) : Class where
  name := name
  kind := .ordinary
  loader := none
  accessFlags := 33
  super := sup
  interfaces := #[]
  cf := none
  fields := #[]
  methods := #[]
  instanceTypes := #[]
  staticTypes := #[]
  resolved := #[]
  callSites := []
  init := .initialized
  statics := none
  mirror := none

def pool0 : Array CpInfo := pool [(5, u "<init>"), (0, u "()V"), (1, .class_ 10), (1, u "java/lang/Object"), (85, u "clone"), (0, u "()Ljava/lang/Object;")] 26

def k0m0 : Method := { name := "<init>", desc := "()V", sig := { parameters := [], returnType := none }, accessFlags := 1, code := none }
def k0m1 : Method := { name := "clone", desc := "()Ljava/lang/Object;", sig := { parameters := [], returnType := some (.object "java/lang/Object") }, accessFlags := 260, code := none }
/-- java/lang/Object -/
def k0 : Class := { plain "java/lang/Object" none with
  accessFlags := 33
  interfaces := #[]
  cf := some (fileOf pool0 8 #[] #[{ accessFlags := 1, nameIndex := 5, descriptorIndex := 6, attributes := #[] }, { accessFlags := 260, nameIndex := 96, descriptorIndex := 97, attributes := #[] }] 33 0 #[] #[])
  fields := #[]
  methods := #[k0m0, k0m1]
  instanceTypes := #[]
  staticTypes := #[]
  resolved := Array.replicate 124 none
  statics := none }

def pool1 : Array CpInfo := pool [(2, .class_ 4), (1, u "java/lang/Object"), (0, u "<init>"), (0, u "()V"), (0, .methodref 8 9), (0, .class_ 10), (0, .nameAndType 11 12), (0, u "com/example/tidemark/tidemark/table/RowKind"), (0, u "fromValue"), (0, u "(B)Lcom/example/tidemark/tidemark/table/RowKind;"), (0, .fieldref 8 14), (0, .nameAndType 15 16), (0, u "INSERT"), (0, u "Lcom/example/tidemark/tidemark/table/RowKind;"), (0, .fieldref 8 18), (0, .nameAndType 19 16), (0, u "UPDATE_BEFORE"), (0, .fieldref 8 21), (0, .nameAndType 22 16), (0, u "UPDATE_AFTER"), (0, .fieldref 8 24), (0, .nameAndType 25 16), (0, u "DELETE"), (0, .methodref 8 27), (0, .nameAndType 28 29), (0, u "value"), (0, u "()B"), (0, .class_ 31), (0, u "com/example/tidemark/tidemark/table/RowKindFromValuePinLaw"), (2, u "law"), (0, u "(I)Z")] 3

def k1m0 : Method := { name := "<init>", desc := "()V", sig := { parameters := [], returnType := none }, accessFlags := 1, code := none }
def k1c1 : Code := { maxStack := 2, maxLocals := 4, code := code, exceptionTable := #[], attributes := #[] }
def k1m1 : Method := { name := "law", desc := "(I)Z", sig := { parameters := [.int], returnType := some .boolean }, accessFlags := 9, code := some k1c1 }
/-- com/example/tidemark/tidemark/table/RowKindFromValuePinLaw -/
def k1 : Class := { plain "com/example/tidemark/tidemark/table/RowKindFromValuePinLaw" (some 0) with
  accessFlags := 49
  interfaces := #[]
  cf := some (fileOf pool1 30 #[] #[{ accessFlags := 1, nameIndex := 5, descriptorIndex := 6, attributes := #[] }, { accessFlags := 9, nameIndex := 34, descriptorIndex := 35, attributes := #[] }] 49 2 #[] #[])
  fields := #[]
  methods := #[k1m0, k1m1]
  instanceTypes := #[]
  staticTypes := #[]
  resolved := Array.replicate 39 none
  statics := none }

def pool2 : Array CpInfo := pool [(1, .class_ 2), (0, u "java/lang/constant/Constable"), (0, .class_ 4), (0, u "java/lang/Object")] 6

/-- java/lang/constant/Constable -/
def k2 : Class := { plain "java/lang/constant/Constable" (some 0) with
  accessFlags := 1537
  interfaces := #[]
  cf := some (fileOf pool2 1 #[] #[] 1537 3 #[] #[])
  fields := #[]
  methods := #[]
  instanceTypes := #[]
  staticTypes := #[]
  resolved := Array.replicate 11 none
  statics := none }

def pool3 : Array CpInfo := pool [(1, .class_ 2), (0, u "java/lang/Comparable"), (0, .class_ 4), (0, u "java/lang/Object")] 7

/-- java/lang/Comparable -/
def k3 : Class := { plain "java/lang/Comparable" (some 0) with
  accessFlags := 1537
  interfaces := #[]
  cf := some (fileOf pool3 1 #[] #[] 1537 3 #[] #[])
  fields := #[]
  methods := #[]
  instanceTypes := #[]
  staticTypes := #[]
  resolved := Array.replicate 12 none
  statics := none }

def pool4 : Array CpInfo := pool [(1, .class_ 2), (0, u "java/io/Serializable"), (0, .class_ 4), (0, u "java/lang/Object")] 2

/-- java/io/Serializable -/
def k4 : Class := { plain "java/io/Serializable" (some 0) with
  accessFlags := 1537
  interfaces := #[]
  cf := some (fileOf pool4 1 #[] #[] 1537 3 #[] #[])
  fields := #[]
  methods := #[]
  instanceTypes := #[]
  staticTypes := #[]
  resolved := Array.replicate 7 none
  statics := none }

def pool5 : Array CpInfo := pool [(2, .class_ 4), (1, u "java/lang/Enum"), (0, u "name"), (0, u "Ljava/lang/String;"), (2, u "ordinal"), (0, u "I"), (1, .class_ 14), (1, u "java/lang/Object"), (4, u "hash"), (86, .class_ 108), (1, u "java/lang/Enum$EnumDesc"), (2, .class_ 112), (0, u "java/lang/constant/Constable"), (0, .class_ 114), (0, u "java/lang/Comparable"), (0, .class_ 116), (0, u "java/io/Serializable")] 87

/-- java/lang/Enum -/
def k5 : Class := { plain "java/lang/Enum" (some 0) with
  accessFlags := 1057
  interfaces := #[2, 3, 4]
  cf := some (fileOf pool5 2 #[.nestMembers #[106]] #[] 1057 12 #[111, 113, 115] #[{ accessFlags := 18, nameIndex := 5, descriptorIndex := 6, attributes := #[] }, { accessFlags := 18, nameIndex := 9, descriptorIndex := 10, attributes := #[] }, { accessFlags := 2, nameIndex := 19, descriptorIndex := 10, attributes := #[] }])
  fields := #[{ name := "name", type := (.object "java/lang/String"), accessFlags := 18, slot := 0, constantValue := 0 }, { name := "ordinal", type := .int, accessFlags := 18, slot := 1, constantValue := 0 }, { name := "hash", type := .int, accessFlags := 2, slot := 2, constantValue := 0 }]
  methods := #[]
  instanceTypes := #[(.object "java/lang/String"), .int, .int]
  staticTypes := #[]
  resolved := Array.replicate 204 none
  statics := none }

def pool6 : Array CpInfo := pool [(1, .class_ 2), (0, u "com/example/tidemark/tidemark/table/RowKind"), (2, u "INSERT"), (0, u "Lcom/example/tidemark/tidemark/table/RowKind;"), (2, u "UPDATE_BEFORE"), (2, u "UPDATE_AFTER"), (2, u "DELETE"), (0, .fieldref 1 17), (0, .nameAndType 18 19), (0, u "$VALUES"), (0, u "[Lcom/example/tidemark/tidemark/table/RowKind;"), (0, .methodref 21 22), (0, .class_ 19), (0, .nameAndType 23 24), (0, u "clone"), (0, u "()Ljava/lang/Object;"), (1, .class_ 28), (1, u "java/lang/Enum"), (8, u "shortName"), (0, u "Ljava/lang/String;"), (0, .fieldref 1 40), (0, .nameAndType 41 42), (0, u "value"), (0, u "B"), (0, .methodref 1 44), (0, .nameAndType 45 46), (0, u "values"), (0, u "()[Lcom/example/tidemark/tidemark/table/RowKind;"), (43, u "fromValue"), (0, u "(B)Lcom/example/tidemark/tidemark/table/RowKind;"), (1, u "()B")] 24

def k6c0 : Code := { maxStack := 1, maxLocals := 0, code := prog_28_method_1_code, exceptionTable := #[], attributes := #[] }
def k6m0 : Method := { name := "values", desc := "()[Lcom/example/tidemark/tidemark/table/RowKind;", sig := { parameters := [], returnType := some (.array (.object "com/example/tidemark/tidemark/table/RowKind")) }, accessFlags := 9, code := some k6c0 }
def k6c1 : Code := { maxStack := 3, maxLocals := 5, code := prog_28_method_5_code, exceptionTable := #[], attributes := #[] }
def k6m1 : Method := { name := "fromValue", desc := "(B)Lcom/example/tidemark/tidemark/table/RowKind;", sig := { parameters := [.byte], returnType := some (.object "com/example/tidemark/tidemark/table/RowKind") }, accessFlags := 8, code := some k6c1 }
def k6c2 : Code := { maxStack := 1, maxLocals := 1, code := prog_28_method_7_code, exceptionTable := #[], attributes := #[] }
def k6m2 : Method := { name := "value", desc := "()B", sig := { parameters := [], returnType := some .byte }, accessFlags := 0, code := some k6c2 }
/-- com/example/tidemark/tidemark/table/RowKind -/
def k6 : Class := { plain "com/example/tidemark/tidemark/table/RowKind" (some 5) with
  accessFlags := 16433
  interfaces := #[]
  cf := some (fileOf pool6 1 #[] #[{ accessFlags := 9, nameIndex := 45, descriptorIndex := 46, attributes := #[] }, { accessFlags := 8, nameIndex := 90, descriptorIndex := 91, attributes := #[] }, { accessFlags := 0, nameIndex := 41, descriptorIndex := 93, attributes := #[] }] 16433 26 #[] #[{ accessFlags := 16409, nameIndex := 5, descriptorIndex := 6, attributes := #[] }, { accessFlags := 16409, nameIndex := 9, descriptorIndex := 6, attributes := #[] }, { accessFlags := 16409, nameIndex := 12, descriptorIndex := 6, attributes := #[] }, { accessFlags := 16409, nameIndex := 15, descriptorIndex := 6, attributes := #[] }, { accessFlags := 18, nameIndex := 37, descriptorIndex := 38, attributes := #[] }, { accessFlags := 18, nameIndex := 41, descriptorIndex := 42, attributes := #[] }, { accessFlags := 4122, nameIndex := 18, descriptorIndex := 19, attributes := #[] }])
  fields := #[{ name := "INSERT", type := (.object "com/example/tidemark/tidemark/table/RowKind"), accessFlags := 16409, slot := 0, constantValue := 0 }, { name := "UPDATE_BEFORE", type := (.object "com/example/tidemark/tidemark/table/RowKind"), accessFlags := 16409, slot := 1, constantValue := 0 }, { name := "UPDATE_AFTER", type := (.object "com/example/tidemark/tidemark/table/RowKind"), accessFlags := 16409, slot := 2, constantValue := 0 }, { name := "DELETE", type := (.object "com/example/tidemark/tidemark/table/RowKind"), accessFlags := 16409, slot := 3, constantValue := 0 }, { name := "shortName", type := (.object "java/lang/String"), accessFlags := 18, slot := 3, constantValue := 0 }, { name := "value", type := .byte, accessFlags := 18, slot := 4, constantValue := 0 }, { name := "$VALUES", type := (.array (.object "com/example/tidemark/tidemark/table/RowKind")), accessFlags := 4122, slot := 4, constantValue := 0 }]
  methods := #[k6m0, k6m1, k6m2]
  instanceTypes := #[(.object "java/lang/String"), .int, .int, (.object "java/lang/String"), .byte]
  staticTypes := #[(.object "com/example/tidemark/tidemark/table/RowKind"), (.object "com/example/tidemark/tidemark/table/RowKind"), (.object "com/example/tidemark/tidemark/table/RowKind"), (.object "com/example/tidemark/tidemark/table/RowKind"), (.array (.object "com/example/tidemark/tidemark/table/RowKind"))]
  resolved := Array.replicate 118 none
  statics := some 0 }

def pool7 : Array CpInfo := pool [(1, .class_ 2), (0, u "java/lang/Cloneable"), (0, .class_ 4), (0, u "java/lang/Object")] 2

/-- java/lang/Cloneable -/
def k7 : Class := { plain "java/lang/Cloneable" (some 0) with
  accessFlags := 1537
  interfaces := #[]
  cf := some (fileOf pool7 1 #[] #[] 1537 3 #[] #[])
  fields := #[]
  methods := #[]
  instanceTypes := #[]
  staticTypes := #[]
  resolved := Array.replicate 7 none
  statics := none }

/-- the primitive byte -/
def k8 : Class := { plain "byte" none with kind := .primitive 'B', accessFlags := 0x411 }
/-- [B -/
def k9 : Class := { plain "[B" (some 0) with kind := .array 8 .byte, interfaces := #[7, 4], accessFlags := 1041 }

/-- the primitive int -/
def k10 : Class := { plain "int" none with kind := .primitive 'I', accessFlags := 0x411 }
/-- [I -/
def k11 : Class := { plain "[I" (some 0) with kind := .array 10 .int, interfaces := #[7, 4], accessFlags := 1041 }

/-- [Lcom/example/tidemark/tidemark/table/RowKind; -/
def k12 : Class := { plain "[Lcom/example/tidemark/tidemark/table/RowKind;" (some 0) with kind := .array 6 (.object "com/example/tidemark/tidemark/table/RowKind"), interfaces := #[7, 4], accessFlags := 1041 }

def heap : Heap := #[{ cls := 6, slots := #[.ref 2, .ref 3, .ref 4, .ref 5, .ref 1], vm := .statics 6 },
  { cls := 12, slots := #[.ref 2, .ref 3, .ref 4, .ref 5], vm := .none },
  { cls := 6, slots := #[.null, .int 0, .int 0, .null, .int 0], vm := .none },
  { cls := 6, slots := #[.null, .int 1, .int 0, .null, .int 1], vm := .none },
  { cls := 6, slots := #[.null, .int 2, .int 0, .null, .int 2], vm := .none },
  { cls := 6, slots := #[.null, .int 3, .int 0, .null, .int 3], vm := .none }]
def classes : Array Class := #[k0, k1, k2, k3, k4, k5, k6, k7, k8, k9, k10, k11, k12]
def interned : List (Array UInt16 × Addr) := []
def slotsUsed : Nat := 29
def theMethod : MethodId := ⟨1, 1⟩
def args0 : Array Value := #[.int 2]
def aboutOver (below : List Frame) : State where
  vm := { classes := classes, interned := interned.toArray }
  heap := heap
  slotsUsed := slotsUsed
  threads := #[{ frames := .invoking theMethod args0 :: below }]
def below0 : List Frame := [.native { method := ⟨0, 0⟩, args := #[] }]
def about1 : State := aboutOver below0
def p0 : Program := .bare "" "" ""
def e0 : Env := launch0.env 0 0 0
theorem w_frames : about1.frames = Frame.invoking theMethod args0 :: below0 := rfl
set_option maxRecDepth 65536 in
theorem w_args : argsFit about1.vm theMethod args0 = true := by decide +kernel
set_option maxRecDepth 65536 in
theorem w_heap : heapFits about1 = true := by decide +kernel
set_option maxRecDepth 65536 in
theorem w_runnable : about1.curStatus? = some .runnable := by decide +kernel
set_option maxRecDepth 65536 in
theorem w_alone : about1.alone = true := by decide +kernel
set_option maxRecDepth 65536 in
theorem w_named : about1.methodNamed? x = some theMethod := by decide +kernel
set_option maxRecDepth 65536 in
theorem w_hears : about1.hears theMethod below0 = true := by decide +kernel
set_option maxRecDepth 65536 in
theorem w_ripe : about1.ripe theMethod args0 below0 = true := by decide +kernel
theorem w_running : about1.status = .running := rfl
set_option maxRecDepth 65536 in
theorem w_room : about1.hasRoom e0.platform room_1 = true :=
  launch0.hasRoom_least _ room_1 (by decide +kernel) (by decide +kernel) (by decide +kernel) (by decide +kernel) (by decide +kernel) (by decide +kernel)
theorem allAtoms_all (ts : List Jvm.Cond) (a : Array Jvm.Value) (st : Jvm.State) : (allAtoms ts).before a st = ts.all (fun c => c.before a st) := by
  induction ts with
  | nil => rfl
  | cons c t ih =>
    show (Jvm.Cond.and c (allAtoms t)).before a st = _
    rw [Jvm.Cond.before_and, ih, List.all_cons]
def words1 : List Jvm.Cond := Jvm.Cond.code x code maxLocals ret :: tables_1
/-- a 'code' word, met by the world's own term for the bytes: nothing is compared byte by byte -/
theorem code_word {y : MethodName} {bytes : ByteArray} {mx : Nat} {rt : Option FieldType} {a : Array Value} {s : State} {m : MethodId} {meth : Method} {c : Code} (h1 : s.methodNamed? y = some m) (h2 : s.vm.method? m = some meth) (h3 : meth.code = some c) (h4 : c.code = bytes)
    (h5 : (c.maxLocals == mx && c.exceptionTable.isEmpty && decide (c.maxStack ≤ mostOperands) && decide (meth.sig.returnType = rt) && !meth.locks && decide (parseMethodDescriptor y.desc = some meth.sig)) = true) : (Jvm.Cond.code y bytes mx rt).before a s = true := by
  simp only [Bool.and_eq_true, beq_iff_eq, Bool.not_eq_true', decide_eq_true_eq] at h5
  obtain ⟨⟨⟨⟨⟨g1, g2⟩, g3⟩, g4⟩, g5⟩, g6⟩ := h5
  simp [Cond.before, Cond.holds, Cond.value, h1, h2, h3, h4, g1, g2, g3, g4, g5, g6]
def isCode : Jvm.Cond → Bool
  | .code _ _ _ _ => true
  | _ => false
theorem all_split {L : List Jvm.Cond} {P : Jvm.Cond → Bool} (h1 : L.all (fun c => isCode c || P c) = true) (h2 : ∀ c ∈ L.filter isCode, P c = true) : L.all P = true := by
  refine List.all_eq_true.mpr fun c hc => ?_
  have h := List.all_eq_true.mp h1 c hc
  rcases Bool.eq_false_or_eq_true (isCode c) with hi | hi
  · exact h2 c (List.mem_filter.mpr ⟨hc, hi⟩)
  · simpa [hi] using h
set_option maxRecDepth 65536 in
theorem w_c0 : (Jvm.Cond.code x code maxLocals ret).before args0 about1 = true := code_word (m := ⟨1, 1⟩) (meth := k1m1) (c := k1c1) (by decide +kernel) rfl rfl rfl (by decide +kernel)
set_option maxRecDepth 65536 in
theorem w_c1 : (Jvm.Cond.code ({ cls := "com/example/tidemark/tidemark/table/RowKind", name := "fromValue", desc := "(B)Lcom/example/tidemark/tidemark/table/RowKind;" } : Jvm.MethodName) prog_28_method_5_code (5 : Nat) (Option.some (Jvm.ClassFile.FieldType.object "com/example/tidemark/tidemark/table/RowKind"))).before args0 about1 = true := code_word (m := ⟨6, 1⟩) (meth := k6m1) (c := k6c1) (by decide +kernel) rfl rfl rfl (by decide +kernel)
set_option maxRecDepth 65536 in
theorem w_c2 : (Jvm.Cond.code ({ cls := "com/example/tidemark/tidemark/table/RowKind", name := "values", desc := "()[Lcom/example/tidemark/tidemark/table/RowKind;" } : Jvm.MethodName) prog_28_method_1_code (0 : Nat) (Option.some (Jvm.ClassFile.FieldType.array (Jvm.ClassFile.FieldType.object "com/example/tidemark/tidemark/table/RowKind")))).before args0 about1 = true := code_word (m := ⟨6, 0⟩) (meth := k6m0) (c := k6c0) (by decide +kernel) rfl rfl rfl (by decide +kernel)
set_option maxRecDepth 65536 in
theorem w_c3 : (Jvm.Cond.code ({ cls := "com/example/tidemark/tidemark/table/RowKind", name := "value", desc := "()B" } : Jvm.MethodName) prog_28_method_7_code (1 : Nat) (Option.some Jvm.ClassFile.FieldType.byte)).before args0 about1 = true := code_word (m := ⟨6, 2⟩) (meth := k6m2) (c := k6c2) (by decide +kernel) rfl rfl rfl (by decide +kernel)
def codes1 : List Jvm.Cond := [Jvm.Cond.code x code maxLocals ret, Jvm.Cond.code ({ cls := "com/example/tidemark/tidemark/table/RowKind", name := "fromValue", desc := "(B)Lcom/example/tidemark/tidemark/table/RowKind;" } : Jvm.MethodName) prog_28_method_5_code (5 : Nat) (Option.some (Jvm.ClassFile.FieldType.object "com/example/tidemark/tidemark/table/RowKind")), Jvm.Cond.code ({ cls := "com/example/tidemark/tidemark/table/RowKind", name := "values", desc := "()[Lcom/example/tidemark/tidemark/table/RowKind;" } : Jvm.MethodName) prog_28_method_1_code (0 : Nat) (Option.some (Jvm.ClassFile.FieldType.array (Jvm.ClassFile.FieldType.object "com/example/tidemark/tidemark/table/RowKind"))), Jvm.Cond.code ({ cls := "com/example/tidemark/tidemark/table/RowKind", name := "value", desc := "()B" } : Jvm.MethodName) prog_28_method_7_code (1 : Nat) (Option.some Jvm.ClassFile.FieldType.byte)]
set_option maxRecDepth 65536 in
theorem codes_eq : words1.filter isCode = codes1 := rfl
theorem w_codes : ∀ c ∈ words1.filter isCode, c.before args0 about1 = true := by
  rw [codes_eq]
  intro c hc
  simp only [codes1, List.mem_cons, List.not_mem_nil, or_false] at hc
  rcases hc with rfl | rfl | rfl | rfl
  · exact w_c0
  · exact w_c1
  · exact w_c2
  · exact w_c3
set_option maxRecDepth 65536 in
theorem w_t1 : (words1.take 24).all (fun c => isCode c || c.before args0 about1) = true := by decide +kernel
set_option maxRecDepth 65536 in
theorem w_t2 : (words1.drop 24).all (fun c => isCode c || c.before args0 about1) = true := by decide +kernel
theorem w_tables : (allAtoms (Jvm.Cond.code x code maxLocals ret :: tables_1)).before args0 about1 = true := by
  rw [allAtoms_all]
  show words1.all (fun c => c.before args0 about1) = true
  refine all_split ?_ w_codes
  rw [← List.take_append_drop 24 words1, List.all_append, w_t1, w_t2]
  rfl
set_option maxRecDepth 65536 in
theorem w_case : (Jvm.Cond.and given_1 narrow_1).before args0 about1 = true := by decide +kernel
theorem w_applies : (headSpec (Jvm.Cond.code x code maxLocals ret :: tables_1) room_1).applies x e0.platform about1 = true :=
  (Spec.applies_iff w_frames).mpr ⟨w_running, w_runnable, w_alone, w_named, w_hears, w_ripe, w_room, w_tables⟩
theorem atStart : AtStart classFile x code maxLocals ret World_1 tables_1 room_1 Calls_1 rest_1 Pre_1 launch0 p0 e0 about1 theMethod args0 below0 :=
  ⟨lists_1, trivial, launch0.admits_env _ _ _, launch0.least_env, fairChoices_fair.cas, fairChoices_fair.clock, w_frames, w_args, w_heap, w_applies, trivial, trivial, w_case⟩
end start1
theorem witness_1 : WitnessClaimed_1 := ⟨start1.p0, start1.e0, start1.about1, start1.theMethod, start1.args0, start1.below0, start1.atStart⟩
end Jvm.Pilot.@@N@@
