import JvmDerived
import JvmDerived.Pilot.@@N@@Statement
import JvmDerived.Pilot.@@N@@Code
set_option linter.unusedVariables false
set_option linter.unusedSimpArgs false
namespace Jvm.RoadKit
open Sem ClassFile Op Lib Jvm.Stand Jvm.Free Jvm.LawKit
section New
variable {p : Program} {l : Launch} {e : Env} {R : Room} {s : State} {m : MethodId} {args : Array Value} {below : List Frame} {meth : Method} {c : Code} {T : State} {locs : List Loc} {cells slots : Nat}
theorem retI (X : Stand p l e R s m args below meth c T locs cells slots) (hx : p.tables.exec = Jvm.exec) {pc : Nat} {Ls : Array Slot} {z : Int32} {rest : List Value} (hret : meth.sig.returnType = some .int) (hd : decode c.code pc = .ok (.ireturn, 1)) {fs : List Frame}
    (hl : ∀ (f : JFrame) (acts : List Action), f.method = m → f.locked = none → f.entered = [] → (doReturn e (T.setTop f) acts (some (.int z))).1 = T.setFrames fs) : Steps p.tables e below (T.setTop (mkF m pc Ls (.int z :: rest))) (T.setFrames fs) := by
  have hm' : T.vm.method? m = some meth := X.method'
  have hn : narrow .int (.int z) = .int z := rfl
  show Steps p.tables e below (T.setTop { method := m, pc := pc, locals := Ls, stack := _ :: rest, locked := none }) _
  jvm_step X.here [X.here.top, hx, hd, hm', hret, hn]
  first | (intro acts; rw [hl _ acts rfl rfl rfl]) | rw [hl _ _ rfl rfl rfl]
  exact Steps.refl _
end New
theorem own_sta_keep {Z : State} {h h' : Heap} {C n d : String} {w : Value} {ws : List Addr} (F : Sta Z h C n d w) (K : Keep h h' ws) (q : ∀ x ∈ ws, ∃ c : Cell, h[x]? = some c ∧ c.vm.isStatics = false) : Sta Z h' C n d w := by
  obtain ⟨cf, i, k, f, st, cell, h1, h2, h3, h4, h5, h6, h7⟩ := F
  refine ⟨cf, i, k, f, st, cell, h1, h2, h3, h4, K.2.1 st cell h5 (fun hm => ?_), h6, h7⟩
  obtain ⟨c, g1, g2⟩ := q st hm
  cases h5.symm.trans g1
  rw [h6] at g2; cases g2
theorem own_exa_ns {Z : State} {h : Heap} {a : Addr} {C : String} (F : Exa Z h a C) : ∃ c : Cell, h[a]? = some c ∧ c.vm.isStatics = false := by
  obtain ⟨cell, k, h1, -, -, h4, -⟩ := F
  exact ⟨cell, h1, h4⟩
theorem own_arv_ns {Z : State} {h : Heap} {a : Addr} {k : ClassId} {ty : FieldType} {z : Int32} {vs : List Value} {d : Value} (F : Arv Z h a k ty z vs d) : ∃ c : Cell, h[a]? = some c ∧ c.vm.isStatics = false := by
  obtain ⟨cell, A, -⟩ := F
  exact ⟨cell, A.1, A.plain⟩
theorem own_arv {Z : State} {h : Heap} {a : Addr} {k : ClassId} {ty : FieldType} {z : Int32} {vs : List Value} {d : Value} (F : Arh Z h a k ty z [] vs d) : Arv Z h a k ty z vs d := F
theorem own_eqv {Z : State} {args : Array Value} {t u : Term} {v : Value} (hv : (∃ k, v = .int k) ∨ ∃ a, v = .ref a) (hu : u.eval args Z none [] Z = some v) (h : (Jvm.Cond.eq t u).value args Z none Z [] = some true) : t.eval args Z none [] Z = some v := by
  simp only [Jvm.Cond.value, hu] at h
  cases ht : t.eval args Z none [] Z with
  | none => simp [ht] at h
  | some x => rcases hv with ⟨k, rfl⟩ | ⟨a, rfl⟩ <;> cases x <;> simp [ht] at h ⊢ <;> exact h
theorem own_len {Z : State} {args : Array Value} {t : Term} {a : Addr} {cl : Cell} {ty : FieldType} {z : Int32} (ev : t.eval args Z none [] Z = some (.ref a)) (A : Arr Z Z.heap a cl ty) (h : (Term.length t).eval args Z none [] Z = some (.int z)) : cl.slots.size < 2 ^ 31 ∧ cl.slots.size.toInt32 = z := by
  obtain ⟨a', cell, ha', hat, hv⟩ := Term.length_spec h
  cases ev.symm.trans ha'
  cases A.1.symm.trans (State.arrayAt?_spec hat).1
  cases hv
  refine ⟨?_, rfl⟩
  by_cases q : cl.slots.size < 2 ^ 31
  · exact q
  · exfalso
    simp [Term.eval, ev, hat, q] at h
end Jvm.RoadKit
namespace Jvm.Pilot.@@N@@
open Jvm Jvm.ClassFile Sem Op Lib Jvm.Free Jvm.Stand Jvm.LawKit Jvm.RoadKit Bundle Jvm.Pilot.@@N@@.Jvm.D
theorem d9_0 : decode prog_28_method_1_code 0 = .ok (.getstatic 16, 3) := by decide +kernel
theorem d9_3 : decode prog_28_method_1_code 3 = .ok (.invokevirtual 20, 3) := by decide +kernel
theorem d9_6 : decode prog_28_method_1_code 6 = .ok (.checkcast 21, 3) := by decide +kernel
theorem d9_9 : decode prog_28_method_1_code 9 = .ok (.areturn, 1) := by decide +kernel
theorem pn0 : plainName "com/example/tidemark/tidemark/table/RowKind" = true := by first | (simp [plainName, overriddenIn]; done) | decide +kernel
theorem ef9 (m : MethodId)  : entryFrame m #[] 0 = (mkF m 0 #[] []) := by first | (simp [entryFrame, mkF, argsToLocals, Value.category]; done) | rfl
def Q9 (Z : State) (w__VALUES : Addr) (kV : ClassId) (w_INSERT : Addr) (w_UPDATE_BEFORE : Addr) (w_UPDATE_AFTER : Addr) (w_DELETE : Addr) (h0 : Heap) (n0 : Nat) (v : Option Value) (h : Heap) (L : List Loc) : Prop := ∃ (b2 : Addr), v = some (.ref b2) ∧ Fr n0 L ∧ Keep h0 h [] ∧ h0.size ≤ b2 ∧ Arv Z h b2 kV (.object "com/example/tidemark/tidemark/table/RowKind") (4 : Int32) [(.ref w_INSERT), (.ref w_UPDATE_BEFORE), (.ref w_UPDATE_AFTER), (.ref w_DELETE)] .null ∧ Exa Z h b2 "[Lcom/example/tidemark/tidemark/table/RowKind;"
set_option maxRecDepth 65536 in
set_option maxHeartbeats 40000000 in
theorem rm9 (l : Launch) (Z : State) (a0 : Array Value) (hw : ∀ d ∈ tables_1, d.before a0 Z = true) (ws : List Jvm.Cond) (w__VALUES : Addr) (kV : ClassId) (w_INSERT : Addr) (w_UPDATE_BEFORE : Addr) (w_UPDATE_AFTER : Addr) (w_DELETE : Addr) (h0 : Heap) (n0 : Nat) (Z0 : n0 ≤ h0.size) (S__VALUES : Sta Z h0 "com/example/tidemark/tidemark/table/RowKind" "$VALUES" "[Lcom/example/tidemark/tidemark/table/RowKind;" (.ref w__VALUES)) (E_w__VALUES : Exa Z h0 w__VALUES "[Lcom/example/tidemark/tidemark/table/RowKind;") (V_w__VALUES : Arv Z h0 w__VALUES kV (.object "com/example/tidemark/tidemark/table/RowKind") (4 : Int32) [(.ref w_INSERT), (.ref w_UPDATE_BEFORE), (.ref w_UPDATE_AFTER), (.ref w_DELETE)] .null) :
    MetFree l (⟨"com/example/tidemark/tidemark/table/RowKind", "values", "()[Lcom/example/tidemark/tidemark/table/RowKind;"⟩ : MethodName) (head1 (Jvm.Cond.code (⟨"com/example/tidemark/tidemark/table/RowKind", "values", "()[Lcom/example/tidemark/tidemark/table/RowKind;"⟩ : MethodName) prog_28_method_1_code 0 (some (.array (.object "com/example/tidemark/tidemark/table/RowKind"))) :: ws) ({ frames := 1, cells := 1, slots := 4, locals := 14 } : Room)) (fun a U => a = #[] ∧ Z.Warmed39 U.vm ∧ U.heap = h0) (fun _ _ _ _ _ => True) (fun _ U o U' => ∃ v L, o = .returned v ∧ Q9 Z w__VALUES kV w_INSERT w_UPDATE_BEFORE w_UPDATE_AFTER w_DELETE h0 n0 v U'.heap L ∧ FrameEnd U o U' L ({ frames := 1, cells := 1, slots := 4, locals := 14 } : Room).cells ({ frames := 1, cells := 1, slots := 4, locals := 14 } : Room).slots) := by
  refine MetFree.of_bodySF (plainFor_of_name pn0) hisR ?_
  intro p e s m args below meth c s₁ Bd hml0 hP hK
  obtain ⟨rfl, hZ, hh⟩ := hP
  have hx := Bd.exec
  have hby := Bd.bytes
  have hml : c.maxLocals = 0 := hml0
  have hown : s.vm.findClass "com/example/tidemark/tidemark/table/RowKind" = some m.cls := findClass_of_methodNamed Bd.named
  have hnm := (name_of_methodNamed Bd.named Bd.method).1
  have X0 : Stand p l e ({ frames := 1, cells := 1, slots := 4, locals := 14 } : Room) s m #[] below meth c s₁ [] 0 0 := Stand.of_body Bd
  have e0 : s₁.heap = h0 := by rw [← hh, Bd.state]; rfl
  have N0 := Fr.nil n0
  have pre0 : ∀ t, Steps p.tables e below (s₁.setTop (mkF m 0 #[] [])) t → Steps p.tables e below (s₁.setTop (entryFrame m #[] 0)) t := fun t k => castTop (ef9 m ) k
  obtain ⟨T1, X1, e1, st1⟩ := getS2 X0 hx hZ hown (host := "") (Or.inl (hw _ (List.mem_of_getElem? (i := 43) rfl))) Via.refl e0 S__VALUES (g := (mkF m 0 #[] [])) rfl (hb hby d9_0)
  obtain ⟨T2, h2, X2, e2, E2, A2, B2, st2⟩ := cloneH X1 hx hZ hown (hw _ (List.mem_of_getElem? (i := 45) rfl)) (hw _ (List.mem_of_getElem? (i := 46) rfl)) (hw _ (List.mem_of_getElem? (i := 50) rfl)) (hw _ (List.mem_of_getElem? (i := 48) rfl)) (hw _ (List.mem_of_getElem? (i := 49) rfl)) (hw _ (List.mem_of_getElem? (i := 51) rfl)) e1 (V_w__VALUES).arh E_w__VALUES (g := (mkF m 3 #[] [(.ref w__VALUES)])) rfl (by rw [hml]; rfl) rfl (hb hby d9_3) (by decide) (W := 0) (cap := 4) (by show 2 * 0 + _ ≤ _; exact Nat.le_of_eq rfl) (by decide) (by decide) (by decide) (by decide)
  obtain ⟨b2, g2⟩ : ∃ z, z = h0.size := ⟨_, rfl⟩
  rw [← g2] at A2 B2 st2
  have sz_b2 : h0.size ≤ b2 := Nat.le_trans (Keep.refl h0 []).1 (Nat.le_of_eq g2.symm)
  have g_b2 : n0 ≤ b2 := Nat.le_trans Z0 sz_b2
  have K2 : Keep h0 h2 [] := (Keep.refl h0 []).ext E2
  have V_b2 := own_arv A2
  obtain ⟨T3, X3, e3, st3⟩ := castY X2 hx hZ hown (hw _ (List.mem_of_getElem? (i := 56) rfl)) e2 (Ins.self B2) (g := (mkF m 6 #[] [(.ref b2)])) rfl rfl (hb hby d9_6)
  obtain ⟨fs, hr, hrun, hended, hW, hsame⟩ := X3.leave (v := some (.ref b2)) (fun h => by rw [Bd.returns] at h; cases h)
  refine ⟨_, _, pre0 _ ?_, hrun, hended, _, _, rfl, ?_, ⟨_, rfl⟩, hW, hsame.mono (by decide) (by decide)⟩
  · show Steps p.tables e below (s₁.setTop (mkF m 0 #[] [])) _
    refine st1 _ ?_
    show Steps p.tables e below (T1.setTop (mkF m 3 #[] [(.ref w__VALUES)])) _
    refine st2 _ ?_
    show Steps p.tables e below (T2.setTop (mkF m 6 #[] [(.ref b2)])) _
    refine st3 _ ?_
    show Steps p.tables e below (T3.setTop (mkF m 9 #[] [(.ref b2)])) _
    exact retOut X3 hx Bd.returns rfl (Or.inr (Or.inr (Or.inr (Or.inr ⟨rfl, rfl, rfl⟩)))) (hb hby d9_9) hr
  · show Q9 Z w__VALUES kV w_INSERT w_UPDATE_BEFORE w_UPDATE_AFTER w_DELETE h0 n0 _ T3.heap _
    rw [e3]
    exact ⟨b2, rfl, N0, K2, sz_b2, V_b2, B2⟩
theorem d6_0 : decode jdk_52_method_21_code 0 = .ok (.iconst 0, 1) := by decide +kernel
theorem d6_1 : decode jdk_52_method_21_code 1 = .ok (.istore 5, 2) := by decide +kernel
theorem d6_3 : decode jdk_52_method_21_code 3 = .ok (.iload 5, 2) := by decide +kernel
theorem d6_5 : decode jdk_52_method_21_code 5 = .ok (.iload 4, 2) := by decide +kernel
theorem d6_7 : decode jdk_52_method_21_code 7 = .ok (.if_icmp .ge 37, 3) := by decide +kernel
theorem d6_10 : decode jdk_52_method_21_code 10 = .ok (.aload_n 0, 1) := by decide +kernel
theorem d6_11 : decode jdk_52_method_21_code 11 = .ok (.iload_n 1, 1) := by decide +kernel
theorem d6_12 : decode jdk_52_method_21_code 12 = .ok (.caload, 1) := by decide +kernel
theorem d6_13 : decode jdk_52_method_21_code 13 = .ok (.istore 6, 2) := by decide +kernel
theorem d6_15 : decode jdk_52_method_21_code 15 = .ok (.iload 6, 2) := by decide +kernel
theorem d6_17 : decode jdk_52_method_21_code 17 = .ok (.sipush 255, 3) := by decide +kernel
theorem d6_20 : decode jdk_52_method_21_code 20 = .ok (.if_icmp .le 6, 3) := by decide +kernel
theorem d6_26 : decode jdk_52_method_21_code 26 = .ok (.aload_n 2, 1) := by decide +kernel
theorem d6_27 : decode jdk_52_method_21_code 27 = .ok (.iload_n 3, 1) := by decide +kernel
theorem d6_28 : decode jdk_52_method_21_code 28 = .ok (.iload 6, 2) := by decide +kernel
theorem d6_30 : decode jdk_52_method_21_code 30 = .ok (.i2b, 1) := by decide +kernel
theorem d6_31 : decode jdk_52_method_21_code 31 = .ok (.bastore, 1) := by decide +kernel
theorem d6_32 : decode jdk_52_method_21_code 32 = .ok (.iinc 1 1, 3) := by decide +kernel
theorem d6_35 : decode jdk_52_method_21_code 35 = .ok (.iinc 3 1, 3) := by decide +kernel
theorem d6_38 : decode jdk_52_method_21_code 38 = .ok (.iinc 5 1, 3) := by decide +kernel
theorem d6_41 : decode jdk_52_method_21_code 41 = .ok (.goto (-38), 3) := by decide +kernel
theorem d6_44 : decode jdk_52_method_21_code 44 = .ok (.iload 4, 2) := by decide +kernel
theorem d6_46 : decode jdk_52_method_21_code 46 = .ok (.ireturn, 1) := by decide +kernel
theorem pn1 : plainName "java/lang/StringUTF16" = true := by first | (simp [plainName, overriddenIn]; done) | decide +kernel
theorem ef_cmp5_2 (m : MethodId) (a1 : Addr) (a2 : Addr) : entryFrame m #[(.ref a1), (.int (0 : Int32)), (.ref a2), (.int (0 : Int32)), (.int (2 : Int32))] 7 = (mkF m 0 #[.val (.ref a1), .val (.int (0 : Int32)), .val (.ref a2), .val (.int (0 : Int32)), .val (.int (2 : Int32)), .unset, .unset] []) := by first | (simp [entryFrame, mkF, argsToLocals, Value.category]; done) | rfl
def Q_cmp5_2 (Z : State) (a1 : Addr) (a2 : Addr) (ka : ClassId) (c0 : Int32) (c1 : Int32) (kb : ClassId) (h0 : Heap) (n0 : Nat) (v : Option Value) (h : Heap) (L : List Loc) : Prop := v = some (.int (2 : Int32)) ∧ Fr n0 L ∧ Keep h0 h [a2] ∧ Arv Z h a2 kb .byte (2 : Int32) [(.int (nar .byte (c0.toInt8.toInt32))), (.int (nar .byte (c1.toInt8.toInt32)))] (.int (0 : Int32))
set_option maxRecDepth 65536 in
set_option maxHeartbeats 40000000 in
theorem rm_cmp5_2 (l : Launch) (Z : State) (a0 : Array Value) (hw : ∀ d ∈ tables_1, d.before a0 Z = true) (ws : List Jvm.Cond) (a1 : Addr) (a2 : Addr) (ka : ClassId) (c0 : Int32) (c1 : Int32) (kb : ClassId) (h0 : Heap) (n0 : Nat) (Z0 : n0 ≤ h0.size) (V_a1 : Arv Z h0 a1 ka .char (2 : Int32) [(.int c0), (.int c1)] (.int (0 : Int32))) (V_a2 : Arv Z h0 a2 kb .byte (2 : Int32) [(.int (0 : Int32)), (.int (0 : Int32))] (.int (0 : Int32))) (g_a2 : n0 ≤ a2) (hne_13 : a1 ≠ a2) (hch0 : ¬ ((255 : Int32) < c0)) (hch1 : ¬ ((255 : Int32) < c1)) :
    MetFree l (⟨"java/lang/StringUTF16", "compress", "([CI[BII)I"⟩ : MethodName) (head1 (Jvm.Cond.code (⟨"java/lang/StringUTF16", "compress", "([CI[BII)I"⟩ : MethodName) jdk_52_method_21_code 7 (some .int) :: ws) ({ frames := 0, cells := 0, slots := 0, locals := 0 } : Room)) (fun a U => a = #[(.ref a1), (.int (0 : Int32)), (.ref a2), (.int (0 : Int32)), (.int (2 : Int32))] ∧ Z.Warmed39 U.vm ∧ U.heap = h0) (fun _ _ _ _ _ => True) (fun _ U o U' => ∃ v L, o = .returned v ∧ Q_cmp5_2 Z a1 a2 ka c0 c1 kb h0 n0 v U'.heap L ∧ FrameEnd U o U' L ({ frames := 0, cells := 0, slots := 0, locals := 0 } : Room).cells ({ frames := 0, cells := 0, slots := 0, locals := 0 } : Room).slots) := by
  refine MetFree.of_bodySF (plainFor_of_name pn1) hisR ?_
  intro p e s m args below meth c s₁ Bd hml0 hP hK
  obtain ⟨rfl, hZ, hh⟩ := hP
  have hx := Bd.exec
  have hby := Bd.bytes
  have hml : c.maxLocals = 7 := hml0
  have hown : s.vm.findClass "java/lang/StringUTF16" = some m.cls := findClass_of_methodNamed Bd.named
  have hnm := (name_of_methodNamed Bd.named Bd.method).1
  have X0 : Stand p l e ({ frames := 0, cells := 0, slots := 0, locals := 0 } : Room) s m #[(.ref a1), (.int (0 : Int32)), (.ref a2), (.int (0 : Int32)), (.int (2 : Int32))] below meth c s₁ [] 0 0 := Stand.of_body Bd
  have e0 : s₁.heap = h0 := by rw [← hh, Bd.state]; rfl
  have N0 := Fr.nil n0
  have pre0 : ∀ t, Steps p.tables e below (s₁.setTop (mkF m 0 #[.val (.ref a1), .val (.int (0 : Int32)), .val (.ref a2), .val (.int (0 : Int32)), .val (.int (2 : Int32)), .unset, .unset] [])) t → Steps p.tables e below (s₁.setTop (entryFrame m #[(.ref a1), (.int (0 : Int32)), (.ref a2), (.int (0 : Int32)), (.int (2 : Int32))] 7)) t := fun t k => castTop (ef_cmp5_2 m a1 a2) k
  obtain ⟨cl_a1_12_1, Ar_a1_12_1, q_a1_12_1, S_a1_12_1, N_a1_12_1, H_a1_12_1, G_a1_12_1⟩ := id V_a1
  have hin_a1_12_1 : ¬ ((0 : Int32) < 0 ∨ cl_a1_12_1.slots.size ≤ ((0 : Int32) : Int32).toNatClampNeg) := inb_of S_a1_12_1 ⟨by decide, by decide⟩
  obtain ⟨cl_a2_31_2, Ar_a2_31_2, q_a2_31_2, S_a2_31_2, N_a2_31_2, H_a2_31_2, G_a2_31_2⟩ := id V_a2
  have hin_a2_31_2 : ¬ ((0 : Int32) < 0 ∨ cl_a2_31_2.slots.size ≤ ((0 : Int32) : Int32).toNatClampNeg) := inb_of S_a2_31_2 ⟨by decide, by decide⟩
  obtain ⟨T3, h3, X3, e3, W3, st3⟩ := stB X0 hx hZ e0 Ar_a2_31_2 (j := (0 : Int32)) hin_a2_31_2 (g := (mkF m 31 #[.val (.ref a1), .val (.int (0 : Int32)), .val (.ref a2), .val (.int (0 : Int32)), .val (.int (2 : Int32)), .val (.int (0 : Int32)), .val (.int c0)] [(.int (c0.toInt8.toInt32)), (.int (0 : Int32)), (.ref a2)])) rfl rfl (hb hby d6_31)
  have V_a2_31_2 : Arv Z h3 a2 kb .byte (2 : Int32) [(.int (nar .byte (c0.toInt8.toInt32))), (.int (0 : Int32))] (.int (0 : Int32)) := Arv.set Ar_a2_31_2 q_a2_31_2 S_a2_31_2 N_a2_31_2 H_a2_31_2 G_a2_31_2 (fits_nar_byte _) W3 0 rfl (Nat.le_of_ble_eq_true rfl)
  have K3 : Keep h0 h3 [a2] := (Keep.refl h0 [a2]).wr W3 (Or.inl (List.mem_of_getElem? (i := 0) rfl))
  have N3 := Fr.snoc X3 N0 g_a2
  obtain ⟨cl_a1_12_4, Ar_a1_12_4, q_a1_12_4, S_a1_12_4, N_a1_12_4, H_a1_12_4, G_a1_12_4⟩ := id (V_a1.other W3 hne_13)
  have hin_a1_12_4 : ¬ ((1 : Int32) < 0 ∨ cl_a1_12_4.slots.size ≤ ((1 : Int32) : Int32).toNatClampNeg) := inb_of S_a1_12_4 ⟨by decide, by decide⟩
  obtain ⟨cl_a2_31_5, Ar_a2_31_5, q_a2_31_5, S_a2_31_5, N_a2_31_5, H_a2_31_5, G_a2_31_5⟩ := id V_a2_31_2
  have hin_a2_31_5 : ¬ ((1 : Int32) < 0 ∨ cl_a2_31_5.slots.size ≤ ((1 : Int32) : Int32).toNatClampNeg) := inb_of S_a2_31_5 ⟨by decide, by decide⟩
  obtain ⟨T6, h6, X6, e6, W6, st6⟩ := stB X3 hx hZ e3 Ar_a2_31_5 (j := (1 : Int32)) hin_a2_31_5 (g := (mkF m 31 #[.val (.ref a1), .val (.int (1 : Int32)), .val (.ref a2), .val (.int (1 : Int32)), .val (.int (2 : Int32)), .val (.int (1 : Int32)), .val (.int c1)] [(.int (c1.toInt8.toInt32)), (.int (1 : Int32)), (.ref a2)])) rfl rfl (hb hby d6_31)
  have V_a2_31_5 : Arv Z h6 a2 kb .byte (2 : Int32) [(.int (nar .byte (c0.toInt8.toInt32))), (.int (nar .byte (c1.toInt8.toInt32)))] (.int (0 : Int32)) := Arv.set Ar_a2_31_5 q_a2_31_5 S_a2_31_5 N_a2_31_5 H_a2_31_5 G_a2_31_5 (fits_nar_byte _) W6 1 rfl (Nat.le_of_ble_eq_true rfl)
  have K6 : Keep h0 h6 [a2] := K3.wr W6 (Or.inl (List.mem_of_getElem? (i := 0) rfl))
  have N6 := Fr.snoc X6 N3 g_a2
  obtain ⟨fs, hr, hrun, hended, hW, hsame⟩ := X6.leave (v := some (.int (2 : Int32))) (fun h => by rw [Bd.returns] at h; cases h)
  refine ⟨_, _, pre0 _ ?_, hrun, hended, _, _, rfl, ?_, ⟨_, rfl⟩, hW, hsame.mono (by decide) (by decide)⟩
  · show Steps p.tables e below (s₁.setTop (mkF m 0 #[.val (.ref a1), .val (.int (0 : Int32)), .val (.ref a2), .val (.int (0 : Int32)), .val (.int (2 : Int32)), .unset, .unset] [])) _
    refine XS.iconst X0.here hx rfl (hb hby d6_0) ?_
    show Steps p.tables e below (s₁.setTop (mkF m 1 #[.val (.ref a1), .val (.int (0 : Int32)), .val (.ref a2), .val (.int (0 : Int32)), .val (.int (2 : Int32)), .unset, .unset] [(.int (0 : Int32))])) _
    refine XS.istore X0.here hx rfl (hb hby d6_1) rfl (l' := #[.val (.ref a1), .val (.int (0 : Int32)), .val (.ref a2), .val (.int (0 : Int32)), .val (.int (2 : Int32)), .val (.int (0 : Int32)), .unset]) rfl ?_
    show Steps p.tables e below (s₁.setTop (mkF m 3 #[.val (.ref a1), .val (.int (0 : Int32)), .val (.ref a2), .val (.int (0 : Int32)), .val (.int (2 : Int32)), .val (.int (0 : Int32)), .unset] [])) _
    refine XS.iload X0.here hx rfl (hb hby d6_3) rfl ?_
    show Steps p.tables e below (s₁.setTop (mkF m 5 #[.val (.ref a1), .val (.int (0 : Int32)), .val (.ref a2), .val (.int (0 : Int32)), .val (.int (2 : Int32)), .val (.int (0 : Int32)), .unset] [(.int (0 : Int32))])) _
    refine XS.iload X0.here hx rfl (hb hby d6_5) rfl ?_
    show Steps p.tables e below (s₁.setTop (mkF m 7 #[.val (.ref a1), .val (.int (0 : Int32)), .val (.ref a2), .val (.int (0 : Int32)), .val (.int (2 : Int32)), .val (.int (0 : Int32)), .unset] [(.int (2 : Int32)), (.int (0 : Int32))])) _
    refine XS.icmpNo X0.here hx rfl (hb hby d6_7) rfl (tlt (by decide : (0 : Int32) < (2 : Int32))).2.1 ?_
    show Steps p.tables e below (s₁.setTop (mkF m 10 #[.val (.ref a1), .val (.int (0 : Int32)), .val (.ref a2), .val (.int (0 : Int32)), .val (.int (2 : Int32)), .val (.int (0 : Int32)), .unset] [])) _
    refine XS.aloadN X0.here hx rfl (hb hby d6_10) rfl rfl ?_
    show Steps p.tables e below (s₁.setTop (mkF m 11 #[.val (.ref a1), .val (.int (0 : Int32)), .val (.ref a2), .val (.int (0 : Int32)), .val (.int (2 : Int32)), .val (.int (0 : Int32)), .unset] [(.ref a1)])) _
    refine XS.iloadN X0.here hx rfl (hb hby d6_11) rfl ?_
    show Steps p.tables e below (s₁.setTop (mkF m 12 #[.val (.ref a1), .val (.int (0 : Int32)), .val (.ref a2), .val (.int (0 : Int32)), .val (.int (2 : Int32)), .val (.int (0 : Int32)), .unset] [(.int (0 : Int32)), (.ref a1)])) _
    refine X0.caload hx (j := (0 : Int32)) (v := (.int c0)) (by rw [e0]; exact Ar_a1_12_1.1) (State.isArrayOf_alike hZ.alike Ar_a1_12_1.2.1) Ar_a1_12_1.2.2 hin_a1_12_1 (H_a1_12_1.at hin_a1_12_1 rfl) (g := (mkF m 12 #[.val (.ref a1), .val (.int (0 : Int32)), .val (.ref a2), .val (.int (0 : Int32)), .val (.int (2 : Int32)), .val (.int (0 : Int32)), .unset] [(.int (0 : Int32)), (.ref a1)])) rfl rfl (hb hby d6_12) _ ?_
    show Steps p.tables e below (s₁.setTop (mkF m 13 #[.val (.ref a1), .val (.int (0 : Int32)), .val (.ref a2), .val (.int (0 : Int32)), .val (.int (2 : Int32)), .val (.int (0 : Int32)), .unset] [(.int c0)])) _
    refine XS.istore X0.here hx rfl (hb hby d6_13) rfl (l' := #[.val (.ref a1), .val (.int (0 : Int32)), .val (.ref a2), .val (.int (0 : Int32)), .val (.int (2 : Int32)), .val (.int (0 : Int32)), .val (.int c0)]) rfl ?_
    show Steps p.tables e below (s₁.setTop (mkF m 15 #[.val (.ref a1), .val (.int (0 : Int32)), .val (.ref a2), .val (.int (0 : Int32)), .val (.int (2 : Int32)), .val (.int (0 : Int32)), .val (.int c0)] [])) _
    refine XS.iload X0.here hx rfl (hb hby d6_15) rfl ?_
    show Steps p.tables e below (s₁.setTop (mkF m 17 #[.val (.ref a1), .val (.int (0 : Int32)), .val (.ref a2), .val (.int (0 : Int32)), .val (.int (2 : Int32)), .val (.int (0 : Int32)), .val (.int c0)] [(.int c0)])) _
    refine XS.sipush X0.here hx rfl (hb hby d6_17) ?_
    show Steps p.tables e below (s₁.setTop (mkF m 20 #[.val (.ref a1), .val (.int (0 : Int32)), .val (.ref a2), .val (.int (0 : Int32)), .val (.int (2 : Int32)), .val (.int (0 : Int32)), .val (.int c0)] [(.int (255 : Int32)), (.int c0)])) _
    refine XS.icmpYes X0.here hx rfl (pc0 := 20) (pc' := 26) rfl (hb hby d6_20) rfl (flt hch0).2.2.2 (by decide) (by decide) ?_
    show Steps p.tables e below (s₁.setTop (mkF m 26 #[.val (.ref a1), .val (.int (0 : Int32)), .val (.ref a2), .val (.int (0 : Int32)), .val (.int (2 : Int32)), .val (.int (0 : Int32)), .val (.int c0)] [])) _
    refine XS.aloadN X0.here hx rfl (hb hby d6_26) rfl rfl ?_
    show Steps p.tables e below (s₁.setTop (mkF m 27 #[.val (.ref a1), .val (.int (0 : Int32)), .val (.ref a2), .val (.int (0 : Int32)), .val (.int (2 : Int32)), .val (.int (0 : Int32)), .val (.int c0)] [(.ref a2)])) _
    refine XS.iloadN X0.here hx rfl (hb hby d6_27) rfl ?_
    show Steps p.tables e below (s₁.setTop (mkF m 28 #[.val (.ref a1), .val (.int (0 : Int32)), .val (.ref a2), .val (.int (0 : Int32)), .val (.int (2 : Int32)), .val (.int (0 : Int32)), .val (.int c0)] [(.int (0 : Int32)), (.ref a2)])) _
    refine XS.iload X0.here hx rfl (hb hby d6_28) rfl ?_
    show Steps p.tables e below (s₁.setTop (mkF m 30 #[.val (.ref a1), .val (.int (0 : Int32)), .val (.ref a2), .val (.int (0 : Int32)), .val (.int (2 : Int32)), .val (.int (0 : Int32)), .val (.int c0)] [(.int c0), (.int (0 : Int32)), (.ref a2)])) _
    refine XS.i2b X0.here hx rfl (hb hby d6_30) rfl ?_
    show Steps p.tables e below (s₁.setTop (mkF m 31 #[.val (.ref a1), .val (.int (0 : Int32)), .val (.ref a2), .val (.int (0 : Int32)), .val (.int (2 : Int32)), .val (.int (0 : Int32)), .val (.int c0)] [(.int (c0.toInt8.toInt32)), (.int (0 : Int32)), (.ref a2)])) _
    refine st3 _ ?_
    show Steps p.tables e below (T3.setTop (mkF m 32 #[.val (.ref a1), .val (.int (0 : Int32)), .val (.ref a2), .val (.int (0 : Int32)), .val (.int (2 : Int32)), .val (.int (0 : Int32)), .val (.int c0)] [])) _
    refine XS.iinc X3.here hx rfl (hb hby d6_32) rfl (l' := #[.val (.ref a1), .val (.int (1 : Int32)), .val (.ref a2), .val (.int (0 : Int32)), .val (.int (2 : Int32)), .val (.int (0 : Int32)), .val (.int c0)]) rfl ?_
    show Steps p.tables e below (T3.setTop (mkF m 35 #[.val (.ref a1), .val (.int (1 : Int32)), .val (.ref a2), .val (.int (0 : Int32)), .val (.int (2 : Int32)), .val (.int (0 : Int32)), .val (.int c0)] [])) _
    refine XS.iinc X3.here hx rfl (hb hby d6_35) rfl (l' := #[.val (.ref a1), .val (.int (1 : Int32)), .val (.ref a2), .val (.int (1 : Int32)), .val (.int (2 : Int32)), .val (.int (0 : Int32)), .val (.int c0)]) rfl ?_
    show Steps p.tables e below (T3.setTop (mkF m 38 #[.val (.ref a1), .val (.int (1 : Int32)), .val (.ref a2), .val (.int (1 : Int32)), .val (.int (2 : Int32)), .val (.int (0 : Int32)), .val (.int c0)] [])) _
    refine XS.iinc X3.here hx rfl (hb hby d6_38) rfl (l' := #[.val (.ref a1), .val (.int (1 : Int32)), .val (.ref a2), .val (.int (1 : Int32)), .val (.int (2 : Int32)), .val (.int (1 : Int32)), .val (.int c0)]) rfl ?_
    show Steps p.tables e below (T3.setTop (mkF m 41 #[.val (.ref a1), .val (.int (1 : Int32)), .val (.ref a2), .val (.int (1 : Int32)), .val (.int (2 : Int32)), .val (.int (1 : Int32)), .val (.int c0)] [])) _
    refine XS.goto X3.here hx rfl (pc0 := 41) (pc' := 3) rfl (hb hby d6_41) (by decide) (by decide) ?_
    show Steps p.tables e below (T3.setTop (mkF m 3 #[.val (.ref a1), .val (.int (1 : Int32)), .val (.ref a2), .val (.int (1 : Int32)), .val (.int (2 : Int32)), .val (.int (1 : Int32)), .val (.int c0)] [])) _
    refine XS.iload X3.here hx rfl (hb hby d6_3) rfl ?_
    show Steps p.tables e below (T3.setTop (mkF m 5 #[.val (.ref a1), .val (.int (1 : Int32)), .val (.ref a2), .val (.int (1 : Int32)), .val (.int (2 : Int32)), .val (.int (1 : Int32)), .val (.int c0)] [(.int (1 : Int32))])) _
    refine XS.iload X3.here hx rfl (hb hby d6_5) rfl ?_
    show Steps p.tables e below (T3.setTop (mkF m 7 #[.val (.ref a1), .val (.int (1 : Int32)), .val (.ref a2), .val (.int (1 : Int32)), .val (.int (2 : Int32)), .val (.int (1 : Int32)), .val (.int c0)] [(.int (2 : Int32)), (.int (1 : Int32))])) _
    refine XS.icmpNo X3.here hx rfl (hb hby d6_7) rfl (tlt (by decide : (1 : Int32) < (2 : Int32))).2.1 ?_
    show Steps p.tables e below (T3.setTop (mkF m 10 #[.val (.ref a1), .val (.int (1 : Int32)), .val (.ref a2), .val (.int (1 : Int32)), .val (.int (2 : Int32)), .val (.int (1 : Int32)), .val (.int c0)] [])) _
    refine XS.aloadN X3.here hx rfl (hb hby d6_10) rfl rfl ?_
    show Steps p.tables e below (T3.setTop (mkF m 11 #[.val (.ref a1), .val (.int (1 : Int32)), .val (.ref a2), .val (.int (1 : Int32)), .val (.int (2 : Int32)), .val (.int (1 : Int32)), .val (.int c0)] [(.ref a1)])) _
    refine XS.iloadN X3.here hx rfl (hb hby d6_11) rfl ?_
    show Steps p.tables e below (T3.setTop (mkF m 12 #[.val (.ref a1), .val (.int (1 : Int32)), .val (.ref a2), .val (.int (1 : Int32)), .val (.int (2 : Int32)), .val (.int (1 : Int32)), .val (.int c0)] [(.int (1 : Int32)), (.ref a1)])) _
    refine X3.caload hx (j := (1 : Int32)) (v := (.int c1)) (by rw [e3]; exact Ar_a1_12_4.1) (State.isArrayOf_alike hZ.alike Ar_a1_12_4.2.1) Ar_a1_12_4.2.2 hin_a1_12_4 (H_a1_12_4.at hin_a1_12_4 rfl) (g := (mkF m 12 #[.val (.ref a1), .val (.int (1 : Int32)), .val (.ref a2), .val (.int (1 : Int32)), .val (.int (2 : Int32)), .val (.int (1 : Int32)), .val (.int c0)] [(.int (1 : Int32)), (.ref a1)])) rfl rfl (hb hby d6_12) _ ?_
    show Steps p.tables e below (T3.setTop (mkF m 13 #[.val (.ref a1), .val (.int (1 : Int32)), .val (.ref a2), .val (.int (1 : Int32)), .val (.int (2 : Int32)), .val (.int (1 : Int32)), .val (.int c0)] [(.int c1)])) _
    refine XS.istore X3.here hx rfl (hb hby d6_13) rfl (l' := #[.val (.ref a1), .val (.int (1 : Int32)), .val (.ref a2), .val (.int (1 : Int32)), .val (.int (2 : Int32)), .val (.int (1 : Int32)), .val (.int c1)]) rfl ?_
    show Steps p.tables e below (T3.setTop (mkF m 15 #[.val (.ref a1), .val (.int (1 : Int32)), .val (.ref a2), .val (.int (1 : Int32)), .val (.int (2 : Int32)), .val (.int (1 : Int32)), .val (.int c1)] [])) _
    refine XS.iload X3.here hx rfl (hb hby d6_15) rfl ?_
    show Steps p.tables e below (T3.setTop (mkF m 17 #[.val (.ref a1), .val (.int (1 : Int32)), .val (.ref a2), .val (.int (1 : Int32)), .val (.int (2 : Int32)), .val (.int (1 : Int32)), .val (.int c1)] [(.int c1)])) _
    refine XS.sipush X3.here hx rfl (hb hby d6_17) ?_
    show Steps p.tables e below (T3.setTop (mkF m 20 #[.val (.ref a1), .val (.int (1 : Int32)), .val (.ref a2), .val (.int (1 : Int32)), .val (.int (2 : Int32)), .val (.int (1 : Int32)), .val (.int c1)] [(.int (255 : Int32)), (.int c1)])) _
    refine XS.icmpYes X3.here hx rfl (pc0 := 20) (pc' := 26) rfl (hb hby d6_20) rfl (flt hch1).2.2.2 (by decide) (by decide) ?_
    show Steps p.tables e below (T3.setTop (mkF m 26 #[.val (.ref a1), .val (.int (1 : Int32)), .val (.ref a2), .val (.int (1 : Int32)), .val (.int (2 : Int32)), .val (.int (1 : Int32)), .val (.int c1)] [])) _
    refine XS.aloadN X3.here hx rfl (hb hby d6_26) rfl rfl ?_
    show Steps p.tables e below (T3.setTop (mkF m 27 #[.val (.ref a1), .val (.int (1 : Int32)), .val (.ref a2), .val (.int (1 : Int32)), .val (.int (2 : Int32)), .val (.int (1 : Int32)), .val (.int c1)] [(.ref a2)])) _
    refine XS.iloadN X3.here hx rfl (hb hby d6_27) rfl ?_
    show Steps p.tables e below (T3.setTop (mkF m 28 #[.val (.ref a1), .val (.int (1 : Int32)), .val (.ref a2), .val (.int (1 : Int32)), .val (.int (2 : Int32)), .val (.int (1 : Int32)), .val (.int c1)] [(.int (1 : Int32)), (.ref a2)])) _
    refine XS.iload X3.here hx rfl (hb hby d6_28) rfl ?_
    show Steps p.tables e below (T3.setTop (mkF m 30 #[.val (.ref a1), .val (.int (1 : Int32)), .val (.ref a2), .val (.int (1 : Int32)), .val (.int (2 : Int32)), .val (.int (1 : Int32)), .val (.int c1)] [(.int c1), (.int (1 : Int32)), (.ref a2)])) _
    refine XS.i2b X3.here hx rfl (hb hby d6_30) rfl ?_
    show Steps p.tables e below (T3.setTop (mkF m 31 #[.val (.ref a1), .val (.int (1 : Int32)), .val (.ref a2), .val (.int (1 : Int32)), .val (.int (2 : Int32)), .val (.int (1 : Int32)), .val (.int c1)] [(.int (c1.toInt8.toInt32)), (.int (1 : Int32)), (.ref a2)])) _
    refine st6 _ ?_
    show Steps p.tables e below (T6.setTop (mkF m 32 #[.val (.ref a1), .val (.int (1 : Int32)), .val (.ref a2), .val (.int (1 : Int32)), .val (.int (2 : Int32)), .val (.int (1 : Int32)), .val (.int c1)] [])) _
    refine XS.iinc X6.here hx rfl (hb hby d6_32) rfl (l' := #[.val (.ref a1), .val (.int (2 : Int32)), .val (.ref a2), .val (.int (1 : Int32)), .val (.int (2 : Int32)), .val (.int (1 : Int32)), .val (.int c1)]) rfl ?_
    show Steps p.tables e below (T6.setTop (mkF m 35 #[.val (.ref a1), .val (.int (2 : Int32)), .val (.ref a2), .val (.int (1 : Int32)), .val (.int (2 : Int32)), .val (.int (1 : Int32)), .val (.int c1)] [])) _
    refine XS.iinc X6.here hx rfl (hb hby d6_35) rfl (l' := #[.val (.ref a1), .val (.int (2 : Int32)), .val (.ref a2), .val (.int (2 : Int32)), .val (.int (2 : Int32)), .val (.int (1 : Int32)), .val (.int c1)]) rfl ?_
    show Steps p.tables e below (T6.setTop (mkF m 38 #[.val (.ref a1), .val (.int (2 : Int32)), .val (.ref a2), .val (.int (2 : Int32)), .val (.int (2 : Int32)), .val (.int (1 : Int32)), .val (.int c1)] [])) _
    refine XS.iinc X6.here hx rfl (hb hby d6_38) rfl (l' := #[.val (.ref a1), .val (.int (2 : Int32)), .val (.ref a2), .val (.int (2 : Int32)), .val (.int (2 : Int32)), .val (.int (2 : Int32)), .val (.int c1)]) rfl ?_
    show Steps p.tables e below (T6.setTop (mkF m 41 #[.val (.ref a1), .val (.int (2 : Int32)), .val (.ref a2), .val (.int (2 : Int32)), .val (.int (2 : Int32)), .val (.int (2 : Int32)), .val (.int c1)] [])) _
    refine XS.goto X6.here hx rfl (pc0 := 41) (pc' := 3) rfl (hb hby d6_41) (by decide) (by decide) ?_
    show Steps p.tables e below (T6.setTop (mkF m 3 #[.val (.ref a1), .val (.int (2 : Int32)), .val (.ref a2), .val (.int (2 : Int32)), .val (.int (2 : Int32)), .val (.int (2 : Int32)), .val (.int c1)] [])) _
    refine XS.iload X6.here hx rfl (hb hby d6_3) rfl ?_
    show Steps p.tables e below (T6.setTop (mkF m 5 #[.val (.ref a1), .val (.int (2 : Int32)), .val (.ref a2), .val (.int (2 : Int32)), .val (.int (2 : Int32)), .val (.int (2 : Int32)), .val (.int c1)] [(.int (2 : Int32))])) _
    refine XS.iload X6.here hx rfl (hb hby d6_5) rfl ?_
    show Steps p.tables e below (T6.setTop (mkF m 7 #[.val (.ref a1), .val (.int (2 : Int32)), .val (.ref a2), .val (.int (2 : Int32)), .val (.int (2 : Int32)), .val (.int (2 : Int32)), .val (.int c1)] [(.int (2 : Int32)), (.int (2 : Int32))])) _
    refine XS.icmpYes X6.here hx rfl (pc0 := 7) (pc' := 44) rfl (hb hby d6_7) rfl (flt (by decide : ¬ ((2 : Int32) < (2 : Int32)))).2.1 (by decide) (by decide) ?_
    show Steps p.tables e below (T6.setTop (mkF m 44 #[.val (.ref a1), .val (.int (2 : Int32)), .val (.ref a2), .val (.int (2 : Int32)), .val (.int (2 : Int32)), .val (.int (2 : Int32)), .val (.int c1)] [])) _
    refine XS.iload X6.here hx rfl (hb hby d6_44) rfl ?_
    show Steps p.tables e below (T6.setTop (mkF m 46 #[.val (.ref a1), .val (.int (2 : Int32)), .val (.ref a2), .val (.int (2 : Int32)), .val (.int (2 : Int32)), .val (.int (2 : Int32)), .val (.int c1)] [(.int (2 : Int32))])) _
    exact retI X6 hx Bd.returns (hb hby d6_46) hr
  · show Q_cmp5_2 Z a1 a2 ka c0 c1 kb h0 n0 _ T6.heap _
    rw [e6]
    exact ⟨rfl, N6, K6, V_a2_31_5⟩
theorem d5_0 : decode jdk_52_method_16_code 0 = .ok (.iload_n 2, 1) := by decide +kernel
theorem d5_1 : decode jdk_52_method_16_code 1 = .ok (.newarray .byte, 2) := by decide +kernel
theorem d5_3 : decode jdk_52_method_16_code 3 = .ok (.astore_n 3, 1) := by decide +kernel
theorem d5_4 : decode jdk_52_method_16_code 4 = .ok (.aload_n 0, 1) := by decide +kernel
theorem d5_5 : decode jdk_52_method_16_code 5 = .ok (.iload_n 1, 1) := by decide +kernel
theorem d5_6 : decode jdk_52_method_16_code 6 = .ok (.aload_n 3, 1) := by decide +kernel
theorem d5_7 : decode jdk_52_method_16_code 7 = .ok (.iconst 0, 1) := by decide +kernel
theorem d5_8 : decode jdk_52_method_16_code 8 = .ok (.iload_n 2, 1) := by decide +kernel
theorem d5_9 : decode jdk_52_method_16_code 9 = .ok (.invokestatic 115, 3) := by decide +kernel
theorem d5_12 : decode jdk_52_method_16_code 12 = .ok (.istore 4, 2) := by decide +kernel
theorem d5_14 : decode jdk_52_method_16_code 14 = .ok (.iload 4, 2) := by decide +kernel
theorem d5_16 : decode jdk_52_method_16_code 16 = .ok (.iload_n 2, 1) := by decide +kernel
theorem d5_17 : decode jdk_52_method_16_code 17 = .ok (.if_icmp .eq 40, 3) := by decide +kernel
theorem d5_57 : decode jdk_52_method_16_code 57 = .ok (.aload_n 3, 1) := by decide +kernel
theorem d5_58 : decode jdk_52_method_16_code 58 = .ok (.areturn, 1) := by decide +kernel
theorem pd0 : parseMethodDescriptor "([CI[BII)I" = some ⟨[(.array .char), .int, (.array .byte), .int, .int], some .int⟩ := by decide +kernel
theorem ef_cmp3_2 (m : MethodId) (a1 : Addr) : entryFrame m #[(.ref a1), (.int (0 : Int32)), (.int (2 : Int32))] 6 = (mkF m 0 #[.val (.ref a1), .val (.int (0 : Int32)), .val (.int (2 : Int32)), .unset, .unset, .unset] []) := by first | (simp [entryFrame, mkF, argsToLocals, Value.category]; done) | rfl
def Q_cmp3_2 (Z : State) (a1 : Addr) (ka : ClassId) (c0 : Int32) (c1 : Int32) (h0 : Heap) (n0 : Nat) (v : Option Value) (h : Heap) (L : List Loc) : Prop := ∃ (b1 : Addr) (k1 : ClassId), v = some (.ref b1) ∧ Fr n0 L ∧ Keep h0 h [] ∧ h0.size ≤ b1 ∧ Arv Z h b1 k1 .byte (2 : Int32) [(.int (nar .byte (c0.toInt8.toInt32))), (.int (nar .byte (c1.toInt8.toInt32)))] (.int (0 : Int32))
set_option maxRecDepth 65536 in
set_option maxHeartbeats 40000000 in
theorem rm_cmp3_2 (l : Launch) (Z : State) (a0 : Array Value) (hw : ∀ d ∈ tables_1, d.before a0 Z = true) (ws : List Jvm.Cond) (a1 : Addr) (ka : ClassId) (c0 : Int32) (c1 : Int32) (h0 : Heap) (n0 : Nat) (Z0 : n0 ≤ h0.size) (V_a1 : Arv Z h0 a1 ka .char (2 : Int32) [(.int c0), (.int c1)] (.int (0 : Int32))) (hch0 : ¬ ((255 : Int32) < c0)) (hch1 : ¬ ((255 : Int32) < c1)) :
    MetFree l (⟨"java/lang/StringUTF16", "compress", "([CII)[B"⟩ : MethodName) (head1 (Jvm.Cond.code (⟨"java/lang/StringUTF16", "compress", "([CII)[B"⟩ : MethodName) jdk_52_method_16_code 6 (some (.array .byte)) :: ws) ({ frames := 1, cells := 1, slots := 2, locals := 18 } : Room)) (fun a U => a = #[(.ref a1), (.int (0 : Int32)), (.int (2 : Int32))] ∧ Z.Warmed39 U.vm ∧ U.heap = h0) (fun _ _ _ _ _ => True) (fun _ U o U' => ∃ v L, o = .returned v ∧ Q_cmp3_2 Z a1 ka c0 c1 h0 n0 v U'.heap L ∧ FrameEnd U o U' L ({ frames := 1, cells := 1, slots := 2, locals := 18 } : Room).cells ({ frames := 1, cells := 1, slots := 2, locals := 18 } : Room).slots) := by
  refine MetFree.of_bodySF (plainFor_of_name pn1) hisR ?_
  intro p e s m args below meth c s₁ Bd hml0 hP hK
  obtain ⟨rfl, hZ, hh⟩ := hP
  have hx := Bd.exec
  have hby := Bd.bytes
  have hml : c.maxLocals = 6 := hml0
  have hown : s.vm.findClass "java/lang/StringUTF16" = some m.cls := findClass_of_methodNamed Bd.named
  have hnm := (name_of_methodNamed Bd.named Bd.method).1
  have X0 : Stand p l e ({ frames := 1, cells := 1, slots := 2, locals := 18 } : Room) s m #[(.ref a1), (.int (0 : Int32)), (.int (2 : Int32))] below meth c s₁ [] 0 0 := Stand.of_body Bd
  have e0 : s₁.heap = h0 := by rw [← hh, Bd.state]; rfl
  have N0 := Fr.nil n0
  have pre0 : ∀ t, Steps p.tables e below (s₁.setTop (mkF m 0 #[.val (.ref a1), .val (.int (0 : Int32)), .val (.int (2 : Int32)), .unset, .unset, .unset] [])) t → Steps p.tables e below (s₁.setTop (entryFrame m #[(.ref a1), (.int (0 : Int32)), (.int (2 : Int32))] 6)) t := fun t k => castTop (ef_cmp3_2 m a1) k
  obtain ⟨T1, h1, k1, X1, e1, E1, A1, st1⟩ := newP X0 hx hZ (hw _ (List.mem_of_getElem? (i := 26) rfl)) e0 (g := (mkF m 1 #[.val (.ref a1), .val (.int (0 : Int32)), .val (.int (2 : Int32)), .unset, .unset, .unset] [(.int (2 : Int32))])) rfl (hb hby d5_1) rfl (by decide) (cap := 2) (by decide) (by decide) (by decide) (by decide)
  obtain ⟨b1, g1⟩ : ∃ z, z = h0.size := ⟨_, rfl⟩
  rw [← g1] at A1 st1
  have sz_b1 : h0.size ≤ b1 := Nat.le_trans (Keep.refl h0 []).1 (Nat.le_of_eq g1.symm)
  have g_b1 : n0 ≤ b1 := Nat.le_trans Z0 sz_b1
  have K1 : Keep h0 h1 [] := (Keep.refl h0 []).ext E1
  have V_b1 : Arv Z h1 b1 k1 .byte (2 : Int32) [(.int (0 : Int32)), (.int (0 : Int32))] (.int (0 : Int32)) := (Arv.new A1 (by decide)).pad (pad_rep [] (.int (0 : Int32)) 2)
  obtain ⟨_, _, ⟨T2, L2, k2, n2⟩, -, X2, ⟨Lc2, hQ2, l2, y2, z2⟩, st2⟩ := Jvm.LawKit.callS X1 hx (y := (⟨"java/lang/StringUTF16", "compress", "([CI[BII)I"⟩ : MethodName)) hown (mvT hZ (hw _ (List.mem_of_getElem? (i := 27) rfl))) (mvT hZ (hw _ (List.mem_of_getElem? (i := 28) rfl))) (mvT hZ (hw _ (List.mem_of_getElem? (i := 24) rfl))) (mvT hZ (hw _ (List.mem_of_getElem? (i := 29) rfl))) (by decide) (backOf (W := 0) (rm_cmp5_2 l Z a0 hw [] a1 b1 ka c0 c1 k1 h1 n0 (Nat.le_trans Z0 K1.1) (V_a1.ext E1) V_b1 g_b1 ((Nat.ne_of_lt (Nat.lt_of_lt_of_le V_a1.lt (Nat.le_of_eq g1.symm))) : a1 ≠ b1) (hch0 : ¬ ((255 : Int32) < c0)) (hch1 : ¬ ((255 : Int32) < c1))) hZ (hw _ (List.mem_of_getElem? (i := 29) rfl)) (hw _ (List.mem_of_getElem? (i := 24) rfl)) (by decide) (by decide)) (g := (mkF m 9 #[.val (.ref a1), .val (.int (0 : Int32)), .val (.int (2 : Int32)), .val (.ref b1), .unset, .unset] [(.int (2 : Int32)), (.int (0 : Int32)), (.ref b1), (.int (0 : Int32)), (.ref a1)])) rfl (by rw [hml]; rfl) (argsL := [(.ref a1), (.int (0 : Int32)), (.ref b1), (.int (0 : Int32)), (.int (2 : Int32))]) (rest := []) (lenOf pd0 rfl) rfl (by show 2 * 0 + _ ≤ _; exact Nat.le_of_eq rfl) (hb hby d5_9) (fun _ _ => ⟨rfl, e1, (by decide : 1 + 0 ≤ _), (by decide : 2 + 0 ≤ _)⟩)
  dsimp only [Pt.U, Pt.locs, Pt.cells, Pt.slots] at X2 l2 y2 z2 st2 hQ2
  subst l2 y2 z2
  obtain ⟨rfl, N2q, K2, f2_0⟩ := hQ2
  have N2 := Fr.app N0 N2q
  have KK2 : Keep h0 T2.heap [] := K1.trans K2 (allS (Or.inr sz_b1) all0)
  obtain ⟨fs, hr, hrun, hended, hW, hsame⟩ := X2.leave (v := some (.ref b1)) (fun h => by rw [Bd.returns] at h; cases h)
  refine ⟨_, _, pre0 _ ?_, hrun, hended, _, _, rfl, ?_, ⟨_, rfl⟩, hW, hsame.mono (by decide) (by decide)⟩
  · show Steps p.tables e below (s₁.setTop (mkF m 0 #[.val (.ref a1), .val (.int (0 : Int32)), .val (.int (2 : Int32)), .unset, .unset, .unset] [])) _
    refine XS.iloadN X0.here hx rfl (hb hby d5_0) rfl ?_
    show Steps p.tables e below (s₁.setTop (mkF m 1 #[.val (.ref a1), .val (.int (0 : Int32)), .val (.int (2 : Int32)), .unset, .unset, .unset] [(.int (2 : Int32))])) _
    refine st1 _ ?_
    show Steps p.tables e below (T1.setTop (mkF m 3 #[.val (.ref a1), .val (.int (0 : Int32)), .val (.int (2 : Int32)), .unset, .unset, .unset] [(.ref b1)])) _
    refine XS.astoreN X1.here hx rfl (hb hby d5_3) rfl rfl (l' := #[.val (.ref a1), .val (.int (0 : Int32)), .val (.int (2 : Int32)), .val (.ref b1), .unset, .unset]) rfl ?_
    show Steps p.tables e below (T1.setTop (mkF m 4 #[.val (.ref a1), .val (.int (0 : Int32)), .val (.int (2 : Int32)), .val (.ref b1), .unset, .unset] [])) _
    refine XS.aloadN X1.here hx rfl (hb hby d5_4) rfl rfl ?_
    show Steps p.tables e below (T1.setTop (mkF m 5 #[.val (.ref a1), .val (.int (0 : Int32)), .val (.int (2 : Int32)), .val (.ref b1), .unset, .unset] [(.ref a1)])) _
    refine XS.iloadN X1.here hx rfl (hb hby d5_5) rfl ?_
    show Steps p.tables e below (T1.setTop (mkF m 6 #[.val (.ref a1), .val (.int (0 : Int32)), .val (.int (2 : Int32)), .val (.ref b1), .unset, .unset] [(.int (0 : Int32)), (.ref a1)])) _
    refine XS.aloadN X1.here hx rfl (hb hby d5_6) rfl rfl ?_
    show Steps p.tables e below (T1.setTop (mkF m 7 #[.val (.ref a1), .val (.int (0 : Int32)), .val (.int (2 : Int32)), .val (.ref b1), .unset, .unset] [(.ref b1), (.int (0 : Int32)), (.ref a1)])) _
    refine XS.iconst X1.here hx rfl (hb hby d5_7) ?_
    show Steps p.tables e below (T1.setTop (mkF m 8 #[.val (.ref a1), .val (.int (0 : Int32)), .val (.int (2 : Int32)), .val (.ref b1), .unset, .unset] [(.int (0 : Int32)), (.ref b1), (.int (0 : Int32)), (.ref a1)])) _
    refine XS.iloadN X1.here hx rfl (hb hby d5_8) rfl ?_
    show Steps p.tables e below (T1.setTop (mkF m 9 #[.val (.ref a1), .val (.int (0 : Int32)), .val (.int (2 : Int32)), .val (.ref b1), .unset, .unset] [(.int (2 : Int32)), (.int (0 : Int32)), (.ref b1), (.int (0 : Int32)), (.ref a1)])) _
    refine st2 _ ?_
    show Steps p.tables e below (T2.setTop (mkF m 12 #[.val (.ref a1), .val (.int (0 : Int32)), .val (.int (2 : Int32)), .val (.ref b1), .unset, .unset] [(.int (2 : Int32))])) _
    refine XS.istore X2.here hx rfl (hb hby d5_12) rfl (l' := #[.val (.ref a1), .val (.int (0 : Int32)), .val (.int (2 : Int32)), .val (.ref b1), .val (.int (2 : Int32)), .unset]) rfl ?_
    show Steps p.tables e below (T2.setTop (mkF m 14 #[.val (.ref a1), .val (.int (0 : Int32)), .val (.int (2 : Int32)), .val (.ref b1), .val (.int (2 : Int32)), .unset] [])) _
    refine XS.iload X2.here hx rfl (hb hby d5_14) rfl ?_
    show Steps p.tables e below (T2.setTop (mkF m 16 #[.val (.ref a1), .val (.int (0 : Int32)), .val (.int (2 : Int32)), .val (.ref b1), .val (.int (2 : Int32)), .unset] [(.int (2 : Int32))])) _
    refine XS.iloadN X2.here hx rfl (hb hby d5_16) rfl ?_
    show Steps p.tables e below (T2.setTop (mkF m 17 #[.val (.ref a1), .val (.int (0 : Int32)), .val (.int (2 : Int32)), .val (.ref b1), .val (.int (2 : Int32)), .unset] [(.int (2 : Int32)), (.int (2 : Int32))])) _
    refine XS.icmpYes X2.here hx rfl (pc0 := 17) (pc' := 57) rfl (hb hby d5_17) rfl (teq (by decide : (2 : Int32) = (2 : Int32))).1 (by decide) (by decide) ?_
    show Steps p.tables e below (T2.setTop (mkF m 57 #[.val (.ref a1), .val (.int (0 : Int32)), .val (.int (2 : Int32)), .val (.ref b1), .val (.int (2 : Int32)), .unset] [])) _
    refine XS.aloadN X2.here hx rfl (hb hby d5_57) rfl rfl ?_
    show Steps p.tables e below (T2.setTop (mkF m 58 #[.val (.ref a1), .val (.int (0 : Int32)), .val (.int (2 : Int32)), .val (.ref b1), .val (.int (2 : Int32)), .unset] [(.ref b1)])) _
    exact retOut X2 hx Bd.returns rfl (Or.inr (Or.inr (Or.inr (Or.inr ⟨rfl, rfl, rfl⟩)))) (hb hby d5_58) hr
  · show Q_cmp3_2 Z a1 ka c0 c1 h0 n0 _ T2.heap _
    exact ⟨b1, k1, rfl, N2, KK2, sz_b1, f2_0⟩
theorem d7_0 : decode jdk_52_method_15_code 0 = .ok (.iload_n 1, 1) := by decide +kernel
theorem d7_1 : decode jdk_52_method_15_code 1 = .ok (.aload_n 0, 1) := by decide +kernel
theorem d7_2 : decode jdk_52_method_15_code 2 = .ok (.arraylength, 1) := by decide +kernel
theorem d7_3 : decode jdk_52_method_15_code 3 = .ok (.isub, 1) := by decide +kernel
theorem d7_4 : decode jdk_52_method_15_code 4 = .ok (.bipush 31, 2) := by decide +kernel
theorem d7_6 : decode jdk_52_method_15_code 6 = .ok (.iushr, 1) := by decide +kernel
theorem d7_7 : decode jdk_52_method_15_code 7 = .ok (.i2b, 1) := by decide +kernel
theorem d7_8 : decode jdk_52_method_15_code 8 = .ok (.ireturn, 1) := by decide +kernel
theorem ef_cod_2 (m : MethodId) (a1 : Addr) : entryFrame m #[(.ref a1), (.int (2 : Int32))] 2 = (mkF m 0 #[.val (.ref a1), .val (.int (2 : Int32))] []) := by first | (simp [entryFrame, mkF, argsToLocals, Value.category]; done) | rfl
def Q_cod_2 (Z : State) (a1 : Addr) (ka : ClassId) (x0 : Int32) (x1 : Int32) (h0 : Heap) (n0 : Nat) (v : Option Value) (h : Heap) (L : List Loc) : Prop := v = some (.int (0 : Int32)) ∧ L = [] ∧ h = h0
set_option maxRecDepth 65536 in
set_option maxHeartbeats 40000000 in
theorem rm_cod_2 (l : Launch) (Z : State) (a0 : Array Value) (hw : ∀ d ∈ tables_1, d.before a0 Z = true) (ws : List Jvm.Cond) (a1 : Addr) (ka : ClassId) (x0 : Int32) (x1 : Int32) (h0 : Heap) (n0 : Nat) (Z0 : n0 ≤ h0.size) (V_a1 : Arv Z h0 a1 ka .byte (2 : Int32) [(.int x0), (.int x1)] (.int (0 : Int32))) :
    MetFree l (⟨"java/lang/StringUTF16", "coderFromArrayLen", "([BI)B"⟩ : MethodName) (head1 (Jvm.Cond.code (⟨"java/lang/StringUTF16", "coderFromArrayLen", "([BI)B"⟩ : MethodName) jdk_52_method_15_code 2 (some .byte) :: ws) ({ frames := 0, cells := 0, slots := 0, locals := 0 } : Room)) (fun a U => a = #[(.ref a1), (.int (2 : Int32))] ∧ Z.Warmed39 U.vm ∧ U.heap = h0) (fun _ _ _ _ _ => True) (fun _ U o U' => ∃ v L, o = .returned v ∧ Q_cod_2 Z a1 ka x0 x1 h0 n0 v U'.heap L ∧ FrameEnd U o U' L ({ frames := 0, cells := 0, slots := 0, locals := 0 } : Room).cells ({ frames := 0, cells := 0, slots := 0, locals := 0 } : Room).slots) := by
  refine MetFree.of_bodySF (plainFor_of_name pn1) hisR ?_
  intro p e s m args below meth c s₁ Bd hml0 hP hK
  obtain ⟨rfl, hZ, hh⟩ := hP
  have hx := Bd.exec
  have hby := Bd.bytes
  have hml : c.maxLocals = 2 := hml0
  have hown : s.vm.findClass "java/lang/StringUTF16" = some m.cls := findClass_of_methodNamed Bd.named
  have hnm := (name_of_methodNamed Bd.named Bd.method).1
  have X0 : Stand p l e ({ frames := 0, cells := 0, slots := 0, locals := 0 } : Room) s m #[(.ref a1), (.int (2 : Int32))] below meth c s₁ [] 0 0 := Stand.of_body Bd
  have e0 : s₁.heap = h0 := by rw [← hh, Bd.state]; rfl
  have N0 := Fr.nil n0
  have pre0 : ∀ t, Steps p.tables e below (s₁.setTop (mkF m 0 #[.val (.ref a1), .val (.int (2 : Int32))] [])) t → Steps p.tables e below (s₁.setTop (entryFrame m #[(.ref a1), (.int (2 : Int32))] 2)) t := fun t k => castTop (ef_cod_2 m a1) k
  obtain ⟨cl_a1_2_1, Ar_a1_2_1, -, S_a1_2_1, N_a1_2_1, -, -⟩ := id V_a1
  obtain ⟨fs, hr, hrun, hended, hW, hsame⟩ := X0.leave (v := some (.int (0 : Int32))) (fun h => by rw [Bd.returns] at h; cases h)
  refine ⟨_, _, pre0 _ ?_, hrun, hended, _, _, rfl, ?_, ⟨_, rfl⟩, hW, hsame.mono (by decide) (by decide)⟩
  · show Steps p.tables e below (s₁.setTop (mkF m 0 #[.val (.ref a1), .val (.int (2 : Int32))] [])) _
    refine XS.iloadN X0.here hx rfl (hb hby d7_0) rfl ?_
    show Steps p.tables e below (s₁.setTop (mkF m 1 #[.val (.ref a1), .val (.int (2 : Int32))] [(.int (2 : Int32))])) _
    refine XS.aloadN X0.here hx rfl (hb hby d7_1) rfl rfl ?_
    show Steps p.tables e below (s₁.setTop (mkF m 2 #[.val (.ref a1), .val (.int (2 : Int32))] [(.ref a1), (.int (2 : Int32))])) _
    refine X0.arraylength hx (by rw [e0]; exact Ar_a1_2_1.1) (State.isArrayOf_alike hZ.alike Ar_a1_2_1.2.1) (g := (mkF m 2 #[.val (.ref a1), .val (.int (2 : Int32))] [(.ref a1), (.int (2 : Int32))])) rfl rfl (hb hby d7_2) _ ?_
    rw [len_of S_a1_2_1 N_a1_2_1]
    show Steps p.tables e below (s₁.setTop (mkF m 3 #[.val (.ref a1), .val (.int (2 : Int32))] [(.int (2 : Int32)), (.int (2 : Int32))])) _
    refine XS.isub X0.here hx rfl (hb hby d7_3) rfl ?_
    show Steps p.tables e below (s₁.setTop (mkF m 4 #[.val (.ref a1), .val (.int (2 : Int32))] [(.int (0 : Int32))])) _
    refine XS.bipush X0.here hx rfl (hb hby d7_4) ?_
    show Steps p.tables e below (s₁.setTop (mkF m 6 #[.val (.ref a1), .val (.int (2 : Int32))] [(.int (31 : Int32)), (.int (0 : Int32))])) _
    refine XS.iushr X0.here hx rfl (hb hby d7_6) rfl ?_
    show Steps p.tables e below (s₁.setTop (mkF m 7 #[.val (.ref a1), .val (.int (2 : Int32))] [(.int (0 : Int32))])) _
    refine XS.i2b X0.here hx rfl (hb hby d7_7) rfl ?_
    show Steps p.tables e below (s₁.setTop (mkF m 8 #[.val (.ref a1), .val (.int (2 : Int32))] [(.int (0 : Int32))])) _
    exact retN X0 hx (t := .byte) Bd.returns (by simp) (hb hby d7_8) hr
  · show Q_cod_2 Z a1 ka x0 x1 h0 n0 _ s₁.heap _
    rw [e0]
    exact ⟨rfl, rfl, rfl⟩
theorem d3_0 : decode jdk_42_method_149_code 0 = .ok (.aload_n 0, 1) := by decide +kernel
theorem d3_1 : decode jdk_42_method_149_code 1 = .ok (.invokespecial 1, 3) := by decide +kernel
theorem d3_4 : decode jdk_42_method_149_code 4 = .ok (.iload_n 3, 1) := by decide +kernel
theorem d3_5 : decode jdk_42_method_149_code 5 = .ok (.ifCond .ne 22, 3) := by decide +kernel
theorem d3_27 : decode jdk_42_method_149_code 27 = .ok (.getstatic 38, 3) := by decide +kernel
theorem d3_30 : decode jdk_42_method_149_code 30 = .ok (.ifCond .eq 28, 3) := by decide +kernel
theorem d3_33 : decode jdk_42_method_149_code 33 = .ok (.aload_n 1, 1) := by decide +kernel
theorem d3_34 : decode jdk_42_method_149_code 34 = .ok (.iload_n 2, 1) := by decide +kernel
theorem d3_35 : decode jdk_42_method_149_code 35 = .ok (.iload_n 3, 1) := by decide +kernel
theorem d3_36 : decode jdk_42_method_149_code 36 = .ok (.invokestatic 177, 3) := by decide +kernel
theorem d3_39 : decode jdk_42_method_149_code 39 = .ok (.astore 5, 2) := by decide +kernel
theorem d3_41 : decode jdk_42_method_149_code 41 = .ok (.aload_n 0, 1) := by decide +kernel
theorem d3_42 : decode jdk_42_method_149_code 42 = .ok (.aload 5, 2) := by decide +kernel
theorem d3_44 : decode jdk_42_method_149_code 44 = .ok (.iload_n 3, 1) := by decide +kernel
theorem d3_45 : decode jdk_42_method_149_code 45 = .ok (.invokestatic 47, 3) := by decide +kernel
theorem d3_48 : decode jdk_42_method_149_code 48 = .ok (.putfield 15, 3) := by decide +kernel
theorem d3_51 : decode jdk_42_method_149_code 51 = .ok (.aload_n 0, 1) := by decide +kernel
theorem d3_52 : decode jdk_42_method_149_code 52 = .ok (.aload 5, 2) := by decide +kernel
theorem d3_54 : decode jdk_42_method_149_code 54 = .ok (.putfield 9, 3) := by decide +kernel
theorem d3_57 : decode jdk_42_method_149_code 57 = .ok (.return_, 1) := by decide +kernel
theorem pd1 : parseMethodDescriptor "([CII)[B" = some ⟨[(.array .char), .int, .int], some (.array .byte)⟩ := by decide +kernel
theorem pd2 : parseMethodDescriptor "([BI)B" = some ⟨[(.array .byte), .int], some .byte⟩ := by decide +kernel
theorem pn2 : plainName "java/lang/String" = true := by first | (simp [plainName, overriddenIn]; done) | decide +kernel
theorem ef_ini4_2 (m : MethodId) (a1 : Addr) (a2 : Addr) : entryFrame m #[(.ref a1), (.ref a2), (.int (0 : Int32)), (.int (2 : Int32)), .null] 6 = (mkF m 0 #[.val (.ref a1), .val (.ref a2), .val (.int (0 : Int32)), .val (.int (2 : Int32)), .val .null, .unset] []) := by first | (simp [entryFrame, mkF, argsToLocals, Value.category]; done) | rfl
def Q_ini4_2 (Z : State) (a1 : Addr) (a2 : Addr) (ka : ClassId) (c0 : Int32) (c1 : Int32) (w_COMPACT_STRINGS : Int32) (u_coder_a1 : Value) (u_value_a1 : Value) (h0 : Heap) (n0 : Nat) (v : Option Value) (h : Heap) (L : List Loc) : Prop := ∃ (b1_3 : Addr) (k1_3 : ClassId), v = none ∧ Fr n0 L ∧ Keep h0 h [a1] ∧ h0.size ≤ b1_3 ∧ Exa Z h a1 "java/lang/String" ∧ Fld Z h a1 "java/lang/String" "coder" "B" (.int (0 : Int32)) ∧ Fld Z h a1 "java/lang/String" "value" "[B" (.ref b1_3) ∧ Arv Z h b1_3 k1_3 .byte (2 : Int32) [(.int (nar .byte (c0.toInt8.toInt32))), (.int (nar .byte (c1.toInt8.toInt32)))] (.int (0 : Int32))
set_option maxRecDepth 65536 in
set_option maxHeartbeats 40000000 in
theorem rm_ini4_2 (l : Launch) (Z : State) (a0 : Array Value) (hw : ∀ d ∈ tables_1, d.before a0 Z = true) (ws : List Jvm.Cond) (a1 : Addr) (a2 : Addr) (ka : ClassId) (c0 : Int32) (c1 : Int32) (w_COMPACT_STRINGS : Int32) (u_coder_a1 : Value) (u_value_a1 : Value) (h0 : Heap) (n0 : Nat) (Z0 : n0 ≤ h0.size) (V_a2 : Arv Z h0 a2 ka .char (2 : Int32) [(.int c0), (.int c1)] (.int (0 : Int32))) (S_COMPACT_STRINGS : Sta Z h0 "java/lang/String" "COMPACT_STRINGS" "Z" (.int w_COMPACT_STRINGS)) (E_a1 : Exa Z h0 a1 "java/lang/String") (F_coder_a1 : Fld Z h0 a1 "java/lang/String" "coder" "B" u_coder_a1) (g_a1 : n0 ≤ a1) (F_value_a1 : Fld Z h0 a1 "java/lang/String" "value" "[B" u_value_a1) (hch0 : ¬ ((255 : Int32) < c0)) (hch1 : ¬ ((255 : Int32) < c1)) (hCS : ¬ (w_COMPACT_STRINGS = (0 : Int32))) :
    MetFree l (⟨"java/lang/String", "<init>", "([CIILjava/lang/Void;)V"⟩ : MethodName) (head1 (Jvm.Cond.code (⟨"java/lang/String", "<init>", "([CIILjava/lang/Void;)V"⟩ : MethodName) jdk_42_method_149_code 6 none :: ws) ({ frames := 2, cells := 1, slots := 2, locals := 35 } : Room)) (fun a U => a = #[(.ref a1), (.ref a2), (.int (0 : Int32)), (.int (2 : Int32)), .null] ∧ Z.Warmed39 U.vm ∧ U.heap = h0) (fun _ _ _ _ _ => True) (fun _ U o U' => ∃ v L, o = .returned v ∧ Q_ini4_2 Z a1 a2 ka c0 c1 w_COMPACT_STRINGS u_coder_a1 u_value_a1 h0 n0 v U'.heap L ∧ FrameEnd U o U' L ({ frames := 2, cells := 1, slots := 2, locals := 35 } : Room).cells ({ frames := 2, cells := 1, slots := 2, locals := 35 } : Room).slots) := by
  refine MetFree.of_bodySF (plainFor_of_name pn2) hisR ?_
  intro p e s m args below meth c s₁ Bd hml0 hP hK
  obtain ⟨rfl, hZ, hh⟩ := hP
  have hx := Bd.exec
  have hby := Bd.bytes
  have hml : c.maxLocals = 6 := hml0
  have hown : s.vm.findClass "java/lang/String" = some m.cls := findClass_of_methodNamed Bd.named
  have hnm := (name_of_methodNamed Bd.named Bd.method).1
  have X0 : Stand p l e ({ frames := 2, cells := 1, slots := 2, locals := 35 } : Room) s m #[(.ref a1), (.ref a2), (.int (0 : Int32)), (.int (2 : Int32)), .null] below meth c s₁ [] 0 0 := Stand.of_body Bd
  have e0 : s₁.heap = h0 := by rw [← hh, Bd.state]; rfl
  have N0 := Fr.nil n0
  have pre0 : ∀ t, Steps p.tables e below (s₁.setTop (mkF m 0 #[.val (.ref a1), .val (.ref a2), .val (.int (0 : Int32)), .val (.int (2 : Int32)), .val .null, .unset] [])) t → Steps p.tables e below (s₁.setTop (entryFrame m #[(.ref a1), (.ref a2), (.int (0 : Int32)), (.int (2 : Int32)), .null] 6)) t := fun t k => castTop (ef_ini4_2 m a1 a2) k
  obtain ⟨T1, X1, e1, st1⟩ := initO X0 hx hZ hown (hw _ (List.mem_of_getElem? (i := 18) rfl)) (hw _ (List.mem_of_getElem? (i := 19) rfl)) (hw _ (List.mem_of_getElem? (i := 20) rfl)) e0 (g := (mkF m 1 #[.val (.ref a1), .val (.ref a2), .val (.int (0 : Int32)), .val (.int (2 : Int32)), .val .null, .unset] [(.ref a1)])) rfl (by rw [hml]; rfl) rfl (hb hby d3_1) (by decide) (W := 0) (by show 2 * 0 + _ ≤ _; exact Nat.le_of_eq rfl) (by decide)
  obtain ⟨T2, X2, e2, st2⟩ := getS2 X1 hx hZ hown (host := "") (Or.inl (hw _ (List.mem_of_getElem? (i := 21) rfl))) Via.refl e1 S_COMPACT_STRINGS (g := (mkF m 27 #[.val (.ref a1), .val (.ref a2), .val (.int (0 : Int32)), .val (.int (2 : Int32)), .val .null, .unset] [])) rfl (hb hby d3_27)
  obtain ⟨_, _, ⟨T3, L3, k3, n3⟩, -, X3, ⟨Lc3, hQ3, l3, y3, z3⟩, st3⟩ := Jvm.LawKit.callS X2 hx (y := (⟨"java/lang/StringUTF16", "compress", "([CII)[B"⟩ : MethodName)) hown (mvT hZ (hw _ (List.mem_of_getElem? (i := 22) rfl))) (mvT hZ (hw _ (List.mem_of_getElem? (i := 23) rfl))) (mvT hZ (hw _ (List.mem_of_getElem? (i := 24) rfl))) (mvT hZ (hw _ (List.mem_of_getElem? (i := 25) rfl))) (by decide) (backOf (W := 0) (rm_cmp3_2 l Z a0 hw [] a2 ka c0 c1 h0 n0 (Nat.le_trans Z0 (Keep.refl h0 [a1]).1) V_a2 (hch0 : ¬ ((255 : Int32) < c0)) (hch1 : ¬ ((255 : Int32) < c1))) hZ (hw _ (List.mem_of_getElem? (i := 25) rfl)) (hw _ (List.mem_of_getElem? (i := 24) rfl)) (by decide) (by decide)) (g := (mkF m 36 #[.val (.ref a1), .val (.ref a2), .val (.int (0 : Int32)), .val (.int (2 : Int32)), .val .null, .unset] [(.int (2 : Int32)), (.int (0 : Int32)), (.ref a2)])) rfl (by rw [hml]; rfl) (argsL := [(.ref a2), (.int (0 : Int32)), (.int (2 : Int32))]) (rest := []) (lenOf pd1 rfl) rfl (by show 2 * 0 + _ ≤ _; exact Nat.le_of_eq rfl) (hb hby d3_36) (fun _ _ => ⟨rfl, e2, (by decide : 0 + 1 ≤ _), (by decide : 0 + 2 ≤ _)⟩)
  dsimp only [Pt.U, Pt.locs, Pt.cells, Pt.slots] at X3 l3 y3 z3 st3 hQ3
  subst l3 y3 z3
  obtain ⟨b1_3, k1_3, rfl, N3q, K3, s3_b1, f3_0⟩ := hQ3
  have N3 := Fr.app N0 N3q
  have sz_b1_3 : h0.size ≤ b1_3 := Nat.le_trans (Keep.refl h0 [a1]).1 s3_b1
  have g_b1_3 : n0 ≤ b1_3 := Nat.le_trans Z0 sz_b1_3
  have KK3 : Keep h0 T3.heap [a1] := (Keep.refl h0 [a1]).trans K3 all0
  obtain ⟨_, _, ⟨T4, L4, k4, n4⟩, -, X4, ⟨Lc4, hQ4, l4, y4, z4⟩, st4⟩ := Jvm.LawKit.callS X3 hx (y := (⟨"java/lang/StringUTF16", "coderFromArrayLen", "([BI)B"⟩ : MethodName)) hown (mvT hZ (hw _ (List.mem_of_getElem? (i := 30) rfl))) (mvT hZ (hw _ (List.mem_of_getElem? (i := 31) rfl))) (mvT hZ (hw _ (List.mem_of_getElem? (i := 24) rfl))) (mvT hZ (hw _ (List.mem_of_getElem? (i := 32) rfl))) (by decide) (backOf (W := 1) (rm_cod_2 l Z a0 hw [] b1_3 k1_3 (nar .byte (c0.toInt8.toInt32)) (nar .byte (c1.toInt8.toInt32)) T3.heap n0 (Nat.le_trans Z0 KK3.1) f3_0 ) hZ (hw _ (List.mem_of_getElem? (i := 32) rfl)) (hw _ (List.mem_of_getElem? (i := 24) rfl)) (by decide) (by decide)) (g := (mkF m 45 #[.val (.ref a1), .val (.ref a2), .val (.int (0 : Int32)), .val (.int (2 : Int32)), .val .null, .val (.ref b1_3)] [(.int (2 : Int32)), (.ref b1_3), (.ref a1)])) rfl (by rw [hml]; rfl) (argsL := [(.ref b1_3), (.int (2 : Int32))]) (rest := [(.ref a1)]) (lenOf pd2 rfl) rfl (by show 2 * 0 + _ ≤ _; exact Nat.le_of_eq rfl) (hb hby d3_45) (fun _ _ => ⟨rfl, rfl, (by decide : 1 + 0 ≤ _), (by decide : 2 + 0 ≤ _)⟩)
  dsimp only [Pt.U, Pt.locs, Pt.cells, Pt.slots] at X4 l4 y4 z4 st4 hQ4
  subst l4 y4 z4
  obtain ⟨rfl, rfl, e4⟩ := hQ4
  have N4 := Fr.app N3 (Fr.nil n0)
  obtain ⟨T5, h5, X5, e5, W5, st5⟩ := putF X4 hx hZ hown (host := "") (Or.inl (hw _ (List.mem_of_getElem? (i := 33) rfl))) Via.refl e4 (F_coder_a1.keep K3 nin0) (E_a1.keep K3) (Or.inr ⟨(hw _ (List.mem_of_getElem? (i := 34) rfl)), rfl, hnm⟩) (hw _ (List.mem_of_getElem? (i := 9) rfl)) (ty := .byte) (by decide) rfl rfl (g := (mkF m 48 #[.val (.ref a1), .val (.ref a2), .val (.int (0 : Int32)), .val (.int (2 : Int32)), .val .null, .val (.ref b1_3)] [(.int (0 : Int32)), (.ref a1)])) rfl rfl (hb hby d3_48)
  have Fw5 := (F_coder_a1.keep K3 nin0).same W5
  have K5 : Keep h0 h5 [a1] := KK3.wr W5 (Or.inl (List.mem_of_getElem? (i := 0) rfl))
  have N5 := Fr.snoc X5 N4 g_a1
  obtain ⟨T6, h6, X6, e6, W6, st6⟩ := putF X5 hx hZ hown (host := "") (Or.inl (hw _ (List.mem_of_getElem? (i := 35) rfl))) Via.refl e5 ((F_value_a1.keep K3 nin0).other W5 (Or.inr (slot_ne (Or.inr (hw _ (List.mem_of_getElem? (i := 36) rfl))) (Or.inr (hw _ (List.mem_of_getElem? (i := 34) rfl))) (by decide) (t := (.array .byte)) (t' := .byte) (by decide) (by decide)))) ((E_a1.keep K3).wr W5) (Or.inr ⟨(hw _ (List.mem_of_getElem? (i := 36) rfl)), rfl, hnm⟩) (hw _ (List.mem_of_getElem? (i := 9) rfl)) (ty := (.array .byte)) (by decide) rfl rfl (g := (mkF m 54 #[.val (.ref a1), .val (.ref a2), .val (.int (0 : Int32)), .val (.int (2 : Int32)), .val .null, .val (.ref b1_3)] [(.ref b1_3), (.ref a1)])) rfl rfl (hb hby d3_54)
  have Fw6 := ((F_value_a1.keep K3 nin0).other W5 (Or.inr (slot_ne (Or.inr (hw _ (List.mem_of_getElem? (i := 36) rfl))) (Or.inr (hw _ (List.mem_of_getElem? (i := 34) rfl))) (by decide) (t := (.array .byte)) (t' := .byte) (by decide) (by decide)))).same W6
  have K6 : Keep h0 h6 [a1] := K5.wr W6 (Or.inl (List.mem_of_getElem? (i := 0) rfl))
  have N6 := Fr.snoc X6 N5 g_a1
  obtain ⟨fs, hr, hrun, hended, hW, hsame⟩ := X6.leave (v := none) (fun _ => rfl)
  refine ⟨_, _, pre0 _ ?_, hrun, hended, _, _, rfl, ?_, ⟨_, rfl⟩, hW, hsame.mono (by decide) (by decide)⟩
  · show Steps p.tables e below (s₁.setTop (mkF m 0 #[.val (.ref a1), .val (.ref a2), .val (.int (0 : Int32)), .val (.int (2 : Int32)), .val .null, .unset] [])) _
    refine XS.aloadN X0.here hx rfl (hb hby d3_0) rfl rfl ?_
    show Steps p.tables e below (s₁.setTop (mkF m 1 #[.val (.ref a1), .val (.ref a2), .val (.int (0 : Int32)), .val (.int (2 : Int32)), .val .null, .unset] [(.ref a1)])) _
    refine st1 _ ?_
    show Steps p.tables e below (T1.setTop (mkF m 4 #[.val (.ref a1), .val (.ref a2), .val (.int (0 : Int32)), .val (.int (2 : Int32)), .val .null, .unset] [])) _
    refine XS.iloadN X1.here hx rfl (hb hby d3_4) rfl ?_
    show Steps p.tables e below (T1.setTop (mkF m 5 #[.val (.ref a1), .val (.ref a2), .val (.int (0 : Int32)), .val (.int (2 : Int32)), .val .null, .unset] [(.int (2 : Int32))])) _
    refine XS.ifYes X1.here hx rfl (pc0 := 5) (pc' := 27) rfl (hb hby d3_5) rfl ((if0 _ _).trans (feq (by decide : ¬ ((2 : Int32) = (0 : Int32)))).2) (by decide) (by decide) ?_
    show Steps p.tables e below (T1.setTop (mkF m 27 #[.val (.ref a1), .val (.ref a2), .val (.int (0 : Int32)), .val (.int (2 : Int32)), .val .null, .unset] [])) _
    refine st2 _ ?_
    show Steps p.tables e below (T2.setTop (mkF m 30 #[.val (.ref a1), .val (.ref a2), .val (.int (0 : Int32)), .val (.int (2 : Int32)), .val .null, .unset] [(.int w_COMPACT_STRINGS)])) _
    refine XS.ifNo X2.here hx rfl (hb hby d3_30) rfl ((if0 _ _).trans (feq (hCS : ¬ (w_COMPACT_STRINGS = (0 : Int32)))).1) ?_
    show Steps p.tables e below (T2.setTop (mkF m 33 #[.val (.ref a1), .val (.ref a2), .val (.int (0 : Int32)), .val (.int (2 : Int32)), .val .null, .unset] [])) _
    refine XS.aloadN X2.here hx rfl (hb hby d3_33) rfl rfl ?_
    show Steps p.tables e below (T2.setTop (mkF m 34 #[.val (.ref a1), .val (.ref a2), .val (.int (0 : Int32)), .val (.int (2 : Int32)), .val .null, .unset] [(.ref a2)])) _
    refine XS.iloadN X2.here hx rfl (hb hby d3_34) rfl ?_
    show Steps p.tables e below (T2.setTop (mkF m 35 #[.val (.ref a1), .val (.ref a2), .val (.int (0 : Int32)), .val (.int (2 : Int32)), .val .null, .unset] [(.int (0 : Int32)), (.ref a2)])) _
    refine XS.iloadN X2.here hx rfl (hb hby d3_35) rfl ?_
    show Steps p.tables e below (T2.setTop (mkF m 36 #[.val (.ref a1), .val (.ref a2), .val (.int (0 : Int32)), .val (.int (2 : Int32)), .val .null, .unset] [(.int (2 : Int32)), (.int (0 : Int32)), (.ref a2)])) _
    refine st3 _ ?_
    show Steps p.tables e below (T3.setTop (mkF m 39 #[.val (.ref a1), .val (.ref a2), .val (.int (0 : Int32)), .val (.int (2 : Int32)), .val .null, .unset] [(.ref b1_3)])) _
    refine XS.astore X3.here hx rfl (hb hby d3_39) rfl rfl (l' := #[.val (.ref a1), .val (.ref a2), .val (.int (0 : Int32)), .val (.int (2 : Int32)), .val .null, .val (.ref b1_3)]) rfl ?_
    show Steps p.tables e below (T3.setTop (mkF m 41 #[.val (.ref a1), .val (.ref a2), .val (.int (0 : Int32)), .val (.int (2 : Int32)), .val .null, .val (.ref b1_3)] [])) _
    refine XS.aloadN X3.here hx rfl (hb hby d3_41) rfl rfl ?_
    show Steps p.tables e below (T3.setTop (mkF m 42 #[.val (.ref a1), .val (.ref a2), .val (.int (0 : Int32)), .val (.int (2 : Int32)), .val .null, .val (.ref b1_3)] [(.ref a1)])) _
    refine XS.aload X3.here hx rfl (hb hby d3_42) rfl rfl ?_
    show Steps p.tables e below (T3.setTop (mkF m 44 #[.val (.ref a1), .val (.ref a2), .val (.int (0 : Int32)), .val (.int (2 : Int32)), .val .null, .val (.ref b1_3)] [(.ref b1_3), (.ref a1)])) _
    refine XS.iloadN X3.here hx rfl (hb hby d3_44) rfl ?_
    show Steps p.tables e below (T3.setTop (mkF m 45 #[.val (.ref a1), .val (.ref a2), .val (.int (0 : Int32)), .val (.int (2 : Int32)), .val .null, .val (.ref b1_3)] [(.int (2 : Int32)), (.ref b1_3), (.ref a1)])) _
    refine st4 _ ?_
    show Steps p.tables e below (T4.setTop (mkF m 48 #[.val (.ref a1), .val (.ref a2), .val (.int (0 : Int32)), .val (.int (2 : Int32)), .val .null, .val (.ref b1_3)] [(.int (0 : Int32)), (.ref a1)])) _
    refine st5 _ ?_
    show Steps p.tables e below (T5.setTop (mkF m 51 #[.val (.ref a1), .val (.ref a2), .val (.int (0 : Int32)), .val (.int (2 : Int32)), .val .null, .val (.ref b1_3)] [])) _
    refine XS.aloadN X5.here hx rfl (hb hby d3_51) rfl rfl ?_
    show Steps p.tables e below (T5.setTop (mkF m 52 #[.val (.ref a1), .val (.ref a2), .val (.int (0 : Int32)), .val (.int (2 : Int32)), .val .null, .val (.ref b1_3)] [(.ref a1)])) _
    refine XS.aload X5.here hx rfl (hb hby d3_52) rfl rfl ?_
    show Steps p.tables e below (T5.setTop (mkF m 54 #[.val (.ref a1), .val (.ref a2), .val (.int (0 : Int32)), .val (.int (2 : Int32)), .val .null, .val (.ref b1_3)] [(.ref b1_3), (.ref a1)])) _
    refine st6 _ ?_
    show Steps p.tables e below (T6.setTop (mkF m 57 #[.val (.ref a1), .val (.ref a2), .val (.int (0 : Int32)), .val (.int (2 : Int32)), .val .null, .val (.ref b1_3)] [])) _
    exact X6.returnOut hx Bd.returns (hb hby d3_57) hr
  · show Q_ini4_2 Z a1 a2 ka c0 c1 w_COMPACT_STRINGS u_coder_a1 u_value_a1 h0 n0 _ T6.heap _
    rw [e6]
    exact ⟨b1_3, k1_3, rfl, N6, K6, sz_b1_3, (((E_a1.keep K3).wr W5).wr W6), (Fw5.other W6 (Or.inr (slot_ne (Or.inr (hw _ (List.mem_of_getElem? (i := 34) rfl))) (Or.inr (hw _ (List.mem_of_getElem? (i := 36) rfl))) (by decide) (t := .byte) (t' := (.array .byte)) (by decide) (by decide)))), Fw6, ((f3_0.other W5 (Ne.symm (Nat.ne_of_lt (Nat.lt_of_lt_of_le E_a1.lt s3_b1)))).other W6 (Ne.symm (Nat.ne_of_lt (Nat.lt_of_lt_of_le E_a1.lt s3_b1))))⟩
theorem d2_0 : decode jdk_42_method_3_code 0 = .ok (.aload_n 0, 1) := by decide +kernel
theorem d2_1 : decode jdk_42_method_3_code 1 = .ok (.aload_n 1, 1) := by decide +kernel
theorem d2_2 : decode jdk_42_method_3_code 2 = .ok (.iconst 0, 1) := by decide +kernel
theorem d2_3 : decode jdk_42_method_3_code 3 = .ok (.aload_n 1, 1) := by decide +kernel
theorem d2_4 : decode jdk_42_method_3_code 4 = .ok (.arraylength, 1) := by decide +kernel
theorem d2_5 : decode jdk_42_method_3_code 5 = .ok (.aconst_null, 1) := by decide +kernel
theorem d2_6 : decode jdk_42_method_3_code 6 = .ok (.invokespecial 27, 3) := by decide +kernel
theorem d2_9 : decode jdk_42_method_3_code 9 = .ok (.return_, 1) := by decide +kernel
theorem pd3 : parseMethodDescriptor "([CIILjava/lang/Void;)V" = some ⟨[(.array .char), .int, .int, (.object "java/lang/Void")], none⟩ := by decide +kernel
theorem ef_ini1_2 (m : MethodId) (a1 : Addr) (a2 : Addr) : entryFrame m #[(.ref a1), (.ref a2)] 2 = (mkF m 0 #[.val (.ref a1), .val (.ref a2)] []) := by first | (simp [entryFrame, mkF, argsToLocals, Value.category]; done) | rfl
def Q_ini1_2 (Z : State) (a1 : Addr) (a2 : Addr) (ka : ClassId) (c0 : Int32) (c1 : Int32) (w_COMPACT_STRINGS : Int32) (u_coder_a1 : Value) (u_value_a1 : Value) (h0 : Heap) (n0 : Nat) (v : Option Value) (h : Heap) (L : List Loc) : Prop := ∃ (b1_3_2 : Addr) (k1_3_2 : ClassId), v = none ∧ Fr n0 L ∧ Keep h0 h [a1] ∧ h0.size ≤ b1_3_2 ∧ Exa Z h a1 "java/lang/String" ∧ Fld Z h a1 "java/lang/String" "coder" "B" (.int (0 : Int32)) ∧ Fld Z h a1 "java/lang/String" "value" "[B" (.ref b1_3_2) ∧ Arv Z h b1_3_2 k1_3_2 .byte (2 : Int32) [(.int (nar .byte (c0.toInt8.toInt32))), (.int (nar .byte (c1.toInt8.toInt32)))] (.int (0 : Int32))
set_option maxRecDepth 65536 in
set_option maxHeartbeats 40000000 in
theorem rm_ini1_2 (l : Launch) (Z : State) (a0 : Array Value) (hw : ∀ d ∈ tables_1, d.before a0 Z = true) (ws : List Jvm.Cond) (a1 : Addr) (a2 : Addr) (ka : ClassId) (c0 : Int32) (c1 : Int32) (w_COMPACT_STRINGS : Int32) (u_coder_a1 : Value) (u_value_a1 : Value) (h0 : Heap) (n0 : Nat) (Z0 : n0 ≤ h0.size) (V_a2 : Arv Z h0 a2 ka .char (2 : Int32) [(.int c0), (.int c1)] (.int (0 : Int32))) (S_COMPACT_STRINGS : Sta Z h0 "java/lang/String" "COMPACT_STRINGS" "Z" (.int w_COMPACT_STRINGS)) (E_a1 : Exa Z h0 a1 "java/lang/String") (F_coder_a1 : Fld Z h0 a1 "java/lang/String" "coder" "B" u_coder_a1) (g_a1 : n0 ≤ a1) (F_value_a1 : Fld Z h0 a1 "java/lang/String" "value" "[B" u_value_a1) (hch0 : ¬ ((255 : Int32) < c0)) (hch1 : ¬ ((255 : Int32) < c1)) (hCS : ¬ (w_COMPACT_STRINGS = (0 : Int32))) :
    MetFree l (⟨"java/lang/String", "<init>", "([C)V"⟩ : MethodName) (head1 (Jvm.Cond.code (⟨"java/lang/String", "<init>", "([C)V"⟩ : MethodName) jdk_42_method_3_code 2 none :: ws) ({ frames := 3, cells := 1, slots := 2, locals := 52 } : Room)) (fun a U => a = #[(.ref a1), (.ref a2)] ∧ Z.Warmed39 U.vm ∧ U.heap = h0) (fun _ _ _ _ _ => True) (fun _ U o U' => ∃ v L, o = .returned v ∧ Q_ini1_2 Z a1 a2 ka c0 c1 w_COMPACT_STRINGS u_coder_a1 u_value_a1 h0 n0 v U'.heap L ∧ FrameEnd U o U' L ({ frames := 3, cells := 1, slots := 2, locals := 52 } : Room).cells ({ frames := 3, cells := 1, slots := 2, locals := 52 } : Room).slots) := by
  refine MetFree.of_bodySF (plainFor_of_name pn2) hisR ?_
  intro p e s m args below meth c s₁ Bd hml0 hP hK
  obtain ⟨rfl, hZ, hh⟩ := hP
  have hx := Bd.exec
  have hby := Bd.bytes
  have hml : c.maxLocals = 2 := hml0
  have hown : s.vm.findClass "java/lang/String" = some m.cls := findClass_of_methodNamed Bd.named
  have hnm := (name_of_methodNamed Bd.named Bd.method).1
  have X0 : Stand p l e ({ frames := 3, cells := 1, slots := 2, locals := 52 } : Room) s m #[(.ref a1), (.ref a2)] below meth c s₁ [] 0 0 := Stand.of_body Bd
  have e0 : s₁.heap = h0 := by rw [← hh, Bd.state]; rfl
  have N0 := Fr.nil n0
  have pre0 : ∀ t, Steps p.tables e below (s₁.setTop (mkF m 0 #[.val (.ref a1), .val (.ref a2)] [])) t → Steps p.tables e below (s₁.setTop (entryFrame m #[(.ref a1), (.ref a2)] 2)) t := fun t k => castTop (ef_ini1_2 m a1 a2) k
  obtain ⟨cl_a2_4_1, Ar_a2_4_1, -, S_a2_4_1, N_a2_4_1, -, -⟩ := id V_a2
  obtain ⟨_, _, ⟨T2, L2, k2, n2⟩, -, X2, ⟨Lc2, hQ2, l2, y2, z2⟩, st2⟩ := X0.specialBack hx (y := (⟨"java/lang/String", "<init>", "([CIILjava/lang/Void;)V"⟩ : MethodName)) rfl hown (mvT hZ (hw _ (List.mem_of_getElem? (i := 14) rfl))) (mvT hZ (hw _ (List.mem_of_getElem? (i := 15) rfl))) (mvT hZ (hw _ (List.mem_of_getElem? (i := 17) rfl))) (by decide) (backOf (W := 0) (rm_ini4_2 l Z a0 hw [] a1 a2 ka c0 c1 w_COMPACT_STRINGS u_coder_a1 u_value_a1 h0 n0 (Nat.le_trans Z0 (Keep.refl h0 [a1]).1) V_a2 S_COMPACT_STRINGS E_a1 F_coder_a1 g_a1 F_value_a1 (hch0 : ¬ ((255 : Int32) < c0)) (hch1 : ¬ ((255 : Int32) < c1)) (hCS : ¬ (w_COMPACT_STRINGS = (0 : Int32)))) hZ (hw _ (List.mem_of_getElem? (i := 17) rfl)) (hw _ (List.mem_of_getElem? (i := 10) rfl)) (by decide) (by decide)) (g := (mkF m 6 #[.val (.ref a1), .val (.ref a2)] [.null, (.int (2 : Int32)), (.int (0 : Int32)), (.ref a2), (.ref a1)])) rfl (by rw [hml]; rfl) (Steps.refl _) (a := a1) (argsL := [(.ref a2), (.int (0 : Int32)), (.int (2 : Int32)), .null]) (rest := []) (lenOf pd3 rfl) rfl (by show 2 * 0 + _ ≤ _; exact Nat.le_of_eq rfl) (hb hby d2_6) (fun _ _ => ⟨rfl, e0, (by decide : 0 + 1 ≤ _), (by decide : 0 + 2 ≤ _)⟩)
  dsimp only [Pt.U, Pt.locs, Pt.cells, Pt.slots] at X2 l2 y2 z2 st2 hQ2
  subst l2 y2 z2
  obtain ⟨b1_3_2, k1_3_2, rfl, N2q, K2, s2_b1_3, f2_0, f2_1, f2_2, f2_3⟩ := hQ2
  have N2 := Fr.app N0 N2q
  have sz_b1_3_2 : h0.size ≤ b1_3_2 := Nat.le_trans (Keep.refl h0 [a1]).1 s2_b1_3
  have g_b1_3_2 : n0 ≤ b1_3_2 := Nat.le_trans Z0 sz_b1_3_2
  have KK2 : Keep h0 T2.heap [a1] := (Keep.refl h0 [a1]).trans K2 (allS (Or.inl (List.mem_of_getElem? (i := 0) rfl)) all0)
  obtain ⟨fs, hr, hrun, hended, hW, hsame⟩ := X2.leave (v := none) (fun _ => rfl)
  refine ⟨_, _, pre0 _ ?_, hrun, hended, _, _, rfl, ?_, ⟨_, rfl⟩, hW, hsame.mono (by decide) (by decide)⟩
  · show Steps p.tables e below (s₁.setTop (mkF m 0 #[.val (.ref a1), .val (.ref a2)] [])) _
    refine XS.aloadN X0.here hx rfl (hb hby d2_0) rfl rfl ?_
    show Steps p.tables e below (s₁.setTop (mkF m 1 #[.val (.ref a1), .val (.ref a2)] [(.ref a1)])) _
    refine XS.aloadN X0.here hx rfl (hb hby d2_1) rfl rfl ?_
    show Steps p.tables e below (s₁.setTop (mkF m 2 #[.val (.ref a1), .val (.ref a2)] [(.ref a2), (.ref a1)])) _
    refine XS.iconst X0.here hx rfl (hb hby d2_2) ?_
    show Steps p.tables e below (s₁.setTop (mkF m 3 #[.val (.ref a1), .val (.ref a2)] [(.int (0 : Int32)), (.ref a2), (.ref a1)])) _
    refine XS.aloadN X0.here hx rfl (hb hby d2_3) rfl rfl ?_
    show Steps p.tables e below (s₁.setTop (mkF m 4 #[.val (.ref a1), .val (.ref a2)] [(.ref a2), (.int (0 : Int32)), (.ref a2), (.ref a1)])) _
    refine X0.arraylength hx (by rw [e0]; exact Ar_a2_4_1.1) (State.isArrayOf_alike hZ.alike Ar_a2_4_1.2.1) (g := (mkF m 4 #[.val (.ref a1), .val (.ref a2)] [(.ref a2), (.int (0 : Int32)), (.ref a2), (.ref a1)])) rfl rfl (hb hby d2_4) _ ?_
    rw [len_of S_a2_4_1 N_a2_4_1]
    show Steps p.tables e below (s₁.setTop (mkF m 5 #[.val (.ref a1), .val (.ref a2)] [(.int (2 : Int32)), (.int (0 : Int32)), (.ref a2), (.ref a1)])) _
    refine XS.aconstNull X0.here hx rfl (hb hby d2_5) ?_
    show Steps p.tables e below (s₁.setTop (mkF m 6 #[.val (.ref a1), .val (.ref a2)] [.null, (.int (2 : Int32)), (.int (0 : Int32)), (.ref a2), (.ref a1)])) _
    refine st2.trans ?_
    show Steps p.tables e below (T2.setTop (mkF m 9 #[.val (.ref a1), .val (.ref a2)] [])) _
    exact X2.returnOut hx Bd.returns (hb hby d2_9) hr
  · show Q_ini1_2 Z a1 a2 ka c0 c1 w_COMPACT_STRINGS u_coder_a1 u_value_a1 h0 n0 _ T2.heap _
    exact ⟨b1_3_2, k1_3_2, rfl, N2, KK2, sz_b1_3_2, (E_a1.keep K2), f2_1, f2_2, f2_3⟩
theorem d11_0 : decode jdk_43_method_13_code 0 = .ok (.aload_n 0, 1) := by decide +kernel
theorem d11_1 : decode jdk_43_method_13_code 1 = .ok (.arraylength, 1) := by decide +kernel
theorem d11_2 : decode jdk_43_method_13_code 2 = .ok (.aload_n 1, 1) := by decide +kernel
theorem d11_3 : decode jdk_43_method_13_code 3 = .ok (.arraylength, 1) := by decide +kernel
theorem d11_4 : decode jdk_43_method_13_code 4 = .ok (.if_icmp .ne 30, 3) := by decide +kernel
theorem d11_7 : decode jdk_43_method_13_code 7 = .ok (.iconst 0, 1) := by decide +kernel
theorem d11_8 : decode jdk_43_method_13_code 8 = .ok (.istore_n 2, 1) := by decide +kernel
theorem d11_9 : decode jdk_43_method_13_code 9 = .ok (.iload_n 2, 1) := by decide +kernel
theorem d11_10 : decode jdk_43_method_13_code 10 = .ok (.aload_n 0, 1) := by decide +kernel
theorem d11_11 : decode jdk_43_method_13_code 11 = .ok (.arraylength, 1) := by decide +kernel
theorem d11_12 : decode jdk_43_method_13_code 12 = .ok (.if_icmp .ge 20, 3) := by decide +kernel
theorem d11_15 : decode jdk_43_method_13_code 15 = .ok (.aload_n 0, 1) := by decide +kernel
theorem d11_16 : decode jdk_43_method_13_code 16 = .ok (.iload_n 2, 1) := by decide +kernel
theorem d11_17 : decode jdk_43_method_13_code 17 = .ok (.baload, 1) := by decide +kernel
theorem d11_18 : decode jdk_43_method_13_code 18 = .ok (.aload_n 1, 1) := by decide +kernel
theorem d11_19 : decode jdk_43_method_13_code 19 = .ok (.iload_n 2, 1) := by decide +kernel
theorem d11_20 : decode jdk_43_method_13_code 20 = .ok (.baload, 1) := by decide +kernel
theorem d11_21 : decode jdk_43_method_13_code 21 = .ok (.if_icmp .eq 5, 3) := by decide +kernel
theorem d11_24 : decode jdk_43_method_13_code 24 = .ok (.iconst 0, 1) := by decide +kernel
theorem d11_25 : decode jdk_43_method_13_code 25 = .ok (.ireturn, 1) := by decide +kernel
theorem d11_26 : decode jdk_43_method_13_code 26 = .ok (.iinc 2 1, 3) := by decide +kernel
theorem d11_29 : decode jdk_43_method_13_code 29 = .ok (.goto (-20), 3) := by decide +kernel
theorem d11_32 : decode jdk_43_method_13_code 32 = .ok (.iconst 1, 1) := by decide +kernel
theorem d11_33 : decode jdk_43_method_13_code 33 = .ok (.ireturn, 1) := by decide +kernel
def res_leq_2_2 (x0 : Int32) (x1 : Int32) (y0 : Int32) (y1 : Int32) : Int32 := if x0 = y0 then (if x1 = y1 then (1 : Int32) else (0 : Int32)) else (0 : Int32)
theorem pn3 : plainName "java/lang/StringLatin1" = true := by first | (simp [plainName, overriddenIn]; done) | decide +kernel
theorem ef_leq_2_2 (m : MethodId) (a1 : Addr) (a2 : Addr) : entryFrame m #[(.ref a1), (.ref a2)] 3 = (mkF m 0 #[.val (.ref a1), .val (.ref a2), .unset] []) := by first | (simp [entryFrame, mkF, argsToLocals, Value.category]; done) | rfl
def Q_leq_2_2 (Z : State) (a1 : Addr) (a2 : Addr) (ka : ClassId) (x0 : Int32) (x1 : Int32) (kb : ClassId) (y0 : Int32) (y1 : Int32) (h0 : Heap) (n0 : Nat) (v : Option Value) (h : Heap) (L : List Loc) : Prop := v = some (.int (res_leq_2_2 x0 x1 y0 y1)) ∧ L = [] ∧ h = h0
set_option maxRecDepth 65536 in
set_option maxHeartbeats 40000000 in
theorem rm_leq_2_2 (l : Launch) (Z : State) (a0 : Array Value) (hw : ∀ d ∈ tables_1, d.before a0 Z = true) (ws : List Jvm.Cond) (a1 : Addr) (a2 : Addr) (ka : ClassId) (x0 : Int32) (x1 : Int32) (kb : ClassId) (y0 : Int32) (y1 : Int32) (h0 : Heap) (n0 : Nat) (Z0 : n0 ≤ h0.size) (V_a1 : Arv Z h0 a1 ka .byte (2 : Int32) [(.int x0), (.int x1)] (.int (0 : Int32))) (V_a2 : Arv Z h0 a2 kb .byte (2 : Int32) [(.int y0), (.int y1)] (.int (0 : Int32))) :
    MetFree l (⟨"java/lang/StringLatin1", "equals", "([B[B)Z"⟩ : MethodName) (head1 (Jvm.Cond.code (⟨"java/lang/StringLatin1", "equals", "([B[B)Z"⟩ : MethodName) jdk_43_method_13_code 3 (some .boolean) :: ws) ({ frames := 0, cells := 0, slots := 0, locals := 0 } : Room)) (fun a U => a = #[(.ref a1), (.ref a2)] ∧ Z.Warmed39 U.vm ∧ U.heap = h0) (fun _ _ _ _ _ => True) (fun _ U o U' => ∃ v L, o = .returned v ∧ Q_leq_2_2 Z a1 a2 ka x0 x1 kb y0 y1 h0 n0 v U'.heap L ∧ FrameEnd U o U' L ({ frames := 0, cells := 0, slots := 0, locals := 0 } : Room).cells ({ frames := 0, cells := 0, slots := 0, locals := 0 } : Room).slots) := by
  refine MetFree.of_bodySF (plainFor_of_name pn3) hisR ?_
  intro p e s m args below meth c s₁ Bd hml0 hP hK
  obtain ⟨rfl, hZ, hh⟩ := hP
  have hx := Bd.exec
  have hby := Bd.bytes
  have hml : c.maxLocals = 3 := hml0
  have hown : s.vm.findClass "java/lang/StringLatin1" = some m.cls := findClass_of_methodNamed Bd.named
  have hnm := (name_of_methodNamed Bd.named Bd.method).1
  have X0 : Stand p l e ({ frames := 0, cells := 0, slots := 0, locals := 0 } : Room) s m #[(.ref a1), (.ref a2)] below meth c s₁ [] 0 0 := Stand.of_body Bd
  have e0 : s₁.heap = h0 := by rw [← hh, Bd.state]; rfl
  have N0 := Fr.nil n0
  have pre0 : ∀ t, Steps p.tables e below (s₁.setTop (mkF m 0 #[.val (.ref a1), .val (.ref a2), .unset] [])) t → Steps p.tables e below (s₁.setTop (entryFrame m #[(.ref a1), (.ref a2)] 3)) t := fun t k => castTop (ef_leq_2_2 m a1 a2) k
  obtain ⟨cl_a1_1_1, Ar_a1_1_1, -, S_a1_1_1, N_a1_1_1, -, -⟩ := id V_a1
  obtain ⟨cl_a2_3_2, Ar_a2_3_2, -, S_a2_3_2, N_a2_3_2, -, -⟩ := id V_a2
  obtain ⟨cl_a1_11_3, Ar_a1_11_3, -, S_a1_11_3, N_a1_11_3, -, -⟩ := id V_a1
  obtain ⟨cl_a1_17_4, Ar_a1_17_4, q_a1_17_4, S_a1_17_4, N_a1_17_4, H_a1_17_4, G_a1_17_4⟩ := id V_a1
  have hin_a1_17_4 : ¬ ((0 : Int32) < 0 ∨ cl_a1_17_4.slots.size ≤ ((0 : Int32) : Int32).toNatClampNeg) := inb_of S_a1_17_4 ⟨by decide, by decide⟩
  obtain ⟨cl_a2_20_5, Ar_a2_20_5, q_a2_20_5, S_a2_20_5, N_a2_20_5, H_a2_20_5, G_a2_20_5⟩ := id V_a2
  have hin_a2_20_5 : ¬ ((0 : Int32) < 0 ∨ cl_a2_20_5.slots.size ≤ ((0 : Int32) : Int32).toNatClampNeg) := inb_of S_a2_20_5 ⟨by decide, by decide⟩
  have pre6 : ∀ t, Steps p.tables e below (s₁.setTop (mkF m 21 #[.val (.ref a1), .val (.ref a2), .val (.int (0 : Int32))] [(.int y0), (.int x0)])) t → Steps p.tables e below (s₁.setTop (entryFrame m #[(.ref a1), (.ref a2)] 3)) t := by
    intro t kt
    refine pre0 _ ?_
    show Steps p.tables e below (s₁.setTop (mkF m 0 #[.val (.ref a1), .val (.ref a2), .unset] [])) _
    refine XS.aloadN X0.here hx rfl (hb hby d11_0) rfl rfl ?_
    show Steps p.tables e below (s₁.setTop (mkF m 1 #[.val (.ref a1), .val (.ref a2), .unset] [(.ref a1)])) _
    refine X0.arraylength hx (by rw [e0]; exact Ar_a1_1_1.1) (State.isArrayOf_alike hZ.alike Ar_a1_1_1.2.1) (g := (mkF m 1 #[.val (.ref a1), .val (.ref a2), .unset] [(.ref a1)])) rfl rfl (hb hby d11_1) _ ?_
    rw [len_of S_a1_1_1 N_a1_1_1]
    show Steps p.tables e below (s₁.setTop (mkF m 2 #[.val (.ref a1), .val (.ref a2), .unset] [(.int (2 : Int32))])) _
    refine XS.aloadN X0.here hx rfl (hb hby d11_2) rfl rfl ?_
    show Steps p.tables e below (s₁.setTop (mkF m 3 #[.val (.ref a1), .val (.ref a2), .unset] [(.ref a2), (.int (2 : Int32))])) _
    refine X0.arraylength hx (by rw [e0]; exact Ar_a2_3_2.1) (State.isArrayOf_alike hZ.alike Ar_a2_3_2.2.1) (g := (mkF m 3 #[.val (.ref a1), .val (.ref a2), .unset] [(.ref a2), (.int (2 : Int32))])) rfl rfl (hb hby d11_3) _ ?_
    rw [len_of S_a2_3_2 N_a2_3_2]
    show Steps p.tables e below (s₁.setTop (mkF m 4 #[.val (.ref a1), .val (.ref a2), .unset] [(.int (2 : Int32)), (.int (2 : Int32))])) _
    refine XS.icmpNo X0.here hx rfl (hb hby d11_4) rfl (teq (by decide : (2 : Int32) = (2 : Int32))).2 ?_
    show Steps p.tables e below (s₁.setTop (mkF m 7 #[.val (.ref a1), .val (.ref a2), .unset] [])) _
    refine XS.iconst X0.here hx rfl (hb hby d11_7) ?_
    show Steps p.tables e below (s₁.setTop (mkF m 8 #[.val (.ref a1), .val (.ref a2), .unset] [(.int (0 : Int32))])) _
    refine XS.istoreN X0.here hx rfl (hb hby d11_8) rfl (l' := #[.val (.ref a1), .val (.ref a2), .val (.int (0 : Int32))]) rfl ?_
    show Steps p.tables e below (s₁.setTop (mkF m 9 #[.val (.ref a1), .val (.ref a2), .val (.int (0 : Int32))] [])) _
    refine XS.iloadN X0.here hx rfl (hb hby d11_9) rfl ?_
    show Steps p.tables e below (s₁.setTop (mkF m 10 #[.val (.ref a1), .val (.ref a2), .val (.int (0 : Int32))] [(.int (0 : Int32))])) _
    refine XS.aloadN X0.here hx rfl (hb hby d11_10) rfl rfl ?_
    show Steps p.tables e below (s₁.setTop (mkF m 11 #[.val (.ref a1), .val (.ref a2), .val (.int (0 : Int32))] [(.ref a1), (.int (0 : Int32))])) _
    refine X0.arraylength hx (by rw [e0]; exact Ar_a1_11_3.1) (State.isArrayOf_alike hZ.alike Ar_a1_11_3.2.1) (g := (mkF m 11 #[.val (.ref a1), .val (.ref a2), .val (.int (0 : Int32))] [(.ref a1), (.int (0 : Int32))])) rfl rfl (hb hby d11_11) _ ?_
    rw [len_of S_a1_11_3 N_a1_11_3]
    show Steps p.tables e below (s₁.setTop (mkF m 12 #[.val (.ref a1), .val (.ref a2), .val (.int (0 : Int32))] [(.int (2 : Int32)), (.int (0 : Int32))])) _
    refine XS.icmpNo X0.here hx rfl (hb hby d11_12) rfl (tlt (by decide : (0 : Int32) < (2 : Int32))).2.1 ?_
    show Steps p.tables e below (s₁.setTop (mkF m 15 #[.val (.ref a1), .val (.ref a2), .val (.int (0 : Int32))] [])) _
    refine XS.aloadN X0.here hx rfl (hb hby d11_15) rfl rfl ?_
    show Steps p.tables e below (s₁.setTop (mkF m 16 #[.val (.ref a1), .val (.ref a2), .val (.int (0 : Int32))] [(.ref a1)])) _
    refine XS.iloadN X0.here hx rfl (hb hby d11_16) rfl ?_
    show Steps p.tables e below (s₁.setTop (mkF m 17 #[.val (.ref a1), .val (.ref a2), .val (.int (0 : Int32))] [(.int (0 : Int32)), (.ref a1)])) _
    refine X0.baloadBytes hx (j := (0 : Int32)) (v := (.int x0)) (by rw [e0]; exact Ar_a1_17_4.1) (State.isArrayOf_alike hZ.alike Ar_a1_17_4.2.1) Ar_a1_17_4.2.2 hin_a1_17_4 (H_a1_17_4.at hin_a1_17_4 rfl) (g := (mkF m 17 #[.val (.ref a1), .val (.ref a2), .val (.int (0 : Int32))] [(.int (0 : Int32)), (.ref a1)])) rfl rfl (hb hby d11_17) _ ?_
    show Steps p.tables e below (s₁.setTop (mkF m 18 #[.val (.ref a1), .val (.ref a2), .val (.int (0 : Int32))] [(.int x0)])) _
    refine XS.aloadN X0.here hx rfl (hb hby d11_18) rfl rfl ?_
    show Steps p.tables e below (s₁.setTop (mkF m 19 #[.val (.ref a1), .val (.ref a2), .val (.int (0 : Int32))] [(.ref a2), (.int x0)])) _
    refine XS.iloadN X0.here hx rfl (hb hby d11_19) rfl ?_
    show Steps p.tables e below (s₁.setTop (mkF m 20 #[.val (.ref a1), .val (.ref a2), .val (.int (0 : Int32))] [(.int (0 : Int32)), (.ref a2), (.int x0)])) _
    refine X0.baloadBytes hx (j := (0 : Int32)) (v := (.int y0)) (by rw [e0]; exact Ar_a2_20_5.1) (State.isArrayOf_alike hZ.alike Ar_a2_20_5.2.1) Ar_a2_20_5.2.2 hin_a2_20_5 (H_a2_20_5.at hin_a2_20_5 rfl) (g := (mkF m 20 #[.val (.ref a1), .val (.ref a2), .val (.int (0 : Int32))] [(.int (0 : Int32)), (.ref a2), (.int x0)])) rfl rfl (hb hby d11_20) _ ?_
    exact kt
  by_cases hc21_7 : x0 = y0
  · obtain ⟨cl_a1_11_8, Ar_a1_11_8, -, S_a1_11_8, N_a1_11_8, -, -⟩ := id V_a1
    obtain ⟨cl_a1_17_9, Ar_a1_17_9, q_a1_17_9, S_a1_17_9, N_a1_17_9, H_a1_17_9, G_a1_17_9⟩ := id V_a1
    have hin_a1_17_9 : ¬ ((1 : Int32) < 0 ∨ cl_a1_17_9.slots.size ≤ ((1 : Int32) : Int32).toNatClampNeg) := inb_of S_a1_17_9 ⟨by decide, by decide⟩
    obtain ⟨cl_a2_20_10, Ar_a2_20_10, q_a2_20_10, S_a2_20_10, N_a2_20_10, H_a2_20_10, G_a2_20_10⟩ := id V_a2
    have hin_a2_20_10 : ¬ ((1 : Int32) < 0 ∨ cl_a2_20_10.slots.size ≤ ((1 : Int32) : Int32).toNatClampNeg) := inb_of S_a2_20_10 ⟨by decide, by decide⟩
    have pre11 : ∀ t, Steps p.tables e below (s₁.setTop (mkF m 21 #[.val (.ref a1), .val (.ref a2), .val (.int (1 : Int32))] [(.int y1), (.int x1)])) t → Steps p.tables e below (s₁.setTop (entryFrame m #[(.ref a1), (.ref a2)] 3)) t := by
      intro t kt
      refine pre6 _ ?_
      show Steps p.tables e below (s₁.setTop (mkF m 21 #[.val (.ref a1), .val (.ref a2), .val (.int (0 : Int32))] [(.int y0), (.int x0)])) _
      refine XS.icmpYes X0.here hx rfl (pc0 := 21) (pc' := 26) rfl (hb hby d11_21) rfl (teq hc21_7).1 (by decide) (by decide) ?_
      show Steps p.tables e below (s₁.setTop (mkF m 26 #[.val (.ref a1), .val (.ref a2), .val (.int (0 : Int32))] [])) _
      refine XS.iinc X0.here hx rfl (hb hby d11_26) rfl (l' := #[.val (.ref a1), .val (.ref a2), .val (.int (1 : Int32))]) rfl ?_
      show Steps p.tables e below (s₁.setTop (mkF m 29 #[.val (.ref a1), .val (.ref a2), .val (.int (1 : Int32))] [])) _
      refine XS.goto X0.here hx rfl (pc0 := 29) (pc' := 9) rfl (hb hby d11_29) (by decide) (by decide) ?_
      show Steps p.tables e below (s₁.setTop (mkF m 9 #[.val (.ref a1), .val (.ref a2), .val (.int (1 : Int32))] [])) _
      refine XS.iloadN X0.here hx rfl (hb hby d11_9) rfl ?_
      show Steps p.tables e below (s₁.setTop (mkF m 10 #[.val (.ref a1), .val (.ref a2), .val (.int (1 : Int32))] [(.int (1 : Int32))])) _
      refine XS.aloadN X0.here hx rfl (hb hby d11_10) rfl rfl ?_
      show Steps p.tables e below (s₁.setTop (mkF m 11 #[.val (.ref a1), .val (.ref a2), .val (.int (1 : Int32))] [(.ref a1), (.int (1 : Int32))])) _
      refine X0.arraylength hx (by rw [e0]; exact Ar_a1_11_8.1) (State.isArrayOf_alike hZ.alike Ar_a1_11_8.2.1) (g := (mkF m 11 #[.val (.ref a1), .val (.ref a2), .val (.int (1 : Int32))] [(.ref a1), (.int (1 : Int32))])) rfl rfl (hb hby d11_11) _ ?_
      rw [len_of S_a1_11_8 N_a1_11_8]
      show Steps p.tables e below (s₁.setTop (mkF m 12 #[.val (.ref a1), .val (.ref a2), .val (.int (1 : Int32))] [(.int (2 : Int32)), (.int (1 : Int32))])) _
      refine XS.icmpNo X0.here hx rfl (hb hby d11_12) rfl (tlt (by decide : (1 : Int32) < (2 : Int32))).2.1 ?_
      show Steps p.tables e below (s₁.setTop (mkF m 15 #[.val (.ref a1), .val (.ref a2), .val (.int (1 : Int32))] [])) _
      refine XS.aloadN X0.here hx rfl (hb hby d11_15) rfl rfl ?_
      show Steps p.tables e below (s₁.setTop (mkF m 16 #[.val (.ref a1), .val (.ref a2), .val (.int (1 : Int32))] [(.ref a1)])) _
      refine XS.iloadN X0.here hx rfl (hb hby d11_16) rfl ?_
      show Steps p.tables e below (s₁.setTop (mkF m 17 #[.val (.ref a1), .val (.ref a2), .val (.int (1 : Int32))] [(.int (1 : Int32)), (.ref a1)])) _
      refine X0.baloadBytes hx (j := (1 : Int32)) (v := (.int x1)) (by rw [e0]; exact Ar_a1_17_9.1) (State.isArrayOf_alike hZ.alike Ar_a1_17_9.2.1) Ar_a1_17_9.2.2 hin_a1_17_9 (H_a1_17_9.at hin_a1_17_9 rfl) (g := (mkF m 17 #[.val (.ref a1), .val (.ref a2), .val (.int (1 : Int32))] [(.int (1 : Int32)), (.ref a1)])) rfl rfl (hb hby d11_17) _ ?_
      show Steps p.tables e below (s₁.setTop (mkF m 18 #[.val (.ref a1), .val (.ref a2), .val (.int (1 : Int32))] [(.int x1)])) _
      refine XS.aloadN X0.here hx rfl (hb hby d11_18) rfl rfl ?_
      show Steps p.tables e below (s₁.setTop (mkF m 19 #[.val (.ref a1), .val (.ref a2), .val (.int (1 : Int32))] [(.ref a2), (.int x1)])) _
      refine XS.iloadN X0.here hx rfl (hb hby d11_19) rfl ?_
      show Steps p.tables e below (s₁.setTop (mkF m 20 #[.val (.ref a1), .val (.ref a2), .val (.int (1 : Int32))] [(.int (1 : Int32)), (.ref a2), (.int x1)])) _
      refine X0.baloadBytes hx (j := (1 : Int32)) (v := (.int y1)) (by rw [e0]; exact Ar_a2_20_10.1) (State.isArrayOf_alike hZ.alike Ar_a2_20_10.2.1) Ar_a2_20_10.2.2 hin_a2_20_10 (H_a2_20_10.at hin_a2_20_10 rfl) (g := (mkF m 20 #[.val (.ref a1), .val (.ref a2), .val (.int (1 : Int32))] [(.int (1 : Int32)), (.ref a2), (.int x1)])) rfl rfl (hb hby d11_20) _ ?_
      exact kt
    by_cases hc21_12 : x1 = y1
    · obtain ⟨cl_a1_11_13, Ar_a1_11_13, -, S_a1_11_13, N_a1_11_13, -, -⟩ := id V_a1
      obtain ⟨fs, hr, hrun, hended, hW, hsame⟩ := X0.leave (v := some (.int (1 : Int32))) (fun h => by rw [Bd.returns] at h; cases h)
      refine ⟨_, _, pre11 _ ?_, hrun, hended, _, _, rfl, ?_, ⟨_, rfl⟩, hW, hsame.mono (by decide) (by decide)⟩
      · show Steps p.tables e below (s₁.setTop (mkF m 21 #[.val (.ref a1), .val (.ref a2), .val (.int (1 : Int32))] [(.int y1), (.int x1)])) _
        refine XS.icmpYes X0.here hx rfl (pc0 := 21) (pc' := 26) rfl (hb hby d11_21) rfl (teq hc21_12).1 (by decide) (by decide) ?_
        show Steps p.tables e below (s₁.setTop (mkF m 26 #[.val (.ref a1), .val (.ref a2), .val (.int (1 : Int32))] [])) _
        refine XS.iinc X0.here hx rfl (hb hby d11_26) rfl (l' := #[.val (.ref a1), .val (.ref a2), .val (.int (2 : Int32))]) rfl ?_
        show Steps p.tables e below (s₁.setTop (mkF m 29 #[.val (.ref a1), .val (.ref a2), .val (.int (2 : Int32))] [])) _
        refine XS.goto X0.here hx rfl (pc0 := 29) (pc' := 9) rfl (hb hby d11_29) (by decide) (by decide) ?_
        show Steps p.tables e below (s₁.setTop (mkF m 9 #[.val (.ref a1), .val (.ref a2), .val (.int (2 : Int32))] [])) _
        refine XS.iloadN X0.here hx rfl (hb hby d11_9) rfl ?_
        show Steps p.tables e below (s₁.setTop (mkF m 10 #[.val (.ref a1), .val (.ref a2), .val (.int (2 : Int32))] [(.int (2 : Int32))])) _
        refine XS.aloadN X0.here hx rfl (hb hby d11_10) rfl rfl ?_
        show Steps p.tables e below (s₁.setTop (mkF m 11 #[.val (.ref a1), .val (.ref a2), .val (.int (2 : Int32))] [(.ref a1), (.int (2 : Int32))])) _
        refine X0.arraylength hx (by rw [e0]; exact Ar_a1_11_13.1) (State.isArrayOf_alike hZ.alike Ar_a1_11_13.2.1) (g := (mkF m 11 #[.val (.ref a1), .val (.ref a2), .val (.int (2 : Int32))] [(.ref a1), (.int (2 : Int32))])) rfl rfl (hb hby d11_11) _ ?_
        rw [len_of S_a1_11_13 N_a1_11_13]
        show Steps p.tables e below (s₁.setTop (mkF m 12 #[.val (.ref a1), .val (.ref a2), .val (.int (2 : Int32))] [(.int (2 : Int32)), (.int (2 : Int32))])) _
        refine XS.icmpYes X0.here hx rfl (pc0 := 12) (pc' := 32) rfl (hb hby d11_12) rfl (flt (by decide : ¬ ((2 : Int32) < (2 : Int32)))).2.1 (by decide) (by decide) ?_
        show Steps p.tables e below (s₁.setTop (mkF m 32 #[.val (.ref a1), .val (.ref a2), .val (.int (2 : Int32))] [])) _
        refine XS.iconst X0.here hx rfl (hb hby d11_32) ?_
        show Steps p.tables e below (s₁.setTop (mkF m 33 #[.val (.ref a1), .val (.ref a2), .val (.int (2 : Int32))] [(.int (1 : Int32))])) _
        exact retN X0 hx (t := .boolean) Bd.returns (by simp) (hb hby d11_33) hr
      · show Q_leq_2_2 Z a1 a2 ka x0 x1 kb y0 y1 h0 n0 _ s₁.heap _
        rw [e0]
        exact ⟨by rw [res_leq_2_2, if_pos hc21_7, if_pos hc21_12], rfl, rfl⟩
    · obtain ⟨fs, hr, hrun, hended, hW, hsame⟩ := X0.leave (v := some (.int (0 : Int32))) (fun h => by rw [Bd.returns] at h; cases h)
      refine ⟨_, _, pre11 _ ?_, hrun, hended, _, _, rfl, ?_, ⟨_, rfl⟩, hW, hsame.mono (by decide) (by decide)⟩
      · show Steps p.tables e below (s₁.setTop (mkF m 21 #[.val (.ref a1), .val (.ref a2), .val (.int (1 : Int32))] [(.int y1), (.int x1)])) _
        refine XS.icmpNo X0.here hx rfl (hb hby d11_21) rfl (feq hc21_12).1 ?_
        show Steps p.tables e below (s₁.setTop (mkF m 24 #[.val (.ref a1), .val (.ref a2), .val (.int (1 : Int32))] [])) _
        refine XS.iconst X0.here hx rfl (hb hby d11_24) ?_
        show Steps p.tables e below (s₁.setTop (mkF m 25 #[.val (.ref a1), .val (.ref a2), .val (.int (1 : Int32))] [(.int (0 : Int32))])) _
        exact retN X0 hx (t := .boolean) Bd.returns (by simp) (hb hby d11_25) hr
      · show Q_leq_2_2 Z a1 a2 ka x0 x1 kb y0 y1 h0 n0 _ s₁.heap _
        rw [e0]
        exact ⟨by rw [res_leq_2_2, if_pos hc21_7, if_neg hc21_12], rfl, rfl⟩
  · obtain ⟨fs, hr, hrun, hended, hW, hsame⟩ := X0.leave (v := some (.int (0 : Int32))) (fun h => by rw [Bd.returns] at h; cases h)
    refine ⟨_, _, pre6 _ ?_, hrun, hended, _, _, rfl, ?_, ⟨_, rfl⟩, hW, hsame.mono (by decide) (by decide)⟩
    · show Steps p.tables e below (s₁.setTop (mkF m 21 #[.val (.ref a1), .val (.ref a2), .val (.int (0 : Int32))] [(.int y0), (.int x0)])) _
      refine XS.icmpNo X0.here hx rfl (hb hby d11_21) rfl (feq hc21_7).1 ?_
      show Steps p.tables e below (s₁.setTop (mkF m 24 #[.val (.ref a1), .val (.ref a2), .val (.int (0 : Int32))] [])) _
      refine XS.iconst X0.here hx rfl (hb hby d11_24) ?_
      show Steps p.tables e below (s₁.setTop (mkF m 25 #[.val (.ref a1), .val (.ref a2), .val (.int (0 : Int32))] [(.int (0 : Int32))])) _
      exact retN X0 hx (t := .boolean) Bd.returns (by simp) (hb hby d11_25) hr
    · show Q_leq_2_2 Z a1 a2 ka x0 x1 kb y0 y1 h0 n0 _ s₁.heap _
      rw [e0]
      exact ⟨by rw [res_leq_2_2, if_neg hc21_7], rfl, rfl⟩
theorem d10_0 : decode jdk_42_method_66_code 0 = .ok (.aload_n 0, 1) := by decide +kernel
theorem d10_1 : decode jdk_42_method_66_code 1 = .ok (.aload_n 1, 1) := by decide +kernel
theorem d10_2 : decode jdk_42_method_66_code 2 = .ok (.if_acmp .ne 5, 3) := by decide +kernel
theorem d10_7 : decode jdk_42_method_66_code 7 = .ok (.aload_n 1, 1) := by decide +kernel
theorem d10_8 : decode jdk_42_method_66_code 8 = .ok (.instanceof 10, 3) := by decide +kernel
theorem d10_11 : decode jdk_42_method_66_code 11 = .ok (.ifCond .eq 43, 3) := by decide +kernel
theorem d10_14 : decode jdk_42_method_66_code 14 = .ok (.aload_n 1, 1) := by decide +kernel
theorem d10_15 : decode jdk_42_method_66_code 15 = .ok (.checkcast 10, 3) := by decide +kernel
theorem d10_18 : decode jdk_42_method_66_code 18 = .ok (.astore_n 2, 1) := by decide +kernel
theorem d10_19 : decode jdk_42_method_66_code 19 = .ok (.getstatic 38, 3) := by decide +kernel
theorem d10_22 : decode jdk_42_method_66_code 22 = .ok (.ifCond .eq 14, 3) := by decide +kernel
theorem d10_25 : decode jdk_42_method_66_code 25 = .ok (.aload_n 0, 1) := by decide +kernel
theorem d10_26 : decode jdk_42_method_66_code 26 = .ok (.getfield 15, 3) := by decide +kernel
theorem d10_29 : decode jdk_42_method_66_code 29 = .ok (.aload_n 2, 1) := by decide +kernel
theorem d10_30 : decode jdk_42_method_66_code 30 = .ok (.getfield 15, 3) := by decide +kernel
theorem d10_33 : decode jdk_42_method_66_code 33 = .ok (.if_icmp .ne 21, 3) := by decide +kernel
theorem d10_36 : decode jdk_42_method_66_code 36 = .ok (.aload_n 0, 1) := by decide +kernel
theorem d10_37 : decode jdk_42_method_66_code 37 = .ok (.getfield 9, 3) := by decide +kernel
theorem d10_40 : decode jdk_42_method_66_code 40 = .ok (.aload_n 2, 1) := by decide +kernel
theorem d10_41 : decode jdk_42_method_66_code 41 = .ok (.getfield 9, 3) := by decide +kernel
theorem d10_44 : decode jdk_42_method_66_code 44 = .ok (.invokestatic 541, 3) := by decide +kernel
theorem d10_47 : decode jdk_42_method_66_code 47 = .ok (.ifCond .eq 7, 3) := by decide +kernel
theorem d10_50 : decode jdk_42_method_66_code 50 = .ok (.iconst 1, 1) := by decide +kernel
theorem d10_51 : decode jdk_42_method_66_code 51 = .ok (.goto 4, 3) := by decide +kernel
theorem d10_54 : decode jdk_42_method_66_code 54 = .ok (.iconst 0, 1) := by decide +kernel
theorem d10_55 : decode jdk_42_method_66_code 55 = .ok (.ireturn, 1) := by decide +kernel
def res_eq_2_2 (x0 : Int32) (x1 : Int32) (y0 : Int32) (y1 : Int32) : Int32 := if (res_leq_2_2 x0 x1 y0 y1) = (0 : Int32) then (0 : Int32) else (1 : Int32)
theorem pd4 : parseMethodDescriptor "([B[B)Z" = some ⟨[(.array .byte), (.array .byte)], some .boolean⟩ := by decide +kernel
theorem ef_eq_2_2 (m : MethodId) (a1 : Addr) (a2 : Addr) : entryFrame m #[(.ref a1), (.ref a2)] 3 = (mkF m 0 #[.val (.ref a1), .val (.ref a2), .unset] []) := by first | (simp [entryFrame, mkF, argsToLocals, Value.category]; done) | rfl
def Q_eq_2_2 (Z : State) (a1 : Addr) (a2 : Addr) (w_value_a1 : Addr) (ka : ClassId) (x0 : Int32) (x1 : Int32) (w_value_a2 : Addr) (kb : ClassId) (y0 : Int32) (y1 : Int32) (w_COMPACT_STRINGS : Int32) (h0 : Heap) (n0 : Nat) (v : Option Value) (h : Heap) (L : List Loc) : Prop := v = some (.int (res_eq_2_2 x0 x1 y0 y1)) ∧ L = [] ∧ h = h0
set_option maxRecDepth 65536 in
set_option maxHeartbeats 40000000 in
theorem rm_eq_2_2 (l : Launch) (Z : State) (a0 : Array Value) (hw : ∀ d ∈ tables_1, d.before a0 Z = true) (ws : List Jvm.Cond) (a1 : Addr) (a2 : Addr) (w_value_a1 : Addr) (ka : ClassId) (x0 : Int32) (x1 : Int32) (w_value_a2 : Addr) (kb : ClassId) (y0 : Int32) (y1 : Int32) (w_COMPACT_STRINGS : Int32) (h0 : Heap) (n0 : Nat) (Z0 : n0 ≤ h0.size) (E_a1 : Exa Z h0 a1 "java/lang/String") (F_coder_a1 : Fld Z h0 a1 "java/lang/String" "coder" "B" (.int (0 : Int32))) (F_value_a1 : Fld Z h0 a1 "java/lang/String" "value" "[B" (.ref w_value_a1)) (V_w_value_a1 : Arv Z h0 w_value_a1 ka .byte (2 : Int32) [(.int x0), (.int x1)] (.int (0 : Int32))) (E_a2 : Exa Z h0 a2 "java/lang/String") (F_coder_a2 : Fld Z h0 a2 "java/lang/String" "coder" "B" (.int (0 : Int32))) (F_value_a2 : Fld Z h0 a2 "java/lang/String" "value" "[B" (.ref w_value_a2)) (V_w_value_a2 : Arv Z h0 w_value_a2 kb .byte (2 : Int32) [(.int y0), (.int y1)] (.int (0 : Int32))) (S_COMPACT_STRINGS : Sta Z h0 "java/lang/String" "COMPACT_STRINGS" "Z" (.int w_COMPACT_STRINGS)) (hne_12 : a1 ≠ a2) (hCS : ¬ (w_COMPACT_STRINGS = (0 : Int32))) :
    MetFree l (⟨"java/lang/String", "equals", "(Ljava/lang/Object;)Z"⟩ : MethodName) (head1 (Jvm.Cond.code (⟨"java/lang/String", "equals", "(Ljava/lang/Object;)Z"⟩ : MethodName) jdk_42_method_66_code 3 (some .boolean) :: ws) ({ frames := 1, cells := 0, slots := 0, locals := 14 } : Room)) (fun a U => a = #[(.ref a1), (.ref a2)] ∧ Z.Warmed39 U.vm ∧ U.heap = h0) (fun _ _ _ _ _ => True) (fun _ U o U' => ∃ v L, o = .returned v ∧ Q_eq_2_2 Z a1 a2 w_value_a1 ka x0 x1 w_value_a2 kb y0 y1 w_COMPACT_STRINGS h0 n0 v U'.heap L ∧ FrameEnd U o U' L ({ frames := 1, cells := 0, slots := 0, locals := 14 } : Room).cells ({ frames := 1, cells := 0, slots := 0, locals := 14 } : Room).slots) := by
  refine MetFree.of_bodySF (plainFor_of_name pn2) hisR ?_
  intro p e s m args below meth c s₁ Bd hml0 hP hK
  obtain ⟨rfl, hZ, hh⟩ := hP
  have hx := Bd.exec
  have hby := Bd.bytes
  have hml : c.maxLocals = 3 := hml0
  have hown : s.vm.findClass "java/lang/String" = some m.cls := findClass_of_methodNamed Bd.named
  have hnm := (name_of_methodNamed Bd.named Bd.method).1
  have X0 : Stand p l e ({ frames := 1, cells := 0, slots := 0, locals := 14 } : Room) s m #[(.ref a1), (.ref a2)] below meth c s₁ [] 0 0 := Stand.of_body Bd
  have e0 : s₁.heap = h0 := by rw [← hh, Bd.state]; rfl
  have N0 := Fr.nil n0
  have pre0 : ∀ t, Steps p.tables e below (s₁.setTop (mkF m 0 #[.val (.ref a1), .val (.ref a2), .unset] [])) t → Steps p.tables e below (s₁.setTop (entryFrame m #[(.ref a1), (.ref a2)] 3)) t := fun t k => castTop (ef_eq_2_2 m a1 a2) k
  obtain ⟨T1, X1, e1, st1⟩ := instY X0 hx hZ hown (hw _ (List.mem_of_getElem? (i := 65) rfl)) e0 (Ins.self E_a2) (g := (mkF m 8 #[.val (.ref a1), .val (.ref a2), .unset] [(.ref a2)])) rfl rfl (hb hby d10_8)
  obtain ⟨T2, X2, e2, st2⟩ := castY X1 hx hZ hown (hw _ (List.mem_of_getElem? (i := 65) rfl)) e1 (Ins.self E_a2) (g := (mkF m 15 #[.val (.ref a1), .val (.ref a2), .unset] [(.ref a2)])) rfl rfl (hb hby d10_15)
  obtain ⟨T3, X3, e3, st3⟩ := getS2 X2 hx hZ hown (host := "") (Or.inl (hw _ (List.mem_of_getElem? (i := 21) rfl))) Via.refl e2 S_COMPACT_STRINGS (g := (mkF m 19 #[.val (.ref a1), .val (.ref a2), .val (.ref a2)] [])) rfl (hb hby d10_19)
  obtain ⟨T4, X4, e4, st4⟩ := getF X3 hx hZ hown (host := "") (Or.inl (hw _ (List.mem_of_getElem? (i := 33) rfl))) Via.refl e3 F_coder_a1 (g := (mkF m 26 #[.val (.ref a1), .val (.ref a2), .val (.ref a2)] [(.ref a1)])) rfl rfl (hb hby d10_26)
  obtain ⟨T5, X5, e5, st5⟩ := getF X4 hx hZ hown (host := "") (Or.inl (hw _ (List.mem_of_getElem? (i := 33) rfl))) Via.refl e4 F_coder_a2 (g := (mkF m 30 #[.val (.ref a1), .val (.ref a2), .val (.ref a2)] [(.ref a2), (.int (0 : Int32))])) rfl rfl (hb hby d10_30)
  obtain ⟨T6, X6, e6, st6⟩ := getF X5 hx hZ hown (host := "") (Or.inl (hw _ (List.mem_of_getElem? (i := 35) rfl))) Via.refl e5 F_value_a1 (g := (mkF m 37 #[.val (.ref a1), .val (.ref a2), .val (.ref a2)] [(.ref a1)])) rfl rfl (hb hby d10_37)
  obtain ⟨T7, X7, e7, st7⟩ := getF X6 hx hZ hown (host := "") (Or.inl (hw _ (List.mem_of_getElem? (i := 35) rfl))) Via.refl e6 F_value_a2 (g := (mkF m 41 #[.val (.ref a1), .val (.ref a2), .val (.ref a2)] [(.ref a2), (.ref w_value_a1)])) rfl rfl (hb hby d10_41)
  obtain ⟨_, _, ⟨T8, L8, k8, n8⟩, -, X8, ⟨Lc8, hQ8, l8, y8, z8⟩, st8⟩ := Jvm.LawKit.callS X7 hx (y := (⟨"java/lang/StringLatin1", "equals", "([B[B)Z"⟩ : MethodName)) hown (mvT hZ (hw _ (List.mem_of_getElem? (i := 66) rfl))) (mvT hZ (hw _ (List.mem_of_getElem? (i := 67) rfl))) (mvT hZ (hw _ (List.mem_of_getElem? (i := 68) rfl))) (mvT hZ (hw _ (List.mem_of_getElem? (i := 69) rfl))) (by decide) (backOf (W := 0) (rm_leq_2_2 l Z a0 hw [] w_value_a1 w_value_a2 ka x0 x1 kb y0 y1 h0 n0 (Nat.le_trans Z0 (Keep.refl h0 []).1) V_w_value_a1 V_w_value_a2 ) hZ (hw _ (List.mem_of_getElem? (i := 69) rfl)) (hw _ (List.mem_of_getElem? (i := 68) rfl)) (by decide) (by decide)) (g := (mkF m 44 #[.val (.ref a1), .val (.ref a2), .val (.ref a2)] [(.ref w_value_a2), (.ref w_value_a1)])) rfl (by rw [hml]; rfl) (argsL := [(.ref w_value_a1), (.ref w_value_a2)]) (rest := []) (lenOf pd4 rfl) rfl (by show 2 * 0 + _ ≤ _; exact Nat.le_of_eq rfl) (hb hby d10_44) (fun _ _ => ⟨rfl, e7, (by decide : 0 + 0 ≤ _), (by decide : 0 + 0 ≤ _)⟩)
  dsimp only [Pt.U, Pt.locs, Pt.cells, Pt.slots] at X8 l8 y8 z8 st8 hQ8
  subst l8 y8 z8
  obtain ⟨rfl, rfl, e8⟩ := hQ8
  have N8 := Fr.app N0 (Fr.nil n0)
  have pre9 : ∀ t, Steps p.tables e below (T8.setTop (mkF m 47 #[.val (.ref a1), .val (.ref a2), .val (.ref a2)] [(.int (res_leq_2_2 x0 x1 y0 y1))])) t → Steps p.tables e below (s₁.setTop (entryFrame m #[(.ref a1), (.ref a2)] 3)) t := by
    intro t kt
    refine pre0 _ ?_
    show Steps p.tables e below (s₁.setTop (mkF m 0 #[.val (.ref a1), .val (.ref a2), .unset] [])) _
    refine XS.aloadN X0.here hx rfl (hb hby d10_0) rfl rfl ?_
    show Steps p.tables e below (s₁.setTop (mkF m 1 #[.val (.ref a1), .val (.ref a2), .unset] [(.ref a1)])) _
    refine XS.aloadN X0.here hx rfl (hb hby d10_1) rfl rfl ?_
    show Steps p.tables e below (s₁.setTop (mkF m 2 #[.val (.ref a1), .val (.ref a2), .unset] [(.ref a2), (.ref a1)])) _
    refine Jvm.RoadKit.acmp (g := (mkF m 2 #[.val (.ref a1), .val (.ref a2), .unset] [(.ref a2), (.ref a1)])) X0 hx rfl rfl rfl (pc0 := 2) (pc' := 7) (same := false) rfl (hb hby d10_2) rfl (decide_eq_false fun q => hne_12 (Value.ref.inj q)) (by decide) (by decide) ?_
    show Steps p.tables e below (s₁.setTop (mkF m 7 #[.val (.ref a1), .val (.ref a2), .unset] [])) _
    refine XS.aloadN X0.here hx rfl (hb hby d10_7) rfl rfl ?_
    show Steps p.tables e below (s₁.setTop (mkF m 8 #[.val (.ref a1), .val (.ref a2), .unset] [(.ref a2)])) _
    refine st1 _ ?_
    show Steps p.tables e below (T1.setTop (mkF m 11 #[.val (.ref a1), .val (.ref a2), .unset] [(.int (1 : Int32))])) _
    refine XS.ifNo X1.here hx rfl (hb hby d10_11) rfl ((if0 _ _).trans (feq (by decide : ¬ ((1 : Int32) = (0 : Int32)))).1) ?_
    show Steps p.tables e below (T1.setTop (mkF m 14 #[.val (.ref a1), .val (.ref a2), .unset] [])) _
    refine XS.aloadN X1.here hx rfl (hb hby d10_14) rfl rfl ?_
    show Steps p.tables e below (T1.setTop (mkF m 15 #[.val (.ref a1), .val (.ref a2), .unset] [(.ref a2)])) _
    refine st2 _ ?_
    show Steps p.tables e below (T2.setTop (mkF m 18 #[.val (.ref a1), .val (.ref a2), .unset] [(.ref a2)])) _
    refine XS.astoreN X2.here hx rfl (hb hby d10_18) rfl rfl (l' := #[.val (.ref a1), .val (.ref a2), .val (.ref a2)]) rfl ?_
    show Steps p.tables e below (T2.setTop (mkF m 19 #[.val (.ref a1), .val (.ref a2), .val (.ref a2)] [])) _
    refine st3 _ ?_
    show Steps p.tables e below (T3.setTop (mkF m 22 #[.val (.ref a1), .val (.ref a2), .val (.ref a2)] [(.int w_COMPACT_STRINGS)])) _
    refine XS.ifNo X3.here hx rfl (hb hby d10_22) rfl ((if0 _ _).trans (feq (hCS : ¬ (w_COMPACT_STRINGS = (0 : Int32)))).1) ?_
    show Steps p.tables e below (T3.setTop (mkF m 25 #[.val (.ref a1), .val (.ref a2), .val (.ref a2)] [])) _
    refine XS.aloadN X3.here hx rfl (hb hby d10_25) rfl rfl ?_
    show Steps p.tables e below (T3.setTop (mkF m 26 #[.val (.ref a1), .val (.ref a2), .val (.ref a2)] [(.ref a1)])) _
    refine st4 _ ?_
    show Steps p.tables e below (T4.setTop (mkF m 29 #[.val (.ref a1), .val (.ref a2), .val (.ref a2)] [(.int (0 : Int32))])) _
    refine XS.aloadN X4.here hx rfl (hb hby d10_29) rfl rfl ?_
    show Steps p.tables e below (T4.setTop (mkF m 30 #[.val (.ref a1), .val (.ref a2), .val (.ref a2)] [(.ref a2), (.int (0 : Int32))])) _
    refine st5 _ ?_
    show Steps p.tables e below (T5.setTop (mkF m 33 #[.val (.ref a1), .val (.ref a2), .val (.ref a2)] [(.int (0 : Int32)), (.int (0 : Int32))])) _
    refine XS.icmpNo X5.here hx rfl (hb hby d10_33) rfl (teq (by decide : (0 : Int32) = (0 : Int32))).2 ?_
    show Steps p.tables e below (T5.setTop (mkF m 36 #[.val (.ref a1), .val (.ref a2), .val (.ref a2)] [])) _
    refine XS.aloadN X5.here hx rfl (hb hby d10_36) rfl rfl ?_
    show Steps p.tables e below (T5.setTop (mkF m 37 #[.val (.ref a1), .val (.ref a2), .val (.ref a2)] [(.ref a1)])) _
    refine st6 _ ?_
    show Steps p.tables e below (T6.setTop (mkF m 40 #[.val (.ref a1), .val (.ref a2), .val (.ref a2)] [(.ref w_value_a1)])) _
    refine XS.aloadN X6.here hx rfl (hb hby d10_40) rfl rfl ?_
    show Steps p.tables e below (T6.setTop (mkF m 41 #[.val (.ref a1), .val (.ref a2), .val (.ref a2)] [(.ref a2), (.ref w_value_a1)])) _
    refine st7 _ ?_
    show Steps p.tables e below (T7.setTop (mkF m 44 #[.val (.ref a1), .val (.ref a2), .val (.ref a2)] [(.ref w_value_a2), (.ref w_value_a1)])) _
    refine st8 _ ?_
    exact kt
  by_cases hc47_10 : (res_leq_2_2 x0 x1 y0 y1) = (0 : Int32)
  · obtain ⟨fs, hr, hrun, hended, hW, hsame⟩ := X8.leave (v := some (.int (0 : Int32))) (fun h => by rw [Bd.returns] at h; cases h)
    refine ⟨_, _, pre9 _ ?_, hrun, hended, _, _, rfl, ?_, ⟨_, rfl⟩, hW, hsame.mono (by decide) (by decide)⟩
    · show Steps p.tables e below (T8.setTop (mkF m 47 #[.val (.ref a1), .val (.ref a2), .val (.ref a2)] [(.int (res_leq_2_2 x0 x1 y0 y1))])) _
      refine XS.ifYes X8.here hx rfl (pc0 := 47) (pc' := 54) rfl (hb hby d10_47) rfl ((if0 _ _).trans (teq hc47_10).1) (by decide) (by decide) ?_
      show Steps p.tables e below (T8.setTop (mkF m 54 #[.val (.ref a1), .val (.ref a2), .val (.ref a2)] [])) _
      refine XS.iconst X8.here hx rfl (hb hby d10_54) ?_
      show Steps p.tables e below (T8.setTop (mkF m 55 #[.val (.ref a1), .val (.ref a2), .val (.ref a2)] [(.int (0 : Int32))])) _
      exact retN X8 hx (t := .boolean) Bd.returns (by simp) (hb hby d10_55) hr
    · show Q_eq_2_2 Z a1 a2 w_value_a1 ka x0 x1 w_value_a2 kb y0 y1 w_COMPACT_STRINGS h0 n0 _ T8.heap _
      rw [e8]
      exact ⟨by rw [res_eq_2_2, if_pos hc47_10], rfl, rfl⟩
  · obtain ⟨fs, hr, hrun, hended, hW, hsame⟩ := X8.leave (v := some (.int (1 : Int32))) (fun h => by rw [Bd.returns] at h; cases h)
    refine ⟨_, _, pre9 _ ?_, hrun, hended, _, _, rfl, ?_, ⟨_, rfl⟩, hW, hsame.mono (by decide) (by decide)⟩
    · show Steps p.tables e below (T8.setTop (mkF m 47 #[.val (.ref a1), .val (.ref a2), .val (.ref a2)] [(.int (res_leq_2_2 x0 x1 y0 y1))])) _
      refine XS.ifNo X8.here hx rfl (hb hby d10_47) rfl ((if0 _ _).trans (feq hc47_10).1) ?_
      show Steps p.tables e below (T8.setTop (mkF m 50 #[.val (.ref a1), .val (.ref a2), .val (.ref a2)] [])) _
      refine XS.iconst X8.here hx rfl (hb hby d10_50) ?_
      show Steps p.tables e below (T8.setTop (mkF m 51 #[.val (.ref a1), .val (.ref a2), .val (.ref a2)] [(.int (1 : Int32))])) _
      refine XS.goto X8.here hx rfl (pc0 := 51) (pc' := 55) rfl (hb hby d10_51) (by decide) (by decide) ?_
      show Steps p.tables e below (T8.setTop (mkF m 55 #[.val (.ref a1), .val (.ref a2), .val (.ref a2)] [(.int (1 : Int32))])) _
      exact retN X8 hx (t := .boolean) Bd.returns (by simp) (hb hby d10_55) hr
    · show Q_eq_2_2 Z a1 a2 w_value_a1 ka x0 x1 w_value_a2 kb y0 y1 w_COMPACT_STRINGS h0 n0 _ T8.heap _
      rw [e8]
      exact ⟨by rw [res_eq_2_2, if_neg hc47_10], rfl, rfl⟩
theorem d8_0 : decode prog_28_method_4_code 0 = .ok (.invokestatic 43, 3) := by decide +kernel
theorem d8_3 : decode prog_28_method_4_code 3 = .ok (.astore_n 1, 1) := by decide +kernel
theorem d8_4 : decode prog_28_method_4_code 4 = .ok (.aload_n 1, 1) := by decide +kernel
theorem d8_5 : decode prog_28_method_4_code 5 = .ok (.arraylength, 1) := by decide +kernel
theorem d8_6 : decode prog_28_method_4_code 6 = .ok (.istore_n 2, 1) := by decide +kernel
theorem d8_7 : decode prog_28_method_4_code 7 = .ok (.iconst 0, 1) := by decide +kernel
theorem d8_8 : decode prog_28_method_4_code 8 = .ok (.istore_n 3, 1) := by decide +kernel
theorem d8_9 : decode prog_28_method_4_code 9 = .ok (.iload_n 3, 1) := by decide +kernel
theorem d8_10 : decode prog_28_method_4_code 10 = .ok (.iload_n 2, 1) := by decide +kernel
theorem d8_11 : decode prog_28_method_4_code 11 = .ok (.if_icmp .ge 29, 3) := by decide +kernel
theorem d8_14 : decode prog_28_method_4_code 14 = .ok (.aload_n 1, 1) := by decide +kernel
theorem d8_15 : decode prog_28_method_4_code 15 = .ok (.iload_n 3, 1) := by decide +kernel
theorem d8_16 : decode prog_28_method_4_code 16 = .ok (.aaload, 1) := by decide +kernel
theorem d8_17 : decode prog_28_method_4_code 17 = .ok (.astore 4, 2) := by decide +kernel
theorem d8_19 : decode prog_28_method_4_code 19 = .ok (.aload 4, 2) := by decide +kernel
theorem d8_21 : decode prog_28_method_4_code 21 = .ok (.getfield 35, 3) := by decide +kernel
theorem d8_24 : decode prog_28_method_4_code 24 = .ok (.aload_n 0, 1) := by decide +kernel
theorem d8_25 : decode prog_28_method_4_code 25 = .ok (.invokevirtual 47, 3) := by decide +kernel
theorem d8_28 : decode prog_28_method_4_code 28 = .ok (.ifCond .eq 6, 3) := by decide +kernel
theorem d8_31 : decode prog_28_method_4_code 31 = .ok (.aload 4, 2) := by decide +kernel
theorem d8_33 : decode prog_28_method_4_code 33 = .ok (.areturn, 1) := by decide +kernel
theorem d8_34 : decode prog_28_method_4_code 34 = .ok (.iinc 3 1, 3) := by decide +kernel
theorem d8_37 : decode prog_28_method_4_code 37 = .ok (.goto (-28), 3) := by decide +kernel
def res8 (w_INSERT : Addr) (w_UPDATE_BEFORE : Addr) (w_UPDATE_AFTER : Addr) (w_DELETE : Addr) (y0 : Int32) (y1 : Int32) : Addr := if (res_eq_2_2 (43 : Int32) (73 : Int32) y0 y1) = (0 : Int32) then (if (res_eq_2_2 (45 : Int32) (85 : Int32) y0 y1) = (0 : Int32) then (if (res_eq_2_2 (43 : Int32) (85 : Int32) y0 y1) = (0 : Int32) then w_DELETE else w_UPDATE_AFTER) else w_UPDATE_BEFORE) else w_INSERT
theorem pd5 : parseMethodDescriptor "()[Lcom/example/tidemark/tidemark/table/RowKind;" = some ⟨[], some (.array (.object "com/example/tidemark/tidemark/table/RowKind"))⟩ := by decide +kernel
theorem pd6 : parseMethodDescriptor "(Ljava/lang/Object;)Z" = some ⟨[(.object "java/lang/Object")], some .boolean⟩ := by decide +kernel
theorem ef8 (m : MethodId) (a1 : Addr) : entryFrame m #[(.ref a1)] 5 = (mkF m 0 #[.val (.ref a1), .unset, .unset, .unset, .unset] []) := by first | (simp [entryFrame, mkF, argsToLocals, Value.category]; done) | rfl
def Q8 (Z : State) (a1 : Addr) (w__VALUES : Addr) (kV : ClassId) (w_INSERT : Addr) (w_UPDATE_BEFORE : Addr) (w_UPDATE_AFTER : Addr) (w_DELETE : Addr) (w_INSERT_shortName : Addr) (w_INSERT_shortName_value : Addr) (k_INSERT : ClassId) (w_UPDATE_BEFORE_shortName : Addr) (w_UPDATE_BEFORE_shortName_value : Addr) (k_UPDATE_BEFORE : ClassId) (w_UPDATE_AFTER_shortName : Addr) (w_UPDATE_AFTER_shortName_value : Addr) (k_UPDATE_AFTER : ClassId) (w_DELETE_shortName : Addr) (w_DELETE_shortName_value : Addr) (k_DELETE : ClassId) (w_value_a1 : Addr) (kb : ClassId) (y0 : Int32) (y1 : Int32) (w_COMPACT_STRINGS : Int32) (h0 : Heap) (n0 : Nat) (v : Option Value) (h : Heap) (L : List Loc) : Prop := v = some (.ref (res8 w_INSERT w_UPDATE_BEFORE w_UPDATE_AFTER w_DELETE y0 y1)) ∧ Fr n0 L ∧ Keep h0 h []
set_option maxRecDepth 65536 in
set_option maxHeartbeats 40000000 in
theorem rm8 (l : Launch) (Z : State) (a0 : Array Value) (hw : ∀ d ∈ tables_1, d.before a0 Z = true) (ws : List Jvm.Cond) (a1 : Addr) (w__VALUES : Addr) (kV : ClassId) (w_INSERT : Addr) (w_UPDATE_BEFORE : Addr) (w_UPDATE_AFTER : Addr) (w_DELETE : Addr) (w_INSERT_shortName : Addr) (w_INSERT_shortName_value : Addr) (k_INSERT : ClassId) (w_UPDATE_BEFORE_shortName : Addr) (w_UPDATE_BEFORE_shortName_value : Addr) (k_UPDATE_BEFORE : ClassId) (w_UPDATE_AFTER_shortName : Addr) (w_UPDATE_AFTER_shortName_value : Addr) (k_UPDATE_AFTER : ClassId) (w_DELETE_shortName : Addr) (w_DELETE_shortName_value : Addr) (k_DELETE : ClassId) (w_value_a1 : Addr) (kb : ClassId) (y0 : Int32) (y1 : Int32) (w_COMPACT_STRINGS : Int32) (h0 : Heap) (n0 : Nat) (Z0 : n0 ≤ h0.size) (S__VALUES : Sta Z h0 "com/example/tidemark/tidemark/table/RowKind" "$VALUES" "[Lcom/example/tidemark/tidemark/table/RowKind;" (.ref w__VALUES)) (E_w__VALUES : Exa Z h0 w__VALUES "[Lcom/example/tidemark/tidemark/table/RowKind;") (V_w__VALUES : Arv Z h0 w__VALUES kV (.object "com/example/tidemark/tidemark/table/RowKind") (4 : Int32) [(.ref w_INSERT), (.ref w_UPDATE_BEFORE), (.ref w_UPDATE_AFTER), (.ref w_DELETE)] .null) (F_shortName_w_INSERT : Fld Z h0 w_INSERT "com/example/tidemark/tidemark/table/RowKind" "shortName" "Ljava/lang/String;" (.ref w_INSERT_shortName)) (E_w_INSERT_shortName : Exa Z h0 w_INSERT_shortName "java/lang/String") (F_coder_w_INSERT_shortName : Fld Z h0 w_INSERT_shortName "java/lang/String" "coder" "B" (.int (0 : Int32))) (F_value_w_INSERT_shortName : Fld Z h0 w_INSERT_shortName "java/lang/String" "value" "[B" (.ref w_INSERT_shortName_value)) (V_w_INSERT_shortName_value : Arv Z h0 w_INSERT_shortName_value k_INSERT .byte (2 : Int32) [(.int (43 : Int32)), (.int (73 : Int32))] (.int (0 : Int32))) (F_shortName_w_UPDATE_BEFORE : Fld Z h0 w_UPDATE_BEFORE "com/example/tidemark/tidemark/table/RowKind" "shortName" "Ljava/lang/String;" (.ref w_UPDATE_BEFORE_shortName)) (E_w_UPDATE_BEFORE_shortName : Exa Z h0 w_UPDATE_BEFORE_shortName "java/lang/String") (F_coder_w_UPDATE_BEFORE_shortName : Fld Z h0 w_UPDATE_BEFORE_shortName "java/lang/String" "coder" "B" (.int (0 : Int32))) (F_value_w_UPDATE_BEFORE_shortName : Fld Z h0 w_UPDATE_BEFORE_shortName "java/lang/String" "value" "[B" (.ref w_UPDATE_BEFORE_shortName_value)) (V_w_UPDATE_BEFORE_shortName_value : Arv Z h0 w_UPDATE_BEFORE_shortName_value k_UPDATE_BEFORE .byte (2 : Int32) [(.int (45 : Int32)), (.int (85 : Int32))] (.int (0 : Int32))) (F_shortName_w_UPDATE_AFTER : Fld Z h0 w_UPDATE_AFTER "com/example/tidemark/tidemark/table/RowKind" "shortName" "Ljava/lang/String;" (.ref w_UPDATE_AFTER_shortName)) (E_w_UPDATE_AFTER_shortName : Exa Z h0 w_UPDATE_AFTER_shortName "java/lang/String") (F_coder_w_UPDATE_AFTER_shortName : Fld Z h0 w_UPDATE_AFTER_shortName "java/lang/String" "coder" "B" (.int (0 : Int32))) (F_value_w_UPDATE_AFTER_shortName : Fld Z h0 w_UPDATE_AFTER_shortName "java/lang/String" "value" "[B" (.ref w_UPDATE_AFTER_shortName_value)) (V_w_UPDATE_AFTER_shortName_value : Arv Z h0 w_UPDATE_AFTER_shortName_value k_UPDATE_AFTER .byte (2 : Int32) [(.int (43 : Int32)), (.int (85 : Int32))] (.int (0 : Int32))) (F_shortName_w_DELETE : Fld Z h0 w_DELETE "com/example/tidemark/tidemark/table/RowKind" "shortName" "Ljava/lang/String;" (.ref w_DELETE_shortName)) (E_w_DELETE_shortName : Exa Z h0 w_DELETE_shortName "java/lang/String") (F_coder_w_DELETE_shortName : Fld Z h0 w_DELETE_shortName "java/lang/String" "coder" "B" (.int (0 : Int32))) (F_value_w_DELETE_shortName : Fld Z h0 w_DELETE_shortName "java/lang/String" "value" "[B" (.ref w_DELETE_shortName_value)) (V_w_DELETE_shortName_value : Arv Z h0 w_DELETE_shortName_value k_DELETE .byte (2 : Int32) [(.int (45 : Int32)), (.int (68 : Int32))] (.int (0 : Int32))) (E_a1 : Exa Z h0 a1 "java/lang/String") (F_coder_a1 : Fld Z h0 a1 "java/lang/String" "coder" "B" (.int (0 : Int32))) (F_value_a1 : Fld Z h0 a1 "java/lang/String" "value" "[B" (.ref w_value_a1)) (V_w_value_a1 : Arv Z h0 w_value_a1 kb .byte (2 : Int32) [(.int y0), (.int y1)] (.int (0 : Int32))) (S_COMPACT_STRINGS : Sta Z h0 "java/lang/String" "COMPACT_STRINGS" "Z" (.int w_COMPACT_STRINGS)) (hCS : ¬ (w_COMPACT_STRINGS = (0 : Int32))) (hm : (y0 = (43 : Int32) ∧ y1 = (73 : Int32)) ∨ (y0 = (45 : Int32) ∧ y1 = (85 : Int32)) ∨ (y0 = (43 : Int32) ∧ y1 = (85 : Int32)) ∨ (y0 = (45 : Int32) ∧ y1 = (68 : Int32))) (hne_INSERT : w_INSERT_shortName ≠ a1) (hne_UPDATE_BEFORE : w_UPDATE_BEFORE_shortName ≠ a1) (hne_UPDATE_AFTER : w_UPDATE_AFTER_shortName ≠ a1) (hne_DELETE : w_DELETE_shortName ≠ a1) :
    MetFree l (⟨"com/example/tidemark/tidemark/table/RowKind", "fromShortName", "(Ljava/lang/String;)Lcom/example/tidemark/tidemark/table/RowKind;"⟩ : MethodName) (head1 (Jvm.Cond.code (⟨"com/example/tidemark/tidemark/table/RowKind", "fromShortName", "(Ljava/lang/String;)Lcom/example/tidemark/tidemark/table/RowKind;"⟩ : MethodName) prog_28_method_4_code 5 (some (.object "com/example/tidemark/tidemark/table/RowKind")) :: ws) ({ frames := 2, cells := 1, slots := 4, locals := 28 } : Room)) (fun a U => a = #[(.ref a1)] ∧ Z.Warmed39 U.vm ∧ U.heap = h0) (fun _ _ _ _ _ => True) (fun _ U o U' => ∃ v L, o = .returned v ∧ Q8 Z a1 w__VALUES kV w_INSERT w_UPDATE_BEFORE w_UPDATE_AFTER w_DELETE w_INSERT_shortName w_INSERT_shortName_value k_INSERT w_UPDATE_BEFORE_shortName w_UPDATE_BEFORE_shortName_value k_UPDATE_BEFORE w_UPDATE_AFTER_shortName w_UPDATE_AFTER_shortName_value k_UPDATE_AFTER w_DELETE_shortName w_DELETE_shortName_value k_DELETE w_value_a1 kb y0 y1 w_COMPACT_STRINGS h0 n0 v U'.heap L ∧ FrameEnd U o U' L ({ frames := 2, cells := 1, slots := 4, locals := 28 } : Room).cells ({ frames := 2, cells := 1, slots := 4, locals := 28 } : Room).slots) := by
  refine MetFree.of_bodySF (plainFor_of_name pn0) hisR ?_
  intro p e s m args below meth c s₁ Bd hml0 hP hK
  obtain ⟨rfl, hZ, hh⟩ := hP
  have hx := Bd.exec
  have hby := Bd.bytes
  have hml : c.maxLocals = 5 := hml0
  have hown : s.vm.findClass "com/example/tidemark/tidemark/table/RowKind" = some m.cls := findClass_of_methodNamed Bd.named
  have hnm := (name_of_methodNamed Bd.named Bd.method).1
  have X0 : Stand p l e ({ frames := 2, cells := 1, slots := 4, locals := 28 } : Room) s m #[(.ref a1)] below meth c s₁ [] 0 0 := Stand.of_body Bd
  have e0 : s₁.heap = h0 := by rw [← hh, Bd.state]; rfl
  have N0 := Fr.nil n0
  have pre0 : ∀ t, Steps p.tables e below (s₁.setTop (mkF m 0 #[.val (.ref a1), .unset, .unset, .unset, .unset] [])) t → Steps p.tables e below (s₁.setTop (entryFrame m #[(.ref a1)] 5)) t := fun t k => castTop (ef8 m a1) k
  obtain ⟨_, _, ⟨T1, L1, k1, n1⟩, -, X1, ⟨Lc1, hQ1, l1, y1, z1⟩, st1⟩ := Jvm.LawKit.callS X0 hx (y := (⟨"com/example/tidemark/tidemark/table/RowKind", "values", "()[Lcom/example/tidemark/tidemark/table/RowKind;"⟩ : MethodName)) hown (mvT hZ (hw _ (List.mem_of_getElem? (i := 40) rfl))) (mvT hZ (hw _ (List.mem_of_getElem? (i := 41) rfl))) (mvT hZ (hw _ (List.mem_of_getElem? (i := 5) rfl))) (mvT hZ (hw _ (List.mem_of_getElem? (i := 42) rfl))) (by decide) (backOf (W := 0) (rm9 l Z a0 hw []  w__VALUES kV w_INSERT w_UPDATE_BEFORE w_UPDATE_AFTER w_DELETE h0 n0 (Nat.le_trans Z0 (Keep.refl h0 []).1) S__VALUES E_w__VALUES V_w__VALUES ) hZ (hw _ (List.mem_of_getElem? (i := 42) rfl)) (hw _ (List.mem_of_getElem? (i := 5) rfl)) (by decide) (by decide)) (g := (mkF m 0 #[.val (.ref a1), .unset, .unset, .unset, .unset] [])) rfl (by rw [hml]; rfl) (argsL := []) (rest := []) (lenOf pd5 rfl) rfl (by show 2 * 0 + _ ≤ _; exact Nat.le_of_eq rfl) (hb hby d8_0) (fun _ _ => ⟨rfl, e0, (by decide : 0 + 1 ≤ _), (by decide : 0 + 4 ≤ _)⟩)
  dsimp only [Pt.U, Pt.locs, Pt.cells, Pt.slots] at X1 l1 y1 z1 st1 hQ1
  subst l1 y1 z1
  obtain ⟨b2_1, rfl, N1q, K1, s1_b2, f1_0, f1_1⟩ := hQ1
  have N1 := Fr.app N0 N1q
  have sz_b2_1 : h0.size ≤ b2_1 := Nat.le_trans (Keep.refl h0 []).1 s1_b2
  have g_b2_1 : n0 ≤ b2_1 := Nat.le_trans Z0 sz_b2_1
  have KK1 : Keep h0 T1.heap [] := (Keep.refl h0 []).trans K1 all0
  obtain ⟨cl_b2_1_5_2, Ar_b2_1_5_2, -, S_b2_1_5_2, N_b2_1_5_2, -, -⟩ := id f1_0
  obtain ⟨cl_b2_1_16_3, Ar_b2_1_16_3, q_b2_1_16_3, S_b2_1_16_3, N_b2_1_16_3, H_b2_1_16_3, G_b2_1_16_3⟩ := id f1_0
  have hin_b2_1_16_3 : ¬ ((0 : Int32) < 0 ∨ cl_b2_1_16_3.slots.size ≤ ((0 : Int32) : Int32).toNatClampNeg) := inb_of S_b2_1_16_3 ⟨by decide, by decide⟩
  obtain ⟨T4, X4, e4, st4⟩ := getF X1 hx hZ hown (host := "") (Or.inl (hw _ (List.mem_of_getElem? (i := 58) rfl))) Via.refl rfl (F_shortName_w_INSERT.keep K1 nin0) (g := (mkF m 21 #[.val (.ref a1), .val (.ref b2_1), .val (.int (4 : Int32)), .val (.int (0 : Int32)), .val (.ref w_INSERT)] [(.ref w_INSERT)])) rfl rfl (hb hby d8_21)
  obtain ⟨cq5, kq5, q5a, q5b, q5c⟩ := isOf hZ e4 (E_w_INSERT_shortName.keep K1)
  obtain ⟨_, _, ⟨T5, L5, k5, n5⟩, -, X5, ⟨Lc5, hQ5, l5, y5, z5⟩, st5⟩ := X4.virtualBack hx (y := (⟨"java/lang/String", "equals", "(Ljava/lang/Object;)Z"⟩ : MethodName)) (z := (⟨"java/lang/String", "equals", "(Ljava/lang/Object;)Z"⟩ : MethodName)) hown (mvT hZ (hw _ (List.mem_of_getElem? (i := 60) rfl))) (mvT hZ (hw _ (List.mem_of_getElem? (i := 61) rfl))) (notFace_of_selects (args := #[]) (mvT hZ (hw _ (List.mem_of_getElem? (i := 63) rfl)))) (mvT hZ (hw _ (List.mem_of_getElem? (i := 63) rfl))) (mvT hZ (hw _ (List.mem_of_getElem? (i := 62) rfl))) (by decide) (backOf (W := 0) (rm_eq_2_2 l Z a0 hw [] w_INSERT_shortName a1 w_INSERT_shortName_value k_INSERT (43 : Int32) (73 : Int32) w_value_a1 kb y0 y1 w_COMPACT_STRINGS T1.heap n0 (Nat.le_trans Z0 KK1.1) (E_w_INSERT_shortName.keep K1) (F_coder_w_INSERT_shortName.keep K1 nin0) (F_value_w_INSERT_shortName.keep K1 nin0) (V_w_INSERT_shortName_value.keep K1 nin0) (E_a1.keep K1) (F_coder_a1.keep K1 nin0) (F_value_a1.keep K1 nin0) (V_w_value_a1.keep K1 nin0) (own_sta_keep S_COMPACT_STRINGS K1 all0) (hne_INSERT : w_INSERT_shortName ≠ a1) (hCS : ¬ (w_COMPACT_STRINGS = (0 : Int32)))) hZ (hw _ (List.mem_of_getElem? (i := 64) rfl)) (hw _ (List.mem_of_getElem? (i := 10) rfl)) (by decide) (by decide)) q5a q5c (g := (mkF m 25 #[.val (.ref a1), .val (.ref b2_1), .val (.int (4 : Int32)), .val (.int (0 : Int32)), .val (.ref w_INSERT)] [(.ref a1), (.ref w_INSERT_shortName)])) rfl (by rw [hml]; rfl) (Steps.refl _) (argsL := [(.ref a1)]) (rest := []) (lenOf pd6 rfl) rfl (by show 2 * 0 + _ ≤ _; exact Nat.le_of_eq rfl) (hb hby d8_25) (fun _ _ => ⟨rfl, e4, (by decide : 1 + 0 ≤ _), (by decide : 4 + 0 ≤ _)⟩)
  dsimp only [Pt.U, Pt.locs, Pt.cells, Pt.slots] at X5 l5 y5 z5 st5 hQ5
  subst l5 y5 z5
  obtain ⟨rfl, rfl, e5⟩ := hQ5
  have N5 := Fr.app N1 (Fr.nil n0)
  have pre6 : ∀ t, Steps p.tables e below (T5.setTop (mkF m 28 #[.val (.ref a1), .val (.ref b2_1), .val (.int (4 : Int32)), .val (.int (0 : Int32)), .val (.ref w_INSERT)] [(.int (res_eq_2_2 (43 : Int32) (73 : Int32) y0 y1))])) t → Steps p.tables e below (s₁.setTop (entryFrame m #[(.ref a1)] 5)) t := by
    intro t kt
    refine pre0 _ ?_
    show Steps p.tables e below (s₁.setTop (mkF m 0 #[.val (.ref a1), .unset, .unset, .unset, .unset] [])) _
    refine st1 _ ?_
    show Steps p.tables e below (T1.setTop (mkF m 3 #[.val (.ref a1), .unset, .unset, .unset, .unset] [(.ref b2_1)])) _
    refine XS.astoreN X1.here hx rfl (hb hby d8_3) rfl rfl (l' := #[.val (.ref a1), .val (.ref b2_1), .unset, .unset, .unset]) rfl ?_
    show Steps p.tables e below (T1.setTop (mkF m 4 #[.val (.ref a1), .val (.ref b2_1), .unset, .unset, .unset] [])) _
    refine XS.aloadN X1.here hx rfl (hb hby d8_4) rfl rfl ?_
    show Steps p.tables e below (T1.setTop (mkF m 5 #[.val (.ref a1), .val (.ref b2_1), .unset, .unset, .unset] [(.ref b2_1)])) _
    refine X1.arraylength hx (by exact Ar_b2_1_5_2.1) (State.isArrayOf_alike hZ.alike Ar_b2_1_5_2.2.1) (g := (mkF m 5 #[.val (.ref a1), .val (.ref b2_1), .unset, .unset, .unset] [(.ref b2_1)])) rfl rfl (hb hby d8_5) _ ?_
    rw [len_of S_b2_1_5_2 N_b2_1_5_2]
    show Steps p.tables e below (T1.setTop (mkF m 6 #[.val (.ref a1), .val (.ref b2_1), .unset, .unset, .unset] [(.int (4 : Int32))])) _
    refine XS.istoreN X1.here hx rfl (hb hby d8_6) rfl (l' := #[.val (.ref a1), .val (.ref b2_1), .val (.int (4 : Int32)), .unset, .unset]) rfl ?_
    show Steps p.tables e below (T1.setTop (mkF m 7 #[.val (.ref a1), .val (.ref b2_1), .val (.int (4 : Int32)), .unset, .unset] [])) _
    refine XS.iconst X1.here hx rfl (hb hby d8_7) ?_
    show Steps p.tables e below (T1.setTop (mkF m 8 #[.val (.ref a1), .val (.ref b2_1), .val (.int (4 : Int32)), .unset, .unset] [(.int (0 : Int32))])) _
    refine XS.istoreN X1.here hx rfl (hb hby d8_8) rfl (l' := #[.val (.ref a1), .val (.ref b2_1), .val (.int (4 : Int32)), .val (.int (0 : Int32)), .unset]) rfl ?_
    show Steps p.tables e below (T1.setTop (mkF m 9 #[.val (.ref a1), .val (.ref b2_1), .val (.int (4 : Int32)), .val (.int (0 : Int32)), .unset] [])) _
    refine XS.iloadN X1.here hx rfl (hb hby d8_9) rfl ?_
    show Steps p.tables e below (T1.setTop (mkF m 10 #[.val (.ref a1), .val (.ref b2_1), .val (.int (4 : Int32)), .val (.int (0 : Int32)), .unset] [(.int (0 : Int32))])) _
    refine XS.iloadN X1.here hx rfl (hb hby d8_10) rfl ?_
    show Steps p.tables e below (T1.setTop (mkF m 11 #[.val (.ref a1), .val (.ref b2_1), .val (.int (4 : Int32)), .val (.int (0 : Int32)), .unset] [(.int (4 : Int32)), (.int (0 : Int32))])) _
    refine XS.icmpNo X1.here hx rfl (hb hby d8_11) rfl (tlt (by decide : (0 : Int32) < (4 : Int32))).2.1 ?_
    show Steps p.tables e below (T1.setTop (mkF m 14 #[.val (.ref a1), .val (.ref b2_1), .val (.int (4 : Int32)), .val (.int (0 : Int32)), .unset] [])) _
    refine XS.aloadN X1.here hx rfl (hb hby d8_14) rfl rfl ?_
    show Steps p.tables e below (T1.setTop (mkF m 15 #[.val (.ref a1), .val (.ref b2_1), .val (.int (4 : Int32)), .val (.int (0 : Int32)), .unset] [(.ref b2_1)])) _
    refine XS.iloadN X1.here hx rfl (hb hby d8_15) rfl ?_
    show Steps p.tables e below (T1.setTop (mkF m 16 #[.val (.ref a1), .val (.ref b2_1), .val (.int (4 : Int32)), .val (.int (0 : Int32)), .unset] [(.int (0 : Int32)), (.ref b2_1)])) _
    refine X1.aaload hx (j := (0 : Int32)) (v := (.ref w_INSERT)) (by exact Ar_b2_1_16_3.1) (State.isArrayOf_alike hZ.alike Ar_b2_1_16_3.2.1) rfl Ar_b2_1_16_3.2.2 hin_b2_1_16_3 (H_b2_1_16_3.at hin_b2_1_16_3 rfl) (g := (mkF m 16 #[.val (.ref a1), .val (.ref b2_1), .val (.int (4 : Int32)), .val (.int (0 : Int32)), .unset] [(.int (0 : Int32)), (.ref b2_1)])) rfl rfl (hb hby d8_16) _ ?_
    show Steps p.tables e below (T1.setTop (mkF m 17 #[.val (.ref a1), .val (.ref b2_1), .val (.int (4 : Int32)), .val (.int (0 : Int32)), .unset] [(.ref w_INSERT)])) _
    refine XS.astore X1.here hx rfl (hb hby d8_17) rfl rfl (l' := #[.val (.ref a1), .val (.ref b2_1), .val (.int (4 : Int32)), .val (.int (0 : Int32)), .val (.ref w_INSERT)]) rfl ?_
    show Steps p.tables e below (T1.setTop (mkF m 19 #[.val (.ref a1), .val (.ref b2_1), .val (.int (4 : Int32)), .val (.int (0 : Int32)), .val (.ref w_INSERT)] [])) _
    refine XS.aload X1.here hx rfl (hb hby d8_19) rfl rfl ?_
    show Steps p.tables e below (T1.setTop (mkF m 21 #[.val (.ref a1), .val (.ref b2_1), .val (.int (4 : Int32)), .val (.int (0 : Int32)), .val (.ref w_INSERT)] [(.ref w_INSERT)])) _
    refine st4 _ ?_
    show Steps p.tables e below (T4.setTop (mkF m 24 #[.val (.ref a1), .val (.ref b2_1), .val (.int (4 : Int32)), .val (.int (0 : Int32)), .val (.ref w_INSERT)] [(.ref w_INSERT_shortName)])) _
    refine XS.aloadN X4.here hx rfl (hb hby d8_24) rfl rfl ?_
    show Steps p.tables e below (T4.setTop (mkF m 25 #[.val (.ref a1), .val (.ref b2_1), .val (.int (4 : Int32)), .val (.int (0 : Int32)), .val (.ref w_INSERT)] [(.ref a1), (.ref w_INSERT_shortName)])) _
    refine st5.trans ?_
    exact kt
  by_cases hc28_7 : (res_eq_2_2 (43 : Int32) (73 : Int32) y0 y1) = (0 : Int32)
  · obtain ⟨cl_b2_1_16_8, Ar_b2_1_16_8, q_b2_1_16_8, S_b2_1_16_8, N_b2_1_16_8, H_b2_1_16_8, G_b2_1_16_8⟩ := id f1_0
    have hin_b2_1_16_8 : ¬ ((1 : Int32) < 0 ∨ cl_b2_1_16_8.slots.size ≤ ((1 : Int32) : Int32).toNatClampNeg) := inb_of S_b2_1_16_8 ⟨by decide, by decide⟩
    obtain ⟨T9, X9, e9, st9⟩ := getF X5 hx hZ hown (host := "") (Or.inl (hw _ (List.mem_of_getElem? (i := 58) rfl))) Via.refl e5 (F_shortName_w_UPDATE_BEFORE.keep K1 nin0) (g := (mkF m 21 #[.val (.ref a1), .val (.ref b2_1), .val (.int (4 : Int32)), .val (.int (1 : Int32)), .val (.ref w_UPDATE_BEFORE)] [(.ref w_UPDATE_BEFORE)])) rfl rfl (hb hby d8_21)
    obtain ⟨cq10, kq10, q10a, q10b, q10c⟩ := isOf hZ e9 (E_w_UPDATE_BEFORE_shortName.keep K1)
    obtain ⟨_, _, ⟨T10, L10, k10, n10⟩, -, X10, ⟨Lc10, hQ10, l10, y10, z10⟩, st10⟩ := X9.virtualBack hx (y := (⟨"java/lang/String", "equals", "(Ljava/lang/Object;)Z"⟩ : MethodName)) (z := (⟨"java/lang/String", "equals", "(Ljava/lang/Object;)Z"⟩ : MethodName)) hown (mvT hZ (hw _ (List.mem_of_getElem? (i := 60) rfl))) (mvT hZ (hw _ (List.mem_of_getElem? (i := 61) rfl))) (notFace_of_selects (args := #[]) (mvT hZ (hw _ (List.mem_of_getElem? (i := 63) rfl)))) (mvT hZ (hw _ (List.mem_of_getElem? (i := 63) rfl))) (mvT hZ (hw _ (List.mem_of_getElem? (i := 62) rfl))) (by decide) (backOf (W := 0) (rm_eq_2_2 l Z a0 hw [] w_UPDATE_BEFORE_shortName a1 w_UPDATE_BEFORE_shortName_value k_UPDATE_BEFORE (45 : Int32) (85 : Int32) w_value_a1 kb y0 y1 w_COMPACT_STRINGS T1.heap n0 (Nat.le_trans Z0 KK1.1) (E_w_UPDATE_BEFORE_shortName.keep K1) (F_coder_w_UPDATE_BEFORE_shortName.keep K1 nin0) (F_value_w_UPDATE_BEFORE_shortName.keep K1 nin0) (V_w_UPDATE_BEFORE_shortName_value.keep K1 nin0) (E_a1.keep K1) (F_coder_a1.keep K1 nin0) (F_value_a1.keep K1 nin0) (V_w_value_a1.keep K1 nin0) (own_sta_keep S_COMPACT_STRINGS K1 all0) (hne_UPDATE_BEFORE : w_UPDATE_BEFORE_shortName ≠ a1) (hCS : ¬ (w_COMPACT_STRINGS = (0 : Int32)))) hZ (hw _ (List.mem_of_getElem? (i := 64) rfl)) (hw _ (List.mem_of_getElem? (i := 10) rfl)) (by decide) (by decide)) q10a q10c (g := (mkF m 25 #[.val (.ref a1), .val (.ref b2_1), .val (.int (4 : Int32)), .val (.int (1 : Int32)), .val (.ref w_UPDATE_BEFORE)] [(.ref a1), (.ref w_UPDATE_BEFORE_shortName)])) rfl (by rw [hml]; rfl) (Steps.refl _) (argsL := [(.ref a1)]) (rest := []) (lenOf pd6 rfl) rfl (by show 2 * 0 + _ ≤ _; exact Nat.le_of_eq rfl) (hb hby d8_25) (fun _ _ => ⟨rfl, e9, (by decide : 1 + 0 ≤ _), (by decide : 4 + 0 ≤ _)⟩)
    dsimp only [Pt.U, Pt.locs, Pt.cells, Pt.slots] at X10 l10 y10 z10 st10 hQ10
    subst l10 y10 z10
    obtain ⟨rfl, rfl, e10⟩ := hQ10
    have N10 := Fr.app N5 (Fr.nil n0)
    have pre11 : ∀ t, Steps p.tables e below (T10.setTop (mkF m 28 #[.val (.ref a1), .val (.ref b2_1), .val (.int (4 : Int32)), .val (.int (1 : Int32)), .val (.ref w_UPDATE_BEFORE)] [(.int (res_eq_2_2 (45 : Int32) (85 : Int32) y0 y1))])) t → Steps p.tables e below (s₁.setTop (entryFrame m #[(.ref a1)] 5)) t := by
      intro t kt
      refine pre6 _ ?_
      show Steps p.tables e below (T5.setTop (mkF m 28 #[.val (.ref a1), .val (.ref b2_1), .val (.int (4 : Int32)), .val (.int (0 : Int32)), .val (.ref w_INSERT)] [(.int (res_eq_2_2 (43 : Int32) (73 : Int32) y0 y1))])) _
      refine XS.ifYes X5.here hx rfl (pc0 := 28) (pc' := 34) rfl (hb hby d8_28) rfl ((if0 _ _).trans (teq hc28_7).1) (by decide) (by decide) ?_
      show Steps p.tables e below (T5.setTop (mkF m 34 #[.val (.ref a1), .val (.ref b2_1), .val (.int (4 : Int32)), .val (.int (0 : Int32)), .val (.ref w_INSERT)] [])) _
      refine XS.iinc X5.here hx rfl (hb hby d8_34) rfl (l' := #[.val (.ref a1), .val (.ref b2_1), .val (.int (4 : Int32)), .val (.int (1 : Int32)), .val (.ref w_INSERT)]) rfl ?_
      show Steps p.tables e below (T5.setTop (mkF m 37 #[.val (.ref a1), .val (.ref b2_1), .val (.int (4 : Int32)), .val (.int (1 : Int32)), .val (.ref w_INSERT)] [])) _
      refine XS.goto X5.here hx rfl (pc0 := 37) (pc' := 9) rfl (hb hby d8_37) (by decide) (by decide) ?_
      show Steps p.tables e below (T5.setTop (mkF m 9 #[.val (.ref a1), .val (.ref b2_1), .val (.int (4 : Int32)), .val (.int (1 : Int32)), .val (.ref w_INSERT)] [])) _
      refine XS.iloadN X5.here hx rfl (hb hby d8_9) rfl ?_
      show Steps p.tables e below (T5.setTop (mkF m 10 #[.val (.ref a1), .val (.ref b2_1), .val (.int (4 : Int32)), .val (.int (1 : Int32)), .val (.ref w_INSERT)] [(.int (1 : Int32))])) _
      refine XS.iloadN X5.here hx rfl (hb hby d8_10) rfl ?_
      show Steps p.tables e below (T5.setTop (mkF m 11 #[.val (.ref a1), .val (.ref b2_1), .val (.int (4 : Int32)), .val (.int (1 : Int32)), .val (.ref w_INSERT)] [(.int (4 : Int32)), (.int (1 : Int32))])) _
      refine XS.icmpNo X5.here hx rfl (hb hby d8_11) rfl (tlt (by decide : (1 : Int32) < (4 : Int32))).2.1 ?_
      show Steps p.tables e below (T5.setTop (mkF m 14 #[.val (.ref a1), .val (.ref b2_1), .val (.int (4 : Int32)), .val (.int (1 : Int32)), .val (.ref w_INSERT)] [])) _
      refine XS.aloadN X5.here hx rfl (hb hby d8_14) rfl rfl ?_
      show Steps p.tables e below (T5.setTop (mkF m 15 #[.val (.ref a1), .val (.ref b2_1), .val (.int (4 : Int32)), .val (.int (1 : Int32)), .val (.ref w_INSERT)] [(.ref b2_1)])) _
      refine XS.iloadN X5.here hx rfl (hb hby d8_15) rfl ?_
      show Steps p.tables e below (T5.setTop (mkF m 16 #[.val (.ref a1), .val (.ref b2_1), .val (.int (4 : Int32)), .val (.int (1 : Int32)), .val (.ref w_INSERT)] [(.int (1 : Int32)), (.ref b2_1)])) _
      refine X5.aaload hx (j := (1 : Int32)) (v := (.ref w_UPDATE_BEFORE)) (by rw [e5]; exact Ar_b2_1_16_8.1) (State.isArrayOf_alike hZ.alike Ar_b2_1_16_8.2.1) rfl Ar_b2_1_16_8.2.2 hin_b2_1_16_8 (H_b2_1_16_8.at hin_b2_1_16_8 rfl) (g := (mkF m 16 #[.val (.ref a1), .val (.ref b2_1), .val (.int (4 : Int32)), .val (.int (1 : Int32)), .val (.ref w_INSERT)] [(.int (1 : Int32)), (.ref b2_1)])) rfl rfl (hb hby d8_16) _ ?_
      show Steps p.tables e below (T5.setTop (mkF m 17 #[.val (.ref a1), .val (.ref b2_1), .val (.int (4 : Int32)), .val (.int (1 : Int32)), .val (.ref w_INSERT)] [(.ref w_UPDATE_BEFORE)])) _
      refine XS.astore X5.here hx rfl (hb hby d8_17) rfl rfl (l' := #[.val (.ref a1), .val (.ref b2_1), .val (.int (4 : Int32)), .val (.int (1 : Int32)), .val (.ref w_UPDATE_BEFORE)]) rfl ?_
      show Steps p.tables e below (T5.setTop (mkF m 19 #[.val (.ref a1), .val (.ref b2_1), .val (.int (4 : Int32)), .val (.int (1 : Int32)), .val (.ref w_UPDATE_BEFORE)] [])) _
      refine XS.aload X5.here hx rfl (hb hby d8_19) rfl rfl ?_
      show Steps p.tables e below (T5.setTop (mkF m 21 #[.val (.ref a1), .val (.ref b2_1), .val (.int (4 : Int32)), .val (.int (1 : Int32)), .val (.ref w_UPDATE_BEFORE)] [(.ref w_UPDATE_BEFORE)])) _
      refine st9 _ ?_
      show Steps p.tables e below (T9.setTop (mkF m 24 #[.val (.ref a1), .val (.ref b2_1), .val (.int (4 : Int32)), .val (.int (1 : Int32)), .val (.ref w_UPDATE_BEFORE)] [(.ref w_UPDATE_BEFORE_shortName)])) _
      refine XS.aloadN X9.here hx rfl (hb hby d8_24) rfl rfl ?_
      show Steps p.tables e below (T9.setTop (mkF m 25 #[.val (.ref a1), .val (.ref b2_1), .val (.int (4 : Int32)), .val (.int (1 : Int32)), .val (.ref w_UPDATE_BEFORE)] [(.ref a1), (.ref w_UPDATE_BEFORE_shortName)])) _
      refine st10.trans ?_
      exact kt
    by_cases hc28_12 : (res_eq_2_2 (45 : Int32) (85 : Int32) y0 y1) = (0 : Int32)
    · obtain ⟨cl_b2_1_16_13, Ar_b2_1_16_13, q_b2_1_16_13, S_b2_1_16_13, N_b2_1_16_13, H_b2_1_16_13, G_b2_1_16_13⟩ := id f1_0
      have hin_b2_1_16_13 : ¬ ((2 : Int32) < 0 ∨ cl_b2_1_16_13.slots.size ≤ ((2 : Int32) : Int32).toNatClampNeg) := inb_of S_b2_1_16_13 ⟨by decide, by decide⟩
      obtain ⟨T14, X14, e14, st14⟩ := getF X10 hx hZ hown (host := "") (Or.inl (hw _ (List.mem_of_getElem? (i := 58) rfl))) Via.refl e10 (F_shortName_w_UPDATE_AFTER.keep K1 nin0) (g := (mkF m 21 #[.val (.ref a1), .val (.ref b2_1), .val (.int (4 : Int32)), .val (.int (2 : Int32)), .val (.ref w_UPDATE_AFTER)] [(.ref w_UPDATE_AFTER)])) rfl rfl (hb hby d8_21)
      obtain ⟨cq15, kq15, q15a, q15b, q15c⟩ := isOf hZ e14 (E_w_UPDATE_AFTER_shortName.keep K1)
      obtain ⟨_, _, ⟨T15, L15, k15, n15⟩, -, X15, ⟨Lc15, hQ15, l15, y15, z15⟩, st15⟩ := X14.virtualBack hx (y := (⟨"java/lang/String", "equals", "(Ljava/lang/Object;)Z"⟩ : MethodName)) (z := (⟨"java/lang/String", "equals", "(Ljava/lang/Object;)Z"⟩ : MethodName)) hown (mvT hZ (hw _ (List.mem_of_getElem? (i := 60) rfl))) (mvT hZ (hw _ (List.mem_of_getElem? (i := 61) rfl))) (notFace_of_selects (args := #[]) (mvT hZ (hw _ (List.mem_of_getElem? (i := 63) rfl)))) (mvT hZ (hw _ (List.mem_of_getElem? (i := 63) rfl))) (mvT hZ (hw _ (List.mem_of_getElem? (i := 62) rfl))) (by decide) (backOf (W := 0) (rm_eq_2_2 l Z a0 hw [] w_UPDATE_AFTER_shortName a1 w_UPDATE_AFTER_shortName_value k_UPDATE_AFTER (43 : Int32) (85 : Int32) w_value_a1 kb y0 y1 w_COMPACT_STRINGS T1.heap n0 (Nat.le_trans Z0 KK1.1) (E_w_UPDATE_AFTER_shortName.keep K1) (F_coder_w_UPDATE_AFTER_shortName.keep K1 nin0) (F_value_w_UPDATE_AFTER_shortName.keep K1 nin0) (V_w_UPDATE_AFTER_shortName_value.keep K1 nin0) (E_a1.keep K1) (F_coder_a1.keep K1 nin0) (F_value_a1.keep K1 nin0) (V_w_value_a1.keep K1 nin0) (own_sta_keep S_COMPACT_STRINGS K1 all0) (hne_UPDATE_AFTER : w_UPDATE_AFTER_shortName ≠ a1) (hCS : ¬ (w_COMPACT_STRINGS = (0 : Int32)))) hZ (hw _ (List.mem_of_getElem? (i := 64) rfl)) (hw _ (List.mem_of_getElem? (i := 10) rfl)) (by decide) (by decide)) q15a q15c (g := (mkF m 25 #[.val (.ref a1), .val (.ref b2_1), .val (.int (4 : Int32)), .val (.int (2 : Int32)), .val (.ref w_UPDATE_AFTER)] [(.ref a1), (.ref w_UPDATE_AFTER_shortName)])) rfl (by rw [hml]; rfl) (Steps.refl _) (argsL := [(.ref a1)]) (rest := []) (lenOf pd6 rfl) rfl (by show 2 * 0 + _ ≤ _; exact Nat.le_of_eq rfl) (hb hby d8_25) (fun _ _ => ⟨rfl, e14, (by decide : 1 + 0 ≤ _), (by decide : 4 + 0 ≤ _)⟩)
      dsimp only [Pt.U, Pt.locs, Pt.cells, Pt.slots] at X15 l15 y15 z15 st15 hQ15
      subst l15 y15 z15
      obtain ⟨rfl, rfl, e15⟩ := hQ15
      have N15 := Fr.app N10 (Fr.nil n0)
      have pre16 : ∀ t, Steps p.tables e below (T15.setTop (mkF m 28 #[.val (.ref a1), .val (.ref b2_1), .val (.int (4 : Int32)), .val (.int (2 : Int32)), .val (.ref w_UPDATE_AFTER)] [(.int (res_eq_2_2 (43 : Int32) (85 : Int32) y0 y1))])) t → Steps p.tables e below (s₁.setTop (entryFrame m #[(.ref a1)] 5)) t := by
        intro t kt
        refine pre11 _ ?_
        show Steps p.tables e below (T10.setTop (mkF m 28 #[.val (.ref a1), .val (.ref b2_1), .val (.int (4 : Int32)), .val (.int (1 : Int32)), .val (.ref w_UPDATE_BEFORE)] [(.int (res_eq_2_2 (45 : Int32) (85 : Int32) y0 y1))])) _
        refine XS.ifYes X10.here hx rfl (pc0 := 28) (pc' := 34) rfl (hb hby d8_28) rfl ((if0 _ _).trans (teq hc28_12).1) (by decide) (by decide) ?_
        show Steps p.tables e below (T10.setTop (mkF m 34 #[.val (.ref a1), .val (.ref b2_1), .val (.int (4 : Int32)), .val (.int (1 : Int32)), .val (.ref w_UPDATE_BEFORE)] [])) _
        refine XS.iinc X10.here hx rfl (hb hby d8_34) rfl (l' := #[.val (.ref a1), .val (.ref b2_1), .val (.int (4 : Int32)), .val (.int (2 : Int32)), .val (.ref w_UPDATE_BEFORE)]) rfl ?_
        show Steps p.tables e below (T10.setTop (mkF m 37 #[.val (.ref a1), .val (.ref b2_1), .val (.int (4 : Int32)), .val (.int (2 : Int32)), .val (.ref w_UPDATE_BEFORE)] [])) _
        refine XS.goto X10.here hx rfl (pc0 := 37) (pc' := 9) rfl (hb hby d8_37) (by decide) (by decide) ?_
        show Steps p.tables e below (T10.setTop (mkF m 9 #[.val (.ref a1), .val (.ref b2_1), .val (.int (4 : Int32)), .val (.int (2 : Int32)), .val (.ref w_UPDATE_BEFORE)] [])) _
        refine XS.iloadN X10.here hx rfl (hb hby d8_9) rfl ?_
        show Steps p.tables e below (T10.setTop (mkF m 10 #[.val (.ref a1), .val (.ref b2_1), .val (.int (4 : Int32)), .val (.int (2 : Int32)), .val (.ref w_UPDATE_BEFORE)] [(.int (2 : Int32))])) _
        refine XS.iloadN X10.here hx rfl (hb hby d8_10) rfl ?_
        show Steps p.tables e below (T10.setTop (mkF m 11 #[.val (.ref a1), .val (.ref b2_1), .val (.int (4 : Int32)), .val (.int (2 : Int32)), .val (.ref w_UPDATE_BEFORE)] [(.int (4 : Int32)), (.int (2 : Int32))])) _
        refine XS.icmpNo X10.here hx rfl (hb hby d8_11) rfl (tlt (by decide : (2 : Int32) < (4 : Int32))).2.1 ?_
        show Steps p.tables e below (T10.setTop (mkF m 14 #[.val (.ref a1), .val (.ref b2_1), .val (.int (4 : Int32)), .val (.int (2 : Int32)), .val (.ref w_UPDATE_BEFORE)] [])) _
        refine XS.aloadN X10.here hx rfl (hb hby d8_14) rfl rfl ?_
        show Steps p.tables e below (T10.setTop (mkF m 15 #[.val (.ref a1), .val (.ref b2_1), .val (.int (4 : Int32)), .val (.int (2 : Int32)), .val (.ref w_UPDATE_BEFORE)] [(.ref b2_1)])) _
        refine XS.iloadN X10.here hx rfl (hb hby d8_15) rfl ?_
        show Steps p.tables e below (T10.setTop (mkF m 16 #[.val (.ref a1), .val (.ref b2_1), .val (.int (4 : Int32)), .val (.int (2 : Int32)), .val (.ref w_UPDATE_BEFORE)] [(.int (2 : Int32)), (.ref b2_1)])) _
        refine X10.aaload hx (j := (2 : Int32)) (v := (.ref w_UPDATE_AFTER)) (by rw [e10]; exact Ar_b2_1_16_13.1) (State.isArrayOf_alike hZ.alike Ar_b2_1_16_13.2.1) rfl Ar_b2_1_16_13.2.2 hin_b2_1_16_13 (H_b2_1_16_13.at hin_b2_1_16_13 rfl) (g := (mkF m 16 #[.val (.ref a1), .val (.ref b2_1), .val (.int (4 : Int32)), .val (.int (2 : Int32)), .val (.ref w_UPDATE_BEFORE)] [(.int (2 : Int32)), (.ref b2_1)])) rfl rfl (hb hby d8_16) _ ?_
        show Steps p.tables e below (T10.setTop (mkF m 17 #[.val (.ref a1), .val (.ref b2_1), .val (.int (4 : Int32)), .val (.int (2 : Int32)), .val (.ref w_UPDATE_BEFORE)] [(.ref w_UPDATE_AFTER)])) _
        refine XS.astore X10.here hx rfl (hb hby d8_17) rfl rfl (l' := #[.val (.ref a1), .val (.ref b2_1), .val (.int (4 : Int32)), .val (.int (2 : Int32)), .val (.ref w_UPDATE_AFTER)]) rfl ?_
        show Steps p.tables e below (T10.setTop (mkF m 19 #[.val (.ref a1), .val (.ref b2_1), .val (.int (4 : Int32)), .val (.int (2 : Int32)), .val (.ref w_UPDATE_AFTER)] [])) _
        refine XS.aload X10.here hx rfl (hb hby d8_19) rfl rfl ?_
        show Steps p.tables e below (T10.setTop (mkF m 21 #[.val (.ref a1), .val (.ref b2_1), .val (.int (4 : Int32)), .val (.int (2 : Int32)), .val (.ref w_UPDATE_AFTER)] [(.ref w_UPDATE_AFTER)])) _
        refine st14 _ ?_
        show Steps p.tables e below (T14.setTop (mkF m 24 #[.val (.ref a1), .val (.ref b2_1), .val (.int (4 : Int32)), .val (.int (2 : Int32)), .val (.ref w_UPDATE_AFTER)] [(.ref w_UPDATE_AFTER_shortName)])) _
        refine XS.aloadN X14.here hx rfl (hb hby d8_24) rfl rfl ?_
        show Steps p.tables e below (T14.setTop (mkF m 25 #[.val (.ref a1), .val (.ref b2_1), .val (.int (4 : Int32)), .val (.int (2 : Int32)), .val (.ref w_UPDATE_AFTER)] [(.ref a1), (.ref w_UPDATE_AFTER_shortName)])) _
        refine st15.trans ?_
        exact kt
      by_cases hc28_17 : (res_eq_2_2 (43 : Int32) (85 : Int32) y0 y1) = (0 : Int32)
      · obtain ⟨cl_b2_1_16_18, Ar_b2_1_16_18, q_b2_1_16_18, S_b2_1_16_18, N_b2_1_16_18, H_b2_1_16_18, G_b2_1_16_18⟩ := id f1_0
        have hin_b2_1_16_18 : ¬ ((3 : Int32) < 0 ∨ cl_b2_1_16_18.slots.size ≤ ((3 : Int32) : Int32).toNatClampNeg) := inb_of S_b2_1_16_18 ⟨by decide, by decide⟩
        obtain ⟨T19, X19, e19, st19⟩ := getF X15 hx hZ hown (host := "") (Or.inl (hw _ (List.mem_of_getElem? (i := 58) rfl))) Via.refl e15 (F_shortName_w_DELETE.keep K1 nin0) (g := (mkF m 21 #[.val (.ref a1), .val (.ref b2_1), .val (.int (4 : Int32)), .val (.int (3 : Int32)), .val (.ref w_DELETE)] [(.ref w_DELETE)])) rfl rfl (hb hby d8_21)
        obtain ⟨cq20, kq20, q20a, q20b, q20c⟩ := isOf hZ e19 (E_w_DELETE_shortName.keep K1)
        obtain ⟨_, _, ⟨T20, L20, k20, n20⟩, -, X20, ⟨Lc20, hQ20, l20, y20, z20⟩, st20⟩ := X19.virtualBack hx (y := (⟨"java/lang/String", "equals", "(Ljava/lang/Object;)Z"⟩ : MethodName)) (z := (⟨"java/lang/String", "equals", "(Ljava/lang/Object;)Z"⟩ : MethodName)) hown (mvT hZ (hw _ (List.mem_of_getElem? (i := 60) rfl))) (mvT hZ (hw _ (List.mem_of_getElem? (i := 61) rfl))) (notFace_of_selects (args := #[]) (mvT hZ (hw _ (List.mem_of_getElem? (i := 63) rfl)))) (mvT hZ (hw _ (List.mem_of_getElem? (i := 63) rfl))) (mvT hZ (hw _ (List.mem_of_getElem? (i := 62) rfl))) (by decide) (backOf (W := 0) (rm_eq_2_2 l Z a0 hw [] w_DELETE_shortName a1 w_DELETE_shortName_value k_DELETE (45 : Int32) (68 : Int32) w_value_a1 kb y0 y1 w_COMPACT_STRINGS T1.heap n0 (Nat.le_trans Z0 KK1.1) (E_w_DELETE_shortName.keep K1) (F_coder_w_DELETE_shortName.keep K1 nin0) (F_value_w_DELETE_shortName.keep K1 nin0) (V_w_DELETE_shortName_value.keep K1 nin0) (E_a1.keep K1) (F_coder_a1.keep K1 nin0) (F_value_a1.keep K1 nin0) (V_w_value_a1.keep K1 nin0) (own_sta_keep S_COMPACT_STRINGS K1 all0) (hne_DELETE : w_DELETE_shortName ≠ a1) (hCS : ¬ (w_COMPACT_STRINGS = (0 : Int32)))) hZ (hw _ (List.mem_of_getElem? (i := 64) rfl)) (hw _ (List.mem_of_getElem? (i := 10) rfl)) (by decide) (by decide)) q20a q20c (g := (mkF m 25 #[.val (.ref a1), .val (.ref b2_1), .val (.int (4 : Int32)), .val (.int (3 : Int32)), .val (.ref w_DELETE)] [(.ref a1), (.ref w_DELETE_shortName)])) rfl (by rw [hml]; rfl) (Steps.refl _) (argsL := [(.ref a1)]) (rest := []) (lenOf pd6 rfl) rfl (by show 2 * 0 + _ ≤ _; exact Nat.le_of_eq rfl) (hb hby d8_25) (fun _ _ => ⟨rfl, e19, (by decide : 1 + 0 ≤ _), (by decide : 4 + 0 ≤ _)⟩)
        dsimp only [Pt.U, Pt.locs, Pt.cells, Pt.slots] at X20 l20 y20 z20 st20 hQ20
        subst l20 y20 z20
        obtain ⟨rfl, rfl, e20⟩ := hQ20
        have N20 := Fr.app N15 (Fr.nil n0)
        have pre21 : ∀ t, Steps p.tables e below (T20.setTop (mkF m 28 #[.val (.ref a1), .val (.ref b2_1), .val (.int (4 : Int32)), .val (.int (3 : Int32)), .val (.ref w_DELETE)] [(.int (res_eq_2_2 (45 : Int32) (68 : Int32) y0 y1))])) t → Steps p.tables e below (s₁.setTop (entryFrame m #[(.ref a1)] 5)) t := by
          intro t kt
          refine pre16 _ ?_
          show Steps p.tables e below (T15.setTop (mkF m 28 #[.val (.ref a1), .val (.ref b2_1), .val (.int (4 : Int32)), .val (.int (2 : Int32)), .val (.ref w_UPDATE_AFTER)] [(.int (res_eq_2_2 (43 : Int32) (85 : Int32) y0 y1))])) _
          refine XS.ifYes X15.here hx rfl (pc0 := 28) (pc' := 34) rfl (hb hby d8_28) rfl ((if0 _ _).trans (teq hc28_17).1) (by decide) (by decide) ?_
          show Steps p.tables e below (T15.setTop (mkF m 34 #[.val (.ref a1), .val (.ref b2_1), .val (.int (4 : Int32)), .val (.int (2 : Int32)), .val (.ref w_UPDATE_AFTER)] [])) _
          refine XS.iinc X15.here hx rfl (hb hby d8_34) rfl (l' := #[.val (.ref a1), .val (.ref b2_1), .val (.int (4 : Int32)), .val (.int (3 : Int32)), .val (.ref w_UPDATE_AFTER)]) rfl ?_
          show Steps p.tables e below (T15.setTop (mkF m 37 #[.val (.ref a1), .val (.ref b2_1), .val (.int (4 : Int32)), .val (.int (3 : Int32)), .val (.ref w_UPDATE_AFTER)] [])) _
          refine XS.goto X15.here hx rfl (pc0 := 37) (pc' := 9) rfl (hb hby d8_37) (by decide) (by decide) ?_
          show Steps p.tables e below (T15.setTop (mkF m 9 #[.val (.ref a1), .val (.ref b2_1), .val (.int (4 : Int32)), .val (.int (3 : Int32)), .val (.ref w_UPDATE_AFTER)] [])) _
          refine XS.iloadN X15.here hx rfl (hb hby d8_9) rfl ?_
          show Steps p.tables e below (T15.setTop (mkF m 10 #[.val (.ref a1), .val (.ref b2_1), .val (.int (4 : Int32)), .val (.int (3 : Int32)), .val (.ref w_UPDATE_AFTER)] [(.int (3 : Int32))])) _
          refine XS.iloadN X15.here hx rfl (hb hby d8_10) rfl ?_
          show Steps p.tables e below (T15.setTop (mkF m 11 #[.val (.ref a1), .val (.ref b2_1), .val (.int (4 : Int32)), .val (.int (3 : Int32)), .val (.ref w_UPDATE_AFTER)] [(.int (4 : Int32)), (.int (3 : Int32))])) _
          refine XS.icmpNo X15.here hx rfl (hb hby d8_11) rfl (tlt (by decide : (3 : Int32) < (4 : Int32))).2.1 ?_
          show Steps p.tables e below (T15.setTop (mkF m 14 #[.val (.ref a1), .val (.ref b2_1), .val (.int (4 : Int32)), .val (.int (3 : Int32)), .val (.ref w_UPDATE_AFTER)] [])) _
          refine XS.aloadN X15.here hx rfl (hb hby d8_14) rfl rfl ?_
          show Steps p.tables e below (T15.setTop (mkF m 15 #[.val (.ref a1), .val (.ref b2_1), .val (.int (4 : Int32)), .val (.int (3 : Int32)), .val (.ref w_UPDATE_AFTER)] [(.ref b2_1)])) _
          refine XS.iloadN X15.here hx rfl (hb hby d8_15) rfl ?_
          show Steps p.tables e below (T15.setTop (mkF m 16 #[.val (.ref a1), .val (.ref b2_1), .val (.int (4 : Int32)), .val (.int (3 : Int32)), .val (.ref w_UPDATE_AFTER)] [(.int (3 : Int32)), (.ref b2_1)])) _
          refine X15.aaload hx (j := (3 : Int32)) (v := (.ref w_DELETE)) (by rw [e15]; exact Ar_b2_1_16_18.1) (State.isArrayOf_alike hZ.alike Ar_b2_1_16_18.2.1) rfl Ar_b2_1_16_18.2.2 hin_b2_1_16_18 (H_b2_1_16_18.at hin_b2_1_16_18 rfl) (g := (mkF m 16 #[.val (.ref a1), .val (.ref b2_1), .val (.int (4 : Int32)), .val (.int (3 : Int32)), .val (.ref w_UPDATE_AFTER)] [(.int (3 : Int32)), (.ref b2_1)])) rfl rfl (hb hby d8_16) _ ?_
          show Steps p.tables e below (T15.setTop (mkF m 17 #[.val (.ref a1), .val (.ref b2_1), .val (.int (4 : Int32)), .val (.int (3 : Int32)), .val (.ref w_UPDATE_AFTER)] [(.ref w_DELETE)])) _
          refine XS.astore X15.here hx rfl (hb hby d8_17) rfl rfl (l' := #[.val (.ref a1), .val (.ref b2_1), .val (.int (4 : Int32)), .val (.int (3 : Int32)), .val (.ref w_DELETE)]) rfl ?_
          show Steps p.tables e below (T15.setTop (mkF m 19 #[.val (.ref a1), .val (.ref b2_1), .val (.int (4 : Int32)), .val (.int (3 : Int32)), .val (.ref w_DELETE)] [])) _
          refine XS.aload X15.here hx rfl (hb hby d8_19) rfl rfl ?_
          show Steps p.tables e below (T15.setTop (mkF m 21 #[.val (.ref a1), .val (.ref b2_1), .val (.int (4 : Int32)), .val (.int (3 : Int32)), .val (.ref w_DELETE)] [(.ref w_DELETE)])) _
          refine st19 _ ?_
          show Steps p.tables e below (T19.setTop (mkF m 24 #[.val (.ref a1), .val (.ref b2_1), .val (.int (4 : Int32)), .val (.int (3 : Int32)), .val (.ref w_DELETE)] [(.ref w_DELETE_shortName)])) _
          refine XS.aloadN X19.here hx rfl (hb hby d8_24) rfl rfl ?_
          show Steps p.tables e below (T19.setTop (mkF m 25 #[.val (.ref a1), .val (.ref b2_1), .val (.int (4 : Int32)), .val (.int (3 : Int32)), .val (.ref w_DELETE)] [(.ref a1), (.ref w_DELETE_shortName)])) _
          refine st20.trans ?_
          exact kt
        by_cases hc28_22 : (res_eq_2_2 (45 : Int32) (68 : Int32) y0 y1) = (0 : Int32)
        · exfalso
          rcases hm with ⟨rfl, rfl⟩ | ⟨rfl, rfl⟩ | ⟨rfl, rfl⟩ | ⟨rfl, rfl⟩ <;> first | exact absurd hc28_7 (by decide) | exact absurd hc28_12 (by decide) | exact absurd hc28_17 (by decide) | exact absurd hc28_22 (by decide)
        · obtain ⟨fs, hr, hrun, hended, hW, hsame⟩ := X20.leave (v := some (.ref w_DELETE)) (fun h => by rw [Bd.returns] at h; cases h)
          refine ⟨_, _, pre21 _ ?_, hrun, hended, _, _, rfl, ?_, ⟨_, rfl⟩, hW, hsame.mono (by decide) (by decide)⟩
          · show Steps p.tables e below (T20.setTop (mkF m 28 #[.val (.ref a1), .val (.ref b2_1), .val (.int (4 : Int32)), .val (.int (3 : Int32)), .val (.ref w_DELETE)] [(.int (res_eq_2_2 (45 : Int32) (68 : Int32) y0 y1))])) _
            refine XS.ifNo X20.here hx rfl (hb hby d8_28) rfl ((if0 _ _).trans (feq hc28_22).1) ?_
            show Steps p.tables e below (T20.setTop (mkF m 31 #[.val (.ref a1), .val (.ref b2_1), .val (.int (4 : Int32)), .val (.int (3 : Int32)), .val (.ref w_DELETE)] [])) _
            refine XS.aload X20.here hx rfl (hb hby d8_31) rfl rfl ?_
            show Steps p.tables e below (T20.setTop (mkF m 33 #[.val (.ref a1), .val (.ref b2_1), .val (.int (4 : Int32)), .val (.int (3 : Int32)), .val (.ref w_DELETE)] [(.ref w_DELETE)])) _
            exact retOut X20 hx Bd.returns rfl (Or.inr (Or.inr (Or.inr (Or.inr ⟨rfl, rfl, rfl⟩)))) (hb hby d8_33) hr
          · show Q8 Z a1 w__VALUES kV w_INSERT w_UPDATE_BEFORE w_UPDATE_AFTER w_DELETE w_INSERT_shortName w_INSERT_shortName_value k_INSERT w_UPDATE_BEFORE_shortName w_UPDATE_BEFORE_shortName_value k_UPDATE_BEFORE w_UPDATE_AFTER_shortName w_UPDATE_AFTER_shortName_value k_UPDATE_AFTER w_DELETE_shortName w_DELETE_shortName_value k_DELETE w_value_a1 kb y0 y1 w_COMPACT_STRINGS h0 n0 _ T20.heap _
            rw [e20]
            exact ⟨by rw [res8, if_pos hc28_7, if_pos hc28_12, if_pos hc28_17], N20, KK1⟩
      · obtain ⟨fs, hr, hrun, hended, hW, hsame⟩ := X15.leave (v := some (.ref w_UPDATE_AFTER)) (fun h => by rw [Bd.returns] at h; cases h)
        refine ⟨_, _, pre16 _ ?_, hrun, hended, _, _, rfl, ?_, ⟨_, rfl⟩, hW, hsame.mono (by decide) (by decide)⟩
        · show Steps p.tables e below (T15.setTop (mkF m 28 #[.val (.ref a1), .val (.ref b2_1), .val (.int (4 : Int32)), .val (.int (2 : Int32)), .val (.ref w_UPDATE_AFTER)] [(.int (res_eq_2_2 (43 : Int32) (85 : Int32) y0 y1))])) _
          refine XS.ifNo X15.here hx rfl (hb hby d8_28) rfl ((if0 _ _).trans (feq hc28_17).1) ?_
          show Steps p.tables e below (T15.setTop (mkF m 31 #[.val (.ref a1), .val (.ref b2_1), .val (.int (4 : Int32)), .val (.int (2 : Int32)), .val (.ref w_UPDATE_AFTER)] [])) _
          refine XS.aload X15.here hx rfl (hb hby d8_31) rfl rfl ?_
          show Steps p.tables e below (T15.setTop (mkF m 33 #[.val (.ref a1), .val (.ref b2_1), .val (.int (4 : Int32)), .val (.int (2 : Int32)), .val (.ref w_UPDATE_AFTER)] [(.ref w_UPDATE_AFTER)])) _
          exact retOut X15 hx Bd.returns rfl (Or.inr (Or.inr (Or.inr (Or.inr ⟨rfl, rfl, rfl⟩)))) (hb hby d8_33) hr
        · show Q8 Z a1 w__VALUES kV w_INSERT w_UPDATE_BEFORE w_UPDATE_AFTER w_DELETE w_INSERT_shortName w_INSERT_shortName_value k_INSERT w_UPDATE_BEFORE_shortName w_UPDATE_BEFORE_shortName_value k_UPDATE_BEFORE w_UPDATE_AFTER_shortName w_UPDATE_AFTER_shortName_value k_UPDATE_AFTER w_DELETE_shortName w_DELETE_shortName_value k_DELETE w_value_a1 kb y0 y1 w_COMPACT_STRINGS h0 n0 _ T15.heap _
          rw [e15]
          exact ⟨by rw [res8, if_pos hc28_7, if_pos hc28_12, if_neg hc28_17], N15, KK1⟩
    · obtain ⟨fs, hr, hrun, hended, hW, hsame⟩ := X10.leave (v := some (.ref w_UPDATE_BEFORE)) (fun h => by rw [Bd.returns] at h; cases h)
      refine ⟨_, _, pre11 _ ?_, hrun, hended, _, _, rfl, ?_, ⟨_, rfl⟩, hW, hsame.mono (by decide) (by decide)⟩
      · show Steps p.tables e below (T10.setTop (mkF m 28 #[.val (.ref a1), .val (.ref b2_1), .val (.int (4 : Int32)), .val (.int (1 : Int32)), .val (.ref w_UPDATE_BEFORE)] [(.int (res_eq_2_2 (45 : Int32) (85 : Int32) y0 y1))])) _
        refine XS.ifNo X10.here hx rfl (hb hby d8_28) rfl ((if0 _ _).trans (feq hc28_12).1) ?_
        show Steps p.tables e below (T10.setTop (mkF m 31 #[.val (.ref a1), .val (.ref b2_1), .val (.int (4 : Int32)), .val (.int (1 : Int32)), .val (.ref w_UPDATE_BEFORE)] [])) _
        refine XS.aload X10.here hx rfl (hb hby d8_31) rfl rfl ?_
        show Steps p.tables e below (T10.setTop (mkF m 33 #[.val (.ref a1), .val (.ref b2_1), .val (.int (4 : Int32)), .val (.int (1 : Int32)), .val (.ref w_UPDATE_BEFORE)] [(.ref w_UPDATE_BEFORE)])) _
        exact retOut X10 hx Bd.returns rfl (Or.inr (Or.inr (Or.inr (Or.inr ⟨rfl, rfl, rfl⟩)))) (hb hby d8_33) hr
      · show Q8 Z a1 w__VALUES kV w_INSERT w_UPDATE_BEFORE w_UPDATE_AFTER w_DELETE w_INSERT_shortName w_INSERT_shortName_value k_INSERT w_UPDATE_BEFORE_shortName w_UPDATE_BEFORE_shortName_value k_UPDATE_BEFORE w_UPDATE_AFTER_shortName w_UPDATE_AFTER_shortName_value k_UPDATE_AFTER w_DELETE_shortName w_DELETE_shortName_value k_DELETE w_value_a1 kb y0 y1 w_COMPACT_STRINGS h0 n0 _ T10.heap _
        rw [e10]
        exact ⟨by rw [res8, if_pos hc28_7, if_neg hc28_12], N10, KK1⟩
  · obtain ⟨fs, hr, hrun, hended, hW, hsame⟩ := X5.leave (v := some (.ref w_INSERT)) (fun h => by rw [Bd.returns] at h; cases h)
    refine ⟨_, _, pre6 _ ?_, hrun, hended, _, _, rfl, ?_, ⟨_, rfl⟩, hW, hsame.mono (by decide) (by decide)⟩
    · show Steps p.tables e below (T5.setTop (mkF m 28 #[.val (.ref a1), .val (.ref b2_1), .val (.int (4 : Int32)), .val (.int (0 : Int32)), .val (.ref w_INSERT)] [(.int (res_eq_2_2 (43 : Int32) (73 : Int32) y0 y1))])) _
      refine XS.ifNo X5.here hx rfl (hb hby d8_28) rfl ((if0 _ _).trans (feq hc28_7).1) ?_
      show Steps p.tables e below (T5.setTop (mkF m 31 #[.val (.ref a1), .val (.ref b2_1), .val (.int (4 : Int32)), .val (.int (0 : Int32)), .val (.ref w_INSERT)] [])) _
      refine XS.aload X5.here hx rfl (hb hby d8_31) rfl rfl ?_
      show Steps p.tables e below (T5.setTop (mkF m 33 #[.val (.ref a1), .val (.ref b2_1), .val (.int (4 : Int32)), .val (.int (0 : Int32)), .val (.ref w_INSERT)] [(.ref w_INSERT)])) _
      exact retOut X5 hx Bd.returns rfl (Or.inr (Or.inr (Or.inr (Or.inr ⟨rfl, rfl, rfl⟩)))) (hb hby d8_33) hr
    · show Q8 Z a1 w__VALUES kV w_INSERT w_UPDATE_BEFORE w_UPDATE_AFTER w_DELETE w_INSERT_shortName w_INSERT_shortName_value k_INSERT w_UPDATE_BEFORE_shortName w_UPDATE_BEFORE_shortName_value k_UPDATE_BEFORE w_UPDATE_AFTER_shortName w_UPDATE_AFTER_shortName_value k_UPDATE_AFTER w_DELETE_shortName w_DELETE_shortName_value k_DELETE w_value_a1 kb y0 y1 w_COMPACT_STRINGS h0 n0 _ T5.heap _
      rw [e5]
      exact ⟨by rw [res8, if_neg hc28_7], N5, KK1⟩
theorem d12_0 : decode prog_28_method_6_code 0 = .ok (.aload_n 0, 1) := by decide +kernel
theorem d12_1 : decode prog_28_method_6_code 1 = .ok (.getfield 35, 3) := by decide +kernel
theorem d12_4 : decode prog_28_method_6_code 4 = .ok (.areturn, 1) := by decide +kernel
theorem ef12 (m : MethodId) (a1 : Addr) : entryFrame m #[(.ref a1)] 1 = (mkF m 0 #[.val (.ref a1)] []) := by first | (simp [entryFrame, mkF, argsToLocals, Value.category]; done) | rfl
def Q12 (Z : State) (a1 : Addr) (w_shortName_a1 : Addr) (h0 : Heap) (n0 : Nat) (v : Option Value) (h : Heap) (L : List Loc) : Prop := v = some (.ref w_shortName_a1) ∧ L = [] ∧ h = h0
set_option maxRecDepth 65536 in
set_option maxHeartbeats 40000000 in
theorem rm12 (l : Launch) (Z : State) (a0 : Array Value) (hw : ∀ d ∈ tables_1, d.before a0 Z = true) (ws : List Jvm.Cond) (a1 : Addr) (w_shortName_a1 : Addr) (h0 : Heap) (n0 : Nat) (Z0 : n0 ≤ h0.size) (F_shortName_a1 : Fld Z h0 a1 "com/example/tidemark/tidemark/table/RowKind" "shortName" "Ljava/lang/String;" (.ref w_shortName_a1)) :
    MetFree l (⟨"com/example/tidemark/tidemark/table/RowKind", "shortName", "()Ljava/lang/String;"⟩ : MethodName) (head1 (Jvm.Cond.code (⟨"com/example/tidemark/tidemark/table/RowKind", "shortName", "()Ljava/lang/String;"⟩ : MethodName) prog_28_method_6_code 1 (some (.object "java/lang/String")) :: ws) ({ frames := 0, cells := 0, slots := 0, locals := 0 } : Room)) (fun a U => a = #[(.ref a1)] ∧ Z.Warmed39 U.vm ∧ U.heap = h0) (fun _ _ _ _ _ => True) (fun _ U o U' => ∃ v L, o = .returned v ∧ Q12 Z a1 w_shortName_a1 h0 n0 v U'.heap L ∧ FrameEnd U o U' L ({ frames := 0, cells := 0, slots := 0, locals := 0 } : Room).cells ({ frames := 0, cells := 0, slots := 0, locals := 0 } : Room).slots) := by
  refine MetFree.of_bodySF (plainFor_of_name pn0) hisR ?_
  intro p e s m args below meth c s₁ Bd hml0 hP hK
  obtain ⟨rfl, hZ, hh⟩ := hP
  have hx := Bd.exec
  have hby := Bd.bytes
  have hml : c.maxLocals = 1 := hml0
  have hown : s.vm.findClass "com/example/tidemark/tidemark/table/RowKind" = some m.cls := findClass_of_methodNamed Bd.named
  have hnm := (name_of_methodNamed Bd.named Bd.method).1
  have X0 : Stand p l e ({ frames := 0, cells := 0, slots := 0, locals := 0 } : Room) s m #[(.ref a1)] below meth c s₁ [] 0 0 := Stand.of_body Bd
  have e0 : s₁.heap = h0 := by rw [← hh, Bd.state]; rfl
  have N0 := Fr.nil n0
  have pre0 : ∀ t, Steps p.tables e below (s₁.setTop (mkF m 0 #[.val (.ref a1)] [])) t → Steps p.tables e below (s₁.setTop (entryFrame m #[(.ref a1)] 1)) t := fun t k => castTop (ef12 m a1) k
  obtain ⟨T1, X1, e1, st1⟩ := getF X0 hx hZ hown (host := "") (Or.inl (hw _ (List.mem_of_getElem? (i := 58) rfl))) Via.refl e0 F_shortName_a1 (g := (mkF m 1 #[.val (.ref a1)] [(.ref a1)])) rfl rfl (hb hby d12_1)
  obtain ⟨fs, hr, hrun, hended, hW, hsame⟩ := X1.leave (v := some (.ref w_shortName_a1)) (fun h => by rw [Bd.returns] at h; cases h)
  refine ⟨_, _, pre0 _ ?_, hrun, hended, _, _, rfl, ?_, ⟨_, rfl⟩, hW, hsame.mono (by decide) (by decide)⟩
  · show Steps p.tables e below (s₁.setTop (mkF m 0 #[.val (.ref a1)] [])) _
    refine XS.aloadN X0.here hx rfl (hb hby d12_0) rfl rfl ?_
    show Steps p.tables e below (s₁.setTop (mkF m 1 #[.val (.ref a1)] [(.ref a1)])) _
    refine st1 _ ?_
    show Steps p.tables e below (T1.setTop (mkF m 4 #[.val (.ref a1)] [(.ref w_shortName_a1)])) _
    exact retOut X1 hx Bd.returns rfl (Or.inr (Or.inr (Or.inr (Or.inr ⟨rfl, rfl, rfl⟩)))) (hb hby d12_4) hr
  · show Q12 Z a1 w_shortName_a1 h0 n0 _ T1.heap _
    rw [e1]
    exact ⟨rfl, rfl, rfl⟩
theorem d1_0 : decode method_2_code 0 = .ok (.iload_n 0, 1) := by decide +kernel
theorem d1_1 : decode method_2_code 1 = .ok (.sipush 256, 3) := by decide +kernel
theorem d1_4 : decode method_2_code 4 = .ok (.iand, 1) := by decide +kernel
theorem d1_5 : decode method_2_code 5 = .ok (.ifCond .ne 10, 3) := by decide +kernel
theorem d1_8 : decode method_2_code 8 = .ok (.iload_n 0, 1) := by decide +kernel
theorem d1_9 : decode method_2_code 9 = .ok (.sipush 255, 3) := by decide +kernel
theorem d1_12 : decode method_2_code 12 = .ok (.iand, 1) := by decide +kernel
theorem d1_13 : decode method_2_code 13 = .ok (.i2c, 1) := by decide +kernel
theorem d1_14 : decode method_2_code 14 = .ok (.ireturn, 1) := by decide +kernel
theorem d1_15 : decode method_2_code 15 = .ok (.iload_n 0, 1) := by decide +kernel
theorem d1_16 : decode method_2_code 16 = .ok (.bipush 7, 2) := by decide +kernel
theorem d1_18 : decode method_2_code 18 = .ok (.iand, 1) := by decide +kernel
theorem d1_19 : decode method_2_code 19 = .ok (.istore_n 1, 1) := by decide +kernel
theorem d1_20 : decode method_2_code 20 = .ok (.iload_n 1, 1) := by decide +kernel
theorem d1_21 : decode method_2_code 21 = .ok (.ifCond .eq 8, 3) := by decide +kernel
theorem d1_24 : decode method_2_code 24 = .ok (.iload_n 1, 1) := by decide +kernel
theorem d1_25 : decode method_2_code 25 = .ok (.iconst 5, 1) := by decide +kernel
theorem d1_26 : decode method_2_code 26 = .ok (.if_icmp .ne 6, 3) := by decide +kernel
theorem d1_29 : decode method_2_code 29 = .ok (.bipush 43, 2) := by decide +kernel
theorem d1_31 : decode method_2_code 31 = .ok (.ireturn, 1) := by decide +kernel
theorem d1_32 : decode method_2_code 32 = .ok (.iload_n 1, 1) := by decide +kernel
theorem d1_33 : decode method_2_code 33 = .ok (.iconst 1, 1) := by decide +kernel
theorem d1_34 : decode method_2_code 34 = .ok (.if_icmp .eq 9, 3) := by decide +kernel
theorem d1_37 : decode method_2_code 37 = .ok (.iload_n 1, 1) := by decide +kernel
theorem d1_38 : decode method_2_code 38 = .ok (.bipush 6, 2) := by decide +kernel
theorem d1_40 : decode method_2_code 40 = .ok (.if_icmp .ne 6, 3) := by decide +kernel
theorem d1_43 : decode method_2_code 43 = .ok (.bipush 45, 2) := by decide +kernel
theorem d1_45 : decode method_2_code 45 = .ok (.ireturn, 1) := by decide +kernel
theorem d1_46 : decode method_2_code 46 = .ok (.iload_n 1, 1) := by decide +kernel
theorem d1_47 : decode method_2_code 47 = .ok (.iconst 2, 1) := by decide +kernel
theorem d1_48 : decode method_2_code 48 = .ok (.if_icmp .ne 6, 3) := by decide +kernel
theorem d1_51 : decode method_2_code 51 = .ok (.bipush 73, 2) := by decide +kernel
theorem d1_53 : decode method_2_code 53 = .ok (.ireturn, 1) := by decide +kernel
theorem d1_54 : decode method_2_code 54 = .ok (.iload_n 1, 1) := by decide +kernel
theorem d1_55 : decode method_2_code 55 = .ok (.iconst 3, 1) := by decide +kernel
theorem d1_56 : decode method_2_code 56 = .ok (.if_icmp .ne 6, 3) := by decide +kernel
theorem d1_59 : decode method_2_code 59 = .ok (.bipush 85, 2) := by decide +kernel
theorem d1_61 : decode method_2_code 61 = .ok (.ireturn, 1) := by decide +kernel
theorem d1_62 : decode method_2_code 62 = .ok (.iload_n 1, 1) := by decide +kernel
theorem d1_63 : decode method_2_code 63 = .ok (.iconst 4, 1) := by decide +kernel
theorem d1_64 : decode method_2_code 64 = .ok (.if_icmp .ne 6, 3) := by decide +kernel
theorem d1_67 : decode method_2_code 67 = .ok (.bipush 68, 2) := by decide +kernel
theorem d1_69 : decode method_2_code 69 = .ok (.ireturn, 1) := by decide +kernel
theorem d1_70 : decode method_2_code 70 = .ok (.bipush 85, 2) := by decide +kernel
theorem d1_72 : decode method_2_code 72 = .ok (.ireturn, 1) := by decide +kernel
def res1 (p1 : Int32) : Int32 := if (p1 &&& (256 : Int32)) = (0 : Int32) then (nar .char ((p1 &&& (255 : Int32)).toUInt32.toUInt16.toUInt32.toInt32)) else if (p1 &&& (7 : Int32)) = (0 : Int32) then (43 : Int32) else if (p1 &&& (7 : Int32)) = (5 : Int32) then (43 : Int32) else if (p1 &&& (7 : Int32)) = (1 : Int32) then (45 : Int32) else if (p1 &&& (7 : Int32)) = (6 : Int32) then (45 : Int32) else if (p1 &&& (7 : Int32)) = (2 : Int32) then (73 : Int32) else if (p1 &&& (7 : Int32)) = (3 : Int32) then (85 : Int32) else if (p1 &&& (7 : Int32)) = (4 : Int32) then (68 : Int32) else (85 : Int32)
theorem pn4 : plainName "com/example/tidemark/tidemark/table/RowKindFromShortNamePinLaw" = true := by first | (simp [plainName, overriddenIn]; done) | decide +kernel
theorem ef1 (m : MethodId) (p1 : Int32) : entryFrame m #[(.int p1)] 2 = (mkF m 0 #[.val (.int p1), .unset] []) := by first | (simp [entryFrame, mkF, argsToLocals, Value.category]; done) | rfl
def Q1 (Z : State) (p1 : Int32) (h0 : Heap) (n0 : Nat) (v : Option Value) (h : Heap) (L : List Loc) : Prop := v = some (.int (res1 p1)) ∧ L = [] ∧ h = h0
set_option maxRecDepth 65536 in
set_option maxHeartbeats 40000000 in
theorem rm1 (l : Launch) (Z : State) (a0 : Array Value) (hw : ∀ d ∈ tables_1, d.before a0 Z = true) (ws : List Jvm.Cond) (p1 : Int32) (h0 : Heap) (n0 : Nat) (Z0 : n0 ≤ h0.size) :
    MetFree l (⟨"com/example/tidemark/tidemark/table/RowKindFromShortNamePinLaw", "pick", "(I)C"⟩ : MethodName) (head1 (Jvm.Cond.code (⟨"com/example/tidemark/tidemark/table/RowKindFromShortNamePinLaw", "pick", "(I)C"⟩ : MethodName) method_2_code 2 (some .char) :: ws) ({ frames := 0, cells := 0, slots := 0, locals := 0 } : Room)) (fun a U => a = #[(.int p1)] ∧ Z.Warmed39 U.vm ∧ U.heap = h0) (fun _ _ _ _ _ => True) (fun _ U o U' => ∃ v L, o = .returned v ∧ Q1 Z p1 h0 n0 v U'.heap L ∧ FrameEnd U o U' L ({ frames := 0, cells := 0, slots := 0, locals := 0 } : Room).cells ({ frames := 0, cells := 0, slots := 0, locals := 0 } : Room).slots) := by
  refine MetFree.of_bodySF (plainFor_of_name pn4) hisR ?_
  intro p e s m args below meth c s₁ Bd hml0 hP hK
  obtain ⟨rfl, hZ, hh⟩ := hP
  have hx := Bd.exec
  have hby := Bd.bytes
  have hml : c.maxLocals = 2 := hml0
  have hown : s.vm.findClass "com/example/tidemark/tidemark/table/RowKindFromShortNamePinLaw" = some m.cls := findClass_of_methodNamed Bd.named
  have hnm := (name_of_methodNamed Bd.named Bd.method).1
  have X0 : Stand p l e ({ frames := 0, cells := 0, slots := 0, locals := 0 } : Room) s m #[(.int p1)] below meth c s₁ [] 0 0 := Stand.of_body Bd
  have e0 : s₁.heap = h0 := by rw [← hh, Bd.state]; rfl
  have N0 := Fr.nil n0
  have pre0 : ∀ t, Steps p.tables e below (s₁.setTop (mkF m 0 #[.val (.int p1), .unset] [])) t → Steps p.tables e below (s₁.setTop (entryFrame m #[(.int p1)] 2)) t := fun t k => castTop (ef1 m p1) k
  have pre1 : ∀ t, Steps p.tables e below (s₁.setTop (mkF m 5 #[.val (.int p1), .unset] [(.int (p1 &&& (256 : Int32)))])) t → Steps p.tables e below (s₁.setTop (entryFrame m #[(.int p1)] 2)) t := by
    intro t kt
    refine pre0 _ ?_
    show Steps p.tables e below (s₁.setTop (mkF m 0 #[.val (.int p1), .unset] [])) _
    refine XS.iloadN X0.here hx rfl (hb hby d1_0) rfl ?_
    show Steps p.tables e below (s₁.setTop (mkF m 1 #[.val (.int p1), .unset] [(.int p1)])) _
    refine XS.sipush X0.here hx rfl (hb hby d1_1) ?_
    show Steps p.tables e below (s₁.setTop (mkF m 4 #[.val (.int p1), .unset] [(.int (256 : Int32)), (.int p1)])) _
    refine XS.iand X0.here hx rfl (hb hby d1_4) rfl ?_
    exact kt
  by_cases hc5_2 : (p1 &&& (256 : Int32)) = (0 : Int32)
  · obtain ⟨fs, hr, hrun, hended, hW, hsame⟩ := X0.leave (v := some (.int (nar .char ((p1 &&& (255 : Int32)).toUInt32.toUInt16.toUInt32.toInt32)))) (fun h => by rw [Bd.returns] at h; cases h)
    refine ⟨_, _, pre1 _ ?_, hrun, hended, _, _, rfl, ?_, ⟨_, rfl⟩, hW, hsame.mono (by decide) (by decide)⟩
    · show Steps p.tables e below (s₁.setTop (mkF m 5 #[.val (.int p1), .unset] [(.int (p1 &&& (256 : Int32)))])) _
      refine XS.ifNo X0.here hx rfl (hb hby d1_5) rfl ((if0 _ _).trans (teq hc5_2).2) ?_
      show Steps p.tables e below (s₁.setTop (mkF m 8 #[.val (.int p1), .unset] [])) _
      refine XS.iloadN X0.here hx rfl (hb hby d1_8) rfl ?_
      show Steps p.tables e below (s₁.setTop (mkF m 9 #[.val (.int p1), .unset] [(.int p1)])) _
      refine XS.sipush X0.here hx rfl (hb hby d1_9) ?_
      show Steps p.tables e below (s₁.setTop (mkF m 12 #[.val (.int p1), .unset] [(.int (255 : Int32)), (.int p1)])) _
      refine XS.iand X0.here hx rfl (hb hby d1_12) rfl ?_
      show Steps p.tables e below (s₁.setTop (mkF m 13 #[.val (.int p1), .unset] [(.int (p1 &&& (255 : Int32)))])) _
      refine XS.i2c X0.here hx rfl (hb hby d1_13) rfl ?_
      show Steps p.tables e below (s₁.setTop (mkF m 14 #[.val (.int p1), .unset] [(.int ((p1 &&& (255 : Int32)).toUInt32.toUInt16.toUInt32.toInt32))])) _
      exact retN X0 hx (t := .char) Bd.returns (by simp) (hb hby d1_14) hr
    · show Q1 Z p1 h0 n0 _ s₁.heap _
      rw [e0]
      exact ⟨by rw [res1, if_pos hc5_2], rfl, rfl⟩
  · have pre3 : ∀ t, Steps p.tables e below (s₁.setTop (mkF m 21 #[.val (.int p1), .val (.int (p1 &&& (7 : Int32)))] [(.int (p1 &&& (7 : Int32)))])) t → Steps p.tables e below (s₁.setTop (entryFrame m #[(.int p1)] 2)) t := by
      intro t kt
      refine pre1 _ ?_
      show Steps p.tables e below (s₁.setTop (mkF m 5 #[.val (.int p1), .unset] [(.int (p1 &&& (256 : Int32)))])) _
      refine XS.ifYes X0.here hx rfl (pc0 := 5) (pc' := 15) rfl (hb hby d1_5) rfl ((if0 _ _).trans (feq hc5_2).2) (by decide) (by decide) ?_
      show Steps p.tables e below (s₁.setTop (mkF m 15 #[.val (.int p1), .unset] [])) _
      refine XS.iloadN X0.here hx rfl (hb hby d1_15) rfl ?_
      show Steps p.tables e below (s₁.setTop (mkF m 16 #[.val (.int p1), .unset] [(.int p1)])) _
      refine XS.bipush X0.here hx rfl (hb hby d1_16) ?_
      show Steps p.tables e below (s₁.setTop (mkF m 18 #[.val (.int p1), .unset] [(.int (7 : Int32)), (.int p1)])) _
      refine XS.iand X0.here hx rfl (hb hby d1_18) rfl ?_
      show Steps p.tables e below (s₁.setTop (mkF m 19 #[.val (.int p1), .unset] [(.int (p1 &&& (7 : Int32)))])) _
      refine XS.istoreN X0.here hx rfl (hb hby d1_19) rfl (l' := #[.val (.int p1), .val (.int (p1 &&& (7 : Int32)))]) rfl ?_
      show Steps p.tables e below (s₁.setTop (mkF m 20 #[.val (.int p1), .val (.int (p1 &&& (7 : Int32)))] [])) _
      refine XS.iloadN X0.here hx rfl (hb hby d1_20) rfl ?_
      exact kt
    by_cases hc21_4 : (p1 &&& (7 : Int32)) = (0 : Int32)
    · obtain ⟨fs, hr, hrun, hended, hW, hsame⟩ := X0.leave (v := some (.int (43 : Int32))) (fun h => by rw [Bd.returns] at h; cases h)
      refine ⟨_, _, pre3 _ ?_, hrun, hended, _, _, rfl, ?_, ⟨_, rfl⟩, hW, hsame.mono (by decide) (by decide)⟩
      · show Steps p.tables e below (s₁.setTop (mkF m 21 #[.val (.int p1), .val (.int (p1 &&& (7 : Int32)))] [(.int (p1 &&& (7 : Int32)))])) _
        refine XS.ifYes X0.here hx rfl (pc0 := 21) (pc' := 29) rfl (hb hby d1_21) rfl ((if0 _ _).trans (teq hc21_4).1) (by decide) (by decide) ?_
        show Steps p.tables e below (s₁.setTop (mkF m 29 #[.val (.int p1), .val (.int (p1 &&& (7 : Int32)))] [])) _
        refine XS.bipush X0.here hx rfl (hb hby d1_29) ?_
        show Steps p.tables e below (s₁.setTop (mkF m 31 #[.val (.int p1), .val (.int (p1 &&& (7 : Int32)))] [(.int (43 : Int32))])) _
        exact retN X0 hx (t := .char) Bd.returns (by simp) (hb hby d1_31) hr
      · show Q1 Z p1 h0 n0 _ s₁.heap _
        rw [e0]
        exact ⟨by rw [res1, if_neg hc5_2, if_pos hc21_4], rfl, rfl⟩
    · have pre5 : ∀ t, Steps p.tables e below (s₁.setTop (mkF m 26 #[.val (.int p1), .val (.int (p1 &&& (7 : Int32)))] [(.int (5 : Int32)), (.int (p1 &&& (7 : Int32)))])) t → Steps p.tables e below (s₁.setTop (entryFrame m #[(.int p1)] 2)) t := by
        intro t kt
        refine pre3 _ ?_
        show Steps p.tables e below (s₁.setTop (mkF m 21 #[.val (.int p1), .val (.int (p1 &&& (7 : Int32)))] [(.int (p1 &&& (7 : Int32)))])) _
        refine XS.ifNo X0.here hx rfl (hb hby d1_21) rfl ((if0 _ _).trans (feq hc21_4).1) ?_
        show Steps p.tables e below (s₁.setTop (mkF m 24 #[.val (.int p1), .val (.int (p1 &&& (7 : Int32)))] [])) _
        refine XS.iloadN X0.here hx rfl (hb hby d1_24) rfl ?_
        show Steps p.tables e below (s₁.setTop (mkF m 25 #[.val (.int p1), .val (.int (p1 &&& (7 : Int32)))] [(.int (p1 &&& (7 : Int32)))])) _
        refine XS.iconst X0.here hx rfl (hb hby d1_25) ?_
        exact kt
      by_cases hc26_6 : (p1 &&& (7 : Int32)) = (5 : Int32)
      · obtain ⟨fs, hr, hrun, hended, hW, hsame⟩ := X0.leave (v := some (.int (43 : Int32))) (fun h => by rw [Bd.returns] at h; cases h)
        refine ⟨_, _, pre5 _ ?_, hrun, hended, _, _, rfl, ?_, ⟨_, rfl⟩, hW, hsame.mono (by decide) (by decide)⟩
        · show Steps p.tables e below (s₁.setTop (mkF m 26 #[.val (.int p1), .val (.int (p1 &&& (7 : Int32)))] [(.int (5 : Int32)), (.int (p1 &&& (7 : Int32)))])) _
          refine XS.icmpNo X0.here hx rfl (hb hby d1_26) rfl (teq hc26_6).2 ?_
          show Steps p.tables e below (s₁.setTop (mkF m 29 #[.val (.int p1), .val (.int (p1 &&& (7 : Int32)))] [])) _
          refine XS.bipush X0.here hx rfl (hb hby d1_29) ?_
          show Steps p.tables e below (s₁.setTop (mkF m 31 #[.val (.int p1), .val (.int (p1 &&& (7 : Int32)))] [(.int (43 : Int32))])) _
          exact retN X0 hx (t := .char) Bd.returns (by simp) (hb hby d1_31) hr
        · show Q1 Z p1 h0 n0 _ s₁.heap _
          rw [e0]
          exact ⟨by rw [res1, if_neg hc5_2, if_neg hc21_4, if_pos hc26_6], rfl, rfl⟩
      · have pre7 : ∀ t, Steps p.tables e below (s₁.setTop (mkF m 34 #[.val (.int p1), .val (.int (p1 &&& (7 : Int32)))] [(.int (1 : Int32)), (.int (p1 &&& (7 : Int32)))])) t → Steps p.tables e below (s₁.setTop (entryFrame m #[(.int p1)] 2)) t := by
          intro t kt
          refine pre5 _ ?_
          show Steps p.tables e below (s₁.setTop (mkF m 26 #[.val (.int p1), .val (.int (p1 &&& (7 : Int32)))] [(.int (5 : Int32)), (.int (p1 &&& (7 : Int32)))])) _
          refine XS.icmpYes X0.here hx rfl (pc0 := 26) (pc' := 32) rfl (hb hby d1_26) rfl (feq hc26_6).2 (by decide) (by decide) ?_
          show Steps p.tables e below (s₁.setTop (mkF m 32 #[.val (.int p1), .val (.int (p1 &&& (7 : Int32)))] [])) _
          refine XS.iloadN X0.here hx rfl (hb hby d1_32) rfl ?_
          show Steps p.tables e below (s₁.setTop (mkF m 33 #[.val (.int p1), .val (.int (p1 &&& (7 : Int32)))] [(.int (p1 &&& (7 : Int32)))])) _
          refine XS.iconst X0.here hx rfl (hb hby d1_33) ?_
          exact kt
        by_cases hc34_8 : (p1 &&& (7 : Int32)) = (1 : Int32)
        · obtain ⟨fs, hr, hrun, hended, hW, hsame⟩ := X0.leave (v := some (.int (45 : Int32))) (fun h => by rw [Bd.returns] at h; cases h)
          refine ⟨_, _, pre7 _ ?_, hrun, hended, _, _, rfl, ?_, ⟨_, rfl⟩, hW, hsame.mono (by decide) (by decide)⟩
          · show Steps p.tables e below (s₁.setTop (mkF m 34 #[.val (.int p1), .val (.int (p1 &&& (7 : Int32)))] [(.int (1 : Int32)), (.int (p1 &&& (7 : Int32)))])) _
            refine XS.icmpYes X0.here hx rfl (pc0 := 34) (pc' := 43) rfl (hb hby d1_34) rfl (teq hc34_8).1 (by decide) (by decide) ?_
            show Steps p.tables e below (s₁.setTop (mkF m 43 #[.val (.int p1), .val (.int (p1 &&& (7 : Int32)))] [])) _
            refine XS.bipush X0.here hx rfl (hb hby d1_43) ?_
            show Steps p.tables e below (s₁.setTop (mkF m 45 #[.val (.int p1), .val (.int (p1 &&& (7 : Int32)))] [(.int (45 : Int32))])) _
            exact retN X0 hx (t := .char) Bd.returns (by simp) (hb hby d1_45) hr
          · show Q1 Z p1 h0 n0 _ s₁.heap _
            rw [e0]
            exact ⟨by rw [res1, if_neg hc5_2, if_neg hc21_4, if_neg hc26_6, if_pos hc34_8], rfl, rfl⟩
        · have pre9 : ∀ t, Steps p.tables e below (s₁.setTop (mkF m 40 #[.val (.int p1), .val (.int (p1 &&& (7 : Int32)))] [(.int (6 : Int32)), (.int (p1 &&& (7 : Int32)))])) t → Steps p.tables e below (s₁.setTop (entryFrame m #[(.int p1)] 2)) t := by
            intro t kt
            refine pre7 _ ?_
            show Steps p.tables e below (s₁.setTop (mkF m 34 #[.val (.int p1), .val (.int (p1 &&& (7 : Int32)))] [(.int (1 : Int32)), (.int (p1 &&& (7 : Int32)))])) _
            refine XS.icmpNo X0.here hx rfl (hb hby d1_34) rfl (feq hc34_8).1 ?_
            show Steps p.tables e below (s₁.setTop (mkF m 37 #[.val (.int p1), .val (.int (p1 &&& (7 : Int32)))] [])) _
            refine XS.iloadN X0.here hx rfl (hb hby d1_37) rfl ?_
            show Steps p.tables e below (s₁.setTop (mkF m 38 #[.val (.int p1), .val (.int (p1 &&& (7 : Int32)))] [(.int (p1 &&& (7 : Int32)))])) _
            refine XS.bipush X0.here hx rfl (hb hby d1_38) ?_
            exact kt
          by_cases hc40_10 : (p1 &&& (7 : Int32)) = (6 : Int32)
          · obtain ⟨fs, hr, hrun, hended, hW, hsame⟩ := X0.leave (v := some (.int (45 : Int32))) (fun h => by rw [Bd.returns] at h; cases h)
            refine ⟨_, _, pre9 _ ?_, hrun, hended, _, _, rfl, ?_, ⟨_, rfl⟩, hW, hsame.mono (by decide) (by decide)⟩
            · show Steps p.tables e below (s₁.setTop (mkF m 40 #[.val (.int p1), .val (.int (p1 &&& (7 : Int32)))] [(.int (6 : Int32)), (.int (p1 &&& (7 : Int32)))])) _
              refine XS.icmpNo X0.here hx rfl (hb hby d1_40) rfl (teq hc40_10).2 ?_
              show Steps p.tables e below (s₁.setTop (mkF m 43 #[.val (.int p1), .val (.int (p1 &&& (7 : Int32)))] [])) _
              refine XS.bipush X0.here hx rfl (hb hby d1_43) ?_
              show Steps p.tables e below (s₁.setTop (mkF m 45 #[.val (.int p1), .val (.int (p1 &&& (7 : Int32)))] [(.int (45 : Int32))])) _
              exact retN X0 hx (t := .char) Bd.returns (by simp) (hb hby d1_45) hr
            · show Q1 Z p1 h0 n0 _ s₁.heap _
              rw [e0]
              exact ⟨by rw [res1, if_neg hc5_2, if_neg hc21_4, if_neg hc26_6, if_neg hc34_8, if_pos hc40_10], rfl, rfl⟩
          · have pre11 : ∀ t, Steps p.tables e below (s₁.setTop (mkF m 48 #[.val (.int p1), .val (.int (p1 &&& (7 : Int32)))] [(.int (2 : Int32)), (.int (p1 &&& (7 : Int32)))])) t → Steps p.tables e below (s₁.setTop (entryFrame m #[(.int p1)] 2)) t := by
              intro t kt
              refine pre9 _ ?_
              show Steps p.tables e below (s₁.setTop (mkF m 40 #[.val (.int p1), .val (.int (p1 &&& (7 : Int32)))] [(.int (6 : Int32)), (.int (p1 &&& (7 : Int32)))])) _
              refine XS.icmpYes X0.here hx rfl (pc0 := 40) (pc' := 46) rfl (hb hby d1_40) rfl (feq hc40_10).2 (by decide) (by decide) ?_
              show Steps p.tables e below (s₁.setTop (mkF m 46 #[.val (.int p1), .val (.int (p1 &&& (7 : Int32)))] [])) _
              refine XS.iloadN X0.here hx rfl (hb hby d1_46) rfl ?_
              show Steps p.tables e below (s₁.setTop (mkF m 47 #[.val (.int p1), .val (.int (p1 &&& (7 : Int32)))] [(.int (p1 &&& (7 : Int32)))])) _
              refine XS.iconst X0.here hx rfl (hb hby d1_47) ?_
              exact kt
            by_cases hc48_12 : (p1 &&& (7 : Int32)) = (2 : Int32)
            · obtain ⟨fs, hr, hrun, hended, hW, hsame⟩ := X0.leave (v := some (.int (73 : Int32))) (fun h => by rw [Bd.returns] at h; cases h)
              refine ⟨_, _, pre11 _ ?_, hrun, hended, _, _, rfl, ?_, ⟨_, rfl⟩, hW, hsame.mono (by decide) (by decide)⟩
              · show Steps p.tables e below (s₁.setTop (mkF m 48 #[.val (.int p1), .val (.int (p1 &&& (7 : Int32)))] [(.int (2 : Int32)), (.int (p1 &&& (7 : Int32)))])) _
                refine XS.icmpNo X0.here hx rfl (hb hby d1_48) rfl (teq hc48_12).2 ?_
                show Steps p.tables e below (s₁.setTop (mkF m 51 #[.val (.int p1), .val (.int (p1 &&& (7 : Int32)))] [])) _
                refine XS.bipush X0.here hx rfl (hb hby d1_51) ?_
                show Steps p.tables e below (s₁.setTop (mkF m 53 #[.val (.int p1), .val (.int (p1 &&& (7 : Int32)))] [(.int (73 : Int32))])) _
                exact retN X0 hx (t := .char) Bd.returns (by simp) (hb hby d1_53) hr
              · show Q1 Z p1 h0 n0 _ s₁.heap _
                rw [e0]
                exact ⟨by rw [res1, if_neg hc5_2, if_neg hc21_4, if_neg hc26_6, if_neg hc34_8, if_neg hc40_10, if_pos hc48_12], rfl, rfl⟩
            · have pre13 : ∀ t, Steps p.tables e below (s₁.setTop (mkF m 56 #[.val (.int p1), .val (.int (p1 &&& (7 : Int32)))] [(.int (3 : Int32)), (.int (p1 &&& (7 : Int32)))])) t → Steps p.tables e below (s₁.setTop (entryFrame m #[(.int p1)] 2)) t := by
                intro t kt
                refine pre11 _ ?_
                show Steps p.tables e below (s₁.setTop (mkF m 48 #[.val (.int p1), .val (.int (p1 &&& (7 : Int32)))] [(.int (2 : Int32)), (.int (p1 &&& (7 : Int32)))])) _
                refine XS.icmpYes X0.here hx rfl (pc0 := 48) (pc' := 54) rfl (hb hby d1_48) rfl (feq hc48_12).2 (by decide) (by decide) ?_
                show Steps p.tables e below (s₁.setTop (mkF m 54 #[.val (.int p1), .val (.int (p1 &&& (7 : Int32)))] [])) _
                refine XS.iloadN X0.here hx rfl (hb hby d1_54) rfl ?_
                show Steps p.tables e below (s₁.setTop (mkF m 55 #[.val (.int p1), .val (.int (p1 &&& (7 : Int32)))] [(.int (p1 &&& (7 : Int32)))])) _
                refine XS.iconst X0.here hx rfl (hb hby d1_55) ?_
                exact kt
              by_cases hc56_14 : (p1 &&& (7 : Int32)) = (3 : Int32)
              · obtain ⟨fs, hr, hrun, hended, hW, hsame⟩ := X0.leave (v := some (.int (85 : Int32))) (fun h => by rw [Bd.returns] at h; cases h)
                refine ⟨_, _, pre13 _ ?_, hrun, hended, _, _, rfl, ?_, ⟨_, rfl⟩, hW, hsame.mono (by decide) (by decide)⟩
                · show Steps p.tables e below (s₁.setTop (mkF m 56 #[.val (.int p1), .val (.int (p1 &&& (7 : Int32)))] [(.int (3 : Int32)), (.int (p1 &&& (7 : Int32)))])) _
                  refine XS.icmpNo X0.here hx rfl (hb hby d1_56) rfl (teq hc56_14).2 ?_
                  show Steps p.tables e below (s₁.setTop (mkF m 59 #[.val (.int p1), .val (.int (p1 &&& (7 : Int32)))] [])) _
                  refine XS.bipush X0.here hx rfl (hb hby d1_59) ?_
                  show Steps p.tables e below (s₁.setTop (mkF m 61 #[.val (.int p1), .val (.int (p1 &&& (7 : Int32)))] [(.int (85 : Int32))])) _
                  exact retN X0 hx (t := .char) Bd.returns (by simp) (hb hby d1_61) hr
                · show Q1 Z p1 h0 n0 _ s₁.heap _
                  rw [e0]
                  exact ⟨by rw [res1, if_neg hc5_2, if_neg hc21_4, if_neg hc26_6, if_neg hc34_8, if_neg hc40_10, if_neg hc48_12, if_pos hc56_14], rfl, rfl⟩
              · have pre15 : ∀ t, Steps p.tables e below (s₁.setTop (mkF m 64 #[.val (.int p1), .val (.int (p1 &&& (7 : Int32)))] [(.int (4 : Int32)), (.int (p1 &&& (7 : Int32)))])) t → Steps p.tables e below (s₁.setTop (entryFrame m #[(.int p1)] 2)) t := by
                  intro t kt
                  refine pre13 _ ?_
                  show Steps p.tables e below (s₁.setTop (mkF m 56 #[.val (.int p1), .val (.int (p1 &&& (7 : Int32)))] [(.int (3 : Int32)), (.int (p1 &&& (7 : Int32)))])) _
                  refine XS.icmpYes X0.here hx rfl (pc0 := 56) (pc' := 62) rfl (hb hby d1_56) rfl (feq hc56_14).2 (by decide) (by decide) ?_
                  show Steps p.tables e below (s₁.setTop (mkF m 62 #[.val (.int p1), .val (.int (p1 &&& (7 : Int32)))] [])) _
                  refine XS.iloadN X0.here hx rfl (hb hby d1_62) rfl ?_
                  show Steps p.tables e below (s₁.setTop (mkF m 63 #[.val (.int p1), .val (.int (p1 &&& (7 : Int32)))] [(.int (p1 &&& (7 : Int32)))])) _
                  refine XS.iconst X0.here hx rfl (hb hby d1_63) ?_
                  exact kt
                by_cases hc64_16 : (p1 &&& (7 : Int32)) = (4 : Int32)
                · obtain ⟨fs, hr, hrun, hended, hW, hsame⟩ := X0.leave (v := some (.int (68 : Int32))) (fun h => by rw [Bd.returns] at h; cases h)
                  refine ⟨_, _, pre15 _ ?_, hrun, hended, _, _, rfl, ?_, ⟨_, rfl⟩, hW, hsame.mono (by decide) (by decide)⟩
                  · show Steps p.tables e below (s₁.setTop (mkF m 64 #[.val (.int p1), .val (.int (p1 &&& (7 : Int32)))] [(.int (4 : Int32)), (.int (p1 &&& (7 : Int32)))])) _
                    refine XS.icmpNo X0.here hx rfl (hb hby d1_64) rfl (teq hc64_16).2 ?_
                    show Steps p.tables e below (s₁.setTop (mkF m 67 #[.val (.int p1), .val (.int (p1 &&& (7 : Int32)))] [])) _
                    refine XS.bipush X0.here hx rfl (hb hby d1_67) ?_
                    show Steps p.tables e below (s₁.setTop (mkF m 69 #[.val (.int p1), .val (.int (p1 &&& (7 : Int32)))] [(.int (68 : Int32))])) _
                    exact retN X0 hx (t := .char) Bd.returns (by simp) (hb hby d1_69) hr
                  · show Q1 Z p1 h0 n0 _ s₁.heap _
                    rw [e0]
                    exact ⟨by rw [res1, if_neg hc5_2, if_neg hc21_4, if_neg hc26_6, if_neg hc34_8, if_neg hc40_10, if_neg hc48_12, if_neg hc56_14, if_pos hc64_16], rfl, rfl⟩
                · obtain ⟨fs, hr, hrun, hended, hW, hsame⟩ := X0.leave (v := some (.int (85 : Int32))) (fun h => by rw [Bd.returns] at h; cases h)
                  refine ⟨_, _, pre15 _ ?_, hrun, hended, _, _, rfl, ?_, ⟨_, rfl⟩, hW, hsame.mono (by decide) (by decide)⟩
                  · show Steps p.tables e below (s₁.setTop (mkF m 64 #[.val (.int p1), .val (.int (p1 &&& (7 : Int32)))] [(.int (4 : Int32)), (.int (p1 &&& (7 : Int32)))])) _
                    refine XS.icmpYes X0.here hx rfl (pc0 := 64) (pc' := 70) rfl (hb hby d1_64) rfl (feq hc64_16).2 (by decide) (by decide) ?_
                    show Steps p.tables e below (s₁.setTop (mkF m 70 #[.val (.int p1), .val (.int (p1 &&& (7 : Int32)))] [])) _
                    refine XS.bipush X0.here hx rfl (hb hby d1_70) ?_
                    show Steps p.tables e below (s₁.setTop (mkF m 72 #[.val (.int p1), .val (.int (p1 &&& (7 : Int32)))] [(.int (85 : Int32))])) _
                    exact retN X0 hx (t := .char) Bd.returns (by simp) (hb hby d1_72) hr
                  · show Q1 Z p1 h0 n0 _ s₁.heap _
                    rw [e0]
                    exact ⟨by rw [res1, if_neg hc5_2, if_neg hc21_4, if_neg hc26_6, if_neg hc34_8, if_neg hc40_10, if_neg hc48_12, if_neg hc56_14, if_neg hc64_16], rfl, rfl⟩
def mg0_13_s0 (p2 : Int32) : Int32 := if (p2 &&& (3 : Int32)) = (0 : Int32) then (43 : Int32) else if (p2 &&& (3 : Int32)) = (2 : Int32) then (43 : Int32) else (45 : Int32)
def mg0_32_s0 (p2 : Int32) : Int32 := if (p2 &&& (3 : Int32)) = (0 : Int32) then (73 : Int32) else if (p2 &&& (3 : Int32)) = (3 : Int32) then (68 : Int32) else (85 : Int32)
def res0 (p1 : Int32) (p2 : Int32) (p3 : Int32) : Int32 := if (p1 &&& (1 : Int32)) = (0 : Int32) then (if (res1 p2) = (43 : Int32) then (if (res1 p3) = (73 : Int32) then (1 : Int32) else if (res1 p3) = (85 : Int32) then (1 : Int32) else (1 : Int32)) else if (res1 p2) = (45 : Int32) then (if (res1 p3) = (85 : Int32) then (1 : Int32) else if (res1 p3) = (68 : Int32) then (1 : Int32) else (1 : Int32)) else (1 : Int32)) else if (mg0_13_s0 p2) = (43 : Int32) then (if (mg0_32_s0 p2) = (73 : Int32) then (1 : Int32) else if (mg0_32_s0 p2) = (85 : Int32) then (1 : Int32) else (1 : Int32)) else if (mg0_13_s0 p2) = (45 : Int32) then (if (mg0_32_s0 p2) = (85 : Int32) then (1 : Int32) else if (mg0_32_s0 p2) = (68 : Int32) then (1 : Int32) else (1 : Int32)) else (1 : Int32)
theorem pd7 : parseMethodDescriptor "(I)C" = some ⟨[.int], some .char⟩ := by decide +kernel
theorem pd8 : parseMethodDescriptor "([C)V" = some ⟨[(.array .char)], none⟩ := by decide +kernel
theorem pd9 : parseMethodDescriptor "(Ljava/lang/String;)Lcom/example/tidemark/tidemark/table/RowKind;" = some ⟨[(.object "java/lang/String")], some (.object "com/example/tidemark/tidemark/table/RowKind")⟩ := by decide +kernel
theorem pd10 : parseMethodDescriptor "()Ljava/lang/String;" = some ⟨[], some (.object "java/lang/String")⟩ := by decide +kernel
theorem ef0 (m : MethodId) (p1 : Int32) (p2 : Int32) (p3 : Int32) : entryFrame m #[(.int p1), (.int p2), (.int p3)] maxLocals = (mkF m 0 #[.val (.int p1), .val (.int p2), .val (.int p3), .unset, .unset, .unset, .unset, .unset, .unset] []) := by first | (simp [entryFrame, mkF, argsToLocals, Value.category, maxLocals]; done) | rfl
def Q0 (Z : State) (p1 : Int32) (p2 : Int32) (p3 : Int32) (w__VALUES : Addr) (kV : ClassId) (w_INSERT : Addr) (w_UPDATE_BEFORE : Addr) (w_UPDATE_AFTER : Addr) (w_DELETE : Addr) (w_INSERT_shortName : Addr) (w_INSERT_shortName_value : Addr) (k_INSERT : ClassId) (w_UPDATE_BEFORE_shortName : Addr) (w_UPDATE_BEFORE_shortName_value : Addr) (k_UPDATE_BEFORE : ClassId) (w_UPDATE_AFTER_shortName : Addr) (w_UPDATE_AFTER_shortName_value : Addr) (k_UPDATE_AFTER : ClassId) (w_DELETE_shortName : Addr) (w_DELETE_shortName_value : Addr) (k_DELETE : ClassId) (w_COMPACT_STRINGS : Int32) (h0 : Heap) (n0 : Nat) (v : Option Value) (h : Heap) (L : List Loc) : Prop := v = some (.int (res0 p1 p2 p3)) ∧ Fr n0 L
set_option maxRecDepth 65536 in
set_option maxHeartbeats 40000000 in
theorem rm0 (l : Launch) (Z : State) (a0 : Array Value) (hw : ∀ d ∈ tables_1, d.before a0 Z = true) (ws : List Jvm.Cond) (p1 : Int32) (p2 : Int32) (p3 : Int32) (w__VALUES : Addr) (kV : ClassId) (w_INSERT : Addr) (w_UPDATE_BEFORE : Addr) (w_UPDATE_AFTER : Addr) (w_DELETE : Addr) (w_INSERT_shortName : Addr) (w_INSERT_shortName_value : Addr) (k_INSERT : ClassId) (w_UPDATE_BEFORE_shortName : Addr) (w_UPDATE_BEFORE_shortName_value : Addr) (k_UPDATE_BEFORE : ClassId) (w_UPDATE_AFTER_shortName : Addr) (w_UPDATE_AFTER_shortName_value : Addr) (k_UPDATE_AFTER : ClassId) (w_DELETE_shortName : Addr) (w_DELETE_shortName_value : Addr) (k_DELETE : ClassId) (w_COMPACT_STRINGS : Int32) (h0 : Heap) (n0 : Nat) (Z0 : n0 ≤ h0.size) (S__VALUES : Sta Z h0 "com/example/tidemark/tidemark/table/RowKind" "$VALUES" "[Lcom/example/tidemark/tidemark/table/RowKind;" (.ref w__VALUES)) (E_w__VALUES : Exa Z h0 w__VALUES "[Lcom/example/tidemark/tidemark/table/RowKind;") (V_w__VALUES : Arv Z h0 w__VALUES kV (.object "com/example/tidemark/tidemark/table/RowKind") (4 : Int32) [(.ref w_INSERT), (.ref w_UPDATE_BEFORE), (.ref w_UPDATE_AFTER), (.ref w_DELETE)] .null) (S_INSERT : Sta Z h0 "com/example/tidemark/tidemark/table/RowKind" "INSERT" "Lcom/example/tidemark/tidemark/table/RowKind;" (.ref w_INSERT)) (E_w_INSERT : Exa Z h0 w_INSERT "com/example/tidemark/tidemark/table/RowKind") (S_UPDATE_BEFORE : Sta Z h0 "com/example/tidemark/tidemark/table/RowKind" "UPDATE_BEFORE" "Lcom/example/tidemark/tidemark/table/RowKind;" (.ref w_UPDATE_BEFORE)) (E_w_UPDATE_BEFORE : Exa Z h0 w_UPDATE_BEFORE "com/example/tidemark/tidemark/table/RowKind") (S_UPDATE_AFTER : Sta Z h0 "com/example/tidemark/tidemark/table/RowKind" "UPDATE_AFTER" "Lcom/example/tidemark/tidemark/table/RowKind;" (.ref w_UPDATE_AFTER)) (E_w_UPDATE_AFTER : Exa Z h0 w_UPDATE_AFTER "com/example/tidemark/tidemark/table/RowKind") (S_DELETE : Sta Z h0 "com/example/tidemark/tidemark/table/RowKind" "DELETE" "Lcom/example/tidemark/tidemark/table/RowKind;" (.ref w_DELETE)) (E_w_DELETE : Exa Z h0 w_DELETE "com/example/tidemark/tidemark/table/RowKind") (F_shortName_w_INSERT : Fld Z h0 w_INSERT "com/example/tidemark/tidemark/table/RowKind" "shortName" "Ljava/lang/String;" (.ref w_INSERT_shortName)) (E_w_INSERT_shortName : Exa Z h0 w_INSERT_shortName "java/lang/String") (F_coder_w_INSERT_shortName : Fld Z h0 w_INSERT_shortName "java/lang/String" "coder" "B" (.int (0 : Int32))) (F_value_w_INSERT_shortName : Fld Z h0 w_INSERT_shortName "java/lang/String" "value" "[B" (.ref w_INSERT_shortName_value)) (V_w_INSERT_shortName_value : Arv Z h0 w_INSERT_shortName_value k_INSERT .byte (2 : Int32) [(.int (43 : Int32)), (.int (73 : Int32))] (.int (0 : Int32))) (F_shortName_w_UPDATE_BEFORE : Fld Z h0 w_UPDATE_BEFORE "com/example/tidemark/tidemark/table/RowKind" "shortName" "Ljava/lang/String;" (.ref w_UPDATE_BEFORE_shortName)) (E_w_UPDATE_BEFORE_shortName : Exa Z h0 w_UPDATE_BEFORE_shortName "java/lang/String") (F_coder_w_UPDATE_BEFORE_shortName : Fld Z h0 w_UPDATE_BEFORE_shortName "java/lang/String" "coder" "B" (.int (0 : Int32))) (F_value_w_UPDATE_BEFORE_shortName : Fld Z h0 w_UPDATE_BEFORE_shortName "java/lang/String" "value" "[B" (.ref w_UPDATE_BEFORE_shortName_value)) (V_w_UPDATE_BEFORE_shortName_value : Arv Z h0 w_UPDATE_BEFORE_shortName_value k_UPDATE_BEFORE .byte (2 : Int32) [(.int (45 : Int32)), (.int (85 : Int32))] (.int (0 : Int32))) (F_shortName_w_UPDATE_AFTER : Fld Z h0 w_UPDATE_AFTER "com/example/tidemark/tidemark/table/RowKind" "shortName" "Ljava/lang/String;" (.ref w_UPDATE_AFTER_shortName)) (E_w_UPDATE_AFTER_shortName : Exa Z h0 w_UPDATE_AFTER_shortName "java/lang/String") (F_coder_w_UPDATE_AFTER_shortName : Fld Z h0 w_UPDATE_AFTER_shortName "java/lang/String" "coder" "B" (.int (0 : Int32))) (F_value_w_UPDATE_AFTER_shortName : Fld Z h0 w_UPDATE_AFTER_shortName "java/lang/String" "value" "[B" (.ref w_UPDATE_AFTER_shortName_value)) (V_w_UPDATE_AFTER_shortName_value : Arv Z h0 w_UPDATE_AFTER_shortName_value k_UPDATE_AFTER .byte (2 : Int32) [(.int (43 : Int32)), (.int (85 : Int32))] (.int (0 : Int32))) (F_shortName_w_DELETE : Fld Z h0 w_DELETE "com/example/tidemark/tidemark/table/RowKind" "shortName" "Ljava/lang/String;" (.ref w_DELETE_shortName)) (E_w_DELETE_shortName : Exa Z h0 w_DELETE_shortName "java/lang/String") (F_coder_w_DELETE_shortName : Fld Z h0 w_DELETE_shortName "java/lang/String" "coder" "B" (.int (0 : Int32))) (F_value_w_DELETE_shortName : Fld Z h0 w_DELETE_shortName "java/lang/String" "value" "[B" (.ref w_DELETE_shortName_value)) (V_w_DELETE_shortName_value : Arv Z h0 w_DELETE_shortName_value k_DELETE .byte (2 : Int32) [(.int (45 : Int32)), (.int (68 : Int32))] (.int (0 : Int32))) (S_COMPACT_STRINGS : Sta Z h0 "java/lang/String" "COMPACT_STRINGS" "Z" (.int w_COMPACT_STRINGS)) (hCS : ¬ (w_COMPACT_STRINGS = (0 : Int32))) :
    MetFree l x (head1 (Jvm.Cond.code x code maxLocals ret :: ws) room_1) (fun a U => a = #[(.int p1), (.int p2), (.int p3)] ∧ Z.Warmed39 U.vm ∧ U.heap = h0) (fun _ _ _ _ _ => True) (fun _ U o U' => ∃ v L, o = .returned v ∧ Q0 Z p1 p2 p3 w__VALUES kV w_INSERT w_UPDATE_BEFORE w_UPDATE_AFTER w_DELETE w_INSERT_shortName w_INSERT_shortName_value k_INSERT w_UPDATE_BEFORE_shortName w_UPDATE_BEFORE_shortName_value k_UPDATE_BEFORE w_UPDATE_AFTER_shortName w_UPDATE_AFTER_shortName_value k_UPDATE_AFTER w_DELETE_shortName w_DELETE_shortName_value k_DELETE w_COMPACT_STRINGS h0 n0 v U'.heap L ∧ FrameEnd U o U' L room_1.cells room_1.slots) := by
  refine MetFree.of_bodySF (plainFor_of_name pn4) hisR ?_
  intro p e s m args below meth c s₁ Bd hml0 hP hK
  obtain ⟨rfl, hZ, hh⟩ := hP
  have hx := Bd.exec
  have hby := Bd.bytes
  have hml : c.maxLocals = 9 := hml0
  have hown : s.vm.findClass "com/example/tidemark/tidemark/table/RowKindFromShortNamePinLaw" = some m.cls := findClass_of_methodNamed Bd.named
  have hnm := (name_of_methodNamed Bd.named Bd.method).1
  have X0 : Stand p l e room_1 s m #[(.int p1), (.int p2), (.int p3)] below meth c s₁ [] 0 0 := Stand.of_body Bd
  have e0 : s₁.heap = h0 := by rw [← hh, Bd.state]; rfl
  have N0 := Fr.nil n0
  have pre0 : ∀ t, Steps p.tables e below (s₁.setTop (mkF m 0 #[.val (.int p1), .val (.int p2), .val (.int p3), .unset, .unset, .unset, .unset, .unset, .unset] [])) t → Steps p.tables e below (s₁.setTop (entryFrame m #[(.int p1), (.int p2), (.int p3)] maxLocals)) t := fun t k => castTop (ef0 m p1 p2 p3) k
  have pre1 : ∀ t, Steps p.tables e below (s₁.setTop (mkF m 3 #[.val (.int p1), .val (.int p2), .val (.int p3), .unset, .unset, .unset, .unset, .unset, .unset] [(.int (p1 &&& (1 : Int32)))])) t → Steps p.tables e below (s₁.setTop (entryFrame m #[(.int p1), (.int p2), (.int p3)] maxLocals)) t := by
    intro t kt
    refine pre0 _ ?_
    show Steps p.tables e below (s₁.setTop (mkF m 0 #[.val (.int p1), .val (.int p2), .val (.int p3), .unset, .unset, .unset, .unset, .unset, .unset] [])) _
    refine XS.iloadN X0.here hx rfl (hb hby at_0) rfl ?_
    show Steps p.tables e below (s₁.setTop (mkF m 1 #[.val (.int p1), .val (.int p2), .val (.int p3), .unset, .unset, .unset, .unset, .unset, .unset] [(.int p1)])) _
    refine XS.iconst X0.here hx rfl (hb hby at_1) ?_
    show Steps p.tables e below (s₁.setTop (mkF m 2 #[.val (.int p1), .val (.int p2), .val (.int p3), .unset, .unset, .unset, .unset, .unset, .unset] [(.int (1 : Int32)), (.int p1)])) _
    refine XS.iand X0.here hx rfl (hb hby at_2) rfl ?_
    exact kt
  by_cases hc3_2 : (p1 &&& (1 : Int32)) = (0 : Int32)
  · obtain ⟨_, _, ⟨T3, L3, k3, n3⟩, -, X3, ⟨Lc3, hQ3, l3, y3, z3⟩, st3⟩ := Jvm.LawKit.callS X0 hx (y := (⟨"com/example/tidemark/tidemark/table/RowKindFromShortNamePinLaw", "pick", "(I)C"⟩ : MethodName)) hown (mvT hZ (hw _ (List.mem_of_getElem? (i := 0) rfl))) (mvT hZ (hw _ (List.mem_of_getElem? (i := 1) rfl))) (mvT hZ (hw _ (List.mem_of_getElem? (i := 2) rfl))) (mvT hZ (hw _ (List.mem_of_getElem? (i := 3) rfl))) (by decide) (backOf (W := 0) (rm1 l Z a0 hw [] p2  h0 n0 (Nat.le_trans Z0 (Keep.refl h0 []).1)  ) hZ (hw _ (List.mem_of_getElem? (i := 3) rfl)) (hw _ (List.mem_of_getElem? (i := 2) rfl)) (by decide) (by decide)) (g := (mkF m 59 #[.val (.int p1), .val (.int p2), .val (.int p3), .unset, .unset, .unset, .unset, .unset, .unset] [(.int p2)])) rfl (by rw [hml]; rfl) (argsL := [(.int p2)]) (rest := []) (lenOf pd7 rfl) rfl (by show 2 * 0 + _ ≤ _; exact Nat.le_of_eq rfl) (hb hby at_59) (fun _ _ => ⟨rfl, e0, (by decide : 0 + 0 ≤ _), (by decide : 0 + 0 ≤ _)⟩)
    dsimp only [Pt.U, Pt.locs, Pt.cells, Pt.slots] at X3 l3 y3 z3 st3 hQ3
    subst l3 y3 z3
    obtain ⟨rfl, rfl, e3⟩ := hQ3
    have N3 := Fr.app N0 (Fr.nil n0)
    obtain ⟨_, _, ⟨T4, L4, k4, n4⟩, -, X4, ⟨Lc4, hQ4, l4, y4, z4⟩, st4⟩ := Jvm.LawKit.callS X3 hx (y := (⟨"com/example/tidemark/tidemark/table/RowKindFromShortNamePinLaw", "pick", "(I)C"⟩ : MethodName)) hown (mvT hZ (hw _ (List.mem_of_getElem? (i := 0) rfl))) (mvT hZ (hw _ (List.mem_of_getElem? (i := 1) rfl))) (mvT hZ (hw _ (List.mem_of_getElem? (i := 2) rfl))) (mvT hZ (hw _ (List.mem_of_getElem? (i := 3) rfl))) (by decide) (backOf (W := 0) (rm1 l Z a0 hw [] p3  h0 n0 (Nat.le_trans Z0 (Keep.refl h0 []).1)  ) hZ (hw _ (List.mem_of_getElem? (i := 3) rfl)) (hw _ (List.mem_of_getElem? (i := 2) rfl)) (by decide) (by decide)) (g := (mkF m 64 #[.val (.int p1), .val (.int p2), .val (.int p3), .val (.int (res1 p2)), .unset, .unset, .unset, .unset, .unset] [(.int p3)])) rfl (by rw [hml]; rfl) (argsL := [(.int p3)]) (rest := []) (lenOf pd7 rfl) rfl (by show 2 * 0 + _ ≤ _; exact Nat.le_of_eq rfl) (hb hby at_64) (fun _ _ => ⟨rfl, e3, (by decide : 0 + 0 ≤ _), (by decide : 0 + 0 ≤ _)⟩)
    dsimp only [Pt.U, Pt.locs, Pt.cells, Pt.slots] at X4 l4 y4 z4 st4 hQ4
    subst l4 y4 z4
    obtain ⟨rfl, rfl, e4⟩ := hQ4
    have N4 := Fr.app N3 (Fr.nil n0)
    have pre5 : ∀ t, Steps p.tables e below (T4.setTop (mkF m 75 #[.val (.int p1), .val (.int p2), .val (.int p3), .val (.int (res1 p2)), .val (.int (res1 p3)), .val .null, .unset, .unset, .unset] [(.int (43 : Int32)), (.int (res1 p2))])) t → Steps p.tables e below (s₁.setTop (entryFrame m #[(.int p1), (.int p2), (.int p3)] maxLocals)) t := by
      intro t kt
      refine pre1 _ ?_
      show Steps p.tables e below (s₁.setTop (mkF m 3 #[.val (.int p1), .val (.int p2), .val (.int p3), .unset, .unset, .unset, .unset, .unset, .unset] [(.int (p1 &&& (1 : Int32)))])) _
      refine XS.ifYes X0.here hx rfl (pc0 := 3) (pc' := 58) rfl (hb hby at_3) rfl ((if0 _ _).trans (teq hc3_2).1) (by decide) (by decide) ?_
      show Steps p.tables e below (s₁.setTop (mkF m 58 #[.val (.int p1), .val (.int p2), .val (.int p3), .unset, .unset, .unset, .unset, .unset, .unset] [])) _
      refine XS.iloadN X0.here hx rfl (hb hby at_58) rfl ?_
      show Steps p.tables e below (s₁.setTop (mkF m 59 #[.val (.int p1), .val (.int p2), .val (.int p3), .unset, .unset, .unset, .unset, .unset, .unset] [(.int p2)])) _
      refine st3 _ ?_
      show Steps p.tables e below (T3.setTop (mkF m 62 #[.val (.int p1), .val (.int p2), .val (.int p3), .unset, .unset, .unset, .unset, .unset, .unset] [(.int (res1 p2))])) _
      refine XS.istoreN X3.here hx rfl (hb hby at_62) rfl (l' := #[.val (.int p1), .val (.int p2), .val (.int p3), .val (.int (res1 p2)), .unset, .unset, .unset, .unset, .unset]) rfl ?_
      show Steps p.tables e below (T3.setTop (mkF m 63 #[.val (.int p1), .val (.int p2), .val (.int p3), .val (.int (res1 p2)), .unset, .unset, .unset, .unset, .unset] [])) _
      refine XS.iloadN X3.here hx rfl (hb hby at_63) rfl ?_
      show Steps p.tables e below (T3.setTop (mkF m 64 #[.val (.int p1), .val (.int p2), .val (.int p3), .val (.int (res1 p2)), .unset, .unset, .unset, .unset, .unset] [(.int p3)])) _
      refine st4 _ ?_
      show Steps p.tables e below (T4.setTop (mkF m 67 #[.val (.int p1), .val (.int p2), .val (.int p3), .val (.int (res1 p2)), .unset, .unset, .unset, .unset, .unset] [(.int (res1 p3))])) _
      refine XS.istore X4.here hx rfl (hb hby at_67) rfl (l' := #[.val (.int p1), .val (.int p2), .val (.int p3), .val (.int (res1 p2)), .val (.int (res1 p3)), .unset, .unset, .unset, .unset]) rfl ?_
      show Steps p.tables e below (T4.setTop (mkF m 69 #[.val (.int p1), .val (.int p2), .val (.int p3), .val (.int (res1 p2)), .val (.int (res1 p3)), .unset, .unset, .unset, .unset] [])) _
      refine XS.aconstNull X4.here hx rfl (hb hby at_69) ?_
      show Steps p.tables e below (T4.setTop (mkF m 70 #[.val (.int p1), .val (.int p2), .val (.int p3), .val (.int (res1 p2)), .val (.int (res1 p3)), .unset, .unset, .unset, .unset] [.null])) _
      refine XS.astore X4.here hx rfl (hb hby at_70) rfl rfl (l' := #[.val (.int p1), .val (.int p2), .val (.int p3), .val (.int (res1 p2)), .val (.int (res1 p3)), .val .null, .unset, .unset, .unset]) rfl ?_
      show Steps p.tables e below (T4.setTop (mkF m 72 #[.val (.int p1), .val (.int p2), .val (.int p3), .val (.int (res1 p2)), .val (.int (res1 p3)), .val .null, .unset, .unset, .unset] [])) _
      refine XS.iloadN X4.here hx rfl (hb hby at_72) rfl ?_
      show Steps p.tables e below (T4.setTop (mkF m 73 #[.val (.int p1), .val (.int p2), .val (.int p3), .val (.int (res1 p2)), .val (.int (res1 p3)), .val .null, .unset, .unset, .unset] [(.int (res1 p2))])) _
      refine XS.bipush X4.here hx rfl (hb hby at_73) ?_
      exact kt
    by_cases hc75_6 : (res1 p2) = (43 : Int32)
    · rw [hc75_6] at pre5
      have pre7 : ∀ t, Steps p.tables e below (T4.setTop (mkF m 82 #[.val (.int p1), .val (.int p2), .val (.int p3), .val (.int (43 : Int32)), .val (.int (res1 p3)), .val .null, .unset, .unset, .unset] [(.int (73 : Int32)), (.int (res1 p3))])) t → Steps p.tables e below (s₁.setTop (entryFrame m #[(.int p1), (.int p2), (.int p3)] maxLocals)) t := by
        intro t kt
        refine pre5 _ ?_
        show Steps p.tables e below (T4.setTop (mkF m 75 #[.val (.int p1), .val (.int p2), .val (.int p3), .val (.int (43 : Int32)), .val (.int (res1 p3)), .val .null, .unset, .unset, .unset] [(.int (43 : Int32)), (.int (43 : Int32))])) _
        refine XS.icmpNo X4.here hx rfl (hb hby at_75) rfl (teq (rfl : (43 : Int32) = (43 : Int32))).2 ?_
        show Steps p.tables e below (T4.setTop (mkF m 78 #[.val (.int p1), .val (.int p2), .val (.int p3), .val (.int (43 : Int32)), .val (.int (res1 p3)), .val .null, .unset, .unset, .unset] [])) _
        refine XS.iload X4.here hx rfl (hb hby at_78) rfl ?_
        show Steps p.tables e below (T4.setTop (mkF m 80 #[.val (.int p1), .val (.int p2), .val (.int p3), .val (.int (43 : Int32)), .val (.int (res1 p3)), .val .null, .unset, .unset, .unset] [(.int (res1 p3))])) _
        refine XS.bipush X4.here hx rfl (hb hby at_80) ?_
        exact kt
      by_cases hc82_8 : (res1 p3) = (73 : Int32)
      · rw [hc82_8] at pre7
        obtain ⟨T9, X9, e9, st9⟩ := getS2 X4 hx hZ hown (host := "") (Or.inl (hw _ (List.mem_of_getElem? (i := 4) rfl))) Via.refl e4 S_INSERT (g := (mkF m 85 #[.val (.int p1), .val (.int p2), .val (.int p3), .val (.int (43 : Int32)), .val (.int (73 : Int32)), .val .null, .unset, .unset, .unset] [])) rfl (hb hby at_85)
        obtain ⟨T10, h10, k10, X10, e10, E10, A10, st10⟩ := newP X9 hx hZ (hw _ (List.mem_of_getElem? (i := 7) rfl)) e9 (g := (mkF m 149 #[.val (.int p1), .val (.int p2), .val (.int p3), .val (.int (43 : Int32)), .val (.int (73 : Int32)), .val (.ref w_INSERT), .unset, .unset, .unset] [(.int (2 : Int32))])) rfl (hb hby at_149) rfl (by decide) (cap := 2) (by decide) (by decide) (by decide) (by decide)
        obtain ⟨b10, g10⟩ : ∃ z, z = h0.size := ⟨_, rfl⟩
        rw [← g10] at A10 st10
        have sz_b10 : h0.size ≤ b10 := Nat.le_trans (Keep.refl h0 []).1 (Nat.le_of_eq g10.symm)
        have g_b10 : n0 ≤ b10 := Nat.le_trans Z0 sz_b10
        have K10 : Keep h0 h10 [] := (Keep.refl h0 []).ext E10
        have V_b10 : Arv Z h10 b10 k10 .char (2 : Int32) [(.int (0 : Int32)), (.int (0 : Int32))] (.int (0 : Int32)) := (Arv.new A10 (by decide)).pad (pad_rep [] (.int (0 : Int32)) 2)
        obtain ⟨cl_b10_157_11, Ar_b10_157_11, q_b10_157_11, S_b10_157_11, N_b10_157_11, H_b10_157_11, G_b10_157_11⟩ := id V_b10
        have hin_b10_157_11 : ¬ ((0 : Int32) < 0 ∨ cl_b10_157_11.slots.size ≤ ((0 : Int32) : Int32).toNatClampNeg) := inb_of S_b10_157_11 ⟨by decide, by decide⟩
        obtain ⟨T12, h12, X12, e12, W12, st12⟩ := stC X10 hx hZ e10 Ar_b10_157_11 (j := (0 : Int32)) hin_b10_157_11 (g := (mkF m 157 #[.val (.int p1), .val (.int p2), .val (.int p3), .val (.int (43 : Int32)), .val (.int (73 : Int32)), .val (.ref w_INSERT), .val (.ref b10), .unset, .unset] [(.int (43 : Int32)), (.int (0 : Int32)), (.ref b10)])) rfl rfl (hb hby at_157)
        have V_b10_157_11 : Arv Z h12 b10 k10 .char (2 : Int32) [(.int (43 : Int32)), (.int (0 : Int32))] (.int (0 : Int32)) := Arv.set Ar_b10_157_11 q_b10_157_11 S_b10_157_11 N_b10_157_11 H_b10_157_11 G_b10_157_11 (fits_nar_char _) W12 0 rfl (Nat.le_of_ble_eq_true rfl)
        have K12 : Keep h0 h12 [] := K10.wr W12 (Or.inr sz_b10)
        have N12 := Fr.snoc X12 N4 g_b10
        obtain ⟨cl_b10_163_13, Ar_b10_163_13, q_b10_163_13, S_b10_163_13, N_b10_163_13, H_b10_163_13, G_b10_163_13⟩ := id V_b10_157_11
        have hin_b10_163_13 : ¬ ((1 : Int32) < 0 ∨ cl_b10_163_13.slots.size ≤ ((1 : Int32) : Int32).toNatClampNeg) := inb_of S_b10_163_13 ⟨by decide, by decide⟩
        obtain ⟨T14, h14, X14, e14, W14, st14⟩ := stC X12 hx hZ e12 Ar_b10_163_13 (j := (1 : Int32)) hin_b10_163_13 (g := (mkF m 163 #[.val (.int p1), .val (.int p2), .val (.int p3), .val (.int (43 : Int32)), .val (.int (73 : Int32)), .val (.ref w_INSERT), .val (.ref b10), .unset, .unset] [(.int (73 : Int32)), (.int (1 : Int32)), (.ref b10)])) rfl rfl (hb hby at_163)
        have V_b10_163_13 : Arv Z h14 b10 k10 .char (2 : Int32) [(.int (43 : Int32)), (.int (73 : Int32))] (.int (0 : Int32)) := Arv.set Ar_b10_163_13 q_b10_163_13 S_b10_163_13 N_b10_163_13 H_b10_163_13 G_b10_163_13 (fits_nar_char _) W14 1 rfl (Nat.le_of_ble_eq_true rfl)
        have K14 : Keep h0 h14 [] := K12.wr W14 (Or.inr sz_b10)
        have N14 := Fr.snoc X14 N12 g_b10
        obtain ⟨T15, h15, X15, e15, E15, A15, D15, -, st15⟩ := newO X14 hx hZ hown (hw _ (List.mem_of_getElem? (i := 8) rfl)) (hw _ (List.mem_of_getElem? (i := 9) rfl)) (hw _ (List.mem_of_getElem? (i := 10) rfl)) e14 (g := (mkF m 164 #[.val (.int p1), .val (.int p2), .val (.int p3), .val (.int (43 : Int32)), .val (.int (73 : Int32)), .val (.ref w_INSERT), .val (.ref b10), .unset, .unset] [])) rfl (hb hby at_164) (by decide) (by decide)
        obtain ⟨b15, g15⟩ : ∃ z, z = h14.size := ⟨_, rfl⟩
        rw [← g15] at A15 D15 st15
        have sz_b15 : h0.size ≤ b15 := Nat.le_trans K14.1 (Nat.le_of_eq g15.symm)
        have g_b15 : n0 ≤ b15 := Nat.le_trans Z0 sz_b15
        have K15 : Keep h0 h15 [] := K14.ext E15
        have F_coder_b15 : Fld Z h15 b15 "java/lang/String" "coder" "B" (.int (0 : Int32)) := D15 (Or.inr (hw _ (List.mem_of_getElem? (i := 34) rfl))) (ty := .byte) (by decide)
        have F_value_b15 : Fld Z h15 b15 "java/lang/String" "value" "[B" .null := D15 (Or.inr (hw _ (List.mem_of_getElem? (i := 36) rfl))) (ty := (.array .byte)) (by decide)
        obtain ⟨_, _, ⟨T16, L16, k16, n16⟩, -, X16, ⟨Lc16, hQ16, l16, y16, z16⟩, st16⟩ := X15.specialBack hx (y := (⟨"java/lang/String", "<init>", "([C)V"⟩ : MethodName)) rfl hown (mvT hZ (hw _ (List.mem_of_getElem? (i := 11) rfl))) (mvT hZ (hw _ (List.mem_of_getElem? (i := 12) rfl))) (mvT hZ (hw _ (List.mem_of_getElem? (i := 13) rfl))) (by decide) (backOf (W := 1) (rm_ini1_2 l Z a0 hw [] b15 b10 k10 (43 : Int32) (73 : Int32) w_COMPACT_STRINGS (.int (0 : Int32)) .null h15 n0 (Nat.le_trans Z0 K15.1) (V_b10_163_13.ext E15) ((((S_COMPACT_STRINGS.ext E10).wr W12).wr W14).ext E15) A15 F_coder_b15 g_b15 F_value_b15 (by decide : ¬ ((255 : Int32) < (43 : Int32))) (by decide : ¬ ((255 : Int32) < (73 : Int32))) (hCS : ¬ (w_COMPACT_STRINGS = (0 : Int32)))) hZ (hw _ (List.mem_of_getElem? (i := 13) rfl)) (hw _ (List.mem_of_getElem? (i := 10) rfl)) (by decide) (by decide)) (g := (mkF m 170 #[.val (.int p1), .val (.int p2), .val (.int p3), .val (.int (43 : Int32)), .val (.int (73 : Int32)), .val (.ref w_INSERT), .val (.ref b10), .unset, .unset] [(.ref b10), (.ref b15), (.ref b15)])) rfl (by rw [hml]; rfl) (Steps.refl _) (a := b15) (argsL := [(.ref b10)]) (rest := [(.ref b15)]) (lenOf pd8 rfl) rfl (by show 2 * 0 + _ ≤ _; exact Nat.le_of_eq rfl) (hb hby at_170) (fun _ _ => ⟨rfl, e15, (by decide : 2 + 1 ≤ _), (by decide : 6 + 2 ≤ _)⟩)
        dsimp only [Pt.U, Pt.locs, Pt.cells, Pt.slots] at X16 l16 y16 z16 st16 hQ16
        subst l16 y16 z16
        obtain ⟨b1_3_2_16, k1_3_2_16, rfl, N16q, K16, s16_b1_3_2, f16_0, f16_1, f16_2, f16_3⟩ := hQ16
        have N16 := Fr.app N14 N16q
        have sz_b1_3_2_16 : h0.size ≤ b1_3_2_16 := Nat.le_trans K15.1 s16_b1_3_2
        have g_b1_3_2_16 : n0 ≤ b1_3_2_16 := Nat.le_trans Z0 sz_b1_3_2_16
        have KK16 : Keep h0 T16.heap [] := K15.trans K16 (allS (Or.inr sz_b15) all0)
        obtain ⟨_, _, ⟨T17, L17, k17, n17⟩, -, X17, ⟨Lc17, hQ17, l17, y17, z17⟩, st17⟩ := Jvm.LawKit.callS X16 hx (y := (⟨"com/example/tidemark/tidemark/table/RowKind", "fromShortName", "(Ljava/lang/String;)Lcom/example/tidemark/tidemark/table/RowKind;"⟩ : MethodName)) hown (mvT hZ (hw _ (List.mem_of_getElem? (i := 37) rfl))) (mvT hZ (hw _ (List.mem_of_getElem? (i := 38) rfl))) (mvT hZ (hw _ (List.mem_of_getElem? (i := 5) rfl))) (mvT hZ (hw _ (List.mem_of_getElem? (i := 39) rfl))) (by decide) (backOf (W := 0) (rm8 l Z a0 hw [] b15 w__VALUES kV w_INSERT w_UPDATE_BEFORE w_UPDATE_AFTER w_DELETE w_INSERT_shortName w_INSERT_shortName_value k_INSERT w_UPDATE_BEFORE_shortName w_UPDATE_BEFORE_shortName_value k_UPDATE_BEFORE w_UPDATE_AFTER_shortName w_UPDATE_AFTER_shortName_value k_UPDATE_AFTER w_DELETE_shortName w_DELETE_shortName_value k_DELETE b1_3_2_16 k1_3_2_16 (nar .byte ((43 : Int32).toInt8.toInt32)) (nar .byte ((73 : Int32).toInt8.toInt32)) w_COMPACT_STRINGS T16.heap n0 (Nat.le_trans Z0 KK16.1) (own_sta_keep ((((S__VALUES.ext E10).wr W12).wr W14).ext E15) K16 (allS (own_exa_ns A15) all0)) (((((E_w__VALUES.ext E10).wr W12).wr W14).ext E15).keep K16) (((((V_w__VALUES.ext E10).other W12 (Nat.ne_of_lt (Nat.lt_of_lt_of_le E_w__VALUES.lt (Nat.le_of_eq g10.symm)))).other W14 (Nat.ne_of_lt (Nat.lt_of_lt_of_le E_w__VALUES.lt (Nat.le_of_eq g10.symm)))).ext E15).keep K16 (ninS (Nat.ne_of_lt (Nat.lt_of_lt_of_le (((E_w__VALUES.ext E10).wr W12).wr W14).lt (Nat.le_of_eq g15.symm))) nin0)) (((((F_shortName_w_INSERT.ext E10).other W12 (Or.inl (Nat.ne_of_lt (Nat.lt_of_lt_of_le E_w_INSERT.lt (Nat.le_of_eq g10.symm))))).other W14 (Or.inl (Nat.ne_of_lt (Nat.lt_of_lt_of_le E_w_INSERT.lt (Nat.le_of_eq g10.symm))))).ext E15).keep K16 (ninS (Nat.ne_of_lt (Nat.lt_of_lt_of_le (((E_w_INSERT.ext E10).wr W12).wr W14).lt (Nat.le_of_eq g15.symm))) nin0)) (((((E_w_INSERT_shortName.ext E10).wr W12).wr W14).ext E15).keep K16) (((((F_coder_w_INSERT_shortName.ext E10).other W12 (Or.inl (Nat.ne_of_lt (Nat.lt_of_lt_of_le E_w_INSERT_shortName.lt (Nat.le_of_eq g10.symm))))).other W14 (Or.inl (Nat.ne_of_lt (Nat.lt_of_lt_of_le E_w_INSERT_shortName.lt (Nat.le_of_eq g10.symm))))).ext E15).keep K16 (ninS (Nat.ne_of_lt (Nat.lt_of_lt_of_le (((E_w_INSERT_shortName.ext E10).wr W12).wr W14).lt (Nat.le_of_eq g15.symm))) nin0)) (((((F_value_w_INSERT_shortName.ext E10).other W12 (Or.inl (Nat.ne_of_lt (Nat.lt_of_lt_of_le E_w_INSERT_shortName.lt (Nat.le_of_eq g10.symm))))).other W14 (Or.inl (Nat.ne_of_lt (Nat.lt_of_lt_of_le E_w_INSERT_shortName.lt (Nat.le_of_eq g10.symm))))).ext E15).keep K16 (ninS (Nat.ne_of_lt (Nat.lt_of_lt_of_le (((E_w_INSERT_shortName.ext E10).wr W12).wr W14).lt (Nat.le_of_eq g15.symm))) nin0)) (((((V_w_INSERT_shortName_value.ext E10).other W12 (Nat.ne_of_lt (Nat.lt_of_lt_of_le V_w_INSERT_shortName_value.lt (Nat.le_of_eq g10.symm)))).other W14 (Nat.ne_of_lt (Nat.lt_of_lt_of_le V_w_INSERT_shortName_value.lt (Nat.le_of_eq g10.symm)))).ext E15).keep K16 (ninS (Nat.ne_of_lt (Nat.lt_of_lt_of_le (((V_w_INSERT_shortName_value.ext E10).other W12 (Nat.ne_of_lt (Nat.lt_of_lt_of_le V_w_INSERT_shortName_value.lt (Nat.le_of_eq g10.symm)))).other W14 (Nat.ne_of_lt (Nat.lt_of_lt_of_le V_w_INSERT_shortName_value.lt (Nat.le_of_eq g10.symm)))).lt (Nat.le_of_eq g15.symm))) nin0)) (((((F_shortName_w_UPDATE_BEFORE.ext E10).other W12 (Or.inl (Nat.ne_of_lt (Nat.lt_of_lt_of_le E_w_UPDATE_BEFORE.lt (Nat.le_of_eq g10.symm))))).other W14 (Or.inl (Nat.ne_of_lt (Nat.lt_of_lt_of_le E_w_UPDATE_BEFORE.lt (Nat.le_of_eq g10.symm))))).ext E15).keep K16 (ninS (Nat.ne_of_lt (Nat.lt_of_lt_of_le (((E_w_UPDATE_BEFORE.ext E10).wr W12).wr W14).lt (Nat.le_of_eq g15.symm))) nin0)) (((((E_w_UPDATE_BEFORE_shortName.ext E10).wr W12).wr W14).ext E15).keep K16) (((((F_coder_w_UPDATE_BEFORE_shortName.ext E10).other W12 (Or.inl (Nat.ne_of_lt (Nat.lt_of_lt_of_le E_w_UPDATE_BEFORE_shortName.lt (Nat.le_of_eq g10.symm))))).other W14 (Or.inl (Nat.ne_of_lt (Nat.lt_of_lt_of_le E_w_UPDATE_BEFORE_shortName.lt (Nat.le_of_eq g10.symm))))).ext E15).keep K16 (ninS (Nat.ne_of_lt (Nat.lt_of_lt_of_le (((E_w_UPDATE_BEFORE_shortName.ext E10).wr W12).wr W14).lt (Nat.le_of_eq g15.symm))) nin0)) (((((F_value_w_UPDATE_BEFORE_shortName.ext E10).other W12 (Or.inl (Nat.ne_of_lt (Nat.lt_of_lt_of_le E_w_UPDATE_BEFORE_shortName.lt (Nat.le_of_eq g10.symm))))).other W14 (Or.inl (Nat.ne_of_lt (Nat.lt_of_lt_of_le E_w_UPDATE_BEFORE_shortName.lt (Nat.le_of_eq g10.symm))))).ext E15).keep K16 (ninS (Nat.ne_of_lt (Nat.lt_of_lt_of_le (((E_w_UPDATE_BEFORE_shortName.ext E10).wr W12).wr W14).lt (Nat.le_of_eq g15.symm))) nin0)) (((((V_w_UPDATE_BEFORE_shortName_value.ext E10).other W12 (Nat.ne_of_lt (Nat.lt_of_lt_of_le V_w_UPDATE_BEFORE_shortName_value.lt (Nat.le_of_eq g10.symm)))).other W14 (Nat.ne_of_lt (Nat.lt_of_lt_of_le V_w_UPDATE_BEFORE_shortName_value.lt (Nat.le_of_eq g10.symm)))).ext E15).keep K16 (ninS (Nat.ne_of_lt (Nat.lt_of_lt_of_le (((V_w_UPDATE_BEFORE_shortName_value.ext E10).other W12 (Nat.ne_of_lt (Nat.lt_of_lt_of_le V_w_UPDATE_BEFORE_shortName_value.lt (Nat.le_of_eq g10.symm)))).other W14 (Nat.ne_of_lt (Nat.lt_of_lt_of_le V_w_UPDATE_BEFORE_shortName_value.lt (Nat.le_of_eq g10.symm)))).lt (Nat.le_of_eq g15.symm))) nin0)) (((((F_shortName_w_UPDATE_AFTER.ext E10).other W12 (Or.inl (Nat.ne_of_lt (Nat.lt_of_lt_of_le E_w_UPDATE_AFTER.lt (Nat.le_of_eq g10.symm))))).other W14 (Or.inl (Nat.ne_of_lt (Nat.lt_of_lt_of_le E_w_UPDATE_AFTER.lt (Nat.le_of_eq g10.symm))))).ext E15).keep K16 (ninS (Nat.ne_of_lt (Nat.lt_of_lt_of_le (((E_w_UPDATE_AFTER.ext E10).wr W12).wr W14).lt (Nat.le_of_eq g15.symm))) nin0)) (((((E_w_UPDATE_AFTER_shortName.ext E10).wr W12).wr W14).ext E15).keep K16) (((((F_coder_w_UPDATE_AFTER_shortName.ext E10).other W12 (Or.inl (Nat.ne_of_lt (Nat.lt_of_lt_of_le E_w_UPDATE_AFTER_shortName.lt (Nat.le_of_eq g10.symm))))).other W14 (Or.inl (Nat.ne_of_lt (Nat.lt_of_lt_of_le E_w_UPDATE_AFTER_shortName.lt (Nat.le_of_eq g10.symm))))).ext E15).keep K16 (ninS (Nat.ne_of_lt (Nat.lt_of_lt_of_le (((E_w_UPDATE_AFTER_shortName.ext E10).wr W12).wr W14).lt (Nat.le_of_eq g15.symm))) nin0)) (((((F_value_w_UPDATE_AFTER_shortName.ext E10).other W12 (Or.inl (Nat.ne_of_lt (Nat.lt_of_lt_of_le E_w_UPDATE_AFTER_shortName.lt (Nat.le_of_eq g10.symm))))).other W14 (Or.inl (Nat.ne_of_lt (Nat.lt_of_lt_of_le E_w_UPDATE_AFTER_shortName.lt (Nat.le_of_eq g10.symm))))).ext E15).keep K16 (ninS (Nat.ne_of_lt (Nat.lt_of_lt_of_le (((E_w_UPDATE_AFTER_shortName.ext E10).wr W12).wr W14).lt (Nat.le_of_eq g15.symm))) nin0)) (((((V_w_UPDATE_AFTER_shortName_value.ext E10).other W12 (Nat.ne_of_lt (Nat.lt_of_lt_of_le V_w_UPDATE_AFTER_shortName_value.lt (Nat.le_of_eq g10.symm)))).other W14 (Nat.ne_of_lt (Nat.lt_of_lt_of_le V_w_UPDATE_AFTER_shortName_value.lt (Nat.le_of_eq g10.symm)))).ext E15).keep K16 (ninS (Nat.ne_of_lt (Nat.lt_of_lt_of_le (((V_w_UPDATE_AFTER_shortName_value.ext E10).other W12 (Nat.ne_of_lt (Nat.lt_of_lt_of_le V_w_UPDATE_AFTER_shortName_value.lt (Nat.le_of_eq g10.symm)))).other W14 (Nat.ne_of_lt (Nat.lt_of_lt_of_le V_w_UPDATE_AFTER_shortName_value.lt (Nat.le_of_eq g10.symm)))).lt (Nat.le_of_eq g15.symm))) nin0)) (((((F_shortName_w_DELETE.ext E10).other W12 (Or.inl (Nat.ne_of_lt (Nat.lt_of_lt_of_le E_w_DELETE.lt (Nat.le_of_eq g10.symm))))).other W14 (Or.inl (Nat.ne_of_lt (Nat.lt_of_lt_of_le E_w_DELETE.lt (Nat.le_of_eq g10.symm))))).ext E15).keep K16 (ninS (Nat.ne_of_lt (Nat.lt_of_lt_of_le (((E_w_DELETE.ext E10).wr W12).wr W14).lt (Nat.le_of_eq g15.symm))) nin0)) (((((E_w_DELETE_shortName.ext E10).wr W12).wr W14).ext E15).keep K16) (((((F_coder_w_DELETE_shortName.ext E10).other W12 (Or.inl (Nat.ne_of_lt (Nat.lt_of_lt_of_le E_w_DELETE_shortName.lt (Nat.le_of_eq g10.symm))))).other W14 (Or.inl (Nat.ne_of_lt (Nat.lt_of_lt_of_le E_w_DELETE_shortName.lt (Nat.le_of_eq g10.symm))))).ext E15).keep K16 (ninS (Nat.ne_of_lt (Nat.lt_of_lt_of_le (((E_w_DELETE_shortName.ext E10).wr W12).wr W14).lt (Nat.le_of_eq g15.symm))) nin0)) (((((F_value_w_DELETE_shortName.ext E10).other W12 (Or.inl (Nat.ne_of_lt (Nat.lt_of_lt_of_le E_w_DELETE_shortName.lt (Nat.le_of_eq g10.symm))))).other W14 (Or.inl (Nat.ne_of_lt (Nat.lt_of_lt_of_le E_w_DELETE_shortName.lt (Nat.le_of_eq g10.symm))))).ext E15).keep K16 (ninS (Nat.ne_of_lt (Nat.lt_of_lt_of_le (((E_w_DELETE_shortName.ext E10).wr W12).wr W14).lt (Nat.le_of_eq g15.symm))) nin0)) (((((V_w_DELETE_shortName_value.ext E10).other W12 (Nat.ne_of_lt (Nat.lt_of_lt_of_le V_w_DELETE_shortName_value.lt (Nat.le_of_eq g10.symm)))).other W14 (Nat.ne_of_lt (Nat.lt_of_lt_of_le V_w_DELETE_shortName_value.lt (Nat.le_of_eq g10.symm)))).ext E15).keep K16 (ninS (Nat.ne_of_lt (Nat.lt_of_lt_of_le (((V_w_DELETE_shortName_value.ext E10).other W12 (Nat.ne_of_lt (Nat.lt_of_lt_of_le V_w_DELETE_shortName_value.lt (Nat.le_of_eq g10.symm)))).other W14 (Nat.ne_of_lt (Nat.lt_of_lt_of_le V_w_DELETE_shortName_value.lt (Nat.le_of_eq g10.symm)))).lt (Nat.le_of_eq g15.symm))) nin0)) (A15.keep K16) f16_1 f16_2 f16_3 (own_sta_keep ((((S_COMPACT_STRINGS.ext E10).wr W12).wr W14).ext E15) K16 (allS (own_exa_ns A15) all0)) (hCS : ¬ (w_COMPACT_STRINGS = (0 : Int32))) (by decide : ((nar .byte ((43 : Int32).toInt8.toInt32)) = (43 : Int32) ∧ (nar .byte ((73 : Int32).toInt8.toInt32)) = (73 : Int32)) ∨ ((nar .byte ((43 : Int32).toInt8.toInt32)) = (45 : Int32) ∧ (nar .byte ((73 : Int32).toInt8.toInt32)) = (85 : Int32)) ∨ ((nar .byte ((43 : Int32).toInt8.toInt32)) = (43 : Int32) ∧ (nar .byte ((73 : Int32).toInt8.toInt32)) = (85 : Int32)) ∨ ((nar .byte ((43 : Int32).toInt8.toInt32)) = (45 : Int32) ∧ (nar .byte ((73 : Int32).toInt8.toInt32)) = (68 : Int32))) ((Nat.ne_of_lt (Nat.lt_of_lt_of_le (((E_w_INSERT_shortName.ext E10).wr W12).wr W14).lt (Nat.le_of_eq g15.symm))) : w_INSERT_shortName ≠ b15) ((Nat.ne_of_lt (Nat.lt_of_lt_of_le (((E_w_UPDATE_BEFORE_shortName.ext E10).wr W12).wr W14).lt (Nat.le_of_eq g15.symm))) : w_UPDATE_BEFORE_shortName ≠ b15) ((Nat.ne_of_lt (Nat.lt_of_lt_of_le (((E_w_UPDATE_AFTER_shortName.ext E10).wr W12).wr W14).lt (Nat.le_of_eq g15.symm))) : w_UPDATE_AFTER_shortName ≠ b15) ((Nat.ne_of_lt (Nat.lt_of_lt_of_le (((E_w_DELETE_shortName.ext E10).wr W12).wr W14).lt (Nat.le_of_eq g15.symm))) : w_DELETE_shortName ≠ b15)) hZ (hw _ (List.mem_of_getElem? (i := 39) rfl)) (hw _ (List.mem_of_getElem? (i := 5) rfl)) (by decide) (by decide)) (g := (mkF m 177 #[.val (.int p1), .val (.int p2), .val (.int p3), .val (.int (43 : Int32)), .val (.int (73 : Int32)), .val (.ref w_INSERT), .val (.ref b10), .val (.ref b15), .unset] [(.ref b15)])) rfl (by rw [hml]; rfl) (argsL := [(.ref b15)]) (rest := []) (lenOf pd9 rfl) rfl (by show 2 * 0 + _ ≤ _; exact Nat.le_of_eq rfl) (hb hby at_177) (fun _ _ => ⟨rfl, rfl, (by decide : 3 + 1 ≤ _), (by decide : 8 + 4 ≤ _)⟩)
        dsimp only [Pt.U, Pt.locs, Pt.cells, Pt.slots] at X17 l17 y17 z17 st17 hQ17
        subst l17 y17 z17
        obtain ⟨rfl, N17q, K17⟩ := hQ17
        have N17 := Fr.app N16 N17q
        have KK17 : Keep h0 T17.heap [] := KK16.trans K17 all0
        have ev17 : (res8 w_INSERT w_UPDATE_BEFORE w_UPDATE_AFTER w_DELETE (nar .byte ((43 : Int32).toInt8.toInt32)) (nar .byte ((73 : Int32).toInt8.toInt32))) = w_INSERT := by first | rfl | decide
        rw [ev17] at st17
        obtain ⟨cq18, kq18, q18a, q18b, q18c⟩ := isOf hZ rfl ((((((E_w_INSERT.ext E10).wr W12).wr W14).ext E15).keep K16).keep K17)
        obtain ⟨_, _, ⟨T18, L18, k18, n18⟩, -, X18, ⟨Lc18, hQ18, l18, y18, z18⟩, st18⟩ := X17.virtualBack hx (y := (⟨"com/example/tidemark/tidemark/table/RowKind", "shortName", "()Ljava/lang/String;"⟩ : MethodName)) (z := (⟨"com/example/tidemark/tidemark/table/RowKind", "shortName", "()Ljava/lang/String;"⟩ : MethodName)) hown (mvT hZ (hw _ (List.mem_of_getElem? (i := 70) rfl))) (mvT hZ (hw _ (List.mem_of_getElem? (i := 71) rfl))) (notFace_of_selects (args := #[]) (mvT hZ (hw _ (List.mem_of_getElem? (i := 73) rfl)))) (mvT hZ (hw _ (List.mem_of_getElem? (i := 73) rfl))) (mvT hZ (hw _ (List.mem_of_getElem? (i := 72) rfl))) (by decide) (backOf (W := 0) (rm12 l Z a0 hw [] w_INSERT w_INSERT_shortName T17.heap n0 (Nat.le_trans Z0 KK17.1) ((((((F_shortName_w_INSERT.ext E10).other W12 (Or.inl (Nat.ne_of_lt (Nat.lt_of_lt_of_le E_w_INSERT.lt (Nat.le_of_eq g10.symm))))).other W14 (Or.inl (Nat.ne_of_lt (Nat.lt_of_lt_of_le E_w_INSERT.lt (Nat.le_of_eq g10.symm))))).ext E15).keep K16 (ninS (Nat.ne_of_lt (Nat.lt_of_lt_of_le (((E_w_INSERT.ext E10).wr W12).wr W14).lt (Nat.le_of_eq g15.symm))) nin0)).keep K17 nin0) ) hZ (hw _ (List.mem_of_getElem? (i := 74) rfl)) (hw _ (List.mem_of_getElem? (i := 5) rfl)) (by decide) (by decide)) q18a q18c (g := (mkF m 191 #[.val (.int p1), .val (.int p2), .val (.int p3), .val (.int (43 : Int32)), .val (.int (73 : Int32)), .val (.ref w_INSERT), .val (.ref b10), .val (.ref b15), .val (.ref w_INSERT)] [(.ref w_INSERT)])) rfl (by rw [hml]; rfl) (Steps.refl _) (argsL := []) (rest := []) (lenOf pd10 rfl) rfl (by show 2 * 0 + _ ≤ _; exact Nat.le_of_eq rfl) (hb hby at_191) (fun _ _ => ⟨rfl, rfl, (by decide : 4 + 0 ≤ _), (by decide : 12 + 0 ≤ _)⟩)
        dsimp only [Pt.U, Pt.locs, Pt.cells, Pt.slots] at X18 l18 y18 z18 st18 hQ18
        subst l18 y18 z18
        obtain ⟨rfl, rfl, e18⟩ := hQ18
        have N18 := Fr.app N17 (Fr.nil n0)
        obtain ⟨cq19, kq19, q19a, q19b, q19c⟩ := isOf hZ e18 ((((((E_w_INSERT_shortName.ext E10).wr W12).wr W14).ext E15).keep K16).keep K17)
        obtain ⟨_, _, ⟨T19, L19, k19, n19⟩, -, X19, ⟨Lc19, hQ19, l19, y19, z19⟩, st19⟩ := X18.virtualBack hx (y := (⟨"java/lang/String", "equals", "(Ljava/lang/Object;)Z"⟩ : MethodName)) (z := (⟨"java/lang/String", "equals", "(Ljava/lang/Object;)Z"⟩ : MethodName)) hown (mvT hZ (hw _ (List.mem_of_getElem? (i := 75) rfl))) (mvT hZ (hw _ (List.mem_of_getElem? (i := 61) rfl))) (notFace_of_selects (args := #[]) (mvT hZ (hw _ (List.mem_of_getElem? (i := 63) rfl)))) (mvT hZ (hw _ (List.mem_of_getElem? (i := 63) rfl))) (mvT hZ (hw _ (List.mem_of_getElem? (i := 62) rfl))) (by decide) (backOf (W := 0) (rm_eq_2_2 l Z a0 hw [] w_INSERT_shortName b15 w_INSERT_shortName_value k_INSERT (43 : Int32) (73 : Int32) b1_3_2_16 k1_3_2_16 (nar .byte ((43 : Int32).toInt8.toInt32)) (nar .byte ((73 : Int32).toInt8.toInt32)) w_COMPACT_STRINGS T17.heap n0 (Nat.le_trans Z0 KK17.1) ((((((E_w_INSERT_shortName.ext E10).wr W12).wr W14).ext E15).keep K16).keep K17) ((((((F_coder_w_INSERT_shortName.ext E10).other W12 (Or.inl (Nat.ne_of_lt (Nat.lt_of_lt_of_le E_w_INSERT_shortName.lt (Nat.le_of_eq g10.symm))))).other W14 (Or.inl (Nat.ne_of_lt (Nat.lt_of_lt_of_le E_w_INSERT_shortName.lt (Nat.le_of_eq g10.symm))))).ext E15).keep K16 (ninS (Nat.ne_of_lt (Nat.lt_of_lt_of_le (((E_w_INSERT_shortName.ext E10).wr W12).wr W14).lt (Nat.le_of_eq g15.symm))) nin0)).keep K17 nin0) ((((((F_value_w_INSERT_shortName.ext E10).other W12 (Or.inl (Nat.ne_of_lt (Nat.lt_of_lt_of_le E_w_INSERT_shortName.lt (Nat.le_of_eq g10.symm))))).other W14 (Or.inl (Nat.ne_of_lt (Nat.lt_of_lt_of_le E_w_INSERT_shortName.lt (Nat.le_of_eq g10.symm))))).ext E15).keep K16 (ninS (Nat.ne_of_lt (Nat.lt_of_lt_of_le (((E_w_INSERT_shortName.ext E10).wr W12).wr W14).lt (Nat.le_of_eq g15.symm))) nin0)).keep K17 nin0) ((((((V_w_INSERT_shortName_value.ext E10).other W12 (Nat.ne_of_lt (Nat.lt_of_lt_of_le V_w_INSERT_shortName_value.lt (Nat.le_of_eq g10.symm)))).other W14 (Nat.ne_of_lt (Nat.lt_of_lt_of_le V_w_INSERT_shortName_value.lt (Nat.le_of_eq g10.symm)))).ext E15).keep K16 (ninS (Nat.ne_of_lt (Nat.lt_of_lt_of_le (((V_w_INSERT_shortName_value.ext E10).other W12 (Nat.ne_of_lt (Nat.lt_of_lt_of_le V_w_INSERT_shortName_value.lt (Nat.le_of_eq g10.symm)))).other W14 (Nat.ne_of_lt (Nat.lt_of_lt_of_le V_w_INSERT_shortName_value.lt (Nat.le_of_eq g10.symm)))).lt (Nat.le_of_eq g15.symm))) nin0)).keep K17 nin0) ((A15.keep K16).keep K17) (f16_1.keep K17 nin0) (f16_2.keep K17 nin0) (f16_3.keep K17 nin0) (own_sta_keep (own_sta_keep ((((S_COMPACT_STRINGS.ext E10).wr W12).wr W14).ext E15) K16 (allS (own_exa_ns A15) all0)) K17 all0) ((Nat.ne_of_lt (Nat.lt_of_lt_of_le (((E_w_INSERT_shortName.ext E10).wr W12).wr W14).lt (Nat.le_of_eq g15.symm))) : w_INSERT_shortName ≠ b15) (hCS : ¬ (w_COMPACT_STRINGS = (0 : Int32)))) hZ (hw _ (List.mem_of_getElem? (i := 64) rfl)) (hw _ (List.mem_of_getElem? (i := 10) rfl)) (by decide) (by decide)) q19a q19c (g := (mkF m 196 #[.val (.int p1), .val (.int p2), .val (.int p3), .val (.int (43 : Int32)), .val (.int (73 : Int32)), .val (.ref w_INSERT), .val (.ref b10), .val (.ref b15), .val (.ref w_INSERT)] [(.ref b15), (.ref w_INSERT_shortName)])) rfl (by rw [hml]; rfl) (Steps.refl _) (argsL := [(.ref b15)]) (rest := []) (lenOf pd6 rfl) rfl (by show 2 * 0 + _ ≤ _; exact Nat.le_of_eq rfl) (hb hby at_196) (fun _ _ => ⟨rfl, e18, (by decide : 4 + 0 ≤ _), (by decide : 12 + 0 ≤ _)⟩)
        dsimp only [Pt.U, Pt.locs, Pt.cells, Pt.slots] at X19 l19 y19 z19 st19 hQ19
        subst l19 y19 z19
        obtain ⟨rfl, rfl, e19⟩ := hQ19
        have N19 := Fr.app N18 (Fr.nil n0)
        have ev19 : (res_eq_2_2 (43 : Int32) (73 : Int32) (nar .byte ((43 : Int32).toInt8.toInt32)) (nar .byte ((73 : Int32).toInt8.toInt32))) = (1 : Int32) := by first | rfl | decide
        rw [ev19] at st19
        obtain ⟨fs, hr, hrun, hended, hW, hsame⟩ := X19.leave (v := some (.int (1 : Int32))) (fun h => by rw [Bd.returns] at h; cases h)
        refine ⟨_, _, pre7 _ ?_, hrun, hended, _, _, rfl, ?_, ⟨_, rfl⟩, hW, hsame.mono (by decide) (by decide)⟩
        · show Steps p.tables e below (T4.setTop (mkF m 82 #[.val (.int p1), .val (.int p2), .val (.int p3), .val (.int (43 : Int32)), .val (.int (73 : Int32)), .val .null, .unset, .unset, .unset] [(.int (73 : Int32)), (.int (73 : Int32))])) _
          refine XS.icmpNo X4.here hx rfl (hb hby at_82) rfl (teq (rfl : (73 : Int32) = (73 : Int32))).2 ?_
          show Steps p.tables e below (T4.setTop (mkF m 85 #[.val (.int p1), .val (.int p2), .val (.int p3), .val (.int (43 : Int32)), .val (.int (73 : Int32)), .val .null, .unset, .unset, .unset] [])) _
          refine st9 _ ?_
          show Steps p.tables e below (T9.setTop (mkF m 88 #[.val (.int p1), .val (.int p2), .val (.int p3), .val (.int (43 : Int32)), .val (.int (73 : Int32)), .val .null, .unset, .unset, .unset] [(.ref w_INSERT)])) _
          refine XS.astore X9.here hx rfl (hb hby at_88) rfl rfl (l' := #[.val (.int p1), .val (.int p2), .val (.int p3), .val (.int (43 : Int32)), .val (.int (73 : Int32)), .val (.ref w_INSERT), .unset, .unset, .unset]) rfl ?_
          show Steps p.tables e below (T9.setTop (mkF m 90 #[.val (.int p1), .val (.int p2), .val (.int p3), .val (.int (43 : Int32)), .val (.int (73 : Int32)), .val (.ref w_INSERT), .unset, .unset, .unset] [])) _
          refine XS.goto X9.here hx rfl (pc0 := 90) (pc' := 141) rfl (hb hby at_90) (by decide) (by decide) ?_
          show Steps p.tables e below (T9.setTop (mkF m 141 #[.val (.int p1), .val (.int p2), .val (.int p3), .val (.int (43 : Int32)), .val (.int (73 : Int32)), .val (.ref w_INSERT), .unset, .unset, .unset] [])) _
          refine XS.aload X9.here hx rfl (hb hby at_141) rfl rfl ?_
          show Steps p.tables e below (T9.setTop (mkF m 143 #[.val (.int p1), .val (.int p2), .val (.int p3), .val (.int (43 : Int32)), .val (.int (73 : Int32)), .val (.ref w_INSERT), .unset, .unset, .unset] [(.ref w_INSERT)])) _
          refine XS.ifnonnullYes X9.here hx rfl (pc0 := 143) (pc' := 148) rfl (hb hby at_143) rfl (by decide) (by decide) ?_
          show Steps p.tables e below (T9.setTop (mkF m 148 #[.val (.int p1), .val (.int p2), .val (.int p3), .val (.int (43 : Int32)), .val (.int (73 : Int32)), .val (.ref w_INSERT), .unset, .unset, .unset] [])) _
          refine XS.iconst X9.here hx rfl (hb hby at_148) ?_
          show Steps p.tables e below (T9.setTop (mkF m 149 #[.val (.int p1), .val (.int p2), .val (.int p3), .val (.int (43 : Int32)), .val (.int (73 : Int32)), .val (.ref w_INSERT), .unset, .unset, .unset] [(.int (2 : Int32))])) _
          refine st10 _ ?_
          show Steps p.tables e below (T10.setTop (mkF m 151 #[.val (.int p1), .val (.int p2), .val (.int p3), .val (.int (43 : Int32)), .val (.int (73 : Int32)), .val (.ref w_INSERT), .unset, .unset, .unset] [(.ref b10)])) _
          refine XS.astore X10.here hx rfl (hb hby at_151) rfl rfl (l' := #[.val (.int p1), .val (.int p2), .val (.int p3), .val (.int (43 : Int32)), .val (.int (73 : Int32)), .val (.ref w_INSERT), .val (.ref b10), .unset, .unset]) rfl ?_
          show Steps p.tables e below (T10.setTop (mkF m 153 #[.val (.int p1), .val (.int p2), .val (.int p3), .val (.int (43 : Int32)), .val (.int (73 : Int32)), .val (.ref w_INSERT), .val (.ref b10), .unset, .unset] [])) _
          refine XS.aload X10.here hx rfl (hb hby at_153) rfl rfl ?_
          show Steps p.tables e below (T10.setTop (mkF m 155 #[.val (.int p1), .val (.int p2), .val (.int p3), .val (.int (43 : Int32)), .val (.int (73 : Int32)), .val (.ref w_INSERT), .val (.ref b10), .unset, .unset] [(.ref b10)])) _
          refine XS.iconst X10.here hx rfl (hb hby at_155) ?_
          show Steps p.tables e below (T10.setTop (mkF m 156 #[.val (.int p1), .val (.int p2), .val (.int p3), .val (.int (43 : Int32)), .val (.int (73 : Int32)), .val (.ref w_INSERT), .val (.ref b10), .unset, .unset] [(.int (0 : Int32)), (.ref b10)])) _
          refine XS.iloadN X10.here hx rfl (hb hby at_156) rfl ?_
          show Steps p.tables e below (T10.setTop (mkF m 157 #[.val (.int p1), .val (.int p2), .val (.int p3), .val (.int (43 : Int32)), .val (.int (73 : Int32)), .val (.ref w_INSERT), .val (.ref b10), .unset, .unset] [(.int (43 : Int32)), (.int (0 : Int32)), (.ref b10)])) _
          refine st12 _ ?_
          show Steps p.tables e below (T12.setTop (mkF m 158 #[.val (.int p1), .val (.int p2), .val (.int p3), .val (.int (43 : Int32)), .val (.int (73 : Int32)), .val (.ref w_INSERT), .val (.ref b10), .unset, .unset] [])) _
          refine XS.aload X12.here hx rfl (hb hby at_158) rfl rfl ?_
          show Steps p.tables e below (T12.setTop (mkF m 160 #[.val (.int p1), .val (.int p2), .val (.int p3), .val (.int (43 : Int32)), .val (.int (73 : Int32)), .val (.ref w_INSERT), .val (.ref b10), .unset, .unset] [(.ref b10)])) _
          refine XS.iconst X12.here hx rfl (hb hby at_160) ?_
          show Steps p.tables e below (T12.setTop (mkF m 161 #[.val (.int p1), .val (.int p2), .val (.int p3), .val (.int (43 : Int32)), .val (.int (73 : Int32)), .val (.ref w_INSERT), .val (.ref b10), .unset, .unset] [(.int (1 : Int32)), (.ref b10)])) _
          refine XS.iload X12.here hx rfl (hb hby at_161) rfl ?_
          show Steps p.tables e below (T12.setTop (mkF m 163 #[.val (.int p1), .val (.int p2), .val (.int p3), .val (.int (43 : Int32)), .val (.int (73 : Int32)), .val (.ref w_INSERT), .val (.ref b10), .unset, .unset] [(.int (73 : Int32)), (.int (1 : Int32)), (.ref b10)])) _
          refine st14 _ ?_
          show Steps p.tables e below (T14.setTop (mkF m 164 #[.val (.int p1), .val (.int p2), .val (.int p3), .val (.int (43 : Int32)), .val (.int (73 : Int32)), .val (.ref w_INSERT), .val (.ref b10), .unset, .unset] [])) _
          refine st15 _ ?_
          show Steps p.tables e below (T15.setTop (mkF m 167 #[.val (.int p1), .val (.int p2), .val (.int p3), .val (.int (43 : Int32)), .val (.int (73 : Int32)), .val (.ref w_INSERT), .val (.ref b10), .unset, .unset] [(.ref b15)])) _
          refine XS.dup X15.here hx rfl (hb hby at_167) rfl rfl ?_
          show Steps p.tables e below (T15.setTop (mkF m 168 #[.val (.int p1), .val (.int p2), .val (.int p3), .val (.int (43 : Int32)), .val (.int (73 : Int32)), .val (.ref w_INSERT), .val (.ref b10), .unset, .unset] [(.ref b15), (.ref b15)])) _
          refine XS.aload X15.here hx rfl (hb hby at_168) rfl rfl ?_
          show Steps p.tables e below (T15.setTop (mkF m 170 #[.val (.int p1), .val (.int p2), .val (.int p3), .val (.int (43 : Int32)), .val (.int (73 : Int32)), .val (.ref w_INSERT), .val (.ref b10), .unset, .unset] [(.ref b10), (.ref b15), (.ref b15)])) _
          refine st16.trans ?_
          show Steps p.tables e below (T16.setTop (mkF m 173 #[.val (.int p1), .val (.int p2), .val (.int p3), .val (.int (43 : Int32)), .val (.int (73 : Int32)), .val (.ref w_INSERT), .val (.ref b10), .unset, .unset] [(.ref b15)])) _
          refine XS.astore X16.here hx rfl (hb hby at_173) rfl rfl (l' := #[.val (.int p1), .val (.int p2), .val (.int p3), .val (.int (43 : Int32)), .val (.int (73 : Int32)), .val (.ref w_INSERT), .val (.ref b10), .val (.ref b15), .unset]) rfl ?_
          show Steps p.tables e below (T16.setTop (mkF m 175 #[.val (.int p1), .val (.int p2), .val (.int p3), .val (.int (43 : Int32)), .val (.int (73 : Int32)), .val (.ref w_INSERT), .val (.ref b10), .val (.ref b15), .unset] [])) _
          refine XS.aload X16.here hx rfl (hb hby at_175) rfl rfl ?_
          show Steps p.tables e below (T16.setTop (mkF m 177 #[.val (.int p1), .val (.int p2), .val (.int p3), .val (.int (43 : Int32)), .val (.int (73 : Int32)), .val (.ref w_INSERT), .val (.ref b10), .val (.ref b15), .unset] [(.ref b15)])) _
          refine st17 _ ?_
          show Steps p.tables e below (T17.setTop (mkF m 180 #[.val (.int p1), .val (.int p2), .val (.int p3), .val (.int (43 : Int32)), .val (.int (73 : Int32)), .val (.ref w_INSERT), .val (.ref b10), .val (.ref b15), .unset] [(.ref w_INSERT)])) _
          refine XS.astore X17.here hx rfl (hb hby at_180) rfl rfl (l' := #[.val (.int p1), .val (.int p2), .val (.int p3), .val (.int (43 : Int32)), .val (.int (73 : Int32)), .val (.ref w_INSERT), .val (.ref b10), .val (.ref b15), .val (.ref w_INSERT)]) rfl ?_
          show Steps p.tables e below (T17.setTop (mkF m 182 #[.val (.int p1), .val (.int p2), .val (.int p3), .val (.int (43 : Int32)), .val (.int (73 : Int32)), .val (.ref w_INSERT), .val (.ref b10), .val (.ref b15), .val (.ref w_INSERT)] [])) _
          refine XS.aload X17.here hx rfl (hb hby at_182) rfl rfl ?_
          show Steps p.tables e below (T17.setTop (mkF m 184 #[.val (.int p1), .val (.int p2), .val (.int p3), .val (.int (43 : Int32)), .val (.int (73 : Int32)), .val (.ref w_INSERT), .val (.ref b10), .val (.ref b15), .val (.ref w_INSERT)] [(.ref w_INSERT)])) _
          refine XS.aload X17.here hx rfl (hb hby at_184) rfl rfl ?_
          show Steps p.tables e below (T17.setTop (mkF m 186 #[.val (.int p1), .val (.int p2), .val (.int p3), .val (.int (43 : Int32)), .val (.int (73 : Int32)), .val (.ref w_INSERT), .val (.ref b10), .val (.ref b15), .val (.ref w_INSERT)] [(.ref w_INSERT), (.ref w_INSERT)])) _
          refine Jvm.RoadKit.acmp (g := (mkF m 186 #[.val (.int p1), .val (.int p2), .val (.int p3), .val (.int (43 : Int32)), .val (.int (73 : Int32)), .val (.ref w_INSERT), .val (.ref b10), .val (.ref b15), .val (.ref w_INSERT)] [(.ref w_INSERT), (.ref w_INSERT)])) X17 hx rfl rfl rfl (pc0 := 186) (pc' := 189) (same := true) rfl (hb hby at_186) rfl (decide_eq_true (congrArg Value.ref rfl)) (by decide) (by decide) ?_
          show Steps p.tables e below (T17.setTop (mkF m 189 #[.val (.int p1), .val (.int p2), .val (.int p3), .val (.int (43 : Int32)), .val (.int (73 : Int32)), .val (.ref w_INSERT), .val (.ref b10), .val (.ref b15), .val (.ref w_INSERT)] [])) _
          refine XS.aload X17.here hx rfl (hb hby at_189) rfl rfl ?_
          show Steps p.tables e below (T17.setTop (mkF m 191 #[.val (.int p1), .val (.int p2), .val (.int p3), .val (.int (43 : Int32)), .val (.int (73 : Int32)), .val (.ref w_INSERT), .val (.ref b10), .val (.ref b15), .val (.ref w_INSERT)] [(.ref w_INSERT)])) _
          refine st18.trans ?_
          show Steps p.tables e below (T18.setTop (mkF m 194 #[.val (.int p1), .val (.int p2), .val (.int p3), .val (.int (43 : Int32)), .val (.int (73 : Int32)), .val (.ref w_INSERT), .val (.ref b10), .val (.ref b15), .val (.ref w_INSERT)] [(.ref w_INSERT_shortName)])) _
          refine XS.aload X18.here hx rfl (hb hby at_194) rfl rfl ?_
          show Steps p.tables e below (T18.setTop (mkF m 196 #[.val (.int p1), .val (.int p2), .val (.int p3), .val (.int (43 : Int32)), .val (.int (73 : Int32)), .val (.ref w_INSERT), .val (.ref b10), .val (.ref b15), .val (.ref w_INSERT)] [(.ref b15), (.ref w_INSERT_shortName)])) _
          refine st19.trans ?_
          show Steps p.tables e below (T19.setTop (mkF m 199 #[.val (.int p1), .val (.int p2), .val (.int p3), .val (.int (43 : Int32)), .val (.int (73 : Int32)), .val (.ref w_INSERT), .val (.ref b10), .val (.ref b15), .val (.ref w_INSERT)] [(.int (1 : Int32))])) _
          refine XS.ifNo X19.here hx rfl (hb hby at_199) rfl ((if0 _ _).trans (feq (by decide : ¬ ((1 : Int32) = (0 : Int32)))).1) ?_
          show Steps p.tables e below (T19.setTop (mkF m 202 #[.val (.int p1), .val (.int p2), .val (.int p3), .val (.int (43 : Int32)), .val (.int (73 : Int32)), .val (.ref w_INSERT), .val (.ref b10), .val (.ref b15), .val (.ref w_INSERT)] [])) _
          refine XS.iconst X19.here hx rfl (hb hby at_202) ?_
          show Steps p.tables e below (T19.setTop (mkF m 203 #[.val (.int p1), .val (.int p2), .val (.int p3), .val (.int (43 : Int32)), .val (.int (73 : Int32)), .val (.ref w_INSERT), .val (.ref b10), .val (.ref b15), .val (.ref w_INSERT)] [(.int (1 : Int32))])) _
          refine XS.goto X19.here hx rfl (pc0 := 203) (pc' := 207) rfl (hb hby at_203) (by decide) (by decide) ?_
          show Steps p.tables e below (T19.setTop (mkF m 207 #[.val (.int p1), .val (.int p2), .val (.int p3), .val (.int (43 : Int32)), .val (.int (73 : Int32)), .val (.ref w_INSERT), .val (.ref b10), .val (.ref b15), .val (.ref w_INSERT)] [(.int (1 : Int32))])) _
          exact retN X19 hx (t := .boolean) Bd.returns (by simp) (hb hby at_207) hr
        · show Q0 Z p1 p2 p3 w__VALUES kV w_INSERT w_UPDATE_BEFORE w_UPDATE_AFTER w_DELETE w_INSERT_shortName w_INSERT_shortName_value k_INSERT w_UPDATE_BEFORE_shortName w_UPDATE_BEFORE_shortName_value k_UPDATE_BEFORE w_UPDATE_AFTER_shortName w_UPDATE_AFTER_shortName_value k_UPDATE_AFTER w_DELETE_shortName w_DELETE_shortName_value k_DELETE w_COMPACT_STRINGS h0 n0 _ T19.heap _
          rw [e19]
          exact ⟨by rw [res0, if_pos hc3_2, if_pos hc75_6, if_pos hc82_8], N19⟩
      · have pre20 : ∀ t, Steps p.tables e below (T4.setTop (mkF m 97 #[.val (.int p1), .val (.int p2), .val (.int p3), .val (.int (43 : Int32)), .val (.int (res1 p3)), .val .null, .unset, .unset, .unset] [(.int (85 : Int32)), (.int (res1 p3))])) t → Steps p.tables e below (s₁.setTop (entryFrame m #[(.int p1), (.int p2), (.int p3)] maxLocals)) t := by
          intro t kt
          refine pre7 _ ?_
          show Steps p.tables e below (T4.setTop (mkF m 82 #[.val (.int p1), .val (.int p2), .val (.int p3), .val (.int (43 : Int32)), .val (.int (res1 p3)), .val .null, .unset, .unset, .unset] [(.int (73 : Int32)), (.int (res1 p3))])) _
          refine XS.icmpYes X4.here hx rfl (pc0 := 82) (pc' := 93) rfl (hb hby at_82) rfl (feq hc82_8).2 (by decide) (by decide) ?_
          show Steps p.tables e below (T4.setTop (mkF m 93 #[.val (.int p1), .val (.int p2), .val (.int p3), .val (.int (43 : Int32)), .val (.int (res1 p3)), .val .null, .unset, .unset, .unset] [])) _
          refine XS.iload X4.here hx rfl (hb hby at_93) rfl ?_
          show Steps p.tables e below (T4.setTop (mkF m 95 #[.val (.int p1), .val (.int p2), .val (.int p3), .val (.int (43 : Int32)), .val (.int (res1 p3)), .val .null, .unset, .unset, .unset] [(.int (res1 p3))])) _
          refine XS.bipush X4.here hx rfl (hb hby at_95) ?_
          exact kt
        by_cases hc97_21 : (res1 p3) = (85 : Int32)
        · rw [hc97_21] at pre20
          obtain ⟨T22, X22, e22, st22⟩ := getS2 X4 hx hZ hown (host := "") (Or.inl (hw _ (List.mem_of_getElem? (i := 78) rfl))) Via.refl e4 S_UPDATE_AFTER (g := (mkF m 100 #[.val (.int p1), .val (.int p2), .val (.int p3), .val (.int (43 : Int32)), .val (.int (85 : Int32)), .val .null, .unset, .unset, .unset] [])) rfl (hb hby at_100)
          obtain ⟨T23, h23, k23, X23, e23, E23, A23, st23⟩ := newP X22 hx hZ (hw _ (List.mem_of_getElem? (i := 7) rfl)) e22 (g := (mkF m 149 #[.val (.int p1), .val (.int p2), .val (.int p3), .val (.int (43 : Int32)), .val (.int (85 : Int32)), .val (.ref w_UPDATE_AFTER), .unset, .unset, .unset] [(.int (2 : Int32))])) rfl (hb hby at_149) rfl (by decide) (cap := 2) (by decide) (by decide) (by decide) (by decide)
          obtain ⟨b23, g23⟩ : ∃ z, z = h0.size := ⟨_, rfl⟩
          rw [← g23] at A23 st23
          have sz_b23 : h0.size ≤ b23 := Nat.le_trans (Keep.refl h0 []).1 (Nat.le_of_eq g23.symm)
          have g_b23 : n0 ≤ b23 := Nat.le_trans Z0 sz_b23
          have K23 : Keep h0 h23 [] := (Keep.refl h0 []).ext E23
          have V_b23 : Arv Z h23 b23 k23 .char (2 : Int32) [(.int (0 : Int32)), (.int (0 : Int32))] (.int (0 : Int32)) := (Arv.new A23 (by decide)).pad (pad_rep [] (.int (0 : Int32)) 2)
          obtain ⟨cl_b23_157_24, Ar_b23_157_24, q_b23_157_24, S_b23_157_24, N_b23_157_24, H_b23_157_24, G_b23_157_24⟩ := id V_b23
          have hin_b23_157_24 : ¬ ((0 : Int32) < 0 ∨ cl_b23_157_24.slots.size ≤ ((0 : Int32) : Int32).toNatClampNeg) := inb_of S_b23_157_24 ⟨by decide, by decide⟩
          obtain ⟨T25, h25, X25, e25, W25, st25⟩ := stC X23 hx hZ e23 Ar_b23_157_24 (j := (0 : Int32)) hin_b23_157_24 (g := (mkF m 157 #[.val (.int p1), .val (.int p2), .val (.int p3), .val (.int (43 : Int32)), .val (.int (85 : Int32)), .val (.ref w_UPDATE_AFTER), .val (.ref b23), .unset, .unset] [(.int (43 : Int32)), (.int (0 : Int32)), (.ref b23)])) rfl rfl (hb hby at_157)
          have V_b23_157_24 : Arv Z h25 b23 k23 .char (2 : Int32) [(.int (43 : Int32)), (.int (0 : Int32))] (.int (0 : Int32)) := Arv.set Ar_b23_157_24 q_b23_157_24 S_b23_157_24 N_b23_157_24 H_b23_157_24 G_b23_157_24 (fits_nar_char _) W25 0 rfl (Nat.le_of_ble_eq_true rfl)
          have K25 : Keep h0 h25 [] := K23.wr W25 (Or.inr sz_b23)
          have N25 := Fr.snoc X25 N4 g_b23
          obtain ⟨cl_b23_163_26, Ar_b23_163_26, q_b23_163_26, S_b23_163_26, N_b23_163_26, H_b23_163_26, G_b23_163_26⟩ := id V_b23_157_24
          have hin_b23_163_26 : ¬ ((1 : Int32) < 0 ∨ cl_b23_163_26.slots.size ≤ ((1 : Int32) : Int32).toNatClampNeg) := inb_of S_b23_163_26 ⟨by decide, by decide⟩
          obtain ⟨T27, h27, X27, e27, W27, st27⟩ := stC X25 hx hZ e25 Ar_b23_163_26 (j := (1 : Int32)) hin_b23_163_26 (g := (mkF m 163 #[.val (.int p1), .val (.int p2), .val (.int p3), .val (.int (43 : Int32)), .val (.int (85 : Int32)), .val (.ref w_UPDATE_AFTER), .val (.ref b23), .unset, .unset] [(.int (85 : Int32)), (.int (1 : Int32)), (.ref b23)])) rfl rfl (hb hby at_163)
          have V_b23_163_26 : Arv Z h27 b23 k23 .char (2 : Int32) [(.int (43 : Int32)), (.int (85 : Int32))] (.int (0 : Int32)) := Arv.set Ar_b23_163_26 q_b23_163_26 S_b23_163_26 N_b23_163_26 H_b23_163_26 G_b23_163_26 (fits_nar_char _) W27 1 rfl (Nat.le_of_ble_eq_true rfl)
          have K27 : Keep h0 h27 [] := K25.wr W27 (Or.inr sz_b23)
          have N27 := Fr.snoc X27 N25 g_b23
          obtain ⟨T28, h28, X28, e28, E28, A28, D28, -, st28⟩ := newO X27 hx hZ hown (hw _ (List.mem_of_getElem? (i := 8) rfl)) (hw _ (List.mem_of_getElem? (i := 9) rfl)) (hw _ (List.mem_of_getElem? (i := 10) rfl)) e27 (g := (mkF m 164 #[.val (.int p1), .val (.int p2), .val (.int p3), .val (.int (43 : Int32)), .val (.int (85 : Int32)), .val (.ref w_UPDATE_AFTER), .val (.ref b23), .unset, .unset] [])) rfl (hb hby at_164) (by decide) (by decide)
          obtain ⟨b28, g28⟩ : ∃ z, z = h27.size := ⟨_, rfl⟩
          rw [← g28] at A28 D28 st28
          have sz_b28 : h0.size ≤ b28 := Nat.le_trans K27.1 (Nat.le_of_eq g28.symm)
          have g_b28 : n0 ≤ b28 := Nat.le_trans Z0 sz_b28
          have K28 : Keep h0 h28 [] := K27.ext E28
          have F_coder_b28 : Fld Z h28 b28 "java/lang/String" "coder" "B" (.int (0 : Int32)) := D28 (Or.inr (hw _ (List.mem_of_getElem? (i := 34) rfl))) (ty := .byte) (by decide)
          have F_value_b28 : Fld Z h28 b28 "java/lang/String" "value" "[B" .null := D28 (Or.inr (hw _ (List.mem_of_getElem? (i := 36) rfl))) (ty := (.array .byte)) (by decide)
          obtain ⟨_, _, ⟨T29, L29, k29, n29⟩, -, X29, ⟨Lc29, hQ29, l29, y29, z29⟩, st29⟩ := X28.specialBack hx (y := (⟨"java/lang/String", "<init>", "([C)V"⟩ : MethodName)) rfl hown (mvT hZ (hw _ (List.mem_of_getElem? (i := 11) rfl))) (mvT hZ (hw _ (List.mem_of_getElem? (i := 12) rfl))) (mvT hZ (hw _ (List.mem_of_getElem? (i := 13) rfl))) (by decide) (backOf (W := 1) (rm_ini1_2 l Z a0 hw [] b28 b23 k23 (43 : Int32) (85 : Int32) w_COMPACT_STRINGS (.int (0 : Int32)) .null h28 n0 (Nat.le_trans Z0 K28.1) (V_b23_163_26.ext E28) ((((S_COMPACT_STRINGS.ext E23).wr W25).wr W27).ext E28) A28 F_coder_b28 g_b28 F_value_b28 (by decide : ¬ ((255 : Int32) < (43 : Int32))) (by decide : ¬ ((255 : Int32) < (85 : Int32))) (hCS : ¬ (w_COMPACT_STRINGS = (0 : Int32)))) hZ (hw _ (List.mem_of_getElem? (i := 13) rfl)) (hw _ (List.mem_of_getElem? (i := 10) rfl)) (by decide) (by decide)) (g := (mkF m 170 #[.val (.int p1), .val (.int p2), .val (.int p3), .val (.int (43 : Int32)), .val (.int (85 : Int32)), .val (.ref w_UPDATE_AFTER), .val (.ref b23), .unset, .unset] [(.ref b23), (.ref b28), (.ref b28)])) rfl (by rw [hml]; rfl) (Steps.refl _) (a := b28) (argsL := [(.ref b23)]) (rest := [(.ref b28)]) (lenOf pd8 rfl) rfl (by show 2 * 0 + _ ≤ _; exact Nat.le_of_eq rfl) (hb hby at_170) (fun _ _ => ⟨rfl, e28, (by decide : 2 + 1 ≤ _), (by decide : 6 + 2 ≤ _)⟩)
          dsimp only [Pt.U, Pt.locs, Pt.cells, Pt.slots] at X29 l29 y29 z29 st29 hQ29
          subst l29 y29 z29
          obtain ⟨b1_3_2_29, k1_3_2_29, rfl, N29q, K29, s29_b1_3_2, f29_0, f29_1, f29_2, f29_3⟩ := hQ29
          have N29 := Fr.app N27 N29q
          have sz_b1_3_2_29 : h0.size ≤ b1_3_2_29 := Nat.le_trans K28.1 s29_b1_3_2
          have g_b1_3_2_29 : n0 ≤ b1_3_2_29 := Nat.le_trans Z0 sz_b1_3_2_29
          have KK29 : Keep h0 T29.heap [] := K28.trans K29 (allS (Or.inr sz_b28) all0)
          obtain ⟨_, _, ⟨T30, L30, k30, n30⟩, -, X30, ⟨Lc30, hQ30, l30, y30, z30⟩, st30⟩ := Jvm.LawKit.callS X29 hx (y := (⟨"com/example/tidemark/tidemark/table/RowKind", "fromShortName", "(Ljava/lang/String;)Lcom/example/tidemark/tidemark/table/RowKind;"⟩ : MethodName)) hown (mvT hZ (hw _ (List.mem_of_getElem? (i := 37) rfl))) (mvT hZ (hw _ (List.mem_of_getElem? (i := 38) rfl))) (mvT hZ (hw _ (List.mem_of_getElem? (i := 5) rfl))) (mvT hZ (hw _ (List.mem_of_getElem? (i := 39) rfl))) (by decide) (backOf (W := 0) (rm8 l Z a0 hw [] b28 w__VALUES kV w_INSERT w_UPDATE_BEFORE w_UPDATE_AFTER w_DELETE w_INSERT_shortName w_INSERT_shortName_value k_INSERT w_UPDATE_BEFORE_shortName w_UPDATE_BEFORE_shortName_value k_UPDATE_BEFORE w_UPDATE_AFTER_shortName w_UPDATE_AFTER_shortName_value k_UPDATE_AFTER w_DELETE_shortName w_DELETE_shortName_value k_DELETE b1_3_2_29 k1_3_2_29 (nar .byte ((43 : Int32).toInt8.toInt32)) (nar .byte ((85 : Int32).toInt8.toInt32)) w_COMPACT_STRINGS T29.heap n0 (Nat.le_trans Z0 KK29.1) (own_sta_keep ((((S__VALUES.ext E23).wr W25).wr W27).ext E28) K29 (allS (own_exa_ns A28) all0)) (((((E_w__VALUES.ext E23).wr W25).wr W27).ext E28).keep K29) (((((V_w__VALUES.ext E23).other W25 (Nat.ne_of_lt (Nat.lt_of_lt_of_le E_w__VALUES.lt (Nat.le_of_eq g23.symm)))).other W27 (Nat.ne_of_lt (Nat.lt_of_lt_of_le E_w__VALUES.lt (Nat.le_of_eq g23.symm)))).ext E28).keep K29 (ninS (Nat.ne_of_lt (Nat.lt_of_lt_of_le (((E_w__VALUES.ext E23).wr W25).wr W27).lt (Nat.le_of_eq g28.symm))) nin0)) (((((F_shortName_w_INSERT.ext E23).other W25 (Or.inl (Nat.ne_of_lt (Nat.lt_of_lt_of_le E_w_INSERT.lt (Nat.le_of_eq g23.symm))))).other W27 (Or.inl (Nat.ne_of_lt (Nat.lt_of_lt_of_le E_w_INSERT.lt (Nat.le_of_eq g23.symm))))).ext E28).keep K29 (ninS (Nat.ne_of_lt (Nat.lt_of_lt_of_le (((E_w_INSERT.ext E23).wr W25).wr W27).lt (Nat.le_of_eq g28.symm))) nin0)) (((((E_w_INSERT_shortName.ext E23).wr W25).wr W27).ext E28).keep K29) (((((F_coder_w_INSERT_shortName.ext E23).other W25 (Or.inl (Nat.ne_of_lt (Nat.lt_of_lt_of_le E_w_INSERT_shortName.lt (Nat.le_of_eq g23.symm))))).other W27 (Or.inl (Nat.ne_of_lt (Nat.lt_of_lt_of_le E_w_INSERT_shortName.lt (Nat.le_of_eq g23.symm))))).ext E28).keep K29 (ninS (Nat.ne_of_lt (Nat.lt_of_lt_of_le (((E_w_INSERT_shortName.ext E23).wr W25).wr W27).lt (Nat.le_of_eq g28.symm))) nin0)) (((((F_value_w_INSERT_shortName.ext E23).other W25 (Or.inl (Nat.ne_of_lt (Nat.lt_of_lt_of_le E_w_INSERT_shortName.lt (Nat.le_of_eq g23.symm))))).other W27 (Or.inl (Nat.ne_of_lt (Nat.lt_of_lt_of_le E_w_INSERT_shortName.lt (Nat.le_of_eq g23.symm))))).ext E28).keep K29 (ninS (Nat.ne_of_lt (Nat.lt_of_lt_of_le (((E_w_INSERT_shortName.ext E23).wr W25).wr W27).lt (Nat.le_of_eq g28.symm))) nin0)) (((((V_w_INSERT_shortName_value.ext E23).other W25 (Nat.ne_of_lt (Nat.lt_of_lt_of_le V_w_INSERT_shortName_value.lt (Nat.le_of_eq g23.symm)))).other W27 (Nat.ne_of_lt (Nat.lt_of_lt_of_le V_w_INSERT_shortName_value.lt (Nat.le_of_eq g23.symm)))).ext E28).keep K29 (ninS (Nat.ne_of_lt (Nat.lt_of_lt_of_le (((V_w_INSERT_shortName_value.ext E23).other W25 (Nat.ne_of_lt (Nat.lt_of_lt_of_le V_w_INSERT_shortName_value.lt (Nat.le_of_eq g23.symm)))).other W27 (Nat.ne_of_lt (Nat.lt_of_lt_of_le V_w_INSERT_shortName_value.lt (Nat.le_of_eq g23.symm)))).lt (Nat.le_of_eq g28.symm))) nin0)) (((((F_shortName_w_UPDATE_BEFORE.ext E23).other W25 (Or.inl (Nat.ne_of_lt (Nat.lt_of_lt_of_le E_w_UPDATE_BEFORE.lt (Nat.le_of_eq g23.symm))))).other W27 (Or.inl (Nat.ne_of_lt (Nat.lt_of_lt_of_le E_w_UPDATE_BEFORE.lt (Nat.le_of_eq g23.symm))))).ext E28).keep K29 (ninS (Nat.ne_of_lt (Nat.lt_of_lt_of_le (((E_w_UPDATE_BEFORE.ext E23).wr W25).wr W27).lt (Nat.le_of_eq g28.symm))) nin0)) (((((E_w_UPDATE_BEFORE_shortName.ext E23).wr W25).wr W27).ext E28).keep K29) (((((F_coder_w_UPDATE_BEFORE_shortName.ext E23).other W25 (Or.inl (Nat.ne_of_lt (Nat.lt_of_lt_of_le E_w_UPDATE_BEFORE_shortName.lt (Nat.le_of_eq g23.symm))))).other W27 (Or.inl (Nat.ne_of_lt (Nat.lt_of_lt_of_le E_w_UPDATE_BEFORE_shortName.lt (Nat.le_of_eq g23.symm))))).ext E28).keep K29 (ninS (Nat.ne_of_lt (Nat.lt_of_lt_of_le (((E_w_UPDATE_BEFORE_shortName.ext E23).wr W25).wr W27).lt (Nat.le_of_eq g28.symm))) nin0)) (((((F_value_w_UPDATE_BEFORE_shortName.ext E23).other W25 (Or.inl (Nat.ne_of_lt (Nat.lt_of_lt_of_le E_w_UPDATE_BEFORE_shortName.lt (Nat.le_of_eq g23.symm))))).other W27 (Or.inl (Nat.ne_of_lt (Nat.lt_of_lt_of_le E_w_UPDATE_BEFORE_shortName.lt (Nat.le_of_eq g23.symm))))).ext E28).keep K29 (ninS (Nat.ne_of_lt (Nat.lt_of_lt_of_le (((E_w_UPDATE_BEFORE_shortName.ext E23).wr W25).wr W27).lt (Nat.le_of_eq g28.symm))) nin0)) (((((V_w_UPDATE_BEFORE_shortName_value.ext E23).other W25 (Nat.ne_of_lt (Nat.lt_of_lt_of_le V_w_UPDATE_BEFORE_shortName_value.lt (Nat.le_of_eq g23.symm)))).other W27 (Nat.ne_of_lt (Nat.lt_of_lt_of_le V_w_UPDATE_BEFORE_shortName_value.lt (Nat.le_of_eq g23.symm)))).ext E28).keep K29 (ninS (Nat.ne_of_lt (Nat.lt_of_lt_of_le (((V_w_UPDATE_BEFORE_shortName_value.ext E23).other W25 (Nat.ne_of_lt (Nat.lt_of_lt_of_le V_w_UPDATE_BEFORE_shortName_value.lt (Nat.le_of_eq g23.symm)))).other W27 (Nat.ne_of_lt (Nat.lt_of_lt_of_le V_w_UPDATE_BEFORE_shortName_value.lt (Nat.le_of_eq g23.symm)))).lt (Nat.le_of_eq g28.symm))) nin0)) (((((F_shortName_w_UPDATE_AFTER.ext E23).other W25 (Or.inl (Nat.ne_of_lt (Nat.lt_of_lt_of_le E_w_UPDATE_AFTER.lt (Nat.le_of_eq g23.symm))))).other W27 (Or.inl (Nat.ne_of_lt (Nat.lt_of_lt_of_le E_w_UPDATE_AFTER.lt (Nat.le_of_eq g23.symm))))).ext E28).keep K29 (ninS (Nat.ne_of_lt (Nat.lt_of_lt_of_le (((E_w_UPDATE_AFTER.ext E23).wr W25).wr W27).lt (Nat.le_of_eq g28.symm))) nin0)) (((((E_w_UPDATE_AFTER_shortName.ext E23).wr W25).wr W27).ext E28).keep K29) (((((F_coder_w_UPDATE_AFTER_shortName.ext E23).other W25 (Or.inl (Nat.ne_of_lt (Nat.lt_of_lt_of_le E_w_UPDATE_AFTER_shortName.lt (Nat.le_of_eq g23.symm))))).other W27 (Or.inl (Nat.ne_of_lt (Nat.lt_of_lt_of_le E_w_UPDATE_AFTER_shortName.lt (Nat.le_of_eq g23.symm))))).ext E28).keep K29 (ninS (Nat.ne_of_lt (Nat.lt_of_lt_of_le (((E_w_UPDATE_AFTER_shortName.ext E23).wr W25).wr W27).lt (Nat.le_of_eq g28.symm))) nin0)) (((((F_value_w_UPDATE_AFTER_shortName.ext E23).other W25 (Or.inl (Nat.ne_of_lt (Nat.lt_of_lt_of_le E_w_UPDATE_AFTER_shortName.lt (Nat.le_of_eq g23.symm))))).other W27 (Or.inl (Nat.ne_of_lt (Nat.lt_of_lt_of_le E_w_UPDATE_AFTER_shortName.lt (Nat.le_of_eq g23.symm))))).ext E28).keep K29 (ninS (Nat.ne_of_lt (Nat.lt_of_lt_of_le (((E_w_UPDATE_AFTER_shortName.ext E23).wr W25).wr W27).lt (Nat.le_of_eq g28.symm))) nin0)) (((((V_w_UPDATE_AFTER_shortName_value.ext E23).other W25 (Nat.ne_of_lt (Nat.lt_of_lt_of_le V_w_UPDATE_AFTER_shortName_value.lt (Nat.le_of_eq g23.symm)))).other W27 (Nat.ne_of_lt (Nat.lt_of_lt_of_le V_w_UPDATE_AFTER_shortName_value.lt (Nat.le_of_eq g23.symm)))).ext E28).keep K29 (ninS (Nat.ne_of_lt (Nat.lt_of_lt_of_le (((V_w_UPDATE_AFTER_shortName_value.ext E23).other W25 (Nat.ne_of_lt (Nat.lt_of_lt_of_le V_w_UPDATE_AFTER_shortName_value.lt (Nat.le_of_eq g23.symm)))).other W27 (Nat.ne_of_lt (Nat.lt_of_lt_of_le V_w_UPDATE_AFTER_shortName_value.lt (Nat.le_of_eq g23.symm)))).lt (Nat.le_of_eq g28.symm))) nin0)) (((((F_shortName_w_DELETE.ext E23).other W25 (Or.inl (Nat.ne_of_lt (Nat.lt_of_lt_of_le E_w_DELETE.lt (Nat.le_of_eq g23.symm))))).other W27 (Or.inl (Nat.ne_of_lt (Nat.lt_of_lt_of_le E_w_DELETE.lt (Nat.le_of_eq g23.symm))))).ext E28).keep K29 (ninS (Nat.ne_of_lt (Nat.lt_of_lt_of_le (((E_w_DELETE.ext E23).wr W25).wr W27).lt (Nat.le_of_eq g28.symm))) nin0)) (((((E_w_DELETE_shortName.ext E23).wr W25).wr W27).ext E28).keep K29) (((((F_coder_w_DELETE_shortName.ext E23).other W25 (Or.inl (Nat.ne_of_lt (Nat.lt_of_lt_of_le E_w_DELETE_shortName.lt (Nat.le_of_eq g23.symm))))).other W27 (Or.inl (Nat.ne_of_lt (Nat.lt_of_lt_of_le E_w_DELETE_shortName.lt (Nat.le_of_eq g23.symm))))).ext E28).keep K29 (ninS (Nat.ne_of_lt (Nat.lt_of_lt_of_le (((E_w_DELETE_shortName.ext E23).wr W25).wr W27).lt (Nat.le_of_eq g28.symm))) nin0)) (((((F_value_w_DELETE_shortName.ext E23).other W25 (Or.inl (Nat.ne_of_lt (Nat.lt_of_lt_of_le E_w_DELETE_shortName.lt (Nat.le_of_eq g23.symm))))).other W27 (Or.inl (Nat.ne_of_lt (Nat.lt_of_lt_of_le E_w_DELETE_shortName.lt (Nat.le_of_eq g23.symm))))).ext E28).keep K29 (ninS (Nat.ne_of_lt (Nat.lt_of_lt_of_le (((E_w_DELETE_shortName.ext E23).wr W25).wr W27).lt (Nat.le_of_eq g28.symm))) nin0)) (((((V_w_DELETE_shortName_value.ext E23).other W25 (Nat.ne_of_lt (Nat.lt_of_lt_of_le V_w_DELETE_shortName_value.lt (Nat.le_of_eq g23.symm)))).other W27 (Nat.ne_of_lt (Nat.lt_of_lt_of_le V_w_DELETE_shortName_value.lt (Nat.le_of_eq g23.symm)))).ext E28).keep K29 (ninS (Nat.ne_of_lt (Nat.lt_of_lt_of_le (((V_w_DELETE_shortName_value.ext E23).other W25 (Nat.ne_of_lt (Nat.lt_of_lt_of_le V_w_DELETE_shortName_value.lt (Nat.le_of_eq g23.symm)))).other W27 (Nat.ne_of_lt (Nat.lt_of_lt_of_le V_w_DELETE_shortName_value.lt (Nat.le_of_eq g23.symm)))).lt (Nat.le_of_eq g28.symm))) nin0)) (A28.keep K29) f29_1 f29_2 f29_3 (own_sta_keep ((((S_COMPACT_STRINGS.ext E23).wr W25).wr W27).ext E28) K29 (allS (own_exa_ns A28) all0)) (hCS : ¬ (w_COMPACT_STRINGS = (0 : Int32))) (by decide : ((nar .byte ((43 : Int32).toInt8.toInt32)) = (43 : Int32) ∧ (nar .byte ((85 : Int32).toInt8.toInt32)) = (73 : Int32)) ∨ ((nar .byte ((43 : Int32).toInt8.toInt32)) = (45 : Int32) ∧ (nar .byte ((85 : Int32).toInt8.toInt32)) = (85 : Int32)) ∨ ((nar .byte ((43 : Int32).toInt8.toInt32)) = (43 : Int32) ∧ (nar .byte ((85 : Int32).toInt8.toInt32)) = (85 : Int32)) ∨ ((nar .byte ((43 : Int32).toInt8.toInt32)) = (45 : Int32) ∧ (nar .byte ((85 : Int32).toInt8.toInt32)) = (68 : Int32))) ((Nat.ne_of_lt (Nat.lt_of_lt_of_le (((E_w_INSERT_shortName.ext E23).wr W25).wr W27).lt (Nat.le_of_eq g28.symm))) : w_INSERT_shortName ≠ b28) ((Nat.ne_of_lt (Nat.lt_of_lt_of_le (((E_w_UPDATE_BEFORE_shortName.ext E23).wr W25).wr W27).lt (Nat.le_of_eq g28.symm))) : w_UPDATE_BEFORE_shortName ≠ b28) ((Nat.ne_of_lt (Nat.lt_of_lt_of_le (((E_w_UPDATE_AFTER_shortName.ext E23).wr W25).wr W27).lt (Nat.le_of_eq g28.symm))) : w_UPDATE_AFTER_shortName ≠ b28) ((Nat.ne_of_lt (Nat.lt_of_lt_of_le (((E_w_DELETE_shortName.ext E23).wr W25).wr W27).lt (Nat.le_of_eq g28.symm))) : w_DELETE_shortName ≠ b28)) hZ (hw _ (List.mem_of_getElem? (i := 39) rfl)) (hw _ (List.mem_of_getElem? (i := 5) rfl)) (by decide) (by decide)) (g := (mkF m 177 #[.val (.int p1), .val (.int p2), .val (.int p3), .val (.int (43 : Int32)), .val (.int (85 : Int32)), .val (.ref w_UPDATE_AFTER), .val (.ref b23), .val (.ref b28), .unset] [(.ref b28)])) rfl (by rw [hml]; rfl) (argsL := [(.ref b28)]) (rest := []) (lenOf pd9 rfl) rfl (by show 2 * 0 + _ ≤ _; exact Nat.le_of_eq rfl) (hb hby at_177) (fun _ _ => ⟨rfl, rfl, (by decide : 3 + 1 ≤ _), (by decide : 8 + 4 ≤ _)⟩)
          dsimp only [Pt.U, Pt.locs, Pt.cells, Pt.slots] at X30 l30 y30 z30 st30 hQ30
          subst l30 y30 z30
          obtain ⟨rfl, N30q, K30⟩ := hQ30
          have N30 := Fr.app N29 N30q
          have KK30 : Keep h0 T30.heap [] := KK29.trans K30 all0
          have ev30 : (res8 w_INSERT w_UPDATE_BEFORE w_UPDATE_AFTER w_DELETE (nar .byte ((43 : Int32).toInt8.toInt32)) (nar .byte ((85 : Int32).toInt8.toInt32))) = w_UPDATE_AFTER := by first | rfl | decide
          rw [ev30] at st30
          obtain ⟨cq31, kq31, q31a, q31b, q31c⟩ := isOf hZ rfl ((((((E_w_UPDATE_AFTER.ext E23).wr W25).wr W27).ext E28).keep K29).keep K30)
          obtain ⟨_, _, ⟨T31, L31, k31, n31⟩, -, X31, ⟨Lc31, hQ31, l31, y31, z31⟩, st31⟩ := X30.virtualBack hx (y := (⟨"com/example/tidemark/tidemark/table/RowKind", "shortName", "()Ljava/lang/String;"⟩ : MethodName)) (z := (⟨"com/example/tidemark/tidemark/table/RowKind", "shortName", "()Ljava/lang/String;"⟩ : MethodName)) hown (mvT hZ (hw _ (List.mem_of_getElem? (i := 70) rfl))) (mvT hZ (hw _ (List.mem_of_getElem? (i := 71) rfl))) (notFace_of_selects (args := #[]) (mvT hZ (hw _ (List.mem_of_getElem? (i := 73) rfl)))) (mvT hZ (hw _ (List.mem_of_getElem? (i := 73) rfl))) (mvT hZ (hw _ (List.mem_of_getElem? (i := 72) rfl))) (by decide) (backOf (W := 0) (rm12 l Z a0 hw [] w_UPDATE_AFTER w_UPDATE_AFTER_shortName T30.heap n0 (Nat.le_trans Z0 KK30.1) ((((((F_shortName_w_UPDATE_AFTER.ext E23).other W25 (Or.inl (Nat.ne_of_lt (Nat.lt_of_lt_of_le E_w_UPDATE_AFTER.lt (Nat.le_of_eq g23.symm))))).other W27 (Or.inl (Nat.ne_of_lt (Nat.lt_of_lt_of_le E_w_UPDATE_AFTER.lt (Nat.le_of_eq g23.symm))))).ext E28).keep K29 (ninS (Nat.ne_of_lt (Nat.lt_of_lt_of_le (((E_w_UPDATE_AFTER.ext E23).wr W25).wr W27).lt (Nat.le_of_eq g28.symm))) nin0)).keep K30 nin0) ) hZ (hw _ (List.mem_of_getElem? (i := 74) rfl)) (hw _ (List.mem_of_getElem? (i := 5) rfl)) (by decide) (by decide)) q31a q31c (g := (mkF m 191 #[.val (.int p1), .val (.int p2), .val (.int p3), .val (.int (43 : Int32)), .val (.int (85 : Int32)), .val (.ref w_UPDATE_AFTER), .val (.ref b23), .val (.ref b28), .val (.ref w_UPDATE_AFTER)] [(.ref w_UPDATE_AFTER)])) rfl (by rw [hml]; rfl) (Steps.refl _) (argsL := []) (rest := []) (lenOf pd10 rfl) rfl (by show 2 * 0 + _ ≤ _; exact Nat.le_of_eq rfl) (hb hby at_191) (fun _ _ => ⟨rfl, rfl, (by decide : 4 + 0 ≤ _), (by decide : 12 + 0 ≤ _)⟩)
          dsimp only [Pt.U, Pt.locs, Pt.cells, Pt.slots] at X31 l31 y31 z31 st31 hQ31
          subst l31 y31 z31
          obtain ⟨rfl, rfl, e31⟩ := hQ31
          have N31 := Fr.app N30 (Fr.nil n0)
          obtain ⟨cq32, kq32, q32a, q32b, q32c⟩ := isOf hZ e31 ((((((E_w_UPDATE_AFTER_shortName.ext E23).wr W25).wr W27).ext E28).keep K29).keep K30)
          obtain ⟨_, _, ⟨T32, L32, k32, n32⟩, -, X32, ⟨Lc32, hQ32, l32, y32, z32⟩, st32⟩ := X31.virtualBack hx (y := (⟨"java/lang/String", "equals", "(Ljava/lang/Object;)Z"⟩ : MethodName)) (z := (⟨"java/lang/String", "equals", "(Ljava/lang/Object;)Z"⟩ : MethodName)) hown (mvT hZ (hw _ (List.mem_of_getElem? (i := 75) rfl))) (mvT hZ (hw _ (List.mem_of_getElem? (i := 61) rfl))) (notFace_of_selects (args := #[]) (mvT hZ (hw _ (List.mem_of_getElem? (i := 63) rfl)))) (mvT hZ (hw _ (List.mem_of_getElem? (i := 63) rfl))) (mvT hZ (hw _ (List.mem_of_getElem? (i := 62) rfl))) (by decide) (backOf (W := 0) (rm_eq_2_2 l Z a0 hw [] w_UPDATE_AFTER_shortName b28 w_UPDATE_AFTER_shortName_value k_UPDATE_AFTER (43 : Int32) (85 : Int32) b1_3_2_29 k1_3_2_29 (nar .byte ((43 : Int32).toInt8.toInt32)) (nar .byte ((85 : Int32).toInt8.toInt32)) w_COMPACT_STRINGS T30.heap n0 (Nat.le_trans Z0 KK30.1) ((((((E_w_UPDATE_AFTER_shortName.ext E23).wr W25).wr W27).ext E28).keep K29).keep K30) ((((((F_coder_w_UPDATE_AFTER_shortName.ext E23).other W25 (Or.inl (Nat.ne_of_lt (Nat.lt_of_lt_of_le E_w_UPDATE_AFTER_shortName.lt (Nat.le_of_eq g23.symm))))).other W27 (Or.inl (Nat.ne_of_lt (Nat.lt_of_lt_of_le E_w_UPDATE_AFTER_shortName.lt (Nat.le_of_eq g23.symm))))).ext E28).keep K29 (ninS (Nat.ne_of_lt (Nat.lt_of_lt_of_le (((E_w_UPDATE_AFTER_shortName.ext E23).wr W25).wr W27).lt (Nat.le_of_eq g28.symm))) nin0)).keep K30 nin0) ((((((F_value_w_UPDATE_AFTER_shortName.ext E23).other W25 (Or.inl (Nat.ne_of_lt (Nat.lt_of_lt_of_le E_w_UPDATE_AFTER_shortName.lt (Nat.le_of_eq g23.symm))))).other W27 (Or.inl (Nat.ne_of_lt (Nat.lt_of_lt_of_le E_w_UPDATE_AFTER_shortName.lt (Nat.le_of_eq g23.symm))))).ext E28).keep K29 (ninS (Nat.ne_of_lt (Nat.lt_of_lt_of_le (((E_w_UPDATE_AFTER_shortName.ext E23).wr W25).wr W27).lt (Nat.le_of_eq g28.symm))) nin0)).keep K30 nin0) ((((((V_w_UPDATE_AFTER_shortName_value.ext E23).other W25 (Nat.ne_of_lt (Nat.lt_of_lt_of_le V_w_UPDATE_AFTER_shortName_value.lt (Nat.le_of_eq g23.symm)))).other W27 (Nat.ne_of_lt (Nat.lt_of_lt_of_le V_w_UPDATE_AFTER_shortName_value.lt (Nat.le_of_eq g23.symm)))).ext E28).keep K29 (ninS (Nat.ne_of_lt (Nat.lt_of_lt_of_le (((V_w_UPDATE_AFTER_shortName_value.ext E23).other W25 (Nat.ne_of_lt (Nat.lt_of_lt_of_le V_w_UPDATE_AFTER_shortName_value.lt (Nat.le_of_eq g23.symm)))).other W27 (Nat.ne_of_lt (Nat.lt_of_lt_of_le V_w_UPDATE_AFTER_shortName_value.lt (Nat.le_of_eq g23.symm)))).lt (Nat.le_of_eq g28.symm))) nin0)).keep K30 nin0) ((A28.keep K29).keep K30) (f29_1.keep K30 nin0) (f29_2.keep K30 nin0) (f29_3.keep K30 nin0) (own_sta_keep (own_sta_keep ((((S_COMPACT_STRINGS.ext E23).wr W25).wr W27).ext E28) K29 (allS (own_exa_ns A28) all0)) K30 all0) ((Nat.ne_of_lt (Nat.lt_of_lt_of_le (((E_w_UPDATE_AFTER_shortName.ext E23).wr W25).wr W27).lt (Nat.le_of_eq g28.symm))) : w_UPDATE_AFTER_shortName ≠ b28) (hCS : ¬ (w_COMPACT_STRINGS = (0 : Int32)))) hZ (hw _ (List.mem_of_getElem? (i := 64) rfl)) (hw _ (List.mem_of_getElem? (i := 10) rfl)) (by decide) (by decide)) q32a q32c (g := (mkF m 196 #[.val (.int p1), .val (.int p2), .val (.int p3), .val (.int (43 : Int32)), .val (.int (85 : Int32)), .val (.ref w_UPDATE_AFTER), .val (.ref b23), .val (.ref b28), .val (.ref w_UPDATE_AFTER)] [(.ref b28), (.ref w_UPDATE_AFTER_shortName)])) rfl (by rw [hml]; rfl) (Steps.refl _) (argsL := [(.ref b28)]) (rest := []) (lenOf pd6 rfl) rfl (by show 2 * 0 + _ ≤ _; exact Nat.le_of_eq rfl) (hb hby at_196) (fun _ _ => ⟨rfl, e31, (by decide : 4 + 0 ≤ _), (by decide : 12 + 0 ≤ _)⟩)
          dsimp only [Pt.U, Pt.locs, Pt.cells, Pt.slots] at X32 l32 y32 z32 st32 hQ32
          subst l32 y32 z32
          obtain ⟨rfl, rfl, e32⟩ := hQ32
          have N32 := Fr.app N31 (Fr.nil n0)
          have ev32 : (res_eq_2_2 (43 : Int32) (85 : Int32) (nar .byte ((43 : Int32).toInt8.toInt32)) (nar .byte ((85 : Int32).toInt8.toInt32))) = (1 : Int32) := by first | rfl | decide
          rw [ev32] at st32
          obtain ⟨fs, hr, hrun, hended, hW, hsame⟩ := X32.leave (v := some (.int (1 : Int32))) (fun h => by rw [Bd.returns] at h; cases h)
          refine ⟨_, _, pre20 _ ?_, hrun, hended, _, _, rfl, ?_, ⟨_, rfl⟩, hW, hsame.mono (by decide) (by decide)⟩
          · show Steps p.tables e below (T4.setTop (mkF m 97 #[.val (.int p1), .val (.int p2), .val (.int p3), .val (.int (43 : Int32)), .val (.int (85 : Int32)), .val .null, .unset, .unset, .unset] [(.int (85 : Int32)), (.int (85 : Int32))])) _
            refine XS.icmpNo X4.here hx rfl (hb hby at_97) rfl (teq (rfl : (85 : Int32) = (85 : Int32))).2 ?_
            show Steps p.tables e below (T4.setTop (mkF m 100 #[.val (.int p1), .val (.int p2), .val (.int p3), .val (.int (43 : Int32)), .val (.int (85 : Int32)), .val .null, .unset, .unset, .unset] [])) _
            refine st22 _ ?_
            show Steps p.tables e below (T22.setTop (mkF m 103 #[.val (.int p1), .val (.int p2), .val (.int p3), .val (.int (43 : Int32)), .val (.int (85 : Int32)), .val .null, .unset, .unset, .unset] [(.ref w_UPDATE_AFTER)])) _
            refine XS.astore X22.here hx rfl (hb hby at_103) rfl rfl (l' := #[.val (.int p1), .val (.int p2), .val (.int p3), .val (.int (43 : Int32)), .val (.int (85 : Int32)), .val (.ref w_UPDATE_AFTER), .unset, .unset, .unset]) rfl ?_
            show Steps p.tables e below (T22.setTop (mkF m 105 #[.val (.int p1), .val (.int p2), .val (.int p3), .val (.int (43 : Int32)), .val (.int (85 : Int32)), .val (.ref w_UPDATE_AFTER), .unset, .unset, .unset] [])) _
            refine XS.goto X22.here hx rfl (pc0 := 105) (pc' := 141) rfl (hb hby at_105) (by decide) (by decide) ?_
            show Steps p.tables e below (T22.setTop (mkF m 141 #[.val (.int p1), .val (.int p2), .val (.int p3), .val (.int (43 : Int32)), .val (.int (85 : Int32)), .val (.ref w_UPDATE_AFTER), .unset, .unset, .unset] [])) _
            refine XS.aload X22.here hx rfl (hb hby at_141) rfl rfl ?_
            show Steps p.tables e below (T22.setTop (mkF m 143 #[.val (.int p1), .val (.int p2), .val (.int p3), .val (.int (43 : Int32)), .val (.int (85 : Int32)), .val (.ref w_UPDATE_AFTER), .unset, .unset, .unset] [(.ref w_UPDATE_AFTER)])) _
            refine XS.ifnonnullYes X22.here hx rfl (pc0 := 143) (pc' := 148) rfl (hb hby at_143) rfl (by decide) (by decide) ?_
            show Steps p.tables e below (T22.setTop (mkF m 148 #[.val (.int p1), .val (.int p2), .val (.int p3), .val (.int (43 : Int32)), .val (.int (85 : Int32)), .val (.ref w_UPDATE_AFTER), .unset, .unset, .unset] [])) _
            refine XS.iconst X22.here hx rfl (hb hby at_148) ?_
            show Steps p.tables e below (T22.setTop (mkF m 149 #[.val (.int p1), .val (.int p2), .val (.int p3), .val (.int (43 : Int32)), .val (.int (85 : Int32)), .val (.ref w_UPDATE_AFTER), .unset, .unset, .unset] [(.int (2 : Int32))])) _
            refine st23 _ ?_
            show Steps p.tables e below (T23.setTop (mkF m 151 #[.val (.int p1), .val (.int p2), .val (.int p3), .val (.int (43 : Int32)), .val (.int (85 : Int32)), .val (.ref w_UPDATE_AFTER), .unset, .unset, .unset] [(.ref b23)])) _
            refine XS.astore X23.here hx rfl (hb hby at_151) rfl rfl (l' := #[.val (.int p1), .val (.int p2), .val (.int p3), .val (.int (43 : Int32)), .val (.int (85 : Int32)), .val (.ref w_UPDATE_AFTER), .val (.ref b23), .unset, .unset]) rfl ?_
            show Steps p.tables e below (T23.setTop (mkF m 153 #[.val (.int p1), .val (.int p2), .val (.int p3), .val (.int (43 : Int32)), .val (.int (85 : Int32)), .val (.ref w_UPDATE_AFTER), .val (.ref b23), .unset, .unset] [])) _
            refine XS.aload X23.here hx rfl (hb hby at_153) rfl rfl ?_
            show Steps p.tables e below (T23.setTop (mkF m 155 #[.val (.int p1), .val (.int p2), .val (.int p3), .val (.int (43 : Int32)), .val (.int (85 : Int32)), .val (.ref w_UPDATE_AFTER), .val (.ref b23), .unset, .unset] [(.ref b23)])) _
            refine XS.iconst X23.here hx rfl (hb hby at_155) ?_
            show Steps p.tables e below (T23.setTop (mkF m 156 #[.val (.int p1), .val (.int p2), .val (.int p3), .val (.int (43 : Int32)), .val (.int (85 : Int32)), .val (.ref w_UPDATE_AFTER), .val (.ref b23), .unset, .unset] [(.int (0 : Int32)), (.ref b23)])) _
            refine XS.iloadN X23.here hx rfl (hb hby at_156) rfl ?_
            show Steps p.tables e below (T23.setTop (mkF m 157 #[.val (.int p1), .val (.int p2), .val (.int p3), .val (.int (43 : Int32)), .val (.int (85 : Int32)), .val (.ref w_UPDATE_AFTER), .val (.ref b23), .unset, .unset] [(.int (43 : Int32)), (.int (0 : Int32)), (.ref b23)])) _
            refine st25 _ ?_
            show Steps p.tables e below (T25.setTop (mkF m 158 #[.val (.int p1), .val (.int p2), .val (.int p3), .val (.int (43 : Int32)), .val (.int (85 : Int32)), .val (.ref w_UPDATE_AFTER), .val (.ref b23), .unset, .unset] [])) _
            refine XS.aload X25.here hx rfl (hb hby at_158) rfl rfl ?_
            show Steps p.tables e below (T25.setTop (mkF m 160 #[.val (.int p1), .val (.int p2), .val (.int p3), .val (.int (43 : Int32)), .val (.int (85 : Int32)), .val (.ref w_UPDATE_AFTER), .val (.ref b23), .unset, .unset] [(.ref b23)])) _
            refine XS.iconst X25.here hx rfl (hb hby at_160) ?_
            show Steps p.tables e below (T25.setTop (mkF m 161 #[.val (.int p1), .val (.int p2), .val (.int p3), .val (.int (43 : Int32)), .val (.int (85 : Int32)), .val (.ref w_UPDATE_AFTER), .val (.ref b23), .unset, .unset] [(.int (1 : Int32)), (.ref b23)])) _
            refine XS.iload X25.here hx rfl (hb hby at_161) rfl ?_
            show Steps p.tables e below (T25.setTop (mkF m 163 #[.val (.int p1), .val (.int p2), .val (.int p3), .val (.int (43 : Int32)), .val (.int (85 : Int32)), .val (.ref w_UPDATE_AFTER), .val (.ref b23), .unset, .unset] [(.int (85 : Int32)), (.int (1 : Int32)), (.ref b23)])) _
            refine st27 _ ?_
            show Steps p.tables e below (T27.setTop (mkF m 164 #[.val (.int p1), .val (.int p2), .val (.int p3), .val (.int (43 : Int32)), .val (.int (85 : Int32)), .val (.ref w_UPDATE_AFTER), .val (.ref b23), .unset, .unset] [])) _
            refine st28 _ ?_
            show Steps p.tables e below (T28.setTop (mkF m 167 #[.val (.int p1), .val (.int p2), .val (.int p3), .val (.int (43 : Int32)), .val (.int (85 : Int32)), .val (.ref w_UPDATE_AFTER), .val (.ref b23), .unset, .unset] [(.ref b28)])) _
            refine XS.dup X28.here hx rfl (hb hby at_167) rfl rfl ?_
            show Steps p.tables e below (T28.setTop (mkF m 168 #[.val (.int p1), .val (.int p2), .val (.int p3), .val (.int (43 : Int32)), .val (.int (85 : Int32)), .val (.ref w_UPDATE_AFTER), .val (.ref b23), .unset, .unset] [(.ref b28), (.ref b28)])) _
            refine XS.aload X28.here hx rfl (hb hby at_168) rfl rfl ?_
            show Steps p.tables e below (T28.setTop (mkF m 170 #[.val (.int p1), .val (.int p2), .val (.int p3), .val (.int (43 : Int32)), .val (.int (85 : Int32)), .val (.ref w_UPDATE_AFTER), .val (.ref b23), .unset, .unset] [(.ref b23), (.ref b28), (.ref b28)])) _
            refine st29.trans ?_
            show Steps p.tables e below (T29.setTop (mkF m 173 #[.val (.int p1), .val (.int p2), .val (.int p3), .val (.int (43 : Int32)), .val (.int (85 : Int32)), .val (.ref w_UPDATE_AFTER), .val (.ref b23), .unset, .unset] [(.ref b28)])) _
            refine XS.astore X29.here hx rfl (hb hby at_173) rfl rfl (l' := #[.val (.int p1), .val (.int p2), .val (.int p3), .val (.int (43 : Int32)), .val (.int (85 : Int32)), .val (.ref w_UPDATE_AFTER), .val (.ref b23), .val (.ref b28), .unset]) rfl ?_
            show Steps p.tables e below (T29.setTop (mkF m 175 #[.val (.int p1), .val (.int p2), .val (.int p3), .val (.int (43 : Int32)), .val (.int (85 : Int32)), .val (.ref w_UPDATE_AFTER), .val (.ref b23), .val (.ref b28), .unset] [])) _
            refine XS.aload X29.here hx rfl (hb hby at_175) rfl rfl ?_
            show Steps p.tables e below (T29.setTop (mkF m 177 #[.val (.int p1), .val (.int p2), .val (.int p3), .val (.int (43 : Int32)), .val (.int (85 : Int32)), .val (.ref w_UPDATE_AFTER), .val (.ref b23), .val (.ref b28), .unset] [(.ref b28)])) _
            refine st30 _ ?_
            show Steps p.tables e below (T30.setTop (mkF m 180 #[.val (.int p1), .val (.int p2), .val (.int p3), .val (.int (43 : Int32)), .val (.int (85 : Int32)), .val (.ref w_UPDATE_AFTER), .val (.ref b23), .val (.ref b28), .unset] [(.ref w_UPDATE_AFTER)])) _
            refine XS.astore X30.here hx rfl (hb hby at_180) rfl rfl (l' := #[.val (.int p1), .val (.int p2), .val (.int p3), .val (.int (43 : Int32)), .val (.int (85 : Int32)), .val (.ref w_UPDATE_AFTER), .val (.ref b23), .val (.ref b28), .val (.ref w_UPDATE_AFTER)]) rfl ?_
            show Steps p.tables e below (T30.setTop (mkF m 182 #[.val (.int p1), .val (.int p2), .val (.int p3), .val (.int (43 : Int32)), .val (.int (85 : Int32)), .val (.ref w_UPDATE_AFTER), .val (.ref b23), .val (.ref b28), .val (.ref w_UPDATE_AFTER)] [])) _
            refine XS.aload X30.here hx rfl (hb hby at_182) rfl rfl ?_
            show Steps p.tables e below (T30.setTop (mkF m 184 #[.val (.int p1), .val (.int p2), .val (.int p3), .val (.int (43 : Int32)), .val (.int (85 : Int32)), .val (.ref w_UPDATE_AFTER), .val (.ref b23), .val (.ref b28), .val (.ref w_UPDATE_AFTER)] [(.ref w_UPDATE_AFTER)])) _
            refine XS.aload X30.here hx rfl (hb hby at_184) rfl rfl ?_
            show Steps p.tables e below (T30.setTop (mkF m 186 #[.val (.int p1), .val (.int p2), .val (.int p3), .val (.int (43 : Int32)), .val (.int (85 : Int32)), .val (.ref w_UPDATE_AFTER), .val (.ref b23), .val (.ref b28), .val (.ref w_UPDATE_AFTER)] [(.ref w_UPDATE_AFTER), (.ref w_UPDATE_AFTER)])) _
            refine Jvm.RoadKit.acmp (g := (mkF m 186 #[.val (.int p1), .val (.int p2), .val (.int p3), .val (.int (43 : Int32)), .val (.int (85 : Int32)), .val (.ref w_UPDATE_AFTER), .val (.ref b23), .val (.ref b28), .val (.ref w_UPDATE_AFTER)] [(.ref w_UPDATE_AFTER), (.ref w_UPDATE_AFTER)])) X30 hx rfl rfl rfl (pc0 := 186) (pc' := 189) (same := true) rfl (hb hby at_186) rfl (decide_eq_true (congrArg Value.ref rfl)) (by decide) (by decide) ?_
            show Steps p.tables e below (T30.setTop (mkF m 189 #[.val (.int p1), .val (.int p2), .val (.int p3), .val (.int (43 : Int32)), .val (.int (85 : Int32)), .val (.ref w_UPDATE_AFTER), .val (.ref b23), .val (.ref b28), .val (.ref w_UPDATE_AFTER)] [])) _
            refine XS.aload X30.here hx rfl (hb hby at_189) rfl rfl ?_
            show Steps p.tables e below (T30.setTop (mkF m 191 #[.val (.int p1), .val (.int p2), .val (.int p3), .val (.int (43 : Int32)), .val (.int (85 : Int32)), .val (.ref w_UPDATE_AFTER), .val (.ref b23), .val (.ref b28), .val (.ref w_UPDATE_AFTER)] [(.ref w_UPDATE_AFTER)])) _
            refine st31.trans ?_
            show Steps p.tables e below (T31.setTop (mkF m 194 #[.val (.int p1), .val (.int p2), .val (.int p3), .val (.int (43 : Int32)), .val (.int (85 : Int32)), .val (.ref w_UPDATE_AFTER), .val (.ref b23), .val (.ref b28), .val (.ref w_UPDATE_AFTER)] [(.ref w_UPDATE_AFTER_shortName)])) _
            refine XS.aload X31.here hx rfl (hb hby at_194) rfl rfl ?_
            show Steps p.tables e below (T31.setTop (mkF m 196 #[.val (.int p1), .val (.int p2), .val (.int p3), .val (.int (43 : Int32)), .val (.int (85 : Int32)), .val (.ref w_UPDATE_AFTER), .val (.ref b23), .val (.ref b28), .val (.ref w_UPDATE_AFTER)] [(.ref b28), (.ref w_UPDATE_AFTER_shortName)])) _
            refine st32.trans ?_
            show Steps p.tables e below (T32.setTop (mkF m 199 #[.val (.int p1), .val (.int p2), .val (.int p3), .val (.int (43 : Int32)), .val (.int (85 : Int32)), .val (.ref w_UPDATE_AFTER), .val (.ref b23), .val (.ref b28), .val (.ref w_UPDATE_AFTER)] [(.int (1 : Int32))])) _
            refine XS.ifNo X32.here hx rfl (hb hby at_199) rfl ((if0 _ _).trans (feq (by decide : ¬ ((1 : Int32) = (0 : Int32)))).1) ?_
            show Steps p.tables e below (T32.setTop (mkF m 202 #[.val (.int p1), .val (.int p2), .val (.int p3), .val (.int (43 : Int32)), .val (.int (85 : Int32)), .val (.ref w_UPDATE_AFTER), .val (.ref b23), .val (.ref b28), .val (.ref w_UPDATE_AFTER)] [])) _
            refine XS.iconst X32.here hx rfl (hb hby at_202) ?_
            show Steps p.tables e below (T32.setTop (mkF m 203 #[.val (.int p1), .val (.int p2), .val (.int p3), .val (.int (43 : Int32)), .val (.int (85 : Int32)), .val (.ref w_UPDATE_AFTER), .val (.ref b23), .val (.ref b28), .val (.ref w_UPDATE_AFTER)] [(.int (1 : Int32))])) _
            refine XS.goto X32.here hx rfl (pc0 := 203) (pc' := 207) rfl (hb hby at_203) (by decide) (by decide) ?_
            show Steps p.tables e below (T32.setTop (mkF m 207 #[.val (.int p1), .val (.int p2), .val (.int p3), .val (.int (43 : Int32)), .val (.int (85 : Int32)), .val (.ref w_UPDATE_AFTER), .val (.ref b23), .val (.ref b28), .val (.ref w_UPDATE_AFTER)] [(.int (1 : Int32))])) _
            exact retN X32 hx (t := .boolean) Bd.returns (by simp) (hb hby at_207) hr
          · show Q0 Z p1 p2 p3 w__VALUES kV w_INSERT w_UPDATE_BEFORE w_UPDATE_AFTER w_DELETE w_INSERT_shortName w_INSERT_shortName_value k_INSERT w_UPDATE_BEFORE_shortName w_UPDATE_BEFORE_shortName_value k_UPDATE_BEFORE w_UPDATE_AFTER_shortName w_UPDATE_AFTER_shortName_value k_UPDATE_AFTER w_DELETE_shortName w_DELETE_shortName_value k_DELETE w_COMPACT_STRINGS h0 n0 _ T32.heap _
            rw [e32]
            exact ⟨by rw [res0, if_pos hc3_2, if_pos hc75_6, if_neg hc82_8, if_pos hc97_21], N32⟩
        · obtain ⟨fs, hr, hrun, hended, hW, hsame⟩ := X4.leave (v := some (.int (1 : Int32))) (fun h => by rw [Bd.returns] at h; cases h)
          refine ⟨_, _, pre20 _ ?_, hrun, hended, _, _, rfl, ?_, ⟨_, rfl⟩, hW, hsame.mono (by decide) (by decide)⟩
          · show Steps p.tables e below (T4.setTop (mkF m 97 #[.val (.int p1), .val (.int p2), .val (.int p3), .val (.int (43 : Int32)), .val (.int (res1 p3)), .val .null, .unset, .unset, .unset] [(.int (85 : Int32)), (.int (res1 p3))])) _
            refine XS.icmpYes X4.here hx rfl (pc0 := 97) (pc' := 141) rfl (hb hby at_97) rfl (feq hc97_21).2 (by decide) (by decide) ?_
            show Steps p.tables e below (T4.setTop (mkF m 141 #[.val (.int p1), .val (.int p2), .val (.int p3), .val (.int (43 : Int32)), .val (.int (res1 p3)), .val .null, .unset, .unset, .unset] [])) _
            refine XS.aload X4.here hx rfl (hb hby at_141) rfl rfl ?_
            show Steps p.tables e below (T4.setTop (mkF m 143 #[.val (.int p1), .val (.int p2), .val (.int p3), .val (.int (43 : Int32)), .val (.int (res1 p3)), .val .null, .unset, .unset, .unset] [.null])) _
            refine XS.ifnonnullNo X4.here hx rfl (hb hby at_143) rfl ?_
            show Steps p.tables e below (T4.setTop (mkF m 146 #[.val (.int p1), .val (.int p2), .val (.int p3), .val (.int (43 : Int32)), .val (.int (res1 p3)), .val .null, .unset, .unset, .unset] [])) _
            refine XS.iconst X4.here hx rfl (hb hby at_146) ?_
            show Steps p.tables e below (T4.setTop (mkF m 147 #[.val (.int p1), .val (.int p2), .val (.int p3), .val (.int (43 : Int32)), .val (.int (res1 p3)), .val .null, .unset, .unset, .unset] [(.int (1 : Int32))])) _
            exact retN X4 hx (t := .boolean) Bd.returns (by simp) (hb hby at_147) hr
          · show Q0 Z p1 p2 p3 w__VALUES kV w_INSERT w_UPDATE_BEFORE w_UPDATE_AFTER w_DELETE w_INSERT_shortName w_INSERT_shortName_value k_INSERT w_UPDATE_BEFORE_shortName w_UPDATE_BEFORE_shortName_value k_UPDATE_BEFORE w_UPDATE_AFTER_shortName w_UPDATE_AFTER_shortName_value k_UPDATE_AFTER w_DELETE_shortName w_DELETE_shortName_value k_DELETE w_COMPACT_STRINGS h0 n0 _ T4.heap _
            rw [e4]
            exact ⟨by rw [res0, if_pos hc3_2, if_pos hc75_6, if_neg hc82_8, if_neg hc97_21], N4⟩
    · have pre33 : ∀ t, Steps p.tables e below (T4.setTop (mkF m 111 #[.val (.int p1), .val (.int p2), .val (.int p3), .val (.int (res1 p2)), .val (.int (res1 p3)), .val .null, .unset, .unset, .unset] [(.int (45 : Int32)), (.int (res1 p2))])) t → Steps p.tables e below (s₁.setTop (entryFrame m #[(.int p1), (.int p2), (.int p3)] maxLocals)) t := by
        intro t kt
        refine pre5 _ ?_
        show Steps p.tables e below (T4.setTop (mkF m 75 #[.val (.int p1), .val (.int p2), .val (.int p3), .val (.int (res1 p2)), .val (.int (res1 p3)), .val .null, .unset, .unset, .unset] [(.int (43 : Int32)), (.int (res1 p2))])) _
        refine XS.icmpYes X4.here hx rfl (pc0 := 75) (pc' := 108) rfl (hb hby at_75) rfl (feq hc75_6).2 (by decide) (by decide) ?_
        show Steps p.tables e below (T4.setTop (mkF m 108 #[.val (.int p1), .val (.int p2), .val (.int p3), .val (.int (res1 p2)), .val (.int (res1 p3)), .val .null, .unset, .unset, .unset] [])) _
        refine XS.iloadN X4.here hx rfl (hb hby at_108) rfl ?_
        show Steps p.tables e below (T4.setTop (mkF m 109 #[.val (.int p1), .val (.int p2), .val (.int p3), .val (.int (res1 p2)), .val (.int (res1 p3)), .val .null, .unset, .unset, .unset] [(.int (res1 p2))])) _
        refine XS.bipush X4.here hx rfl (hb hby at_109) ?_
        exact kt
      by_cases hc111_34 : (res1 p2) = (45 : Int32)
      · rw [hc111_34] at pre33
        have pre35 : ∀ t, Steps p.tables e below (T4.setTop (mkF m 118 #[.val (.int p1), .val (.int p2), .val (.int p3), .val (.int (45 : Int32)), .val (.int (res1 p3)), .val .null, .unset, .unset, .unset] [(.int (85 : Int32)), (.int (res1 p3))])) t → Steps p.tables e below (s₁.setTop (entryFrame m #[(.int p1), (.int p2), (.int p3)] maxLocals)) t := by
          intro t kt
          refine pre33 _ ?_
          show Steps p.tables e below (T4.setTop (mkF m 111 #[.val (.int p1), .val (.int p2), .val (.int p3), .val (.int (45 : Int32)), .val (.int (res1 p3)), .val .null, .unset, .unset, .unset] [(.int (45 : Int32)), (.int (45 : Int32))])) _
          refine XS.icmpNo X4.here hx rfl (hb hby at_111) rfl (teq (rfl : (45 : Int32) = (45 : Int32))).2 ?_
          show Steps p.tables e below (T4.setTop (mkF m 114 #[.val (.int p1), .val (.int p2), .val (.int p3), .val (.int (45 : Int32)), .val (.int (res1 p3)), .val .null, .unset, .unset, .unset] [])) _
          refine XS.iload X4.here hx rfl (hb hby at_114) rfl ?_
          show Steps p.tables e below (T4.setTop (mkF m 116 #[.val (.int p1), .val (.int p2), .val (.int p3), .val (.int (45 : Int32)), .val (.int (res1 p3)), .val .null, .unset, .unset, .unset] [(.int (res1 p3))])) _
          refine XS.bipush X4.here hx rfl (hb hby at_116) ?_
          exact kt
        by_cases hc118_36 : (res1 p3) = (85 : Int32)
        · rw [hc118_36] at pre35
          obtain ⟨T37, X37, e37, st37⟩ := getS2 X4 hx hZ hown (host := "") (Or.inl (hw _ (List.mem_of_getElem? (i := 77) rfl))) Via.refl e4 S_UPDATE_BEFORE (g := (mkF m 121 #[.val (.int p1), .val (.int p2), .val (.int p3), .val (.int (45 : Int32)), .val (.int (85 : Int32)), .val .null, .unset, .unset, .unset] [])) rfl (hb hby at_121)
          obtain ⟨T38, h38, k38, X38, e38, E38, A38, st38⟩ := newP X37 hx hZ (hw _ (List.mem_of_getElem? (i := 7) rfl)) e37 (g := (mkF m 149 #[.val (.int p1), .val (.int p2), .val (.int p3), .val (.int (45 : Int32)), .val (.int (85 : Int32)), .val (.ref w_UPDATE_BEFORE), .unset, .unset, .unset] [(.int (2 : Int32))])) rfl (hb hby at_149) rfl (by decide) (cap := 2) (by decide) (by decide) (by decide) (by decide)
          obtain ⟨b38, g38⟩ : ∃ z, z = h0.size := ⟨_, rfl⟩
          rw [← g38] at A38 st38
          have sz_b38 : h0.size ≤ b38 := Nat.le_trans (Keep.refl h0 []).1 (Nat.le_of_eq g38.symm)
          have g_b38 : n0 ≤ b38 := Nat.le_trans Z0 sz_b38
          have K38 : Keep h0 h38 [] := (Keep.refl h0 []).ext E38
          have V_b38 : Arv Z h38 b38 k38 .char (2 : Int32) [(.int (0 : Int32)), (.int (0 : Int32))] (.int (0 : Int32)) := (Arv.new A38 (by decide)).pad (pad_rep [] (.int (0 : Int32)) 2)
          obtain ⟨cl_b38_157_39, Ar_b38_157_39, q_b38_157_39, S_b38_157_39, N_b38_157_39, H_b38_157_39, G_b38_157_39⟩ := id V_b38
          have hin_b38_157_39 : ¬ ((0 : Int32) < 0 ∨ cl_b38_157_39.slots.size ≤ ((0 : Int32) : Int32).toNatClampNeg) := inb_of S_b38_157_39 ⟨by decide, by decide⟩
          obtain ⟨T40, h40, X40, e40, W40, st40⟩ := stC X38 hx hZ e38 Ar_b38_157_39 (j := (0 : Int32)) hin_b38_157_39 (g := (mkF m 157 #[.val (.int p1), .val (.int p2), .val (.int p3), .val (.int (45 : Int32)), .val (.int (85 : Int32)), .val (.ref w_UPDATE_BEFORE), .val (.ref b38), .unset, .unset] [(.int (45 : Int32)), (.int (0 : Int32)), (.ref b38)])) rfl rfl (hb hby at_157)
          have V_b38_157_39 : Arv Z h40 b38 k38 .char (2 : Int32) [(.int (45 : Int32)), (.int (0 : Int32))] (.int (0 : Int32)) := Arv.set Ar_b38_157_39 q_b38_157_39 S_b38_157_39 N_b38_157_39 H_b38_157_39 G_b38_157_39 (fits_nar_char _) W40 0 rfl (Nat.le_of_ble_eq_true rfl)
          have K40 : Keep h0 h40 [] := K38.wr W40 (Or.inr sz_b38)
          have N40 := Fr.snoc X40 N4 g_b38
          obtain ⟨cl_b38_163_41, Ar_b38_163_41, q_b38_163_41, S_b38_163_41, N_b38_163_41, H_b38_163_41, G_b38_163_41⟩ := id V_b38_157_39
          have hin_b38_163_41 : ¬ ((1 : Int32) < 0 ∨ cl_b38_163_41.slots.size ≤ ((1 : Int32) : Int32).toNatClampNeg) := inb_of S_b38_163_41 ⟨by decide, by decide⟩
          obtain ⟨T42, h42, X42, e42, W42, st42⟩ := stC X40 hx hZ e40 Ar_b38_163_41 (j := (1 : Int32)) hin_b38_163_41 (g := (mkF m 163 #[.val (.int p1), .val (.int p2), .val (.int p3), .val (.int (45 : Int32)), .val (.int (85 : Int32)), .val (.ref w_UPDATE_BEFORE), .val (.ref b38), .unset, .unset] [(.int (85 : Int32)), (.int (1 : Int32)), (.ref b38)])) rfl rfl (hb hby at_163)
          have V_b38_163_41 : Arv Z h42 b38 k38 .char (2 : Int32) [(.int (45 : Int32)), (.int (85 : Int32))] (.int (0 : Int32)) := Arv.set Ar_b38_163_41 q_b38_163_41 S_b38_163_41 N_b38_163_41 H_b38_163_41 G_b38_163_41 (fits_nar_char _) W42 1 rfl (Nat.le_of_ble_eq_true rfl)
          have K42 : Keep h0 h42 [] := K40.wr W42 (Or.inr sz_b38)
          have N42 := Fr.snoc X42 N40 g_b38
          obtain ⟨T43, h43, X43, e43, E43, A43, D43, -, st43⟩ := newO X42 hx hZ hown (hw _ (List.mem_of_getElem? (i := 8) rfl)) (hw _ (List.mem_of_getElem? (i := 9) rfl)) (hw _ (List.mem_of_getElem? (i := 10) rfl)) e42 (g := (mkF m 164 #[.val (.int p1), .val (.int p2), .val (.int p3), .val (.int (45 : Int32)), .val (.int (85 : Int32)), .val (.ref w_UPDATE_BEFORE), .val (.ref b38), .unset, .unset] [])) rfl (hb hby at_164) (by decide) (by decide)
          obtain ⟨b43, g43⟩ : ∃ z, z = h42.size := ⟨_, rfl⟩
          rw [← g43] at A43 D43 st43
          have sz_b43 : h0.size ≤ b43 := Nat.le_trans K42.1 (Nat.le_of_eq g43.symm)
          have g_b43 : n0 ≤ b43 := Nat.le_trans Z0 sz_b43
          have K43 : Keep h0 h43 [] := K42.ext E43
          have F_coder_b43 : Fld Z h43 b43 "java/lang/String" "coder" "B" (.int (0 : Int32)) := D43 (Or.inr (hw _ (List.mem_of_getElem? (i := 34) rfl))) (ty := .byte) (by decide)
          have F_value_b43 : Fld Z h43 b43 "java/lang/String" "value" "[B" .null := D43 (Or.inr (hw _ (List.mem_of_getElem? (i := 36) rfl))) (ty := (.array .byte)) (by decide)
          obtain ⟨_, _, ⟨T44, L44, k44, n44⟩, -, X44, ⟨Lc44, hQ44, l44, y44, z44⟩, st44⟩ := X43.specialBack hx (y := (⟨"java/lang/String", "<init>", "([C)V"⟩ : MethodName)) rfl hown (mvT hZ (hw _ (List.mem_of_getElem? (i := 11) rfl))) (mvT hZ (hw _ (List.mem_of_getElem? (i := 12) rfl))) (mvT hZ (hw _ (List.mem_of_getElem? (i := 13) rfl))) (by decide) (backOf (W := 1) (rm_ini1_2 l Z a0 hw [] b43 b38 k38 (45 : Int32) (85 : Int32) w_COMPACT_STRINGS (.int (0 : Int32)) .null h43 n0 (Nat.le_trans Z0 K43.1) (V_b38_163_41.ext E43) ((((S_COMPACT_STRINGS.ext E38).wr W40).wr W42).ext E43) A43 F_coder_b43 g_b43 F_value_b43 (by decide : ¬ ((255 : Int32) < (45 : Int32))) (by decide : ¬ ((255 : Int32) < (85 : Int32))) (hCS : ¬ (w_COMPACT_STRINGS = (0 : Int32)))) hZ (hw _ (List.mem_of_getElem? (i := 13) rfl)) (hw _ (List.mem_of_getElem? (i := 10) rfl)) (by decide) (by decide)) (g := (mkF m 170 #[.val (.int p1), .val (.int p2), .val (.int p3), .val (.int (45 : Int32)), .val (.int (85 : Int32)), .val (.ref w_UPDATE_BEFORE), .val (.ref b38), .unset, .unset] [(.ref b38), (.ref b43), (.ref b43)])) rfl (by rw [hml]; rfl) (Steps.refl _) (a := b43) (argsL := [(.ref b38)]) (rest := [(.ref b43)]) (lenOf pd8 rfl) rfl (by show 2 * 0 + _ ≤ _; exact Nat.le_of_eq rfl) (hb hby at_170) (fun _ _ => ⟨rfl, e43, (by decide : 2 + 1 ≤ _), (by decide : 6 + 2 ≤ _)⟩)
          dsimp only [Pt.U, Pt.locs, Pt.cells, Pt.slots] at X44 l44 y44 z44 st44 hQ44
          subst l44 y44 z44
          obtain ⟨b1_3_2_44, k1_3_2_44, rfl, N44q, K44, s44_b1_3_2, f44_0, f44_1, f44_2, f44_3⟩ := hQ44
          have N44 := Fr.app N42 N44q
          have sz_b1_3_2_44 : h0.size ≤ b1_3_2_44 := Nat.le_trans K43.1 s44_b1_3_2
          have g_b1_3_2_44 : n0 ≤ b1_3_2_44 := Nat.le_trans Z0 sz_b1_3_2_44
          have KK44 : Keep h0 T44.heap [] := K43.trans K44 (allS (Or.inr sz_b43) all0)
          obtain ⟨_, _, ⟨T45, L45, k45, n45⟩, -, X45, ⟨Lc45, hQ45, l45, y45, z45⟩, st45⟩ := Jvm.LawKit.callS X44 hx (y := (⟨"com/example/tidemark/tidemark/table/RowKind", "fromShortName", "(Ljava/lang/String;)Lcom/example/tidemark/tidemark/table/RowKind;"⟩ : MethodName)) hown (mvT hZ (hw _ (List.mem_of_getElem? (i := 37) rfl))) (mvT hZ (hw _ (List.mem_of_getElem? (i := 38) rfl))) (mvT hZ (hw _ (List.mem_of_getElem? (i := 5) rfl))) (mvT hZ (hw _ (List.mem_of_getElem? (i := 39) rfl))) (by decide) (backOf (W := 0) (rm8 l Z a0 hw [] b43 w__VALUES kV w_INSERT w_UPDATE_BEFORE w_UPDATE_AFTER w_DELETE w_INSERT_shortName w_INSERT_shortName_value k_INSERT w_UPDATE_BEFORE_shortName w_UPDATE_BEFORE_shortName_value k_UPDATE_BEFORE w_UPDATE_AFTER_shortName w_UPDATE_AFTER_shortName_value k_UPDATE_AFTER w_DELETE_shortName w_DELETE_shortName_value k_DELETE b1_3_2_44 k1_3_2_44 (nar .byte ((45 : Int32).toInt8.toInt32)) (nar .byte ((85 : Int32).toInt8.toInt32)) w_COMPACT_STRINGS T44.heap n0 (Nat.le_trans Z0 KK44.1) (own_sta_keep ((((S__VALUES.ext E38).wr W40).wr W42).ext E43) K44 (allS (own_exa_ns A43) all0)) (((((E_w__VALUES.ext E38).wr W40).wr W42).ext E43).keep K44) (((((V_w__VALUES.ext E38).other W40 (Nat.ne_of_lt (Nat.lt_of_lt_of_le E_w__VALUES.lt (Nat.le_of_eq g38.symm)))).other W42 (Nat.ne_of_lt (Nat.lt_of_lt_of_le E_w__VALUES.lt (Nat.le_of_eq g38.symm)))).ext E43).keep K44 (ninS (Nat.ne_of_lt (Nat.lt_of_lt_of_le (((E_w__VALUES.ext E38).wr W40).wr W42).lt (Nat.le_of_eq g43.symm))) nin0)) (((((F_shortName_w_INSERT.ext E38).other W40 (Or.inl (Nat.ne_of_lt (Nat.lt_of_lt_of_le E_w_INSERT.lt (Nat.le_of_eq g38.symm))))).other W42 (Or.inl (Nat.ne_of_lt (Nat.lt_of_lt_of_le E_w_INSERT.lt (Nat.le_of_eq g38.symm))))).ext E43).keep K44 (ninS (Nat.ne_of_lt (Nat.lt_of_lt_of_le (((E_w_INSERT.ext E38).wr W40).wr W42).lt (Nat.le_of_eq g43.symm))) nin0)) (((((E_w_INSERT_shortName.ext E38).wr W40).wr W42).ext E43).keep K44) (((((F_coder_w_INSERT_shortName.ext E38).other W40 (Or.inl (Nat.ne_of_lt (Nat.lt_of_lt_of_le E_w_INSERT_shortName.lt (Nat.le_of_eq g38.symm))))).other W42 (Or.inl (Nat.ne_of_lt (Nat.lt_of_lt_of_le E_w_INSERT_shortName.lt (Nat.le_of_eq g38.symm))))).ext E43).keep K44 (ninS (Nat.ne_of_lt (Nat.lt_of_lt_of_le (((E_w_INSERT_shortName.ext E38).wr W40).wr W42).lt (Nat.le_of_eq g43.symm))) nin0)) (((((F_value_w_INSERT_shortName.ext E38).other W40 (Or.inl (Nat.ne_of_lt (Nat.lt_of_lt_of_le E_w_INSERT_shortName.lt (Nat.le_of_eq g38.symm))))).other W42 (Or.inl (Nat.ne_of_lt (Nat.lt_of_lt_of_le E_w_INSERT_shortName.lt (Nat.le_of_eq g38.symm))))).ext E43).keep K44 (ninS (Nat.ne_of_lt (Nat.lt_of_lt_of_le (((E_w_INSERT_shortName.ext E38).wr W40).wr W42).lt (Nat.le_of_eq g43.symm))) nin0)) (((((V_w_INSERT_shortName_value.ext E38).other W40 (Nat.ne_of_lt (Nat.lt_of_lt_of_le V_w_INSERT_shortName_value.lt (Nat.le_of_eq g38.symm)))).other W42 (Nat.ne_of_lt (Nat.lt_of_lt_of_le V_w_INSERT_shortName_value.lt (Nat.le_of_eq g38.symm)))).ext E43).keep K44 (ninS (Nat.ne_of_lt (Nat.lt_of_lt_of_le (((V_w_INSERT_shortName_value.ext E38).other W40 (Nat.ne_of_lt (Nat.lt_of_lt_of_le V_w_INSERT_shortName_value.lt (Nat.le_of_eq g38.symm)))).other W42 (Nat.ne_of_lt (Nat.lt_of_lt_of_le V_w_INSERT_shortName_value.lt (Nat.le_of_eq g38.symm)))).lt (Nat.le_of_eq g43.symm))) nin0)) (((((F_shortName_w_UPDATE_BEFORE.ext E38).other W40 (Or.inl (Nat.ne_of_lt (Nat.lt_of_lt_of_le E_w_UPDATE_BEFORE.lt (Nat.le_of_eq g38.symm))))).other W42 (Or.inl (Nat.ne_of_lt (Nat.lt_of_lt_of_le E_w_UPDATE_BEFORE.lt (Nat.le_of_eq g38.symm))))).ext E43).keep K44 (ninS (Nat.ne_of_lt (Nat.lt_of_lt_of_le (((E_w_UPDATE_BEFORE.ext E38).wr W40).wr W42).lt (Nat.le_of_eq g43.symm))) nin0)) (((((E_w_UPDATE_BEFORE_shortName.ext E38).wr W40).wr W42).ext E43).keep K44) (((((F_coder_w_UPDATE_BEFORE_shortName.ext E38).other W40 (Or.inl (Nat.ne_of_lt (Nat.lt_of_lt_of_le E_w_UPDATE_BEFORE_shortName.lt (Nat.le_of_eq g38.symm))))).other W42 (Or.inl (Nat.ne_of_lt (Nat.lt_of_lt_of_le E_w_UPDATE_BEFORE_shortName.lt (Nat.le_of_eq g38.symm))))).ext E43).keep K44 (ninS (Nat.ne_of_lt (Nat.lt_of_lt_of_le (((E_w_UPDATE_BEFORE_shortName.ext E38).wr W40).wr W42).lt (Nat.le_of_eq g43.symm))) nin0)) (((((F_value_w_UPDATE_BEFORE_shortName.ext E38).other W40 (Or.inl (Nat.ne_of_lt (Nat.lt_of_lt_of_le E_w_UPDATE_BEFORE_shortName.lt (Nat.le_of_eq g38.symm))))).other W42 (Or.inl (Nat.ne_of_lt (Nat.lt_of_lt_of_le E_w_UPDATE_BEFORE_shortName.lt (Nat.le_of_eq g38.symm))))).ext E43).keep K44 (ninS (Nat.ne_of_lt (Nat.lt_of_lt_of_le (((E_w_UPDATE_BEFORE_shortName.ext E38).wr W40).wr W42).lt (Nat.le_of_eq g43.symm))) nin0)) (((((V_w_UPDATE_BEFORE_shortName_value.ext E38).other W40 (Nat.ne_of_lt (Nat.lt_of_lt_of_le V_w_UPDATE_BEFORE_shortName_value.lt (Nat.le_of_eq g38.symm)))).other W42 (Nat.ne_of_lt (Nat.lt_of_lt_of_le V_w_UPDATE_BEFORE_shortName_value.lt (Nat.le_of_eq g38.symm)))).ext E43).keep K44 (ninS (Nat.ne_of_lt (Nat.lt_of_lt_of_le (((V_w_UPDATE_BEFORE_shortName_value.ext E38).other W40 (Nat.ne_of_lt (Nat.lt_of_lt_of_le V_w_UPDATE_BEFORE_shortName_value.lt (Nat.le_of_eq g38.symm)))).other W42 (Nat.ne_of_lt (Nat.lt_of_lt_of_le V_w_UPDATE_BEFORE_shortName_value.lt (Nat.le_of_eq g38.symm)))).lt (Nat.le_of_eq g43.symm))) nin0)) (((((F_shortName_w_UPDATE_AFTER.ext E38).other W40 (Or.inl (Nat.ne_of_lt (Nat.lt_of_lt_of_le E_w_UPDATE_AFTER.lt (Nat.le_of_eq g38.symm))))).other W42 (Or.inl (Nat.ne_of_lt (Nat.lt_of_lt_of_le E_w_UPDATE_AFTER.lt (Nat.le_of_eq g38.symm))))).ext E43).keep K44 (ninS (Nat.ne_of_lt (Nat.lt_of_lt_of_le (((E_w_UPDATE_AFTER.ext E38).wr W40).wr W42).lt (Nat.le_of_eq g43.symm))) nin0)) (((((E_w_UPDATE_AFTER_shortName.ext E38).wr W40).wr W42).ext E43).keep K44) (((((F_coder_w_UPDATE_AFTER_shortName.ext E38).other W40 (Or.inl (Nat.ne_of_lt (Nat.lt_of_lt_of_le E_w_UPDATE_AFTER_shortName.lt (Nat.le_of_eq g38.symm))))).other W42 (Or.inl (Nat.ne_of_lt (Nat.lt_of_lt_of_le E_w_UPDATE_AFTER_shortName.lt (Nat.le_of_eq g38.symm))))).ext E43).keep K44 (ninS (Nat.ne_of_lt (Nat.lt_of_lt_of_le (((E_w_UPDATE_AFTER_shortName.ext E38).wr W40).wr W42).lt (Nat.le_of_eq g43.symm))) nin0)) (((((F_value_w_UPDATE_AFTER_shortName.ext E38).other W40 (Or.inl (Nat.ne_of_lt (Nat.lt_of_lt_of_le E_w_UPDATE_AFTER_shortName.lt (Nat.le_of_eq g38.symm))))).other W42 (Or.inl (Nat.ne_of_lt (Nat.lt_of_lt_of_le E_w_UPDATE_AFTER_shortName.lt (Nat.le_of_eq g38.symm))))).ext E43).keep K44 (ninS (Nat.ne_of_lt (Nat.lt_of_lt_of_le (((E_w_UPDATE_AFTER_shortName.ext E38).wr W40).wr W42).lt (Nat.le_of_eq g43.symm))) nin0)) (((((V_w_UPDATE_AFTER_shortName_value.ext E38).other W40 (Nat.ne_of_lt (Nat.lt_of_lt_of_le V_w_UPDATE_AFTER_shortName_value.lt (Nat.le_of_eq g38.symm)))).other W42 (Nat.ne_of_lt (Nat.lt_of_lt_of_le V_w_UPDATE_AFTER_shortName_value.lt (Nat.le_of_eq g38.symm)))).ext E43).keep K44 (ninS (Nat.ne_of_lt (Nat.lt_of_lt_of_le (((V_w_UPDATE_AFTER_shortName_value.ext E38).other W40 (Nat.ne_of_lt (Nat.lt_of_lt_of_le V_w_UPDATE_AFTER_shortName_value.lt (Nat.le_of_eq g38.symm)))).other W42 (Nat.ne_of_lt (Nat.lt_of_lt_of_le V_w_UPDATE_AFTER_shortName_value.lt (Nat.le_of_eq g38.symm)))).lt (Nat.le_of_eq g43.symm))) nin0)) (((((F_shortName_w_DELETE.ext E38).other W40 (Or.inl (Nat.ne_of_lt (Nat.lt_of_lt_of_le E_w_DELETE.lt (Nat.le_of_eq g38.symm))))).other W42 (Or.inl (Nat.ne_of_lt (Nat.lt_of_lt_of_le E_w_DELETE.lt (Nat.le_of_eq g38.symm))))).ext E43).keep K44 (ninS (Nat.ne_of_lt (Nat.lt_of_lt_of_le (((E_w_DELETE.ext E38).wr W40).wr W42).lt (Nat.le_of_eq g43.symm))) nin0)) (((((E_w_DELETE_shortName.ext E38).wr W40).wr W42).ext E43).keep K44) (((((F_coder_w_DELETE_shortName.ext E38).other W40 (Or.inl (Nat.ne_of_lt (Nat.lt_of_lt_of_le E_w_DELETE_shortName.lt (Nat.le_of_eq g38.symm))))).other W42 (Or.inl (Nat.ne_of_lt (Nat.lt_of_lt_of_le E_w_DELETE_shortName.lt (Nat.le_of_eq g38.symm))))).ext E43).keep K44 (ninS (Nat.ne_of_lt (Nat.lt_of_lt_of_le (((E_w_DELETE_shortName.ext E38).wr W40).wr W42).lt (Nat.le_of_eq g43.symm))) nin0)) (((((F_value_w_DELETE_shortName.ext E38).other W40 (Or.inl (Nat.ne_of_lt (Nat.lt_of_lt_of_le E_w_DELETE_shortName.lt (Nat.le_of_eq g38.symm))))).other W42 (Or.inl (Nat.ne_of_lt (Nat.lt_of_lt_of_le E_w_DELETE_shortName.lt (Nat.le_of_eq g38.symm))))).ext E43).keep K44 (ninS (Nat.ne_of_lt (Nat.lt_of_lt_of_le (((E_w_DELETE_shortName.ext E38).wr W40).wr W42).lt (Nat.le_of_eq g43.symm))) nin0)) (((((V_w_DELETE_shortName_value.ext E38).other W40 (Nat.ne_of_lt (Nat.lt_of_lt_of_le V_w_DELETE_shortName_value.lt (Nat.le_of_eq g38.symm)))).other W42 (Nat.ne_of_lt (Nat.lt_of_lt_of_le V_w_DELETE_shortName_value.lt (Nat.le_of_eq g38.symm)))).ext E43).keep K44 (ninS (Nat.ne_of_lt (Nat.lt_of_lt_of_le (((V_w_DELETE_shortName_value.ext E38).other W40 (Nat.ne_of_lt (Nat.lt_of_lt_of_le V_w_DELETE_shortName_value.lt (Nat.le_of_eq g38.symm)))).other W42 (Nat.ne_of_lt (Nat.lt_of_lt_of_le V_w_DELETE_shortName_value.lt (Nat.le_of_eq g38.symm)))).lt (Nat.le_of_eq g43.symm))) nin0)) (A43.keep K44) f44_1 f44_2 f44_3 (own_sta_keep ((((S_COMPACT_STRINGS.ext E38).wr W40).wr W42).ext E43) K44 (allS (own_exa_ns A43) all0)) (hCS : ¬ (w_COMPACT_STRINGS = (0 : Int32))) (by decide : ((nar .byte ((45 : Int32).toInt8.toInt32)) = (43 : Int32) ∧ (nar .byte ((85 : Int32).toInt8.toInt32)) = (73 : Int32)) ∨ ((nar .byte ((45 : Int32).toInt8.toInt32)) = (45 : Int32) ∧ (nar .byte ((85 : Int32).toInt8.toInt32)) = (85 : Int32)) ∨ ((nar .byte ((45 : Int32).toInt8.toInt32)) = (43 : Int32) ∧ (nar .byte ((85 : Int32).toInt8.toInt32)) = (85 : Int32)) ∨ ((nar .byte ((45 : Int32).toInt8.toInt32)) = (45 : Int32) ∧ (nar .byte ((85 : Int32).toInt8.toInt32)) = (68 : Int32))) ((Nat.ne_of_lt (Nat.lt_of_lt_of_le (((E_w_INSERT_shortName.ext E38).wr W40).wr W42).lt (Nat.le_of_eq g43.symm))) : w_INSERT_shortName ≠ b43) ((Nat.ne_of_lt (Nat.lt_of_lt_of_le (((E_w_UPDATE_BEFORE_shortName.ext E38).wr W40).wr W42).lt (Nat.le_of_eq g43.symm))) : w_UPDATE_BEFORE_shortName ≠ b43) ((Nat.ne_of_lt (Nat.lt_of_lt_of_le (((E_w_UPDATE_AFTER_shortName.ext E38).wr W40).wr W42).lt (Nat.le_of_eq g43.symm))) : w_UPDATE_AFTER_shortName ≠ b43) ((Nat.ne_of_lt (Nat.lt_of_lt_of_le (((E_w_DELETE_shortName.ext E38).wr W40).wr W42).lt (Nat.le_of_eq g43.symm))) : w_DELETE_shortName ≠ b43)) hZ (hw _ (List.mem_of_getElem? (i := 39) rfl)) (hw _ (List.mem_of_getElem? (i := 5) rfl)) (by decide) (by decide)) (g := (mkF m 177 #[.val (.int p1), .val (.int p2), .val (.int p3), .val (.int (45 : Int32)), .val (.int (85 : Int32)), .val (.ref w_UPDATE_BEFORE), .val (.ref b38), .val (.ref b43), .unset] [(.ref b43)])) rfl (by rw [hml]; rfl) (argsL := [(.ref b43)]) (rest := []) (lenOf pd9 rfl) rfl (by show 2 * 0 + _ ≤ _; exact Nat.le_of_eq rfl) (hb hby at_177) (fun _ _ => ⟨rfl, rfl, (by decide : 3 + 1 ≤ _), (by decide : 8 + 4 ≤ _)⟩)
          dsimp only [Pt.U, Pt.locs, Pt.cells, Pt.slots] at X45 l45 y45 z45 st45 hQ45
          subst l45 y45 z45
          obtain ⟨rfl, N45q, K45⟩ := hQ45
          have N45 := Fr.app N44 N45q
          have KK45 : Keep h0 T45.heap [] := KK44.trans K45 all0
          have ev45 : (res8 w_INSERT w_UPDATE_BEFORE w_UPDATE_AFTER w_DELETE (nar .byte ((45 : Int32).toInt8.toInt32)) (nar .byte ((85 : Int32).toInt8.toInt32))) = w_UPDATE_BEFORE := by first | rfl | decide
          rw [ev45] at st45
          obtain ⟨cq46, kq46, q46a, q46b, q46c⟩ := isOf hZ rfl ((((((E_w_UPDATE_BEFORE.ext E38).wr W40).wr W42).ext E43).keep K44).keep K45)
          obtain ⟨_, _, ⟨T46, L46, k46, n46⟩, -, X46, ⟨Lc46, hQ46, l46, y46, z46⟩, st46⟩ := X45.virtualBack hx (y := (⟨"com/example/tidemark/tidemark/table/RowKind", "shortName", "()Ljava/lang/String;"⟩ : MethodName)) (z := (⟨"com/example/tidemark/tidemark/table/RowKind", "shortName", "()Ljava/lang/String;"⟩ : MethodName)) hown (mvT hZ (hw _ (List.mem_of_getElem? (i := 70) rfl))) (mvT hZ (hw _ (List.mem_of_getElem? (i := 71) rfl))) (notFace_of_selects (args := #[]) (mvT hZ (hw _ (List.mem_of_getElem? (i := 73) rfl)))) (mvT hZ (hw _ (List.mem_of_getElem? (i := 73) rfl))) (mvT hZ (hw _ (List.mem_of_getElem? (i := 72) rfl))) (by decide) (backOf (W := 0) (rm12 l Z a0 hw [] w_UPDATE_BEFORE w_UPDATE_BEFORE_shortName T45.heap n0 (Nat.le_trans Z0 KK45.1) ((((((F_shortName_w_UPDATE_BEFORE.ext E38).other W40 (Or.inl (Nat.ne_of_lt (Nat.lt_of_lt_of_le E_w_UPDATE_BEFORE.lt (Nat.le_of_eq g38.symm))))).other W42 (Or.inl (Nat.ne_of_lt (Nat.lt_of_lt_of_le E_w_UPDATE_BEFORE.lt (Nat.le_of_eq g38.symm))))).ext E43).keep K44 (ninS (Nat.ne_of_lt (Nat.lt_of_lt_of_le (((E_w_UPDATE_BEFORE.ext E38).wr W40).wr W42).lt (Nat.le_of_eq g43.symm))) nin0)).keep K45 nin0) ) hZ (hw _ (List.mem_of_getElem? (i := 74) rfl)) (hw _ (List.mem_of_getElem? (i := 5) rfl)) (by decide) (by decide)) q46a q46c (g := (mkF m 191 #[.val (.int p1), .val (.int p2), .val (.int p3), .val (.int (45 : Int32)), .val (.int (85 : Int32)), .val (.ref w_UPDATE_BEFORE), .val (.ref b38), .val (.ref b43), .val (.ref w_UPDATE_BEFORE)] [(.ref w_UPDATE_BEFORE)])) rfl (by rw [hml]; rfl) (Steps.refl _) (argsL := []) (rest := []) (lenOf pd10 rfl) rfl (by show 2 * 0 + _ ≤ _; exact Nat.le_of_eq rfl) (hb hby at_191) (fun _ _ => ⟨rfl, rfl, (by decide : 4 + 0 ≤ _), (by decide : 12 + 0 ≤ _)⟩)
          dsimp only [Pt.U, Pt.locs, Pt.cells, Pt.slots] at X46 l46 y46 z46 st46 hQ46
          subst l46 y46 z46
          obtain ⟨rfl, rfl, e46⟩ := hQ46
          have N46 := Fr.app N45 (Fr.nil n0)
          obtain ⟨cq47, kq47, q47a, q47b, q47c⟩ := isOf hZ e46 ((((((E_w_UPDATE_BEFORE_shortName.ext E38).wr W40).wr W42).ext E43).keep K44).keep K45)
          obtain ⟨_, _, ⟨T47, L47, k47, n47⟩, -, X47, ⟨Lc47, hQ47, l47, y47, z47⟩, st47⟩ := X46.virtualBack hx (y := (⟨"java/lang/String", "equals", "(Ljava/lang/Object;)Z"⟩ : MethodName)) (z := (⟨"java/lang/String", "equals", "(Ljava/lang/Object;)Z"⟩ : MethodName)) hown (mvT hZ (hw _ (List.mem_of_getElem? (i := 75) rfl))) (mvT hZ (hw _ (List.mem_of_getElem? (i := 61) rfl))) (notFace_of_selects (args := #[]) (mvT hZ (hw _ (List.mem_of_getElem? (i := 63) rfl)))) (mvT hZ (hw _ (List.mem_of_getElem? (i := 63) rfl))) (mvT hZ (hw _ (List.mem_of_getElem? (i := 62) rfl))) (by decide) (backOf (W := 0) (rm_eq_2_2 l Z a0 hw [] w_UPDATE_BEFORE_shortName b43 w_UPDATE_BEFORE_shortName_value k_UPDATE_BEFORE (45 : Int32) (85 : Int32) b1_3_2_44 k1_3_2_44 (nar .byte ((45 : Int32).toInt8.toInt32)) (nar .byte ((85 : Int32).toInt8.toInt32)) w_COMPACT_STRINGS T45.heap n0 (Nat.le_trans Z0 KK45.1) ((((((E_w_UPDATE_BEFORE_shortName.ext E38).wr W40).wr W42).ext E43).keep K44).keep K45) ((((((F_coder_w_UPDATE_BEFORE_shortName.ext E38).other W40 (Or.inl (Nat.ne_of_lt (Nat.lt_of_lt_of_le E_w_UPDATE_BEFORE_shortName.lt (Nat.le_of_eq g38.symm))))).other W42 (Or.inl (Nat.ne_of_lt (Nat.lt_of_lt_of_le E_w_UPDATE_BEFORE_shortName.lt (Nat.le_of_eq g38.symm))))).ext E43).keep K44 (ninS (Nat.ne_of_lt (Nat.lt_of_lt_of_le (((E_w_UPDATE_BEFORE_shortName.ext E38).wr W40).wr W42).lt (Nat.le_of_eq g43.symm))) nin0)).keep K45 nin0) ((((((F_value_w_UPDATE_BEFORE_shortName.ext E38).other W40 (Or.inl (Nat.ne_of_lt (Nat.lt_of_lt_of_le E_w_UPDATE_BEFORE_shortName.lt (Nat.le_of_eq g38.symm))))).other W42 (Or.inl (Nat.ne_of_lt (Nat.lt_of_lt_of_le E_w_UPDATE_BEFORE_shortName.lt (Nat.le_of_eq g38.symm))))).ext E43).keep K44 (ninS (Nat.ne_of_lt (Nat.lt_of_lt_of_le (((E_w_UPDATE_BEFORE_shortName.ext E38).wr W40).wr W42).lt (Nat.le_of_eq g43.symm))) nin0)).keep K45 nin0) ((((((V_w_UPDATE_BEFORE_shortName_value.ext E38).other W40 (Nat.ne_of_lt (Nat.lt_of_lt_of_le V_w_UPDATE_BEFORE_shortName_value.lt (Nat.le_of_eq g38.symm)))).other W42 (Nat.ne_of_lt (Nat.lt_of_lt_of_le V_w_UPDATE_BEFORE_shortName_value.lt (Nat.le_of_eq g38.symm)))).ext E43).keep K44 (ninS (Nat.ne_of_lt (Nat.lt_of_lt_of_le (((V_w_UPDATE_BEFORE_shortName_value.ext E38).other W40 (Nat.ne_of_lt (Nat.lt_of_lt_of_le V_w_UPDATE_BEFORE_shortName_value.lt (Nat.le_of_eq g38.symm)))).other W42 (Nat.ne_of_lt (Nat.lt_of_lt_of_le V_w_UPDATE_BEFORE_shortName_value.lt (Nat.le_of_eq g38.symm)))).lt (Nat.le_of_eq g43.symm))) nin0)).keep K45 nin0) ((A43.keep K44).keep K45) (f44_1.keep K45 nin0) (f44_2.keep K45 nin0) (f44_3.keep K45 nin0) (own_sta_keep (own_sta_keep ((((S_COMPACT_STRINGS.ext E38).wr W40).wr W42).ext E43) K44 (allS (own_exa_ns A43) all0)) K45 all0) ((Nat.ne_of_lt (Nat.lt_of_lt_of_le (((E_w_UPDATE_BEFORE_shortName.ext E38).wr W40).wr W42).lt (Nat.le_of_eq g43.symm))) : w_UPDATE_BEFORE_shortName ≠ b43) (hCS : ¬ (w_COMPACT_STRINGS = (0 : Int32)))) hZ (hw _ (List.mem_of_getElem? (i := 64) rfl)) (hw _ (List.mem_of_getElem? (i := 10) rfl)) (by decide) (by decide)) q47a q47c (g := (mkF m 196 #[.val (.int p1), .val (.int p2), .val (.int p3), .val (.int (45 : Int32)), .val (.int (85 : Int32)), .val (.ref w_UPDATE_BEFORE), .val (.ref b38), .val (.ref b43), .val (.ref w_UPDATE_BEFORE)] [(.ref b43), (.ref w_UPDATE_BEFORE_shortName)])) rfl (by rw [hml]; rfl) (Steps.refl _) (argsL := [(.ref b43)]) (rest := []) (lenOf pd6 rfl) rfl (by show 2 * 0 + _ ≤ _; exact Nat.le_of_eq rfl) (hb hby at_196) (fun _ _ => ⟨rfl, e46, (by decide : 4 + 0 ≤ _), (by decide : 12 + 0 ≤ _)⟩)
          dsimp only [Pt.U, Pt.locs, Pt.cells, Pt.slots] at X47 l47 y47 z47 st47 hQ47
          subst l47 y47 z47
          obtain ⟨rfl, rfl, e47⟩ := hQ47
          have N47 := Fr.app N46 (Fr.nil n0)
          have ev47 : (res_eq_2_2 (45 : Int32) (85 : Int32) (nar .byte ((45 : Int32).toInt8.toInt32)) (nar .byte ((85 : Int32).toInt8.toInt32))) = (1 : Int32) := by first | rfl | decide
          rw [ev47] at st47
          obtain ⟨fs, hr, hrun, hended, hW, hsame⟩ := X47.leave (v := some (.int (1 : Int32))) (fun h => by rw [Bd.returns] at h; cases h)
          refine ⟨_, _, pre35 _ ?_, hrun, hended, _, _, rfl, ?_, ⟨_, rfl⟩, hW, hsame.mono (by decide) (by decide)⟩
          · show Steps p.tables e below (T4.setTop (mkF m 118 #[.val (.int p1), .val (.int p2), .val (.int p3), .val (.int (45 : Int32)), .val (.int (85 : Int32)), .val .null, .unset, .unset, .unset] [(.int (85 : Int32)), (.int (85 : Int32))])) _
            refine XS.icmpNo X4.here hx rfl (hb hby at_118) rfl (teq (rfl : (85 : Int32) = (85 : Int32))).2 ?_
            show Steps p.tables e below (T4.setTop (mkF m 121 #[.val (.int p1), .val (.int p2), .val (.int p3), .val (.int (45 : Int32)), .val (.int (85 : Int32)), .val .null, .unset, .unset, .unset] [])) _
            refine st37 _ ?_
            show Steps p.tables e below (T37.setTop (mkF m 124 #[.val (.int p1), .val (.int p2), .val (.int p3), .val (.int (45 : Int32)), .val (.int (85 : Int32)), .val .null, .unset, .unset, .unset] [(.ref w_UPDATE_BEFORE)])) _
            refine XS.astore X37.here hx rfl (hb hby at_124) rfl rfl (l' := #[.val (.int p1), .val (.int p2), .val (.int p3), .val (.int (45 : Int32)), .val (.int (85 : Int32)), .val (.ref w_UPDATE_BEFORE), .unset, .unset, .unset]) rfl ?_
            show Steps p.tables e below (T37.setTop (mkF m 126 #[.val (.int p1), .val (.int p2), .val (.int p3), .val (.int (45 : Int32)), .val (.int (85 : Int32)), .val (.ref w_UPDATE_BEFORE), .unset, .unset, .unset] [])) _
            refine XS.goto X37.here hx rfl (pc0 := 126) (pc' := 141) rfl (hb hby at_126) (by decide) (by decide) ?_
            show Steps p.tables e below (T37.setTop (mkF m 141 #[.val (.int p1), .val (.int p2), .val (.int p3), .val (.int (45 : Int32)), .val (.int (85 : Int32)), .val (.ref w_UPDATE_BEFORE), .unset, .unset, .unset] [])) _
            refine XS.aload X37.here hx rfl (hb hby at_141) rfl rfl ?_
            show Steps p.tables e below (T37.setTop (mkF m 143 #[.val (.int p1), .val (.int p2), .val (.int p3), .val (.int (45 : Int32)), .val (.int (85 : Int32)), .val (.ref w_UPDATE_BEFORE), .unset, .unset, .unset] [(.ref w_UPDATE_BEFORE)])) _
            refine XS.ifnonnullYes X37.here hx rfl (pc0 := 143) (pc' := 148) rfl (hb hby at_143) rfl (by decide) (by decide) ?_
            show Steps p.tables e below (T37.setTop (mkF m 148 #[.val (.int p1), .val (.int p2), .val (.int p3), .val (.int (45 : Int32)), .val (.int (85 : Int32)), .val (.ref w_UPDATE_BEFORE), .unset, .unset, .unset] [])) _
            refine XS.iconst X37.here hx rfl (hb hby at_148) ?_
            show Steps p.tables e below (T37.setTop (mkF m 149 #[.val (.int p1), .val (.int p2), .val (.int p3), .val (.int (45 : Int32)), .val (.int (85 : Int32)), .val (.ref w_UPDATE_BEFORE), .unset, .unset, .unset] [(.int (2 : Int32))])) _
            refine st38 _ ?_
            show Steps p.tables e below (T38.setTop (mkF m 151 #[.val (.int p1), .val (.int p2), .val (.int p3), .val (.int (45 : Int32)), .val (.int (85 : Int32)), .val (.ref w_UPDATE_BEFORE), .unset, .unset, .unset] [(.ref b38)])) _
            refine XS.astore X38.here hx rfl (hb hby at_151) rfl rfl (l' := #[.val (.int p1), .val (.int p2), .val (.int p3), .val (.int (45 : Int32)), .val (.int (85 : Int32)), .val (.ref w_UPDATE_BEFORE), .val (.ref b38), .unset, .unset]) rfl ?_
            show Steps p.tables e below (T38.setTop (mkF m 153 #[.val (.int p1), .val (.int p2), .val (.int p3), .val (.int (45 : Int32)), .val (.int (85 : Int32)), .val (.ref w_UPDATE_BEFORE), .val (.ref b38), .unset, .unset] [])) _
            refine XS.aload X38.here hx rfl (hb hby at_153) rfl rfl ?_
            show Steps p.tables e below (T38.setTop (mkF m 155 #[.val (.int p1), .val (.int p2), .val (.int p3), .val (.int (45 : Int32)), .val (.int (85 : Int32)), .val (.ref w_UPDATE_BEFORE), .val (.ref b38), .unset, .unset] [(.ref b38)])) _
            refine XS.iconst X38.here hx rfl (hb hby at_155) ?_
            show Steps p.tables e below (T38.setTop (mkF m 156 #[.val (.int p1), .val (.int p2), .val (.int p3), .val (.int (45 : Int32)), .val (.int (85 : Int32)), .val (.ref w_UPDATE_BEFORE), .val (.ref b38), .unset, .unset] [(.int (0 : Int32)), (.ref b38)])) _
            refine XS.iloadN X38.here hx rfl (hb hby at_156) rfl ?_
            show Steps p.tables e below (T38.setTop (mkF m 157 #[.val (.int p1), .val (.int p2), .val (.int p3), .val (.int (45 : Int32)), .val (.int (85 : Int32)), .val (.ref w_UPDATE_BEFORE), .val (.ref b38), .unset, .unset] [(.int (45 : Int32)), (.int (0 : Int32)), (.ref b38)])) _
            refine st40 _ ?_
            show Steps p.tables e below (T40.setTop (mkF m 158 #[.val (.int p1), .val (.int p2), .val (.int p3), .val (.int (45 : Int32)), .val (.int (85 : Int32)), .val (.ref w_UPDATE_BEFORE), .val (.ref b38), .unset, .unset] [])) _
            refine XS.aload X40.here hx rfl (hb hby at_158) rfl rfl ?_
            show Steps p.tables e below (T40.setTop (mkF m 160 #[.val (.int p1), .val (.int p2), .val (.int p3), .val (.int (45 : Int32)), .val (.int (85 : Int32)), .val (.ref w_UPDATE_BEFORE), .val (.ref b38), .unset, .unset] [(.ref b38)])) _
            refine XS.iconst X40.here hx rfl (hb hby at_160) ?_
            show Steps p.tables e below (T40.setTop (mkF m 161 #[.val (.int p1), .val (.int p2), .val (.int p3), .val (.int (45 : Int32)), .val (.int (85 : Int32)), .val (.ref w_UPDATE_BEFORE), .val (.ref b38), .unset, .unset] [(.int (1 : Int32)), (.ref b38)])) _
            refine XS.iload X40.here hx rfl (hb hby at_161) rfl ?_
            show Steps p.tables e below (T40.setTop (mkF m 163 #[.val (.int p1), .val (.int p2), .val (.int p3), .val (.int (45 : Int32)), .val (.int (85 : Int32)), .val (.ref w_UPDATE_BEFORE), .val (.ref b38), .unset, .unset] [(.int (85 : Int32)), (.int (1 : Int32)), (.ref b38)])) _
            refine st42 _ ?_
            show Steps p.tables e below (T42.setTop (mkF m 164 #[.val (.int p1), .val (.int p2), .val (.int p3), .val (.int (45 : Int32)), .val (.int (85 : Int32)), .val (.ref w_UPDATE_BEFORE), .val (.ref b38), .unset, .unset] [])) _
            refine st43 _ ?_
            show Steps p.tables e below (T43.setTop (mkF m 167 #[.val (.int p1), .val (.int p2), .val (.int p3), .val (.int (45 : Int32)), .val (.int (85 : Int32)), .val (.ref w_UPDATE_BEFORE), .val (.ref b38), .unset, .unset] [(.ref b43)])) _
            refine XS.dup X43.here hx rfl (hb hby at_167) rfl rfl ?_
            show Steps p.tables e below (T43.setTop (mkF m 168 #[.val (.int p1), .val (.int p2), .val (.int p3), .val (.int (45 : Int32)), .val (.int (85 : Int32)), .val (.ref w_UPDATE_BEFORE), .val (.ref b38), .unset, .unset] [(.ref b43), (.ref b43)])) _
            refine XS.aload X43.here hx rfl (hb hby at_168) rfl rfl ?_
            show Steps p.tables e below (T43.setTop (mkF m 170 #[.val (.int p1), .val (.int p2), .val (.int p3), .val (.int (45 : Int32)), .val (.int (85 : Int32)), .val (.ref w_UPDATE_BEFORE), .val (.ref b38), .unset, .unset] [(.ref b38), (.ref b43), (.ref b43)])) _
            refine st44.trans ?_
            show Steps p.tables e below (T44.setTop (mkF m 173 #[.val (.int p1), .val (.int p2), .val (.int p3), .val (.int (45 : Int32)), .val (.int (85 : Int32)), .val (.ref w_UPDATE_BEFORE), .val (.ref b38), .unset, .unset] [(.ref b43)])) _
            refine XS.astore X44.here hx rfl (hb hby at_173) rfl rfl (l' := #[.val (.int p1), .val (.int p2), .val (.int p3), .val (.int (45 : Int32)), .val (.int (85 : Int32)), .val (.ref w_UPDATE_BEFORE), .val (.ref b38), .val (.ref b43), .unset]) rfl ?_
            show Steps p.tables e below (T44.setTop (mkF m 175 #[.val (.int p1), .val (.int p2), .val (.int p3), .val (.int (45 : Int32)), .val (.int (85 : Int32)), .val (.ref w_UPDATE_BEFORE), .val (.ref b38), .val (.ref b43), .unset] [])) _
            refine XS.aload X44.here hx rfl (hb hby at_175) rfl rfl ?_
            show Steps p.tables e below (T44.setTop (mkF m 177 #[.val (.int p1), .val (.int p2), .val (.int p3), .val (.int (45 : Int32)), .val (.int (85 : Int32)), .val (.ref w_UPDATE_BEFORE), .val (.ref b38), .val (.ref b43), .unset] [(.ref b43)])) _
            refine st45 _ ?_
            show Steps p.tables e below (T45.setTop (mkF m 180 #[.val (.int p1), .val (.int p2), .val (.int p3), .val (.int (45 : Int32)), .val (.int (85 : Int32)), .val (.ref w_UPDATE_BEFORE), .val (.ref b38), .val (.ref b43), .unset] [(.ref w_UPDATE_BEFORE)])) _
            refine XS.astore X45.here hx rfl (hb hby at_180) rfl rfl (l' := #[.val (.int p1), .val (.int p2), .val (.int p3), .val (.int (45 : Int32)), .val (.int (85 : Int32)), .val (.ref w_UPDATE_BEFORE), .val (.ref b38), .val (.ref b43), .val (.ref w_UPDATE_BEFORE)]) rfl ?_
            show Steps p.tables e below (T45.setTop (mkF m 182 #[.val (.int p1), .val (.int p2), .val (.int p3), .val (.int (45 : Int32)), .val (.int (85 : Int32)), .val (.ref w_UPDATE_BEFORE), .val (.ref b38), .val (.ref b43), .val (.ref w_UPDATE_BEFORE)] [])) _
            refine XS.aload X45.here hx rfl (hb hby at_182) rfl rfl ?_
            show Steps p.tables e below (T45.setTop (mkF m 184 #[.val (.int p1), .val (.int p2), .val (.int p3), .val (.int (45 : Int32)), .val (.int (85 : Int32)), .val (.ref w_UPDATE_BEFORE), .val (.ref b38), .val (.ref b43), .val (.ref w_UPDATE_BEFORE)] [(.ref w_UPDATE_BEFORE)])) _
            refine XS.aload X45.here hx rfl (hb hby at_184) rfl rfl ?_
            show Steps p.tables e below (T45.setTop (mkF m 186 #[.val (.int p1), .val (.int p2), .val (.int p3), .val (.int (45 : Int32)), .val (.int (85 : Int32)), .val (.ref w_UPDATE_BEFORE), .val (.ref b38), .val (.ref b43), .val (.ref w_UPDATE_BEFORE)] [(.ref w_UPDATE_BEFORE), (.ref w_UPDATE_BEFORE)])) _
            refine Jvm.RoadKit.acmp (g := (mkF m 186 #[.val (.int p1), .val (.int p2), .val (.int p3), .val (.int (45 : Int32)), .val (.int (85 : Int32)), .val (.ref w_UPDATE_BEFORE), .val (.ref b38), .val (.ref b43), .val (.ref w_UPDATE_BEFORE)] [(.ref w_UPDATE_BEFORE), (.ref w_UPDATE_BEFORE)])) X45 hx rfl rfl rfl (pc0 := 186) (pc' := 189) (same := true) rfl (hb hby at_186) rfl (decide_eq_true (congrArg Value.ref rfl)) (by decide) (by decide) ?_
            show Steps p.tables e below (T45.setTop (mkF m 189 #[.val (.int p1), .val (.int p2), .val (.int p3), .val (.int (45 : Int32)), .val (.int (85 : Int32)), .val (.ref w_UPDATE_BEFORE), .val (.ref b38), .val (.ref b43), .val (.ref w_UPDATE_BEFORE)] [])) _
            refine XS.aload X45.here hx rfl (hb hby at_189) rfl rfl ?_
            show Steps p.tables e below (T45.setTop (mkF m 191 #[.val (.int p1), .val (.int p2), .val (.int p3), .val (.int (45 : Int32)), .val (.int (85 : Int32)), .val (.ref w_UPDATE_BEFORE), .val (.ref b38), .val (.ref b43), .val (.ref w_UPDATE_BEFORE)] [(.ref w_UPDATE_BEFORE)])) _
            refine st46.trans ?_
            show Steps p.tables e below (T46.setTop (mkF m 194 #[.val (.int p1), .val (.int p2), .val (.int p3), .val (.int (45 : Int32)), .val (.int (85 : Int32)), .val (.ref w_UPDATE_BEFORE), .val (.ref b38), .val (.ref b43), .val (.ref w_UPDATE_BEFORE)] [(.ref w_UPDATE_BEFORE_shortName)])) _
            refine XS.aload X46.here hx rfl (hb hby at_194) rfl rfl ?_
            show Steps p.tables e below (T46.setTop (mkF m 196 #[.val (.int p1), .val (.int p2), .val (.int p3), .val (.int (45 : Int32)), .val (.int (85 : Int32)), .val (.ref w_UPDATE_BEFORE), .val (.ref b38), .val (.ref b43), .val (.ref w_UPDATE_BEFORE)] [(.ref b43), (.ref w_UPDATE_BEFORE_shortName)])) _
            refine st47.trans ?_
            show Steps p.tables e below (T47.setTop (mkF m 199 #[.val (.int p1), .val (.int p2), .val (.int p3), .val (.int (45 : Int32)), .val (.int (85 : Int32)), .val (.ref w_UPDATE_BEFORE), .val (.ref b38), .val (.ref b43), .val (.ref w_UPDATE_BEFORE)] [(.int (1 : Int32))])) _
            refine XS.ifNo X47.here hx rfl (hb hby at_199) rfl ((if0 _ _).trans (feq (by decide : ¬ ((1 : Int32) = (0 : Int32)))).1) ?_
            show Steps p.tables e below (T47.setTop (mkF m 202 #[.val (.int p1), .val (.int p2), .val (.int p3), .val (.int (45 : Int32)), .val (.int (85 : Int32)), .val (.ref w_UPDATE_BEFORE), .val (.ref b38), .val (.ref b43), .val (.ref w_UPDATE_BEFORE)] [])) _
            refine XS.iconst X47.here hx rfl (hb hby at_202) ?_
            show Steps p.tables e below (T47.setTop (mkF m 203 #[.val (.int p1), .val (.int p2), .val (.int p3), .val (.int (45 : Int32)), .val (.int (85 : Int32)), .val (.ref w_UPDATE_BEFORE), .val (.ref b38), .val (.ref b43), .val (.ref w_UPDATE_BEFORE)] [(.int (1 : Int32))])) _
            refine XS.goto X47.here hx rfl (pc0 := 203) (pc' := 207) rfl (hb hby at_203) (by decide) (by decide) ?_
            show Steps p.tables e below (T47.setTop (mkF m 207 #[.val (.int p1), .val (.int p2), .val (.int p3), .val (.int (45 : Int32)), .val (.int (85 : Int32)), .val (.ref w_UPDATE_BEFORE), .val (.ref b38), .val (.ref b43), .val (.ref w_UPDATE_BEFORE)] [(.int (1 : Int32))])) _
            exact retN X47 hx (t := .boolean) Bd.returns (by simp) (hb hby at_207) hr
          · show Q0 Z p1 p2 p3 w__VALUES kV w_INSERT w_UPDATE_BEFORE w_UPDATE_AFTER w_DELETE w_INSERT_shortName w_INSERT_shortName_value k_INSERT w_UPDATE_BEFORE_shortName w_UPDATE_BEFORE_shortName_value k_UPDATE_BEFORE w_UPDATE_AFTER_shortName w_UPDATE_AFTER_shortName_value k_UPDATE_AFTER w_DELETE_shortName w_DELETE_shortName_value k_DELETE w_COMPACT_STRINGS h0 n0 _ T47.heap _
            rw [e47]
            exact ⟨by rw [res0, if_pos hc3_2, if_neg hc75_6, if_pos hc111_34, if_pos hc118_36], N47⟩
        · have pre48 : ∀ t, Steps p.tables e below (T4.setTop (mkF m 133 #[.val (.int p1), .val (.int p2), .val (.int p3), .val (.int (45 : Int32)), .val (.int (res1 p3)), .val .null, .unset, .unset, .unset] [(.int (68 : Int32)), (.int (res1 p3))])) t → Steps p.tables e below (s₁.setTop (entryFrame m #[(.int p1), (.int p2), (.int p3)] maxLocals)) t := by
            intro t kt
            refine pre35 _ ?_
            show Steps p.tables e below (T4.setTop (mkF m 118 #[.val (.int p1), .val (.int p2), .val (.int p3), .val (.int (45 : Int32)), .val (.int (res1 p3)), .val .null, .unset, .unset, .unset] [(.int (85 : Int32)), (.int (res1 p3))])) _
            refine XS.icmpYes X4.here hx rfl (pc0 := 118) (pc' := 129) rfl (hb hby at_118) rfl (feq hc118_36).2 (by decide) (by decide) ?_
            show Steps p.tables e below (T4.setTop (mkF m 129 #[.val (.int p1), .val (.int p2), .val (.int p3), .val (.int (45 : Int32)), .val (.int (res1 p3)), .val .null, .unset, .unset, .unset] [])) _
            refine XS.iload X4.here hx rfl (hb hby at_129) rfl ?_
            show Steps p.tables e below (T4.setTop (mkF m 131 #[.val (.int p1), .val (.int p2), .val (.int p3), .val (.int (45 : Int32)), .val (.int (res1 p3)), .val .null, .unset, .unset, .unset] [(.int (res1 p3))])) _
            refine XS.bipush X4.here hx rfl (hb hby at_131) ?_
            exact kt
          by_cases hc133_49 : (res1 p3) = (68 : Int32)
          · rw [hc133_49] at pre48
            obtain ⟨T50, X50, e50, st50⟩ := getS2 X4 hx hZ hown (host := "") (Or.inl (hw _ (List.mem_of_getElem? (i := 76) rfl))) Via.refl e4 S_DELETE (g := (mkF m 136 #[.val (.int p1), .val (.int p2), .val (.int p3), .val (.int (45 : Int32)), .val (.int (68 : Int32)), .val .null, .unset, .unset, .unset] [])) rfl (hb hby at_136)
            obtain ⟨T51, h51, k51, X51, e51, E51, A51, st51⟩ := newP X50 hx hZ (hw _ (List.mem_of_getElem? (i := 7) rfl)) e50 (g := (mkF m 149 #[.val (.int p1), .val (.int p2), .val (.int p3), .val (.int (45 : Int32)), .val (.int (68 : Int32)), .val (.ref w_DELETE), .unset, .unset, .unset] [(.int (2 : Int32))])) rfl (hb hby at_149) rfl (by decide) (cap := 2) (by decide) (by decide) (by decide) (by decide)
            obtain ⟨b51, g51⟩ : ∃ z, z = h0.size := ⟨_, rfl⟩
            rw [← g51] at A51 st51
            have sz_b51 : h0.size ≤ b51 := Nat.le_trans (Keep.refl h0 []).1 (Nat.le_of_eq g51.symm)
            have g_b51 : n0 ≤ b51 := Nat.le_trans Z0 sz_b51
            have K51 : Keep h0 h51 [] := (Keep.refl h0 []).ext E51
            have V_b51 : Arv Z h51 b51 k51 .char (2 : Int32) [(.int (0 : Int32)), (.int (0 : Int32))] (.int (0 : Int32)) := (Arv.new A51 (by decide)).pad (pad_rep [] (.int (0 : Int32)) 2)
            obtain ⟨cl_b51_157_52, Ar_b51_157_52, q_b51_157_52, S_b51_157_52, N_b51_157_52, H_b51_157_52, G_b51_157_52⟩ := id V_b51
            have hin_b51_157_52 : ¬ ((0 : Int32) < 0 ∨ cl_b51_157_52.slots.size ≤ ((0 : Int32) : Int32).toNatClampNeg) := inb_of S_b51_157_52 ⟨by decide, by decide⟩
            obtain ⟨T53, h53, X53, e53, W53, st53⟩ := stC X51 hx hZ e51 Ar_b51_157_52 (j := (0 : Int32)) hin_b51_157_52 (g := (mkF m 157 #[.val (.int p1), .val (.int p2), .val (.int p3), .val (.int (45 : Int32)), .val (.int (68 : Int32)), .val (.ref w_DELETE), .val (.ref b51), .unset, .unset] [(.int (45 : Int32)), (.int (0 : Int32)), (.ref b51)])) rfl rfl (hb hby at_157)
            have V_b51_157_52 : Arv Z h53 b51 k51 .char (2 : Int32) [(.int (45 : Int32)), (.int (0 : Int32))] (.int (0 : Int32)) := Arv.set Ar_b51_157_52 q_b51_157_52 S_b51_157_52 N_b51_157_52 H_b51_157_52 G_b51_157_52 (fits_nar_char _) W53 0 rfl (Nat.le_of_ble_eq_true rfl)
            have K53 : Keep h0 h53 [] := K51.wr W53 (Or.inr sz_b51)
            have N53 := Fr.snoc X53 N4 g_b51
            obtain ⟨cl_b51_163_54, Ar_b51_163_54, q_b51_163_54, S_b51_163_54, N_b51_163_54, H_b51_163_54, G_b51_163_54⟩ := id V_b51_157_52
            have hin_b51_163_54 : ¬ ((1 : Int32) < 0 ∨ cl_b51_163_54.slots.size ≤ ((1 : Int32) : Int32).toNatClampNeg) := inb_of S_b51_163_54 ⟨by decide, by decide⟩
            obtain ⟨T55, h55, X55, e55, W55, st55⟩ := stC X53 hx hZ e53 Ar_b51_163_54 (j := (1 : Int32)) hin_b51_163_54 (g := (mkF m 163 #[.val (.int p1), .val (.int p2), .val (.int p3), .val (.int (45 : Int32)), .val (.int (68 : Int32)), .val (.ref w_DELETE), .val (.ref b51), .unset, .unset] [(.int (68 : Int32)), (.int (1 : Int32)), (.ref b51)])) rfl rfl (hb hby at_163)
            have V_b51_163_54 : Arv Z h55 b51 k51 .char (2 : Int32) [(.int (45 : Int32)), (.int (68 : Int32))] (.int (0 : Int32)) := Arv.set Ar_b51_163_54 q_b51_163_54 S_b51_163_54 N_b51_163_54 H_b51_163_54 G_b51_163_54 (fits_nar_char _) W55 1 rfl (Nat.le_of_ble_eq_true rfl)
            have K55 : Keep h0 h55 [] := K53.wr W55 (Or.inr sz_b51)
            have N55 := Fr.snoc X55 N53 g_b51
            obtain ⟨T56, h56, X56, e56, E56, A56, D56, -, st56⟩ := newO X55 hx hZ hown (hw _ (List.mem_of_getElem? (i := 8) rfl)) (hw _ (List.mem_of_getElem? (i := 9) rfl)) (hw _ (List.mem_of_getElem? (i := 10) rfl)) e55 (g := (mkF m 164 #[.val (.int p1), .val (.int p2), .val (.int p3), .val (.int (45 : Int32)), .val (.int (68 : Int32)), .val (.ref w_DELETE), .val (.ref b51), .unset, .unset] [])) rfl (hb hby at_164) (by decide) (by decide)
            obtain ⟨b56, g56⟩ : ∃ z, z = h55.size := ⟨_, rfl⟩
            rw [← g56] at A56 D56 st56
            have sz_b56 : h0.size ≤ b56 := Nat.le_trans K55.1 (Nat.le_of_eq g56.symm)
            have g_b56 : n0 ≤ b56 := Nat.le_trans Z0 sz_b56
            have K56 : Keep h0 h56 [] := K55.ext E56
            have F_coder_b56 : Fld Z h56 b56 "java/lang/String" "coder" "B" (.int (0 : Int32)) := D56 (Or.inr (hw _ (List.mem_of_getElem? (i := 34) rfl))) (ty := .byte) (by decide)
            have F_value_b56 : Fld Z h56 b56 "java/lang/String" "value" "[B" .null := D56 (Or.inr (hw _ (List.mem_of_getElem? (i := 36) rfl))) (ty := (.array .byte)) (by decide)
            obtain ⟨_, _, ⟨T57, L57, k57, n57⟩, -, X57, ⟨Lc57, hQ57, l57, y57, z57⟩, st57⟩ := X56.specialBack hx (y := (⟨"java/lang/String", "<init>", "([C)V"⟩ : MethodName)) rfl hown (mvT hZ (hw _ (List.mem_of_getElem? (i := 11) rfl))) (mvT hZ (hw _ (List.mem_of_getElem? (i := 12) rfl))) (mvT hZ (hw _ (List.mem_of_getElem? (i := 13) rfl))) (by decide) (backOf (W := 1) (rm_ini1_2 l Z a0 hw [] b56 b51 k51 (45 : Int32) (68 : Int32) w_COMPACT_STRINGS (.int (0 : Int32)) .null h56 n0 (Nat.le_trans Z0 K56.1) (V_b51_163_54.ext E56) ((((S_COMPACT_STRINGS.ext E51).wr W53).wr W55).ext E56) A56 F_coder_b56 g_b56 F_value_b56 (by decide : ¬ ((255 : Int32) < (45 : Int32))) (by decide : ¬ ((255 : Int32) < (68 : Int32))) (hCS : ¬ (w_COMPACT_STRINGS = (0 : Int32)))) hZ (hw _ (List.mem_of_getElem? (i := 13) rfl)) (hw _ (List.mem_of_getElem? (i := 10) rfl)) (by decide) (by decide)) (g := (mkF m 170 #[.val (.int p1), .val (.int p2), .val (.int p3), .val (.int (45 : Int32)), .val (.int (68 : Int32)), .val (.ref w_DELETE), .val (.ref b51), .unset, .unset] [(.ref b51), (.ref b56), (.ref b56)])) rfl (by rw [hml]; rfl) (Steps.refl _) (a := b56) (argsL := [(.ref b51)]) (rest := [(.ref b56)]) (lenOf pd8 rfl) rfl (by show 2 * 0 + _ ≤ _; exact Nat.le_of_eq rfl) (hb hby at_170) (fun _ _ => ⟨rfl, e56, (by decide : 2 + 1 ≤ _), (by decide : 6 + 2 ≤ _)⟩)
            dsimp only [Pt.U, Pt.locs, Pt.cells, Pt.slots] at X57 l57 y57 z57 st57 hQ57
            subst l57 y57 z57
            obtain ⟨b1_3_2_57, k1_3_2_57, rfl, N57q, K57, s57_b1_3_2, f57_0, f57_1, f57_2, f57_3⟩ := hQ57
            have N57 := Fr.app N55 N57q
            have sz_b1_3_2_57 : h0.size ≤ b1_3_2_57 := Nat.le_trans K56.1 s57_b1_3_2
            have g_b1_3_2_57 : n0 ≤ b1_3_2_57 := Nat.le_trans Z0 sz_b1_3_2_57
            have KK57 : Keep h0 T57.heap [] := K56.trans K57 (allS (Or.inr sz_b56) all0)
            obtain ⟨_, _, ⟨T58, L58, k58, n58⟩, -, X58, ⟨Lc58, hQ58, l58, y58, z58⟩, st58⟩ := Jvm.LawKit.callS X57 hx (y := (⟨"com/example/tidemark/tidemark/table/RowKind", "fromShortName", "(Ljava/lang/String;)Lcom/example/tidemark/tidemark/table/RowKind;"⟩ : MethodName)) hown (mvT hZ (hw _ (List.mem_of_getElem? (i := 37) rfl))) (mvT hZ (hw _ (List.mem_of_getElem? (i := 38) rfl))) (mvT hZ (hw _ (List.mem_of_getElem? (i := 5) rfl))) (mvT hZ (hw _ (List.mem_of_getElem? (i := 39) rfl))) (by decide) (backOf (W := 0) (rm8 l Z a0 hw [] b56 w__VALUES kV w_INSERT w_UPDATE_BEFORE w_UPDATE_AFTER w_DELETE w_INSERT_shortName w_INSERT_shortName_value k_INSERT w_UPDATE_BEFORE_shortName w_UPDATE_BEFORE_shortName_value k_UPDATE_BEFORE w_UPDATE_AFTER_shortName w_UPDATE_AFTER_shortName_value k_UPDATE_AFTER w_DELETE_shortName w_DELETE_shortName_value k_DELETE b1_3_2_57 k1_3_2_57 (nar .byte ((45 : Int32).toInt8.toInt32)) (nar .byte ((68 : Int32).toInt8.toInt32)) w_COMPACT_STRINGS T57.heap n0 (Nat.le_trans Z0 KK57.1) (own_sta_keep ((((S__VALUES.ext E51).wr W53).wr W55).ext E56) K57 (allS (own_exa_ns A56) all0)) (((((E_w__VALUES.ext E51).wr W53).wr W55).ext E56).keep K57) (((((V_w__VALUES.ext E51).other W53 (Nat.ne_of_lt (Nat.lt_of_lt_of_le E_w__VALUES.lt (Nat.le_of_eq g51.symm)))).other W55 (Nat.ne_of_lt (Nat.lt_of_lt_of_le E_w__VALUES.lt (Nat.le_of_eq g51.symm)))).ext E56).keep K57 (ninS (Nat.ne_of_lt (Nat.lt_of_lt_of_le (((E_w__VALUES.ext E51).wr W53).wr W55).lt (Nat.le_of_eq g56.symm))) nin0)) (((((F_shortName_w_INSERT.ext E51).other W53 (Or.inl (Nat.ne_of_lt (Nat.lt_of_lt_of_le E_w_INSERT.lt (Nat.le_of_eq g51.symm))))).other W55 (Or.inl (Nat.ne_of_lt (Nat.lt_of_lt_of_le E_w_INSERT.lt (Nat.le_of_eq g51.symm))))).ext E56).keep K57 (ninS (Nat.ne_of_lt (Nat.lt_of_lt_of_le (((E_w_INSERT.ext E51).wr W53).wr W55).lt (Nat.le_of_eq g56.symm))) nin0)) (((((E_w_INSERT_shortName.ext E51).wr W53).wr W55).ext E56).keep K57) (((((F_coder_w_INSERT_shortName.ext E51).other W53 (Or.inl (Nat.ne_of_lt (Nat.lt_of_lt_of_le E_w_INSERT_shortName.lt (Nat.le_of_eq g51.symm))))).other W55 (Or.inl (Nat.ne_of_lt (Nat.lt_of_lt_of_le E_w_INSERT_shortName.lt (Nat.le_of_eq g51.symm))))).ext E56).keep K57 (ninS (Nat.ne_of_lt (Nat.lt_of_lt_of_le (((E_w_INSERT_shortName.ext E51).wr W53).wr W55).lt (Nat.le_of_eq g56.symm))) nin0)) (((((F_value_w_INSERT_shortName.ext E51).other W53 (Or.inl (Nat.ne_of_lt (Nat.lt_of_lt_of_le E_w_INSERT_shortName.lt (Nat.le_of_eq g51.symm))))).other W55 (Or.inl (Nat.ne_of_lt (Nat.lt_of_lt_of_le E_w_INSERT_shortName.lt (Nat.le_of_eq g51.symm))))).ext E56).keep K57 (ninS (Nat.ne_of_lt (Nat.lt_of_lt_of_le (((E_w_INSERT_shortName.ext E51).wr W53).wr W55).lt (Nat.le_of_eq g56.symm))) nin0)) (((((V_w_INSERT_shortName_value.ext E51).other W53 (Nat.ne_of_lt (Nat.lt_of_lt_of_le V_w_INSERT_shortName_value.lt (Nat.le_of_eq g51.symm)))).other W55 (Nat.ne_of_lt (Nat.lt_of_lt_of_le V_w_INSERT_shortName_value.lt (Nat.le_of_eq g51.symm)))).ext E56).keep K57 (ninS (Nat.ne_of_lt (Nat.lt_of_lt_of_le (((V_w_INSERT_shortName_value.ext E51).other W53 (Nat.ne_of_lt (Nat.lt_of_lt_of_le V_w_INSERT_shortName_value.lt (Nat.le_of_eq g51.symm)))).other W55 (Nat.ne_of_lt (Nat.lt_of_lt_of_le V_w_INSERT_shortName_value.lt (Nat.le_of_eq g51.symm)))).lt (Nat.le_of_eq g56.symm))) nin0)) (((((F_shortName_w_UPDATE_BEFORE.ext E51).other W53 (Or.inl (Nat.ne_of_lt (Nat.lt_of_lt_of_le E_w_UPDATE_BEFORE.lt (Nat.le_of_eq g51.symm))))).other W55 (Or.inl (Nat.ne_of_lt (Nat.lt_of_lt_of_le E_w_UPDATE_BEFORE.lt (Nat.le_of_eq g51.symm))))).ext E56).keep K57 (ninS (Nat.ne_of_lt (Nat.lt_of_lt_of_le (((E_w_UPDATE_BEFORE.ext E51).wr W53).wr W55).lt (Nat.le_of_eq g56.symm))) nin0)) (((((E_w_UPDATE_BEFORE_shortName.ext E51).wr W53).wr W55).ext E56).keep K57) (((((F_coder_w_UPDATE_BEFORE_shortName.ext E51).other W53 (Or.inl (Nat.ne_of_lt (Nat.lt_of_lt_of_le E_w_UPDATE_BEFORE_shortName.lt (Nat.le_of_eq g51.symm))))).other W55 (Or.inl (Nat.ne_of_lt (Nat.lt_of_lt_of_le E_w_UPDATE_BEFORE_shortName.lt (Nat.le_of_eq g51.symm))))).ext E56).keep K57 (ninS (Nat.ne_of_lt (Nat.lt_of_lt_of_le (((E_w_UPDATE_BEFORE_shortName.ext E51).wr W53).wr W55).lt (Nat.le_of_eq g56.symm))) nin0)) (((((F_value_w_UPDATE_BEFORE_shortName.ext E51).other W53 (Or.inl (Nat.ne_of_lt (Nat.lt_of_lt_of_le E_w_UPDATE_BEFORE_shortName.lt (Nat.le_of_eq g51.symm))))).other W55 (Or.inl (Nat.ne_of_lt (Nat.lt_of_lt_of_le E_w_UPDATE_BEFORE_shortName.lt (Nat.le_of_eq g51.symm))))).ext E56).keep K57 (ninS (Nat.ne_of_lt (Nat.lt_of_lt_of_le (((E_w_UPDATE_BEFORE_shortName.ext E51).wr W53).wr W55).lt (Nat.le_of_eq g56.symm))) nin0)) (((((V_w_UPDATE_BEFORE_shortName_value.ext E51).other W53 (Nat.ne_of_lt (Nat.lt_of_lt_of_le V_w_UPDATE_BEFORE_shortName_value.lt (Nat.le_of_eq g51.symm)))).other W55 (Nat.ne_of_lt (Nat.lt_of_lt_of_le V_w_UPDATE_BEFORE_shortName_value.lt (Nat.le_of_eq g51.symm)))).ext E56).keep K57 (ninS (Nat.ne_of_lt (Nat.lt_of_lt_of_le (((V_w_UPDATE_BEFORE_shortName_value.ext E51).other W53 (Nat.ne_of_lt (Nat.lt_of_lt_of_le V_w_UPDATE_BEFORE_shortName_value.lt (Nat.le_of_eq g51.symm)))).other W55 (Nat.ne_of_lt (Nat.lt_of_lt_of_le V_w_UPDATE_BEFORE_shortName_value.lt (Nat.le_of_eq g51.symm)))).lt (Nat.le_of_eq g56.symm))) nin0)) (((((F_shortName_w_UPDATE_AFTER.ext E51).other W53 (Or.inl (Nat.ne_of_lt (Nat.lt_of_lt_of_le E_w_UPDATE_AFTER.lt (Nat.le_of_eq g51.symm))))).other W55 (Or.inl (Nat.ne_of_lt (Nat.lt_of_lt_of_le E_w_UPDATE_AFTER.lt (Nat.le_of_eq g51.symm))))).ext E56).keep K57 (ninS (Nat.ne_of_lt (Nat.lt_of_lt_of_le (((E_w_UPDATE_AFTER.ext E51).wr W53).wr W55).lt (Nat.le_of_eq g56.symm))) nin0)) (((((E_w_UPDATE_AFTER_shortName.ext E51).wr W53).wr W55).ext E56).keep K57) (((((F_coder_w_UPDATE_AFTER_shortName.ext E51).other W53 (Or.inl (Nat.ne_of_lt (Nat.lt_of_lt_of_le E_w_UPDATE_AFTER_shortName.lt (Nat.le_of_eq g51.symm))))).other W55 (Or.inl (Nat.ne_of_lt (Nat.lt_of_lt_of_le E_w_UPDATE_AFTER_shortName.lt (Nat.le_of_eq g51.symm))))).ext E56).keep K57 (ninS (Nat.ne_of_lt (Nat.lt_of_lt_of_le (((E_w_UPDATE_AFTER_shortName.ext E51).wr W53).wr W55).lt (Nat.le_of_eq g56.symm))) nin0)) (((((F_value_w_UPDATE_AFTER_shortName.ext E51).other W53 (Or.inl (Nat.ne_of_lt (Nat.lt_of_lt_of_le E_w_UPDATE_AFTER_shortName.lt (Nat.le_of_eq g51.symm))))).other W55 (Or.inl (Nat.ne_of_lt (Nat.lt_of_lt_of_le E_w_UPDATE_AFTER_shortName.lt (Nat.le_of_eq g51.symm))))).ext E56).keep K57 (ninS (Nat.ne_of_lt (Nat.lt_of_lt_of_le (((E_w_UPDATE_AFTER_shortName.ext E51).wr W53).wr W55).lt (Nat.le_of_eq g56.symm))) nin0)) (((((V_w_UPDATE_AFTER_shortName_value.ext E51).other W53 (Nat.ne_of_lt (Nat.lt_of_lt_of_le V_w_UPDATE_AFTER_shortName_value.lt (Nat.le_of_eq g51.symm)))).other W55 (Nat.ne_of_lt (Nat.lt_of_lt_of_le V_w_UPDATE_AFTER_shortName_value.lt (Nat.le_of_eq g51.symm)))).ext E56).keep K57 (ninS (Nat.ne_of_lt (Nat.lt_of_lt_of_le (((V_w_UPDATE_AFTER_shortName_value.ext E51).other W53 (Nat.ne_of_lt (Nat.lt_of_lt_of_le V_w_UPDATE_AFTER_shortName_value.lt (Nat.le_of_eq g51.symm)))).other W55 (Nat.ne_of_lt (Nat.lt_of_lt_of_le V_w_UPDATE_AFTER_shortName_value.lt (Nat.le_of_eq g51.symm)))).lt (Nat.le_of_eq g56.symm))) nin0)) (((((F_shortName_w_DELETE.ext E51).other W53 (Or.inl (Nat.ne_of_lt (Nat.lt_of_lt_of_le E_w_DELETE.lt (Nat.le_of_eq g51.symm))))).other W55 (Or.inl (Nat.ne_of_lt (Nat.lt_of_lt_of_le E_w_DELETE.lt (Nat.le_of_eq g51.symm))))).ext E56).keep K57 (ninS (Nat.ne_of_lt (Nat.lt_of_lt_of_le (((E_w_DELETE.ext E51).wr W53).wr W55).lt (Nat.le_of_eq g56.symm))) nin0)) (((((E_w_DELETE_shortName.ext E51).wr W53).wr W55).ext E56).keep K57) (((((F_coder_w_DELETE_shortName.ext E51).other W53 (Or.inl (Nat.ne_of_lt (Nat.lt_of_lt_of_le E_w_DELETE_shortName.lt (Nat.le_of_eq g51.symm))))).other W55 (Or.inl (Nat.ne_of_lt (Nat.lt_of_lt_of_le E_w_DELETE_shortName.lt (Nat.le_of_eq g51.symm))))).ext E56).keep K57 (ninS (Nat.ne_of_lt (Nat.lt_of_lt_of_le (((E_w_DELETE_shortName.ext E51).wr W53).wr W55).lt (Nat.le_of_eq g56.symm))) nin0)) (((((F_value_w_DELETE_shortName.ext E51).other W53 (Or.inl (Nat.ne_of_lt (Nat.lt_of_lt_of_le E_w_DELETE_shortName.lt (Nat.le_of_eq g51.symm))))).other W55 (Or.inl (Nat.ne_of_lt (Nat.lt_of_lt_of_le E_w_DELETE_shortName.lt (Nat.le_of_eq g51.symm))))).ext E56).keep K57 (ninS (Nat.ne_of_lt (Nat.lt_of_lt_of_le (((E_w_DELETE_shortName.ext E51).wr W53).wr W55).lt (Nat.le_of_eq g56.symm))) nin0)) (((((V_w_DELETE_shortName_value.ext E51).other W53 (Nat.ne_of_lt (Nat.lt_of_lt_of_le V_w_DELETE_shortName_value.lt (Nat.le_of_eq g51.symm)))).other W55 (Nat.ne_of_lt (Nat.lt_of_lt_of_le V_w_DELETE_shortName_value.lt (Nat.le_of_eq g51.symm)))).ext E56).keep K57 (ninS (Nat.ne_of_lt (Nat.lt_of_lt_of_le (((V_w_DELETE_shortName_value.ext E51).other W53 (Nat.ne_of_lt (Nat.lt_of_lt_of_le V_w_DELETE_shortName_value.lt (Nat.le_of_eq g51.symm)))).other W55 (Nat.ne_of_lt (Nat.lt_of_lt_of_le V_w_DELETE_shortName_value.lt (Nat.le_of_eq g51.symm)))).lt (Nat.le_of_eq g56.symm))) nin0)) (A56.keep K57) f57_1 f57_2 f57_3 (own_sta_keep ((((S_COMPACT_STRINGS.ext E51).wr W53).wr W55).ext E56) K57 (allS (own_exa_ns A56) all0)) (hCS : ¬ (w_COMPACT_STRINGS = (0 : Int32))) (by decide : ((nar .byte ((45 : Int32).toInt8.toInt32)) = (43 : Int32) ∧ (nar .byte ((68 : Int32).toInt8.toInt32)) = (73 : Int32)) ∨ ((nar .byte ((45 : Int32).toInt8.toInt32)) = (45 : Int32) ∧ (nar .byte ((68 : Int32).toInt8.toInt32)) = (85 : Int32)) ∨ ((nar .byte ((45 : Int32).toInt8.toInt32)) = (43 : Int32) ∧ (nar .byte ((68 : Int32).toInt8.toInt32)) = (85 : Int32)) ∨ ((nar .byte ((45 : Int32).toInt8.toInt32)) = (45 : Int32) ∧ (nar .byte ((68 : Int32).toInt8.toInt32)) = (68 : Int32))) ((Nat.ne_of_lt (Nat.lt_of_lt_of_le (((E_w_INSERT_shortName.ext E51).wr W53).wr W55).lt (Nat.le_of_eq g56.symm))) : w_INSERT_shortName ≠ b56) ((Nat.ne_of_lt (Nat.lt_of_lt_of_le (((E_w_UPDATE_BEFORE_shortName.ext E51).wr W53).wr W55).lt (Nat.le_of_eq g56.symm))) : w_UPDATE_BEFORE_shortName ≠ b56) ((Nat.ne_of_lt (Nat.lt_of_lt_of_le (((E_w_UPDATE_AFTER_shortName.ext E51).wr W53).wr W55).lt (Nat.le_of_eq g56.symm))) : w_UPDATE_AFTER_shortName ≠ b56) ((Nat.ne_of_lt (Nat.lt_of_lt_of_le (((E_w_DELETE_shortName.ext E51).wr W53).wr W55).lt (Nat.le_of_eq g56.symm))) : w_DELETE_shortName ≠ b56)) hZ (hw _ (List.mem_of_getElem? (i := 39) rfl)) (hw _ (List.mem_of_getElem? (i := 5) rfl)) (by decide) (by decide)) (g := (mkF m 177 #[.val (.int p1), .val (.int p2), .val (.int p3), .val (.int (45 : Int32)), .val (.int (68 : Int32)), .val (.ref w_DELETE), .val (.ref b51), .val (.ref b56), .unset] [(.ref b56)])) rfl (by rw [hml]; rfl) (argsL := [(.ref b56)]) (rest := []) (lenOf pd9 rfl) rfl (by show 2 * 0 + _ ≤ _; exact Nat.le_of_eq rfl) (hb hby at_177) (fun _ _ => ⟨rfl, rfl, (by decide : 3 + 1 ≤ _), (by decide : 8 + 4 ≤ _)⟩)
            dsimp only [Pt.U, Pt.locs, Pt.cells, Pt.slots] at X58 l58 y58 z58 st58 hQ58
            subst l58 y58 z58
            obtain ⟨rfl, N58q, K58⟩ := hQ58
            have N58 := Fr.app N57 N58q
            have KK58 : Keep h0 T58.heap [] := KK57.trans K58 all0
            have ev58 : (res8 w_INSERT w_UPDATE_BEFORE w_UPDATE_AFTER w_DELETE (nar .byte ((45 : Int32).toInt8.toInt32)) (nar .byte ((68 : Int32).toInt8.toInt32))) = w_DELETE := by first | rfl | decide
            rw [ev58] at st58
            obtain ⟨cq59, kq59, q59a, q59b, q59c⟩ := isOf hZ rfl ((((((E_w_DELETE.ext E51).wr W53).wr W55).ext E56).keep K57).keep K58)
            obtain ⟨_, _, ⟨T59, L59, k59, n59⟩, -, X59, ⟨Lc59, hQ59, l59, y59, z59⟩, st59⟩ := X58.virtualBack hx (y := (⟨"com/example/tidemark/tidemark/table/RowKind", "shortName", "()Ljava/lang/String;"⟩ : MethodName)) (z := (⟨"com/example/tidemark/tidemark/table/RowKind", "shortName", "()Ljava/lang/String;"⟩ : MethodName)) hown (mvT hZ (hw _ (List.mem_of_getElem? (i := 70) rfl))) (mvT hZ (hw _ (List.mem_of_getElem? (i := 71) rfl))) (notFace_of_selects (args := #[]) (mvT hZ (hw _ (List.mem_of_getElem? (i := 73) rfl)))) (mvT hZ (hw _ (List.mem_of_getElem? (i := 73) rfl))) (mvT hZ (hw _ (List.mem_of_getElem? (i := 72) rfl))) (by decide) (backOf (W := 0) (rm12 l Z a0 hw [] w_DELETE w_DELETE_shortName T58.heap n0 (Nat.le_trans Z0 KK58.1) ((((((F_shortName_w_DELETE.ext E51).other W53 (Or.inl (Nat.ne_of_lt (Nat.lt_of_lt_of_le E_w_DELETE.lt (Nat.le_of_eq g51.symm))))).other W55 (Or.inl (Nat.ne_of_lt (Nat.lt_of_lt_of_le E_w_DELETE.lt (Nat.le_of_eq g51.symm))))).ext E56).keep K57 (ninS (Nat.ne_of_lt (Nat.lt_of_lt_of_le (((E_w_DELETE.ext E51).wr W53).wr W55).lt (Nat.le_of_eq g56.symm))) nin0)).keep K58 nin0) ) hZ (hw _ (List.mem_of_getElem? (i := 74) rfl)) (hw _ (List.mem_of_getElem? (i := 5) rfl)) (by decide) (by decide)) q59a q59c (g := (mkF m 191 #[.val (.int p1), .val (.int p2), .val (.int p3), .val (.int (45 : Int32)), .val (.int (68 : Int32)), .val (.ref w_DELETE), .val (.ref b51), .val (.ref b56), .val (.ref w_DELETE)] [(.ref w_DELETE)])) rfl (by rw [hml]; rfl) (Steps.refl _) (argsL := []) (rest := []) (lenOf pd10 rfl) rfl (by show 2 * 0 + _ ≤ _; exact Nat.le_of_eq rfl) (hb hby at_191) (fun _ _ => ⟨rfl, rfl, (by decide : 4 + 0 ≤ _), (by decide : 12 + 0 ≤ _)⟩)
            dsimp only [Pt.U, Pt.locs, Pt.cells, Pt.slots] at X59 l59 y59 z59 st59 hQ59
            subst l59 y59 z59
            obtain ⟨rfl, rfl, e59⟩ := hQ59
            have N59 := Fr.app N58 (Fr.nil n0)
            obtain ⟨cq60, kq60, q60a, q60b, q60c⟩ := isOf hZ e59 ((((((E_w_DELETE_shortName.ext E51).wr W53).wr W55).ext E56).keep K57).keep K58)
            obtain ⟨_, _, ⟨T60, L60, k60, n60⟩, -, X60, ⟨Lc60, hQ60, l60, y60, z60⟩, st60⟩ := X59.virtualBack hx (y := (⟨"java/lang/String", "equals", "(Ljava/lang/Object;)Z"⟩ : MethodName)) (z := (⟨"java/lang/String", "equals", "(Ljava/lang/Object;)Z"⟩ : MethodName)) hown (mvT hZ (hw _ (List.mem_of_getElem? (i := 75) rfl))) (mvT hZ (hw _ (List.mem_of_getElem? (i := 61) rfl))) (notFace_of_selects (args := #[]) (mvT hZ (hw _ (List.mem_of_getElem? (i := 63) rfl)))) (mvT hZ (hw _ (List.mem_of_getElem? (i := 63) rfl))) (mvT hZ (hw _ (List.mem_of_getElem? (i := 62) rfl))) (by decide) (backOf (W := 0) (rm_eq_2_2 l Z a0 hw [] w_DELETE_shortName b56 w_DELETE_shortName_value k_DELETE (45 : Int32) (68 : Int32) b1_3_2_57 k1_3_2_57 (nar .byte ((45 : Int32).toInt8.toInt32)) (nar .byte ((68 : Int32).toInt8.toInt32)) w_COMPACT_STRINGS T58.heap n0 (Nat.le_trans Z0 KK58.1) ((((((E_w_DELETE_shortName.ext E51).wr W53).wr W55).ext E56).keep K57).keep K58) ((((((F_coder_w_DELETE_shortName.ext E51).other W53 (Or.inl (Nat.ne_of_lt (Nat.lt_of_lt_of_le E_w_DELETE_shortName.lt (Nat.le_of_eq g51.symm))))).other W55 (Or.inl (Nat.ne_of_lt (Nat.lt_of_lt_of_le E_w_DELETE_shortName.lt (Nat.le_of_eq g51.symm))))).ext E56).keep K57 (ninS (Nat.ne_of_lt (Nat.lt_of_lt_of_le (((E_w_DELETE_shortName.ext E51).wr W53).wr W55).lt (Nat.le_of_eq g56.symm))) nin0)).keep K58 nin0) ((((((F_value_w_DELETE_shortName.ext E51).other W53 (Or.inl (Nat.ne_of_lt (Nat.lt_of_lt_of_le E_w_DELETE_shortName.lt (Nat.le_of_eq g51.symm))))).other W55 (Or.inl (Nat.ne_of_lt (Nat.lt_of_lt_of_le E_w_DELETE_shortName.lt (Nat.le_of_eq g51.symm))))).ext E56).keep K57 (ninS (Nat.ne_of_lt (Nat.lt_of_lt_of_le (((E_w_DELETE_shortName.ext E51).wr W53).wr W55).lt (Nat.le_of_eq g56.symm))) nin0)).keep K58 nin0) ((((((V_w_DELETE_shortName_value.ext E51).other W53 (Nat.ne_of_lt (Nat.lt_of_lt_of_le V_w_DELETE_shortName_value.lt (Nat.le_of_eq g51.symm)))).other W55 (Nat.ne_of_lt (Nat.lt_of_lt_of_le V_w_DELETE_shortName_value.lt (Nat.le_of_eq g51.symm)))).ext E56).keep K57 (ninS (Nat.ne_of_lt (Nat.lt_of_lt_of_le (((V_w_DELETE_shortName_value.ext E51).other W53 (Nat.ne_of_lt (Nat.lt_of_lt_of_le V_w_DELETE_shortName_value.lt (Nat.le_of_eq g51.symm)))).other W55 (Nat.ne_of_lt (Nat.lt_of_lt_of_le V_w_DELETE_shortName_value.lt (Nat.le_of_eq g51.symm)))).lt (Nat.le_of_eq g56.symm))) nin0)).keep K58 nin0) ((A56.keep K57).keep K58) (f57_1.keep K58 nin0) (f57_2.keep K58 nin0) (f57_3.keep K58 nin0) (own_sta_keep (own_sta_keep ((((S_COMPACT_STRINGS.ext E51).wr W53).wr W55).ext E56) K57 (allS (own_exa_ns A56) all0)) K58 all0) ((Nat.ne_of_lt (Nat.lt_of_lt_of_le (((E_w_DELETE_shortName.ext E51).wr W53).wr W55).lt (Nat.le_of_eq g56.symm))) : w_DELETE_shortName ≠ b56) (hCS : ¬ (w_COMPACT_STRINGS = (0 : Int32)))) hZ (hw _ (List.mem_of_getElem? (i := 64) rfl)) (hw _ (List.mem_of_getElem? (i := 10) rfl)) (by decide) (by decide)) q60a q60c (g := (mkF m 196 #[.val (.int p1), .val (.int p2), .val (.int p3), .val (.int (45 : Int32)), .val (.int (68 : Int32)), .val (.ref w_DELETE), .val (.ref b51), .val (.ref b56), .val (.ref w_DELETE)] [(.ref b56), (.ref w_DELETE_shortName)])) rfl (by rw [hml]; rfl) (Steps.refl _) (argsL := [(.ref b56)]) (rest := []) (lenOf pd6 rfl) rfl (by show 2 * 0 + _ ≤ _; exact Nat.le_of_eq rfl) (hb hby at_196) (fun _ _ => ⟨rfl, e59, (by decide : 4 + 0 ≤ _), (by decide : 12 + 0 ≤ _)⟩)
            dsimp only [Pt.U, Pt.locs, Pt.cells, Pt.slots] at X60 l60 y60 z60 st60 hQ60
            subst l60 y60 z60
            obtain ⟨rfl, rfl, e60⟩ := hQ60
            have N60 := Fr.app N59 (Fr.nil n0)
            have ev60 : (res_eq_2_2 (45 : Int32) (68 : Int32) (nar .byte ((45 : Int32).toInt8.toInt32)) (nar .byte ((68 : Int32).toInt8.toInt32))) = (1 : Int32) := by first | rfl | decide
            rw [ev60] at st60
            obtain ⟨fs, hr, hrun, hended, hW, hsame⟩ := X60.leave (v := some (.int (1 : Int32))) (fun h => by rw [Bd.returns] at h; cases h)
            refine ⟨_, _, pre48 _ ?_, hrun, hended, _, _, rfl, ?_, ⟨_, rfl⟩, hW, hsame.mono (by decide) (by decide)⟩
            · show Steps p.tables e below (T4.setTop (mkF m 133 #[.val (.int p1), .val (.int p2), .val (.int p3), .val (.int (45 : Int32)), .val (.int (68 : Int32)), .val .null, .unset, .unset, .unset] [(.int (68 : Int32)), (.int (68 : Int32))])) _
              refine XS.icmpNo X4.here hx rfl (hb hby at_133) rfl (teq (rfl : (68 : Int32) = (68 : Int32))).2 ?_
              show Steps p.tables e below (T4.setTop (mkF m 136 #[.val (.int p1), .val (.int p2), .val (.int p3), .val (.int (45 : Int32)), .val (.int (68 : Int32)), .val .null, .unset, .unset, .unset] [])) _
              refine st50 _ ?_
              show Steps p.tables e below (T50.setTop (mkF m 139 #[.val (.int p1), .val (.int p2), .val (.int p3), .val (.int (45 : Int32)), .val (.int (68 : Int32)), .val .null, .unset, .unset, .unset] [(.ref w_DELETE)])) _
              refine XS.astore X50.here hx rfl (hb hby at_139) rfl rfl (l' := #[.val (.int p1), .val (.int p2), .val (.int p3), .val (.int (45 : Int32)), .val (.int (68 : Int32)), .val (.ref w_DELETE), .unset, .unset, .unset]) rfl ?_
              show Steps p.tables e below (T50.setTop (mkF m 141 #[.val (.int p1), .val (.int p2), .val (.int p3), .val (.int (45 : Int32)), .val (.int (68 : Int32)), .val (.ref w_DELETE), .unset, .unset, .unset] [])) _
              refine XS.aload X50.here hx rfl (hb hby at_141) rfl rfl ?_
              show Steps p.tables e below (T50.setTop (mkF m 143 #[.val (.int p1), .val (.int p2), .val (.int p3), .val (.int (45 : Int32)), .val (.int (68 : Int32)), .val (.ref w_DELETE), .unset, .unset, .unset] [(.ref w_DELETE)])) _
              refine XS.ifnonnullYes X50.here hx rfl (pc0 := 143) (pc' := 148) rfl (hb hby at_143) rfl (by decide) (by decide) ?_
              show Steps p.tables e below (T50.setTop (mkF m 148 #[.val (.int p1), .val (.int p2), .val (.int p3), .val (.int (45 : Int32)), .val (.int (68 : Int32)), .val (.ref w_DELETE), .unset, .unset, .unset] [])) _
              refine XS.iconst X50.here hx rfl (hb hby at_148) ?_
              show Steps p.tables e below (T50.setTop (mkF m 149 #[.val (.int p1), .val (.int p2), .val (.int p3), .val (.int (45 : Int32)), .val (.int (68 : Int32)), .val (.ref w_DELETE), .unset, .unset, .unset] [(.int (2 : Int32))])) _
              refine st51 _ ?_
              show Steps p.tables e below (T51.setTop (mkF m 151 #[.val (.int p1), .val (.int p2), .val (.int p3), .val (.int (45 : Int32)), .val (.int (68 : Int32)), .val (.ref w_DELETE), .unset, .unset, .unset] [(.ref b51)])) _
              refine XS.astore X51.here hx rfl (hb hby at_151) rfl rfl (l' := #[.val (.int p1), .val (.int p2), .val (.int p3), .val (.int (45 : Int32)), .val (.int (68 : Int32)), .val (.ref w_DELETE), .val (.ref b51), .unset, .unset]) rfl ?_
              show Steps p.tables e below (T51.setTop (mkF m 153 #[.val (.int p1), .val (.int p2), .val (.int p3), .val (.int (45 : Int32)), .val (.int (68 : Int32)), .val (.ref w_DELETE), .val (.ref b51), .unset, .unset] [])) _
              refine XS.aload X51.here hx rfl (hb hby at_153) rfl rfl ?_
              show Steps p.tables e below (T51.setTop (mkF m 155 #[.val (.int p1), .val (.int p2), .val (.int p3), .val (.int (45 : Int32)), .val (.int (68 : Int32)), .val (.ref w_DELETE), .val (.ref b51), .unset, .unset] [(.ref b51)])) _
              refine XS.iconst X51.here hx rfl (hb hby at_155) ?_
              show Steps p.tables e below (T51.setTop (mkF m 156 #[.val (.int p1), .val (.int p2), .val (.int p3), .val (.int (45 : Int32)), .val (.int (68 : Int32)), .val (.ref w_DELETE), .val (.ref b51), .unset, .unset] [(.int (0 : Int32)), (.ref b51)])) _
              refine XS.iloadN X51.here hx rfl (hb hby at_156) rfl ?_
              show Steps p.tables e below (T51.setTop (mkF m 157 #[.val (.int p1), .val (.int p2), .val (.int p3), .val (.int (45 : Int32)), .val (.int (68 : Int32)), .val (.ref w_DELETE), .val (.ref b51), .unset, .unset] [(.int (45 : Int32)), (.int (0 : Int32)), (.ref b51)])) _
              refine st53 _ ?_
              show Steps p.tables e below (T53.setTop (mkF m 158 #[.val (.int p1), .val (.int p2), .val (.int p3), .val (.int (45 : Int32)), .val (.int (68 : Int32)), .val (.ref w_DELETE), .val (.ref b51), .unset, .unset] [])) _
              refine XS.aload X53.here hx rfl (hb hby at_158) rfl rfl ?_
              show Steps p.tables e below (T53.setTop (mkF m 160 #[.val (.int p1), .val (.int p2), .val (.int p3), .val (.int (45 : Int32)), .val (.int (68 : Int32)), .val (.ref w_DELETE), .val (.ref b51), .unset, .unset] [(.ref b51)])) _
              refine XS.iconst X53.here hx rfl (hb hby at_160) ?_
              show Steps p.tables e below (T53.setTop (mkF m 161 #[.val (.int p1), .val (.int p2), .val (.int p3), .val (.int (45 : Int32)), .val (.int (68 : Int32)), .val (.ref w_DELETE), .val (.ref b51), .unset, .unset] [(.int (1 : Int32)), (.ref b51)])) _
              refine XS.iload X53.here hx rfl (hb hby at_161) rfl ?_
              show Steps p.tables e below (T53.setTop (mkF m 163 #[.val (.int p1), .val (.int p2), .val (.int p3), .val (.int (45 : Int32)), .val (.int (68 : Int32)), .val (.ref w_DELETE), .val (.ref b51), .unset, .unset] [(.int (68 : Int32)), (.int (1 : Int32)), (.ref b51)])) _
              refine st55 _ ?_
              show Steps p.tables e below (T55.setTop (mkF m 164 #[.val (.int p1), .val (.int p2), .val (.int p3), .val (.int (45 : Int32)), .val (.int (68 : Int32)), .val (.ref w_DELETE), .val (.ref b51), .unset, .unset] [])) _
              refine st56 _ ?_
              show Steps p.tables e below (T56.setTop (mkF m 167 #[.val (.int p1), .val (.int p2), .val (.int p3), .val (.int (45 : Int32)), .val (.int (68 : Int32)), .val (.ref w_DELETE), .val (.ref b51), .unset, .unset] [(.ref b56)])) _
              refine XS.dup X56.here hx rfl (hb hby at_167) rfl rfl ?_
              show Steps p.tables e below (T56.setTop (mkF m 168 #[.val (.int p1), .val (.int p2), .val (.int p3), .val (.int (45 : Int32)), .val (.int (68 : Int32)), .val (.ref w_DELETE), .val (.ref b51), .unset, .unset] [(.ref b56), (.ref b56)])) _
              refine XS.aload X56.here hx rfl (hb hby at_168) rfl rfl ?_
              show Steps p.tables e below (T56.setTop (mkF m 170 #[.val (.int p1), .val (.int p2), .val (.int p3), .val (.int (45 : Int32)), .val (.int (68 : Int32)), .val (.ref w_DELETE), .val (.ref b51), .unset, .unset] [(.ref b51), (.ref b56), (.ref b56)])) _
              refine st57.trans ?_
              show Steps p.tables e below (T57.setTop (mkF m 173 #[.val (.int p1), .val (.int p2), .val (.int p3), .val (.int (45 : Int32)), .val (.int (68 : Int32)), .val (.ref w_DELETE), .val (.ref b51), .unset, .unset] [(.ref b56)])) _
              refine XS.astore X57.here hx rfl (hb hby at_173) rfl rfl (l' := #[.val (.int p1), .val (.int p2), .val (.int p3), .val (.int (45 : Int32)), .val (.int (68 : Int32)), .val (.ref w_DELETE), .val (.ref b51), .val (.ref b56), .unset]) rfl ?_
              show Steps p.tables e below (T57.setTop (mkF m 175 #[.val (.int p1), .val (.int p2), .val (.int p3), .val (.int (45 : Int32)), .val (.int (68 : Int32)), .val (.ref w_DELETE), .val (.ref b51), .val (.ref b56), .unset] [])) _
              refine XS.aload X57.here hx rfl (hb hby at_175) rfl rfl ?_
              show Steps p.tables e below (T57.setTop (mkF m 177 #[.val (.int p1), .val (.int p2), .val (.int p3), .val (.int (45 : Int32)), .val (.int (68 : Int32)), .val (.ref w_DELETE), .val (.ref b51), .val (.ref b56), .unset] [(.ref b56)])) _
              refine st58 _ ?_
              show Steps p.tables e below (T58.setTop (mkF m 180 #[.val (.int p1), .val (.int p2), .val (.int p3), .val (.int (45 : Int32)), .val (.int (68 : Int32)), .val (.ref w_DELETE), .val (.ref b51), .val (.ref b56), .unset] [(.ref w_DELETE)])) _
              refine XS.astore X58.here hx rfl (hb hby at_180) rfl rfl (l' := #[.val (.int p1), .val (.int p2), .val (.int p3), .val (.int (45 : Int32)), .val (.int (68 : Int32)), .val (.ref w_DELETE), .val (.ref b51), .val (.ref b56), .val (.ref w_DELETE)]) rfl ?_
              show Steps p.tables e below (T58.setTop (mkF m 182 #[.val (.int p1), .val (.int p2), .val (.int p3), .val (.int (45 : Int32)), .val (.int (68 : Int32)), .val (.ref w_DELETE), .val (.ref b51), .val (.ref b56), .val (.ref w_DELETE)] [])) _
              refine XS.aload X58.here hx rfl (hb hby at_182) rfl rfl ?_
              show Steps p.tables e below (T58.setTop (mkF m 184 #[.val (.int p1), .val (.int p2), .val (.int p3), .val (.int (45 : Int32)), .val (.int (68 : Int32)), .val (.ref w_DELETE), .val (.ref b51), .val (.ref b56), .val (.ref w_DELETE)] [(.ref w_DELETE)])) _
              refine XS.aload X58.here hx rfl (hb hby at_184) rfl rfl ?_
              show Steps p.tables e below (T58.setTop (mkF m 186 #[.val (.int p1), .val (.int p2), .val (.int p3), .val (.int (45 : Int32)), .val (.int (68 : Int32)), .val (.ref w_DELETE), .val (.ref b51), .val (.ref b56), .val (.ref w_DELETE)] [(.ref w_DELETE), (.ref w_DELETE)])) _
              refine Jvm.RoadKit.acmp (g := (mkF m 186 #[.val (.int p1), .val (.int p2), .val (.int p3), .val (.int (45 : Int32)), .val (.int (68 : Int32)), .val (.ref w_DELETE), .val (.ref b51), .val (.ref b56), .val (.ref w_DELETE)] [(.ref w_DELETE), (.ref w_DELETE)])) X58 hx rfl rfl rfl (pc0 := 186) (pc' := 189) (same := true) rfl (hb hby at_186) rfl (decide_eq_true (congrArg Value.ref rfl)) (by decide) (by decide) ?_
              show Steps p.tables e below (T58.setTop (mkF m 189 #[.val (.int p1), .val (.int p2), .val (.int p3), .val (.int (45 : Int32)), .val (.int (68 : Int32)), .val (.ref w_DELETE), .val (.ref b51), .val (.ref b56), .val (.ref w_DELETE)] [])) _
              refine XS.aload X58.here hx rfl (hb hby at_189) rfl rfl ?_
              show Steps p.tables e below (T58.setTop (mkF m 191 #[.val (.int p1), .val (.int p2), .val (.int p3), .val (.int (45 : Int32)), .val (.int (68 : Int32)), .val (.ref w_DELETE), .val (.ref b51), .val (.ref b56), .val (.ref w_DELETE)] [(.ref w_DELETE)])) _
              refine st59.trans ?_
              show Steps p.tables e below (T59.setTop (mkF m 194 #[.val (.int p1), .val (.int p2), .val (.int p3), .val (.int (45 : Int32)), .val (.int (68 : Int32)), .val (.ref w_DELETE), .val (.ref b51), .val (.ref b56), .val (.ref w_DELETE)] [(.ref w_DELETE_shortName)])) _
              refine XS.aload X59.here hx rfl (hb hby at_194) rfl rfl ?_
              show Steps p.tables e below (T59.setTop (mkF m 196 #[.val (.int p1), .val (.int p2), .val (.int p3), .val (.int (45 : Int32)), .val (.int (68 : Int32)), .val (.ref w_DELETE), .val (.ref b51), .val (.ref b56), .val (.ref w_DELETE)] [(.ref b56), (.ref w_DELETE_shortName)])) _
              refine st60.trans ?_
              show Steps p.tables e below (T60.setTop (mkF m 199 #[.val (.int p1), .val (.int p2), .val (.int p3), .val (.int (45 : Int32)), .val (.int (68 : Int32)), .val (.ref w_DELETE), .val (.ref b51), .val (.ref b56), .val (.ref w_DELETE)] [(.int (1 : Int32))])) _
              refine XS.ifNo X60.here hx rfl (hb hby at_199) rfl ((if0 _ _).trans (feq (by decide : ¬ ((1 : Int32) = (0 : Int32)))).1) ?_
              show Steps p.tables e below (T60.setTop (mkF m 202 #[.val (.int p1), .val (.int p2), .val (.int p3), .val (.int (45 : Int32)), .val (.int (68 : Int32)), .val (.ref w_DELETE), .val (.ref b51), .val (.ref b56), .val (.ref w_DELETE)] [])) _
              refine XS.iconst X60.here hx rfl (hb hby at_202) ?_
              show Steps p.tables e below (T60.setTop (mkF m 203 #[.val (.int p1), .val (.int p2), .val (.int p3), .val (.int (45 : Int32)), .val (.int (68 : Int32)), .val (.ref w_DELETE), .val (.ref b51), .val (.ref b56), .val (.ref w_DELETE)] [(.int (1 : Int32))])) _
              refine XS.goto X60.here hx rfl (pc0 := 203) (pc' := 207) rfl (hb hby at_203) (by decide) (by decide) ?_
              show Steps p.tables e below (T60.setTop (mkF m 207 #[.val (.int p1), .val (.int p2), .val (.int p3), .val (.int (45 : Int32)), .val (.int (68 : Int32)), .val (.ref w_DELETE), .val (.ref b51), .val (.ref b56), .val (.ref w_DELETE)] [(.int (1 : Int32))])) _
              exact retN X60 hx (t := .boolean) Bd.returns (by simp) (hb hby at_207) hr
            · show Q0 Z p1 p2 p3 w__VALUES kV w_INSERT w_UPDATE_BEFORE w_UPDATE_AFTER w_DELETE w_INSERT_shortName w_INSERT_shortName_value k_INSERT w_UPDATE_BEFORE_shortName w_UPDATE_BEFORE_shortName_value k_UPDATE_BEFORE w_UPDATE_AFTER_shortName w_UPDATE_AFTER_shortName_value k_UPDATE_AFTER w_DELETE_shortName w_DELETE_shortName_value k_DELETE w_COMPACT_STRINGS h0 n0 _ T60.heap _
              rw [e60]
              exact ⟨by rw [res0, if_pos hc3_2, if_neg hc75_6, if_pos hc111_34, if_neg hc118_36, if_pos hc133_49], N60⟩
          · obtain ⟨fs, hr, hrun, hended, hW, hsame⟩ := X4.leave (v := some (.int (1 : Int32))) (fun h => by rw [Bd.returns] at h; cases h)
            refine ⟨_, _, pre48 _ ?_, hrun, hended, _, _, rfl, ?_, ⟨_, rfl⟩, hW, hsame.mono (by decide) (by decide)⟩
            · show Steps p.tables e below (T4.setTop (mkF m 133 #[.val (.int p1), .val (.int p2), .val (.int p3), .val (.int (45 : Int32)), .val (.int (res1 p3)), .val .null, .unset, .unset, .unset] [(.int (68 : Int32)), (.int (res1 p3))])) _
              refine XS.icmpYes X4.here hx rfl (pc0 := 133) (pc' := 141) rfl (hb hby at_133) rfl (feq hc133_49).2 (by decide) (by decide) ?_
              show Steps p.tables e below (T4.setTop (mkF m 141 #[.val (.int p1), .val (.int p2), .val (.int p3), .val (.int (45 : Int32)), .val (.int (res1 p3)), .val .null, .unset, .unset, .unset] [])) _
              refine XS.aload X4.here hx rfl (hb hby at_141) rfl rfl ?_
              show Steps p.tables e below (T4.setTop (mkF m 143 #[.val (.int p1), .val (.int p2), .val (.int p3), .val (.int (45 : Int32)), .val (.int (res1 p3)), .val .null, .unset, .unset, .unset] [.null])) _
              refine XS.ifnonnullNo X4.here hx rfl (hb hby at_143) rfl ?_
              show Steps p.tables e below (T4.setTop (mkF m 146 #[.val (.int p1), .val (.int p2), .val (.int p3), .val (.int (45 : Int32)), .val (.int (res1 p3)), .val .null, .unset, .unset, .unset] [])) _
              refine XS.iconst X4.here hx rfl (hb hby at_146) ?_
              show Steps p.tables e below (T4.setTop (mkF m 147 #[.val (.int p1), .val (.int p2), .val (.int p3), .val (.int (45 : Int32)), .val (.int (res1 p3)), .val .null, .unset, .unset, .unset] [(.int (1 : Int32))])) _
              exact retN X4 hx (t := .boolean) Bd.returns (by simp) (hb hby at_147) hr
            · show Q0 Z p1 p2 p3 w__VALUES kV w_INSERT w_UPDATE_BEFORE w_UPDATE_AFTER w_DELETE w_INSERT_shortName w_INSERT_shortName_value k_INSERT w_UPDATE_BEFORE_shortName w_UPDATE_BEFORE_shortName_value k_UPDATE_BEFORE w_UPDATE_AFTER_shortName w_UPDATE_AFTER_shortName_value k_UPDATE_AFTER w_DELETE_shortName w_DELETE_shortName_value k_DELETE w_COMPACT_STRINGS h0 n0 _ T4.heap _
              rw [e4]
              exact ⟨by rw [res0, if_pos hc3_2, if_neg hc75_6, if_pos hc111_34, if_neg hc118_36, if_neg hc133_49], N4⟩
      · obtain ⟨fs, hr, hrun, hended, hW, hsame⟩ := X4.leave (v := some (.int (1 : Int32))) (fun h => by rw [Bd.returns] at h; cases h)
        refine ⟨_, _, pre33 _ ?_, hrun, hended, _, _, rfl, ?_, ⟨_, rfl⟩, hW, hsame.mono (by decide) (by decide)⟩
        · show Steps p.tables e below (T4.setTop (mkF m 111 #[.val (.int p1), .val (.int p2), .val (.int p3), .val (.int (res1 p2)), .val (.int (res1 p3)), .val .null, .unset, .unset, .unset] [(.int (45 : Int32)), (.int (res1 p2))])) _
          refine XS.icmpYes X4.here hx rfl (pc0 := 111) (pc' := 141) rfl (hb hby at_111) rfl (feq hc111_34).2 (by decide) (by decide) ?_
          show Steps p.tables e below (T4.setTop (mkF m 141 #[.val (.int p1), .val (.int p2), .val (.int p3), .val (.int (res1 p2)), .val (.int (res1 p3)), .val .null, .unset, .unset, .unset] [])) _
          refine XS.aload X4.here hx rfl (hb hby at_141) rfl rfl ?_
          show Steps p.tables e below (T4.setTop (mkF m 143 #[.val (.int p1), .val (.int p2), .val (.int p3), .val (.int (res1 p2)), .val (.int (res1 p3)), .val .null, .unset, .unset, .unset] [.null])) _
          refine XS.ifnonnullNo X4.here hx rfl (hb hby at_143) rfl ?_
          show Steps p.tables e below (T4.setTop (mkF m 146 #[.val (.int p1), .val (.int p2), .val (.int p3), .val (.int (res1 p2)), .val (.int (res1 p3)), .val .null, .unset, .unset, .unset] [])) _
          refine XS.iconst X4.here hx rfl (hb hby at_146) ?_
          show Steps p.tables e below (T4.setTop (mkF m 147 #[.val (.int p1), .val (.int p2), .val (.int p3), .val (.int (res1 p2)), .val (.int (res1 p3)), .val .null, .unset, .unset, .unset] [(.int (1 : Int32))])) _
          exact retN X4 hx (t := .boolean) Bd.returns (by simp) (hb hby at_147) hr
        · show Q0 Z p1 p2 p3 w__VALUES kV w_INSERT w_UPDATE_BEFORE w_UPDATE_AFTER w_DELETE w_INSERT_shortName w_INSERT_shortName_value k_INSERT w_UPDATE_BEFORE_shortName w_UPDATE_BEFORE_shortName_value k_UPDATE_BEFORE w_UPDATE_AFTER_shortName w_UPDATE_AFTER_shortName_value k_UPDATE_AFTER w_DELETE_shortName w_DELETE_shortName_value k_DELETE w_COMPACT_STRINGS h0 n0 _ T4.heap _
          rw [e4]
          exact ⟨by rw [res0, if_pos hc3_2, if_neg hc75_6, if_neg hc111_34], N4⟩
  · have pre61 : ∀ t, Steps p.tables e below (s₁.setTop (mkF m 13 #[.val (.int p1), .val (.int p2), .val (.int p3), .unset, .unset, .val (.int (p2 &&& (3 : Int32))), .unset, .unset, .unset] [(.int (p2 &&& (3 : Int32)))])) t → Steps p.tables e below (s₁.setTop (entryFrame m #[(.int p1), (.int p2), (.int p3)] maxLocals)) t := by
      intro t kt
      refine pre1 _ ?_
      show Steps p.tables e below (s₁.setTop (mkF m 3 #[.val (.int p1), .val (.int p2), .val (.int p3), .unset, .unset, .unset, .unset, .unset, .unset] [(.int (p1 &&& (1 : Int32)))])) _
      refine XS.ifNo X0.here hx rfl (hb hby at_3) rfl ((if0 _ _).trans (feq hc3_2).1) ?_
      show Steps p.tables e below (s₁.setTop (mkF m 6 #[.val (.int p1), .val (.int p2), .val (.int p3), .unset, .unset, .unset, .unset, .unset, .unset] [])) _
      refine XS.iloadN X0.here hx rfl (hb hby at_6) rfl ?_
      show Steps p.tables e below (s₁.setTop (mkF m 7 #[.val (.int p1), .val (.int p2), .val (.int p3), .unset, .unset, .unset, .unset, .unset, .unset] [(.int p2)])) _
      refine XS.iconst X0.here hx rfl (hb hby at_7) ?_
      show Steps p.tables e below (s₁.setTop (mkF m 8 #[.val (.int p1), .val (.int p2), .val (.int p3), .unset, .unset, .unset, .unset, .unset, .unset] [(.int (3 : Int32)), (.int p2)])) _
      refine XS.iand X0.here hx rfl (hb hby at_8) rfl ?_
      show Steps p.tables e below (s₁.setTop (mkF m 9 #[.val (.int p1), .val (.int p2), .val (.int p3), .unset, .unset, .unset, .unset, .unset, .unset] [(.int (p2 &&& (3 : Int32)))])) _
      refine XS.istore X0.here hx rfl (hb hby at_9) rfl (l' := #[.val (.int p1), .val (.int p2), .val (.int p3), .unset, .unset, .val (.int (p2 &&& (3 : Int32))), .unset, .unset, .unset]) rfl ?_
      show Steps p.tables e below (s₁.setTop (mkF m 11 #[.val (.int p1), .val (.int p2), .val (.int p3), .unset, .unset, .val (.int (p2 &&& (3 : Int32))), .unset, .unset, .unset] [])) _
      refine XS.iload X0.here hx rfl (hb hby at_11) rfl ?_
      exact kt
    have pre65 : ∀ t, Steps p.tables e below (s₁.setTop (mkF m 29 #[.val (.int p1), .val (.int p2), .val (.int p3), .unset, .unset, .val (.int (p2 &&& (3 : Int32))), .unset, .unset, .unset] [(.int (mg0_13_s0 p2))])) t → Steps p.tables e below (s₁.setTop (entryFrame m #[(.int p1), (.int p2), (.int p3)] maxLocals)) t := by
      intro t kt
      by_cases hc13_62 : (p2 &&& (3 : Int32)) = (0 : Int32)
      · rw [show (mg0_13_s0 p2) = (43 : Int32) from by rw [mg0_13_s0, if_pos hc13_62]] at kt
        refine pre61 _ ?_
        show Steps p.tables e below (s₁.setTop (mkF m 13 #[.val (.int p1), .val (.int p2), .val (.int p3), .unset, .unset, .val (.int (p2 &&& (3 : Int32))), .unset, .unset, .unset] [(.int (p2 &&& (3 : Int32)))])) _
        refine XS.ifYes X0.here hx rfl (pc0 := 13) (pc' := 22) rfl (hb hby at_13) rfl ((if0 _ _).trans (teq hc13_62).1) (by decide) (by decide) ?_
        show Steps p.tables e below (s₁.setTop (mkF m 22 #[.val (.int p1), .val (.int p2), .val (.int p3), .unset, .unset, .val (.int (p2 &&& (3 : Int32))), .unset, .unset, .unset] [])) _
        refine XS.bipush X0.here hx rfl (hb hby at_22) ?_
        show Steps p.tables e below (s₁.setTop (mkF m 24 #[.val (.int p1), .val (.int p2), .val (.int p3), .unset, .unset, .val (.int (p2 &&& (3 : Int32))), .unset, .unset, .unset] [(.int (43 : Int32))])) _
        refine XS.goto X0.here hx rfl (pc0 := 24) (pc' := 29) rfl (hb hby at_24) (by decide) (by decide) ?_
        exact kt
      · have pre63 : ∀ t, Steps p.tables e below (s₁.setTop (mkF m 19 #[.val (.int p1), .val (.int p2), .val (.int p3), .unset, .unset, .val (.int (p2 &&& (3 : Int32))), .unset, .unset, .unset] [(.int (2 : Int32)), (.int (p2 &&& (3 : Int32)))])) t → Steps p.tables e below (s₁.setTop (entryFrame m #[(.int p1), (.int p2), (.int p3)] maxLocals)) t := by
          intro t kt
          refine pre61 _ ?_
          show Steps p.tables e below (s₁.setTop (mkF m 13 #[.val (.int p1), .val (.int p2), .val (.int p3), .unset, .unset, .val (.int (p2 &&& (3 : Int32))), .unset, .unset, .unset] [(.int (p2 &&& (3 : Int32)))])) _
          refine XS.ifNo X0.here hx rfl (hb hby at_13) rfl ((if0 _ _).trans (feq hc13_62).1) ?_
          show Steps p.tables e below (s₁.setTop (mkF m 16 #[.val (.int p1), .val (.int p2), .val (.int p3), .unset, .unset, .val (.int (p2 &&& (3 : Int32))), .unset, .unset, .unset] [])) _
          refine XS.iload X0.here hx rfl (hb hby at_16) rfl ?_
          show Steps p.tables e below (s₁.setTop (mkF m 18 #[.val (.int p1), .val (.int p2), .val (.int p3), .unset, .unset, .val (.int (p2 &&& (3 : Int32))), .unset, .unset, .unset] [(.int (p2 &&& (3 : Int32)))])) _
          refine XS.iconst X0.here hx rfl (hb hby at_18) ?_
          exact kt
        by_cases hc19_64 : (p2 &&& (3 : Int32)) = (2 : Int32)
        · rw [show (mg0_13_s0 p2) = (43 : Int32) from by rw [mg0_13_s0, if_neg hc13_62, if_pos hc19_64]] at kt
          refine pre63 _ ?_
          show Steps p.tables e below (s₁.setTop (mkF m 19 #[.val (.int p1), .val (.int p2), .val (.int p3), .unset, .unset, .val (.int (p2 &&& (3 : Int32))), .unset, .unset, .unset] [(.int (2 : Int32)), (.int (p2 &&& (3 : Int32)))])) _
          refine XS.icmpNo X0.here hx rfl (hb hby at_19) rfl (teq hc19_64).2 ?_
          show Steps p.tables e below (s₁.setTop (mkF m 22 #[.val (.int p1), .val (.int p2), .val (.int p3), .unset, .unset, .val (.int (p2 &&& (3 : Int32))), .unset, .unset, .unset] [])) _
          refine XS.bipush X0.here hx rfl (hb hby at_22) ?_
          show Steps p.tables e below (s₁.setTop (mkF m 24 #[.val (.int p1), .val (.int p2), .val (.int p3), .unset, .unset, .val (.int (p2 &&& (3 : Int32))), .unset, .unset, .unset] [(.int (43 : Int32))])) _
          refine XS.goto X0.here hx rfl (pc0 := 24) (pc' := 29) rfl (hb hby at_24) (by decide) (by decide) ?_
          exact kt
        · rw [show (mg0_13_s0 p2) = (45 : Int32) from by rw [mg0_13_s0, if_neg hc13_62, if_neg hc19_64]] at kt
          refine pre63 _ ?_
          show Steps p.tables e below (s₁.setTop (mkF m 19 #[.val (.int p1), .val (.int p2), .val (.int p3), .unset, .unset, .val (.int (p2 &&& (3 : Int32))), .unset, .unset, .unset] [(.int (2 : Int32)), (.int (p2 &&& (3 : Int32)))])) _
          refine XS.icmpYes X0.here hx rfl (pc0 := 19) (pc' := 27) rfl (hb hby at_19) rfl (feq hc19_64).2 (by decide) (by decide) ?_
          show Steps p.tables e below (s₁.setTop (mkF m 27 #[.val (.int p1), .val (.int p2), .val (.int p3), .unset, .unset, .val (.int (p2 &&& (3 : Int32))), .unset, .unset, .unset] [])) _
          refine XS.bipush X0.here hx rfl (hb hby at_27) ?_
          exact kt
    have pre66 : ∀ t, Steps p.tables e below (s₁.setTop (mkF m 32 #[.val (.int p1), .val (.int p2), .val (.int p3), .val (.int (mg0_13_s0 p2)), .unset, .val (.int (p2 &&& (3 : Int32))), .unset, .unset, .unset] [(.int (p2 &&& (3 : Int32)))])) t → Steps p.tables e below (s₁.setTop (entryFrame m #[(.int p1), (.int p2), (.int p3)] maxLocals)) t := by
      intro t kt
      refine pre65 _ ?_
      show Steps p.tables e below (s₁.setTop (mkF m 29 #[.val (.int p1), .val (.int p2), .val (.int p3), .unset, .unset, .val (.int (p2 &&& (3 : Int32))), .unset, .unset, .unset] [(.int (mg0_13_s0 p2))])) _
      refine XS.istoreN X0.here hx rfl (hb hby at_29) rfl (l' := #[.val (.int p1), .val (.int p2), .val (.int p3), .val (.int (mg0_13_s0 p2)), .unset, .val (.int (p2 &&& (3 : Int32))), .unset, .unset, .unset]) rfl ?_
      show Steps p.tables e below (s₁.setTop (mkF m 30 #[.val (.int p1), .val (.int p2), .val (.int p3), .val (.int (mg0_13_s0 p2)), .unset, .val (.int (p2 &&& (3 : Int32))), .unset, .unset, .unset] [])) _
      refine XS.iload X0.here hx rfl (hb hby at_30) rfl ?_
      exact kt
    have pre70 : ∀ t, Steps p.tables e below (s₁.setTop (mkF m 53 #[.val (.int p1), .val (.int p2), .val (.int p3), .val (.int (mg0_13_s0 p2)), .unset, .val (.int (p2 &&& (3 : Int32))), .unset, .unset, .unset] [(.int (mg0_32_s0 p2))])) t → Steps p.tables e below (s₁.setTop (entryFrame m #[(.int p1), (.int p2), (.int p3)] maxLocals)) t := by
      intro t kt
      by_cases hc32_67 : (p2 &&& (3 : Int32)) = (0 : Int32)
      · rw [show (mg0_32_s0 p2) = (73 : Int32) from by rw [mg0_32_s0, if_pos hc32_67]] at kt
        refine pre66 _ ?_
        show Steps p.tables e below (s₁.setTop (mkF m 32 #[.val (.int p1), .val (.int p2), .val (.int p3), .val (.int (mg0_13_s0 p2)), .unset, .val (.int (p2 &&& (3 : Int32))), .unset, .unset, .unset] [(.int (p2 &&& (3 : Int32)))])) _
        refine XS.ifNo X0.here hx rfl (hb hby at_32) rfl ((if0 _ _).trans (teq hc32_67).2) ?_
        show Steps p.tables e below (s₁.setTop (mkF m 35 #[.val (.int p1), .val (.int p2), .val (.int p3), .val (.int (mg0_13_s0 p2)), .unset, .val (.int (p2 &&& (3 : Int32))), .unset, .unset, .unset] [])) _
        refine XS.bipush X0.here hx rfl (hb hby at_35) ?_
        show Steps p.tables e below (s₁.setTop (mkF m 37 #[.val (.int p1), .val (.int p2), .val (.int p3), .val (.int (mg0_13_s0 p2)), .unset, .val (.int (p2 &&& (3 : Int32))), .unset, .unset, .unset] [(.int (73 : Int32))])) _
        refine XS.goto X0.here hx rfl (pc0 := 37) (pc' := 53) rfl (hb hby at_37) (by decide) (by decide) ?_
        exact kt
      · have pre68 : ∀ t, Steps p.tables e below (s₁.setTop (mkF m 43 #[.val (.int p1), .val (.int p2), .val (.int p3), .val (.int (mg0_13_s0 p2)), .unset, .val (.int (p2 &&& (3 : Int32))), .unset, .unset, .unset] [(.int (3 : Int32)), (.int (p2 &&& (3 : Int32)))])) t → Steps p.tables e below (s₁.setTop (entryFrame m #[(.int p1), (.int p2), (.int p3)] maxLocals)) t := by
          intro t kt
          refine pre66 _ ?_
          show Steps p.tables e below (s₁.setTop (mkF m 32 #[.val (.int p1), .val (.int p2), .val (.int p3), .val (.int (mg0_13_s0 p2)), .unset, .val (.int (p2 &&& (3 : Int32))), .unset, .unset, .unset] [(.int (p2 &&& (3 : Int32)))])) _
          refine XS.ifYes X0.here hx rfl (pc0 := 32) (pc' := 40) rfl (hb hby at_32) rfl ((if0 _ _).trans (feq hc32_67).2) (by decide) (by decide) ?_
          show Steps p.tables e below (s₁.setTop (mkF m 40 #[.val (.int p1), .val (.int p2), .val (.int p3), .val (.int (mg0_13_s0 p2)), .unset, .val (.int (p2 &&& (3 : Int32))), .unset, .unset, .unset] [])) _
          refine XS.iload X0.here hx rfl (hb hby at_40) rfl ?_
          show Steps p.tables e below (s₁.setTop (mkF m 42 #[.val (.int p1), .val (.int p2), .val (.int p3), .val (.int (mg0_13_s0 p2)), .unset, .val (.int (p2 &&& (3 : Int32))), .unset, .unset, .unset] [(.int (p2 &&& (3 : Int32)))])) _
          refine XS.iconst X0.here hx rfl (hb hby at_42) ?_
          exact kt
        by_cases hc43_69 : (p2 &&& (3 : Int32)) = (3 : Int32)
        · rw [show (mg0_32_s0 p2) = (68 : Int32) from by rw [mg0_32_s0, if_neg hc32_67, if_pos hc43_69]] at kt
          refine pre68 _ ?_
          show Steps p.tables e below (s₁.setTop (mkF m 43 #[.val (.int p1), .val (.int p2), .val (.int p3), .val (.int (mg0_13_s0 p2)), .unset, .val (.int (p2 &&& (3 : Int32))), .unset, .unset, .unset] [(.int (3 : Int32)), (.int (p2 &&& (3 : Int32)))])) _
          refine XS.icmpNo X0.here hx rfl (hb hby at_43) rfl (teq hc43_69).2 ?_
          show Steps p.tables e below (s₁.setTop (mkF m 46 #[.val (.int p1), .val (.int p2), .val (.int p3), .val (.int (mg0_13_s0 p2)), .unset, .val (.int (p2 &&& (3 : Int32))), .unset, .unset, .unset] [])) _
          refine XS.bipush X0.here hx rfl (hb hby at_46) ?_
          show Steps p.tables e below (s₁.setTop (mkF m 48 #[.val (.int p1), .val (.int p2), .val (.int p3), .val (.int (mg0_13_s0 p2)), .unset, .val (.int (p2 &&& (3 : Int32))), .unset, .unset, .unset] [(.int (68 : Int32))])) _
          refine XS.goto X0.here hx rfl (pc0 := 48) (pc' := 53) rfl (hb hby at_48) (by decide) (by decide) ?_
          exact kt
        · rw [show (mg0_32_s0 p2) = (85 : Int32) from by rw [mg0_32_s0, if_neg hc32_67, if_neg hc43_69]] at kt
          refine pre68 _ ?_
          show Steps p.tables e below (s₁.setTop (mkF m 43 #[.val (.int p1), .val (.int p2), .val (.int p3), .val (.int (mg0_13_s0 p2)), .unset, .val (.int (p2 &&& (3 : Int32))), .unset, .unset, .unset] [(.int (3 : Int32)), (.int (p2 &&& (3 : Int32)))])) _
          refine XS.icmpYes X0.here hx rfl (pc0 := 43) (pc' := 51) rfl (hb hby at_43) rfl (feq hc43_69).2 (by decide) (by decide) ?_
          show Steps p.tables e below (s₁.setTop (mkF m 51 #[.val (.int p1), .val (.int p2), .val (.int p3), .val (.int (mg0_13_s0 p2)), .unset, .val (.int (p2 &&& (3 : Int32))), .unset, .unset, .unset] [])) _
          refine XS.bipush X0.here hx rfl (hb hby at_51) ?_
          exact kt
    have pre71 : ∀ t, Steps p.tables e below (s₁.setTop (mkF m 75 #[.val (.int p1), .val (.int p2), .val (.int p3), .val (.int (mg0_13_s0 p2)), .val (.int (mg0_32_s0 p2)), .val .null, .unset, .unset, .unset] [(.int (43 : Int32)), (.int (mg0_13_s0 p2))])) t → Steps p.tables e below (s₁.setTop (entryFrame m #[(.int p1), (.int p2), (.int p3)] maxLocals)) t := by
      intro t kt
      refine pre70 _ ?_
      show Steps p.tables e below (s₁.setTop (mkF m 53 #[.val (.int p1), .val (.int p2), .val (.int p3), .val (.int (mg0_13_s0 p2)), .unset, .val (.int (p2 &&& (3 : Int32))), .unset, .unset, .unset] [(.int (mg0_32_s0 p2))])) _
      refine XS.istore X0.here hx rfl (hb hby at_53) rfl (l' := #[.val (.int p1), .val (.int p2), .val (.int p3), .val (.int (mg0_13_s0 p2)), .val (.int (mg0_32_s0 p2)), .val (.int (p2 &&& (3 : Int32))), .unset, .unset, .unset]) rfl ?_
      show Steps p.tables e below (s₁.setTop (mkF m 55 #[.val (.int p1), .val (.int p2), .val (.int p3), .val (.int (mg0_13_s0 p2)), .val (.int (mg0_32_s0 p2)), .val (.int (p2 &&& (3 : Int32))), .unset, .unset, .unset] [])) _
      refine XS.goto X0.here hx rfl (pc0 := 55) (pc' := 69) rfl (hb hby at_55) (by decide) (by decide) ?_
      show Steps p.tables e below (s₁.setTop (mkF m 69 #[.val (.int p1), .val (.int p2), .val (.int p3), .val (.int (mg0_13_s0 p2)), .val (.int (mg0_32_s0 p2)), .val (.int (p2 &&& (3 : Int32))), .unset, .unset, .unset] [])) _
      refine XS.aconstNull X0.here hx rfl (hb hby at_69) ?_
      show Steps p.tables e below (s₁.setTop (mkF m 70 #[.val (.int p1), .val (.int p2), .val (.int p3), .val (.int (mg0_13_s0 p2)), .val (.int (mg0_32_s0 p2)), .val (.int (p2 &&& (3 : Int32))), .unset, .unset, .unset] [.null])) _
      refine XS.astore X0.here hx rfl (hb hby at_70) rfl rfl (l' := #[.val (.int p1), .val (.int p2), .val (.int p3), .val (.int (mg0_13_s0 p2)), .val (.int (mg0_32_s0 p2)), .val .null, .unset, .unset, .unset]) rfl ?_
      show Steps p.tables e below (s₁.setTop (mkF m 72 #[.val (.int p1), .val (.int p2), .val (.int p3), .val (.int (mg0_13_s0 p2)), .val (.int (mg0_32_s0 p2)), .val .null, .unset, .unset, .unset] [])) _
      refine XS.iloadN X0.here hx rfl (hb hby at_72) rfl ?_
      show Steps p.tables e below (s₁.setTop (mkF m 73 #[.val (.int p1), .val (.int p2), .val (.int p3), .val (.int (mg0_13_s0 p2)), .val (.int (mg0_32_s0 p2)), .val .null, .unset, .unset, .unset] [(.int (mg0_13_s0 p2))])) _
      refine XS.bipush X0.here hx rfl (hb hby at_73) ?_
      exact kt
    by_cases hc75_72 : (mg0_13_s0 p2) = (43 : Int32)
    · rw [hc75_72] at pre71
      have pre73 : ∀ t, Steps p.tables e below (s₁.setTop (mkF m 82 #[.val (.int p1), .val (.int p2), .val (.int p3), .val (.int (43 : Int32)), .val (.int (mg0_32_s0 p2)), .val .null, .unset, .unset, .unset] [(.int (73 : Int32)), (.int (mg0_32_s0 p2))])) t → Steps p.tables e below (s₁.setTop (entryFrame m #[(.int p1), (.int p2), (.int p3)] maxLocals)) t := by
        intro t kt
        refine pre71 _ ?_
        show Steps p.tables e below (s₁.setTop (mkF m 75 #[.val (.int p1), .val (.int p2), .val (.int p3), .val (.int (43 : Int32)), .val (.int (mg0_32_s0 p2)), .val .null, .unset, .unset, .unset] [(.int (43 : Int32)), (.int (43 : Int32))])) _
        refine XS.icmpNo X0.here hx rfl (hb hby at_75) rfl (teq (rfl : (43 : Int32) = (43 : Int32))).2 ?_
        show Steps p.tables e below (s₁.setTop (mkF m 78 #[.val (.int p1), .val (.int p2), .val (.int p3), .val (.int (43 : Int32)), .val (.int (mg0_32_s0 p2)), .val .null, .unset, .unset, .unset] [])) _
        refine XS.iload X0.here hx rfl (hb hby at_78) rfl ?_
        show Steps p.tables e below (s₁.setTop (mkF m 80 #[.val (.int p1), .val (.int p2), .val (.int p3), .val (.int (43 : Int32)), .val (.int (mg0_32_s0 p2)), .val .null, .unset, .unset, .unset] [(.int (mg0_32_s0 p2))])) _
        refine XS.bipush X0.here hx rfl (hb hby at_80) ?_
        exact kt
      by_cases hc82_74 : (mg0_32_s0 p2) = (73 : Int32)
      · rw [hc82_74] at pre73
        obtain ⟨T75, X75, e75, st75⟩ := getS2 X0 hx hZ hown (host := "") (Or.inl (hw _ (List.mem_of_getElem? (i := 4) rfl))) Via.refl e0 S_INSERT (g := (mkF m 85 #[.val (.int p1), .val (.int p2), .val (.int p3), .val (.int (43 : Int32)), .val (.int (73 : Int32)), .val .null, .unset, .unset, .unset] [])) rfl (hb hby at_85)
        obtain ⟨T76, h76, k76, X76, e76, E76, A76, st76⟩ := newP X75 hx hZ (hw _ (List.mem_of_getElem? (i := 7) rfl)) e75 (g := (mkF m 149 #[.val (.int p1), .val (.int p2), .val (.int p3), .val (.int (43 : Int32)), .val (.int (73 : Int32)), .val (.ref w_INSERT), .unset, .unset, .unset] [(.int (2 : Int32))])) rfl (hb hby at_149) rfl (by decide) (cap := 2) (by decide) (by decide) (by decide) (by decide)
        obtain ⟨b76, g76⟩ : ∃ z, z = h0.size := ⟨_, rfl⟩
        rw [← g76] at A76 st76
        have sz_b76 : h0.size ≤ b76 := Nat.le_trans (Keep.refl h0 []).1 (Nat.le_of_eq g76.symm)
        have g_b76 : n0 ≤ b76 := Nat.le_trans Z0 sz_b76
        have K76 : Keep h0 h76 [] := (Keep.refl h0 []).ext E76
        have V_b76 : Arv Z h76 b76 k76 .char (2 : Int32) [(.int (0 : Int32)), (.int (0 : Int32))] (.int (0 : Int32)) := (Arv.new A76 (by decide)).pad (pad_rep [] (.int (0 : Int32)) 2)
        obtain ⟨cl_b76_157_77, Ar_b76_157_77, q_b76_157_77, S_b76_157_77, N_b76_157_77, H_b76_157_77, G_b76_157_77⟩ := id V_b76
        have hin_b76_157_77 : ¬ ((0 : Int32) < 0 ∨ cl_b76_157_77.slots.size ≤ ((0 : Int32) : Int32).toNatClampNeg) := inb_of S_b76_157_77 ⟨by decide, by decide⟩
        obtain ⟨T78, h78, X78, e78, W78, st78⟩ := stC X76 hx hZ e76 Ar_b76_157_77 (j := (0 : Int32)) hin_b76_157_77 (g := (mkF m 157 #[.val (.int p1), .val (.int p2), .val (.int p3), .val (.int (43 : Int32)), .val (.int (73 : Int32)), .val (.ref w_INSERT), .val (.ref b76), .unset, .unset] [(.int (43 : Int32)), (.int (0 : Int32)), (.ref b76)])) rfl rfl (hb hby at_157)
        have V_b76_157_77 : Arv Z h78 b76 k76 .char (2 : Int32) [(.int (43 : Int32)), (.int (0 : Int32))] (.int (0 : Int32)) := Arv.set Ar_b76_157_77 q_b76_157_77 S_b76_157_77 N_b76_157_77 H_b76_157_77 G_b76_157_77 (fits_nar_char _) W78 0 rfl (Nat.le_of_ble_eq_true rfl)
        have K78 : Keep h0 h78 [] := K76.wr W78 (Or.inr sz_b76)
        have N78 := Fr.snoc X78 N0 g_b76
        obtain ⟨cl_b76_163_79, Ar_b76_163_79, q_b76_163_79, S_b76_163_79, N_b76_163_79, H_b76_163_79, G_b76_163_79⟩ := id V_b76_157_77
        have hin_b76_163_79 : ¬ ((1 : Int32) < 0 ∨ cl_b76_163_79.slots.size ≤ ((1 : Int32) : Int32).toNatClampNeg) := inb_of S_b76_163_79 ⟨by decide, by decide⟩
        obtain ⟨T80, h80, X80, e80, W80, st80⟩ := stC X78 hx hZ e78 Ar_b76_163_79 (j := (1 : Int32)) hin_b76_163_79 (g := (mkF m 163 #[.val (.int p1), .val (.int p2), .val (.int p3), .val (.int (43 : Int32)), .val (.int (73 : Int32)), .val (.ref w_INSERT), .val (.ref b76), .unset, .unset] [(.int (73 : Int32)), (.int (1 : Int32)), (.ref b76)])) rfl rfl (hb hby at_163)
        have V_b76_163_79 : Arv Z h80 b76 k76 .char (2 : Int32) [(.int (43 : Int32)), (.int (73 : Int32))] (.int (0 : Int32)) := Arv.set Ar_b76_163_79 q_b76_163_79 S_b76_163_79 N_b76_163_79 H_b76_163_79 G_b76_163_79 (fits_nar_char _) W80 1 rfl (Nat.le_of_ble_eq_true rfl)
        have K80 : Keep h0 h80 [] := K78.wr W80 (Or.inr sz_b76)
        have N80 := Fr.snoc X80 N78 g_b76
        obtain ⟨T81, h81, X81, e81, E81, A81, D81, -, st81⟩ := newO X80 hx hZ hown (hw _ (List.mem_of_getElem? (i := 8) rfl)) (hw _ (List.mem_of_getElem? (i := 9) rfl)) (hw _ (List.mem_of_getElem? (i := 10) rfl)) e80 (g := (mkF m 164 #[.val (.int p1), .val (.int p2), .val (.int p3), .val (.int (43 : Int32)), .val (.int (73 : Int32)), .val (.ref w_INSERT), .val (.ref b76), .unset, .unset] [])) rfl (hb hby at_164) (by decide) (by decide)
        obtain ⟨b81, g81⟩ : ∃ z, z = h80.size := ⟨_, rfl⟩
        rw [← g81] at A81 D81 st81
        have sz_b81 : h0.size ≤ b81 := Nat.le_trans K80.1 (Nat.le_of_eq g81.symm)
        have g_b81 : n0 ≤ b81 := Nat.le_trans Z0 sz_b81
        have K81 : Keep h0 h81 [] := K80.ext E81
        have F_coder_b81 : Fld Z h81 b81 "java/lang/String" "coder" "B" (.int (0 : Int32)) := D81 (Or.inr (hw _ (List.mem_of_getElem? (i := 34) rfl))) (ty := .byte) (by decide)
        have F_value_b81 : Fld Z h81 b81 "java/lang/String" "value" "[B" .null := D81 (Or.inr (hw _ (List.mem_of_getElem? (i := 36) rfl))) (ty := (.array .byte)) (by decide)
        obtain ⟨_, _, ⟨T82, L82, k82, n82⟩, -, X82, ⟨Lc82, hQ82, l82, y82, z82⟩, st82⟩ := X81.specialBack hx (y := (⟨"java/lang/String", "<init>", "([C)V"⟩ : MethodName)) rfl hown (mvT hZ (hw _ (List.mem_of_getElem? (i := 11) rfl))) (mvT hZ (hw _ (List.mem_of_getElem? (i := 12) rfl))) (mvT hZ (hw _ (List.mem_of_getElem? (i := 13) rfl))) (by decide) (backOf (W := 1) (rm_ini1_2 l Z a0 hw [] b81 b76 k76 (43 : Int32) (73 : Int32) w_COMPACT_STRINGS (.int (0 : Int32)) .null h81 n0 (Nat.le_trans Z0 K81.1) (V_b76_163_79.ext E81) ((((S_COMPACT_STRINGS.ext E76).wr W78).wr W80).ext E81) A81 F_coder_b81 g_b81 F_value_b81 (by decide : ¬ ((255 : Int32) < (43 : Int32))) (by decide : ¬ ((255 : Int32) < (73 : Int32))) (hCS : ¬ (w_COMPACT_STRINGS = (0 : Int32)))) hZ (hw _ (List.mem_of_getElem? (i := 13) rfl)) (hw _ (List.mem_of_getElem? (i := 10) rfl)) (by decide) (by decide)) (g := (mkF m 170 #[.val (.int p1), .val (.int p2), .val (.int p3), .val (.int (43 : Int32)), .val (.int (73 : Int32)), .val (.ref w_INSERT), .val (.ref b76), .unset, .unset] [(.ref b76), (.ref b81), (.ref b81)])) rfl (by rw [hml]; rfl) (Steps.refl _) (a := b81) (argsL := [(.ref b76)]) (rest := [(.ref b81)]) (lenOf pd8 rfl) rfl (by show 2 * 0 + _ ≤ _; exact Nat.le_of_eq rfl) (hb hby at_170) (fun _ _ => ⟨rfl, e81, (by decide : 2 + 1 ≤ _), (by decide : 6 + 2 ≤ _)⟩)
        dsimp only [Pt.U, Pt.locs, Pt.cells, Pt.slots] at X82 l82 y82 z82 st82 hQ82
        subst l82 y82 z82
        obtain ⟨b1_3_2_82, k1_3_2_82, rfl, N82q, K82, s82_b1_3_2, f82_0, f82_1, f82_2, f82_3⟩ := hQ82
        have N82 := Fr.app N80 N82q
        have sz_b1_3_2_82 : h0.size ≤ b1_3_2_82 := Nat.le_trans K81.1 s82_b1_3_2
        have g_b1_3_2_82 : n0 ≤ b1_3_2_82 := Nat.le_trans Z0 sz_b1_3_2_82
        have KK82 : Keep h0 T82.heap [] := K81.trans K82 (allS (Or.inr sz_b81) all0)
        obtain ⟨_, _, ⟨T83, L83, k83, n83⟩, -, X83, ⟨Lc83, hQ83, l83, y83, z83⟩, st83⟩ := Jvm.LawKit.callS X82 hx (y := (⟨"com/example/tidemark/tidemark/table/RowKind", "fromShortName", "(Ljava/lang/String;)Lcom/example/tidemark/tidemark/table/RowKind;"⟩ : MethodName)) hown (mvT hZ (hw _ (List.mem_of_getElem? (i := 37) rfl))) (mvT hZ (hw _ (List.mem_of_getElem? (i := 38) rfl))) (mvT hZ (hw _ (List.mem_of_getElem? (i := 5) rfl))) (mvT hZ (hw _ (List.mem_of_getElem? (i := 39) rfl))) (by decide) (backOf (W := 0) (rm8 l Z a0 hw [] b81 w__VALUES kV w_INSERT w_UPDATE_BEFORE w_UPDATE_AFTER w_DELETE w_INSERT_shortName w_INSERT_shortName_value k_INSERT w_UPDATE_BEFORE_shortName w_UPDATE_BEFORE_shortName_value k_UPDATE_BEFORE w_UPDATE_AFTER_shortName w_UPDATE_AFTER_shortName_value k_UPDATE_AFTER w_DELETE_shortName w_DELETE_shortName_value k_DELETE b1_3_2_82 k1_3_2_82 (nar .byte ((43 : Int32).toInt8.toInt32)) (nar .byte ((73 : Int32).toInt8.toInt32)) w_COMPACT_STRINGS T82.heap n0 (Nat.le_trans Z0 KK82.1) (own_sta_keep ((((S__VALUES.ext E76).wr W78).wr W80).ext E81) K82 (allS (own_exa_ns A81) all0)) (((((E_w__VALUES.ext E76).wr W78).wr W80).ext E81).keep K82) (((((V_w__VALUES.ext E76).other W78 (Nat.ne_of_lt (Nat.lt_of_lt_of_le E_w__VALUES.lt (Nat.le_of_eq g76.symm)))).other W80 (Nat.ne_of_lt (Nat.lt_of_lt_of_le E_w__VALUES.lt (Nat.le_of_eq g76.symm)))).ext E81).keep K82 (ninS (Nat.ne_of_lt (Nat.lt_of_lt_of_le (((E_w__VALUES.ext E76).wr W78).wr W80).lt (Nat.le_of_eq g81.symm))) nin0)) (((((F_shortName_w_INSERT.ext E76).other W78 (Or.inl (Nat.ne_of_lt (Nat.lt_of_lt_of_le E_w_INSERT.lt (Nat.le_of_eq g76.symm))))).other W80 (Or.inl (Nat.ne_of_lt (Nat.lt_of_lt_of_le E_w_INSERT.lt (Nat.le_of_eq g76.symm))))).ext E81).keep K82 (ninS (Nat.ne_of_lt (Nat.lt_of_lt_of_le (((E_w_INSERT.ext E76).wr W78).wr W80).lt (Nat.le_of_eq g81.symm))) nin0)) (((((E_w_INSERT_shortName.ext E76).wr W78).wr W80).ext E81).keep K82) (((((F_coder_w_INSERT_shortName.ext E76).other W78 (Or.inl (Nat.ne_of_lt (Nat.lt_of_lt_of_le E_w_INSERT_shortName.lt (Nat.le_of_eq g76.symm))))).other W80 (Or.inl (Nat.ne_of_lt (Nat.lt_of_lt_of_le E_w_INSERT_shortName.lt (Nat.le_of_eq g76.symm))))).ext E81).keep K82 (ninS (Nat.ne_of_lt (Nat.lt_of_lt_of_le (((E_w_INSERT_shortName.ext E76).wr W78).wr W80).lt (Nat.le_of_eq g81.symm))) nin0)) (((((F_value_w_INSERT_shortName.ext E76).other W78 (Or.inl (Nat.ne_of_lt (Nat.lt_of_lt_of_le E_w_INSERT_shortName.lt (Nat.le_of_eq g76.symm))))).other W80 (Or.inl (Nat.ne_of_lt (Nat.lt_of_lt_of_le E_w_INSERT_shortName.lt (Nat.le_of_eq g76.symm))))).ext E81).keep K82 (ninS (Nat.ne_of_lt (Nat.lt_of_lt_of_le (((E_w_INSERT_shortName.ext E76).wr W78).wr W80).lt (Nat.le_of_eq g81.symm))) nin0)) (((((V_w_INSERT_shortName_value.ext E76).other W78 (Nat.ne_of_lt (Nat.lt_of_lt_of_le V_w_INSERT_shortName_value.lt (Nat.le_of_eq g76.symm)))).other W80 (Nat.ne_of_lt (Nat.lt_of_lt_of_le V_w_INSERT_shortName_value.lt (Nat.le_of_eq g76.symm)))).ext E81).keep K82 (ninS (Nat.ne_of_lt (Nat.lt_of_lt_of_le (((V_w_INSERT_shortName_value.ext E76).other W78 (Nat.ne_of_lt (Nat.lt_of_lt_of_le V_w_INSERT_shortName_value.lt (Nat.le_of_eq g76.symm)))).other W80 (Nat.ne_of_lt (Nat.lt_of_lt_of_le V_w_INSERT_shortName_value.lt (Nat.le_of_eq g76.symm)))).lt (Nat.le_of_eq g81.symm))) nin0)) (((((F_shortName_w_UPDATE_BEFORE.ext E76).other W78 (Or.inl (Nat.ne_of_lt (Nat.lt_of_lt_of_le E_w_UPDATE_BEFORE.lt (Nat.le_of_eq g76.symm))))).other W80 (Or.inl (Nat.ne_of_lt (Nat.lt_of_lt_of_le E_w_UPDATE_BEFORE.lt (Nat.le_of_eq g76.symm))))).ext E81).keep K82 (ninS (Nat.ne_of_lt (Nat.lt_of_lt_of_le (((E_w_UPDATE_BEFORE.ext E76).wr W78).wr W80).lt (Nat.le_of_eq g81.symm))) nin0)) (((((E_w_UPDATE_BEFORE_shortName.ext E76).wr W78).wr W80).ext E81).keep K82) (((((F_coder_w_UPDATE_BEFORE_shortName.ext E76).other W78 (Or.inl (Nat.ne_of_lt (Nat.lt_of_lt_of_le E_w_UPDATE_BEFORE_shortName.lt (Nat.le_of_eq g76.symm))))).other W80 (Or.inl (Nat.ne_of_lt (Nat.lt_of_lt_of_le E_w_UPDATE_BEFORE_shortName.lt (Nat.le_of_eq g76.symm))))).ext E81).keep K82 (ninS (Nat.ne_of_lt (Nat.lt_of_lt_of_le (((E_w_UPDATE_BEFORE_shortName.ext E76).wr W78).wr W80).lt (Nat.le_of_eq g81.symm))) nin0)) (((((F_value_w_UPDATE_BEFORE_shortName.ext E76).other W78 (Or.inl (Nat.ne_of_lt (Nat.lt_of_lt_of_le E_w_UPDATE_BEFORE_shortName.lt (Nat.le_of_eq g76.symm))))).other W80 (Or.inl (Nat.ne_of_lt (Nat.lt_of_lt_of_le E_w_UPDATE_BEFORE_shortName.lt (Nat.le_of_eq g76.symm))))).ext E81).keep K82 (ninS (Nat.ne_of_lt (Nat.lt_of_lt_of_le (((E_w_UPDATE_BEFORE_shortName.ext E76).wr W78).wr W80).lt (Nat.le_of_eq g81.symm))) nin0)) (((((V_w_UPDATE_BEFORE_shortName_value.ext E76).other W78 (Nat.ne_of_lt (Nat.lt_of_lt_of_le V_w_UPDATE_BEFORE_shortName_value.lt (Nat.le_of_eq g76.symm)))).other W80 (Nat.ne_of_lt (Nat.lt_of_lt_of_le V_w_UPDATE_BEFORE_shortName_value.lt (Nat.le_of_eq g76.symm)))).ext E81).keep K82 (ninS (Nat.ne_of_lt (Nat.lt_of_lt_of_le (((V_w_UPDATE_BEFORE_shortName_value.ext E76).other W78 (Nat.ne_of_lt (Nat.lt_of_lt_of_le V_w_UPDATE_BEFORE_shortName_value.lt (Nat.le_of_eq g76.symm)))).other W80 (Nat.ne_of_lt (Nat.lt_of_lt_of_le V_w_UPDATE_BEFORE_shortName_value.lt (Nat.le_of_eq g76.symm)))).lt (Nat.le_of_eq g81.symm))) nin0)) (((((F_shortName_w_UPDATE_AFTER.ext E76).other W78 (Or.inl (Nat.ne_of_lt (Nat.lt_of_lt_of_le E_w_UPDATE_AFTER.lt (Nat.le_of_eq g76.symm))))).other W80 (Or.inl (Nat.ne_of_lt (Nat.lt_of_lt_of_le E_w_UPDATE_AFTER.lt (Nat.le_of_eq g76.symm))))).ext E81).keep K82 (ninS (Nat.ne_of_lt (Nat.lt_of_lt_of_le (((E_w_UPDATE_AFTER.ext E76).wr W78).wr W80).lt (Nat.le_of_eq g81.symm))) nin0)) (((((E_w_UPDATE_AFTER_shortName.ext E76).wr W78).wr W80).ext E81).keep K82) (((((F_coder_w_UPDATE_AFTER_shortName.ext E76).other W78 (Or.inl (Nat.ne_of_lt (Nat.lt_of_lt_of_le E_w_UPDATE_AFTER_shortName.lt (Nat.le_of_eq g76.symm))))).other W80 (Or.inl (Nat.ne_of_lt (Nat.lt_of_lt_of_le E_w_UPDATE_AFTER_shortName.lt (Nat.le_of_eq g76.symm))))).ext E81).keep K82 (ninS (Nat.ne_of_lt (Nat.lt_of_lt_of_le (((E_w_UPDATE_AFTER_shortName.ext E76).wr W78).wr W80).lt (Nat.le_of_eq g81.symm))) nin0)) (((((F_value_w_UPDATE_AFTER_shortName.ext E76).other W78 (Or.inl (Nat.ne_of_lt (Nat.lt_of_lt_of_le E_w_UPDATE_AFTER_shortName.lt (Nat.le_of_eq g76.symm))))).other W80 (Or.inl (Nat.ne_of_lt (Nat.lt_of_lt_of_le E_w_UPDATE_AFTER_shortName.lt (Nat.le_of_eq g76.symm))))).ext E81).keep K82 (ninS (Nat.ne_of_lt (Nat.lt_of_lt_of_le (((E_w_UPDATE_AFTER_shortName.ext E76).wr W78).wr W80).lt (Nat.le_of_eq g81.symm))) nin0)) (((((V_w_UPDATE_AFTER_shortName_value.ext E76).other W78 (Nat.ne_of_lt (Nat.lt_of_lt_of_le V_w_UPDATE_AFTER_shortName_value.lt (Nat.le_of_eq g76.symm)))).other W80 (Nat.ne_of_lt (Nat.lt_of_lt_of_le V_w_UPDATE_AFTER_shortName_value.lt (Nat.le_of_eq g76.symm)))).ext E81).keep K82 (ninS (Nat.ne_of_lt (Nat.lt_of_lt_of_le (((V_w_UPDATE_AFTER_shortName_value.ext E76).other W78 (Nat.ne_of_lt (Nat.lt_of_lt_of_le V_w_UPDATE_AFTER_shortName_value.lt (Nat.le_of_eq g76.symm)))).other W80 (Nat.ne_of_lt (Nat.lt_of_lt_of_le V_w_UPDATE_AFTER_shortName_value.lt (Nat.le_of_eq g76.symm)))).lt (Nat.le_of_eq g81.symm))) nin0)) (((((F_shortName_w_DELETE.ext E76).other W78 (Or.inl (Nat.ne_of_lt (Nat.lt_of_lt_of_le E_w_DELETE.lt (Nat.le_of_eq g76.symm))))).other W80 (Or.inl (Nat.ne_of_lt (Nat.lt_of_lt_of_le E_w_DELETE.lt (Nat.le_of_eq g76.symm))))).ext E81).keep K82 (ninS (Nat.ne_of_lt (Nat.lt_of_lt_of_le (((E_w_DELETE.ext E76).wr W78).wr W80).lt (Nat.le_of_eq g81.symm))) nin0)) (((((E_w_DELETE_shortName.ext E76).wr W78).wr W80).ext E81).keep K82) (((((F_coder_w_DELETE_shortName.ext E76).other W78 (Or.inl (Nat.ne_of_lt (Nat.lt_of_lt_of_le E_w_DELETE_shortName.lt (Nat.le_of_eq g76.symm))))).other W80 (Or.inl (Nat.ne_of_lt (Nat.lt_of_lt_of_le E_w_DELETE_shortName.lt (Nat.le_of_eq g76.symm))))).ext E81).keep K82 (ninS (Nat.ne_of_lt (Nat.lt_of_lt_of_le (((E_w_DELETE_shortName.ext E76).wr W78).wr W80).lt (Nat.le_of_eq g81.symm))) nin0)) (((((F_value_w_DELETE_shortName.ext E76).other W78 (Or.inl (Nat.ne_of_lt (Nat.lt_of_lt_of_le E_w_DELETE_shortName.lt (Nat.le_of_eq g76.symm))))).other W80 (Or.inl (Nat.ne_of_lt (Nat.lt_of_lt_of_le E_w_DELETE_shortName.lt (Nat.le_of_eq g76.symm))))).ext E81).keep K82 (ninS (Nat.ne_of_lt (Nat.lt_of_lt_of_le (((E_w_DELETE_shortName.ext E76).wr W78).wr W80).lt (Nat.le_of_eq g81.symm))) nin0)) (((((V_w_DELETE_shortName_value.ext E76).other W78 (Nat.ne_of_lt (Nat.lt_of_lt_of_le V_w_DELETE_shortName_value.lt (Nat.le_of_eq g76.symm)))).other W80 (Nat.ne_of_lt (Nat.lt_of_lt_of_le V_w_DELETE_shortName_value.lt (Nat.le_of_eq g76.symm)))).ext E81).keep K82 (ninS (Nat.ne_of_lt (Nat.lt_of_lt_of_le (((V_w_DELETE_shortName_value.ext E76).other W78 (Nat.ne_of_lt (Nat.lt_of_lt_of_le V_w_DELETE_shortName_value.lt (Nat.le_of_eq g76.symm)))).other W80 (Nat.ne_of_lt (Nat.lt_of_lt_of_le V_w_DELETE_shortName_value.lt (Nat.le_of_eq g76.symm)))).lt (Nat.le_of_eq g81.symm))) nin0)) (A81.keep K82) f82_1 f82_2 f82_3 (own_sta_keep ((((S_COMPACT_STRINGS.ext E76).wr W78).wr W80).ext E81) K82 (allS (own_exa_ns A81) all0)) (hCS : ¬ (w_COMPACT_STRINGS = (0 : Int32))) (by decide : ((nar .byte ((43 : Int32).toInt8.toInt32)) = (43 : Int32) ∧ (nar .byte ((73 : Int32).toInt8.toInt32)) = (73 : Int32)) ∨ ((nar .byte ((43 : Int32).toInt8.toInt32)) = (45 : Int32) ∧ (nar .byte ((73 : Int32).toInt8.toInt32)) = (85 : Int32)) ∨ ((nar .byte ((43 : Int32).toInt8.toInt32)) = (43 : Int32) ∧ (nar .byte ((73 : Int32).toInt8.toInt32)) = (85 : Int32)) ∨ ((nar .byte ((43 : Int32).toInt8.toInt32)) = (45 : Int32) ∧ (nar .byte ((73 : Int32).toInt8.toInt32)) = (68 : Int32))) ((Nat.ne_of_lt (Nat.lt_of_lt_of_le (((E_w_INSERT_shortName.ext E76).wr W78).wr W80).lt (Nat.le_of_eq g81.symm))) : w_INSERT_shortName ≠ b81) ((Nat.ne_of_lt (Nat.lt_of_lt_of_le (((E_w_UPDATE_BEFORE_shortName.ext E76).wr W78).wr W80).lt (Nat.le_of_eq g81.symm))) : w_UPDATE_BEFORE_shortName ≠ b81) ((Nat.ne_of_lt (Nat.lt_of_lt_of_le (((E_w_UPDATE_AFTER_shortName.ext E76).wr W78).wr W80).lt (Nat.le_of_eq g81.symm))) : w_UPDATE_AFTER_shortName ≠ b81) ((Nat.ne_of_lt (Nat.lt_of_lt_of_le (((E_w_DELETE_shortName.ext E76).wr W78).wr W80).lt (Nat.le_of_eq g81.symm))) : w_DELETE_shortName ≠ b81)) hZ (hw _ (List.mem_of_getElem? (i := 39) rfl)) (hw _ (List.mem_of_getElem? (i := 5) rfl)) (by decide) (by decide)) (g := (mkF m 177 #[.val (.int p1), .val (.int p2), .val (.int p3), .val (.int (43 : Int32)), .val (.int (73 : Int32)), .val (.ref w_INSERT), .val (.ref b76), .val (.ref b81), .unset] [(.ref b81)])) rfl (by rw [hml]; rfl) (argsL := [(.ref b81)]) (rest := []) (lenOf pd9 rfl) rfl (by show 2 * 0 + _ ≤ _; exact Nat.le_of_eq rfl) (hb hby at_177) (fun _ _ => ⟨rfl, rfl, (by decide : 3 + 1 ≤ _), (by decide : 8 + 4 ≤ _)⟩)
        dsimp only [Pt.U, Pt.locs, Pt.cells, Pt.slots] at X83 l83 y83 z83 st83 hQ83
        subst l83 y83 z83
        obtain ⟨rfl, N83q, K83⟩ := hQ83
        have N83 := Fr.app N82 N83q
        have KK83 : Keep h0 T83.heap [] := KK82.trans K83 all0
        have ev83 : (res8 w_INSERT w_UPDATE_BEFORE w_UPDATE_AFTER w_DELETE (nar .byte ((43 : Int32).toInt8.toInt32)) (nar .byte ((73 : Int32).toInt8.toInt32))) = w_INSERT := by first | rfl | decide
        rw [ev83] at st83
        obtain ⟨cq84, kq84, q84a, q84b, q84c⟩ := isOf hZ rfl ((((((E_w_INSERT.ext E76).wr W78).wr W80).ext E81).keep K82).keep K83)
        obtain ⟨_, _, ⟨T84, L84, k84, n84⟩, -, X84, ⟨Lc84, hQ84, l84, y84, z84⟩, st84⟩ := X83.virtualBack hx (y := (⟨"com/example/tidemark/tidemark/table/RowKind", "shortName", "()Ljava/lang/String;"⟩ : MethodName)) (z := (⟨"com/example/tidemark/tidemark/table/RowKind", "shortName", "()Ljava/lang/String;"⟩ : MethodName)) hown (mvT hZ (hw _ (List.mem_of_getElem? (i := 70) rfl))) (mvT hZ (hw _ (List.mem_of_getElem? (i := 71) rfl))) (notFace_of_selects (args := #[]) (mvT hZ (hw _ (List.mem_of_getElem? (i := 73) rfl)))) (mvT hZ (hw _ (List.mem_of_getElem? (i := 73) rfl))) (mvT hZ (hw _ (List.mem_of_getElem? (i := 72) rfl))) (by decide) (backOf (W := 0) (rm12 l Z a0 hw [] w_INSERT w_INSERT_shortName T83.heap n0 (Nat.le_trans Z0 KK83.1) ((((((F_shortName_w_INSERT.ext E76).other W78 (Or.inl (Nat.ne_of_lt (Nat.lt_of_lt_of_le E_w_INSERT.lt (Nat.le_of_eq g76.symm))))).other W80 (Or.inl (Nat.ne_of_lt (Nat.lt_of_lt_of_le E_w_INSERT.lt (Nat.le_of_eq g76.symm))))).ext E81).keep K82 (ninS (Nat.ne_of_lt (Nat.lt_of_lt_of_le (((E_w_INSERT.ext E76).wr W78).wr W80).lt (Nat.le_of_eq g81.symm))) nin0)).keep K83 nin0) ) hZ (hw _ (List.mem_of_getElem? (i := 74) rfl)) (hw _ (List.mem_of_getElem? (i := 5) rfl)) (by decide) (by decide)) q84a q84c (g := (mkF m 191 #[.val (.int p1), .val (.int p2), .val (.int p3), .val (.int (43 : Int32)), .val (.int (73 : Int32)), .val (.ref w_INSERT), .val (.ref b76), .val (.ref b81), .val (.ref w_INSERT)] [(.ref w_INSERT)])) rfl (by rw [hml]; rfl) (Steps.refl _) (argsL := []) (rest := []) (lenOf pd10 rfl) rfl (by show 2 * 0 + _ ≤ _; exact Nat.le_of_eq rfl) (hb hby at_191) (fun _ _ => ⟨rfl, rfl, (by decide : 4 + 0 ≤ _), (by decide : 12 + 0 ≤ _)⟩)
        dsimp only [Pt.U, Pt.locs, Pt.cells, Pt.slots] at X84 l84 y84 z84 st84 hQ84
        subst l84 y84 z84
        obtain ⟨rfl, rfl, e84⟩ := hQ84
        have N84 := Fr.app N83 (Fr.nil n0)
        obtain ⟨cq85, kq85, q85a, q85b, q85c⟩ := isOf hZ e84 ((((((E_w_INSERT_shortName.ext E76).wr W78).wr W80).ext E81).keep K82).keep K83)
        obtain ⟨_, _, ⟨T85, L85, k85, n85⟩, -, X85, ⟨Lc85, hQ85, l85, y85, z85⟩, st85⟩ := X84.virtualBack hx (y := (⟨"java/lang/String", "equals", "(Ljava/lang/Object;)Z"⟩ : MethodName)) (z := (⟨"java/lang/String", "equals", "(Ljava/lang/Object;)Z"⟩ : MethodName)) hown (mvT hZ (hw _ (List.mem_of_getElem? (i := 75) rfl))) (mvT hZ (hw _ (List.mem_of_getElem? (i := 61) rfl))) (notFace_of_selects (args := #[]) (mvT hZ (hw _ (List.mem_of_getElem? (i := 63) rfl)))) (mvT hZ (hw _ (List.mem_of_getElem? (i := 63) rfl))) (mvT hZ (hw _ (List.mem_of_getElem? (i := 62) rfl))) (by decide) (backOf (W := 0) (rm_eq_2_2 l Z a0 hw [] w_INSERT_shortName b81 w_INSERT_shortName_value k_INSERT (43 : Int32) (73 : Int32) b1_3_2_82 k1_3_2_82 (nar .byte ((43 : Int32).toInt8.toInt32)) (nar .byte ((73 : Int32).toInt8.toInt32)) w_COMPACT_STRINGS T83.heap n0 (Nat.le_trans Z0 KK83.1) ((((((E_w_INSERT_shortName.ext E76).wr W78).wr W80).ext E81).keep K82).keep K83) ((((((F_coder_w_INSERT_shortName.ext E76).other W78 (Or.inl (Nat.ne_of_lt (Nat.lt_of_lt_of_le E_w_INSERT_shortName.lt (Nat.le_of_eq g76.symm))))).other W80 (Or.inl (Nat.ne_of_lt (Nat.lt_of_lt_of_le E_w_INSERT_shortName.lt (Nat.le_of_eq g76.symm))))).ext E81).keep K82 (ninS (Nat.ne_of_lt (Nat.lt_of_lt_of_le (((E_w_INSERT_shortName.ext E76).wr W78).wr W80).lt (Nat.le_of_eq g81.symm))) nin0)).keep K83 nin0) ((((((F_value_w_INSERT_shortName.ext E76).other W78 (Or.inl (Nat.ne_of_lt (Nat.lt_of_lt_of_le E_w_INSERT_shortName.lt (Nat.le_of_eq g76.symm))))).other W80 (Or.inl (Nat.ne_of_lt (Nat.lt_of_lt_of_le E_w_INSERT_shortName.lt (Nat.le_of_eq g76.symm))))).ext E81).keep K82 (ninS (Nat.ne_of_lt (Nat.lt_of_lt_of_le (((E_w_INSERT_shortName.ext E76).wr W78).wr W80).lt (Nat.le_of_eq g81.symm))) nin0)).keep K83 nin0) ((((((V_w_INSERT_shortName_value.ext E76).other W78 (Nat.ne_of_lt (Nat.lt_of_lt_of_le V_w_INSERT_shortName_value.lt (Nat.le_of_eq g76.symm)))).other W80 (Nat.ne_of_lt (Nat.lt_of_lt_of_le V_w_INSERT_shortName_value.lt (Nat.le_of_eq g76.symm)))).ext E81).keep K82 (ninS (Nat.ne_of_lt (Nat.lt_of_lt_of_le (((V_w_INSERT_shortName_value.ext E76).other W78 (Nat.ne_of_lt (Nat.lt_of_lt_of_le V_w_INSERT_shortName_value.lt (Nat.le_of_eq g76.symm)))).other W80 (Nat.ne_of_lt (Nat.lt_of_lt_of_le V_w_INSERT_shortName_value.lt (Nat.le_of_eq g76.symm)))).lt (Nat.le_of_eq g81.symm))) nin0)).keep K83 nin0) ((A81.keep K82).keep K83) (f82_1.keep K83 nin0) (f82_2.keep K83 nin0) (f82_3.keep K83 nin0) (own_sta_keep (own_sta_keep ((((S_COMPACT_STRINGS.ext E76).wr W78).wr W80).ext E81) K82 (allS (own_exa_ns A81) all0)) K83 all0) ((Nat.ne_of_lt (Nat.lt_of_lt_of_le (((E_w_INSERT_shortName.ext E76).wr W78).wr W80).lt (Nat.le_of_eq g81.symm))) : w_INSERT_shortName ≠ b81) (hCS : ¬ (w_COMPACT_STRINGS = (0 : Int32)))) hZ (hw _ (List.mem_of_getElem? (i := 64) rfl)) (hw _ (List.mem_of_getElem? (i := 10) rfl)) (by decide) (by decide)) q85a q85c (g := (mkF m 196 #[.val (.int p1), .val (.int p2), .val (.int p3), .val (.int (43 : Int32)), .val (.int (73 : Int32)), .val (.ref w_INSERT), .val (.ref b76), .val (.ref b81), .val (.ref w_INSERT)] [(.ref b81), (.ref w_INSERT_shortName)])) rfl (by rw [hml]; rfl) (Steps.refl _) (argsL := [(.ref b81)]) (rest := []) (lenOf pd6 rfl) rfl (by show 2 * 0 + _ ≤ _; exact Nat.le_of_eq rfl) (hb hby at_196) (fun _ _ => ⟨rfl, e84, (by decide : 4 + 0 ≤ _), (by decide : 12 + 0 ≤ _)⟩)
        dsimp only [Pt.U, Pt.locs, Pt.cells, Pt.slots] at X85 l85 y85 z85 st85 hQ85
        subst l85 y85 z85
        obtain ⟨rfl, rfl, e85⟩ := hQ85
        have N85 := Fr.app N84 (Fr.nil n0)
        have ev85 : (res_eq_2_2 (43 : Int32) (73 : Int32) (nar .byte ((43 : Int32).toInt8.toInt32)) (nar .byte ((73 : Int32).toInt8.toInt32))) = (1 : Int32) := by first | rfl | decide
        rw [ev85] at st85
        obtain ⟨fs, hr, hrun, hended, hW, hsame⟩ := X85.leave (v := some (.int (1 : Int32))) (fun h => by rw [Bd.returns] at h; cases h)
        refine ⟨_, _, pre73 _ ?_, hrun, hended, _, _, rfl, ?_, ⟨_, rfl⟩, hW, hsame.mono (by decide) (by decide)⟩
        · show Steps p.tables e below (s₁.setTop (mkF m 82 #[.val (.int p1), .val (.int p2), .val (.int p3), .val (.int (43 : Int32)), .val (.int (73 : Int32)), .val .null, .unset, .unset, .unset] [(.int (73 : Int32)), (.int (73 : Int32))])) _
          refine XS.icmpNo X0.here hx rfl (hb hby at_82) rfl (teq (rfl : (73 : Int32) = (73 : Int32))).2 ?_
          show Steps p.tables e below (s₁.setTop (mkF m 85 #[.val (.int p1), .val (.int p2), .val (.int p3), .val (.int (43 : Int32)), .val (.int (73 : Int32)), .val .null, .unset, .unset, .unset] [])) _
          refine st75 _ ?_
          show Steps p.tables e below (T75.setTop (mkF m 88 #[.val (.int p1), .val (.int p2), .val (.int p3), .val (.int (43 : Int32)), .val (.int (73 : Int32)), .val .null, .unset, .unset, .unset] [(.ref w_INSERT)])) _
          refine XS.astore X75.here hx rfl (hb hby at_88) rfl rfl (l' := #[.val (.int p1), .val (.int p2), .val (.int p3), .val (.int (43 : Int32)), .val (.int (73 : Int32)), .val (.ref w_INSERT), .unset, .unset, .unset]) rfl ?_
          show Steps p.tables e below (T75.setTop (mkF m 90 #[.val (.int p1), .val (.int p2), .val (.int p3), .val (.int (43 : Int32)), .val (.int (73 : Int32)), .val (.ref w_INSERT), .unset, .unset, .unset] [])) _
          refine XS.goto X75.here hx rfl (pc0 := 90) (pc' := 141) rfl (hb hby at_90) (by decide) (by decide) ?_
          show Steps p.tables e below (T75.setTop (mkF m 141 #[.val (.int p1), .val (.int p2), .val (.int p3), .val (.int (43 : Int32)), .val (.int (73 : Int32)), .val (.ref w_INSERT), .unset, .unset, .unset] [])) _
          refine XS.aload X75.here hx rfl (hb hby at_141) rfl rfl ?_
          show Steps p.tables e below (T75.setTop (mkF m 143 #[.val (.int p1), .val (.int p2), .val (.int p3), .val (.int (43 : Int32)), .val (.int (73 : Int32)), .val (.ref w_INSERT), .unset, .unset, .unset] [(.ref w_INSERT)])) _
          refine XS.ifnonnullYes X75.here hx rfl (pc0 := 143) (pc' := 148) rfl (hb hby at_143) rfl (by decide) (by decide) ?_
          show Steps p.tables e below (T75.setTop (mkF m 148 #[.val (.int p1), .val (.int p2), .val (.int p3), .val (.int (43 : Int32)), .val (.int (73 : Int32)), .val (.ref w_INSERT), .unset, .unset, .unset] [])) _
          refine XS.iconst X75.here hx rfl (hb hby at_148) ?_
          show Steps p.tables e below (T75.setTop (mkF m 149 #[.val (.int p1), .val (.int p2), .val (.int p3), .val (.int (43 : Int32)), .val (.int (73 : Int32)), .val (.ref w_INSERT), .unset, .unset, .unset] [(.int (2 : Int32))])) _
          refine st76 _ ?_
          show Steps p.tables e below (T76.setTop (mkF m 151 #[.val (.int p1), .val (.int p2), .val (.int p3), .val (.int (43 : Int32)), .val (.int (73 : Int32)), .val (.ref w_INSERT), .unset, .unset, .unset] [(.ref b76)])) _
          refine XS.astore X76.here hx rfl (hb hby at_151) rfl rfl (l' := #[.val (.int p1), .val (.int p2), .val (.int p3), .val (.int (43 : Int32)), .val (.int (73 : Int32)), .val (.ref w_INSERT), .val (.ref b76), .unset, .unset]) rfl ?_
          show Steps p.tables e below (T76.setTop (mkF m 153 #[.val (.int p1), .val (.int p2), .val (.int p3), .val (.int (43 : Int32)), .val (.int (73 : Int32)), .val (.ref w_INSERT), .val (.ref b76), .unset, .unset] [])) _
          refine XS.aload X76.here hx rfl (hb hby at_153) rfl rfl ?_
          show Steps p.tables e below (T76.setTop (mkF m 155 #[.val (.int p1), .val (.int p2), .val (.int p3), .val (.int (43 : Int32)), .val (.int (73 : Int32)), .val (.ref w_INSERT), .val (.ref b76), .unset, .unset] [(.ref b76)])) _
          refine XS.iconst X76.here hx rfl (hb hby at_155) ?_
          show Steps p.tables e below (T76.setTop (mkF m 156 #[.val (.int p1), .val (.int p2), .val (.int p3), .val (.int (43 : Int32)), .val (.int (73 : Int32)), .val (.ref w_INSERT), .val (.ref b76), .unset, .unset] [(.int (0 : Int32)), (.ref b76)])) _
          refine XS.iloadN X76.here hx rfl (hb hby at_156) rfl ?_
          show Steps p.tables e below (T76.setTop (mkF m 157 #[.val (.int p1), .val (.int p2), .val (.int p3), .val (.int (43 : Int32)), .val (.int (73 : Int32)), .val (.ref w_INSERT), .val (.ref b76), .unset, .unset] [(.int (43 : Int32)), (.int (0 : Int32)), (.ref b76)])) _
          refine st78 _ ?_
          show Steps p.tables e below (T78.setTop (mkF m 158 #[.val (.int p1), .val (.int p2), .val (.int p3), .val (.int (43 : Int32)), .val (.int (73 : Int32)), .val (.ref w_INSERT), .val (.ref b76), .unset, .unset] [])) _
          refine XS.aload X78.here hx rfl (hb hby at_158) rfl rfl ?_
          show Steps p.tables e below (T78.setTop (mkF m 160 #[.val (.int p1), .val (.int p2), .val (.int p3), .val (.int (43 : Int32)), .val (.int (73 : Int32)), .val (.ref w_INSERT), .val (.ref b76), .unset, .unset] [(.ref b76)])) _
          refine XS.iconst X78.here hx rfl (hb hby at_160) ?_
          show Steps p.tables e below (T78.setTop (mkF m 161 #[.val (.int p1), .val (.int p2), .val (.int p3), .val (.int (43 : Int32)), .val (.int (73 : Int32)), .val (.ref w_INSERT), .val (.ref b76), .unset, .unset] [(.int (1 : Int32)), (.ref b76)])) _
          refine XS.iload X78.here hx rfl (hb hby at_161) rfl ?_
          show Steps p.tables e below (T78.setTop (mkF m 163 #[.val (.int p1), .val (.int p2), .val (.int p3), .val (.int (43 : Int32)), .val (.int (73 : Int32)), .val (.ref w_INSERT), .val (.ref b76), .unset, .unset] [(.int (73 : Int32)), (.int (1 : Int32)), (.ref b76)])) _
          refine st80 _ ?_
          show Steps p.tables e below (T80.setTop (mkF m 164 #[.val (.int p1), .val (.int p2), .val (.int p3), .val (.int (43 : Int32)), .val (.int (73 : Int32)), .val (.ref w_INSERT), .val (.ref b76), .unset, .unset] [])) _
          refine st81 _ ?_
          show Steps p.tables e below (T81.setTop (mkF m 167 #[.val (.int p1), .val (.int p2), .val (.int p3), .val (.int (43 : Int32)), .val (.int (73 : Int32)), .val (.ref w_INSERT), .val (.ref b76), .unset, .unset] [(.ref b81)])) _
          refine XS.dup X81.here hx rfl (hb hby at_167) rfl rfl ?_
          show Steps p.tables e below (T81.setTop (mkF m 168 #[.val (.int p1), .val (.int p2), .val (.int p3), .val (.int (43 : Int32)), .val (.int (73 : Int32)), .val (.ref w_INSERT), .val (.ref b76), .unset, .unset] [(.ref b81), (.ref b81)])) _
          refine XS.aload X81.here hx rfl (hb hby at_168) rfl rfl ?_
          show Steps p.tables e below (T81.setTop (mkF m 170 #[.val (.int p1), .val (.int p2), .val (.int p3), .val (.int (43 : Int32)), .val (.int (73 : Int32)), .val (.ref w_INSERT), .val (.ref b76), .unset, .unset] [(.ref b76), (.ref b81), (.ref b81)])) _
          refine st82.trans ?_
          show Steps p.tables e below (T82.setTop (mkF m 173 #[.val (.int p1), .val (.int p2), .val (.int p3), .val (.int (43 : Int32)), .val (.int (73 : Int32)), .val (.ref w_INSERT), .val (.ref b76), .unset, .unset] [(.ref b81)])) _
          refine XS.astore X82.here hx rfl (hb hby at_173) rfl rfl (l' := #[.val (.int p1), .val (.int p2), .val (.int p3), .val (.int (43 : Int32)), .val (.int (73 : Int32)), .val (.ref w_INSERT), .val (.ref b76), .val (.ref b81), .unset]) rfl ?_
          show Steps p.tables e below (T82.setTop (mkF m 175 #[.val (.int p1), .val (.int p2), .val (.int p3), .val (.int (43 : Int32)), .val (.int (73 : Int32)), .val (.ref w_INSERT), .val (.ref b76), .val (.ref b81), .unset] [])) _
          refine XS.aload X82.here hx rfl (hb hby at_175) rfl rfl ?_
          show Steps p.tables e below (T82.setTop (mkF m 177 #[.val (.int p1), .val (.int p2), .val (.int p3), .val (.int (43 : Int32)), .val (.int (73 : Int32)), .val (.ref w_INSERT), .val (.ref b76), .val (.ref b81), .unset] [(.ref b81)])) _
          refine st83 _ ?_
          show Steps p.tables e below (T83.setTop (mkF m 180 #[.val (.int p1), .val (.int p2), .val (.int p3), .val (.int (43 : Int32)), .val (.int (73 : Int32)), .val (.ref w_INSERT), .val (.ref b76), .val (.ref b81), .unset] [(.ref w_INSERT)])) _
          refine XS.astore X83.here hx rfl (hb hby at_180) rfl rfl (l' := #[.val (.int p1), .val (.int p2), .val (.int p3), .val (.int (43 : Int32)), .val (.int (73 : Int32)), .val (.ref w_INSERT), .val (.ref b76), .val (.ref b81), .val (.ref w_INSERT)]) rfl ?_
          show Steps p.tables e below (T83.setTop (mkF m 182 #[.val (.int p1), .val (.int p2), .val (.int p3), .val (.int (43 : Int32)), .val (.int (73 : Int32)), .val (.ref w_INSERT), .val (.ref b76), .val (.ref b81), .val (.ref w_INSERT)] [])) _
          refine XS.aload X83.here hx rfl (hb hby at_182) rfl rfl ?_
          show Steps p.tables e below (T83.setTop (mkF m 184 #[.val (.int p1), .val (.int p2), .val (.int p3), .val (.int (43 : Int32)), .val (.int (73 : Int32)), .val (.ref w_INSERT), .val (.ref b76), .val (.ref b81), .val (.ref w_INSERT)] [(.ref w_INSERT)])) _
          refine XS.aload X83.here hx rfl (hb hby at_184) rfl rfl ?_
          show Steps p.tables e below (T83.setTop (mkF m 186 #[.val (.int p1), .val (.int p2), .val (.int p3), .val (.int (43 : Int32)), .val (.int (73 : Int32)), .val (.ref w_INSERT), .val (.ref b76), .val (.ref b81), .val (.ref w_INSERT)] [(.ref w_INSERT), (.ref w_INSERT)])) _
          refine Jvm.RoadKit.acmp (g := (mkF m 186 #[.val (.int p1), .val (.int p2), .val (.int p3), .val (.int (43 : Int32)), .val (.int (73 : Int32)), .val (.ref w_INSERT), .val (.ref b76), .val (.ref b81), .val (.ref w_INSERT)] [(.ref w_INSERT), (.ref w_INSERT)])) X83 hx rfl rfl rfl (pc0 := 186) (pc' := 189) (same := true) rfl (hb hby at_186) rfl (decide_eq_true (congrArg Value.ref rfl)) (by decide) (by decide) ?_
          show Steps p.tables e below (T83.setTop (mkF m 189 #[.val (.int p1), .val (.int p2), .val (.int p3), .val (.int (43 : Int32)), .val (.int (73 : Int32)), .val (.ref w_INSERT), .val (.ref b76), .val (.ref b81), .val (.ref w_INSERT)] [])) _
          refine XS.aload X83.here hx rfl (hb hby at_189) rfl rfl ?_
          show Steps p.tables e below (T83.setTop (mkF m 191 #[.val (.int p1), .val (.int p2), .val (.int p3), .val (.int (43 : Int32)), .val (.int (73 : Int32)), .val (.ref w_INSERT), .val (.ref b76), .val (.ref b81), .val (.ref w_INSERT)] [(.ref w_INSERT)])) _
          refine st84.trans ?_
          show Steps p.tables e below (T84.setTop (mkF m 194 #[.val (.int p1), .val (.int p2), .val (.int p3), .val (.int (43 : Int32)), .val (.int (73 : Int32)), .val (.ref w_INSERT), .val (.ref b76), .val (.ref b81), .val (.ref w_INSERT)] [(.ref w_INSERT_shortName)])) _
          refine XS.aload X84.here hx rfl (hb hby at_194) rfl rfl ?_
          show Steps p.tables e below (T84.setTop (mkF m 196 #[.val (.int p1), .val (.int p2), .val (.int p3), .val (.int (43 : Int32)), .val (.int (73 : Int32)), .val (.ref w_INSERT), .val (.ref b76), .val (.ref b81), .val (.ref w_INSERT)] [(.ref b81), (.ref w_INSERT_shortName)])) _
          refine st85.trans ?_
          show Steps p.tables e below (T85.setTop (mkF m 199 #[.val (.int p1), .val (.int p2), .val (.int p3), .val (.int (43 : Int32)), .val (.int (73 : Int32)), .val (.ref w_INSERT), .val (.ref b76), .val (.ref b81), .val (.ref w_INSERT)] [(.int (1 : Int32))])) _
          refine XS.ifNo X85.here hx rfl (hb hby at_199) rfl ((if0 _ _).trans (feq (by decide : ¬ ((1 : Int32) = (0 : Int32)))).1) ?_
          show Steps p.tables e below (T85.setTop (mkF m 202 #[.val (.int p1), .val (.int p2), .val (.int p3), .val (.int (43 : Int32)), .val (.int (73 : Int32)), .val (.ref w_INSERT), .val (.ref b76), .val (.ref b81), .val (.ref w_INSERT)] [])) _
          refine XS.iconst X85.here hx rfl (hb hby at_202) ?_
          show Steps p.tables e below (T85.setTop (mkF m 203 #[.val (.int p1), .val (.int p2), .val (.int p3), .val (.int (43 : Int32)), .val (.int (73 : Int32)), .val (.ref w_INSERT), .val (.ref b76), .val (.ref b81), .val (.ref w_INSERT)] [(.int (1 : Int32))])) _
          refine XS.goto X85.here hx rfl (pc0 := 203) (pc' := 207) rfl (hb hby at_203) (by decide) (by decide) ?_
          show Steps p.tables e below (T85.setTop (mkF m 207 #[.val (.int p1), .val (.int p2), .val (.int p3), .val (.int (43 : Int32)), .val (.int (73 : Int32)), .val (.ref w_INSERT), .val (.ref b76), .val (.ref b81), .val (.ref w_INSERT)] [(.int (1 : Int32))])) _
          exact retN X85 hx (t := .boolean) Bd.returns (by simp) (hb hby at_207) hr
        · show Q0 Z p1 p2 p3 w__VALUES kV w_INSERT w_UPDATE_BEFORE w_UPDATE_AFTER w_DELETE w_INSERT_shortName w_INSERT_shortName_value k_INSERT w_UPDATE_BEFORE_shortName w_UPDATE_BEFORE_shortName_value k_UPDATE_BEFORE w_UPDATE_AFTER_shortName w_UPDATE_AFTER_shortName_value k_UPDATE_AFTER w_DELETE_shortName w_DELETE_shortName_value k_DELETE w_COMPACT_STRINGS h0 n0 _ T85.heap _
          rw [e85]
          exact ⟨by rw [res0, if_neg hc3_2, if_pos hc75_72, if_pos hc82_74], N85⟩
      · have pre86 : ∀ t, Steps p.tables e below (s₁.setTop (mkF m 97 #[.val (.int p1), .val (.int p2), .val (.int p3), .val (.int (43 : Int32)), .val (.int (mg0_32_s0 p2)), .val .null, .unset, .unset, .unset] [(.int (85 : Int32)), (.int (mg0_32_s0 p2))])) t → Steps p.tables e below (s₁.setTop (entryFrame m #[(.int p1), (.int p2), (.int p3)] maxLocals)) t := by
          intro t kt
          refine pre73 _ ?_
          show Steps p.tables e below (s₁.setTop (mkF m 82 #[.val (.int p1), .val (.int p2), .val (.int p3), .val (.int (43 : Int32)), .val (.int (mg0_32_s0 p2)), .val .null, .unset, .unset, .unset] [(.int (73 : Int32)), (.int (mg0_32_s0 p2))])) _
          refine XS.icmpYes X0.here hx rfl (pc0 := 82) (pc' := 93) rfl (hb hby at_82) rfl (feq hc82_74).2 (by decide) (by decide) ?_
          show Steps p.tables e below (s₁.setTop (mkF m 93 #[.val (.int p1), .val (.int p2), .val (.int p3), .val (.int (43 : Int32)), .val (.int (mg0_32_s0 p2)), .val .null, .unset, .unset, .unset] [])) _
          refine XS.iload X0.here hx rfl (hb hby at_93) rfl ?_
          show Steps p.tables e below (s₁.setTop (mkF m 95 #[.val (.int p1), .val (.int p2), .val (.int p3), .val (.int (43 : Int32)), .val (.int (mg0_32_s0 p2)), .val .null, .unset, .unset, .unset] [(.int (mg0_32_s0 p2))])) _
          refine XS.bipush X0.here hx rfl (hb hby at_95) ?_
          exact kt
        by_cases hc97_87 : (mg0_32_s0 p2) = (85 : Int32)
        · rw [hc97_87] at pre86
          obtain ⟨T88, X88, e88, st88⟩ := getS2 X0 hx hZ hown (host := "") (Or.inl (hw _ (List.mem_of_getElem? (i := 78) rfl))) Via.refl e0 S_UPDATE_AFTER (g := (mkF m 100 #[.val (.int p1), .val (.int p2), .val (.int p3), .val (.int (43 : Int32)), .val (.int (85 : Int32)), .val .null, .unset, .unset, .unset] [])) rfl (hb hby at_100)
          obtain ⟨T89, h89, k89, X89, e89, E89, A89, st89⟩ := newP X88 hx hZ (hw _ (List.mem_of_getElem? (i := 7) rfl)) e88 (g := (mkF m 149 #[.val (.int p1), .val (.int p2), .val (.int p3), .val (.int (43 : Int32)), .val (.int (85 : Int32)), .val (.ref w_UPDATE_AFTER), .unset, .unset, .unset] [(.int (2 : Int32))])) rfl (hb hby at_149) rfl (by decide) (cap := 2) (by decide) (by decide) (by decide) (by decide)
          obtain ⟨b89, g89⟩ : ∃ z, z = h0.size := ⟨_, rfl⟩
          rw [← g89] at A89 st89
          have sz_b89 : h0.size ≤ b89 := Nat.le_trans (Keep.refl h0 []).1 (Nat.le_of_eq g89.symm)
          have g_b89 : n0 ≤ b89 := Nat.le_trans Z0 sz_b89
          have K89 : Keep h0 h89 [] := (Keep.refl h0 []).ext E89
          have V_b89 : Arv Z h89 b89 k89 .char (2 : Int32) [(.int (0 : Int32)), (.int (0 : Int32))] (.int (0 : Int32)) := (Arv.new A89 (by decide)).pad (pad_rep [] (.int (0 : Int32)) 2)
          obtain ⟨cl_b89_157_90, Ar_b89_157_90, q_b89_157_90, S_b89_157_90, N_b89_157_90, H_b89_157_90, G_b89_157_90⟩ := id V_b89
          have hin_b89_157_90 : ¬ ((0 : Int32) < 0 ∨ cl_b89_157_90.slots.size ≤ ((0 : Int32) : Int32).toNatClampNeg) := inb_of S_b89_157_90 ⟨by decide, by decide⟩
          obtain ⟨T91, h91, X91, e91, W91, st91⟩ := stC X89 hx hZ e89 Ar_b89_157_90 (j := (0 : Int32)) hin_b89_157_90 (g := (mkF m 157 #[.val (.int p1), .val (.int p2), .val (.int p3), .val (.int (43 : Int32)), .val (.int (85 : Int32)), .val (.ref w_UPDATE_AFTER), .val (.ref b89), .unset, .unset] [(.int (43 : Int32)), (.int (0 : Int32)), (.ref b89)])) rfl rfl (hb hby at_157)
          have V_b89_157_90 : Arv Z h91 b89 k89 .char (2 : Int32) [(.int (43 : Int32)), (.int (0 : Int32))] (.int (0 : Int32)) := Arv.set Ar_b89_157_90 q_b89_157_90 S_b89_157_90 N_b89_157_90 H_b89_157_90 G_b89_157_90 (fits_nar_char _) W91 0 rfl (Nat.le_of_ble_eq_true rfl)
          have K91 : Keep h0 h91 [] := K89.wr W91 (Or.inr sz_b89)
          have N91 := Fr.snoc X91 N0 g_b89
          obtain ⟨cl_b89_163_92, Ar_b89_163_92, q_b89_163_92, S_b89_163_92, N_b89_163_92, H_b89_163_92, G_b89_163_92⟩ := id V_b89_157_90
          have hin_b89_163_92 : ¬ ((1 : Int32) < 0 ∨ cl_b89_163_92.slots.size ≤ ((1 : Int32) : Int32).toNatClampNeg) := inb_of S_b89_163_92 ⟨by decide, by decide⟩
          obtain ⟨T93, h93, X93, e93, W93, st93⟩ := stC X91 hx hZ e91 Ar_b89_163_92 (j := (1 : Int32)) hin_b89_163_92 (g := (mkF m 163 #[.val (.int p1), .val (.int p2), .val (.int p3), .val (.int (43 : Int32)), .val (.int (85 : Int32)), .val (.ref w_UPDATE_AFTER), .val (.ref b89), .unset, .unset] [(.int (85 : Int32)), (.int (1 : Int32)), (.ref b89)])) rfl rfl (hb hby at_163)
          have V_b89_163_92 : Arv Z h93 b89 k89 .char (2 : Int32) [(.int (43 : Int32)), (.int (85 : Int32))] (.int (0 : Int32)) := Arv.set Ar_b89_163_92 q_b89_163_92 S_b89_163_92 N_b89_163_92 H_b89_163_92 G_b89_163_92 (fits_nar_char _) W93 1 rfl (Nat.le_of_ble_eq_true rfl)
          have K93 : Keep h0 h93 [] := K91.wr W93 (Or.inr sz_b89)
          have N93 := Fr.snoc X93 N91 g_b89
          obtain ⟨T94, h94, X94, e94, E94, A94, D94, -, st94⟩ := newO X93 hx hZ hown (hw _ (List.mem_of_getElem? (i := 8) rfl)) (hw _ (List.mem_of_getElem? (i := 9) rfl)) (hw _ (List.mem_of_getElem? (i := 10) rfl)) e93 (g := (mkF m 164 #[.val (.int p1), .val (.int p2), .val (.int p3), .val (.int (43 : Int32)), .val (.int (85 : Int32)), .val (.ref w_UPDATE_AFTER), .val (.ref b89), .unset, .unset] [])) rfl (hb hby at_164) (by decide) (by decide)
          obtain ⟨b94, g94⟩ : ∃ z, z = h93.size := ⟨_, rfl⟩
          rw [← g94] at A94 D94 st94
          have sz_b94 : h0.size ≤ b94 := Nat.le_trans K93.1 (Nat.le_of_eq g94.symm)
          have g_b94 : n0 ≤ b94 := Nat.le_trans Z0 sz_b94
          have K94 : Keep h0 h94 [] := K93.ext E94
          have F_coder_b94 : Fld Z h94 b94 "java/lang/String" "coder" "B" (.int (0 : Int32)) := D94 (Or.inr (hw _ (List.mem_of_getElem? (i := 34) rfl))) (ty := .byte) (by decide)
          have F_value_b94 : Fld Z h94 b94 "java/lang/String" "value" "[B" .null := D94 (Or.inr (hw _ (List.mem_of_getElem? (i := 36) rfl))) (ty := (.array .byte)) (by decide)
          obtain ⟨_, _, ⟨T95, L95, k95, n95⟩, -, X95, ⟨Lc95, hQ95, l95, y95, z95⟩, st95⟩ := X94.specialBack hx (y := (⟨"java/lang/String", "<init>", "([C)V"⟩ : MethodName)) rfl hown (mvT hZ (hw _ (List.mem_of_getElem? (i := 11) rfl))) (mvT hZ (hw _ (List.mem_of_getElem? (i := 12) rfl))) (mvT hZ (hw _ (List.mem_of_getElem? (i := 13) rfl))) (by decide) (backOf (W := 1) (rm_ini1_2 l Z a0 hw [] b94 b89 k89 (43 : Int32) (85 : Int32) w_COMPACT_STRINGS (.int (0 : Int32)) .null h94 n0 (Nat.le_trans Z0 K94.1) (V_b89_163_92.ext E94) ((((S_COMPACT_STRINGS.ext E89).wr W91).wr W93).ext E94) A94 F_coder_b94 g_b94 F_value_b94 (by decide : ¬ ((255 : Int32) < (43 : Int32))) (by decide : ¬ ((255 : Int32) < (85 : Int32))) (hCS : ¬ (w_COMPACT_STRINGS = (0 : Int32)))) hZ (hw _ (List.mem_of_getElem? (i := 13) rfl)) (hw _ (List.mem_of_getElem? (i := 10) rfl)) (by decide) (by decide)) (g := (mkF m 170 #[.val (.int p1), .val (.int p2), .val (.int p3), .val (.int (43 : Int32)), .val (.int (85 : Int32)), .val (.ref w_UPDATE_AFTER), .val (.ref b89), .unset, .unset] [(.ref b89), (.ref b94), (.ref b94)])) rfl (by rw [hml]; rfl) (Steps.refl _) (a := b94) (argsL := [(.ref b89)]) (rest := [(.ref b94)]) (lenOf pd8 rfl) rfl (by show 2 * 0 + _ ≤ _; exact Nat.le_of_eq rfl) (hb hby at_170) (fun _ _ => ⟨rfl, e94, (by decide : 2 + 1 ≤ _), (by decide : 6 + 2 ≤ _)⟩)
          dsimp only [Pt.U, Pt.locs, Pt.cells, Pt.slots] at X95 l95 y95 z95 st95 hQ95
          subst l95 y95 z95
          obtain ⟨b1_3_2_95, k1_3_2_95, rfl, N95q, K95, s95_b1_3_2, f95_0, f95_1, f95_2, f95_3⟩ := hQ95
          have N95 := Fr.app N93 N95q
          have sz_b1_3_2_95 : h0.size ≤ b1_3_2_95 := Nat.le_trans K94.1 s95_b1_3_2
          have g_b1_3_2_95 : n0 ≤ b1_3_2_95 := Nat.le_trans Z0 sz_b1_3_2_95
          have KK95 : Keep h0 T95.heap [] := K94.trans K95 (allS (Or.inr sz_b94) all0)
          obtain ⟨_, _, ⟨T96, L96, k96, n96⟩, -, X96, ⟨Lc96, hQ96, l96, y96, z96⟩, st96⟩ := Jvm.LawKit.callS X95 hx (y := (⟨"com/example/tidemark/tidemark/table/RowKind", "fromShortName", "(Ljava/lang/String;)Lcom/example/tidemark/tidemark/table/RowKind;"⟩ : MethodName)) hown (mvT hZ (hw _ (List.mem_of_getElem? (i := 37) rfl))) (mvT hZ (hw _ (List.mem_of_getElem? (i := 38) rfl))) (mvT hZ (hw _ (List.mem_of_getElem? (i := 5) rfl))) (mvT hZ (hw _ (List.mem_of_getElem? (i := 39) rfl))) (by decide) (backOf (W := 0) (rm8 l Z a0 hw [] b94 w__VALUES kV w_INSERT w_UPDATE_BEFORE w_UPDATE_AFTER w_DELETE w_INSERT_shortName w_INSERT_shortName_value k_INSERT w_UPDATE_BEFORE_shortName w_UPDATE_BEFORE_shortName_value k_UPDATE_BEFORE w_UPDATE_AFTER_shortName w_UPDATE_AFTER_shortName_value k_UPDATE_AFTER w_DELETE_shortName w_DELETE_shortName_value k_DELETE b1_3_2_95 k1_3_2_95 (nar .byte ((43 : Int32).toInt8.toInt32)) (nar .byte ((85 : Int32).toInt8.toInt32)) w_COMPACT_STRINGS T95.heap n0 (Nat.le_trans Z0 KK95.1) (own_sta_keep ((((S__VALUES.ext E89).wr W91).wr W93).ext E94) K95 (allS (own_exa_ns A94) all0)) (((((E_w__VALUES.ext E89).wr W91).wr W93).ext E94).keep K95) (((((V_w__VALUES.ext E89).other W91 (Nat.ne_of_lt (Nat.lt_of_lt_of_le E_w__VALUES.lt (Nat.le_of_eq g89.symm)))).other W93 (Nat.ne_of_lt (Nat.lt_of_lt_of_le E_w__VALUES.lt (Nat.le_of_eq g89.symm)))).ext E94).keep K95 (ninS (Nat.ne_of_lt (Nat.lt_of_lt_of_le (((E_w__VALUES.ext E89).wr W91).wr W93).lt (Nat.le_of_eq g94.symm))) nin0)) (((((F_shortName_w_INSERT.ext E89).other W91 (Or.inl (Nat.ne_of_lt (Nat.lt_of_lt_of_le E_w_INSERT.lt (Nat.le_of_eq g89.symm))))).other W93 (Or.inl (Nat.ne_of_lt (Nat.lt_of_lt_of_le E_w_INSERT.lt (Nat.le_of_eq g89.symm))))).ext E94).keep K95 (ninS (Nat.ne_of_lt (Nat.lt_of_lt_of_le (((E_w_INSERT.ext E89).wr W91).wr W93).lt (Nat.le_of_eq g94.symm))) nin0)) (((((E_w_INSERT_shortName.ext E89).wr W91).wr W93).ext E94).keep K95) (((((F_coder_w_INSERT_shortName.ext E89).other W91 (Or.inl (Nat.ne_of_lt (Nat.lt_of_lt_of_le E_w_INSERT_shortName.lt (Nat.le_of_eq g89.symm))))).other W93 (Or.inl (Nat.ne_of_lt (Nat.lt_of_lt_of_le E_w_INSERT_shortName.lt (Nat.le_of_eq g89.symm))))).ext E94).keep K95 (ninS (Nat.ne_of_lt (Nat.lt_of_lt_of_le (((E_w_INSERT_shortName.ext E89).wr W91).wr W93).lt (Nat.le_of_eq g94.symm))) nin0)) (((((F_value_w_INSERT_shortName.ext E89).other W91 (Or.inl (Nat.ne_of_lt (Nat.lt_of_lt_of_le E_w_INSERT_shortName.lt (Nat.le_of_eq g89.symm))))).other W93 (Or.inl (Nat.ne_of_lt (Nat.lt_of_lt_of_le E_w_INSERT_shortName.lt (Nat.le_of_eq g89.symm))))).ext E94).keep K95 (ninS (Nat.ne_of_lt (Nat.lt_of_lt_of_le (((E_w_INSERT_shortName.ext E89).wr W91).wr W93).lt (Nat.le_of_eq g94.symm))) nin0)) (((((V_w_INSERT_shortName_value.ext E89).other W91 (Nat.ne_of_lt (Nat.lt_of_lt_of_le V_w_INSERT_shortName_value.lt (Nat.le_of_eq g89.symm)))).other W93 (Nat.ne_of_lt (Nat.lt_of_lt_of_le V_w_INSERT_shortName_value.lt (Nat.le_of_eq g89.symm)))).ext E94).keep K95 (ninS (Nat.ne_of_lt (Nat.lt_of_lt_of_le (((V_w_INSERT_shortName_value.ext E89).other W91 (Nat.ne_of_lt (Nat.lt_of_lt_of_le V_w_INSERT_shortName_value.lt (Nat.le_of_eq g89.symm)))).other W93 (Nat.ne_of_lt (Nat.lt_of_lt_of_le V_w_INSERT_shortName_value.lt (Nat.le_of_eq g89.symm)))).lt (Nat.le_of_eq g94.symm))) nin0)) (((((F_shortName_w_UPDATE_BEFORE.ext E89).other W91 (Or.inl (Nat.ne_of_lt (Nat.lt_of_lt_of_le E_w_UPDATE_BEFORE.lt (Nat.le_of_eq g89.symm))))).other W93 (Or.inl (Nat.ne_of_lt (Nat.lt_of_lt_of_le E_w_UPDATE_BEFORE.lt (Nat.le_of_eq g89.symm))))).ext E94).keep K95 (ninS (Nat.ne_of_lt (Nat.lt_of_lt_of_le (((E_w_UPDATE_BEFORE.ext E89).wr W91).wr W93).lt (Nat.le_of_eq g94.symm))) nin0)) (((((E_w_UPDATE_BEFORE_shortName.ext E89).wr W91).wr W93).ext E94).keep K95) (((((F_coder_w_UPDATE_BEFORE_shortName.ext E89).other W91 (Or.inl (Nat.ne_of_lt (Nat.lt_of_lt_of_le E_w_UPDATE_BEFORE_shortName.lt (Nat.le_of_eq g89.symm))))).other W93 (Or.inl (Nat.ne_of_lt (Nat.lt_of_lt_of_le E_w_UPDATE_BEFORE_shortName.lt (Nat.le_of_eq g89.symm))))).ext E94).keep K95 (ninS (Nat.ne_of_lt (Nat.lt_of_lt_of_le (((E_w_UPDATE_BEFORE_shortName.ext E89).wr W91).wr W93).lt (Nat.le_of_eq g94.symm))) nin0)) (((((F_value_w_UPDATE_BEFORE_shortName.ext E89).other W91 (Or.inl (Nat.ne_of_lt (Nat.lt_of_lt_of_le E_w_UPDATE_BEFORE_shortName.lt (Nat.le_of_eq g89.symm))))).other W93 (Or.inl (Nat.ne_of_lt (Nat.lt_of_lt_of_le E_w_UPDATE_BEFORE_shortName.lt (Nat.le_of_eq g89.symm))))).ext E94).keep K95 (ninS (Nat.ne_of_lt (Nat.lt_of_lt_of_le (((E_w_UPDATE_BEFORE_shortName.ext E89).wr W91).wr W93).lt (Nat.le_of_eq g94.symm))) nin0)) (((((V_w_UPDATE_BEFORE_shortName_value.ext E89).other W91 (Nat.ne_of_lt (Nat.lt_of_lt_of_le V_w_UPDATE_BEFORE_shortName_value.lt (Nat.le_of_eq g89.symm)))).other W93 (Nat.ne_of_lt (Nat.lt_of_lt_of_le V_w_UPDATE_BEFORE_shortName_value.lt (Nat.le_of_eq g89.symm)))).ext E94).keep K95 (ninS (Nat.ne_of_lt (Nat.lt_of_lt_of_le (((V_w_UPDATE_BEFORE_shortName_value.ext E89).other W91 (Nat.ne_of_lt (Nat.lt_of_lt_of_le V_w_UPDATE_BEFORE_shortName_value.lt (Nat.le_of_eq g89.symm)))).other W93 (Nat.ne_of_lt (Nat.lt_of_lt_of_le V_w_UPDATE_BEFORE_shortName_value.lt (Nat.le_of_eq g89.symm)))).lt (Nat.le_of_eq g94.symm))) nin0)) (((((F_shortName_w_UPDATE_AFTER.ext E89).other W91 (Or.inl (Nat.ne_of_lt (Nat.lt_of_lt_of_le E_w_UPDATE_AFTER.lt (Nat.le_of_eq g89.symm))))).other W93 (Or.inl (Nat.ne_of_lt (Nat.lt_of_lt_of_le E_w_UPDATE_AFTER.lt (Nat.le_of_eq g89.symm))))).ext E94).keep K95 (ninS (Nat.ne_of_lt (Nat.lt_of_lt_of_le (((E_w_UPDATE_AFTER.ext E89).wr W91).wr W93).lt (Nat.le_of_eq g94.symm))) nin0)) (((((E_w_UPDATE_AFTER_shortName.ext E89).wr W91).wr W93).ext E94).keep K95) (((((F_coder_w_UPDATE_AFTER_shortName.ext E89).other W91 (Or.inl (Nat.ne_of_lt (Nat.lt_of_lt_of_le E_w_UPDATE_AFTER_shortName.lt (Nat.le_of_eq g89.symm))))).other W93 (Or.inl (Nat.ne_of_lt (Nat.lt_of_lt_of_le E_w_UPDATE_AFTER_shortName.lt (Nat.le_of_eq g89.symm))))).ext E94).keep K95 (ninS (Nat.ne_of_lt (Nat.lt_of_lt_of_le (((E_w_UPDATE_AFTER_shortName.ext E89).wr W91).wr W93).lt (Nat.le_of_eq g94.symm))) nin0)) (((((F_value_w_UPDATE_AFTER_shortName.ext E89).other W91 (Or.inl (Nat.ne_of_lt (Nat.lt_of_lt_of_le E_w_UPDATE_AFTER_shortName.lt (Nat.le_of_eq g89.symm))))).other W93 (Or.inl (Nat.ne_of_lt (Nat.lt_of_lt_of_le E_w_UPDATE_AFTER_shortName.lt (Nat.le_of_eq g89.symm))))).ext E94).keep K95 (ninS (Nat.ne_of_lt (Nat.lt_of_lt_of_le (((E_w_UPDATE_AFTER_shortName.ext E89).wr W91).wr W93).lt (Nat.le_of_eq g94.symm))) nin0)) (((((V_w_UPDATE_AFTER_shortName_value.ext E89).other W91 (Nat.ne_of_lt (Nat.lt_of_lt_of_le V_w_UPDATE_AFTER_shortName_value.lt (Nat.le_of_eq g89.symm)))).other W93 (Nat.ne_of_lt (Nat.lt_of_lt_of_le V_w_UPDATE_AFTER_shortName_value.lt (Nat.le_of_eq g89.symm)))).ext E94).keep K95 (ninS (Nat.ne_of_lt (Nat.lt_of_lt_of_le (((V_w_UPDATE_AFTER_shortName_value.ext E89).other W91 (Nat.ne_of_lt (Nat.lt_of_lt_of_le V_w_UPDATE_AFTER_shortName_value.lt (Nat.le_of_eq g89.symm)))).other W93 (Nat.ne_of_lt (Nat.lt_of_lt_of_le V_w_UPDATE_AFTER_shortName_value.lt (Nat.le_of_eq g89.symm)))).lt (Nat.le_of_eq g94.symm))) nin0)) (((((F_shortName_w_DELETE.ext E89).other W91 (Or.inl (Nat.ne_of_lt (Nat.lt_of_lt_of_le E_w_DELETE.lt (Nat.le_of_eq g89.symm))))).other W93 (Or.inl (Nat.ne_of_lt (Nat.lt_of_lt_of_le E_w_DELETE.lt (Nat.le_of_eq g89.symm))))).ext E94).keep K95 (ninS (Nat.ne_of_lt (Nat.lt_of_lt_of_le (((E_w_DELETE.ext E89).wr W91).wr W93).lt (Nat.le_of_eq g94.symm))) nin0)) (((((E_w_DELETE_shortName.ext E89).wr W91).wr W93).ext E94).keep K95) (((((F_coder_w_DELETE_shortName.ext E89).other W91 (Or.inl (Nat.ne_of_lt (Nat.lt_of_lt_of_le E_w_DELETE_shortName.lt (Nat.le_of_eq g89.symm))))).other W93 (Or.inl (Nat.ne_of_lt (Nat.lt_of_lt_of_le E_w_DELETE_shortName.lt (Nat.le_of_eq g89.symm))))).ext E94).keep K95 (ninS (Nat.ne_of_lt (Nat.lt_of_lt_of_le (((E_w_DELETE_shortName.ext E89).wr W91).wr W93).lt (Nat.le_of_eq g94.symm))) nin0)) (((((F_value_w_DELETE_shortName.ext E89).other W91 (Or.inl (Nat.ne_of_lt (Nat.lt_of_lt_of_le E_w_DELETE_shortName.lt (Nat.le_of_eq g89.symm))))).other W93 (Or.inl (Nat.ne_of_lt (Nat.lt_of_lt_of_le E_w_DELETE_shortName.lt (Nat.le_of_eq g89.symm))))).ext E94).keep K95 (ninS (Nat.ne_of_lt (Nat.lt_of_lt_of_le (((E_w_DELETE_shortName.ext E89).wr W91).wr W93).lt (Nat.le_of_eq g94.symm))) nin0)) (((((V_w_DELETE_shortName_value.ext E89).other W91 (Nat.ne_of_lt (Nat.lt_of_lt_of_le V_w_DELETE_shortName_value.lt (Nat.le_of_eq g89.symm)))).other W93 (Nat.ne_of_lt (Nat.lt_of_lt_of_le V_w_DELETE_shortName_value.lt (Nat.le_of_eq g89.symm)))).ext E94).keep K95 (ninS (Nat.ne_of_lt (Nat.lt_of_lt_of_le (((V_w_DELETE_shortName_value.ext E89).other W91 (Nat.ne_of_lt (Nat.lt_of_lt_of_le V_w_DELETE_shortName_value.lt (Nat.le_of_eq g89.symm)))).other W93 (Nat.ne_of_lt (Nat.lt_of_lt_of_le V_w_DELETE_shortName_value.lt (Nat.le_of_eq g89.symm)))).lt (Nat.le_of_eq g94.symm))) nin0)) (A94.keep K95) f95_1 f95_2 f95_3 (own_sta_keep ((((S_COMPACT_STRINGS.ext E89).wr W91).wr W93).ext E94) K95 (allS (own_exa_ns A94) all0)) (hCS : ¬ (w_COMPACT_STRINGS = (0 : Int32))) (by decide : ((nar .byte ((43 : Int32).toInt8.toInt32)) = (43 : Int32) ∧ (nar .byte ((85 : Int32).toInt8.toInt32)) = (73 : Int32)) ∨ ((nar .byte ((43 : Int32).toInt8.toInt32)) = (45 : Int32) ∧ (nar .byte ((85 : Int32).toInt8.toInt32)) = (85 : Int32)) ∨ ((nar .byte ((43 : Int32).toInt8.toInt32)) = (43 : Int32) ∧ (nar .byte ((85 : Int32).toInt8.toInt32)) = (85 : Int32)) ∨ ((nar .byte ((43 : Int32).toInt8.toInt32)) = (45 : Int32) ∧ (nar .byte ((85 : Int32).toInt8.toInt32)) = (68 : Int32))) ((Nat.ne_of_lt (Nat.lt_of_lt_of_le (((E_w_INSERT_shortName.ext E89).wr W91).wr W93).lt (Nat.le_of_eq g94.symm))) : w_INSERT_shortName ≠ b94) ((Nat.ne_of_lt (Nat.lt_of_lt_of_le (((E_w_UPDATE_BEFORE_shortName.ext E89).wr W91).wr W93).lt (Nat.le_of_eq g94.symm))) : w_UPDATE_BEFORE_shortName ≠ b94) ((Nat.ne_of_lt (Nat.lt_of_lt_of_le (((E_w_UPDATE_AFTER_shortName.ext E89).wr W91).wr W93).lt (Nat.le_of_eq g94.symm))) : w_UPDATE_AFTER_shortName ≠ b94) ((Nat.ne_of_lt (Nat.lt_of_lt_of_le (((E_w_DELETE_shortName.ext E89).wr W91).wr W93).lt (Nat.le_of_eq g94.symm))) : w_DELETE_shortName ≠ b94)) hZ (hw _ (List.mem_of_getElem? (i := 39) rfl)) (hw _ (List.mem_of_getElem? (i := 5) rfl)) (by decide) (by decide)) (g := (mkF m 177 #[.val (.int p1), .val (.int p2), .val (.int p3), .val (.int (43 : Int32)), .val (.int (85 : Int32)), .val (.ref w_UPDATE_AFTER), .val (.ref b89), .val (.ref b94), .unset] [(.ref b94)])) rfl (by rw [hml]; rfl) (argsL := [(.ref b94)]) (rest := []) (lenOf pd9 rfl) rfl (by show 2 * 0 + _ ≤ _; exact Nat.le_of_eq rfl) (hb hby at_177) (fun _ _ => ⟨rfl, rfl, (by decide : 3 + 1 ≤ _), (by decide : 8 + 4 ≤ _)⟩)
          dsimp only [Pt.U, Pt.locs, Pt.cells, Pt.slots] at X96 l96 y96 z96 st96 hQ96
          subst l96 y96 z96
          obtain ⟨rfl, N96q, K96⟩ := hQ96
          have N96 := Fr.app N95 N96q
          have KK96 : Keep h0 T96.heap [] := KK95.trans K96 all0
          have ev96 : (res8 w_INSERT w_UPDATE_BEFORE w_UPDATE_AFTER w_DELETE (nar .byte ((43 : Int32).toInt8.toInt32)) (nar .byte ((85 : Int32).toInt8.toInt32))) = w_UPDATE_AFTER := by first | rfl | decide
          rw [ev96] at st96
          obtain ⟨cq97, kq97, q97a, q97b, q97c⟩ := isOf hZ rfl ((((((E_w_UPDATE_AFTER.ext E89).wr W91).wr W93).ext E94).keep K95).keep K96)
          obtain ⟨_, _, ⟨T97, L97, k97, n97⟩, -, X97, ⟨Lc97, hQ97, l97, y97, z97⟩, st97⟩ := X96.virtualBack hx (y := (⟨"com/example/tidemark/tidemark/table/RowKind", "shortName", "()Ljava/lang/String;"⟩ : MethodName)) (z := (⟨"com/example/tidemark/tidemark/table/RowKind", "shortName", "()Ljava/lang/String;"⟩ : MethodName)) hown (mvT hZ (hw _ (List.mem_of_getElem? (i := 70) rfl))) (mvT hZ (hw _ (List.mem_of_getElem? (i := 71) rfl))) (notFace_of_selects (args := #[]) (mvT hZ (hw _ (List.mem_of_getElem? (i := 73) rfl)))) (mvT hZ (hw _ (List.mem_of_getElem? (i := 73) rfl))) (mvT hZ (hw _ (List.mem_of_getElem? (i := 72) rfl))) (by decide) (backOf (W := 0) (rm12 l Z a0 hw [] w_UPDATE_AFTER w_UPDATE_AFTER_shortName T96.heap n0 (Nat.le_trans Z0 KK96.1) ((((((F_shortName_w_UPDATE_AFTER.ext E89).other W91 (Or.inl (Nat.ne_of_lt (Nat.lt_of_lt_of_le E_w_UPDATE_AFTER.lt (Nat.le_of_eq g89.symm))))).other W93 (Or.inl (Nat.ne_of_lt (Nat.lt_of_lt_of_le E_w_UPDATE_AFTER.lt (Nat.le_of_eq g89.symm))))).ext E94).keep K95 (ninS (Nat.ne_of_lt (Nat.lt_of_lt_of_le (((E_w_UPDATE_AFTER.ext E89).wr W91).wr W93).lt (Nat.le_of_eq g94.symm))) nin0)).keep K96 nin0) ) hZ (hw _ (List.mem_of_getElem? (i := 74) rfl)) (hw _ (List.mem_of_getElem? (i := 5) rfl)) (by decide) (by decide)) q97a q97c (g := (mkF m 191 #[.val (.int p1), .val (.int p2), .val (.int p3), .val (.int (43 : Int32)), .val (.int (85 : Int32)), .val (.ref w_UPDATE_AFTER), .val (.ref b89), .val (.ref b94), .val (.ref w_UPDATE_AFTER)] [(.ref w_UPDATE_AFTER)])) rfl (by rw [hml]; rfl) (Steps.refl _) (argsL := []) (rest := []) (lenOf pd10 rfl) rfl (by show 2 * 0 + _ ≤ _; exact Nat.le_of_eq rfl) (hb hby at_191) (fun _ _ => ⟨rfl, rfl, (by decide : 4 + 0 ≤ _), (by decide : 12 + 0 ≤ _)⟩)
          dsimp only [Pt.U, Pt.locs, Pt.cells, Pt.slots] at X97 l97 y97 z97 st97 hQ97
          subst l97 y97 z97
          obtain ⟨rfl, rfl, e97⟩ := hQ97
          have N97 := Fr.app N96 (Fr.nil n0)
          obtain ⟨cq98, kq98, q98a, q98b, q98c⟩ := isOf hZ e97 ((((((E_w_UPDATE_AFTER_shortName.ext E89).wr W91).wr W93).ext E94).keep K95).keep K96)
          obtain ⟨_, _, ⟨T98, L98, k98, n98⟩, -, X98, ⟨Lc98, hQ98, l98, y98, z98⟩, st98⟩ := X97.virtualBack hx (y := (⟨"java/lang/String", "equals", "(Ljava/lang/Object;)Z"⟩ : MethodName)) (z := (⟨"java/lang/String", "equals", "(Ljava/lang/Object;)Z"⟩ : MethodName)) hown (mvT hZ (hw _ (List.mem_of_getElem? (i := 75) rfl))) (mvT hZ (hw _ (List.mem_of_getElem? (i := 61) rfl))) (notFace_of_selects (args := #[]) (mvT hZ (hw _ (List.mem_of_getElem? (i := 63) rfl)))) (mvT hZ (hw _ (List.mem_of_getElem? (i := 63) rfl))) (mvT hZ (hw _ (List.mem_of_getElem? (i := 62) rfl))) (by decide) (backOf (W := 0) (rm_eq_2_2 l Z a0 hw [] w_UPDATE_AFTER_shortName b94 w_UPDATE_AFTER_shortName_value k_UPDATE_AFTER (43 : Int32) (85 : Int32) b1_3_2_95 k1_3_2_95 (nar .byte ((43 : Int32).toInt8.toInt32)) (nar .byte ((85 : Int32).toInt8.toInt32)) w_COMPACT_STRINGS T96.heap n0 (Nat.le_trans Z0 KK96.1) ((((((E_w_UPDATE_AFTER_shortName.ext E89).wr W91).wr W93).ext E94).keep K95).keep K96) ((((((F_coder_w_UPDATE_AFTER_shortName.ext E89).other W91 (Or.inl (Nat.ne_of_lt (Nat.lt_of_lt_of_le E_w_UPDATE_AFTER_shortName.lt (Nat.le_of_eq g89.symm))))).other W93 (Or.inl (Nat.ne_of_lt (Nat.lt_of_lt_of_le E_w_UPDATE_AFTER_shortName.lt (Nat.le_of_eq g89.symm))))).ext E94).keep K95 (ninS (Nat.ne_of_lt (Nat.lt_of_lt_of_le (((E_w_UPDATE_AFTER_shortName.ext E89).wr W91).wr W93).lt (Nat.le_of_eq g94.symm))) nin0)).keep K96 nin0) ((((((F_value_w_UPDATE_AFTER_shortName.ext E89).other W91 (Or.inl (Nat.ne_of_lt (Nat.lt_of_lt_of_le E_w_UPDATE_AFTER_shortName.lt (Nat.le_of_eq g89.symm))))).other W93 (Or.inl (Nat.ne_of_lt (Nat.lt_of_lt_of_le E_w_UPDATE_AFTER_shortName.lt (Nat.le_of_eq g89.symm))))).ext E94).keep K95 (ninS (Nat.ne_of_lt (Nat.lt_of_lt_of_le (((E_w_UPDATE_AFTER_shortName.ext E89).wr W91).wr W93).lt (Nat.le_of_eq g94.symm))) nin0)).keep K96 nin0) ((((((V_w_UPDATE_AFTER_shortName_value.ext E89).other W91 (Nat.ne_of_lt (Nat.lt_of_lt_of_le V_w_UPDATE_AFTER_shortName_value.lt (Nat.le_of_eq g89.symm)))).other W93 (Nat.ne_of_lt (Nat.lt_of_lt_of_le V_w_UPDATE_AFTER_shortName_value.lt (Nat.le_of_eq g89.symm)))).ext E94).keep K95 (ninS (Nat.ne_of_lt (Nat.lt_of_lt_of_le (((V_w_UPDATE_AFTER_shortName_value.ext E89).other W91 (Nat.ne_of_lt (Nat.lt_of_lt_of_le V_w_UPDATE_AFTER_shortName_value.lt (Nat.le_of_eq g89.symm)))).other W93 (Nat.ne_of_lt (Nat.lt_of_lt_of_le V_w_UPDATE_AFTER_shortName_value.lt (Nat.le_of_eq g89.symm)))).lt (Nat.le_of_eq g94.symm))) nin0)).keep K96 nin0) ((A94.keep K95).keep K96) (f95_1.keep K96 nin0) (f95_2.keep K96 nin0) (f95_3.keep K96 nin0) (own_sta_keep (own_sta_keep ((((S_COMPACT_STRINGS.ext E89).wr W91).wr W93).ext E94) K95 (allS (own_exa_ns A94) all0)) K96 all0) ((Nat.ne_of_lt (Nat.lt_of_lt_of_le (((E_w_UPDATE_AFTER_shortName.ext E89).wr W91).wr W93).lt (Nat.le_of_eq g94.symm))) : w_UPDATE_AFTER_shortName ≠ b94) (hCS : ¬ (w_COMPACT_STRINGS = (0 : Int32)))) hZ (hw _ (List.mem_of_getElem? (i := 64) rfl)) (hw _ (List.mem_of_getElem? (i := 10) rfl)) (by decide) (by decide)) q98a q98c (g := (mkF m 196 #[.val (.int p1), .val (.int p2), .val (.int p3), .val (.int (43 : Int32)), .val (.int (85 : Int32)), .val (.ref w_UPDATE_AFTER), .val (.ref b89), .val (.ref b94), .val (.ref w_UPDATE_AFTER)] [(.ref b94), (.ref w_UPDATE_AFTER_shortName)])) rfl (by rw [hml]; rfl) (Steps.refl _) (argsL := [(.ref b94)]) (rest := []) (lenOf pd6 rfl) rfl (by show 2 * 0 + _ ≤ _; exact Nat.le_of_eq rfl) (hb hby at_196) (fun _ _ => ⟨rfl, e97, (by decide : 4 + 0 ≤ _), (by decide : 12 + 0 ≤ _)⟩)
          dsimp only [Pt.U, Pt.locs, Pt.cells, Pt.slots] at X98 l98 y98 z98 st98 hQ98
          subst l98 y98 z98
          obtain ⟨rfl, rfl, e98⟩ := hQ98
          have N98 := Fr.app N97 (Fr.nil n0)
          have ev98 : (res_eq_2_2 (43 : Int32) (85 : Int32) (nar .byte ((43 : Int32).toInt8.toInt32)) (nar .byte ((85 : Int32).toInt8.toInt32))) = (1 : Int32) := by first | rfl | decide
          rw [ev98] at st98
          obtain ⟨fs, hr, hrun, hended, hW, hsame⟩ := X98.leave (v := some (.int (1 : Int32))) (fun h => by rw [Bd.returns] at h; cases h)
          refine ⟨_, _, pre86 _ ?_, hrun, hended, _, _, rfl, ?_, ⟨_, rfl⟩, hW, hsame.mono (by decide) (by decide)⟩
          · show Steps p.tables e below (s₁.setTop (mkF m 97 #[.val (.int p1), .val (.int p2), .val (.int p3), .val (.int (43 : Int32)), .val (.int (85 : Int32)), .val .null, .unset, .unset, .unset] [(.int (85 : Int32)), (.int (85 : Int32))])) _
            refine XS.icmpNo X0.here hx rfl (hb hby at_97) rfl (teq (rfl : (85 : Int32) = (85 : Int32))).2 ?_
            show Steps p.tables e below (s₁.setTop (mkF m 100 #[.val (.int p1), .val (.int p2), .val (.int p3), .val (.int (43 : Int32)), .val (.int (85 : Int32)), .val .null, .unset, .unset, .unset] [])) _
            refine st88 _ ?_
            show Steps p.tables e below (T88.setTop (mkF m 103 #[.val (.int p1), .val (.int p2), .val (.int p3), .val (.int (43 : Int32)), .val (.int (85 : Int32)), .val .null, .unset, .unset, .unset] [(.ref w_UPDATE_AFTER)])) _
            refine XS.astore X88.here hx rfl (hb hby at_103) rfl rfl (l' := #[.val (.int p1), .val (.int p2), .val (.int p3), .val (.int (43 : Int32)), .val (.int (85 : Int32)), .val (.ref w_UPDATE_AFTER), .unset, .unset, .unset]) rfl ?_
            show Steps p.tables e below (T88.setTop (mkF m 105 #[.val (.int p1), .val (.int p2), .val (.int p3), .val (.int (43 : Int32)), .val (.int (85 : Int32)), .val (.ref w_UPDATE_AFTER), .unset, .unset, .unset] [])) _
            refine XS.goto X88.here hx rfl (pc0 := 105) (pc' := 141) rfl (hb hby at_105) (by decide) (by decide) ?_
            show Steps p.tables e below (T88.setTop (mkF m 141 #[.val (.int p1), .val (.int p2), .val (.int p3), .val (.int (43 : Int32)), .val (.int (85 : Int32)), .val (.ref w_UPDATE_AFTER), .unset, .unset, .unset] [])) _
            refine XS.aload X88.here hx rfl (hb hby at_141) rfl rfl ?_
            show Steps p.tables e below (T88.setTop (mkF m 143 #[.val (.int p1), .val (.int p2), .val (.int p3), .val (.int (43 : Int32)), .val (.int (85 : Int32)), .val (.ref w_UPDATE_AFTER), .unset, .unset, .unset] [(.ref w_UPDATE_AFTER)])) _
            refine XS.ifnonnullYes X88.here hx rfl (pc0 := 143) (pc' := 148) rfl (hb hby at_143) rfl (by decide) (by decide) ?_
            show Steps p.tables e below (T88.setTop (mkF m 148 #[.val (.int p1), .val (.int p2), .val (.int p3), .val (.int (43 : Int32)), .val (.int (85 : Int32)), .val (.ref w_UPDATE_AFTER), .unset, .unset, .unset] [])) _
            refine XS.iconst X88.here hx rfl (hb hby at_148) ?_
            show Steps p.tables e below (T88.setTop (mkF m 149 #[.val (.int p1), .val (.int p2), .val (.int p3), .val (.int (43 : Int32)), .val (.int (85 : Int32)), .val (.ref w_UPDATE_AFTER), .unset, .unset, .unset] [(.int (2 : Int32))])) _
            refine st89 _ ?_
            show Steps p.tables e below (T89.setTop (mkF m 151 #[.val (.int p1), .val (.int p2), .val (.int p3), .val (.int (43 : Int32)), .val (.int (85 : Int32)), .val (.ref w_UPDATE_AFTER), .unset, .unset, .unset] [(.ref b89)])) _
            refine XS.astore X89.here hx rfl (hb hby at_151) rfl rfl (l' := #[.val (.int p1), .val (.int p2), .val (.int p3), .val (.int (43 : Int32)), .val (.int (85 : Int32)), .val (.ref w_UPDATE_AFTER), .val (.ref b89), .unset, .unset]) rfl ?_
            show Steps p.tables e below (T89.setTop (mkF m 153 #[.val (.int p1), .val (.int p2), .val (.int p3), .val (.int (43 : Int32)), .val (.int (85 : Int32)), .val (.ref w_UPDATE_AFTER), .val (.ref b89), .unset, .unset] [])) _
            refine XS.aload X89.here hx rfl (hb hby at_153) rfl rfl ?_
            show Steps p.tables e below (T89.setTop (mkF m 155 #[.val (.int p1), .val (.int p2), .val (.int p3), .val (.int (43 : Int32)), .val (.int (85 : Int32)), .val (.ref w_UPDATE_AFTER), .val (.ref b89), .unset, .unset] [(.ref b89)])) _
            refine XS.iconst X89.here hx rfl (hb hby at_155) ?_
            show Steps p.tables e below (T89.setTop (mkF m 156 #[.val (.int p1), .val (.int p2), .val (.int p3), .val (.int (43 : Int32)), .val (.int (85 : Int32)), .val (.ref w_UPDATE_AFTER), .val (.ref b89), .unset, .unset] [(.int (0 : Int32)), (.ref b89)])) _
            refine XS.iloadN X89.here hx rfl (hb hby at_156) rfl ?_
            show Steps p.tables e below (T89.setTop (mkF m 157 #[.val (.int p1), .val (.int p2), .val (.int p3), .val (.int (43 : Int32)), .val (.int (85 : Int32)), .val (.ref w_UPDATE_AFTER), .val (.ref b89), .unset, .unset] [(.int (43 : Int32)), (.int (0 : Int32)), (.ref b89)])) _
            refine st91 _ ?_
            show Steps p.tables e below (T91.setTop (mkF m 158 #[.val (.int p1), .val (.int p2), .val (.int p3), .val (.int (43 : Int32)), .val (.int (85 : Int32)), .val (.ref w_UPDATE_AFTER), .val (.ref b89), .unset, .unset] [])) _
            refine XS.aload X91.here hx rfl (hb hby at_158) rfl rfl ?_
            show Steps p.tables e below (T91.setTop (mkF m 160 #[.val (.int p1), .val (.int p2), .val (.int p3), .val (.int (43 : Int32)), .val (.int (85 : Int32)), .val (.ref w_UPDATE_AFTER), .val (.ref b89), .unset, .unset] [(.ref b89)])) _
            refine XS.iconst X91.here hx rfl (hb hby at_160) ?_
            show Steps p.tables e below (T91.setTop (mkF m 161 #[.val (.int p1), .val (.int p2), .val (.int p3), .val (.int (43 : Int32)), .val (.int (85 : Int32)), .val (.ref w_UPDATE_AFTER), .val (.ref b89), .unset, .unset] [(.int (1 : Int32)), (.ref b89)])) _
            refine XS.iload X91.here hx rfl (hb hby at_161) rfl ?_
            show Steps p.tables e below (T91.setTop (mkF m 163 #[.val (.int p1), .val (.int p2), .val (.int p3), .val (.int (43 : Int32)), .val (.int (85 : Int32)), .val (.ref w_UPDATE_AFTER), .val (.ref b89), .unset, .unset] [(.int (85 : Int32)), (.int (1 : Int32)), (.ref b89)])) _
            refine st93 _ ?_
            show Steps p.tables e below (T93.setTop (mkF m 164 #[.val (.int p1), .val (.int p2), .val (.int p3), .val (.int (43 : Int32)), .val (.int (85 : Int32)), .val (.ref w_UPDATE_AFTER), .val (.ref b89), .unset, .unset] [])) _
            refine st94 _ ?_
            show Steps p.tables e below (T94.setTop (mkF m 167 #[.val (.int p1), .val (.int p2), .val (.int p3), .val (.int (43 : Int32)), .val (.int (85 : Int32)), .val (.ref w_UPDATE_AFTER), .val (.ref b89), .unset, .unset] [(.ref b94)])) _
            refine XS.dup X94.here hx rfl (hb hby at_167) rfl rfl ?_
            show Steps p.tables e below (T94.setTop (mkF m 168 #[.val (.int p1), .val (.int p2), .val (.int p3), .val (.int (43 : Int32)), .val (.int (85 : Int32)), .val (.ref w_UPDATE_AFTER), .val (.ref b89), .unset, .unset] [(.ref b94), (.ref b94)])) _
            refine XS.aload X94.here hx rfl (hb hby at_168) rfl rfl ?_
            show Steps p.tables e below (T94.setTop (mkF m 170 #[.val (.int p1), .val (.int p2), .val (.int p3), .val (.int (43 : Int32)), .val (.int (85 : Int32)), .val (.ref w_UPDATE_AFTER), .val (.ref b89), .unset, .unset] [(.ref b89), (.ref b94), (.ref b94)])) _
            refine st95.trans ?_
            show Steps p.tables e below (T95.setTop (mkF m 173 #[.val (.int p1), .val (.int p2), .val (.int p3), .val (.int (43 : Int32)), .val (.int (85 : Int32)), .val (.ref w_UPDATE_AFTER), .val (.ref b89), .unset, .unset] [(.ref b94)])) _
            refine XS.astore X95.here hx rfl (hb hby at_173) rfl rfl (l' := #[.val (.int p1), .val (.int p2), .val (.int p3), .val (.int (43 : Int32)), .val (.int (85 : Int32)), .val (.ref w_UPDATE_AFTER), .val (.ref b89), .val (.ref b94), .unset]) rfl ?_
            show Steps p.tables e below (T95.setTop (mkF m 175 #[.val (.int p1), .val (.int p2), .val (.int p3), .val (.int (43 : Int32)), .val (.int (85 : Int32)), .val (.ref w_UPDATE_AFTER), .val (.ref b89), .val (.ref b94), .unset] [])) _
            refine XS.aload X95.here hx rfl (hb hby at_175) rfl rfl ?_
            show Steps p.tables e below (T95.setTop (mkF m 177 #[.val (.int p1), .val (.int p2), .val (.int p3), .val (.int (43 : Int32)), .val (.int (85 : Int32)), .val (.ref w_UPDATE_AFTER), .val (.ref b89), .val (.ref b94), .unset] [(.ref b94)])) _
            refine st96 _ ?_
            show Steps p.tables e below (T96.setTop (mkF m 180 #[.val (.int p1), .val (.int p2), .val (.int p3), .val (.int (43 : Int32)), .val (.int (85 : Int32)), .val (.ref w_UPDATE_AFTER), .val (.ref b89), .val (.ref b94), .unset] [(.ref w_UPDATE_AFTER)])) _
            refine XS.astore X96.here hx rfl (hb hby at_180) rfl rfl (l' := #[.val (.int p1), .val (.int p2), .val (.int p3), .val (.int (43 : Int32)), .val (.int (85 : Int32)), .val (.ref w_UPDATE_AFTER), .val (.ref b89), .val (.ref b94), .val (.ref w_UPDATE_AFTER)]) rfl ?_
            show Steps p.tables e below (T96.setTop (mkF m 182 #[.val (.int p1), .val (.int p2), .val (.int p3), .val (.int (43 : Int32)), .val (.int (85 : Int32)), .val (.ref w_UPDATE_AFTER), .val (.ref b89), .val (.ref b94), .val (.ref w_UPDATE_AFTER)] [])) _
            refine XS.aload X96.here hx rfl (hb hby at_182) rfl rfl ?_
            show Steps p.tables e below (T96.setTop (mkF m 184 #[.val (.int p1), .val (.int p2), .val (.int p3), .val (.int (43 : Int32)), .val (.int (85 : Int32)), .val (.ref w_UPDATE_AFTER), .val (.ref b89), .val (.ref b94), .val (.ref w_UPDATE_AFTER)] [(.ref w_UPDATE_AFTER)])) _
            refine XS.aload X96.here hx rfl (hb hby at_184) rfl rfl ?_
            show Steps p.tables e below (T96.setTop (mkF m 186 #[.val (.int p1), .val (.int p2), .val (.int p3), .val (.int (43 : Int32)), .val (.int (85 : Int32)), .val (.ref w_UPDATE_AFTER), .val (.ref b89), .val (.ref b94), .val (.ref w_UPDATE_AFTER)] [(.ref w_UPDATE_AFTER), (.ref w_UPDATE_AFTER)])) _
            refine Jvm.RoadKit.acmp (g := (mkF m 186 #[.val (.int p1), .val (.int p2), .val (.int p3), .val (.int (43 : Int32)), .val (.int (85 : Int32)), .val (.ref w_UPDATE_AFTER), .val (.ref b89), .val (.ref b94), .val (.ref w_UPDATE_AFTER)] [(.ref w_UPDATE_AFTER), (.ref w_UPDATE_AFTER)])) X96 hx rfl rfl rfl (pc0 := 186) (pc' := 189) (same := true) rfl (hb hby at_186) rfl (decide_eq_true (congrArg Value.ref rfl)) (by decide) (by decide) ?_
            show Steps p.tables e below (T96.setTop (mkF m 189 #[.val (.int p1), .val (.int p2), .val (.int p3), .val (.int (43 : Int32)), .val (.int (85 : Int32)), .val (.ref w_UPDATE_AFTER), .val (.ref b89), .val (.ref b94), .val (.ref w_UPDATE_AFTER)] [])) _
            refine XS.aload X96.here hx rfl (hb hby at_189) rfl rfl ?_
            show Steps p.tables e below (T96.setTop (mkF m 191 #[.val (.int p1), .val (.int p2), .val (.int p3), .val (.int (43 : Int32)), .val (.int (85 : Int32)), .val (.ref w_UPDATE_AFTER), .val (.ref b89), .val (.ref b94), .val (.ref w_UPDATE_AFTER)] [(.ref w_UPDATE_AFTER)])) _
            refine st97.trans ?_
            show Steps p.tables e below (T97.setTop (mkF m 194 #[.val (.int p1), .val (.int p2), .val (.int p3), .val (.int (43 : Int32)), .val (.int (85 : Int32)), .val (.ref w_UPDATE_AFTER), .val (.ref b89), .val (.ref b94), .val (.ref w_UPDATE_AFTER)] [(.ref w_UPDATE_AFTER_shortName)])) _
            refine XS.aload X97.here hx rfl (hb hby at_194) rfl rfl ?_
            show Steps p.tables e below (T97.setTop (mkF m 196 #[.val (.int p1), .val (.int p2), .val (.int p3), .val (.int (43 : Int32)), .val (.int (85 : Int32)), .val (.ref w_UPDATE_AFTER), .val (.ref b89), .val (.ref b94), .val (.ref w_UPDATE_AFTER)] [(.ref b94), (.ref w_UPDATE_AFTER_shortName)])) _
            refine st98.trans ?_
            show Steps p.tables e below (T98.setTop (mkF m 199 #[.val (.int p1), .val (.int p2), .val (.int p3), .val (.int (43 : Int32)), .val (.int (85 : Int32)), .val (.ref w_UPDATE_AFTER), .val (.ref b89), .val (.ref b94), .val (.ref w_UPDATE_AFTER)] [(.int (1 : Int32))])) _
            refine XS.ifNo X98.here hx rfl (hb hby at_199) rfl ((if0 _ _).trans (feq (by decide : ¬ ((1 : Int32) = (0 : Int32)))).1) ?_
            show Steps p.tables e below (T98.setTop (mkF m 202 #[.val (.int p1), .val (.int p2), .val (.int p3), .val (.int (43 : Int32)), .val (.int (85 : Int32)), .val (.ref w_UPDATE_AFTER), .val (.ref b89), .val (.ref b94), .val (.ref w_UPDATE_AFTER)] [])) _
            refine XS.iconst X98.here hx rfl (hb hby at_202) ?_
            show Steps p.tables e below (T98.setTop (mkF m 203 #[.val (.int p1), .val (.int p2), .val (.int p3), .val (.int (43 : Int32)), .val (.int (85 : Int32)), .val (.ref w_UPDATE_AFTER), .val (.ref b89), .val (.ref b94), .val (.ref w_UPDATE_AFTER)] [(.int (1 : Int32))])) _
            refine XS.goto X98.here hx rfl (pc0 := 203) (pc' := 207) rfl (hb hby at_203) (by decide) (by decide) ?_
            show Steps p.tables e below (T98.setTop (mkF m 207 #[.val (.int p1), .val (.int p2), .val (.int p3), .val (.int (43 : Int32)), .val (.int (85 : Int32)), .val (.ref w_UPDATE_AFTER), .val (.ref b89), .val (.ref b94), .val (.ref w_UPDATE_AFTER)] [(.int (1 : Int32))])) _
            exact retN X98 hx (t := .boolean) Bd.returns (by simp) (hb hby at_207) hr
          · show Q0 Z p1 p2 p3 w__VALUES kV w_INSERT w_UPDATE_BEFORE w_UPDATE_AFTER w_DELETE w_INSERT_shortName w_INSERT_shortName_value k_INSERT w_UPDATE_BEFORE_shortName w_UPDATE_BEFORE_shortName_value k_UPDATE_BEFORE w_UPDATE_AFTER_shortName w_UPDATE_AFTER_shortName_value k_UPDATE_AFTER w_DELETE_shortName w_DELETE_shortName_value k_DELETE w_COMPACT_STRINGS h0 n0 _ T98.heap _
            rw [e98]
            exact ⟨by rw [res0, if_neg hc3_2, if_pos hc75_72, if_neg hc82_74, if_pos hc97_87], N98⟩
        · obtain ⟨fs, hr, hrun, hended, hW, hsame⟩ := X0.leave (v := some (.int (1 : Int32))) (fun h => by rw [Bd.returns] at h; cases h)
          refine ⟨_, _, pre86 _ ?_, hrun, hended, _, _, rfl, ?_, ⟨_, rfl⟩, hW, hsame.mono (by decide) (by decide)⟩
          · show Steps p.tables e below (s₁.setTop (mkF m 97 #[.val (.int p1), .val (.int p2), .val (.int p3), .val (.int (43 : Int32)), .val (.int (mg0_32_s0 p2)), .val .null, .unset, .unset, .unset] [(.int (85 : Int32)), (.int (mg0_32_s0 p2))])) _
            refine XS.icmpYes X0.here hx rfl (pc0 := 97) (pc' := 141) rfl (hb hby at_97) rfl (feq hc97_87).2 (by decide) (by decide) ?_
            show Steps p.tables e below (s₁.setTop (mkF m 141 #[.val (.int p1), .val (.int p2), .val (.int p3), .val (.int (43 : Int32)), .val (.int (mg0_32_s0 p2)), .val .null, .unset, .unset, .unset] [])) _
            refine XS.aload X0.here hx rfl (hb hby at_141) rfl rfl ?_
            show Steps p.tables e below (s₁.setTop (mkF m 143 #[.val (.int p1), .val (.int p2), .val (.int p3), .val (.int (43 : Int32)), .val (.int (mg0_32_s0 p2)), .val .null, .unset, .unset, .unset] [.null])) _
            refine XS.ifnonnullNo X0.here hx rfl (hb hby at_143) rfl ?_
            show Steps p.tables e below (s₁.setTop (mkF m 146 #[.val (.int p1), .val (.int p2), .val (.int p3), .val (.int (43 : Int32)), .val (.int (mg0_32_s0 p2)), .val .null, .unset, .unset, .unset] [])) _
            refine XS.iconst X0.here hx rfl (hb hby at_146) ?_
            show Steps p.tables e below (s₁.setTop (mkF m 147 #[.val (.int p1), .val (.int p2), .val (.int p3), .val (.int (43 : Int32)), .val (.int (mg0_32_s0 p2)), .val .null, .unset, .unset, .unset] [(.int (1 : Int32))])) _
            exact retN X0 hx (t := .boolean) Bd.returns (by simp) (hb hby at_147) hr
          · show Q0 Z p1 p2 p3 w__VALUES kV w_INSERT w_UPDATE_BEFORE w_UPDATE_AFTER w_DELETE w_INSERT_shortName w_INSERT_shortName_value k_INSERT w_UPDATE_BEFORE_shortName w_UPDATE_BEFORE_shortName_value k_UPDATE_BEFORE w_UPDATE_AFTER_shortName w_UPDATE_AFTER_shortName_value k_UPDATE_AFTER w_DELETE_shortName w_DELETE_shortName_value k_DELETE w_COMPACT_STRINGS h0 n0 _ s₁.heap _
            rw [e0]
            exact ⟨by rw [res0, if_neg hc3_2, if_pos hc75_72, if_neg hc82_74, if_neg hc97_87], N0⟩
    · have pre99 : ∀ t, Steps p.tables e below (s₁.setTop (mkF m 111 #[.val (.int p1), .val (.int p2), .val (.int p3), .val (.int (mg0_13_s0 p2)), .val (.int (mg0_32_s0 p2)), .val .null, .unset, .unset, .unset] [(.int (45 : Int32)), (.int (mg0_13_s0 p2))])) t → Steps p.tables e below (s₁.setTop (entryFrame m #[(.int p1), (.int p2), (.int p3)] maxLocals)) t := by
        intro t kt
        refine pre71 _ ?_
        show Steps p.tables e below (s₁.setTop (mkF m 75 #[.val (.int p1), .val (.int p2), .val (.int p3), .val (.int (mg0_13_s0 p2)), .val (.int (mg0_32_s0 p2)), .val .null, .unset, .unset, .unset] [(.int (43 : Int32)), (.int (mg0_13_s0 p2))])) _
        refine XS.icmpYes X0.here hx rfl (pc0 := 75) (pc' := 108) rfl (hb hby at_75) rfl (feq hc75_72).2 (by decide) (by decide) ?_
        show Steps p.tables e below (s₁.setTop (mkF m 108 #[.val (.int p1), .val (.int p2), .val (.int p3), .val (.int (mg0_13_s0 p2)), .val (.int (mg0_32_s0 p2)), .val .null, .unset, .unset, .unset] [])) _
        refine XS.iloadN X0.here hx rfl (hb hby at_108) rfl ?_
        show Steps p.tables e below (s₁.setTop (mkF m 109 #[.val (.int p1), .val (.int p2), .val (.int p3), .val (.int (mg0_13_s0 p2)), .val (.int (mg0_32_s0 p2)), .val .null, .unset, .unset, .unset] [(.int (mg0_13_s0 p2))])) _
        refine XS.bipush X0.here hx rfl (hb hby at_109) ?_
        exact kt
      by_cases hc111_100 : (mg0_13_s0 p2) = (45 : Int32)
      · rw [hc111_100] at pre99
        have pre101 : ∀ t, Steps p.tables e below (s₁.setTop (mkF m 118 #[.val (.int p1), .val (.int p2), .val (.int p3), .val (.int (45 : Int32)), .val (.int (mg0_32_s0 p2)), .val .null, .unset, .unset, .unset] [(.int (85 : Int32)), (.int (mg0_32_s0 p2))])) t → Steps p.tables e below (s₁.setTop (entryFrame m #[(.int p1), (.int p2), (.int p3)] maxLocals)) t := by
          intro t kt
          refine pre99 _ ?_
          show Steps p.tables e below (s₁.setTop (mkF m 111 #[.val (.int p1), .val (.int p2), .val (.int p3), .val (.int (45 : Int32)), .val (.int (mg0_32_s0 p2)), .val .null, .unset, .unset, .unset] [(.int (45 : Int32)), (.int (45 : Int32))])) _
          refine XS.icmpNo X0.here hx rfl (hb hby at_111) rfl (teq (rfl : (45 : Int32) = (45 : Int32))).2 ?_
          show Steps p.tables e below (s₁.setTop (mkF m 114 #[.val (.int p1), .val (.int p2), .val (.int p3), .val (.int (45 : Int32)), .val (.int (mg0_32_s0 p2)), .val .null, .unset, .unset, .unset] [])) _
          refine XS.iload X0.here hx rfl (hb hby at_114) rfl ?_
          show Steps p.tables e below (s₁.setTop (mkF m 116 #[.val (.int p1), .val (.int p2), .val (.int p3), .val (.int (45 : Int32)), .val (.int (mg0_32_s0 p2)), .val .null, .unset, .unset, .unset] [(.int (mg0_32_s0 p2))])) _
          refine XS.bipush X0.here hx rfl (hb hby at_116) ?_
          exact kt
        by_cases hc118_102 : (mg0_32_s0 p2) = (85 : Int32)
        · rw [hc118_102] at pre101
          obtain ⟨T103, X103, e103, st103⟩ := getS2 X0 hx hZ hown (host := "") (Or.inl (hw _ (List.mem_of_getElem? (i := 77) rfl))) Via.refl e0 S_UPDATE_BEFORE (g := (mkF m 121 #[.val (.int p1), .val (.int p2), .val (.int p3), .val (.int (45 : Int32)), .val (.int (85 : Int32)), .val .null, .unset, .unset, .unset] [])) rfl (hb hby at_121)
          obtain ⟨T104, h104, k104, X104, e104, E104, A104, st104⟩ := newP X103 hx hZ (hw _ (List.mem_of_getElem? (i := 7) rfl)) e103 (g := (mkF m 149 #[.val (.int p1), .val (.int p2), .val (.int p3), .val (.int (45 : Int32)), .val (.int (85 : Int32)), .val (.ref w_UPDATE_BEFORE), .unset, .unset, .unset] [(.int (2 : Int32))])) rfl (hb hby at_149) rfl (by decide) (cap := 2) (by decide) (by decide) (by decide) (by decide)
          obtain ⟨b104, g104⟩ : ∃ z, z = h0.size := ⟨_, rfl⟩
          rw [← g104] at A104 st104
          have sz_b104 : h0.size ≤ b104 := Nat.le_trans (Keep.refl h0 []).1 (Nat.le_of_eq g104.symm)
          have g_b104 : n0 ≤ b104 := Nat.le_trans Z0 sz_b104
          have K104 : Keep h0 h104 [] := (Keep.refl h0 []).ext E104
          have V_b104 : Arv Z h104 b104 k104 .char (2 : Int32) [(.int (0 : Int32)), (.int (0 : Int32))] (.int (0 : Int32)) := (Arv.new A104 (by decide)).pad (pad_rep [] (.int (0 : Int32)) 2)
          obtain ⟨cl_b104_157_105, Ar_b104_157_105, q_b104_157_105, S_b104_157_105, N_b104_157_105, H_b104_157_105, G_b104_157_105⟩ := id V_b104
          have hin_b104_157_105 : ¬ ((0 : Int32) < 0 ∨ cl_b104_157_105.slots.size ≤ ((0 : Int32) : Int32).toNatClampNeg) := inb_of S_b104_157_105 ⟨by decide, by decide⟩
          obtain ⟨T106, h106, X106, e106, W106, st106⟩ := stC X104 hx hZ e104 Ar_b104_157_105 (j := (0 : Int32)) hin_b104_157_105 (g := (mkF m 157 #[.val (.int p1), .val (.int p2), .val (.int p3), .val (.int (45 : Int32)), .val (.int (85 : Int32)), .val (.ref w_UPDATE_BEFORE), .val (.ref b104), .unset, .unset] [(.int (45 : Int32)), (.int (0 : Int32)), (.ref b104)])) rfl rfl (hb hby at_157)
          have V_b104_157_105 : Arv Z h106 b104 k104 .char (2 : Int32) [(.int (45 : Int32)), (.int (0 : Int32))] (.int (0 : Int32)) := Arv.set Ar_b104_157_105 q_b104_157_105 S_b104_157_105 N_b104_157_105 H_b104_157_105 G_b104_157_105 (fits_nar_char _) W106 0 rfl (Nat.le_of_ble_eq_true rfl)
          have K106 : Keep h0 h106 [] := K104.wr W106 (Or.inr sz_b104)
          have N106 := Fr.snoc X106 N0 g_b104
          obtain ⟨cl_b104_163_107, Ar_b104_163_107, q_b104_163_107, S_b104_163_107, N_b104_163_107, H_b104_163_107, G_b104_163_107⟩ := id V_b104_157_105
          have hin_b104_163_107 : ¬ ((1 : Int32) < 0 ∨ cl_b104_163_107.slots.size ≤ ((1 : Int32) : Int32).toNatClampNeg) := inb_of S_b104_163_107 ⟨by decide, by decide⟩
          obtain ⟨T108, h108, X108, e108, W108, st108⟩ := stC X106 hx hZ e106 Ar_b104_163_107 (j := (1 : Int32)) hin_b104_163_107 (g := (mkF m 163 #[.val (.int p1), .val (.int p2), .val (.int p3), .val (.int (45 : Int32)), .val (.int (85 : Int32)), .val (.ref w_UPDATE_BEFORE), .val (.ref b104), .unset, .unset] [(.int (85 : Int32)), (.int (1 : Int32)), (.ref b104)])) rfl rfl (hb hby at_163)
          have V_b104_163_107 : Arv Z h108 b104 k104 .char (2 : Int32) [(.int (45 : Int32)), (.int (85 : Int32))] (.int (0 : Int32)) := Arv.set Ar_b104_163_107 q_b104_163_107 S_b104_163_107 N_b104_163_107 H_b104_163_107 G_b104_163_107 (fits_nar_char _) W108 1 rfl (Nat.le_of_ble_eq_true rfl)
          have K108 : Keep h0 h108 [] := K106.wr W108 (Or.inr sz_b104)
          have N108 := Fr.snoc X108 N106 g_b104
          obtain ⟨T109, h109, X109, e109, E109, A109, D109, -, st109⟩ := newO X108 hx hZ hown (hw _ (List.mem_of_getElem? (i := 8) rfl)) (hw _ (List.mem_of_getElem? (i := 9) rfl)) (hw _ (List.mem_of_getElem? (i := 10) rfl)) e108 (g := (mkF m 164 #[.val (.int p1), .val (.int p2), .val (.int p3), .val (.int (45 : Int32)), .val (.int (85 : Int32)), .val (.ref w_UPDATE_BEFORE), .val (.ref b104), .unset, .unset] [])) rfl (hb hby at_164) (by decide) (by decide)
          obtain ⟨b109, g109⟩ : ∃ z, z = h108.size := ⟨_, rfl⟩
          rw [← g109] at A109 D109 st109
          have sz_b109 : h0.size ≤ b109 := Nat.le_trans K108.1 (Nat.le_of_eq g109.symm)
          have g_b109 : n0 ≤ b109 := Nat.le_trans Z0 sz_b109
          have K109 : Keep h0 h109 [] := K108.ext E109
          have F_coder_b109 : Fld Z h109 b109 "java/lang/String" "coder" "B" (.int (0 : Int32)) := D109 (Or.inr (hw _ (List.mem_of_getElem? (i := 34) rfl))) (ty := .byte) (by decide)
          have F_value_b109 : Fld Z h109 b109 "java/lang/String" "value" "[B" .null := D109 (Or.inr (hw _ (List.mem_of_getElem? (i := 36) rfl))) (ty := (.array .byte)) (by decide)
          obtain ⟨_, _, ⟨T110, L110, k110, n110⟩, -, X110, ⟨Lc110, hQ110, l110, y110, z110⟩, st110⟩ := X109.specialBack hx (y := (⟨"java/lang/String", "<init>", "([C)V"⟩ : MethodName)) rfl hown (mvT hZ (hw _ (List.mem_of_getElem? (i := 11) rfl))) (mvT hZ (hw _ (List.mem_of_getElem? (i := 12) rfl))) (mvT hZ (hw _ (List.mem_of_getElem? (i := 13) rfl))) (by decide) (backOf (W := 1) (rm_ini1_2 l Z a0 hw [] b109 b104 k104 (45 : Int32) (85 : Int32) w_COMPACT_STRINGS (.int (0 : Int32)) .null h109 n0 (Nat.le_trans Z0 K109.1) (V_b104_163_107.ext E109) ((((S_COMPACT_STRINGS.ext E104).wr W106).wr W108).ext E109) A109 F_coder_b109 g_b109 F_value_b109 (by decide : ¬ ((255 : Int32) < (45 : Int32))) (by decide : ¬ ((255 : Int32) < (85 : Int32))) (hCS : ¬ (w_COMPACT_STRINGS = (0 : Int32)))) hZ (hw _ (List.mem_of_getElem? (i := 13) rfl)) (hw _ (List.mem_of_getElem? (i := 10) rfl)) (by decide) (by decide)) (g := (mkF m 170 #[.val (.int p1), .val (.int p2), .val (.int p3), .val (.int (45 : Int32)), .val (.int (85 : Int32)), .val (.ref w_UPDATE_BEFORE), .val (.ref b104), .unset, .unset] [(.ref b104), (.ref b109), (.ref b109)])) rfl (by rw [hml]; rfl) (Steps.refl _) (a := b109) (argsL := [(.ref b104)]) (rest := [(.ref b109)]) (lenOf pd8 rfl) rfl (by show 2 * 0 + _ ≤ _; exact Nat.le_of_eq rfl) (hb hby at_170) (fun _ _ => ⟨rfl, e109, (by decide : 2 + 1 ≤ _), (by decide : 6 + 2 ≤ _)⟩)
          dsimp only [Pt.U, Pt.locs, Pt.cells, Pt.slots] at X110 l110 y110 z110 st110 hQ110
          subst l110 y110 z110
          obtain ⟨b1_3_2_110, k1_3_2_110, rfl, N110q, K110, s110_b1_3_2, f110_0, f110_1, f110_2, f110_3⟩ := hQ110
          have N110 := Fr.app N108 N110q
          have sz_b1_3_2_110 : h0.size ≤ b1_3_2_110 := Nat.le_trans K109.1 s110_b1_3_2
          have g_b1_3_2_110 : n0 ≤ b1_3_2_110 := Nat.le_trans Z0 sz_b1_3_2_110
          have KK110 : Keep h0 T110.heap [] := K109.trans K110 (allS (Or.inr sz_b109) all0)
          obtain ⟨_, _, ⟨T111, L111, k111, n111⟩, -, X111, ⟨Lc111, hQ111, l111, y111, z111⟩, st111⟩ := Jvm.LawKit.callS X110 hx (y := (⟨"com/example/tidemark/tidemark/table/RowKind", "fromShortName", "(Ljava/lang/String;)Lcom/example/tidemark/tidemark/table/RowKind;"⟩ : MethodName)) hown (mvT hZ (hw _ (List.mem_of_getElem? (i := 37) rfl))) (mvT hZ (hw _ (List.mem_of_getElem? (i := 38) rfl))) (mvT hZ (hw _ (List.mem_of_getElem? (i := 5) rfl))) (mvT hZ (hw _ (List.mem_of_getElem? (i := 39) rfl))) (by decide) (backOf (W := 0) (rm8 l Z a0 hw [] b109 w__VALUES kV w_INSERT w_UPDATE_BEFORE w_UPDATE_AFTER w_DELETE w_INSERT_shortName w_INSERT_shortName_value k_INSERT w_UPDATE_BEFORE_shortName w_UPDATE_BEFORE_shortName_value k_UPDATE_BEFORE w_UPDATE_AFTER_shortName w_UPDATE_AFTER_shortName_value k_UPDATE_AFTER w_DELETE_shortName w_DELETE_shortName_value k_DELETE b1_3_2_110 k1_3_2_110 (nar .byte ((45 : Int32).toInt8.toInt32)) (nar .byte ((85 : Int32).toInt8.toInt32)) w_COMPACT_STRINGS T110.heap n0 (Nat.le_trans Z0 KK110.1) (own_sta_keep ((((S__VALUES.ext E104).wr W106).wr W108).ext E109) K110 (allS (own_exa_ns A109) all0)) (((((E_w__VALUES.ext E104).wr W106).wr W108).ext E109).keep K110) (((((V_w__VALUES.ext E104).other W106 (Nat.ne_of_lt (Nat.lt_of_lt_of_le E_w__VALUES.lt (Nat.le_of_eq g104.symm)))).other W108 (Nat.ne_of_lt (Nat.lt_of_lt_of_le E_w__VALUES.lt (Nat.le_of_eq g104.symm)))).ext E109).keep K110 (ninS (Nat.ne_of_lt (Nat.lt_of_lt_of_le (((E_w__VALUES.ext E104).wr W106).wr W108).lt (Nat.le_of_eq g109.symm))) nin0)) (((((F_shortName_w_INSERT.ext E104).other W106 (Or.inl (Nat.ne_of_lt (Nat.lt_of_lt_of_le E_w_INSERT.lt (Nat.le_of_eq g104.symm))))).other W108 (Or.inl (Nat.ne_of_lt (Nat.lt_of_lt_of_le E_w_INSERT.lt (Nat.le_of_eq g104.symm))))).ext E109).keep K110 (ninS (Nat.ne_of_lt (Nat.lt_of_lt_of_le (((E_w_INSERT.ext E104).wr W106).wr W108).lt (Nat.le_of_eq g109.symm))) nin0)) (((((E_w_INSERT_shortName.ext E104).wr W106).wr W108).ext E109).keep K110) (((((F_coder_w_INSERT_shortName.ext E104).other W106 (Or.inl (Nat.ne_of_lt (Nat.lt_of_lt_of_le E_w_INSERT_shortName.lt (Nat.le_of_eq g104.symm))))).other W108 (Or.inl (Nat.ne_of_lt (Nat.lt_of_lt_of_le E_w_INSERT_shortName.lt (Nat.le_of_eq g104.symm))))).ext E109).keep K110 (ninS (Nat.ne_of_lt (Nat.lt_of_lt_of_le (((E_w_INSERT_shortName.ext E104).wr W106).wr W108).lt (Nat.le_of_eq g109.symm))) nin0)) (((((F_value_w_INSERT_shortName.ext E104).other W106 (Or.inl (Nat.ne_of_lt (Nat.lt_of_lt_of_le E_w_INSERT_shortName.lt (Nat.le_of_eq g104.symm))))).other W108 (Or.inl (Nat.ne_of_lt (Nat.lt_of_lt_of_le E_w_INSERT_shortName.lt (Nat.le_of_eq g104.symm))))).ext E109).keep K110 (ninS (Nat.ne_of_lt (Nat.lt_of_lt_of_le (((E_w_INSERT_shortName.ext E104).wr W106).wr W108).lt (Nat.le_of_eq g109.symm))) nin0)) (((((V_w_INSERT_shortName_value.ext E104).other W106 (Nat.ne_of_lt (Nat.lt_of_lt_of_le V_w_INSERT_shortName_value.lt (Nat.le_of_eq g104.symm)))).other W108 (Nat.ne_of_lt (Nat.lt_of_lt_of_le V_w_INSERT_shortName_value.lt (Nat.le_of_eq g104.symm)))).ext E109).keep K110 (ninS (Nat.ne_of_lt (Nat.lt_of_lt_of_le (((V_w_INSERT_shortName_value.ext E104).other W106 (Nat.ne_of_lt (Nat.lt_of_lt_of_le V_w_INSERT_shortName_value.lt (Nat.le_of_eq g104.symm)))).other W108 (Nat.ne_of_lt (Nat.lt_of_lt_of_le V_w_INSERT_shortName_value.lt (Nat.le_of_eq g104.symm)))).lt (Nat.le_of_eq g109.symm))) nin0)) (((((F_shortName_w_UPDATE_BEFORE.ext E104).other W106 (Or.inl (Nat.ne_of_lt (Nat.lt_of_lt_of_le E_w_UPDATE_BEFORE.lt (Nat.le_of_eq g104.symm))))).other W108 (Or.inl (Nat.ne_of_lt (Nat.lt_of_lt_of_le E_w_UPDATE_BEFORE.lt (Nat.le_of_eq g104.symm))))).ext E109).keep K110 (ninS (Nat.ne_of_lt (Nat.lt_of_lt_of_le (((E_w_UPDATE_BEFORE.ext E104).wr W106).wr W108).lt (Nat.le_of_eq g109.symm))) nin0)) (((((E_w_UPDATE_BEFORE_shortName.ext E104).wr W106).wr W108).ext E109).keep K110) (((((F_coder_w_UPDATE_BEFORE_shortName.ext E104).other W106 (Or.inl (Nat.ne_of_lt (Nat.lt_of_lt_of_le E_w_UPDATE_BEFORE_shortName.lt (Nat.le_of_eq g104.symm))))).other W108 (Or.inl (Nat.ne_of_lt (Nat.lt_of_lt_of_le E_w_UPDATE_BEFORE_shortName.lt (Nat.le_of_eq g104.symm))))).ext E109).keep K110 (ninS (Nat.ne_of_lt (Nat.lt_of_lt_of_le (((E_w_UPDATE_BEFORE_shortName.ext E104).wr W106).wr W108).lt (Nat.le_of_eq g109.symm))) nin0)) (((((F_value_w_UPDATE_BEFORE_shortName.ext E104).other W106 (Or.inl (Nat.ne_of_lt (Nat.lt_of_lt_of_le E_w_UPDATE_BEFORE_shortName.lt (Nat.le_of_eq g104.symm))))).other W108 (Or.inl (Nat.ne_of_lt (Nat.lt_of_lt_of_le E_w_UPDATE_BEFORE_shortName.lt (Nat.le_of_eq g104.symm))))).ext E109).keep K110 (ninS (Nat.ne_of_lt (Nat.lt_of_lt_of_le (((E_w_UPDATE_BEFORE_shortName.ext E104).wr W106).wr W108).lt (Nat.le_of_eq g109.symm))) nin0)) (((((V_w_UPDATE_BEFORE_shortName_value.ext E104).other W106 (Nat.ne_of_lt (Nat.lt_of_lt_of_le V_w_UPDATE_BEFORE_shortName_value.lt (Nat.le_of_eq g104.symm)))).other W108 (Nat.ne_of_lt (Nat.lt_of_lt_of_le V_w_UPDATE_BEFORE_shortName_value.lt (Nat.le_of_eq g104.symm)))).ext E109).keep K110 (ninS (Nat.ne_of_lt (Nat.lt_of_lt_of_le (((V_w_UPDATE_BEFORE_shortName_value.ext E104).other W106 (Nat.ne_of_lt (Nat.lt_of_lt_of_le V_w_UPDATE_BEFORE_shortName_value.lt (Nat.le_of_eq g104.symm)))).other W108 (Nat.ne_of_lt (Nat.lt_of_lt_of_le V_w_UPDATE_BEFORE_shortName_value.lt (Nat.le_of_eq g104.symm)))).lt (Nat.le_of_eq g109.symm))) nin0)) (((((F_shortName_w_UPDATE_AFTER.ext E104).other W106 (Or.inl (Nat.ne_of_lt (Nat.lt_of_lt_of_le E_w_UPDATE_AFTER.lt (Nat.le_of_eq g104.symm))))).other W108 (Or.inl (Nat.ne_of_lt (Nat.lt_of_lt_of_le E_w_UPDATE_AFTER.lt (Nat.le_of_eq g104.symm))))).ext E109).keep K110 (ninS (Nat.ne_of_lt (Nat.lt_of_lt_of_le (((E_w_UPDATE_AFTER.ext E104).wr W106).wr W108).lt (Nat.le_of_eq g109.symm))) nin0)) (((((E_w_UPDATE_AFTER_shortName.ext E104).wr W106).wr W108).ext E109).keep K110) (((((F_coder_w_UPDATE_AFTER_shortName.ext E104).other W106 (Or.inl (Nat.ne_of_lt (Nat.lt_of_lt_of_le E_w_UPDATE_AFTER_shortName.lt (Nat.le_of_eq g104.symm))))).other W108 (Or.inl (Nat.ne_of_lt (Nat.lt_of_lt_of_le E_w_UPDATE_AFTER_shortName.lt (Nat.le_of_eq g104.symm))))).ext E109).keep K110 (ninS (Nat.ne_of_lt (Nat.lt_of_lt_of_le (((E_w_UPDATE_AFTER_shortName.ext E104).wr W106).wr W108).lt (Nat.le_of_eq g109.symm))) nin0)) (((((F_value_w_UPDATE_AFTER_shortName.ext E104).other W106 (Or.inl (Nat.ne_of_lt (Nat.lt_of_lt_of_le E_w_UPDATE_AFTER_shortName.lt (Nat.le_of_eq g104.symm))))).other W108 (Or.inl (Nat.ne_of_lt (Nat.lt_of_lt_of_le E_w_UPDATE_AFTER_shortName.lt (Nat.le_of_eq g104.symm))))).ext E109).keep K110 (ninS (Nat.ne_of_lt (Nat.lt_of_lt_of_le (((E_w_UPDATE_AFTER_shortName.ext E104).wr W106).wr W108).lt (Nat.le_of_eq g109.symm))) nin0)) (((((V_w_UPDATE_AFTER_shortName_value.ext E104).other W106 (Nat.ne_of_lt (Nat.lt_of_lt_of_le V_w_UPDATE_AFTER_shortName_value.lt (Nat.le_of_eq g104.symm)))).other W108 (Nat.ne_of_lt (Nat.lt_of_lt_of_le V_w_UPDATE_AFTER_shortName_value.lt (Nat.le_of_eq g104.symm)))).ext E109).keep K110 (ninS (Nat.ne_of_lt (Nat.lt_of_lt_of_le (((V_w_UPDATE_AFTER_shortName_value.ext E104).other W106 (Nat.ne_of_lt (Nat.lt_of_lt_of_le V_w_UPDATE_AFTER_shortName_value.lt (Nat.le_of_eq g104.symm)))).other W108 (Nat.ne_of_lt (Nat.lt_of_lt_of_le V_w_UPDATE_AFTER_shortName_value.lt (Nat.le_of_eq g104.symm)))).lt (Nat.le_of_eq g109.symm))) nin0)) (((((F_shortName_w_DELETE.ext E104).other W106 (Or.inl (Nat.ne_of_lt (Nat.lt_of_lt_of_le E_w_DELETE.lt (Nat.le_of_eq g104.symm))))).other W108 (Or.inl (Nat.ne_of_lt (Nat.lt_of_lt_of_le E_w_DELETE.lt (Nat.le_of_eq g104.symm))))).ext E109).keep K110 (ninS (Nat.ne_of_lt (Nat.lt_of_lt_of_le (((E_w_DELETE.ext E104).wr W106).wr W108).lt (Nat.le_of_eq g109.symm))) nin0)) (((((E_w_DELETE_shortName.ext E104).wr W106).wr W108).ext E109).keep K110) (((((F_coder_w_DELETE_shortName.ext E104).other W106 (Or.inl (Nat.ne_of_lt (Nat.lt_of_lt_of_le E_w_DELETE_shortName.lt (Nat.le_of_eq g104.symm))))).other W108 (Or.inl (Nat.ne_of_lt (Nat.lt_of_lt_of_le E_w_DELETE_shortName.lt (Nat.le_of_eq g104.symm))))).ext E109).keep K110 (ninS (Nat.ne_of_lt (Nat.lt_of_lt_of_le (((E_w_DELETE_shortName.ext E104).wr W106).wr W108).lt (Nat.le_of_eq g109.symm))) nin0)) (((((F_value_w_DELETE_shortName.ext E104).other W106 (Or.inl (Nat.ne_of_lt (Nat.lt_of_lt_of_le E_w_DELETE_shortName.lt (Nat.le_of_eq g104.symm))))).other W108 (Or.inl (Nat.ne_of_lt (Nat.lt_of_lt_of_le E_w_DELETE_shortName.lt (Nat.le_of_eq g104.symm))))).ext E109).keep K110 (ninS (Nat.ne_of_lt (Nat.lt_of_lt_of_le (((E_w_DELETE_shortName.ext E104).wr W106).wr W108).lt (Nat.le_of_eq g109.symm))) nin0)) (((((V_w_DELETE_shortName_value.ext E104).other W106 (Nat.ne_of_lt (Nat.lt_of_lt_of_le V_w_DELETE_shortName_value.lt (Nat.le_of_eq g104.symm)))).other W108 (Nat.ne_of_lt (Nat.lt_of_lt_of_le V_w_DELETE_shortName_value.lt (Nat.le_of_eq g104.symm)))).ext E109).keep K110 (ninS (Nat.ne_of_lt (Nat.lt_of_lt_of_le (((V_w_DELETE_shortName_value.ext E104).other W106 (Nat.ne_of_lt (Nat.lt_of_lt_of_le V_w_DELETE_shortName_value.lt (Nat.le_of_eq g104.symm)))).other W108 (Nat.ne_of_lt (Nat.lt_of_lt_of_le V_w_DELETE_shortName_value.lt (Nat.le_of_eq g104.symm)))).lt (Nat.le_of_eq g109.symm))) nin0)) (A109.keep K110) f110_1 f110_2 f110_3 (own_sta_keep ((((S_COMPACT_STRINGS.ext E104).wr W106).wr W108).ext E109) K110 (allS (own_exa_ns A109) all0)) (hCS : ¬ (w_COMPACT_STRINGS = (0 : Int32))) (by decide : ((nar .byte ((45 : Int32).toInt8.toInt32)) = (43 : Int32) ∧ (nar .byte ((85 : Int32).toInt8.toInt32)) = (73 : Int32)) ∨ ((nar .byte ((45 : Int32).toInt8.toInt32)) = (45 : Int32) ∧ (nar .byte ((85 : Int32).toInt8.toInt32)) = (85 : Int32)) ∨ ((nar .byte ((45 : Int32).toInt8.toInt32)) = (43 : Int32) ∧ (nar .byte ((85 : Int32).toInt8.toInt32)) = (85 : Int32)) ∨ ((nar .byte ((45 : Int32).toInt8.toInt32)) = (45 : Int32) ∧ (nar .byte ((85 : Int32).toInt8.toInt32)) = (68 : Int32))) ((Nat.ne_of_lt (Nat.lt_of_lt_of_le (((E_w_INSERT_shortName.ext E104).wr W106).wr W108).lt (Nat.le_of_eq g109.symm))) : w_INSERT_shortName ≠ b109) ((Nat.ne_of_lt (Nat.lt_of_lt_of_le (((E_w_UPDATE_BEFORE_shortName.ext E104).wr W106).wr W108).lt (Nat.le_of_eq g109.symm))) : w_UPDATE_BEFORE_shortName ≠ b109) ((Nat.ne_of_lt (Nat.lt_of_lt_of_le (((E_w_UPDATE_AFTER_shortName.ext E104).wr W106).wr W108).lt (Nat.le_of_eq g109.symm))) : w_UPDATE_AFTER_shortName ≠ b109) ((Nat.ne_of_lt (Nat.lt_of_lt_of_le (((E_w_DELETE_shortName.ext E104).wr W106).wr W108).lt (Nat.le_of_eq g109.symm))) : w_DELETE_shortName ≠ b109)) hZ (hw _ (List.mem_of_getElem? (i := 39) rfl)) (hw _ (List.mem_of_getElem? (i := 5) rfl)) (by decide) (by decide)) (g := (mkF m 177 #[.val (.int p1), .val (.int p2), .val (.int p3), .val (.int (45 : Int32)), .val (.int (85 : Int32)), .val (.ref w_UPDATE_BEFORE), .val (.ref b104), .val (.ref b109), .unset] [(.ref b109)])) rfl (by rw [hml]; rfl) (argsL := [(.ref b109)]) (rest := []) (lenOf pd9 rfl) rfl (by show 2 * 0 + _ ≤ _; exact Nat.le_of_eq rfl) (hb hby at_177) (fun _ _ => ⟨rfl, rfl, (by decide : 3 + 1 ≤ _), (by decide : 8 + 4 ≤ _)⟩)
          dsimp only [Pt.U, Pt.locs, Pt.cells, Pt.slots] at X111 l111 y111 z111 st111 hQ111
          subst l111 y111 z111
          obtain ⟨rfl, N111q, K111⟩ := hQ111
          have N111 := Fr.app N110 N111q
          have KK111 : Keep h0 T111.heap [] := KK110.trans K111 all0
          have ev111 : (res8 w_INSERT w_UPDATE_BEFORE w_UPDATE_AFTER w_DELETE (nar .byte ((45 : Int32).toInt8.toInt32)) (nar .byte ((85 : Int32).toInt8.toInt32))) = w_UPDATE_BEFORE := by first | rfl | decide
          rw [ev111] at st111
          obtain ⟨cq112, kq112, q112a, q112b, q112c⟩ := isOf hZ rfl ((((((E_w_UPDATE_BEFORE.ext E104).wr W106).wr W108).ext E109).keep K110).keep K111)
          obtain ⟨_, _, ⟨T112, L112, k112, n112⟩, -, X112, ⟨Lc112, hQ112, l112, y112, z112⟩, st112⟩ := X111.virtualBack hx (y := (⟨"com/example/tidemark/tidemark/table/RowKind", "shortName", "()Ljava/lang/String;"⟩ : MethodName)) (z := (⟨"com/example/tidemark/tidemark/table/RowKind", "shortName", "()Ljava/lang/String;"⟩ : MethodName)) hown (mvT hZ (hw _ (List.mem_of_getElem? (i := 70) rfl))) (mvT hZ (hw _ (List.mem_of_getElem? (i := 71) rfl))) (notFace_of_selects (args := #[]) (mvT hZ (hw _ (List.mem_of_getElem? (i := 73) rfl)))) (mvT hZ (hw _ (List.mem_of_getElem? (i := 73) rfl))) (mvT hZ (hw _ (List.mem_of_getElem? (i := 72) rfl))) (by decide) (backOf (W := 0) (rm12 l Z a0 hw [] w_UPDATE_BEFORE w_UPDATE_BEFORE_shortName T111.heap n0 (Nat.le_trans Z0 KK111.1) ((((((F_shortName_w_UPDATE_BEFORE.ext E104).other W106 (Or.inl (Nat.ne_of_lt (Nat.lt_of_lt_of_le E_w_UPDATE_BEFORE.lt (Nat.le_of_eq g104.symm))))).other W108 (Or.inl (Nat.ne_of_lt (Nat.lt_of_lt_of_le E_w_UPDATE_BEFORE.lt (Nat.le_of_eq g104.symm))))).ext E109).keep K110 (ninS (Nat.ne_of_lt (Nat.lt_of_lt_of_le (((E_w_UPDATE_BEFORE.ext E104).wr W106).wr W108).lt (Nat.le_of_eq g109.symm))) nin0)).keep K111 nin0) ) hZ (hw _ (List.mem_of_getElem? (i := 74) rfl)) (hw _ (List.mem_of_getElem? (i := 5) rfl)) (by decide) (by decide)) q112a q112c (g := (mkF m 191 #[.val (.int p1), .val (.int p2), .val (.int p3), .val (.int (45 : Int32)), .val (.int (85 : Int32)), .val (.ref w_UPDATE_BEFORE), .val (.ref b104), .val (.ref b109), .val (.ref w_UPDATE_BEFORE)] [(.ref w_UPDATE_BEFORE)])) rfl (by rw [hml]; rfl) (Steps.refl _) (argsL := []) (rest := []) (lenOf pd10 rfl) rfl (by show 2 * 0 + _ ≤ _; exact Nat.le_of_eq rfl) (hb hby at_191) (fun _ _ => ⟨rfl, rfl, (by decide : 4 + 0 ≤ _), (by decide : 12 + 0 ≤ _)⟩)
          dsimp only [Pt.U, Pt.locs, Pt.cells, Pt.slots] at X112 l112 y112 z112 st112 hQ112
          subst l112 y112 z112
          obtain ⟨rfl, rfl, e112⟩ := hQ112
          have N112 := Fr.app N111 (Fr.nil n0)
          obtain ⟨cq113, kq113, q113a, q113b, q113c⟩ := isOf hZ e112 ((((((E_w_UPDATE_BEFORE_shortName.ext E104).wr W106).wr W108).ext E109).keep K110).keep K111)
          obtain ⟨_, _, ⟨T113, L113, k113, n113⟩, -, X113, ⟨Lc113, hQ113, l113, y113, z113⟩, st113⟩ := X112.virtualBack hx (y := (⟨"java/lang/String", "equals", "(Ljava/lang/Object;)Z"⟩ : MethodName)) (z := (⟨"java/lang/String", "equals", "(Ljava/lang/Object;)Z"⟩ : MethodName)) hown (mvT hZ (hw _ (List.mem_of_getElem? (i := 75) rfl))) (mvT hZ (hw _ (List.mem_of_getElem? (i := 61) rfl))) (notFace_of_selects (args := #[]) (mvT hZ (hw _ (List.mem_of_getElem? (i := 63) rfl)))) (mvT hZ (hw _ (List.mem_of_getElem? (i := 63) rfl))) (mvT hZ (hw _ (List.mem_of_getElem? (i := 62) rfl))) (by decide) (backOf (W := 0) (rm_eq_2_2 l Z a0 hw [] w_UPDATE_BEFORE_shortName b109 w_UPDATE_BEFORE_shortName_value k_UPDATE_BEFORE (45 : Int32) (85 : Int32) b1_3_2_110 k1_3_2_110 (nar .byte ((45 : Int32).toInt8.toInt32)) (nar .byte ((85 : Int32).toInt8.toInt32)) w_COMPACT_STRINGS T111.heap n0 (Nat.le_trans Z0 KK111.1) ((((((E_w_UPDATE_BEFORE_shortName.ext E104).wr W106).wr W108).ext E109).keep K110).keep K111) ((((((F_coder_w_UPDATE_BEFORE_shortName.ext E104).other W106 (Or.inl (Nat.ne_of_lt (Nat.lt_of_lt_of_le E_w_UPDATE_BEFORE_shortName.lt (Nat.le_of_eq g104.symm))))).other W108 (Or.inl (Nat.ne_of_lt (Nat.lt_of_lt_of_le E_w_UPDATE_BEFORE_shortName.lt (Nat.le_of_eq g104.symm))))).ext E109).keep K110 (ninS (Nat.ne_of_lt (Nat.lt_of_lt_of_le (((E_w_UPDATE_BEFORE_shortName.ext E104).wr W106).wr W108).lt (Nat.le_of_eq g109.symm))) nin0)).keep K111 nin0) ((((((F_value_w_UPDATE_BEFORE_shortName.ext E104).other W106 (Or.inl (Nat.ne_of_lt (Nat.lt_of_lt_of_le E_w_UPDATE_BEFORE_shortName.lt (Nat.le_of_eq g104.symm))))).other W108 (Or.inl (Nat.ne_of_lt (Nat.lt_of_lt_of_le E_w_UPDATE_BEFORE_shortName.lt (Nat.le_of_eq g104.symm))))).ext E109).keep K110 (ninS (Nat.ne_of_lt (Nat.lt_of_lt_of_le (((E_w_UPDATE_BEFORE_shortName.ext E104).wr W106).wr W108).lt (Nat.le_of_eq g109.symm))) nin0)).keep K111 nin0) ((((((V_w_UPDATE_BEFORE_shortName_value.ext E104).other W106 (Nat.ne_of_lt (Nat.lt_of_lt_of_le V_w_UPDATE_BEFORE_shortName_value.lt (Nat.le_of_eq g104.symm)))).other W108 (Nat.ne_of_lt (Nat.lt_of_lt_of_le V_w_UPDATE_BEFORE_shortName_value.lt (Nat.le_of_eq g104.symm)))).ext E109).keep K110 (ninS (Nat.ne_of_lt (Nat.lt_of_lt_of_le (((V_w_UPDATE_BEFORE_shortName_value.ext E104).other W106 (Nat.ne_of_lt (Nat.lt_of_lt_of_le V_w_UPDATE_BEFORE_shortName_value.lt (Nat.le_of_eq g104.symm)))).other W108 (Nat.ne_of_lt (Nat.lt_of_lt_of_le V_w_UPDATE_BEFORE_shortName_value.lt (Nat.le_of_eq g104.symm)))).lt (Nat.le_of_eq g109.symm))) nin0)).keep K111 nin0) ((A109.keep K110).keep K111) (f110_1.keep K111 nin0) (f110_2.keep K111 nin0) (f110_3.keep K111 nin0) (own_sta_keep (own_sta_keep ((((S_COMPACT_STRINGS.ext E104).wr W106).wr W108).ext E109) K110 (allS (own_exa_ns A109) all0)) K111 all0) ((Nat.ne_of_lt (Nat.lt_of_lt_of_le (((E_w_UPDATE_BEFORE_shortName.ext E104).wr W106).wr W108).lt (Nat.le_of_eq g109.symm))) : w_UPDATE_BEFORE_shortName ≠ b109) (hCS : ¬ (w_COMPACT_STRINGS = (0 : Int32)))) hZ (hw _ (List.mem_of_getElem? (i := 64) rfl)) (hw _ (List.mem_of_getElem? (i := 10) rfl)) (by decide) (by decide)) q113a q113c (g := (mkF m 196 #[.val (.int p1), .val (.int p2), .val (.int p3), .val (.int (45 : Int32)), .val (.int (85 : Int32)), .val (.ref w_UPDATE_BEFORE), .val (.ref b104), .val (.ref b109), .val (.ref w_UPDATE_BEFORE)] [(.ref b109), (.ref w_UPDATE_BEFORE_shortName)])) rfl (by rw [hml]; rfl) (Steps.refl _) (argsL := [(.ref b109)]) (rest := []) (lenOf pd6 rfl) rfl (by show 2 * 0 + _ ≤ _; exact Nat.le_of_eq rfl) (hb hby at_196) (fun _ _ => ⟨rfl, e112, (by decide : 4 + 0 ≤ _), (by decide : 12 + 0 ≤ _)⟩)
          dsimp only [Pt.U, Pt.locs, Pt.cells, Pt.slots] at X113 l113 y113 z113 st113 hQ113
          subst l113 y113 z113
          obtain ⟨rfl, rfl, e113⟩ := hQ113
          have N113 := Fr.app N112 (Fr.nil n0)
          have ev113 : (res_eq_2_2 (45 : Int32) (85 : Int32) (nar .byte ((45 : Int32).toInt8.toInt32)) (nar .byte ((85 : Int32).toInt8.toInt32))) = (1 : Int32) := by first | rfl | decide
          rw [ev113] at st113
          obtain ⟨fs, hr, hrun, hended, hW, hsame⟩ := X113.leave (v := some (.int (1 : Int32))) (fun h => by rw [Bd.returns] at h; cases h)
          refine ⟨_, _, pre101 _ ?_, hrun, hended, _, _, rfl, ?_, ⟨_, rfl⟩, hW, hsame.mono (by decide) (by decide)⟩
          · show Steps p.tables e below (s₁.setTop (mkF m 118 #[.val (.int p1), .val (.int p2), .val (.int p3), .val (.int (45 : Int32)), .val (.int (85 : Int32)), .val .null, .unset, .unset, .unset] [(.int (85 : Int32)), (.int (85 : Int32))])) _
            refine XS.icmpNo X0.here hx rfl (hb hby at_118) rfl (teq (rfl : (85 : Int32) = (85 : Int32))).2 ?_
            show Steps p.tables e below (s₁.setTop (mkF m 121 #[.val (.int p1), .val (.int p2), .val (.int p3), .val (.int (45 : Int32)), .val (.int (85 : Int32)), .val .null, .unset, .unset, .unset] [])) _
            refine st103 _ ?_
            show Steps p.tables e below (T103.setTop (mkF m 124 #[.val (.int p1), .val (.int p2), .val (.int p3), .val (.int (45 : Int32)), .val (.int (85 : Int32)), .val .null, .unset, .unset, .unset] [(.ref w_UPDATE_BEFORE)])) _
            refine XS.astore X103.here hx rfl (hb hby at_124) rfl rfl (l' := #[.val (.int p1), .val (.int p2), .val (.int p3), .val (.int (45 : Int32)), .val (.int (85 : Int32)), .val (.ref w_UPDATE_BEFORE), .unset, .unset, .unset]) rfl ?_
            show Steps p.tables e below (T103.setTop (mkF m 126 #[.val (.int p1), .val (.int p2), .val (.int p3), .val (.int (45 : Int32)), .val (.int (85 : Int32)), .val (.ref w_UPDATE_BEFORE), .unset, .unset, .unset] [])) _
            refine XS.goto X103.here hx rfl (pc0 := 126) (pc' := 141) rfl (hb hby at_126) (by decide) (by decide) ?_
            show Steps p.tables e below (T103.setTop (mkF m 141 #[.val (.int p1), .val (.int p2), .val (.int p3), .val (.int (45 : Int32)), .val (.int (85 : Int32)), .val (.ref w_UPDATE_BEFORE), .unset, .unset, .unset] [])) _
            refine XS.aload X103.here hx rfl (hb hby at_141) rfl rfl ?_
            show Steps p.tables e below (T103.setTop (mkF m 143 #[.val (.int p1), .val (.int p2), .val (.int p3), .val (.int (45 : Int32)), .val (.int (85 : Int32)), .val (.ref w_UPDATE_BEFORE), .unset, .unset, .unset] [(.ref w_UPDATE_BEFORE)])) _
            refine XS.ifnonnullYes X103.here hx rfl (pc0 := 143) (pc' := 148) rfl (hb hby at_143) rfl (by decide) (by decide) ?_
            show Steps p.tables e below (T103.setTop (mkF m 148 #[.val (.int p1), .val (.int p2), .val (.int p3), .val (.int (45 : Int32)), .val (.int (85 : Int32)), .val (.ref w_UPDATE_BEFORE), .unset, .unset, .unset] [])) _
            refine XS.iconst X103.here hx rfl (hb hby at_148) ?_
            show Steps p.tables e below (T103.setTop (mkF m 149 #[.val (.int p1), .val (.int p2), .val (.int p3), .val (.int (45 : Int32)), .val (.int (85 : Int32)), .val (.ref w_UPDATE_BEFORE), .unset, .unset, .unset] [(.int (2 : Int32))])) _
            refine st104 _ ?_
            show Steps p.tables e below (T104.setTop (mkF m 151 #[.val (.int p1), .val (.int p2), .val (.int p3), .val (.int (45 : Int32)), .val (.int (85 : Int32)), .val (.ref w_UPDATE_BEFORE), .unset, .unset, .unset] [(.ref b104)])) _
            refine XS.astore X104.here hx rfl (hb hby at_151) rfl rfl (l' := #[.val (.int p1), .val (.int p2), .val (.int p3), .val (.int (45 : Int32)), .val (.int (85 : Int32)), .val (.ref w_UPDATE_BEFORE), .val (.ref b104), .unset, .unset]) rfl ?_
            show Steps p.tables e below (T104.setTop (mkF m 153 #[.val (.int p1), .val (.int p2), .val (.int p3), .val (.int (45 : Int32)), .val (.int (85 : Int32)), .val (.ref w_UPDATE_BEFORE), .val (.ref b104), .unset, .unset] [])) _
            refine XS.aload X104.here hx rfl (hb hby at_153) rfl rfl ?_
            show Steps p.tables e below (T104.setTop (mkF m 155 #[.val (.int p1), .val (.int p2), .val (.int p3), .val (.int (45 : Int32)), .val (.int (85 : Int32)), .val (.ref w_UPDATE_BEFORE), .val (.ref b104), .unset, .unset] [(.ref b104)])) _
            refine XS.iconst X104.here hx rfl (hb hby at_155) ?_
            show Steps p.tables e below (T104.setTop (mkF m 156 #[.val (.int p1), .val (.int p2), .val (.int p3), .val (.int (45 : Int32)), .val (.int (85 : Int32)), .val (.ref w_UPDATE_BEFORE), .val (.ref b104), .unset, .unset] [(.int (0 : Int32)), (.ref b104)])) _
            refine XS.iloadN X104.here hx rfl (hb hby at_156) rfl ?_
            show Steps p.tables e below (T104.setTop (mkF m 157 #[.val (.int p1), .val (.int p2), .val (.int p3), .val (.int (45 : Int32)), .val (.int (85 : Int32)), .val (.ref w_UPDATE_BEFORE), .val (.ref b104), .unset, .unset] [(.int (45 : Int32)), (.int (0 : Int32)), (.ref b104)])) _
            refine st106 _ ?_
            show Steps p.tables e below (T106.setTop (mkF m 158 #[.val (.int p1), .val (.int p2), .val (.int p3), .val (.int (45 : Int32)), .val (.int (85 : Int32)), .val (.ref w_UPDATE_BEFORE), .val (.ref b104), .unset, .unset] [])) _
            refine XS.aload X106.here hx rfl (hb hby at_158) rfl rfl ?_
            show Steps p.tables e below (T106.setTop (mkF m 160 #[.val (.int p1), .val (.int p2), .val (.int p3), .val (.int (45 : Int32)), .val (.int (85 : Int32)), .val (.ref w_UPDATE_BEFORE), .val (.ref b104), .unset, .unset] [(.ref b104)])) _
            refine XS.iconst X106.here hx rfl (hb hby at_160) ?_
            show Steps p.tables e below (T106.setTop (mkF m 161 #[.val (.int p1), .val (.int p2), .val (.int p3), .val (.int (45 : Int32)), .val (.int (85 : Int32)), .val (.ref w_UPDATE_BEFORE), .val (.ref b104), .unset, .unset] [(.int (1 : Int32)), (.ref b104)])) _
            refine XS.iload X106.here hx rfl (hb hby at_161) rfl ?_
            show Steps p.tables e below (T106.setTop (mkF m 163 #[.val (.int p1), .val (.int p2), .val (.int p3), .val (.int (45 : Int32)), .val (.int (85 : Int32)), .val (.ref w_UPDATE_BEFORE), .val (.ref b104), .unset, .unset] [(.int (85 : Int32)), (.int (1 : Int32)), (.ref b104)])) _
            refine st108 _ ?_
            show Steps p.tables e below (T108.setTop (mkF m 164 #[.val (.int p1), .val (.int p2), .val (.int p3), .val (.int (45 : Int32)), .val (.int (85 : Int32)), .val (.ref w_UPDATE_BEFORE), .val (.ref b104), .unset, .unset] [])) _
            refine st109 _ ?_
            show Steps p.tables e below (T109.setTop (mkF m 167 #[.val (.int p1), .val (.int p2), .val (.int p3), .val (.int (45 : Int32)), .val (.int (85 : Int32)), .val (.ref w_UPDATE_BEFORE), .val (.ref b104), .unset, .unset] [(.ref b109)])) _
            refine XS.dup X109.here hx rfl (hb hby at_167) rfl rfl ?_
            show Steps p.tables e below (T109.setTop (mkF m 168 #[.val (.int p1), .val (.int p2), .val (.int p3), .val (.int (45 : Int32)), .val (.int (85 : Int32)), .val (.ref w_UPDATE_BEFORE), .val (.ref b104), .unset, .unset] [(.ref b109), (.ref b109)])) _
            refine XS.aload X109.here hx rfl (hb hby at_168) rfl rfl ?_
            show Steps p.tables e below (T109.setTop (mkF m 170 #[.val (.int p1), .val (.int p2), .val (.int p3), .val (.int (45 : Int32)), .val (.int (85 : Int32)), .val (.ref w_UPDATE_BEFORE), .val (.ref b104), .unset, .unset] [(.ref b104), (.ref b109), (.ref b109)])) _
            refine st110.trans ?_
            show Steps p.tables e below (T110.setTop (mkF m 173 #[.val (.int p1), .val (.int p2), .val (.int p3), .val (.int (45 : Int32)), .val (.int (85 : Int32)), .val (.ref w_UPDATE_BEFORE), .val (.ref b104), .unset, .unset] [(.ref b109)])) _
            refine XS.astore X110.here hx rfl (hb hby at_173) rfl rfl (l' := #[.val (.int p1), .val (.int p2), .val (.int p3), .val (.int (45 : Int32)), .val (.int (85 : Int32)), .val (.ref w_UPDATE_BEFORE), .val (.ref b104), .val (.ref b109), .unset]) rfl ?_
            show Steps p.tables e below (T110.setTop (mkF m 175 #[.val (.int p1), .val (.int p2), .val (.int p3), .val (.int (45 : Int32)), .val (.int (85 : Int32)), .val (.ref w_UPDATE_BEFORE), .val (.ref b104), .val (.ref b109), .unset] [])) _
            refine XS.aload X110.here hx rfl (hb hby at_175) rfl rfl ?_
            show Steps p.tables e below (T110.setTop (mkF m 177 #[.val (.int p1), .val (.int p2), .val (.int p3), .val (.int (45 : Int32)), .val (.int (85 : Int32)), .val (.ref w_UPDATE_BEFORE), .val (.ref b104), .val (.ref b109), .unset] [(.ref b109)])) _
            refine st111 _ ?_
            show Steps p.tables e below (T111.setTop (mkF m 180 #[.val (.int p1), .val (.int p2), .val (.int p3), .val (.int (45 : Int32)), .val (.int (85 : Int32)), .val (.ref w_UPDATE_BEFORE), .val (.ref b104), .val (.ref b109), .unset] [(.ref w_UPDATE_BEFORE)])) _
            refine XS.astore X111.here hx rfl (hb hby at_180) rfl rfl (l' := #[.val (.int p1), .val (.int p2), .val (.int p3), .val (.int (45 : Int32)), .val (.int (85 : Int32)), .val (.ref w_UPDATE_BEFORE), .val (.ref b104), .val (.ref b109), .val (.ref w_UPDATE_BEFORE)]) rfl ?_
            show Steps p.tables e below (T111.setTop (mkF m 182 #[.val (.int p1), .val (.int p2), .val (.int p3), .val (.int (45 : Int32)), .val (.int (85 : Int32)), .val (.ref w_UPDATE_BEFORE), .val (.ref b104), .val (.ref b109), .val (.ref w_UPDATE_BEFORE)] [])) _
            refine XS.aload X111.here hx rfl (hb hby at_182) rfl rfl ?_
            show Steps p.tables e below (T111.setTop (mkF m 184 #[.val (.int p1), .val (.int p2), .val (.int p3), .val (.int (45 : Int32)), .val (.int (85 : Int32)), .val (.ref w_UPDATE_BEFORE), .val (.ref b104), .val (.ref b109), .val (.ref w_UPDATE_BEFORE)] [(.ref w_UPDATE_BEFORE)])) _
            refine XS.aload X111.here hx rfl (hb hby at_184) rfl rfl ?_
            show Steps p.tables e below (T111.setTop (mkF m 186 #[.val (.int p1), .val (.int p2), .val (.int p3), .val (.int (45 : Int32)), .val (.int (85 : Int32)), .val (.ref w_UPDATE_BEFORE), .val (.ref b104), .val (.ref b109), .val (.ref w_UPDATE_BEFORE)] [(.ref w_UPDATE_BEFORE), (.ref w_UPDATE_BEFORE)])) _
            refine Jvm.RoadKit.acmp (g := (mkF m 186 #[.val (.int p1), .val (.int p2), .val (.int p3), .val (.int (45 : Int32)), .val (.int (85 : Int32)), .val (.ref w_UPDATE_BEFORE), .val (.ref b104), .val (.ref b109), .val (.ref w_UPDATE_BEFORE)] [(.ref w_UPDATE_BEFORE), (.ref w_UPDATE_BEFORE)])) X111 hx rfl rfl rfl (pc0 := 186) (pc' := 189) (same := true) rfl (hb hby at_186) rfl (decide_eq_true (congrArg Value.ref rfl)) (by decide) (by decide) ?_
            show Steps p.tables e below (T111.setTop (mkF m 189 #[.val (.int p1), .val (.int p2), .val (.int p3), .val (.int (45 : Int32)), .val (.int (85 : Int32)), .val (.ref w_UPDATE_BEFORE), .val (.ref b104), .val (.ref b109), .val (.ref w_UPDATE_BEFORE)] [])) _
            refine XS.aload X111.here hx rfl (hb hby at_189) rfl rfl ?_
            show Steps p.tables e below (T111.setTop (mkF m 191 #[.val (.int p1), .val (.int p2), .val (.int p3), .val (.int (45 : Int32)), .val (.int (85 : Int32)), .val (.ref w_UPDATE_BEFORE), .val (.ref b104), .val (.ref b109), .val (.ref w_UPDATE_BEFORE)] [(.ref w_UPDATE_BEFORE)])) _
            refine st112.trans ?_
            show Steps p.tables e below (T112.setTop (mkF m 194 #[.val (.int p1), .val (.int p2), .val (.int p3), .val (.int (45 : Int32)), .val (.int (85 : Int32)), .val (.ref w_UPDATE_BEFORE), .val (.ref b104), .val (.ref b109), .val (.ref w_UPDATE_BEFORE)] [(.ref w_UPDATE_BEFORE_shortName)])) _
            refine XS.aload X112.here hx rfl (hb hby at_194) rfl rfl ?_
            show Steps p.tables e below (T112.setTop (mkF m 196 #[.val (.int p1), .val (.int p2), .val (.int p3), .val (.int (45 : Int32)), .val (.int (85 : Int32)), .val (.ref w_UPDATE_BEFORE), .val (.ref b104), .val (.ref b109), .val (.ref w_UPDATE_BEFORE)] [(.ref b109), (.ref w_UPDATE_BEFORE_shortName)])) _
            refine st113.trans ?_
            show Steps p.tables e below (T113.setTop (mkF m 199 #[.val (.int p1), .val (.int p2), .val (.int p3), .val (.int (45 : Int32)), .val (.int (85 : Int32)), .val (.ref w_UPDATE_BEFORE), .val (.ref b104), .val (.ref b109), .val (.ref w_UPDATE_BEFORE)] [(.int (1 : Int32))])) _
            refine XS.ifNo X113.here hx rfl (hb hby at_199) rfl ((if0 _ _).trans (feq (by decide : ¬ ((1 : Int32) = (0 : Int32)))).1) ?_
            show Steps p.tables e below (T113.setTop (mkF m 202 #[.val (.int p1), .val (.int p2), .val (.int p3), .val (.int (45 : Int32)), .val (.int (85 : Int32)), .val (.ref w_UPDATE_BEFORE), .val (.ref b104), .val (.ref b109), .val (.ref w_UPDATE_BEFORE)] [])) _
            refine XS.iconst X113.here hx rfl (hb hby at_202) ?_
            show Steps p.tables e below (T113.setTop (mkF m 203 #[.val (.int p1), .val (.int p2), .val (.int p3), .val (.int (45 : Int32)), .val (.int (85 : Int32)), .val (.ref w_UPDATE_BEFORE), .val (.ref b104), .val (.ref b109), .val (.ref w_UPDATE_BEFORE)] [(.int (1 : Int32))])) _
            refine XS.goto X113.here hx rfl (pc0 := 203) (pc' := 207) rfl (hb hby at_203) (by decide) (by decide) ?_
            show Steps p.tables e below (T113.setTop (mkF m 207 #[.val (.int p1), .val (.int p2), .val (.int p3), .val (.int (45 : Int32)), .val (.int (85 : Int32)), .val (.ref w_UPDATE_BEFORE), .val (.ref b104), .val (.ref b109), .val (.ref w_UPDATE_BEFORE)] [(.int (1 : Int32))])) _
            exact retN X113 hx (t := .boolean) Bd.returns (by simp) (hb hby at_207) hr
          · show Q0 Z p1 p2 p3 w__VALUES kV w_INSERT w_UPDATE_BEFORE w_UPDATE_AFTER w_DELETE w_INSERT_shortName w_INSERT_shortName_value k_INSERT w_UPDATE_BEFORE_shortName w_UPDATE_BEFORE_shortName_value k_UPDATE_BEFORE w_UPDATE_AFTER_shortName w_UPDATE_AFTER_shortName_value k_UPDATE_AFTER w_DELETE_shortName w_DELETE_shortName_value k_DELETE w_COMPACT_STRINGS h0 n0 _ T113.heap _
            rw [e113]
            exact ⟨by rw [res0, if_neg hc3_2, if_neg hc75_72, if_pos hc111_100, if_pos hc118_102], N113⟩
        · have pre114 : ∀ t, Steps p.tables e below (s₁.setTop (mkF m 133 #[.val (.int p1), .val (.int p2), .val (.int p3), .val (.int (45 : Int32)), .val (.int (mg0_32_s0 p2)), .val .null, .unset, .unset, .unset] [(.int (68 : Int32)), (.int (mg0_32_s0 p2))])) t → Steps p.tables e below (s₁.setTop (entryFrame m #[(.int p1), (.int p2), (.int p3)] maxLocals)) t := by
            intro t kt
            refine pre101 _ ?_
            show Steps p.tables e below (s₁.setTop (mkF m 118 #[.val (.int p1), .val (.int p2), .val (.int p3), .val (.int (45 : Int32)), .val (.int (mg0_32_s0 p2)), .val .null, .unset, .unset, .unset] [(.int (85 : Int32)), (.int (mg0_32_s0 p2))])) _
            refine XS.icmpYes X0.here hx rfl (pc0 := 118) (pc' := 129) rfl (hb hby at_118) rfl (feq hc118_102).2 (by decide) (by decide) ?_
            show Steps p.tables e below (s₁.setTop (mkF m 129 #[.val (.int p1), .val (.int p2), .val (.int p3), .val (.int (45 : Int32)), .val (.int (mg0_32_s0 p2)), .val .null, .unset, .unset, .unset] [])) _
            refine XS.iload X0.here hx rfl (hb hby at_129) rfl ?_
            show Steps p.tables e below (s₁.setTop (mkF m 131 #[.val (.int p1), .val (.int p2), .val (.int p3), .val (.int (45 : Int32)), .val (.int (mg0_32_s0 p2)), .val .null, .unset, .unset, .unset] [(.int (mg0_32_s0 p2))])) _
            refine XS.bipush X0.here hx rfl (hb hby at_131) ?_
            exact kt
          by_cases hc133_115 : (mg0_32_s0 p2) = (68 : Int32)
          · rw [hc133_115] at pre114
            obtain ⟨T116, X116, e116, st116⟩ := getS2 X0 hx hZ hown (host := "") (Or.inl (hw _ (List.mem_of_getElem? (i := 76) rfl))) Via.refl e0 S_DELETE (g := (mkF m 136 #[.val (.int p1), .val (.int p2), .val (.int p3), .val (.int (45 : Int32)), .val (.int (68 : Int32)), .val .null, .unset, .unset, .unset] [])) rfl (hb hby at_136)
            obtain ⟨T117, h117, k117, X117, e117, E117, A117, st117⟩ := newP X116 hx hZ (hw _ (List.mem_of_getElem? (i := 7) rfl)) e116 (g := (mkF m 149 #[.val (.int p1), .val (.int p2), .val (.int p3), .val (.int (45 : Int32)), .val (.int (68 : Int32)), .val (.ref w_DELETE), .unset, .unset, .unset] [(.int (2 : Int32))])) rfl (hb hby at_149) rfl (by decide) (cap := 2) (by decide) (by decide) (by decide) (by decide)
            obtain ⟨b117, g117⟩ : ∃ z, z = h0.size := ⟨_, rfl⟩
            rw [← g117] at A117 st117
            have sz_b117 : h0.size ≤ b117 := Nat.le_trans (Keep.refl h0 []).1 (Nat.le_of_eq g117.symm)
            have g_b117 : n0 ≤ b117 := Nat.le_trans Z0 sz_b117
            have K117 : Keep h0 h117 [] := (Keep.refl h0 []).ext E117
            have V_b117 : Arv Z h117 b117 k117 .char (2 : Int32) [(.int (0 : Int32)), (.int (0 : Int32))] (.int (0 : Int32)) := (Arv.new A117 (by decide)).pad (pad_rep [] (.int (0 : Int32)) 2)
            obtain ⟨cl_b117_157_118, Ar_b117_157_118, q_b117_157_118, S_b117_157_118, N_b117_157_118, H_b117_157_118, G_b117_157_118⟩ := id V_b117
            have hin_b117_157_118 : ¬ ((0 : Int32) < 0 ∨ cl_b117_157_118.slots.size ≤ ((0 : Int32) : Int32).toNatClampNeg) := inb_of S_b117_157_118 ⟨by decide, by decide⟩
            obtain ⟨T119, h119, X119, e119, W119, st119⟩ := stC X117 hx hZ e117 Ar_b117_157_118 (j := (0 : Int32)) hin_b117_157_118 (g := (mkF m 157 #[.val (.int p1), .val (.int p2), .val (.int p3), .val (.int (45 : Int32)), .val (.int (68 : Int32)), .val (.ref w_DELETE), .val (.ref b117), .unset, .unset] [(.int (45 : Int32)), (.int (0 : Int32)), (.ref b117)])) rfl rfl (hb hby at_157)
            have V_b117_157_118 : Arv Z h119 b117 k117 .char (2 : Int32) [(.int (45 : Int32)), (.int (0 : Int32))] (.int (0 : Int32)) := Arv.set Ar_b117_157_118 q_b117_157_118 S_b117_157_118 N_b117_157_118 H_b117_157_118 G_b117_157_118 (fits_nar_char _) W119 0 rfl (Nat.le_of_ble_eq_true rfl)
            have K119 : Keep h0 h119 [] := K117.wr W119 (Or.inr sz_b117)
            have N119 := Fr.snoc X119 N0 g_b117
            obtain ⟨cl_b117_163_120, Ar_b117_163_120, q_b117_163_120, S_b117_163_120, N_b117_163_120, H_b117_163_120, G_b117_163_120⟩ := id V_b117_157_118
            have hin_b117_163_120 : ¬ ((1 : Int32) < 0 ∨ cl_b117_163_120.slots.size ≤ ((1 : Int32) : Int32).toNatClampNeg) := inb_of S_b117_163_120 ⟨by decide, by decide⟩
            obtain ⟨T121, h121, X121, e121, W121, st121⟩ := stC X119 hx hZ e119 Ar_b117_163_120 (j := (1 : Int32)) hin_b117_163_120 (g := (mkF m 163 #[.val (.int p1), .val (.int p2), .val (.int p3), .val (.int (45 : Int32)), .val (.int (68 : Int32)), .val (.ref w_DELETE), .val (.ref b117), .unset, .unset] [(.int (68 : Int32)), (.int (1 : Int32)), (.ref b117)])) rfl rfl (hb hby at_163)
            have V_b117_163_120 : Arv Z h121 b117 k117 .char (2 : Int32) [(.int (45 : Int32)), (.int (68 : Int32))] (.int (0 : Int32)) := Arv.set Ar_b117_163_120 q_b117_163_120 S_b117_163_120 N_b117_163_120 H_b117_163_120 G_b117_163_120 (fits_nar_char _) W121 1 rfl (Nat.le_of_ble_eq_true rfl)
            have K121 : Keep h0 h121 [] := K119.wr W121 (Or.inr sz_b117)
            have N121 := Fr.snoc X121 N119 g_b117
            obtain ⟨T122, h122, X122, e122, E122, A122, D122, -, st122⟩ := newO X121 hx hZ hown (hw _ (List.mem_of_getElem? (i := 8) rfl)) (hw _ (List.mem_of_getElem? (i := 9) rfl)) (hw _ (List.mem_of_getElem? (i := 10) rfl)) e121 (g := (mkF m 164 #[.val (.int p1), .val (.int p2), .val (.int p3), .val (.int (45 : Int32)), .val (.int (68 : Int32)), .val (.ref w_DELETE), .val (.ref b117), .unset, .unset] [])) rfl (hb hby at_164) (by decide) (by decide)
            obtain ⟨b122, g122⟩ : ∃ z, z = h121.size := ⟨_, rfl⟩
            rw [← g122] at A122 D122 st122
            have sz_b122 : h0.size ≤ b122 := Nat.le_trans K121.1 (Nat.le_of_eq g122.symm)
            have g_b122 : n0 ≤ b122 := Nat.le_trans Z0 sz_b122
            have K122 : Keep h0 h122 [] := K121.ext E122
            have F_coder_b122 : Fld Z h122 b122 "java/lang/String" "coder" "B" (.int (0 : Int32)) := D122 (Or.inr (hw _ (List.mem_of_getElem? (i := 34) rfl))) (ty := .byte) (by decide)
            have F_value_b122 : Fld Z h122 b122 "java/lang/String" "value" "[B" .null := D122 (Or.inr (hw _ (List.mem_of_getElem? (i := 36) rfl))) (ty := (.array .byte)) (by decide)
            obtain ⟨_, _, ⟨T123, L123, k123, n123⟩, -, X123, ⟨Lc123, hQ123, l123, y123, z123⟩, st123⟩ := X122.specialBack hx (y := (⟨"java/lang/String", "<init>", "([C)V"⟩ : MethodName)) rfl hown (mvT hZ (hw _ (List.mem_of_getElem? (i := 11) rfl))) (mvT hZ (hw _ (List.mem_of_getElem? (i := 12) rfl))) (mvT hZ (hw _ (List.mem_of_getElem? (i := 13) rfl))) (by decide) (backOf (W := 1) (rm_ini1_2 l Z a0 hw [] b122 b117 k117 (45 : Int32) (68 : Int32) w_COMPACT_STRINGS (.int (0 : Int32)) .null h122 n0 (Nat.le_trans Z0 K122.1) (V_b117_163_120.ext E122) ((((S_COMPACT_STRINGS.ext E117).wr W119).wr W121).ext E122) A122 F_coder_b122 g_b122 F_value_b122 (by decide : ¬ ((255 : Int32) < (45 : Int32))) (by decide : ¬ ((255 : Int32) < (68 : Int32))) (hCS : ¬ (w_COMPACT_STRINGS = (0 : Int32)))) hZ (hw _ (List.mem_of_getElem? (i := 13) rfl)) (hw _ (List.mem_of_getElem? (i := 10) rfl)) (by decide) (by decide)) (g := (mkF m 170 #[.val (.int p1), .val (.int p2), .val (.int p3), .val (.int (45 : Int32)), .val (.int (68 : Int32)), .val (.ref w_DELETE), .val (.ref b117), .unset, .unset] [(.ref b117), (.ref b122), (.ref b122)])) rfl (by rw [hml]; rfl) (Steps.refl _) (a := b122) (argsL := [(.ref b117)]) (rest := [(.ref b122)]) (lenOf pd8 rfl) rfl (by show 2 * 0 + _ ≤ _; exact Nat.le_of_eq rfl) (hb hby at_170) (fun _ _ => ⟨rfl, e122, (by decide : 2 + 1 ≤ _), (by decide : 6 + 2 ≤ _)⟩)
            dsimp only [Pt.U, Pt.locs, Pt.cells, Pt.slots] at X123 l123 y123 z123 st123 hQ123
            subst l123 y123 z123
            obtain ⟨b1_3_2_123, k1_3_2_123, rfl, N123q, K123, s123_b1_3_2, f123_0, f123_1, f123_2, f123_3⟩ := hQ123
            have N123 := Fr.app N121 N123q
            have sz_b1_3_2_123 : h0.size ≤ b1_3_2_123 := Nat.le_trans K122.1 s123_b1_3_2
            have g_b1_3_2_123 : n0 ≤ b1_3_2_123 := Nat.le_trans Z0 sz_b1_3_2_123
            have KK123 : Keep h0 T123.heap [] := K122.trans K123 (allS (Or.inr sz_b122) all0)
            obtain ⟨_, _, ⟨T124, L124, k124, n124⟩, -, X124, ⟨Lc124, hQ124, l124, y124, z124⟩, st124⟩ := Jvm.LawKit.callS X123 hx (y := (⟨"com/example/tidemark/tidemark/table/RowKind", "fromShortName", "(Ljava/lang/String;)Lcom/example/tidemark/tidemark/table/RowKind;"⟩ : MethodName)) hown (mvT hZ (hw _ (List.mem_of_getElem? (i := 37) rfl))) (mvT hZ (hw _ (List.mem_of_getElem? (i := 38) rfl))) (mvT hZ (hw _ (List.mem_of_getElem? (i := 5) rfl))) (mvT hZ (hw _ (List.mem_of_getElem? (i := 39) rfl))) (by decide) (backOf (W := 0) (rm8 l Z a0 hw [] b122 w__VALUES kV w_INSERT w_UPDATE_BEFORE w_UPDATE_AFTER w_DELETE w_INSERT_shortName w_INSERT_shortName_value k_INSERT w_UPDATE_BEFORE_shortName w_UPDATE_BEFORE_shortName_value k_UPDATE_BEFORE w_UPDATE_AFTER_shortName w_UPDATE_AFTER_shortName_value k_UPDATE_AFTER w_DELETE_shortName w_DELETE_shortName_value k_DELETE b1_3_2_123 k1_3_2_123 (nar .byte ((45 : Int32).toInt8.toInt32)) (nar .byte ((68 : Int32).toInt8.toInt32)) w_COMPACT_STRINGS T123.heap n0 (Nat.le_trans Z0 KK123.1) (own_sta_keep ((((S__VALUES.ext E117).wr W119).wr W121).ext E122) K123 (allS (own_exa_ns A122) all0)) (((((E_w__VALUES.ext E117).wr W119).wr W121).ext E122).keep K123) (((((V_w__VALUES.ext E117).other W119 (Nat.ne_of_lt (Nat.lt_of_lt_of_le E_w__VALUES.lt (Nat.le_of_eq g117.symm)))).other W121 (Nat.ne_of_lt (Nat.lt_of_lt_of_le E_w__VALUES.lt (Nat.le_of_eq g117.symm)))).ext E122).keep K123 (ninS (Nat.ne_of_lt (Nat.lt_of_lt_of_le (((E_w__VALUES.ext E117).wr W119).wr W121).lt (Nat.le_of_eq g122.symm))) nin0)) (((((F_shortName_w_INSERT.ext E117).other W119 (Or.inl (Nat.ne_of_lt (Nat.lt_of_lt_of_le E_w_INSERT.lt (Nat.le_of_eq g117.symm))))).other W121 (Or.inl (Nat.ne_of_lt (Nat.lt_of_lt_of_le E_w_INSERT.lt (Nat.le_of_eq g117.symm))))).ext E122).keep K123 (ninS (Nat.ne_of_lt (Nat.lt_of_lt_of_le (((E_w_INSERT.ext E117).wr W119).wr W121).lt (Nat.le_of_eq g122.symm))) nin0)) (((((E_w_INSERT_shortName.ext E117).wr W119).wr W121).ext E122).keep K123) (((((F_coder_w_INSERT_shortName.ext E117).other W119 (Or.inl (Nat.ne_of_lt (Nat.lt_of_lt_of_le E_w_INSERT_shortName.lt (Nat.le_of_eq g117.symm))))).other W121 (Or.inl (Nat.ne_of_lt (Nat.lt_of_lt_of_le E_w_INSERT_shortName.lt (Nat.le_of_eq g117.symm))))).ext E122).keep K123 (ninS (Nat.ne_of_lt (Nat.lt_of_lt_of_le (((E_w_INSERT_shortName.ext E117).wr W119).wr W121).lt (Nat.le_of_eq g122.symm))) nin0)) (((((F_value_w_INSERT_shortName.ext E117).other W119 (Or.inl (Nat.ne_of_lt (Nat.lt_of_lt_of_le E_w_INSERT_shortName.lt (Nat.le_of_eq g117.symm))))).other W121 (Or.inl (Nat.ne_of_lt (Nat.lt_of_lt_of_le E_w_INSERT_shortName.lt (Nat.le_of_eq g117.symm))))).ext E122).keep K123 (ninS (Nat.ne_of_lt (Nat.lt_of_lt_of_le (((E_w_INSERT_shortName.ext E117).wr W119).wr W121).lt (Nat.le_of_eq g122.symm))) nin0)) (((((V_w_INSERT_shortName_value.ext E117).other W119 (Nat.ne_of_lt (Nat.lt_of_lt_of_le V_w_INSERT_shortName_value.lt (Nat.le_of_eq g117.symm)))).other W121 (Nat.ne_of_lt (Nat.lt_of_lt_of_le V_w_INSERT_shortName_value.lt (Nat.le_of_eq g117.symm)))).ext E122).keep K123 (ninS (Nat.ne_of_lt (Nat.lt_of_lt_of_le (((V_w_INSERT_shortName_value.ext E117).other W119 (Nat.ne_of_lt (Nat.lt_of_lt_of_le V_w_INSERT_shortName_value.lt (Nat.le_of_eq g117.symm)))).other W121 (Nat.ne_of_lt (Nat.lt_of_lt_of_le V_w_INSERT_shortName_value.lt (Nat.le_of_eq g117.symm)))).lt (Nat.le_of_eq g122.symm))) nin0)) (((((F_shortName_w_UPDATE_BEFORE.ext E117).other W119 (Or.inl (Nat.ne_of_lt (Nat.lt_of_lt_of_le E_w_UPDATE_BEFORE.lt (Nat.le_of_eq g117.symm))))).other W121 (Or.inl (Nat.ne_of_lt (Nat.lt_of_lt_of_le E_w_UPDATE_BEFORE.lt (Nat.le_of_eq g117.symm))))).ext E122).keep K123 (ninS (Nat.ne_of_lt (Nat.lt_of_lt_of_le (((E_w_UPDATE_BEFORE.ext E117).wr W119).wr W121).lt (Nat.le_of_eq g122.symm))) nin0)) (((((E_w_UPDATE_BEFORE_shortName.ext E117).wr W119).wr W121).ext E122).keep K123) (((((F_coder_w_UPDATE_BEFORE_shortName.ext E117).other W119 (Or.inl (Nat.ne_of_lt (Nat.lt_of_lt_of_le E_w_UPDATE_BEFORE_shortName.lt (Nat.le_of_eq g117.symm))))).other W121 (Or.inl (Nat.ne_of_lt (Nat.lt_of_lt_of_le E_w_UPDATE_BEFORE_shortName.lt (Nat.le_of_eq g117.symm))))).ext E122).keep K123 (ninS (Nat.ne_of_lt (Nat.lt_of_lt_of_le (((E_w_UPDATE_BEFORE_shortName.ext E117).wr W119).wr W121).lt (Nat.le_of_eq g122.symm))) nin0)) (((((F_value_w_UPDATE_BEFORE_shortName.ext E117).other W119 (Or.inl (Nat.ne_of_lt (Nat.lt_of_lt_of_le E_w_UPDATE_BEFORE_shortName.lt (Nat.le_of_eq g117.symm))))).other W121 (Or.inl (Nat.ne_of_lt (Nat.lt_of_lt_of_le E_w_UPDATE_BEFORE_shortName.lt (Nat.le_of_eq g117.symm))))).ext E122).keep K123 (ninS (Nat.ne_of_lt (Nat.lt_of_lt_of_le (((E_w_UPDATE_BEFORE_shortName.ext E117).wr W119).wr W121).lt (Nat.le_of_eq g122.symm))) nin0)) (((((V_w_UPDATE_BEFORE_shortName_value.ext E117).other W119 (Nat.ne_of_lt (Nat.lt_of_lt_of_le V_w_UPDATE_BEFORE_shortName_value.lt (Nat.le_of_eq g117.symm)))).other W121 (Nat.ne_of_lt (Nat.lt_of_lt_of_le V_w_UPDATE_BEFORE_shortName_value.lt (Nat.le_of_eq g117.symm)))).ext E122).keep K123 (ninS (Nat.ne_of_lt (Nat.lt_of_lt_of_le (((V_w_UPDATE_BEFORE_shortName_value.ext E117).other W119 (Nat.ne_of_lt (Nat.lt_of_lt_of_le V_w_UPDATE_BEFORE_shortName_value.lt (Nat.le_of_eq g117.symm)))).other W121 (Nat.ne_of_lt (Nat.lt_of_lt_of_le V_w_UPDATE_BEFORE_shortName_value.lt (Nat.le_of_eq g117.symm)))).lt (Nat.le_of_eq g122.symm))) nin0)) (((((F_shortName_w_UPDATE_AFTER.ext E117).other W119 (Or.inl (Nat.ne_of_lt (Nat.lt_of_lt_of_le E_w_UPDATE_AFTER.lt (Nat.le_of_eq g117.symm))))).other W121 (Or.inl (Nat.ne_of_lt (Nat.lt_of_lt_of_le E_w_UPDATE_AFTER.lt (Nat.le_of_eq g117.symm))))).ext E122).keep K123 (ninS (Nat.ne_of_lt (Nat.lt_of_lt_of_le (((E_w_UPDATE_AFTER.ext E117).wr W119).wr W121).lt (Nat.le_of_eq g122.symm))) nin0)) (((((E_w_UPDATE_AFTER_shortName.ext E117).wr W119).wr W121).ext E122).keep K123) (((((F_coder_w_UPDATE_AFTER_shortName.ext E117).other W119 (Or.inl (Nat.ne_of_lt (Nat.lt_of_lt_of_le E_w_UPDATE_AFTER_shortName.lt (Nat.le_of_eq g117.symm))))).other W121 (Or.inl (Nat.ne_of_lt (Nat.lt_of_lt_of_le E_w_UPDATE_AFTER_shortName.lt (Nat.le_of_eq g117.symm))))).ext E122).keep K123 (ninS (Nat.ne_of_lt (Nat.lt_of_lt_of_le (((E_w_UPDATE_AFTER_shortName.ext E117).wr W119).wr W121).lt (Nat.le_of_eq g122.symm))) nin0)) (((((F_value_w_UPDATE_AFTER_shortName.ext E117).other W119 (Or.inl (Nat.ne_of_lt (Nat.lt_of_lt_of_le E_w_UPDATE_AFTER_shortName.lt (Nat.le_of_eq g117.symm))))).other W121 (Or.inl (Nat.ne_of_lt (Nat.lt_of_lt_of_le E_w_UPDATE_AFTER_shortName.lt (Nat.le_of_eq g117.symm))))).ext E122).keep K123 (ninS (Nat.ne_of_lt (Nat.lt_of_lt_of_le (((E_w_UPDATE_AFTER_shortName.ext E117).wr W119).wr W121).lt (Nat.le_of_eq g122.symm))) nin0)) (((((V_w_UPDATE_AFTER_shortName_value.ext E117).other W119 (Nat.ne_of_lt (Nat.lt_of_lt_of_le V_w_UPDATE_AFTER_shortName_value.lt (Nat.le_of_eq g117.symm)))).other W121 (Nat.ne_of_lt (Nat.lt_of_lt_of_le V_w_UPDATE_AFTER_shortName_value.lt (Nat.le_of_eq g117.symm)))).ext E122).keep K123 (ninS (Nat.ne_of_lt (Nat.lt_of_lt_of_le (((V_w_UPDATE_AFTER_shortName_value.ext E117).other W119 (Nat.ne_of_lt (Nat.lt_of_lt_of_le V_w_UPDATE_AFTER_shortName_value.lt (Nat.le_of_eq g117.symm)))).other W121 (Nat.ne_of_lt (Nat.lt_of_lt_of_le V_w_UPDATE_AFTER_shortName_value.lt (Nat.le_of_eq g117.symm)))).lt (Nat.le_of_eq g122.symm))) nin0)) (((((F_shortName_w_DELETE.ext E117).other W119 (Or.inl (Nat.ne_of_lt (Nat.lt_of_lt_of_le E_w_DELETE.lt (Nat.le_of_eq g117.symm))))).other W121 (Or.inl (Nat.ne_of_lt (Nat.lt_of_lt_of_le E_w_DELETE.lt (Nat.le_of_eq g117.symm))))).ext E122).keep K123 (ninS (Nat.ne_of_lt (Nat.lt_of_lt_of_le (((E_w_DELETE.ext E117).wr W119).wr W121).lt (Nat.le_of_eq g122.symm))) nin0)) (((((E_w_DELETE_shortName.ext E117).wr W119).wr W121).ext E122).keep K123) (((((F_coder_w_DELETE_shortName.ext E117).other W119 (Or.inl (Nat.ne_of_lt (Nat.lt_of_lt_of_le E_w_DELETE_shortName.lt (Nat.le_of_eq g117.symm))))).other W121 (Or.inl (Nat.ne_of_lt (Nat.lt_of_lt_of_le E_w_DELETE_shortName.lt (Nat.le_of_eq g117.symm))))).ext E122).keep K123 (ninS (Nat.ne_of_lt (Nat.lt_of_lt_of_le (((E_w_DELETE_shortName.ext E117).wr W119).wr W121).lt (Nat.le_of_eq g122.symm))) nin0)) (((((F_value_w_DELETE_shortName.ext E117).other W119 (Or.inl (Nat.ne_of_lt (Nat.lt_of_lt_of_le E_w_DELETE_shortName.lt (Nat.le_of_eq g117.symm))))).other W121 (Or.inl (Nat.ne_of_lt (Nat.lt_of_lt_of_le E_w_DELETE_shortName.lt (Nat.le_of_eq g117.symm))))).ext E122).keep K123 (ninS (Nat.ne_of_lt (Nat.lt_of_lt_of_le (((E_w_DELETE_shortName.ext E117).wr W119).wr W121).lt (Nat.le_of_eq g122.symm))) nin0)) (((((V_w_DELETE_shortName_value.ext E117).other W119 (Nat.ne_of_lt (Nat.lt_of_lt_of_le V_w_DELETE_shortName_value.lt (Nat.le_of_eq g117.symm)))).other W121 (Nat.ne_of_lt (Nat.lt_of_lt_of_le V_w_DELETE_shortName_value.lt (Nat.le_of_eq g117.symm)))).ext E122).keep K123 (ninS (Nat.ne_of_lt (Nat.lt_of_lt_of_le (((V_w_DELETE_shortName_value.ext E117).other W119 (Nat.ne_of_lt (Nat.lt_of_lt_of_le V_w_DELETE_shortName_value.lt (Nat.le_of_eq g117.symm)))).other W121 (Nat.ne_of_lt (Nat.lt_of_lt_of_le V_w_DELETE_shortName_value.lt (Nat.le_of_eq g117.symm)))).lt (Nat.le_of_eq g122.symm))) nin0)) (A122.keep K123) f123_1 f123_2 f123_3 (own_sta_keep ((((S_COMPACT_STRINGS.ext E117).wr W119).wr W121).ext E122) K123 (allS (own_exa_ns A122) all0)) (hCS : ¬ (w_COMPACT_STRINGS = (0 : Int32))) (by decide : ((nar .byte ((45 : Int32).toInt8.toInt32)) = (43 : Int32) ∧ (nar .byte ((68 : Int32).toInt8.toInt32)) = (73 : Int32)) ∨ ((nar .byte ((45 : Int32).toInt8.toInt32)) = (45 : Int32) ∧ (nar .byte ((68 : Int32).toInt8.toInt32)) = (85 : Int32)) ∨ ((nar .byte ((45 : Int32).toInt8.toInt32)) = (43 : Int32) ∧ (nar .byte ((68 : Int32).toInt8.toInt32)) = (85 : Int32)) ∨ ((nar .byte ((45 : Int32).toInt8.toInt32)) = (45 : Int32) ∧ (nar .byte ((68 : Int32).toInt8.toInt32)) = (68 : Int32))) ((Nat.ne_of_lt (Nat.lt_of_lt_of_le (((E_w_INSERT_shortName.ext E117).wr W119).wr W121).lt (Nat.le_of_eq g122.symm))) : w_INSERT_shortName ≠ b122) ((Nat.ne_of_lt (Nat.lt_of_lt_of_le (((E_w_UPDATE_BEFORE_shortName.ext E117).wr W119).wr W121).lt (Nat.le_of_eq g122.symm))) : w_UPDATE_BEFORE_shortName ≠ b122) ((Nat.ne_of_lt (Nat.lt_of_lt_of_le (((E_w_UPDATE_AFTER_shortName.ext E117).wr W119).wr W121).lt (Nat.le_of_eq g122.symm))) : w_UPDATE_AFTER_shortName ≠ b122) ((Nat.ne_of_lt (Nat.lt_of_lt_of_le (((E_w_DELETE_shortName.ext E117).wr W119).wr W121).lt (Nat.le_of_eq g122.symm))) : w_DELETE_shortName ≠ b122)) hZ (hw _ (List.mem_of_getElem? (i := 39) rfl)) (hw _ (List.mem_of_getElem? (i := 5) rfl)) (by decide) (by decide)) (g := (mkF m 177 #[.val (.int p1), .val (.int p2), .val (.int p3), .val (.int (45 : Int32)), .val (.int (68 : Int32)), .val (.ref w_DELETE), .val (.ref b117), .val (.ref b122), .unset] [(.ref b122)])) rfl (by rw [hml]; rfl) (argsL := [(.ref b122)]) (rest := []) (lenOf pd9 rfl) rfl (by show 2 * 0 + _ ≤ _; exact Nat.le_of_eq rfl) (hb hby at_177) (fun _ _ => ⟨rfl, rfl, (by decide : 3 + 1 ≤ _), (by decide : 8 + 4 ≤ _)⟩)
            dsimp only [Pt.U, Pt.locs, Pt.cells, Pt.slots] at X124 l124 y124 z124 st124 hQ124
            subst l124 y124 z124
            obtain ⟨rfl, N124q, K124⟩ := hQ124
            have N124 := Fr.app N123 N124q
            have KK124 : Keep h0 T124.heap [] := KK123.trans K124 all0
            have ev124 : (res8 w_INSERT w_UPDATE_BEFORE w_UPDATE_AFTER w_DELETE (nar .byte ((45 : Int32).toInt8.toInt32)) (nar .byte ((68 : Int32).toInt8.toInt32))) = w_DELETE := by first | rfl | decide
            rw [ev124] at st124
            obtain ⟨cq125, kq125, q125a, q125b, q125c⟩ := isOf hZ rfl ((((((E_w_DELETE.ext E117).wr W119).wr W121).ext E122).keep K123).keep K124)
            obtain ⟨_, _, ⟨T125, L125, k125, n125⟩, -, X125, ⟨Lc125, hQ125, l125, y125, z125⟩, st125⟩ := X124.virtualBack hx (y := (⟨"com/example/tidemark/tidemark/table/RowKind", "shortName", "()Ljava/lang/String;"⟩ : MethodName)) (z := (⟨"com/example/tidemark/tidemark/table/RowKind", "shortName", "()Ljava/lang/String;"⟩ : MethodName)) hown (mvT hZ (hw _ (List.mem_of_getElem? (i := 70) rfl))) (mvT hZ (hw _ (List.mem_of_getElem? (i := 71) rfl))) (notFace_of_selects (args := #[]) (mvT hZ (hw _ (List.mem_of_getElem? (i := 73) rfl)))) (mvT hZ (hw _ (List.mem_of_getElem? (i := 73) rfl))) (mvT hZ (hw _ (List.mem_of_getElem? (i := 72) rfl))) (by decide) (backOf (W := 0) (rm12 l Z a0 hw [] w_DELETE w_DELETE_shortName T124.heap n0 (Nat.le_trans Z0 KK124.1) ((((((F_shortName_w_DELETE.ext E117).other W119 (Or.inl (Nat.ne_of_lt (Nat.lt_of_lt_of_le E_w_DELETE.lt (Nat.le_of_eq g117.symm))))).other W121 (Or.inl (Nat.ne_of_lt (Nat.lt_of_lt_of_le E_w_DELETE.lt (Nat.le_of_eq g117.symm))))).ext E122).keep K123 (ninS (Nat.ne_of_lt (Nat.lt_of_lt_of_le (((E_w_DELETE.ext E117).wr W119).wr W121).lt (Nat.le_of_eq g122.symm))) nin0)).keep K124 nin0) ) hZ (hw _ (List.mem_of_getElem? (i := 74) rfl)) (hw _ (List.mem_of_getElem? (i := 5) rfl)) (by decide) (by decide)) q125a q125c (g := (mkF m 191 #[.val (.int p1), .val (.int p2), .val (.int p3), .val (.int (45 : Int32)), .val (.int (68 : Int32)), .val (.ref w_DELETE), .val (.ref b117), .val (.ref b122), .val (.ref w_DELETE)] [(.ref w_DELETE)])) rfl (by rw [hml]; rfl) (Steps.refl _) (argsL := []) (rest := []) (lenOf pd10 rfl) rfl (by show 2 * 0 + _ ≤ _; exact Nat.le_of_eq rfl) (hb hby at_191) (fun _ _ => ⟨rfl, rfl, (by decide : 4 + 0 ≤ _), (by decide : 12 + 0 ≤ _)⟩)
            dsimp only [Pt.U, Pt.locs, Pt.cells, Pt.slots] at X125 l125 y125 z125 st125 hQ125
            subst l125 y125 z125
            obtain ⟨rfl, rfl, e125⟩ := hQ125
            have N125 := Fr.app N124 (Fr.nil n0)
            obtain ⟨cq126, kq126, q126a, q126b, q126c⟩ := isOf hZ e125 ((((((E_w_DELETE_shortName.ext E117).wr W119).wr W121).ext E122).keep K123).keep K124)
            obtain ⟨_, _, ⟨T126, L126, k126, n126⟩, -, X126, ⟨Lc126, hQ126, l126, y126, z126⟩, st126⟩ := X125.virtualBack hx (y := (⟨"java/lang/String", "equals", "(Ljava/lang/Object;)Z"⟩ : MethodName)) (z := (⟨"java/lang/String", "equals", "(Ljava/lang/Object;)Z"⟩ : MethodName)) hown (mvT hZ (hw _ (List.mem_of_getElem? (i := 75) rfl))) (mvT hZ (hw _ (List.mem_of_getElem? (i := 61) rfl))) (notFace_of_selects (args := #[]) (mvT hZ (hw _ (List.mem_of_getElem? (i := 63) rfl)))) (mvT hZ (hw _ (List.mem_of_getElem? (i := 63) rfl))) (mvT hZ (hw _ (List.mem_of_getElem? (i := 62) rfl))) (by decide) (backOf (W := 0) (rm_eq_2_2 l Z a0 hw [] w_DELETE_shortName b122 w_DELETE_shortName_value k_DELETE (45 : Int32) (68 : Int32) b1_3_2_123 k1_3_2_123 (nar .byte ((45 : Int32).toInt8.toInt32)) (nar .byte ((68 : Int32).toInt8.toInt32)) w_COMPACT_STRINGS T124.heap n0 (Nat.le_trans Z0 KK124.1) ((((((E_w_DELETE_shortName.ext E117).wr W119).wr W121).ext E122).keep K123).keep K124) ((((((F_coder_w_DELETE_shortName.ext E117).other W119 (Or.inl (Nat.ne_of_lt (Nat.lt_of_lt_of_le E_w_DELETE_shortName.lt (Nat.le_of_eq g117.symm))))).other W121 (Or.inl (Nat.ne_of_lt (Nat.lt_of_lt_of_le E_w_DELETE_shortName.lt (Nat.le_of_eq g117.symm))))).ext E122).keep K123 (ninS (Nat.ne_of_lt (Nat.lt_of_lt_of_le (((E_w_DELETE_shortName.ext E117).wr W119).wr W121).lt (Nat.le_of_eq g122.symm))) nin0)).keep K124 nin0) ((((((F_value_w_DELETE_shortName.ext E117).other W119 (Or.inl (Nat.ne_of_lt (Nat.lt_of_lt_of_le E_w_DELETE_shortName.lt (Nat.le_of_eq g117.symm))))).other W121 (Or.inl (Nat.ne_of_lt (Nat.lt_of_lt_of_le E_w_DELETE_shortName.lt (Nat.le_of_eq g117.symm))))).ext E122).keep K123 (ninS (Nat.ne_of_lt (Nat.lt_of_lt_of_le (((E_w_DELETE_shortName.ext E117).wr W119).wr W121).lt (Nat.le_of_eq g122.symm))) nin0)).keep K124 nin0) ((((((V_w_DELETE_shortName_value.ext E117).other W119 (Nat.ne_of_lt (Nat.lt_of_lt_of_le V_w_DELETE_shortName_value.lt (Nat.le_of_eq g117.symm)))).other W121 (Nat.ne_of_lt (Nat.lt_of_lt_of_le V_w_DELETE_shortName_value.lt (Nat.le_of_eq g117.symm)))).ext E122).keep K123 (ninS (Nat.ne_of_lt (Nat.lt_of_lt_of_le (((V_w_DELETE_shortName_value.ext E117).other W119 (Nat.ne_of_lt (Nat.lt_of_lt_of_le V_w_DELETE_shortName_value.lt (Nat.le_of_eq g117.symm)))).other W121 (Nat.ne_of_lt (Nat.lt_of_lt_of_le V_w_DELETE_shortName_value.lt (Nat.le_of_eq g117.symm)))).lt (Nat.le_of_eq g122.symm))) nin0)).keep K124 nin0) ((A122.keep K123).keep K124) (f123_1.keep K124 nin0) (f123_2.keep K124 nin0) (f123_3.keep K124 nin0) (own_sta_keep (own_sta_keep ((((S_COMPACT_STRINGS.ext E117).wr W119).wr W121).ext E122) K123 (allS (own_exa_ns A122) all0)) K124 all0) ((Nat.ne_of_lt (Nat.lt_of_lt_of_le (((E_w_DELETE_shortName.ext E117).wr W119).wr W121).lt (Nat.le_of_eq g122.symm))) : w_DELETE_shortName ≠ b122) (hCS : ¬ (w_COMPACT_STRINGS = (0 : Int32)))) hZ (hw _ (List.mem_of_getElem? (i := 64) rfl)) (hw _ (List.mem_of_getElem? (i := 10) rfl)) (by decide) (by decide)) q126a q126c (g := (mkF m 196 #[.val (.int p1), .val (.int p2), .val (.int p3), .val (.int (45 : Int32)), .val (.int (68 : Int32)), .val (.ref w_DELETE), .val (.ref b117), .val (.ref b122), .val (.ref w_DELETE)] [(.ref b122), (.ref w_DELETE_shortName)])) rfl (by rw [hml]; rfl) (Steps.refl _) (argsL := [(.ref b122)]) (rest := []) (lenOf pd6 rfl) rfl (by show 2 * 0 + _ ≤ _; exact Nat.le_of_eq rfl) (hb hby at_196) (fun _ _ => ⟨rfl, e125, (by decide : 4 + 0 ≤ _), (by decide : 12 + 0 ≤ _)⟩)
            dsimp only [Pt.U, Pt.locs, Pt.cells, Pt.slots] at X126 l126 y126 z126 st126 hQ126
            subst l126 y126 z126
            obtain ⟨rfl, rfl, e126⟩ := hQ126
            have N126 := Fr.app N125 (Fr.nil n0)
            have ev126 : (res_eq_2_2 (45 : Int32) (68 : Int32) (nar .byte ((45 : Int32).toInt8.toInt32)) (nar .byte ((68 : Int32).toInt8.toInt32))) = (1 : Int32) := by first | rfl | decide
            rw [ev126] at st126
            obtain ⟨fs, hr, hrun, hended, hW, hsame⟩ := X126.leave (v := some (.int (1 : Int32))) (fun h => by rw [Bd.returns] at h; cases h)
            refine ⟨_, _, pre114 _ ?_, hrun, hended, _, _, rfl, ?_, ⟨_, rfl⟩, hW, hsame.mono (by decide) (by decide)⟩
            · show Steps p.tables e below (s₁.setTop (mkF m 133 #[.val (.int p1), .val (.int p2), .val (.int p3), .val (.int (45 : Int32)), .val (.int (68 : Int32)), .val .null, .unset, .unset, .unset] [(.int (68 : Int32)), (.int (68 : Int32))])) _
              refine XS.icmpNo X0.here hx rfl (hb hby at_133) rfl (teq (rfl : (68 : Int32) = (68 : Int32))).2 ?_
              show Steps p.tables e below (s₁.setTop (mkF m 136 #[.val (.int p1), .val (.int p2), .val (.int p3), .val (.int (45 : Int32)), .val (.int (68 : Int32)), .val .null, .unset, .unset, .unset] [])) _
              refine st116 _ ?_
              show Steps p.tables e below (T116.setTop (mkF m 139 #[.val (.int p1), .val (.int p2), .val (.int p3), .val (.int (45 : Int32)), .val (.int (68 : Int32)), .val .null, .unset, .unset, .unset] [(.ref w_DELETE)])) _
              refine XS.astore X116.here hx rfl (hb hby at_139) rfl rfl (l' := #[.val (.int p1), .val (.int p2), .val (.int p3), .val (.int (45 : Int32)), .val (.int (68 : Int32)), .val (.ref w_DELETE), .unset, .unset, .unset]) rfl ?_
              show Steps p.tables e below (T116.setTop (mkF m 141 #[.val (.int p1), .val (.int p2), .val (.int p3), .val (.int (45 : Int32)), .val (.int (68 : Int32)), .val (.ref w_DELETE), .unset, .unset, .unset] [])) _
              refine XS.aload X116.here hx rfl (hb hby at_141) rfl rfl ?_
              show Steps p.tables e below (T116.setTop (mkF m 143 #[.val (.int p1), .val (.int p2), .val (.int p3), .val (.int (45 : Int32)), .val (.int (68 : Int32)), .val (.ref w_DELETE), .unset, .unset, .unset] [(.ref w_DELETE)])) _
              refine XS.ifnonnullYes X116.here hx rfl (pc0 := 143) (pc' := 148) rfl (hb hby at_143) rfl (by decide) (by decide) ?_
              show Steps p.tables e below (T116.setTop (mkF m 148 #[.val (.int p1), .val (.int p2), .val (.int p3), .val (.int (45 : Int32)), .val (.int (68 : Int32)), .val (.ref w_DELETE), .unset, .unset, .unset] [])) _
              refine XS.iconst X116.here hx rfl (hb hby at_148) ?_
              show Steps p.tables e below (T116.setTop (mkF m 149 #[.val (.int p1), .val (.int p2), .val (.int p3), .val (.int (45 : Int32)), .val (.int (68 : Int32)), .val (.ref w_DELETE), .unset, .unset, .unset] [(.int (2 : Int32))])) _
              refine st117 _ ?_
              show Steps p.tables e below (T117.setTop (mkF m 151 #[.val (.int p1), .val (.int p2), .val (.int p3), .val (.int (45 : Int32)), .val (.int (68 : Int32)), .val (.ref w_DELETE), .unset, .unset, .unset] [(.ref b117)])) _
              refine XS.astore X117.here hx rfl (hb hby at_151) rfl rfl (l' := #[.val (.int p1), .val (.int p2), .val (.int p3), .val (.int (45 : Int32)), .val (.int (68 : Int32)), .val (.ref w_DELETE), .val (.ref b117), .unset, .unset]) rfl ?_
              show Steps p.tables e below (T117.setTop (mkF m 153 #[.val (.int p1), .val (.int p2), .val (.int p3), .val (.int (45 : Int32)), .val (.int (68 : Int32)), .val (.ref w_DELETE), .val (.ref b117), .unset, .unset] [])) _
              refine XS.aload X117.here hx rfl (hb hby at_153) rfl rfl ?_
              show Steps p.tables e below (T117.setTop (mkF m 155 #[.val (.int p1), .val (.int p2), .val (.int p3), .val (.int (45 : Int32)), .val (.int (68 : Int32)), .val (.ref w_DELETE), .val (.ref b117), .unset, .unset] [(.ref b117)])) _
              refine XS.iconst X117.here hx rfl (hb hby at_155) ?_
              show Steps p.tables e below (T117.setTop (mkF m 156 #[.val (.int p1), .val (.int p2), .val (.int p3), .val (.int (45 : Int32)), .val (.int (68 : Int32)), .val (.ref w_DELETE), .val (.ref b117), .unset, .unset] [(.int (0 : Int32)), (.ref b117)])) _
              refine XS.iloadN X117.here hx rfl (hb hby at_156) rfl ?_
              show Steps p.tables e below (T117.setTop (mkF m 157 #[.val (.int p1), .val (.int p2), .val (.int p3), .val (.int (45 : Int32)), .val (.int (68 : Int32)), .val (.ref w_DELETE), .val (.ref b117), .unset, .unset] [(.int (45 : Int32)), (.int (0 : Int32)), (.ref b117)])) _
              refine st119 _ ?_
              show Steps p.tables e below (T119.setTop (mkF m 158 #[.val (.int p1), .val (.int p2), .val (.int p3), .val (.int (45 : Int32)), .val (.int (68 : Int32)), .val (.ref w_DELETE), .val (.ref b117), .unset, .unset] [])) _
              refine XS.aload X119.here hx rfl (hb hby at_158) rfl rfl ?_
              show Steps p.tables e below (T119.setTop (mkF m 160 #[.val (.int p1), .val (.int p2), .val (.int p3), .val (.int (45 : Int32)), .val (.int (68 : Int32)), .val (.ref w_DELETE), .val (.ref b117), .unset, .unset] [(.ref b117)])) _
              refine XS.iconst X119.here hx rfl (hb hby at_160) ?_
              show Steps p.tables e below (T119.setTop (mkF m 161 #[.val (.int p1), .val (.int p2), .val (.int p3), .val (.int (45 : Int32)), .val (.int (68 : Int32)), .val (.ref w_DELETE), .val (.ref b117), .unset, .unset] [(.int (1 : Int32)), (.ref b117)])) _
              refine XS.iload X119.here hx rfl (hb hby at_161) rfl ?_
              show Steps p.tables e below (T119.setTop (mkF m 163 #[.val (.int p1), .val (.int p2), .val (.int p3), .val (.int (45 : Int32)), .val (.int (68 : Int32)), .val (.ref w_DELETE), .val (.ref b117), .unset, .unset] [(.int (68 : Int32)), (.int (1 : Int32)), (.ref b117)])) _
              refine st121 _ ?_
              show Steps p.tables e below (T121.setTop (mkF m 164 #[.val (.int p1), .val (.int p2), .val (.int p3), .val (.int (45 : Int32)), .val (.int (68 : Int32)), .val (.ref w_DELETE), .val (.ref b117), .unset, .unset] [])) _
              refine st122 _ ?_
              show Steps p.tables e below (T122.setTop (mkF m 167 #[.val (.int p1), .val (.int p2), .val (.int p3), .val (.int (45 : Int32)), .val (.int (68 : Int32)), .val (.ref w_DELETE), .val (.ref b117), .unset, .unset] [(.ref b122)])) _
              refine XS.dup X122.here hx rfl (hb hby at_167) rfl rfl ?_
              show Steps p.tables e below (T122.setTop (mkF m 168 #[.val (.int p1), .val (.int p2), .val (.int p3), .val (.int (45 : Int32)), .val (.int (68 : Int32)), .val (.ref w_DELETE), .val (.ref b117), .unset, .unset] [(.ref b122), (.ref b122)])) _
              refine XS.aload X122.here hx rfl (hb hby at_168) rfl rfl ?_
              show Steps p.tables e below (T122.setTop (mkF m 170 #[.val (.int p1), .val (.int p2), .val (.int p3), .val (.int (45 : Int32)), .val (.int (68 : Int32)), .val (.ref w_DELETE), .val (.ref b117), .unset, .unset] [(.ref b117), (.ref b122), (.ref b122)])) _
              refine st123.trans ?_
              show Steps p.tables e below (T123.setTop (mkF m 173 #[.val (.int p1), .val (.int p2), .val (.int p3), .val (.int (45 : Int32)), .val (.int (68 : Int32)), .val (.ref w_DELETE), .val (.ref b117), .unset, .unset] [(.ref b122)])) _
              refine XS.astore X123.here hx rfl (hb hby at_173) rfl rfl (l' := #[.val (.int p1), .val (.int p2), .val (.int p3), .val (.int (45 : Int32)), .val (.int (68 : Int32)), .val (.ref w_DELETE), .val (.ref b117), .val (.ref b122), .unset]) rfl ?_
              show Steps p.tables e below (T123.setTop (mkF m 175 #[.val (.int p1), .val (.int p2), .val (.int p3), .val (.int (45 : Int32)), .val (.int (68 : Int32)), .val (.ref w_DELETE), .val (.ref b117), .val (.ref b122), .unset] [])) _
              refine XS.aload X123.here hx rfl (hb hby at_175) rfl rfl ?_
              show Steps p.tables e below (T123.setTop (mkF m 177 #[.val (.int p1), .val (.int p2), .val (.int p3), .val (.int (45 : Int32)), .val (.int (68 : Int32)), .val (.ref w_DELETE), .val (.ref b117), .val (.ref b122), .unset] [(.ref b122)])) _
              refine st124 _ ?_
              show Steps p.tables e below (T124.setTop (mkF m 180 #[.val (.int p1), .val (.int p2), .val (.int p3), .val (.int (45 : Int32)), .val (.int (68 : Int32)), .val (.ref w_DELETE), .val (.ref b117), .val (.ref b122), .unset] [(.ref w_DELETE)])) _
              refine XS.astore X124.here hx rfl (hb hby at_180) rfl rfl (l' := #[.val (.int p1), .val (.int p2), .val (.int p3), .val (.int (45 : Int32)), .val (.int (68 : Int32)), .val (.ref w_DELETE), .val (.ref b117), .val (.ref b122), .val (.ref w_DELETE)]) rfl ?_
              show Steps p.tables e below (T124.setTop (mkF m 182 #[.val (.int p1), .val (.int p2), .val (.int p3), .val (.int (45 : Int32)), .val (.int (68 : Int32)), .val (.ref w_DELETE), .val (.ref b117), .val (.ref b122), .val (.ref w_DELETE)] [])) _
              refine XS.aload X124.here hx rfl (hb hby at_182) rfl rfl ?_
              show Steps p.tables e below (T124.setTop (mkF m 184 #[.val (.int p1), .val (.int p2), .val (.int p3), .val (.int (45 : Int32)), .val (.int (68 : Int32)), .val (.ref w_DELETE), .val (.ref b117), .val (.ref b122), .val (.ref w_DELETE)] [(.ref w_DELETE)])) _
              refine XS.aload X124.here hx rfl (hb hby at_184) rfl rfl ?_
              show Steps p.tables e below (T124.setTop (mkF m 186 #[.val (.int p1), .val (.int p2), .val (.int p3), .val (.int (45 : Int32)), .val (.int (68 : Int32)), .val (.ref w_DELETE), .val (.ref b117), .val (.ref b122), .val (.ref w_DELETE)] [(.ref w_DELETE), (.ref w_DELETE)])) _
              refine Jvm.RoadKit.acmp (g := (mkF m 186 #[.val (.int p1), .val (.int p2), .val (.int p3), .val (.int (45 : Int32)), .val (.int (68 : Int32)), .val (.ref w_DELETE), .val (.ref b117), .val (.ref b122), .val (.ref w_DELETE)] [(.ref w_DELETE), (.ref w_DELETE)])) X124 hx rfl rfl rfl (pc0 := 186) (pc' := 189) (same := true) rfl (hb hby at_186) rfl (decide_eq_true (congrArg Value.ref rfl)) (by decide) (by decide) ?_
              show Steps p.tables e below (T124.setTop (mkF m 189 #[.val (.int p1), .val (.int p2), .val (.int p3), .val (.int (45 : Int32)), .val (.int (68 : Int32)), .val (.ref w_DELETE), .val (.ref b117), .val (.ref b122), .val (.ref w_DELETE)] [])) _
              refine XS.aload X124.here hx rfl (hb hby at_189) rfl rfl ?_
              show Steps p.tables e below (T124.setTop (mkF m 191 #[.val (.int p1), .val (.int p2), .val (.int p3), .val (.int (45 : Int32)), .val (.int (68 : Int32)), .val (.ref w_DELETE), .val (.ref b117), .val (.ref b122), .val (.ref w_DELETE)] [(.ref w_DELETE)])) _
              refine st125.trans ?_
              show Steps p.tables e below (T125.setTop (mkF m 194 #[.val (.int p1), .val (.int p2), .val (.int p3), .val (.int (45 : Int32)), .val (.int (68 : Int32)), .val (.ref w_DELETE), .val (.ref b117), .val (.ref b122), .val (.ref w_DELETE)] [(.ref w_DELETE_shortName)])) _
              refine XS.aload X125.here hx rfl (hb hby at_194) rfl rfl ?_
              show Steps p.tables e below (T125.setTop (mkF m 196 #[.val (.int p1), .val (.int p2), .val (.int p3), .val (.int (45 : Int32)), .val (.int (68 : Int32)), .val (.ref w_DELETE), .val (.ref b117), .val (.ref b122), .val (.ref w_DELETE)] [(.ref b122), (.ref w_DELETE_shortName)])) _
              refine st126.trans ?_
              show Steps p.tables e below (T126.setTop (mkF m 199 #[.val (.int p1), .val (.int p2), .val (.int p3), .val (.int (45 : Int32)), .val (.int (68 : Int32)), .val (.ref w_DELETE), .val (.ref b117), .val (.ref b122), .val (.ref w_DELETE)] [(.int (1 : Int32))])) _
              refine XS.ifNo X126.here hx rfl (hb hby at_199) rfl ((if0 _ _).trans (feq (by decide : ¬ ((1 : Int32) = (0 : Int32)))).1) ?_
              show Steps p.tables e below (T126.setTop (mkF m 202 #[.val (.int p1), .val (.int p2), .val (.int p3), .val (.int (45 : Int32)), .val (.int (68 : Int32)), .val (.ref w_DELETE), .val (.ref b117), .val (.ref b122), .val (.ref w_DELETE)] [])) _
              refine XS.iconst X126.here hx rfl (hb hby at_202) ?_
              show Steps p.tables e below (T126.setTop (mkF m 203 #[.val (.int p1), .val (.int p2), .val (.int p3), .val (.int (45 : Int32)), .val (.int (68 : Int32)), .val (.ref w_DELETE), .val (.ref b117), .val (.ref b122), .val (.ref w_DELETE)] [(.int (1 : Int32))])) _
              refine XS.goto X126.here hx rfl (pc0 := 203) (pc' := 207) rfl (hb hby at_203) (by decide) (by decide) ?_
              show Steps p.tables e below (T126.setTop (mkF m 207 #[.val (.int p1), .val (.int p2), .val (.int p3), .val (.int (45 : Int32)), .val (.int (68 : Int32)), .val (.ref w_DELETE), .val (.ref b117), .val (.ref b122), .val (.ref w_DELETE)] [(.int (1 : Int32))])) _
              exact retN X126 hx (t := .boolean) Bd.returns (by simp) (hb hby at_207) hr
            · show Q0 Z p1 p2 p3 w__VALUES kV w_INSERT w_UPDATE_BEFORE w_UPDATE_AFTER w_DELETE w_INSERT_shortName w_INSERT_shortName_value k_INSERT w_UPDATE_BEFORE_shortName w_UPDATE_BEFORE_shortName_value k_UPDATE_BEFORE w_UPDATE_AFTER_shortName w_UPDATE_AFTER_shortName_value k_UPDATE_AFTER w_DELETE_shortName w_DELETE_shortName_value k_DELETE w_COMPACT_STRINGS h0 n0 _ T126.heap _
              rw [e126]
              exact ⟨by rw [res0, if_neg hc3_2, if_neg hc75_72, if_pos hc111_100, if_neg hc118_102, if_pos hc133_115], N126⟩
          · obtain ⟨fs, hr, hrun, hended, hW, hsame⟩ := X0.leave (v := some (.int (1 : Int32))) (fun h => by rw [Bd.returns] at h; cases h)
            refine ⟨_, _, pre114 _ ?_, hrun, hended, _, _, rfl, ?_, ⟨_, rfl⟩, hW, hsame.mono (by decide) (by decide)⟩
            · show Steps p.tables e below (s₁.setTop (mkF m 133 #[.val (.int p1), .val (.int p2), .val (.int p3), .val (.int (45 : Int32)), .val (.int (mg0_32_s0 p2)), .val .null, .unset, .unset, .unset] [(.int (68 : Int32)), (.int (mg0_32_s0 p2))])) _
              refine XS.icmpYes X0.here hx rfl (pc0 := 133) (pc' := 141) rfl (hb hby at_133) rfl (feq hc133_115).2 (by decide) (by decide) ?_
              show Steps p.tables e below (s₁.setTop (mkF m 141 #[.val (.int p1), .val (.int p2), .val (.int p3), .val (.int (45 : Int32)), .val (.int (mg0_32_s0 p2)), .val .null, .unset, .unset, .unset] [])) _
              refine XS.aload X0.here hx rfl (hb hby at_141) rfl rfl ?_
              show Steps p.tables e below (s₁.setTop (mkF m 143 #[.val (.int p1), .val (.int p2), .val (.int p3), .val (.int (45 : Int32)), .val (.int (mg0_32_s0 p2)), .val .null, .unset, .unset, .unset] [.null])) _
              refine XS.ifnonnullNo X0.here hx rfl (hb hby at_143) rfl ?_
              show Steps p.tables e below (s₁.setTop (mkF m 146 #[.val (.int p1), .val (.int p2), .val (.int p3), .val (.int (45 : Int32)), .val (.int (mg0_32_s0 p2)), .val .null, .unset, .unset, .unset] [])) _
              refine XS.iconst X0.here hx rfl (hb hby at_146) ?_
              show Steps p.tables e below (s₁.setTop (mkF m 147 #[.val (.int p1), .val (.int p2), .val (.int p3), .val (.int (45 : Int32)), .val (.int (mg0_32_s0 p2)), .val .null, .unset, .unset, .unset] [(.int (1 : Int32))])) _
              exact retN X0 hx (t := .boolean) Bd.returns (by simp) (hb hby at_147) hr
            · show Q0 Z p1 p2 p3 w__VALUES kV w_INSERT w_UPDATE_BEFORE w_UPDATE_AFTER w_DELETE w_INSERT_shortName w_INSERT_shortName_value k_INSERT w_UPDATE_BEFORE_shortName w_UPDATE_BEFORE_shortName_value k_UPDATE_BEFORE w_UPDATE_AFTER_shortName w_UPDATE_AFTER_shortName_value k_UPDATE_AFTER w_DELETE_shortName w_DELETE_shortName_value k_DELETE w_COMPACT_STRINGS h0 n0 _ s₁.heap _
              rw [e0]
              exact ⟨by rw [res0, if_neg hc3_2, if_neg hc75_72, if_pos hc111_100, if_neg hc118_102, if_neg hc133_115], N0⟩
      · obtain ⟨fs, hr, hrun, hended, hW, hsame⟩ := X0.leave (v := some (.int (1 : Int32))) (fun h => by rw [Bd.returns] at h; cases h)
        refine ⟨_, _, pre99 _ ?_, hrun, hended, _, _, rfl, ?_, ⟨_, rfl⟩, hW, hsame.mono (by decide) (by decide)⟩
        · show Steps p.tables e below (s₁.setTop (mkF m 111 #[.val (.int p1), .val (.int p2), .val (.int p3), .val (.int (mg0_13_s0 p2)), .val (.int (mg0_32_s0 p2)), .val .null, .unset, .unset, .unset] [(.int (45 : Int32)), (.int (mg0_13_s0 p2))])) _
          refine XS.icmpYes X0.here hx rfl (pc0 := 111) (pc' := 141) rfl (hb hby at_111) rfl (feq hc111_100).2 (by decide) (by decide) ?_
          show Steps p.tables e below (s₁.setTop (mkF m 141 #[.val (.int p1), .val (.int p2), .val (.int p3), .val (.int (mg0_13_s0 p2)), .val (.int (mg0_32_s0 p2)), .val .null, .unset, .unset, .unset] [])) _
          refine XS.aload X0.here hx rfl (hb hby at_141) rfl rfl ?_
          show Steps p.tables e below (s₁.setTop (mkF m 143 #[.val (.int p1), .val (.int p2), .val (.int p3), .val (.int (mg0_13_s0 p2)), .val (.int (mg0_32_s0 p2)), .val .null, .unset, .unset, .unset] [.null])) _
          refine XS.ifnonnullNo X0.here hx rfl (hb hby at_143) rfl ?_
          show Steps p.tables e below (s₁.setTop (mkF m 146 #[.val (.int p1), .val (.int p2), .val (.int p3), .val (.int (mg0_13_s0 p2)), .val (.int (mg0_32_s0 p2)), .val .null, .unset, .unset, .unset] [])) _
          refine XS.iconst X0.here hx rfl (hb hby at_146) ?_
          show Steps p.tables e below (s₁.setTop (mkF m 147 #[.val (.int p1), .val (.int p2), .val (.int p3), .val (.int (mg0_13_s0 p2)), .val (.int (mg0_32_s0 p2)), .val .null, .unset, .unset, .unset] [(.int (1 : Int32))])) _
          exact retN X0 hx (t := .boolean) Bd.returns (by simp) (hb hby at_147) hr
        · show Q0 Z p1 p2 p3 w__VALUES kV w_INSERT w_UPDATE_BEFORE w_UPDATE_AFTER w_DELETE w_INSERT_shortName w_INSERT_shortName_value k_INSERT w_UPDATE_BEFORE_shortName w_UPDATE_BEFORE_shortName_value k_UPDATE_BEFORE w_UPDATE_AFTER_shortName w_UPDATE_AFTER_shortName_value k_UPDATE_AFTER w_DELETE_shortName w_DELETE_shortName_value k_DELETE w_COMPACT_STRINGS h0 n0 _ s₁.heap _
          rw [e0]
          exact ⟨by rw [res0, if_neg hc3_2, if_neg hc75_72, if_neg hc111_100], N0⟩
theorem own_fin (p1 p2 p3 : Int32) : (res0 p1 p2 p3) = 1 := by
  unfold res0
  repeat' split
  all_goals rfl
set_option maxRecDepth 65536 in
set_option maxHeartbeats 40000000 in
theorem comes_1 {Post : Tables → Env → Array Value → State → Outcome → State → Prop} (hpost : ∀ tb e args s v u, (limb_1_1.after args s (.returned v) u = true ∧ limb_1_2.after args s (.returned v) u = true ∧ True) → FrameEnd s (.returned v) u (Jvm.fieldLocs frame_1_writes args s ++ Jvm.arrayLocs frame_1_arrays args s ++ Jvm.staticLocs frame_1_statics s) 16 128 → Post tb e args s (.returned v) u) :
    ArmFor flags0 classFile x code maxLocals ret World_1 tables_1 room_1 Calls_1 rest_1 Pre_1 Post := by
  intro l hfl _ _ p e ha hc hk s m args below hf hA hF happ hP
  obtain ⟨hcalls, hrest, hpre⟩ := hP
  obtain ⟨-, -, -, hnamed, -, -, -, hat⟩ := (Spec.applies_iff hf).mp happ
  obtain ⟨hg, hn⟩ := and_e (Cond.before_iff.mp (show (Jvm.Cond.and given_1 narrow_1).before args s = true from hpre))
  obtain ⟨ga0, gb0⟩ := and_e hg
  obtain ⟨ga1, gb1⟩ := and_e gb0
  obtain ⟨ga2, gb2⟩ := and_e gb1
  obtain ⟨w0, w1, w2, rfl⟩ : ∃ w0 w1 w2 : Value, args = #[w0, w1, w2] := by
    have hs : args.size = 3 := by simpa [Cond.value, given_1] using ga0
    obtain ⟨L⟩ := args
    match L, hs with
    | [w0, w1, w2], _ => exact ⟨w0, w1, w2, rfl⟩
  have hw := fun d (hd : d ∈ tables_1) => atoms_spec (ws := Jvm.Cond.code x code maxLocals ret :: tables_1) hat d (List.mem_cons_of_mem _ hd)
  have hfit : Fit s := fun {y c} hc i hi => by
    obtain ⟨ha, rfl⟩ := Array.getElem?_eq_some_iff.mp hc
    have q := List.all_eq_true.mp ((Array.all_eq_true_iff_forall_mem.mp hF) _ (Array.getElem_mem ha)) i (List.mem_range.mpr hi)
    simpa [Array.getElem?_eq_getElem hi] using q
  obtain ⟨i0, ei0⟩ := is_v ga1
  obtain rfl : w0 = (.int i0) := Option.some.inj ei0
  obtain ⟨i1, ei1⟩ := is_v ga2
  obtain rfl : w1 = (.int i1) := Option.some.inj ei1
  obtain ⟨i2, ei2⟩ := is_v gb2
  obtain rfl : w2 = (.int i2) := Option.some.inj ei2
  obtain ⟨hsets, hown0⟩ := atoms_of _ (rest_1_c_eq ▸ (show rest_1_c.before _ s = true from hrest))
  have n5 := not_v (Cond.before_iff.mp (hsets _ (List.mem_of_getElem? (i := 2) rfl)))
  obtain ⟨w_COMPACT_STRINGS, e10⟩ := is_v (Cond.before_iff.mp (hsets _ (List.mem_of_getElem? (i := 1) rfl)))
  have S_COMPACT_STRINGS : Sta s s.heap "java/lang/String" "COMPACT_STRINGS" "Z" (.int w_COMPACT_STRINGS) := Sta.start e10 (Or.inl (hsets _ (List.mem_of_getElem? (i := 0) rfl)))
  obtain ⟨w_SIOOBE_FORMATTER, e14, hSF⟩ := isR_v (Cond.before_iff.mp (hsets _ (List.mem_of_getElem? (i := 8) rfl)))
  have S_SIOOBE_FORMATTER : Sta s s.heap "jdk/internal/util/Preconditions" "SIOOBE_FORMATTER" "Ljava/util/function/BiFunction;" w_SIOOBE_FORMATTER := Sta.start e14 (Or.inl (hsets _ (List.mem_of_getElem? (i := 7) rfl)))
  have hCS : ¬ (w_COMPACT_STRINGS = (0 : Int32)) := gotF (Cond.eq_ints e10 (Term.int_eval (0))) n5
  obtain ⟨na1, nb1⟩ := and_e hn
  obtain ⟨na2, nb2⟩ := and_e nb1
  obtain ⟨na3, nb3⟩ := and_e nb2
  obtain ⟨na4, nb4⟩ := and_e nb3
  obtain ⟨na5, nb5⟩ := and_e nb4
  obtain ⟨na6, nb6⟩ := and_e nb5
  obtain ⟨na7, nb7⟩ := and_e nb6
  obtain ⟨na8, nb8⟩ := and_e nb7
  obtain ⟨na9, nb9⟩ := and_e nb8
  obtain ⟨na10, nb10⟩ := and_e nb9
  obtain ⟨na11, nb11⟩ := and_e nb10
  obtain ⟨na12, nb12⟩ := and_e nb11
  obtain ⟨na13, nb13⟩ := and_e nb12
  obtain ⟨na14, nb14⟩ := and_e nb13
  obtain ⟨na15, nb15⟩ := and_e nb14
  obtain ⟨na16, nb16⟩ := and_e nb15
  obtain ⟨na17, nb17⟩ := and_e nb16
  obtain ⟨na18, nb18⟩ := and_e nb17
  obtain ⟨na19, nb19⟩ := and_e nb18
  obtain ⟨na20, nb20⟩ := and_e nb19
  obtain ⟨na21, nb21⟩ := and_e nb20
  obtain ⟨na22, nb22⟩ := and_e nb21
  obtain ⟨na23, nb23⟩ := and_e nb22
  obtain ⟨na24, nb24⟩ := and_e nb23
  obtain ⟨na25, nb25⟩ := and_e nb24
  obtain ⟨na26, nb26⟩ := and_e nb25
  obtain ⟨na27, nb27⟩ := and_e nb26
  obtain ⟨na28, nb28⟩ := and_e nb27
  obtain ⟨na29, nb29⟩ := and_e nb28
  obtain ⟨na30, nb30⟩ := and_e nb29
  obtain ⟨na31, nb31⟩ := and_e nb30
  obtain ⟨na32, nb32⟩ := and_e nb31
  obtain ⟨na33, nb33⟩ := and_e nb32
  obtain ⟨na34, nb34⟩ := and_e nb33
  obtain ⟨w_INSERT, ev_INSERT⟩ := exa_v na1
  have S_INSERT := Sta.start ev_INSERT (Or.inr ⟨(hw _ (List.mem_of_getElem? (i := 5) rfl)), (hw _ (List.mem_of_getElem? (i := 6) rfl))⟩)
  have E_w_INSERT := Exa.start ev_INSERT na1
  obtain ⟨w__VALUES, ev__VALUES⟩ := arr_v na2
  have S__VALUES := Sta.start ev__VALUES (Or.inl (hw _ (List.mem_of_getElem? (i := 55) rfl)))
  obtain ⟨cl__VALUES, A__VALUES⟩ := Arr.start ev__VALUES na2
  have E_w__VALUES := Exa.start ev__VALUES na3
  have L__VALUES := own_len ev__VALUES A__VALUES (own_eqv (Or.inl ⟨_, rfl⟩) (Term.int_eval _) na4)
  have el__VALUES_0 := (elem_in (own_eqv (Or.inr ⟨_, rfl⟩) ev_INSERT na5) ev__VALUES (Term.int_eval _) A__VALUES.1).2
  obtain ⟨w_UPDATE_BEFORE, ev_UPDATE_BEFORE⟩ := exa_v na6
  have S_UPDATE_BEFORE := Sta.start ev_UPDATE_BEFORE (Or.inr ⟨(hw _ (List.mem_of_getElem? (i := 5) rfl)), (hw _ (List.mem_of_getElem? (i := 52) rfl))⟩)
  have E_w_UPDATE_BEFORE := Exa.start ev_UPDATE_BEFORE na6
  have el__VALUES_1 := (elem_in (own_eqv (Or.inr ⟨_, rfl⟩) ev_UPDATE_BEFORE na7) ev__VALUES (Term.int_eval _) A__VALUES.1).2
  obtain ⟨w_UPDATE_AFTER, ev_UPDATE_AFTER⟩ := exa_v na8
  have S_UPDATE_AFTER := Sta.start ev_UPDATE_AFTER (Or.inr ⟨(hw _ (List.mem_of_getElem? (i := 5) rfl)), (hw _ (List.mem_of_getElem? (i := 53) rfl))⟩)
  have E_w_UPDATE_AFTER := Exa.start ev_UPDATE_AFTER na8
  have el__VALUES_2 := (elem_in (own_eqv (Or.inr ⟨_, rfl⟩) ev_UPDATE_AFTER na9) ev__VALUES (Term.int_eval _) A__VALUES.1).2
  obtain ⟨w_DELETE, ev_DELETE⟩ := exa_v na10
  have S_DELETE := Sta.start ev_DELETE (Or.inr ⟨(hw _ (List.mem_of_getElem? (i := 5) rfl)), (hw _ (List.mem_of_getElem? (i := 54) rfl))⟩)
  have E_w_DELETE := Exa.start ev_DELETE na10
  have el__VALUES_3 := (elem_in (own_eqv (Or.inr ⟨_, rfl⟩) ev_DELETE na11) ev__VALUES (Term.int_eval _) A__VALUES.1).2
  obtain ⟨w_INSERT_shortName, ev_INSERT_shortName⟩ := exa_v na12
  have F_shortName_w_INSERT := Fld.start ((fld_at ev_INSERT).symm.trans ev_INSERT_shortName)
  have E_w_INSERT_shortName := Exa.start ev_INSERT_shortName na12
  have F_coder_w_INSERT_shortName := Fld.start ((fld_at ev_INSERT_shortName).symm.trans (own_eqv (Or.inl ⟨_, rfl⟩) (Term.int_eval _) na13))
  obtain ⟨w_INSERT_shortName_value, ev_INSERT_shortName_value⟩ := arr_v na14
  have F_value_w_INSERT_shortName := Fld.start ((fld_at ev_INSERT_shortName).symm.trans ev_INSERT_shortName_value)
  obtain ⟨cl_INSERT_shortName_value, A_INSERT_shortName_value⟩ := Arr.start ev_INSERT_shortName_value na14
  have L_INSERT_shortName_value := own_len ev_INSERT_shortName_value A_INSERT_shortName_value (own_eqv (Or.inl ⟨_, rfl⟩) (Term.int_eval _) na15)
  have el_INSERT_shortName_value_0 := (elem_in (own_eqv (Or.inl ⟨_, rfl⟩) (Term.int_eval _) na16) ev_INSERT_shortName_value (Term.int_eval _) A_INSERT_shortName_value.1).2
  have el_INSERT_shortName_value_1 := (elem_in (own_eqv (Or.inl ⟨_, rfl⟩) (Term.int_eval _) na17) ev_INSERT_shortName_value (Term.int_eval _) A_INSERT_shortName_value.1).2
  obtain ⟨w_UPDATE_BEFORE_shortName, ev_UPDATE_BEFORE_shortName⟩ := exa_v na18
  have F_shortName_w_UPDATE_BEFORE := Fld.start ((fld_at ev_UPDATE_BEFORE).symm.trans ev_UPDATE_BEFORE_shortName)
  have E_w_UPDATE_BEFORE_shortName := Exa.start ev_UPDATE_BEFORE_shortName na18
  have F_coder_w_UPDATE_BEFORE_shortName := Fld.start ((fld_at ev_UPDATE_BEFORE_shortName).symm.trans (own_eqv (Or.inl ⟨_, rfl⟩) (Term.int_eval _) na19))
  obtain ⟨w_UPDATE_BEFORE_shortName_value, ev_UPDATE_BEFORE_shortName_value⟩ := arr_v na20
  have F_value_w_UPDATE_BEFORE_shortName := Fld.start ((fld_at ev_UPDATE_BEFORE_shortName).symm.trans ev_UPDATE_BEFORE_shortName_value)
  obtain ⟨cl_UPDATE_BEFORE_shortName_value, A_UPDATE_BEFORE_shortName_value⟩ := Arr.start ev_UPDATE_BEFORE_shortName_value na20
  have L_UPDATE_BEFORE_shortName_value := own_len ev_UPDATE_BEFORE_shortName_value A_UPDATE_BEFORE_shortName_value (own_eqv (Or.inl ⟨_, rfl⟩) (Term.int_eval _) na21)
  have el_UPDATE_BEFORE_shortName_value_0 := (elem_in (own_eqv (Or.inl ⟨_, rfl⟩) (Term.int_eval _) na22) ev_UPDATE_BEFORE_shortName_value (Term.int_eval _) A_UPDATE_BEFORE_shortName_value.1).2
  have el_UPDATE_BEFORE_shortName_value_1 := (elem_in (own_eqv (Or.inl ⟨_, rfl⟩) (Term.int_eval _) na23) ev_UPDATE_BEFORE_shortName_value (Term.int_eval _) A_UPDATE_BEFORE_shortName_value.1).2
  obtain ⟨w_UPDATE_AFTER_shortName, ev_UPDATE_AFTER_shortName⟩ := exa_v na24
  have F_shortName_w_UPDATE_AFTER := Fld.start ((fld_at ev_UPDATE_AFTER).symm.trans ev_UPDATE_AFTER_shortName)
  have E_w_UPDATE_AFTER_shortName := Exa.start ev_UPDATE_AFTER_shortName na24
  have F_coder_w_UPDATE_AFTER_shortName := Fld.start ((fld_at ev_UPDATE_AFTER_shortName).symm.trans (own_eqv (Or.inl ⟨_, rfl⟩) (Term.int_eval _) na25))
  obtain ⟨w_UPDATE_AFTER_shortName_value, ev_UPDATE_AFTER_shortName_value⟩ := arr_v na26
  have F_value_w_UPDATE_AFTER_shortName := Fld.start ((fld_at ev_UPDATE_AFTER_shortName).symm.trans ev_UPDATE_AFTER_shortName_value)
  obtain ⟨cl_UPDATE_AFTER_shortName_value, A_UPDATE_AFTER_shortName_value⟩ := Arr.start ev_UPDATE_AFTER_shortName_value na26
  have L_UPDATE_AFTER_shortName_value := own_len ev_UPDATE_AFTER_shortName_value A_UPDATE_AFTER_shortName_value (own_eqv (Or.inl ⟨_, rfl⟩) (Term.int_eval _) na27)
  have el_UPDATE_AFTER_shortName_value_0 := (elem_in (own_eqv (Or.inl ⟨_, rfl⟩) (Term.int_eval _) na28) ev_UPDATE_AFTER_shortName_value (Term.int_eval _) A_UPDATE_AFTER_shortName_value.1).2
  obtain ⟨w_DELETE_shortName, ev_DELETE_shortName⟩ := exa_v na29
  have F_shortName_w_DELETE := Fld.start ((fld_at ev_DELETE).symm.trans ev_DELETE_shortName)
  have E_w_DELETE_shortName := Exa.start ev_DELETE_shortName na29
  have F_coder_w_DELETE_shortName := Fld.start ((fld_at ev_DELETE_shortName).symm.trans (own_eqv (Or.inl ⟨_, rfl⟩) (Term.int_eval _) na30))
  obtain ⟨w_DELETE_shortName_value, ev_DELETE_shortName_value⟩ := arr_v na31
  have F_value_w_DELETE_shortName := Fld.start ((fld_at ev_DELETE_shortName).symm.trans ev_DELETE_shortName_value)
  obtain ⟨cl_DELETE_shortName_value, A_DELETE_shortName_value⟩ := Arr.start ev_DELETE_shortName_value na31
  have L_DELETE_shortName_value := own_len ev_DELETE_shortName_value A_DELETE_shortName_value (own_eqv (Or.inl ⟨_, rfl⟩) (Term.int_eval _) na32)
  have el_DELETE_shortName_value_0 := (elem_in (own_eqv (Or.inl ⟨_, rfl⟩) (Term.int_eval _) na33) ev_DELETE_shortName_value (Term.int_eval _) A_DELETE_shortName_value.1).2
  have el_DELETE_shortName_value_1 := (elem_in (own_eqv (Or.inl ⟨_, rfl⟩) (Term.int_eval _) na34) ev_DELETE_shortName_value (Term.int_eval _) A_DELETE_shortName_value.1).2
  have el_UPDATE_AFTER_shortName_value_1 := (elem_in (own_eqv (Or.inl ⟨_, rfl⟩) (Term.int_eval _) nb34) ev_UPDATE_AFTER_shortName_value (Term.int_eval _) A_UPDATE_AFTER_shortName_value.1).2
  have V_w__VALUES : Arv s s.heap w__VALUES cl__VALUES.cls (.object "com/example/tidemark/tidemark/table/RowKind") (4 : Int32) [(.ref w_INSERT), (.ref w_UPDATE_BEFORE), (.ref w_UPDATE_AFTER), (.ref w_DELETE)] .null := Arv.start hfit A__VALUES L__VALUES.1 L__VALUES.2 (by decide) rfl ⟨el__VALUES_0, el__VALUES_1, el__VALUES_2, el__VALUES_3, trivial⟩
  have V_w_INSERT_shortName_value : Arv s s.heap w_INSERT_shortName_value cl_INSERT_shortName_value.cls .byte (2 : Int32) [(.int (43 : Int32)), (.int (73 : Int32))] (.int (0 : Int32)) := Arv.start hfit A_INSERT_shortName_value L_INSERT_shortName_value.1 L_INSERT_shortName_value.2 (by decide) rfl ⟨el_INSERT_shortName_value_0, el_INSERT_shortName_value_1, trivial⟩
  have V_w_UPDATE_BEFORE_shortName_value : Arv s s.heap w_UPDATE_BEFORE_shortName_value cl_UPDATE_BEFORE_shortName_value.cls .byte (2 : Int32) [(.int (45 : Int32)), (.int (85 : Int32))] (.int (0 : Int32)) := Arv.start hfit A_UPDATE_BEFORE_shortName_value L_UPDATE_BEFORE_shortName_value.1 L_UPDATE_BEFORE_shortName_value.2 (by decide) rfl ⟨el_UPDATE_BEFORE_shortName_value_0, el_UPDATE_BEFORE_shortName_value_1, trivial⟩
  have V_w_UPDATE_AFTER_shortName_value : Arv s s.heap w_UPDATE_AFTER_shortName_value cl_UPDATE_AFTER_shortName_value.cls .byte (2 : Int32) [(.int (43 : Int32)), (.int (85 : Int32))] (.int (0 : Int32)) := Arv.start hfit A_UPDATE_AFTER_shortName_value L_UPDATE_AFTER_shortName_value.1 L_UPDATE_AFTER_shortName_value.2 (by decide) rfl ⟨el_UPDATE_AFTER_shortName_value_0, el_UPDATE_AFTER_shortName_value_1, trivial⟩
  have V_w_DELETE_shortName_value : Arv s s.heap w_DELETE_shortName_value cl_DELETE_shortName_value.cls .byte (2 : Int32) [(.int (45 : Int32)), (.int (68 : Int32))] (.int (0 : Int32)) := Arv.start hfit A_DELETE_shortName_value L_DELETE_shortName_value.1 L_DELETE_shortName_value.2 (by decide) rfl ⟨el_DELETE_shortName_value_0, el_DELETE_shortName_value_1, trivial⟩
  obtain ⟨n, o, h1, h2, h3, _, L, rfl, ⟨rfl, N⟩, hq⟩ := rm0 l s _ hw tables_1 i0 i1 i2 w__VALUES cl__VALUES.cls w_INSERT w_UPDATE_BEFORE w_UPDATE_AFTER w_DELETE w_INSERT_shortName w_INSERT_shortName_value cl_INSERT_shortName_value.cls w_UPDATE_BEFORE_shortName w_UPDATE_BEFORE_shortName_value cl_UPDATE_BEFORE_shortName_value.cls w_UPDATE_AFTER_shortName w_UPDATE_AFTER_shortName_value cl_UPDATE_AFTER_shortName_value.cls w_DELETE_shortName w_DELETE_shortName_value cl_DELETE_shortName_value.cls w_COMPACT_STRINGS s.heap s.heap.size (Nat.le_refl _) S__VALUES E_w__VALUES V_w__VALUES S_INSERT E_w_INSERT S_UPDATE_BEFORE E_w_UPDATE_BEFORE S_UPDATE_AFTER E_w_UPDATE_AFTER S_DELETE E_w_DELETE F_shortName_w_INSERT E_w_INSERT_shortName F_coder_w_INSERT_shortName F_value_w_INSERT_shortName V_w_INSERT_shortName_value F_shortName_w_UPDATE_BEFORE E_w_UPDATE_BEFORE_shortName F_coder_w_UPDATE_BEFORE_shortName F_value_w_UPDATE_BEFORE_shortName V_w_UPDATE_BEFORE_shortName_value F_shortName_w_UPDATE_AFTER E_w_UPDATE_AFTER_shortName F_coder_w_UPDATE_AFTER_shortName F_value_w_UPDATE_AFTER_shortName V_w_UPDATE_AFTER_shortName_value F_shortName_w_DELETE E_w_DELETE_shortName F_coder_w_DELETE_shortName F_value_w_DELETE_shortName V_w_DELETE_shortName_value S_COMPACT_STRINGS hCS p e ha hc hk s m _ below hf ((Spec.applies_iff_loose hf).mp happ).1 ⟨rfl, State.Warmed39.refl s, rfl⟩ trivial
  have hfin : (res0 i0 i1 i2) = (1 : Int32) := own_fin i0 i1 i2
  refine ⟨n, _, h1, h2, h3, hpost _ _ _ _ _ _ ⟨Cond.after_iff.mpr rfl, Cond.after_iff.mpr (eq_i res_at (Term.int_eval (1)) (by rw [hfin])), trivial⟩ ⟨hq.1, hq.2.1, (hq.2.2.sift fun y hy => Or.inr (N y hy)).mono (by decide) (by decide)⟩⟩
theorem main_1_1 : Claimed_1_1 := comes_1 fun _ _ _ _ _ _ h hF => ⟨h.1, hF⟩
theorem main_1_2 : Claimed_1_2 := comes_1 fun _ _ _ _ _ _ h hF => ⟨h.2.1, hF⟩
end Jvm.Pilot.@@N@@
namespace Jvm.Pilot.@@N@@
open Jvm Jvm.ClassFile Sem Op Lib Jvm.Free Jvm.Stand Jvm.Pilot.@@N@@.Jvm.D
/-! MADE BY PROGRAM (witnessworld.py) out of the Statement's table words and the real class files: 22 classes; the members and pool entries that the words name. The judged class is class 1, her method 2. -/
namespace start1
open Jvm.ClassFile
def u (s : String) : CpInfo := .utf8 (stringToUtf16 s)
/-- a pool by its gaps: so many unusable entries, then the entry; so many at the end -/
def gap : Nat → List CpInfo → List CpInfo
  | 0, r => r
  | n + 1, r => .unusable :: gap n r
def poolList (es : List (Nat × CpInfo)) (last : Nat) : List CpInfo := es.foldr (fun e r => gap e.1 (e.2 :: r)) (gap last [])
def pool (es : List (Nat × CpInfo)) (last : Nat) : Array CpInfo := ⟨poolList es last⟩
def fileOf (pool : Array CpInfo) (this : Nat) (attrs : Array Attribute := #[]) (ms : Array MethodInfo := #[]) (fl : Nat := 33) (sup : Nat := 0) (ifs : Array Nat := #[]) (fds : Array FieldInfo := #[]) : ClassFile where
  minorVersion := 0
  majorVersion := 65
  constantPool := pool
  accessFlags := fl
  thisClass := this
  superClass := sup
  interfaces := ifs
  fields := fds
  methods := ms
  attributes := attrs
def plain (name : String) (sup : Option ClassId) : Class where
  name := name
  kind := .ordinary
  loader := none
  accessFlags := 33
  super := sup
  interfaces := #[]
  cf := none
  fields := #[]
  methods := #[]
  instanceTypes := #[]
  staticTypes := #[]
  resolved := #[]
  callSites := []
  init := .initialized
  statics := none
  mirror := none

def pool0 : Array CpInfo := pool [(5, u "<init>"), (0, u "()V"), (1, .class_ 10), (1, u "java/lang/Object"), (85, u "clone"), (0, u "()Ljava/lang/Object;")] 26

def k0c0 : Code := { maxStack := 0, maxLocals := 1, code := object_method_1_code, exceptionTable := #[], attributes := #[] }
def k0m0 : Method := { name := "<init>", desc := "()V", sig := { parameters := [], returnType := none }, accessFlags := 1, code := some k0c0 }
def k0m1 : Method := { name := "clone", desc := "()Ljava/lang/Object;", sig := { parameters := [], returnType := some (.object "java/lang/Object") }, accessFlags := 260, code := none }
/-- java/lang/Object -/
def k0 : Class := { plain "java/lang/Object" none with
  accessFlags := 33
  interfaces := #[]
  cf := some (fileOf pool0 8 #[] #[{ accessFlags := 1, nameIndex := 5, descriptorIndex := 6, attributes := #[] }, { accessFlags := 260, nameIndex := 96, descriptorIndex := 97, attributes := #[] }] 33 0 #[] #[])
  fields := #[]
  methods := #[k0m0, k0m1]
  instanceTypes := #[]
  staticTypes := #[]
  resolved := Array.replicate 124 none
  statics := none }

def pool1 : Array CpInfo := pool [(2, .class_ 4), (1, u "java/lang/Object"), (0, u "<init>"), (0, u "()V"), (0, .methodref 8 9), (0, .class_ 10), (0, .nameAndType 11 12), (0, u "com/example/tidemark/tidemark/table/RowKindFromShortNamePinLaw"), (0, u "pick"), (0, u "(I)C"), (0, .fieldref 14 15), (0, .class_ 16), (0, .nameAndType 17 18), (0, u "com/example/tidemark/tidemark/table/RowKind"), (0, u "INSERT"), (0, u "Lcom/example/tidemark/tidemark/table/RowKind;"), (0, .fieldref 14 20), (0, .nameAndType 21 18), (0, u "UPDATE_AFTER"), (0, .fieldref 14 23), (0, .nameAndType 24 18), (0, u "UPDATE_BEFORE"), (0, .fieldref 14 26), (0, .nameAndType 27 18), (0, u "DELETE"), (0, .class_ 29), (0, u "java/lang/String"), (0, .methodref 28 31), (0, .nameAndType 5 32), (0, u "([C)V"), (0, .methodref 14 34), (0, .nameAndType 35 36), (0, u "fromShortName"), (0, u "(Ljava/lang/String;)Lcom/example/tidemark/tidemark/table/RowKind;"), (0, .methodref 14 38), (0, .nameAndType 39 40), (0, u "shortName"), (0, u "()Ljava/lang/String;"), (0, .methodref 28 42), (0, .nameAndType 43 44), (0, u "equals"), (0, u "(Ljava/lang/Object;)Z"), (3, u "law"), (0, u "(III)Z")] 4

def k1m0 : Method := { name := "<init>", desc := "()V", sig := { parameters := [], returnType := none }, accessFlags := 1, code := none }
def k1c1 : Code := { maxStack := 2, maxLocals := 2, code := method_2_code, exceptionTable := #[], attributes := #[] }
def k1m1 : Method := { name := "pick", desc := "(I)C", sig := { parameters := [.int], returnType := some .char }, accessFlags := 10, code := some k1c1 }
def k1c2 : Code := { maxStack := 3, maxLocals := 9, code := code, exceptionTable := #[], attributes := #[] }
def k1m2 : Method := { name := "law", desc := "(III)Z", sig := { parameters := [.int, .int, .int], returnType := some .boolean }, accessFlags := 9, code := some k1c2 }
/-- com/example/tidemark/tidemark/table/RowKindFromShortNamePinLaw -/
def k1 : Class := { plain "com/example/tidemark/tidemark/table/RowKindFromShortNamePinLaw" (some 0) with
  accessFlags := 49
  interfaces := #[]
  cf := some (fileOf pool1 8 #[] #[{ accessFlags := 1, nameIndex := 5, descriptorIndex := 6, attributes := #[] }, { accessFlags := 10, nameIndex := 11, descriptorIndex := 12, attributes := #[] }, { accessFlags := 9, nameIndex := 48, descriptorIndex := 49, attributes := #[] }] 49 2 #[] #[])
  fields := #[]
  methods := #[k1m0, k1m1, k1m2]
  instanceTypes := #[]
  staticTypes := #[]
  resolved := Array.replicate 54 none
  statics := none }

def pool2 : Array CpInfo := pool [(1, .class_ 2), (0, u "java/lang/constant/Constable"), (0, .class_ 4), (0, u "java/lang/Object")] 6

/-- java/lang/constant/Constable -/
def k2 : Class := { plain "java/lang/constant/Constable" (some 0) with
  accessFlags := 1537
  interfaces := #[]
  cf := some (fileOf pool2 1 #[] #[] 1537 3 #[] #[])
  fields := #[]
  methods := #[]
  instanceTypes := #[]
  staticTypes := #[]
  resolved := Array.replicate 11 none
  statics := none }

def pool3 : Array CpInfo := pool [(1, .class_ 2), (0, u "java/lang/Comparable"), (0, .class_ 4), (0, u "java/lang/Object")] 7

/-- java/lang/Comparable -/
def k3 : Class := { plain "java/lang/Comparable" (some 0) with
  accessFlags := 1537
  interfaces := #[]
  cf := some (fileOf pool3 1 #[] #[] 1537 3 #[] #[])
  fields := #[]
  methods := #[]
  instanceTypes := #[]
  staticTypes := #[]
  resolved := Array.replicate 12 none
  statics := none }

def pool4 : Array CpInfo := pool [(1, .class_ 2), (0, u "java/io/Serializable"), (0, .class_ 4), (0, u "java/lang/Object")] 2

/-- java/io/Serializable -/
def k4 : Class := { plain "java/io/Serializable" (some 0) with
  accessFlags := 1537
  interfaces := #[]
  cf := some (fileOf pool4 1 #[] #[] 1537 3 #[] #[])
  fields := #[]
  methods := #[]
  instanceTypes := #[]
  staticTypes := #[]
  resolved := Array.replicate 7 none
  statics := none }

def pool5 : Array CpInfo := pool [(2, .class_ 4), (1, u "java/lang/Enum"), (0, u "name"), (0, u "Ljava/lang/String;"), (2, u "ordinal"), (0, u "I"), (1, .class_ 14), (1, u "java/lang/Object"), (4, u "hash"), (86, .class_ 108), (1, u "java/lang/Enum$EnumDesc"), (2, .class_ 112), (0, u "java/lang/constant/Constable"), (0, .class_ 114), (0, u "java/lang/Comparable"), (0, .class_ 116), (0, u "java/io/Serializable")] 87

/-- java/lang/Enum -/
def k5 : Class := { plain "java/lang/Enum" (some 0) with
  accessFlags := 1057
  interfaces := #[2, 3, 4]
  cf := some (fileOf pool5 2 #[.nestMembers #[106]] #[] 1057 12 #[111, 113, 115] #[{ accessFlags := 18, nameIndex := 5, descriptorIndex := 6, attributes := #[] }, { accessFlags := 18, nameIndex := 9, descriptorIndex := 10, attributes := #[] }, { accessFlags := 2, nameIndex := 19, descriptorIndex := 10, attributes := #[] }])
  fields := #[{ name := "name", type := (.object "java/lang/String"), accessFlags := 18, slot := 0, constantValue := 0 }, { name := "ordinal", type := .int, accessFlags := 18, slot := 1, constantValue := 0 }, { name := "hash", type := .int, accessFlags := 2, slot := 2, constantValue := 0 }]
  methods := #[]
  instanceTypes := #[(.object "java/lang/String"), .int, .int]
  staticTypes := #[]
  resolved := Array.replicate 204 none
  statics := none }

def pool6 : Array CpInfo := pool [(1, .class_ 2), (0, u "com/example/tidemark/tidemark/table/RowKind"), (2, u "INSERT"), (0, u "Lcom/example/tidemark/tidemark/table/RowKind;"), (2, u "UPDATE_BEFORE"), (2, u "UPDATE_AFTER"), (2, u "DELETE"), (0, .fieldref 1 17), (0, .nameAndType 18 19), (0, u "$VALUES"), (0, u "[Lcom/example/tidemark/tidemark/table/RowKind;"), (0, .methodref 21 22), (0, .class_ 19), (0, .nameAndType 23 24), (0, u "clone"), (0, u "()Ljava/lang/Object;"), (1, .class_ 28), (1, u "java/lang/Enum"), (6, .fieldref 1 36), (0, .nameAndType 37 38), (0, u "shortName"), (0, u "Ljava/lang/String;"), (2, u "value"), (0, u "B"), (0, .methodref 1 44), (0, .nameAndType 45 46), (0, u "values"), (0, u "()[Lcom/example/tidemark/tidemark/table/RowKind;"), (0, .methodref 48 49), (0, .class_ 50), (0, .nameAndType 51 52), (0, u "java/lang/String"), (0, u "equals"), (0, u "(Ljava/lang/Object;)Z"), (32, u "(Ljava/lang/String;)Lcom/example/tidemark/tidemark/table/RowKind;"), (2, u "fromShortName"), (3, u "()Ljava/lang/String;")] 25

def k6c0 : Code := { maxStack := 1, maxLocals := 0, code := prog_28_method_1_code, exceptionTable := #[], attributes := #[] }
def k6m0 : Method := { name := "values", desc := "()[Lcom/example/tidemark/tidemark/table/RowKind;", sig := { parameters := [], returnType := some (.array (.object "com/example/tidemark/tidemark/table/RowKind")) }, accessFlags := 9, code := some k6c0 }
def k6c1 : Code := { maxStack := 3, maxLocals := 5, code := prog_28_method_4_code, exceptionTable := #[], attributes := #[] }
def k6m1 : Method := { name := "fromShortName", desc := "(Ljava/lang/String;)Lcom/example/tidemark/tidemark/table/RowKind;", sig := { parameters := [(.object "java/lang/String")], returnType := some (.object "com/example/tidemark/tidemark/table/RowKind") }, accessFlags := 9, code := some k6c1 }
def k6c2 : Code := { maxStack := 1, maxLocals := 1, code := prog_28_method_6_code, exceptionTable := #[], attributes := #[] }
def k6m2 : Method := { name := "shortName", desc := "()Ljava/lang/String;", sig := { parameters := [], returnType := some (.object "java/lang/String") }, accessFlags := 1, code := some k6c2 }
/-- com/example/tidemark/tidemark/table/RowKind -/
def k6 : Class := { plain "com/example/tidemark/tidemark/table/RowKind" (some 5) with
  accessFlags := 16433
  interfaces := #[]
  cf := some (fileOf pool6 1 #[] #[{ accessFlags := 9, nameIndex := 45, descriptorIndex := 46, attributes := #[] }, { accessFlags := 9, nameIndex := 88, descriptorIndex := 85, attributes := #[] }, { accessFlags := 1, nameIndex := 37, descriptorIndex := 92, attributes := #[] }] 16433 26 #[] #[{ accessFlags := 16409, nameIndex := 5, descriptorIndex := 6, attributes := #[] }, { accessFlags := 16409, nameIndex := 9, descriptorIndex := 6, attributes := #[] }, { accessFlags := 16409, nameIndex := 12, descriptorIndex := 6, attributes := #[] }, { accessFlags := 16409, nameIndex := 15, descriptorIndex := 6, attributes := #[] }, { accessFlags := 18, nameIndex := 37, descriptorIndex := 38, attributes := #[] }, { accessFlags := 18, nameIndex := 41, descriptorIndex := 42, attributes := #[] }, { accessFlags := 4122, nameIndex := 18, descriptorIndex := 19, attributes := #[] }])
  fields := #[{ name := "INSERT", type := (.object "com/example/tidemark/tidemark/table/RowKind"), accessFlags := 16409, slot := 0, constantValue := 0 }, { name := "UPDATE_BEFORE", type := (.object "com/example/tidemark/tidemark/table/RowKind"), accessFlags := 16409, slot := 1, constantValue := 0 }, { name := "UPDATE_AFTER", type := (.object "com/example/tidemark/tidemark/table/RowKind"), accessFlags := 16409, slot := 2, constantValue := 0 }, { name := "DELETE", type := (.object "com/example/tidemark/tidemark/table/RowKind"), accessFlags := 16409, slot := 3, constantValue := 0 }, { name := "shortName", type := (.object "java/lang/String"), accessFlags := 18, slot := 3, constantValue := 0 }, { name := "value", type := .byte, accessFlags := 18, slot := 4, constantValue := 0 }, { name := "$VALUES", type := (.array (.object "com/example/tidemark/tidemark/table/RowKind")), accessFlags := 4122, slot := 4, constantValue := 0 }]
  methods := #[k6m0, k6m1, k6m2]
  instanceTypes := #[(.object "java/lang/String"), .int, .int, (.object "java/lang/String"), .byte]
  staticTypes := #[(.object "com/example/tidemark/tidemark/table/RowKind"), (.object "com/example/tidemark/tidemark/table/RowKind"), (.object "com/example/tidemark/tidemark/table/RowKind"), (.object "com/example/tidemark/tidemark/table/RowKind"), (.array (.object "com/example/tidemark/tidemark/table/RowKind"))]
  resolved := Array.replicate 118 none
  statics := some 0 }

def pool7 : Array CpInfo := pool [(2, .class_ 4), (1, u "java/lang/CharSequence"), (42, .class_ 48), (0, u "java/lang/CharSequence$1CodePointIterator"), (10, .class_ 60), (0, u "java/lang/CharSequence$1CharIterator"), (5, .class_ 67), (0, u "java/lang/Object")] 63

/-- java/lang/CharSequence -/
def k7 : Class := { plain "java/lang/CharSequence" (some 0) with
  accessFlags := 1537
  interfaces := #[]
  cf := some (fileOf pool7 2 #[.nestMembers #[47, 59]] #[] 1537 66 #[] #[])
  fields := #[]
  methods := #[]
  instanceTypes := #[]
  staticTypes := #[]
  resolved := Array.replicate 131 none
  statics := none }

def pool8 : Array CpInfo := pool [(1, .class_ 2), (0, u "java/lang/constant/ConstantDesc"), (0, .class_ 4), (0, u "java/lang/Object")] 32

/-- java/lang/constant/ConstantDesc -/
def k8 : Class := { plain "java/lang/constant/ConstantDesc" (some 0) with
  accessFlags := 1537
  interfaces := #[]
  cf := some (fileOf pool8 1 #[] #[] 1537 3 #[] #[])
  fields := #[]
  methods := #[]
  instanceTypes := #[]
  staticTypes := #[]
  resolved := Array.replicate 37 none
  statics := none }

def pool9 : Array CpInfo := pool [(1, .methodref 2 3), (0, .class_ 4), (0, .nameAndType 5 6), (0, u "java/lang/Object"), (0, u "<init>"), (0, u "()V"), (2, .fieldref 10 11), (0, .class_ 12), (0, .nameAndType 13 14), (0, u "java/lang/String"), (0, u "value"), (0, u "[B"), (0, .fieldref 10 16), (0, .nameAndType 17 18), (0, u "coder"), (0, u "B"), (2, u "hash"), (0, u "I"), (2, u "hashIsZero"), (0, u "Z"), (0, .methodref 10 28), (0, .nameAndType 5 29), (0, u "([CIILjava/lang/Void;)V"), (8, .fieldref 10 39), (0, .nameAndType 40 26), (0, u "COMPACT_STRINGS"), (1, .class_ 44), (1, u "java/lang/StringUTF16"), (0, u "compress"), (1, .methodref 42 48), (0, .nameAndType 49 50), (0, u "coderFromArrayLen"), (0, u "([BI)B"), (56, .class_ 109), (1, u "java/lang/StringLatin1"), (67, .methodref 42 178), (0, .nameAndType 45 179), (0, u "([CII)[B"), (361, .methodref 107 542), (0, .nameAndType 543 544), (0, u "equals"), (0, u "([B[B)Z"), (28, u "(Ljava/lang/Object;)Z"), (1, .class_ 576), (0, u "java/lang/CharSequence"), (22, u "CASE_INSENSITIVE_ORDER"), (0, u "Ljava/util/Comparator;"), (409, u "([C)V"), (90, u "serialPersistentFields"), (0, u "[Ljava/io/ObjectStreamField;"), (0, .class_ 1104), (0, u "java/lang/String$CaseInsensitiveComparator"), (1, .class_ 1107), (0, u "java/io/Serializable"), (0, .class_ 1109), (0, u "java/lang/Comparable"), (0, .class_ 1111), (0, u "java/lang/constant/Constable"), (0, .class_ 1113), (0, u "java/lang/constant/ConstantDesc"), (2, u "serialVersionUID"), (0, u "J"), (3, u "REPL"), (0, u "C"), (2, u "LATIN1"), (1, u "UTF16")] 323

def k9m0 : Method := { name := "<init>", desc := "()V", sig := { parameters := [], returnType := none }, accessFlags := 1, code := none }
def k9c1 : Code := { maxStack := 5, maxLocals := 2, code := jdk_42_method_3_code, exceptionTable := #[], attributes := #[] }
def k9m1 : Method := { name := "<init>", desc := "([C)V", sig := { parameters := [(.array .char)], returnType := none }, accessFlags := 1, code := some k9c1 }
def k9c2 : Code := { maxStack := 2, maxLocals := 3, code := jdk_42_method_66_code, exceptionTable := #[], attributes := #[] }
def k9m2 : Method := { name := "equals", desc := "(Ljava/lang/Object;)Z", sig := { parameters := [(.object "java/lang/Object")], returnType := some .boolean }, accessFlags := 1, code := some k9c2 }
def k9c3 : Code := { maxStack := 4, maxLocals := 6, code := jdk_42_method_149_code, exceptionTable := #[], attributes := #[] }
def k9m3 : Method := { name := "<init>", desc := "([CIILjava/lang/Void;)V", sig := { parameters := [(.array .char), .int, .int, (.object "java/lang/Void")], returnType := none }, accessFlags := 2, code := some k9c3 }
/-- java/lang/String -/
def k9 : Class := { plain "java/lang/String" (some 0) with
  accessFlags := 49
  interfaces := #[4, 3, 7, 2, 8]
  cf := some (fileOf pool9 10 #[.nestMembers #[1103]] #[{ accessFlags := 1, nameIndex := 5, descriptorIndex := 6, attributes := #[] }, { accessFlags := 1, nameIndex := 5, descriptorIndex := 1010, attributes := #[] }, { accessFlags := 1, nameIndex := 543, descriptorIndex := 573, attributes := #[] }, { accessFlags := 2, nameIndex := 5, descriptorIndex := 29, attributes := #[] }] 49 2 #[1106, 1108, 575, 1110, 1112] #[{ accessFlags := 18, nameIndex := 13, descriptorIndex := 14, attributes := #[] }, { accessFlags := 18, nameIndex := 17, descriptorIndex := 18, attributes := #[] }, { accessFlags := 2, nameIndex := 21, descriptorIndex := 22, attributes := #[] }, { accessFlags := 2, nameIndex := 25, descriptorIndex := 26, attributes := #[] }, { accessFlags := 26, nameIndex := 1116, descriptorIndex := 1117, attributes := #[] }, { accessFlags := 24, nameIndex := 40, descriptorIndex := 26, attributes := #[] }, { accessFlags := 26, nameIndex := 1101, descriptorIndex := 1102, attributes := #[] }, { accessFlags := 26, nameIndex := 1121, descriptorIndex := 1122, attributes := #[] }, { accessFlags := 25, nameIndex := 599, descriptorIndex := 600, attributes := #[] }, { accessFlags := 24, nameIndex := 1125, descriptorIndex := 18, attributes := #[] }, { accessFlags := 24, nameIndex := 1127, descriptorIndex := 18, attributes := #[] }])
  fields := #[{ name := "value", type := (.array .byte), accessFlags := 18, slot := 0, constantValue := 0 }, { name := "coder", type := .byte, accessFlags := 18, slot := 1, constantValue := 0 }, { name := "hash", type := .int, accessFlags := 2, slot := 2, constantValue := 0 }, { name := "hashIsZero", type := .boolean, accessFlags := 2, slot := 3, constantValue := 0 }, { name := "serialVersionUID", type := .long, accessFlags := 26, slot := 0, constantValue := 0 }, { name := "COMPACT_STRINGS", type := .boolean, accessFlags := 24, slot := 1, constantValue := 0 }, { name := "serialPersistentFields", type := (.array (.object "java/io/ObjectStreamField")), accessFlags := 26, slot := 2, constantValue := 0 }, { name := "REPL", type := .char, accessFlags := 26, slot := 3, constantValue := 0 }, { name := "CASE_INSENSITIVE_ORDER", type := (.object "java/util/Comparator"), accessFlags := 25, slot := 4, constantValue := 0 }, { name := "LATIN1", type := .byte, accessFlags := 24, slot := 5, constantValue := 0 }, { name := "UTF16", type := .byte, accessFlags := 24, slot := 6, constantValue := 0 }]
  methods := #[k9m0, k9m1, k9m2, k9m3]
  instanceTypes := #[(.array .byte), .byte, .int, .boolean]
  staticTypes := #[.long, .boolean, (.array (.object "java/io/ObjectStreamField")), .char, (.object "java/util/Comparator"), .byte, .byte]
  resolved := Array.replicate 1451 none
  statics := some 1 }

def pool10 : Array CpInfo := pool [(6, .class_ 8), (1, u "java/lang/Object"), (0, u "<init>"), (0, u "()V"), (1, .class_ 14), (1, u "java/lang/StringUTF16"), (31, u "$assertionsDisabled"), (0, u "Z"), (13, u "HI_BYTE_SHIFT"), (0, u "I"), (2, u "LO_BYTE_SHIFT"), (49, .methodref 12 116), (0, .nameAndType 117 118), (0, u "compress"), (0, u "([CI[BII)I"), (3, u "([CII)[B"), (138, u "coderFromArrayLen"), (0, u "([BI)B"), (106, .class_ 371), (1, u "java/lang/StringUTF16$LinesSpliterator"), (58, u "MAX_LENGTH"), (196, .class_ 628), (0, u "java/lang/StringUTF16$CodePointsSpliterator"), (0, .class_ 630), (0, u "java/lang/StringUTF16$CharsSpliterator")] 4

def k10m0 : Method := { name := "<init>", desc := "()V", sig := { parameters := [], returnType := none }, accessFlags := 0, code := none }
def k10c1 : Code := { maxStack := 2, maxLocals := 2, code := jdk_52_method_15_code, exceptionTable := #[], attributes := #[] }
def k10m1 : Method := { name := "coderFromArrayLen", desc := "([BI)B", sig := { parameters := [(.array .byte), .int], returnType := some .byte }, accessFlags := 8, code := some k10c1 }
def k10c2 : Code := { maxStack := 5, maxLocals := 6, code := jdk_52_method_16_code, exceptionTable := #[], attributes := #[] }
def k10m2 : Method := { name := "compress", desc := "([CII)[B", sig := { parameters := [(.array .char), .int, .int], returnType := some (.array .byte) }, accessFlags := 9, code := some k10c2 }
def k10c3 : Code := { maxStack := 3, maxLocals := 7, code := jdk_52_method_21_code, exceptionTable := #[], attributes := #[] }
def k10m3 : Method := { name := "compress", desc := "([CI[BII)I", sig := { parameters := [(.array .char), .int, (.array .byte), .int, .int], returnType := some .int }, accessFlags := 9, code := some k10c3 }
/-- java/lang/StringUTF16 -/
def k10 : Class := { plain "java/lang/StringUTF16" (some 0) with
  accessFlags := 48
  interfaces := #[]
  cf := some (fileOf pool10 12 #[.nestMembers #[627, 629, 369]] #[{ accessFlags := 0, nameIndex := 9, descriptorIndex := 10, attributes := #[] }, { accessFlags := 8, nameIndex := 261, descriptorIndex := 262, attributes := #[] }, { accessFlags := 9, nameIndex := 117, descriptorIndex := 122, attributes := #[] }, { accessFlags := 9, nameIndex := 117, descriptorIndex := 118, attributes := #[] }] 48 6 #[] #[{ accessFlags := 26, nameIndex := 61, descriptorIndex := 62, attributes := #[] }, { accessFlags := 26, nameIndex := 65, descriptorIndex := 62, attributes := #[] }, { accessFlags := 24, nameIndex := 430, descriptorIndex := 62, attributes := #[] }, { accessFlags := 4120, nameIndex := 46, descriptorIndex := 47, attributes := #[] }])
  fields := #[{ name := "HI_BYTE_SHIFT", type := .int, accessFlags := 26, slot := 0, constantValue := 0 }, { name := "LO_BYTE_SHIFT", type := .int, accessFlags := 26, slot := 1, constantValue := 0 }, { name := "MAX_LENGTH", type := .int, accessFlags := 24, slot := 2, constantValue := 0 }, { name := "$assertionsDisabled", type := .boolean, accessFlags := 4120, slot := 3, constantValue := 0 }]
  methods := #[k10m0, k10m1, k10m2, k10m3]
  instanceTypes := #[]
  staticTypes := #[.int, .int, .int, .boolean]
  resolved := Array.replicate 635 none
  statics := none }

def pool11 : Array CpInfo := pool [(1, .class_ 2), (0, u "java/lang/Cloneable"), (0, .class_ 4), (0, u "java/lang/Object")] 2

/-- java/lang/Cloneable -/
def k11 : Class := { plain "java/lang/Cloneable" (some 0) with
  accessFlags := 1537
  interfaces := #[]
  cf := some (fileOf pool11 1 #[] #[] 1537 3 #[] #[])
  fields := #[]
  methods := #[]
  instanceTypes := #[]
  staticTypes := #[]
  resolved := Array.replicate 7 none
  statics := none }

def pool12 : Array CpInfo := pool [(4, .class_ 6), (1, u "java/lang/Object"), (0, u "<init>"), (0, u "()V"), (5, .class_ 16), (1, u "java/lang/StringLatin1"), (104, u "$assertionsDisabled"), (0, u "Z"), (98, .class_ 223), (1, u "java/lang/StringLatin1$LinesSpliterator"), (57, u "equals"), (0, u "([B[B)Z"), (107, .class_ 391), (0, u "java/lang/StringLatin1$CharsSpliterator")] 3

def k12m0 : Method := { name := "<init>", desc := "()V", sig := { parameters := [], returnType := none }, accessFlags := 0, code := none }
def k12c1 : Code := { maxStack := 3, maxLocals := 3, code := jdk_43_method_13_code, exceptionTable := #[], attributes := #[] }
def k12m1 : Method := { name := "equals", desc := "([B[B)Z", sig := { parameters := [(.array .byte), (.array .byte)], returnType := some .boolean }, accessFlags := 9, code := some k12c1 }
/-- java/lang/StringLatin1 -/
def k12 : Class := { plain "java/lang/StringLatin1" (some 0) with
  accessFlags := 48
  interfaces := #[]
  cf := some (fileOf pool12 14 #[.nestMembers #[390, 221]] #[{ accessFlags := 0, nameIndex := 7, descriptorIndex := 8, attributes := #[] }, { accessFlags := 9, nameIndex := 281, descriptorIndex := 282, attributes := #[] }] 48 4 #[] #[{ accessFlags := 4120, nameIndex := 121, descriptorIndex := 122, attributes := #[] }])
  fields := #[{ name := "$assertionsDisabled", type := .boolean, accessFlags := 4120, slot := 0, constantValue := 0 }]
  methods := #[k12m0, k12m1]
  instanceTypes := #[]
  staticTypes := #[.boolean]
  resolved := Array.replicate 395 none
  statics := none }

def pool13 : Array CpInfo := pool [(2, .class_ 4), (1, u "java/lang/Object"), (0, u "<init>"), (0, u "()V"), (17, .class_ 26), (1, u "jdk/internal/util/Preconditions"), (28, .class_ 56), (0, u "jdk/internal/util/Preconditions$4"), (57, .class_ 115), (0, u "jdk/internal/util/Preconditions$1"), (7, u "SIOOBE_FORMATTER"), (0, u "Ljava/util/function/BiFunction;"), (0, .class_ 126), (0, u "jdk/internal/util/Preconditions$2"), (3, u "AIOOBE_FORMATTER"), (0, .class_ 132), (0, u "jdk/internal/util/Preconditions$3"), (3, u "IOOBE_FORMATTER")] 57

def k13m0 : Method := { name := "<init>", desc := "()V", sig := { parameters := [], returnType := none }, accessFlags := 1, code := none }
/-- jdk/internal/util/Preconditions -/
def k13 : Class := { plain "jdk/internal/util/Preconditions" (some 0) with
  accessFlags := 33
  interfaces := #[]
  cf := some (fileOf pool13 24 #[.nestMembers #[55, 131, 125, 114]] #[{ accessFlags := 1, nameIndex := 5, descriptorIndex := 6, attributes := #[] }] 33 2 #[] #[{ accessFlags := 25, nameIndex := 123, descriptorIndex := 124, attributes := #[] }, { accessFlags := 25, nameIndex := 130, descriptorIndex := 124, attributes := #[] }, { accessFlags := 25, nameIndex := 136, descriptorIndex := 124, attributes := #[] }])
  fields := #[{ name := "SIOOBE_FORMATTER", type := (.object "java/util/function/BiFunction"), accessFlags := 25, slot := 0, constantValue := 0 }, { name := "AIOOBE_FORMATTER", type := (.object "java/util/function/BiFunction"), accessFlags := 25, slot := 1, constantValue := 0 }, { name := "IOOBE_FORMATTER", type := (.object "java/util/function/BiFunction"), accessFlags := 25, slot := 2, constantValue := 0 }]
  methods := #[k13m0]
  instanceTypes := #[]
  staticTypes := #[(.object "java/util/function/BiFunction"), (.object "java/util/function/BiFunction"), (.object "java/util/function/BiFunction")]
  resolved := Array.replicate 194 none
  statics := some 2 }

def pool14 : Array CpInfo := pool [(9, u "<init>"), (6, .class_ 18), (1, u "java/lang/Object"), (0, u "()V"), (1, .class_ 23), (1, u "jdk/internal/util/ArraysSupport"), (0, u "LOG2_ARRAY_LONG_INDEX_SCALE"), (0, u "I"), (2, u "U"), (0, u "Ljdk/internal/misc/Unsafe;"), (8, u "BIG_ENDIAN"), (0, u "Z"), (8, u "LOG2_BYTE_BIT_SIZE"), (4, u "LOG2_ARRAY_INT_INDEX_SCALE"), (54, u "JLA"), (0, u "Ljdk/internal/access/JavaLangAccess;"), (11, u "LOG2_ARRAY_BOOLEAN_INDEX_SCALE"), (9, u "LOG2_ARRAY_BYTE_INDEX_SCALE"), (5, u "LOG2_ARRAY_CHAR_INDEX_SCALE"), (5, u "LOG2_ARRAY_SHORT_INDEX_SCALE"), (18, u "LOG2_ARRAY_FLOAT_INDEX_SCALE"), (24, u "LOG2_ARRAY_DOUBLE_INDEX_SCALE"), (89, u "T_BOOLEAN"), (2, u "T_CHAR"), (1, u "T_FLOAT"), (1, u "T_DOUBLE"), (1, u "T_BYTE"), (1, u "T_SHORT"), (1, u "T_INT"), (1, u "T_LONG"), (1, u "SOFT_MAX_ARRAY_LENGTH")] 83

def k14m0 : Method := { name := "<init>", desc := "()V", sig := { parameters := [], returnType := none }, accessFlags := 2, code := none }
/-- jdk/internal/util/ArraysSupport -/
def k14 : Class := { plain "jdk/internal/util/ArraysSupport" (some 0) with
  accessFlags := 33
  interfaces := #[]
  cf := some (fileOf pool14 21 #[] #[{ accessFlags := 2, nameIndex := 9, descriptorIndex := 19, attributes := #[] }] 33 16 #[] #[{ accessFlags := 24, nameIndex := 28, descriptorIndex := 29, attributes := #[] }, { accessFlags := 26, nameIndex := 38, descriptorIndex := 39, attributes := #[] }, { accessFlags := 25, nameIndex := 121, descriptorIndex := 25, attributes := #[] }, { accessFlags := 25, nameIndex := 131, descriptorIndex := 25, attributes := #[] }, { accessFlags := 25, nameIndex := 137, descriptorIndex := 25, attributes := #[] }, { accessFlags := 25, nameIndex := 143, descriptorIndex := 25, attributes := #[] }, { accessFlags := 25, nameIndex := 53, descriptorIndex := 25, attributes := #[] }, { accessFlags := 25, nameIndex := 24, descriptorIndex := 25, attributes := #[] }, { accessFlags := 25, nameIndex := 162, descriptorIndex := 25, attributes := #[] }, { accessFlags := 25, nameIndex := 187, descriptorIndex := 25, attributes := #[] }, { accessFlags := 26, nameIndex := 48, descriptorIndex := 25, attributes := #[] }, { accessFlags := 25, nameIndex := 277, descriptorIndex := 25, attributes := #[] }, { accessFlags := 25, nameIndex := 280, descriptorIndex := 25, attributes := #[] }, { accessFlags := 25, nameIndex := 282, descriptorIndex := 25, attributes := #[] }, { accessFlags := 25, nameIndex := 284, descriptorIndex := 25, attributes := #[] }, { accessFlags := 25, nameIndex := 286, descriptorIndex := 25, attributes := #[] }, { accessFlags := 25, nameIndex := 288, descriptorIndex := 25, attributes := #[] }, { accessFlags := 25, nameIndex := 290, descriptorIndex := 25, attributes := #[] }, { accessFlags := 25, nameIndex := 292, descriptorIndex := 25, attributes := #[] }, { accessFlags := 26, nameIndex := 108, descriptorIndex := 109, attributes := #[] }, { accessFlags := 25, nameIndex := 294, descriptorIndex := 25, attributes := #[] }])
  fields := #[{ name := "U", type := (.object "jdk/internal/misc/Unsafe"), accessFlags := 24, slot := 0, constantValue := 0 }, { name := "BIG_ENDIAN", type := .boolean, accessFlags := 26, slot := 1, constantValue := 0 }, { name := "LOG2_ARRAY_BOOLEAN_INDEX_SCALE", type := .int, accessFlags := 25, slot := 2, constantValue := 0 }, { name := "LOG2_ARRAY_BYTE_INDEX_SCALE", type := .int, accessFlags := 25, slot := 3, constantValue := 0 }, { name := "LOG2_ARRAY_CHAR_INDEX_SCALE", type := .int, accessFlags := 25, slot := 4, constantValue := 0 }, { name := "LOG2_ARRAY_SHORT_INDEX_SCALE", type := .int, accessFlags := 25, slot := 5, constantValue := 0 }, { name := "LOG2_ARRAY_INT_INDEX_SCALE", type := .int, accessFlags := 25, slot := 6, constantValue := 0 }, { name := "LOG2_ARRAY_LONG_INDEX_SCALE", type := .int, accessFlags := 25, slot := 7, constantValue := 0 }, { name := "LOG2_ARRAY_FLOAT_INDEX_SCALE", type := .int, accessFlags := 25, slot := 8, constantValue := 0 }, { name := "LOG2_ARRAY_DOUBLE_INDEX_SCALE", type := .int, accessFlags := 25, slot := 9, constantValue := 0 }, { name := "LOG2_BYTE_BIT_SIZE", type := .int, accessFlags := 26, slot := 10, constantValue := 0 }, { name := "T_BOOLEAN", type := .int, accessFlags := 25, slot := 11, constantValue := 0 }, { name := "T_CHAR", type := .int, accessFlags := 25, slot := 12, constantValue := 0 }, { name := "T_FLOAT", type := .int, accessFlags := 25, slot := 13, constantValue := 0 }, { name := "T_DOUBLE", type := .int, accessFlags := 25, slot := 14, constantValue := 0 }, { name := "T_BYTE", type := .int, accessFlags := 25, slot := 15, constantValue := 0 }, { name := "T_SHORT", type := .int, accessFlags := 25, slot := 16, constantValue := 0 }, { name := "T_INT", type := .int, accessFlags := 25, slot := 17, constantValue := 0 }, { name := "T_LONG", type := .int, accessFlags := 25, slot := 18, constantValue := 0 }, { name := "JLA", type := (.object "jdk/internal/access/JavaLangAccess"), accessFlags := 26, slot := 19, constantValue := 0 }, { name := "SOFT_MAX_ARRAY_LENGTH", type := .int, accessFlags := 25, slot := 20, constantValue := 0 }]
  methods := #[k14m0]
  instanceTypes := #[]
  staticTypes := #[(.object "jdk/internal/misc/Unsafe"), .boolean, .int, .int, .int, .int, .int, .int, .int, .int, .int, .int, .int, .int, .int, .int, .int, .int, .int, (.object "jdk/internal/access/JavaLangAccess"), .int]
  resolved := Array.replicate 378 none
  statics := none }

/-- the primitive byte -/
def k15 : Class := { plain "byte" none with kind := .primitive 'B', accessFlags := 0x411 }
/-- [B -/
def k16 : Class := { plain "[B" (some 0) with kind := .array 15 .byte, interfaces := #[11, 4], accessFlags := 1041 }

/-- the primitive char -/
def k17 : Class := { plain "char" none with kind := .primitive 'C', accessFlags := 0x411 }
/-- [C -/
def k18 : Class := { plain "[C" (some 0) with kind := .array 17 .char, interfaces := #[11, 4], accessFlags := 1041 }

/-- the primitive int -/
def k19 : Class := { plain "int" none with kind := .primitive 'I', accessFlags := 0x411 }
/-- [I -/
def k20 : Class := { plain "[I" (some 0) with kind := .array 19 .int, interfaces := #[11, 4], accessFlags := 1041 }

/-- [Lcom/example/tidemark/tidemark/table/RowKind; -/
def k21 : Class := { plain "[Lcom/example/tidemark/tidemark/table/RowKind;" (some 0) with kind := .array 6 (.object "com/example/tidemark/tidemark/table/RowKind"), interfaces := #[11, 4], accessFlags := 1041 }

def heap : Heap := #[{ cls := 6, slots := #[.ref 4, .ref 7, .ref 10, .ref 13, .ref 3], vm := .statics 6 },
  { cls := 9, slots := #[.long 0, .int 1, .null, .int 0, .null, .int 0, .int 0], vm := .statics 9 },
  { cls := 13, slots := #[.null, .null, .null], vm := .statics 13 },
  { cls := 21, slots := #[.ref 4, .ref 7, .ref 10, .ref 13], vm := .none },
  { cls := 6, slots := #[.null, .int 0, .int 0, .ref 5, .int 0], vm := .none },
  { cls := 9, slots := #[.ref 6, .int 0, .int 0, .int 0], vm := .none },
  { cls := 16, slots := #[.int 43, .int 73], vm := .none },
  { cls := 6, slots := #[.null, .int 1, .int 0, .ref 8, .int 0], vm := .none },
  { cls := 9, slots := #[.ref 9, .int 0, .int 0, .int 0], vm := .none },
  { cls := 16, slots := #[.int 45, .int 85], vm := .none },
  { cls := 6, slots := #[.null, .int 2, .int 0, .ref 11, .int 0], vm := .none },
  { cls := 9, slots := #[.ref 12, .int 0, .int 0, .int 0], vm := .none },
  { cls := 16, slots := #[.int 43, .int 85], vm := .none },
  { cls := 6, slots := #[.null, .int 3, .int 0, .ref 14, .int 0], vm := .none },
  { cls := 9, slots := #[.ref 15, .int 0, .int 0, .int 0], vm := .none },
  { cls := 16, slots := #[.int 45, .int 68], vm := .none }]
def classes : Array Class := #[k0, k1, k2, k3, k4, k5, k6, k7, k8, k9, k10, k11, k12, k13, k14, k15, k16, k17, k18, k19, k20, k21]
def interned : List (Array UInt16 × Addr) := []
def slotsUsed : Nat := 63
def theMethod : MethodId := ⟨1, 2⟩
def args0 : Array Value := #[.int 1, .int 2, .int 3]
def aboutOver (below : List Frame) : State where
  vm := { classes := classes, interned := interned.toArray }
  heap := heap
  slotsUsed := slotsUsed
  threads := #[{ frames := .invoking theMethod args0 :: below }]
def below0 : List Frame := [.native { method := ⟨0, 0⟩, args := #[] }]
def about1 : State := aboutOver below0
def p0 : Program := .bare "" "" ""
def e0 : Env := launch0.env 0 0 0
theorem w_frames : about1.frames = Frame.invoking theMethod args0 :: below0 := rfl
set_option maxRecDepth 65536 in
theorem w_args : argsFit about1.vm theMethod args0 = true := by decide +kernel
set_option maxRecDepth 65536 in
theorem w_heap : heapFits about1 = true := by decide +kernel
set_option maxRecDepth 65536 in
theorem w_runnable : about1.curStatus? = some .runnable := by decide +kernel
set_option maxRecDepth 65536 in
theorem w_alone : about1.alone = true := by decide +kernel
set_option maxRecDepth 65536 in
theorem w_named : about1.methodNamed? x = some theMethod := by decide +kernel
set_option maxRecDepth 65536 in
theorem w_hears : about1.hears theMethod below0 = true := by decide +kernel
set_option maxRecDepth 65536 in
theorem w_ripe : about1.ripe theMethod args0 below0 = true := by decide +kernel
theorem w_running : about1.status = .running := rfl
set_option maxRecDepth 65536 in
theorem w_room : about1.hasRoom e0.platform room_1 = true :=
  launch0.hasRoom_least _ room_1 (by decide +kernel) (by decide +kernel) (by decide +kernel) (by decide +kernel) (by decide +kernel) (by decide +kernel)
theorem allAtoms_all (ts : List Jvm.Cond) (a : Array Jvm.Value) (st : Jvm.State) : (allAtoms ts).before a st = ts.all (fun c => c.before a st) := by
  induction ts with
  | nil => rfl
  | cons c t ih =>
    show (Jvm.Cond.and c (allAtoms t)).before a st = _
    rw [Jvm.Cond.before_and, ih, List.all_cons]
def words1 : List Jvm.Cond := Jvm.Cond.code x code maxLocals ret :: tables_1
/-- a 'code' word, met by the world's own term for the bytes: nothing is compared byte by byte -/
theorem code_word {y : MethodName} {bytes : ByteArray} {mx : Nat} {rt : Option FieldType} {a : Array Value} {s : State} {m : MethodId} {meth : Method} {c : Code} (h1 : s.methodNamed? y = some m) (h2 : s.vm.method? m = some meth) (h3 : meth.code = some c) (h4 : c.code = bytes)
    (h5 : (c.maxLocals == mx && c.exceptionTable.isEmpty && decide (c.maxStack ≤ mostOperands) && decide (meth.sig.returnType = rt) && !meth.locks && decide (parseMethodDescriptor y.desc = some meth.sig)) = true) : (Jvm.Cond.code y bytes mx rt).before a s = true := by
  simp only [Bool.and_eq_true, beq_iff_eq, Bool.not_eq_true', decide_eq_true_eq] at h5
  obtain ⟨⟨⟨⟨⟨g1, g2⟩, g3⟩, g4⟩, g5⟩, g6⟩ := h5
  simp [Cond.before, Cond.holds, Cond.value, h1, h2, h3, h4, g1, g2, g3, g4, g5, g6]
def isCode : Jvm.Cond → Bool
  | .code _ _ _ _ => true
  | _ => false
theorem all_split {L : List Jvm.Cond} {P : Jvm.Cond → Bool} (h1 : L.all (fun c => isCode c || P c) = true) (h2 : ∀ c ∈ L.filter isCode, P c = true) : L.all P = true := by
  refine List.all_eq_true.mpr fun c hc => ?_
  have h := List.all_eq_true.mp h1 c hc
  rcases Bool.eq_false_or_eq_true (isCode c) with hi | hi
  · exact h2 c (List.mem_filter.mpr ⟨hc, hi⟩)
  · simpa [hi] using h
set_option maxRecDepth 65536 in
theorem w_c0 : (Jvm.Cond.code x code maxLocals ret).before args0 about1 = true := code_word (m := ⟨1, 2⟩) (meth := k1m2) (c := k1c2) (by decide +kernel) rfl rfl rfl (by decide +kernel)
set_option maxRecDepth 65536 in
theorem w_c1 : (Jvm.Cond.code ({ cls := "com/example/tidemark/tidemark/table/RowKindFromShortNamePinLaw", name := "pick", desc := "(I)C" } : Jvm.MethodName) method_2_code (2 : Nat) (Option.some Jvm.ClassFile.FieldType.char)).before args0 about1 = true := code_word (m := ⟨1, 1⟩) (meth := k1m1) (c := k1c1) (by decide +kernel) rfl rfl rfl (by decide +kernel)
set_option maxRecDepth 65536 in
theorem w_c2 : (Jvm.Cond.code ({ cls := "java/lang/String", name := "<init>", desc := "([C)V" } : Jvm.MethodName) jdk_42_method_3_code (2 : Nat) (Option.none : Option Jvm.ClassFile.FieldType)).before args0 about1 = true := code_word (m := ⟨9, 1⟩) (meth := k9m1) (c := k9c1) (by decide +kernel) rfl rfl rfl (by decide +kernel)
set_option maxRecDepth 65536 in
theorem w_c3 : (Jvm.Cond.code ({ cls := "java/lang/String", name := "<init>", desc := "([CIILjava/lang/Void;)V" } : Jvm.MethodName) jdk_42_method_149_code (6 : Nat) (Option.none : Option Jvm.ClassFile.FieldType)).before args0 about1 = true := code_word (m := ⟨9, 3⟩) (meth := k9m3) (c := k9c3) (by decide +kernel) rfl rfl rfl (by decide +kernel)
set_option maxRecDepth 65536 in
theorem w_c4 : (Jvm.Cond.code ({ cls := "java/lang/Object", name := "<init>", desc := "()V" } : Jvm.MethodName) object_method_1_code (1 : Nat) (Option.none : Option Jvm.ClassFile.FieldType)).before args0 about1 = true := code_word (m := ⟨0, 0⟩) (meth := k0m0) (c := k0c0) (by decide +kernel) rfl rfl rfl (by decide +kernel)
set_option maxRecDepth 65536 in
theorem w_c5 : (Jvm.Cond.code ({ cls := "java/lang/StringUTF16", name := "compress", desc := "([CII)[B" } : Jvm.MethodName) jdk_52_method_16_code (6 : Nat) (Option.some (Jvm.ClassFile.FieldType.array Jvm.ClassFile.FieldType.byte))).before args0 about1 = true := code_word (m := ⟨10, 2⟩) (meth := k10m2) (c := k10c2) (by decide +kernel) rfl rfl rfl (by decide +kernel)
set_option maxRecDepth 65536 in
theorem w_c6 : (Jvm.Cond.code ({ cls := "java/lang/StringUTF16", name := "compress", desc := "([CI[BII)I" } : Jvm.MethodName) jdk_52_method_21_code (7 : Nat) (Option.some Jvm.ClassFile.FieldType.int)).before args0 about1 = true := code_word (m := ⟨10, 3⟩) (meth := k10m3) (c := k10c3) (by decide +kernel) rfl rfl rfl (by decide +kernel)
set_option maxRecDepth 65536 in
theorem w_c7 : (Jvm.Cond.code ({ cls := "java/lang/StringUTF16", name := "coderFromArrayLen", desc := "([BI)B" } : Jvm.MethodName) jdk_52_method_15_code (2 : Nat) (Option.some Jvm.ClassFile.FieldType.byte)).before args0 about1 = true := code_word (m := ⟨10, 1⟩) (meth := k10m1) (c := k10c1) (by decide +kernel) rfl rfl rfl (by decide +kernel)
set_option maxRecDepth 65536 in
theorem w_c8 : (Jvm.Cond.code ({ cls := "com/example/tidemark/tidemark/table/RowKind", name := "fromShortName", desc := "(Ljava/lang/String;)Lcom/example/tidemark/tidemark/table/RowKind;" } : Jvm.MethodName) prog_28_method_4_code (5 : Nat) (Option.some (Jvm.ClassFile.FieldType.object "com/example/tidemark/tidemark/table/RowKind"))).before args0 about1 = true := code_word (m := ⟨6, 1⟩) (meth := k6m1) (c := k6c1) (by decide +kernel) rfl rfl rfl (by decide +kernel)
set_option maxRecDepth 65536 in
theorem w_c9 : (Jvm.Cond.code ({ cls := "com/example/tidemark/tidemark/table/RowKind", name := "values", desc := "()[Lcom/example/tidemark/tidemark/table/RowKind;" } : Jvm.MethodName) prog_28_method_1_code (0 : Nat) (Option.some (Jvm.ClassFile.FieldType.array (Jvm.ClassFile.FieldType.object "com/example/tidemark/tidemark/table/RowKind")))).before args0 about1 = true := code_word (m := ⟨6, 0⟩) (meth := k6m0) (c := k6c0) (by decide +kernel) rfl rfl rfl (by decide +kernel)
set_option maxRecDepth 65536 in
theorem w_c10 : (Jvm.Cond.code ({ cls := "java/lang/String", name := "equals", desc := "(Ljava/lang/Object;)Z" } : Jvm.MethodName) jdk_42_method_66_code (3 : Nat) (Option.some Jvm.ClassFile.FieldType.boolean)).before args0 about1 = true := code_word (m := ⟨9, 2⟩) (meth := k9m2) (c := k9c2) (by decide +kernel) rfl rfl rfl (by decide +kernel)
set_option maxRecDepth 65536 in
theorem w_c11 : (Jvm.Cond.code ({ cls := "java/lang/StringLatin1", name := "equals", desc := "([B[B)Z" } : Jvm.MethodName) jdk_43_method_13_code (3 : Nat) (Option.some Jvm.ClassFile.FieldType.boolean)).before args0 about1 = true := code_word (m := ⟨12, 1⟩) (meth := k12m1) (c := k12c1) (by decide +kernel) rfl rfl rfl (by decide +kernel)
set_option maxRecDepth 65536 in
theorem w_c12 : (Jvm.Cond.code ({ cls := "com/example/tidemark/tidemark/table/RowKind", name := "shortName", desc := "()Ljava/lang/String;" } : Jvm.MethodName) prog_28_method_6_code (1 : Nat) (Option.some (Jvm.ClassFile.FieldType.object "java/lang/String"))).before args0 about1 = true := code_word (m := ⟨6, 2⟩) (meth := k6m2) (c := k6c2) (by decide +kernel) rfl rfl rfl (by decide +kernel)
def codes1 : List Jvm.Cond := [Jvm.Cond.code x code maxLocals ret, Jvm.Cond.code ({ cls := "com/example/tidemark/tidemark/table/RowKindFromShortNamePinLaw", name := "pick", desc := "(I)C" } : Jvm.MethodName) method_2_code (2 : Nat) (Option.some Jvm.ClassFile.FieldType.char), Jvm.Cond.code ({ cls := "java/lang/String", name := "<init>", desc := "([C)V" } : Jvm.MethodName) jdk_42_method_3_code (2 : Nat) (Option.none : Option Jvm.ClassFile.FieldType), Jvm.Cond.code ({ cls := "java/lang/String", name := "<init>", desc := "([CIILjava/lang/Void;)V" } : Jvm.MethodName) jdk_42_method_149_code (6 : Nat) (Option.none : Option Jvm.ClassFile.FieldType), Jvm.Cond.code ({ cls := "java/lang/Object", name := "<init>", desc := "()V" } : Jvm.MethodName) object_method_1_code (1 : Nat) (Option.none : Option Jvm.ClassFile.FieldType), Jvm.Cond.code ({ cls := "java/lang/StringUTF16", name := "compress", desc := "([CII)[B" } : Jvm.MethodName) jdk_52_method_16_code (6 : Nat) (Option.some (Jvm.ClassFile.FieldType.array Jvm.ClassFile.FieldType.byte)), Jvm.Cond.code ({ cls := "java/lang/StringUTF16", name := "compress", desc := "([CI[BII)I" } : Jvm.MethodName) jdk_52_method_21_code (7 : Nat) (Option.some Jvm.ClassFile.FieldType.int), Jvm.Cond.code ({ cls := "java/lang/StringUTF16", name := "coderFromArrayLen", desc := "([BI)B" } : Jvm.MethodName) jdk_52_method_15_code (2 : Nat) (Option.some Jvm.ClassFile.FieldType.byte), Jvm.Cond.code ({ cls := "com/example/tidemark/tidemark/table/RowKind", name := "fromShortName", desc := "(Ljava/lang/String;)Lcom/example/tidemark/tidemark/table/RowKind;" } : Jvm.MethodName) prog_28_method_4_code (5 : Nat) (Option.some (Jvm.ClassFile.FieldType.object "com/example/tidemark/tidemark/table/RowKind")), Jvm.Cond.code ({ cls := "com/example/tidemark/tidemark/table/RowKind", name := "values", desc := "()[Lcom/example/tidemark/tidemark/table/RowKind;" } : Jvm.MethodName) prog_28_method_1_code (0 : Nat) (Option.some (Jvm.ClassFile.FieldType.array (Jvm.ClassFile.FieldType.object "com/example/tidemark/tidemark/table/RowKind"))), Jvm.Cond.code ({ cls := "java/lang/String", name := "equals", desc := "(Ljava/lang/Object;)Z" } : Jvm.MethodName) jdk_42_method_66_code (3 : Nat) (Option.some Jvm.ClassFile.FieldType.boolean), Jvm.Cond.code ({ cls := "java/lang/StringLatin1", name := "equals", desc := "([B[B)Z" } : Jvm.MethodName) jdk_43_method_13_code (3 : Nat) (Option.some Jvm.ClassFile.FieldType.boolean), Jvm.Cond.code ({ cls := "com/example/tidemark/tidemark/table/RowKind", name := "shortName", desc := "()Ljava/lang/String;" } : Jvm.MethodName) prog_28_method_6_code (1 : Nat) (Option.some (Jvm.ClassFile.FieldType.object "java/lang/String"))]
set_option maxRecDepth 65536 in
theorem codes_eq : words1.filter isCode = codes1 := rfl
theorem w_codes : ∀ c ∈ words1.filter isCode, c.before args0 about1 = true := by
  rw [codes_eq]
  intro c hc
  simp only [codes1, List.mem_cons, List.not_mem_nil, or_false] at hc
  rcases hc with rfl | rfl | rfl | rfl | rfl | rfl | rfl | rfl | rfl | rfl | rfl | rfl | rfl
  · exact w_c0
  · exact w_c1
  · exact w_c2
  · exact w_c3
  · exact w_c4
  · exact w_c5
  · exact w_c6
  · exact w_c7
  · exact w_c8
  · exact w_c9
  · exact w_c10
  · exact w_c11
  · exact w_c12
set_option maxRecDepth 65536 in
theorem w_t1 : (words1.take 24).all (fun c => isCode c || c.before args0 about1) = true := by decide +kernel
set_option maxRecDepth 65536 in
theorem w_t2 : ((words1.drop 24).take 24).all (fun c => isCode c || c.before args0 about1) = true := by decide +kernel
set_option maxRecDepth 65536 in
theorem w_t3 : (((words1.drop 24).drop 24).take 24).all (fun c => isCode c || c.before args0 about1) = true := by decide +kernel
set_option maxRecDepth 65536 in
theorem w_t4 : (((words1.drop 24).drop 24).drop 24).all (fun c => isCode c || c.before args0 about1) = true := by decide +kernel
theorem w_tables : (allAtoms (Jvm.Cond.code x code maxLocals ret :: tables_1)).before args0 about1 = true := by
  rw [allAtoms_all]
  show words1.all (fun c => c.before args0 about1) = true
  refine all_split ?_ w_codes
  rw [← List.take_append_drop 24 words1, List.all_append, w_t1, ← List.take_append_drop 24 (words1.drop 24), List.all_append, w_t2, ← List.take_append_drop 24 ((words1.drop 24).drop 24), List.all_append, w_t3, w_t4]
  rfl
set_option maxRecDepth 65536 in
theorem w_rest : rest_1_c.before args0 about1 = true := by decide +kernel
set_option maxRecDepth 65536 in
theorem w_case : (Jvm.Cond.and given_1 narrow_1).before args0 about1 = true := by decide +kernel
theorem w_applies : (headSpec (Jvm.Cond.code x code maxLocals ret :: tables_1) room_1).applies x e0.platform about1 = true :=
  (Spec.applies_iff w_frames).mpr ⟨w_running, w_runnable, w_alone, w_named, w_hears, w_ripe, w_room, w_tables⟩
theorem atStart : AtStart classFile x code maxLocals ret World_1 tables_1 room_1 Calls_1 rest_1 Pre_1 launch0 p0 e0 about1 theMethod args0 below0 :=
  ⟨lists_1, trivial, launch0.admits_env _ _ _, launch0.least_env, fairChoices_fair.cas, fairChoices_fair.clock, w_frames, w_args, w_heap, w_applies, trivial, w_rest, w_case⟩
end start1
theorem witness_1 : WitnessClaimed_1 := ⟨start1.p0, start1.e0, start1.about1, start1.theMethod, start1.args0, start1.below0, start1.atStart⟩
end Jvm.Pilot.@@N@@
