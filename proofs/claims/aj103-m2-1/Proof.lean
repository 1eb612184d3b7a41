import JvmDerived
import JvmDerived.Pilot.@@N@@Statement
import JvmDerived.Pilot.@@N@@Code
set_option linter.unusedVariables false
set_option linter.unusedSimpArgs false
namespace Jvm.RoadKit
open Sem ClassFile Op Lib Jvm.Stand Jvm.Free Jvm.LawKit
section New
variable {p : Program} {l : Launch} {e : Env} {R : Room} {s : State} {m : MethodId} {args : Array Value} {below : List Frame} {meth : Method} {c : Code} {T : State} {locs : List Loc} {cells slots : Nat}
theorem retI (X : Stand p l e R s m args below meth c T locs cells slots) (hx : p.tables.exec = Jvm.exec) {pc : Nat} {Ls : Array Slot} {z : Int32} {rest : List Value} (hret : meth.sig.returnType = some .int) (hd : decode c.code pc = .ok (.ireturn, 1)) {fs : List Frame}
    (hl : ∀ (f : JFrame) (acts : List Action), f.method = m → f.locked = none → f.entered = [] → (doReturn e (T.setTop f) acts (some (.int z))).1 = T.setFrames fs) : Steps p.tables e below (T.setTop (mkF m pc Ls (.int z :: rest))) (T.setFrames fs) := by
  have hm' : T.vm.method? m = some meth := X.method'
  have hn : narrow .int (.int z) = .int z := rfl
  show Steps p.tables e below (T.setTop { method := m, pc := pc, locals := Ls, stack := _ :: rest, locked := none }) _
  jvm_step X.here [X.here.top, hx, hd, hm', hret, hn]
  first | (intro acts; rw [hl _ acts rfl rfl rfl]) | rw [hl _ _ rfl rfl rfl]
  exact Steps.refl _
end New
theorem own_sta_keep {Z : State} {h h' : Heap} {C n d : String} {w : Value} {ws : List Addr} (F : Sta Z h C n d w) (K : Keep h h' ws) (q : ∀ x ∈ ws, ∃ c : Cell, h[x]? = some c ∧ c.vm.isStatics = false) : Sta Z h' C n d w := by
  obtain ⟨cf, i, k, f, st, cell, h1, h2, h3, h4, h5, h6, h7⟩ := F
  refine ⟨cf, i, k, f, st, cell, h1, h2, h3, h4, K.2.1 st cell h5 (fun hm => ?_), h6, h7⟩
  obtain ⟨c, g1, g2⟩ := q st hm
  cases h5.symm.trans g1
  rw [h6] at g2; cases g2
theorem own_exa_ns {Z : State} {h : Heap} {a : Addr} {C : String} (F : Exa Z h a C) : ∃ c : Cell, h[a]? = some c ∧ c.vm.isStatics = false := by
  obtain ⟨cell, k, h1, -, -, h4, -⟩ := F
  exact ⟨cell, h1, h4⟩
theorem own_arv_ns {Z : State} {h : Heap} {a : Addr} {k : ClassId} {ty : FieldType} {z : Int32} {vs : List Value} {d : Value} (F : Arv Z h a k ty z vs d) : ∃ c : Cell, h[a]? = some c ∧ c.vm.isStatics = false := by
  obtain ⟨cell, A, -⟩ := F
  exact ⟨cell, A.1, A.plain⟩
theorem own_arv {Z : State} {h : Heap} {a : Addr} {k : ClassId} {ty : FieldType} {z : Int32} {vs : List Value} {d : Value} (F : Arh Z h a k ty z [] vs d) : Arv Z h a k ty z vs d := F
theorem own_eqv {Z : State} {args : Array Value} {t u : Term} {v : Value} (hv : (∃ k, v = .int k) ∨ ∃ a, v = .ref a) (hu : u.eval args Z none [] Z = some v) (h : (Jvm.Cond.eq t u).value args Z none Z [] = some true) : t.eval args Z none [] Z = some v := by
  simp only [Jvm.Cond.value, hu] at h
  cases ht : t.eval args Z none [] Z with
  | none => simp [ht] at h
  | some x => rcases hv with ⟨k, rfl⟩ | ⟨a, rfl⟩ <;> cases x <;> simp [ht] at h ⊢ <;> exact h
theorem own_len {Z : State} {args : Array Value} {t : Term} {a : Addr} {cl : Cell} {ty : FieldType} {z : Int32} (ev : t.eval args Z none [] Z = some (.ref a)) (A : Arr Z Z.heap a cl ty) (h : (Term.length t).eval args Z none [] Z = some (.int z)) : cl.slots.size < 2 ^ 31 ∧ cl.slots.size.toInt32 = z := by
  obtain ⟨a', cell, ha', hat, hv⟩ := Term.length_spec h
  cases ev.symm.trans ha'
  cases A.1.symm.trans (State.arrayAt?_spec hat).1
  cases hv
  refine ⟨?_, rfl⟩
  by_cases q : cl.slots.size < 2 ^ 31
  · exact q
  · exfalso
    simp [Term.eval, ev, hat, q] at h
end Jvm.RoadKit
namespace Jvm.Pilot.@@N@@
open Jvm Jvm.ClassFile Sem Op Lib Jvm.Free Jvm.Stand Jvm.LawKit Jvm.RoadKit Bundle Jvm.Pilot.@@N@@.Jvm.D
theorem d5_0 : decode jdk_52_method_21_code 0 = .ok (.iconst 0, 1) := by decide +kernel
theorem d5_1 : decode jdk_52_method_21_code 1 = .ok (.istore 5, 2) := by decide +kernel
theorem d5_3 : decode jdk_52_method_21_code 3 = .ok (.iload 5, 2) := by decide +kernel
theorem d5_5 : decode jdk_52_method_21_code 5 = .ok (.iload 4, 2) := by decide +kernel
theorem d5_7 : decode jdk_52_method_21_code 7 = .ok (.if_icmp .ge 37, 3) := by decide +kernel
theorem d5_10 : decode jdk_52_method_21_code 10 = .ok (.aload_n 0, 1) := by decide +kernel
theorem d5_11 : decode jdk_52_method_21_code 11 = .ok (.iload_n 1, 1) := by decide +kernel
theorem d5_12 : decode jdk_52_method_21_code 12 = .ok (.caload, 1) := by decide +kernel
theorem d5_13 : decode jdk_52_method_21_code 13 = .ok (.istore 6, 2) := by decide +kernel
theorem d5_15 : decode jdk_52_method_21_code 15 = .ok (.iload 6, 2) := by decide +kernel
theorem d5_17 : decode jdk_52_method_21_code 17 = .ok (.sipush 255, 3) := by decide +kernel
theorem d5_20 : decode jdk_52_method_21_code 20 = .ok (.if_icmp .le 6, 3) := by decide +kernel
theorem d5_26 : decode jdk_52_method_21_code 26 = .ok (.aload_n 2, 1) := by decide +kernel
theorem d5_27 : decode jdk_52_method_21_code 27 = .ok (.iload_n 3, 1) := by decide +kernel
theorem d5_28 : decode jdk_52_method_21_code 28 = .ok (.iload 6, 2) := by decide +kernel
theorem d5_30 : decode jdk_52_method_21_code 30 = .ok (.i2b, 1) := by decide +kernel
theorem d5_31 : decode jdk_52_method_21_code 31 = .ok (.bastore, 1) := by decide +kernel
theorem d5_32 : decode jdk_52_method_21_code 32 = .ok (.iinc 1 1, 3) := by decide +kernel
theorem d5_35 : decode jdk_52_method_21_code 35 = .ok (.iinc 3 1, 3) := by decide +kernel
theorem d5_38 : decode jdk_52_method_21_code 38 = .ok (.iinc 5 1, 3) := by decide +kernel
theorem d5_41 : decode jdk_52_method_21_code 41 = .ok (.goto (-38), 3) := by decide +kernel
theorem d5_44 : decode jdk_52_method_21_code 44 = .ok (.iload 4, 2) := by decide +kernel
theorem d5_46 : decode jdk_52_method_21_code 46 = .ok (.ireturn, 1) := by decide +kernel
theorem pn0 : plainName "java/lang/StringUTF16" = true := by first | (simp [plainName, overriddenIn]; done) | decide +kernel
theorem ef_cmp5_2 (m : MethodId) (a1 : Addr) (a2 : Addr) : entryFrame m #[(.ref a1), (.int (0 : Int32)), (.ref a2), (.int (0 : Int32)), (.int (2 : Int32))] 7 = (mkF m 0 #[.val (.ref a1), .val (.int (0 : Int32)), .val (.ref a2), .val (.int (0 : Int32)), .val (.int (2 : Int32)), .unset, .unset] []) := by first | (simp [entryFrame, mkF, argsToLocals, Value.category]; done) | rfl
def Q_cmp5_2 (Z : State) (a1 : Addr) (a2 : Addr) (ka : ClassId) (c0 : Int32) (c1 : Int32) (kb : ClassId) (h0 : Heap) (n0 : Nat) (v : Option Value) (h : Heap) (L : List Loc) : Prop := v = some (.int (2 : Int32)) ∧ Fr n0 L ∧ Keep h0 h [a2] ∧ Arv Z h a2 kb .byte (2 : Int32) [(.int (nar .byte (c0.toInt8.toInt32))), (.int (nar .byte (c1.toInt8.toInt32)))] (.int (0 : Int32))
set_option maxRecDepth 65536 in
set_option maxHeartbeats 40000000 in
theorem rm_cmp5_2 (l : Launch) (Z : State) (a0 : Array Value) (hw : ∀ d ∈ tables_1, d.before a0 Z = true) (ws : List Jvm.Cond) (a1 : Addr) (a2 : Addr) (ka : ClassId) (c0 : Int32) (c1 : Int32) (kb : ClassId) (h0 : Heap) (n0 : Nat) (Z0 : n0 ≤ h0.size) (V_a1 : Arv Z h0 a1 ka .char (2 : Int32) [(.int c0), (.int c1)] (.int (0 : Int32))) (V_a2 : Arv Z h0 a2 kb .byte (2 : Int32) [(.int (0 : Int32)), (.int (0 : Int32))] (.int (0 : Int32))) (g_a2 : n0 ≤ a2) (hne_13 : a1 ≠ a2) (hch0 : ¬ ((255 : Int32) < c0)) (hch1 : ¬ ((255 : Int32) < c1)) :
    MetFree l (⟨"java/lang/StringUTF16", "compress", "([CI[BII)I"⟩ : MethodName) (head1 (Jvm.Cond.code (⟨"java/lang/StringUTF16", "compress", "([CI[BII)I"⟩ : MethodName) jdk_52_method_21_code 7 (some .int) :: ws) ({ frames := 0, cells := 0, slots := 0, locals := 0 } : Room)) (fun a U => a = #[(.ref a1), (.int (0 : Int32)), (.ref a2), (.int (0 : Int32)), (.int (2 : Int32))] ∧ Z.Warmed39 U.vm ∧ U.heap = h0) (fun _ _ _ _ _ => True) (fun _ U o U' => ∃ v L, o = .returned v ∧ Q_cmp5_2 Z a1 a2 ka c0 c1 kb h0 n0 v U'.heap L ∧ FrameEnd U o U' L ({ frames := 0, cells := 0, slots := 0, locals := 0 } : Room).cells ({ frames := 0, cells := 0, slots := 0, locals := 0 } : Room).slots) := by
  refine MetFree.of_bodySF (plainFor_of_name pn0) hisR ?_
  intro p e s m args below meth c s₁ Bd hml0 hP hK
  obtain ⟨rfl, hZ, hh⟩ := hP
  have hx := Bd.exec
  have hby := Bd.bytes
  have hml : c.maxLocals = 7 := hml0
  have hown : s.vm.findClass "java/lang/StringUTF16" = some m.cls := findClass_of_methodNamed Bd.named
  have hnm := (name_of_methodNamed Bd.named Bd.method).1
  have X0 : Stand p l e ({ frames := 0, cells := 0, slots := 0, locals := 0 } : Room) s m #[(.ref a1), (.int (0 : Int32)), (.ref a2), (.int (0 : Int32)), (.int (2 : Int32))] below meth c s₁ [] 0 0 := Stand.of_body Bd
  have e0 : s₁.heap = h0 := by rw [← hh, Bd.state]; rfl
  have N0 := Fr.nil n0
  have pre0 : ∀ t, Steps p.tables e below (s₁.setTop (mkF m 0 #[.val (.ref a1), .val (.int (0 : Int32)), .val (.ref a2), .val (.int (0 : Int32)), .val (.int (2 : Int32)), .unset, .unset] [])) t → Steps p.tables e below (s₁.setTop (entryFrame m #[(.ref a1), (.int (0 : Int32)), (.ref a2), (.int (0 : Int32)), (.int (2 : Int32))] 7)) t := fun t k => castTop (ef_cmp5_2 m a1 a2) k
  obtain ⟨cl_a1_12_1, Ar_a1_12_1, q_a1_12_1, S_a1_12_1, N_a1_12_1, H_a1_12_1, G_a1_12_1⟩ := id V_a1
  have hin_a1_12_1 : ¬ ((0 : Int32) < 0 ∨ cl_a1_12_1.slots.size ≤ ((0 : Int32) : Int32).toNatClampNeg) := inb_of S_a1_12_1 ⟨by decide, by decide⟩
  obtain ⟨cl_a2_31_2, Ar_a2_31_2, q_a2_31_2, S_a2_31_2, N_a2_31_2, H_a2_31_2, G_a2_31_2⟩ := id V_a2
  have hin_a2_31_2 : ¬ ((0 : Int32) < 0 ∨ cl_a2_31_2.slots.size ≤ ((0 : Int32) : Int32).toNatClampNeg) := inb_of S_a2_31_2 ⟨by decide, by decide⟩
  obtain ⟨T3, h3, X3, e3, W3, st3⟩ := stB X0 hx hZ e0 Ar_a2_31_2 (j := (0 : Int32)) hin_a2_31_2 (g := (mkF m 31 #[.val (.ref a1), .val (.int (0 : Int32)), .val (.ref a2), .val (.int (0 : Int32)), .val (.int (2 : Int32)), .val (.int (0 : Int32)), .val (.int c0)] [(.int (c0.toInt8.toInt32)), (.int (0 : Int32)), (.ref a2)])) rfl rfl (hb hby d5_31)
  have V_a2_31_2 : Arv Z h3 a2 kb .byte (2 : Int32) [(.int (nar .byte (c0.toInt8.toInt32))), (.int (0 : Int32))] (.int (0 : Int32)) := Arv.set Ar_a2_31_2 q_a2_31_2 S_a2_31_2 N_a2_31_2 H_a2_31_2 G_a2_31_2 (fits_nar_byte _) W3 0 rfl (Nat.le_of_ble_eq_true rfl)
  have K3 : Keep h0 h3 [a2] := (Keep.refl h0 [a2]).wr W3 (Or.inl (List.mem_of_getElem? (i := 0) rfl))
  have N3 := Fr.snoc X3 N0 g_a2
  obtain ⟨cl_a1_12_4, Ar_a1_12_4, q_a1_12_4, S_a1_12_4, N_a1_12_4, H_a1_12_4, G_a1_12_4⟩ := id (V_a1.other W3 hne_13)
  have hin_a1_12_4 : ¬ ((1 : Int32) < 0 ∨ cl_a1_12_4.slots.size ≤ ((1 : Int32) : Int32).toNatClampNeg) := inb_of S_a1_12_4 ⟨by decide, by decide⟩
  obtain ⟨cl_a2_31_5, Ar_a2_31_5, q_a2_31_5, S_a2_31_5, N_a2_31_5, H_a2_31_5, G_a2_31_5⟩ := id V_a2_31_2
  have hin_a2_31_5 : ¬ ((1 : Int32) < 0 ∨ cl_a2_31_5.slots.size ≤ ((1 : Int32) : Int32).toNatClampNeg) := inb_of S_a2_31_5 ⟨by decide, by decide⟩
  obtain ⟨T6, h6, X6, e6, W6, st6⟩ := stB X3 hx hZ e3 Ar_a2_31_5 (j := (1 : Int32)) hin_a2_31_5 (g := (mkF m 31 #[.val (.ref a1), .val (.int (1 : Int32)), .val (.ref a2), .val (.int (1 : Int32)), .val (.int (2 : Int32)), .val (.int (1 : Int32)), .val (.int c1)] [(.int (c1.toInt8.toInt32)), (.int (1 : Int32)), (.ref a2)])) rfl rfl (hb hby d5_31)
  have V_a2_31_5 : Arv Z h6 a2 kb .byte (2 : Int32) [(.int (nar .byte (c0.toInt8.toInt32))), (.int (nar .byte (c1.toInt8.toInt32)))] (.int (0 : Int32)) := Arv.set Ar_a2_31_5 q_a2_31_5 S_a2_31_5 N_a2_31_5 H_a2_31_5 G_a2_31_5 (fits_nar_byte _) W6 1 rfl (Nat.le_of_ble_eq_true rfl)
  have K6 : Keep h0 h6 [a2] := K3.wr W6 (Or.inl (List.mem_of_getElem? (i := 0) rfl))
  have N6 := Fr.snoc X6 N3 g_a2
  obtain ⟨fs, hr, hrun, hended, hW, hsame⟩ := X6.leave (v := some (.int (2 : Int32))) (fun h => by rw [Bd.returns] at h; cases h)
  refine ⟨_, _, pre0 _ ?_, hrun, hended, _, _, rfl, ?_, ⟨_, rfl⟩, hW, hsame.mono (by decide) (by decide)⟩
  · show Steps p.tables e below (s₁.setTop (mkF m 0 #[.val (.ref a1), .val (.int (0 : Int32)), .val (.ref a2), .val (.int (0 : Int32)), .val (.int (2 : Int32)), .unset, .unset] [])) _
    refine XS.iconst X0.here hx rfl (hb hby d5_0) ?_
    show Steps p.tables e below (s₁.setTop (mkF m 1 #[.val (.ref a1), .val (.int (0 : Int32)), .val (.ref a2), .val (.int (0 : Int32)), .val (.int (2 : Int32)), .unset, .unset] [(.int (0 : Int32))])) _
    refine XS.istore X0.here hx rfl (hb hby d5_1) rfl (l' := #[.val (.ref a1), .val (.int (0 : Int32)), .val (.ref a2), .val (.int (0 : Int32)), .val (.int (2 : Int32)), .val (.int (0 : Int32)), .unset]) rfl ?_
    show Steps p.tables e below (s₁.setTop (mkF m 3 #[.val (.ref a1), .val (.int (0 : Int32)), .val (.ref a2), .val (.int (0 : Int32)), .val (.int (2 : Int32)), .val (.int (0 : Int32)), .unset] [])) _
    refine XS.iload X0.here hx rfl (hb hby d5_3) rfl ?_
    show Steps p.tables e below (s₁.setTop (mkF m 5 #[.val (.ref a1), .val (.int (0 : Int32)), .val (.ref a2), .val (.int (0 : Int32)), .val (.int (2 : Int32)), .val (.int (0 : Int32)), .unset] [(.int (0 : Int32))])) _
    refine XS.iload X0.here hx rfl (hb hby d5_5) rfl ?_
    show Steps p.tables e below (s₁.setTop (mkF m 7 #[.val (.ref a1), .val (.int (0 : Int32)), .val (.ref a2), .val (.int (0 : Int32)), .val (.int (2 : Int32)), .val (.int (0 : Int32)), .unset] [(.int (2 : Int32)), (.int (0 : Int32))])) _
    refine XS.icmpNo X0.here hx rfl (hb hby d5_7) rfl (tlt (by decide : (0 : Int32) < (2 : Int32))).2.1 ?_
    show Steps p.tables e below (s₁.setTop (mkF m 10 #[.val (.ref a1), .val (.int (0 : Int32)), .val (.ref a2), .val (.int (0 : Int32)), .val (.int (2 : Int32)), .val (.int (0 : Int32)), .unset] [])) _
    refine XS.aloadN X0.here hx rfl (hb hby d5_10) rfl rfl ?_
    show Steps p.tables e below (s₁.setTop (mkF m 11 #[.val (.ref a1), .val (.int (0 : Int32)), .val (.ref a2), .val (.int (0 : Int32)), .val (.int (2 : Int32)), .val (.int (0 : Int32)), .unset] [(.ref a1)])) _
    refine XS.iloadN X0.here hx rfl (hb hby d5_11) rfl ?_
    show Steps p.tables e below (s₁.setTop (mkF m 12 #[.val (.ref a1), .val (.int (0 : Int32)), .val (.ref a2), .val (.int (0 : Int32)), .val (.int (2 : Int32)), .val (.int (0 : Int32)), .unset] [(.int (0 : Int32)), (.ref a1)])) _
    refine X0.caload hx (j := (0 : Int32)) (v := (.int c0)) (by rw [e0]; exact Ar_a1_12_1.1) (State.isArrayOf_alike hZ.alike Ar_a1_12_1.2.1) Ar_a1_12_1.2.2 hin_a1_12_1 (H_a1_12_1.at hin_a1_12_1 rfl) (g := (mkF m 12 #[.val (.ref a1), .val (.int (0 : Int32)), .val (.ref a2), .val (.int (0 : Int32)), .val (.int (2 : Int32)), .val (.int (0 : Int32)), .unset] [(.int (0 : Int32)), (.ref a1)])) rfl rfl (hb hby d5_12) _ ?_
    show Steps p.tables e below (s₁.setTop (mkF m 13 #[.val (.ref a1), .val (.int (0 : Int32)), .val (.ref a2), .val (.int (0 : Int32)), .val (.int (2 : Int32)), .val (.int (0 : Int32)), .unset] [(.int c0)])) _
    refine XS.istore X0.here hx rfl (hb hby d5_13) rfl (l' := #[.val (.ref a1), .val (.int (0 : Int32)), .val (.ref a2), .val (.int (0 : Int32)), .val (.int (2 : Int32)), .val (.int (0 : Int32)), .val (.int c0)]) rfl ?_
    show Steps p.tables e below (s₁.setTop (mkF m 15 #[.val (.ref a1), .val (.int (0 : Int32)), .val (.ref a2), .val (.int (0 : Int32)), .val (.int (2 : Int32)), .val (.int (0 : Int32)), .val (.int c0)] [])) _
    refine XS.iload X0.here hx rfl (hb hby d5_15) rfl ?_
    show Steps p.tables e below (s₁.setTop (mkF m 17 #[.val (.ref a1), .val (.int (0 : Int32)), .val (.ref a2), .val (.int (0 : Int32)), .val (.int (2 : Int32)), .val (.int (0 : Int32)), .val (.int c0)] [(.int c0)])) _
    refine XS.sipush X0.here hx rfl (hb hby d5_17) ?_
    show Steps p.tables e below (s₁.setTop (mkF m 20 #[.val (.ref a1), .val (.int (0 : Int32)), .val (.ref a2), .val (.int (0 : Int32)), .val (.int (2 : Int32)), .val (.int (0 : Int32)), .val (.int c0)] [(.int (255 : Int32)), (.int c0)])) _
    refine XS.icmpYes X0.here hx rfl (pc0 := 20) (pc' := 26) rfl (hb hby d5_20) rfl (flt hch0).2.2.2 (by decide) (by decide) ?_
    show Steps p.tables e below (s₁.setTop (mkF m 26 #[.val (.ref a1), .val (.int (0 : Int32)), .val (.ref a2), .val (.int (0 : Int32)), .val (.int (2 : Int32)), .val (.int (0 : Int32)), .val (.int c0)] [])) _
    refine XS.aloadN X0.here hx rfl (hb hby d5_26) rfl rfl ?_
    show Steps p.tables e below (s₁.setTop (mkF m 27 #[.val (.ref a1), .val (.int (0 : Int32)), .val (.ref a2), .val (.int (0 : Int32)), .val (.int (2 : Int32)), .val (.int (0 : Int32)), .val (.int c0)] [(.ref a2)])) _
    refine XS.iloadN X0.here hx rfl (hb hby d5_27) rfl ?_
    show Steps p.tables e below (s₁.setTop (mkF m 28 #[.val (.ref a1), .val (.int (0 : Int32)), .val (.ref a2), .val (.int (0 : Int32)), .val (.int (2 : Int32)), .val (.int (0 : Int32)), .val (.int c0)] [(.int (0 : Int32)), (.ref a2)])) _
    refine XS.iload X0.here hx rfl (hb hby d5_28) rfl ?_
    show Steps p.tables e below (s₁.setTop (mkF m 30 #[.val (.ref a1), .val (.int (0 : Int32)), .val (.ref a2), .val (.int (0 : Int32)), .val (.int (2 : Int32)), .val (.int (0 : Int32)), .val (.int c0)] [(.int c0), (.int (0 : Int32)), (.ref a2)])) _
    refine XS.i2b X0.here hx rfl (hb hby d5_30) rfl ?_
    show Steps p.tables e below (s₁.setTop (mkF m 31 #[.val (.ref a1), .val (.int (0 : Int32)), .val (.ref a2), .val (.int (0 : Int32)), .val (.int (2 : Int32)), .val (.int (0 : Int32)), .val (.int c0)] [(.int (c0.toInt8.toInt32)), (.int (0 : Int32)), (.ref a2)])) _
    refine st3 _ ?_
    show Steps p.tables e below (T3.setTop (mkF m 32 #[.val (.ref a1), .val (.int (0 : Int32)), .val (.ref a2), .val (.int (0 : Int32)), .val (.int (2 : Int32)), .val (.int (0 : Int32)), .val (.int c0)] [])) _
    refine XS.iinc X3.here hx rfl (hb hby d5_32) rfl (l' := #[.val (.ref a1), .val (.int (1 : Int32)), .val (.ref a2), .val (.int (0 : Int32)), .val (.int (2 : Int32)), .val (.int (0 : Int32)), .val (.int c0)]) rfl ?_
    show Steps p.tables e below (T3.setTop (mkF m 35 #[.val (.ref a1), .val (.int (1 : Int32)), .val (.ref a2), .val (.int (0 : Int32)), .val (.int (2 : Int32)), .val (.int (0 : Int32)), .val (.int c0)] [])) _
    refine XS.iinc X3.here hx rfl (hb hby d5_35) rfl (l' := #[.val (.ref a1), .val (.int (1 : Int32)), .val (.ref a2), .val (.int (1 : Int32)), .val (.int (2 : Int32)), .val (.int (0 : Int32)), .val (.int c0)]) rfl ?_
    show Steps p.tables e below (T3.setTop (mkF m 38 #[.val (.ref a1), .val (.int (1 : Int32)), .val (.ref a2), .val (.int (1 : Int32)), .val (.int (2 : Int32)), .val (.int (0 : Int32)), .val (.int c0)] [])) _
    refine XS.iinc X3.here hx rfl (hb hby d5_38) rfl (l' := #[.val (.ref a1), .val (.int (1 : Int32)), .val (.ref a2), .val (.int (1 : Int32)), .val (.int (2 : Int32)), .val (.int (1 : Int32)), .val (.int c0)]) rfl ?_
    show Steps p.tables e below (T3.setTop (mkF m 41 #[.val (.ref a1), .val (.int (1 : Int32)), .val (.ref a2), .val (.int (1 : Int32)), .val (.int (2 : Int32)), .val (.int (1 : Int32)), .val (.int c0)] [])) _
    refine XS.goto X3.here hx rfl (pc0 := 41) (pc' := 3) rfl (hb hby d5_41) (by decide) (by decide) ?_
    show Steps p.tables e below (T3.setTop (mkF m 3 #[.val (.ref a1), .val (.int (1 : Int32)), .val (.ref a2), .val (.int (1 : Int32)), .val (.int (2 : Int32)), .val (.int (1 : Int32)), .val (.int c0)] [])) _
    refine XS.iload X3.here hx rfl (hb hby d5_3) rfl ?_
    show Steps p.tables e below (T3.setTop (mkF m 5 #[.val (.ref a1), .val (.int (1 : Int32)), .val (.ref a2), .val (.int (1 : Int32)), .val (.int (2 : Int32)), .val (.int (1 : Int32)), .val (.int c0)] [(.int (1 : Int32))])) _
    refine XS.iload X3.here hx rfl (hb hby d5_5) rfl ?_
    show Steps p.tables e below (T3.setTop (mkF m 7 #[.val (.ref a1), .val (.int (1 : Int32)), .val (.ref a2), .val (.int (1 : Int32)), .val (.int (2 : Int32)), .val (.int (1 : Int32)), .val (.int c0)] [(.int (2 : Int32)), (.int (1 : Int32))])) _
    refine XS.icmpNo X3.here hx rfl (hb hby d5_7) rfl (tlt (by decide : (1 : Int32) < (2 : Int32))).2.1 ?_
    show Steps p.tables e below (T3.setTop (mkF m 10 #[.val (.ref a1), .val (.int (1 : Int32)), .val (.ref a2), .val (.int (1 : Int32)), .val (.int (2 : Int32)), .val (.int (1 : Int32)), .val (.int c0)] [])) _
    refine XS.aloadN X3.here hx rfl (hb hby d5_10) rfl rfl ?_
    show Steps p.tables e below (T3.setTop (mkF m 11 #[.val (.ref a1), .val (.int (1 : Int32)), .val (.ref a2), .val (.int (1 : Int32)), .val (.int (2 : Int32)), .val (.int (1 : Int32)), .val (.int c0)] [(.ref a1)])) _
    refine XS.iloadN X3.here hx rfl (hb hby d5_11) rfl ?_
    show Steps p.tables e below (T3.setTop (mkF m 12 #[.val (.ref a1), .val (.int (1 : Int32)), .val (.ref a2), .val (.int (1 : Int32)), .val (.int (2 : Int32)), .val (.int (1 : Int32)), .val (.int c0)] [(.int (1 : Int32)), (.ref a1)])) _
    refine X3.caload hx (j := (1 : Int32)) (v := (.int c1)) (by rw [e3]; exact Ar_a1_12_4.1) (State.isArrayOf_alike hZ.alike Ar_a1_12_4.2.1) Ar_a1_12_4.2.2 hin_a1_12_4 (H_a1_12_4.at hin_a1_12_4 rfl) (g := (mkF m 12 #[.val (.ref a1), .val (.int (1 : Int32)), .val (.ref a2), .val (.int (1 : Int32)), .val (.int (2 : Int32)), .val (.int (1 : Int32)), .val (.int c0)] [(.int (1 : Int32)), (.ref a1)])) rfl rfl (hb hby d5_12) _ ?_
    show Steps p.tables e below (T3.setTop (mkF m 13 #[.val (.ref a1), .val (.int (1 : Int32)), .val (.ref a2), .val (.int (1 : Int32)), .val (.int (2 : Int32)), .val (.int (1 : Int32)), .val (.int c0)] [(.int c1)])) _
    refine XS.istore X3.here hx rfl (hb hby d5_13) rfl (l' := #[.val (.ref a1), .val (.int (1 : Int32)), .val (.ref a2), .val (.int (1 : Int32)), .val (.int (2 : Int32)), .val (.int (1 : Int32)), .val (.int c1)]) rfl ?_
    show Steps p.tables e below (T3.setTop (mkF m 15 #[.val (.ref a1), .val (.int (1 : Int32)), .val (.ref a2), .val (.int (1 : Int32)), .val (.int (2 : Int32)), .val (.int (1 : Int32)), .val (.int c1)] [])) _
    refine XS.iload X3.here hx rfl (hb hby d5_15) rfl ?_
    show Steps p.tables e below (T3.setTop (mkF m 17 #[.val (.ref a1), .val (.int (1 : Int32)), .val (.ref a2), .val (.int (1 : Int32)), .val (.int (2 : Int32)), .val (.int (1 : Int32)), .val (.int c1)] [(.int c1)])) _
    refine XS.sipush X3.here hx rfl (hb hby d5_17) ?_
    show Steps p.tables e below (T3.setTop (mkF m 20 #[.val (.ref a1), .val (.int (1 : Int32)), .val (.ref a2), .val (.int (1 : Int32)), .val (.int (2 : Int32)), .val (.int (1 : Int32)), .val (.int c1)] [(.int (255 : Int32)), (.int c1)])) _
    refine XS.icmpYes X3.here hx rfl (pc0 := 20) (pc' := 26) rfl (hb hby d5_20) rfl (flt hch1).2.2.2 (by decide) (by decide) ?_
    show Steps p.tables e below (T3.setTop (mkF m 26 #[.val (.ref a1), .val (.int (1 : Int32)), .val (.ref a2), .val (.int (1 : Int32)), .val (.int (2 : Int32)), .val (.int (1 : Int32)), .val (.int c1)] [])) _
    refine XS.aloadN X3.here hx rfl (hb hby d5_26) rfl rfl ?_
    show Steps p.tables e below (T3.setTop (mkF m 27 #[.val (.ref a1), .val (.int (1 : Int32)), .val (.ref a2), .val (.int (1 : Int32)), .val (.int (2 : Int32)), .val (.int (1 : Int32)), .val (.int c1)] [(.ref a2)])) _
    refine XS.iloadN X3.here hx rfl (hb hby d5_27) rfl ?_
    show Steps p.tables e below (T3.setTop (mkF m 28 #[.val (.ref a1), .val (.int (1 : Int32)), .val (.ref a2), .val (.int (1 : Int32)), .val (.int (2 : Int32)), .val (.int (1 : Int32)), .val (.int c1)] [(.int (1 : Int32)), (.ref a2)])) _
    refine XS.iload X3.here hx rfl (hb hby d5_28) rfl ?_
    show Steps p.tables e below (T3.setTop (mkF m 30 #[.val (.ref a1), .val (.int (1 : Int32)), .val (.ref a2), .val (.int (1 : Int32)), .val (.int (2 : Int32)), .val (.int (1 : Int32)), .val (.int c1)] [(.int c1), (.int (1 : Int32)), (.ref a2)])) _
    refine XS.i2b X3.here hx rfl (hb hby d5_30) rfl ?_
    show Steps p.tables e below (T3.setTop (mkF m 31 #[.val (.ref a1), .val (.int (1 : Int32)), .val (.ref a2), .val (.int (1 : Int32)), .val (.int (2 : Int32)), .val (.int (1 : Int32)), .val (.int c1)] [(.int (c1.toInt8.toInt32)), (.int (1 : Int32)), (.ref a2)])) _
    refine st6 _ ?_
    show Steps p.tables e below (T6.setTop (mkF m 32 #[.val (.ref a1), .val (.int (1 : Int32)), .val (.ref a2), .val (.int (1 : Int32)), .val (.int (2 : Int32)), .val (.int (1 : Int32)), .val (.int c1)] [])) _
    refine XS.iinc X6.here hx rfl (hb hby d5_32) rfl (l' := #[.val (.ref a1), .val (.int (2 : Int32)), .val (.ref a2), .val (.int (1 : Int32)), .val (.int (2 : Int32)), .val (.int (1 : Int32)), .val (.int c1)]) rfl ?_
    show Steps p.tables e below (T6.setTop (mkF m 35 #[.val (.ref a1), .val (.int (2 : Int32)), .val (.ref a2), .val (.int (1 : Int32)), .val (.int (2 : Int32)), .val (.int (1 : Int32)), .val (.int c1)] [])) _
    refine XS.iinc X6.here hx rfl (hb hby d5_35) rfl (l' := #[.val (.ref a1), .val (.int (2 : Int32)), .val (.ref a2), .val (.int (2 : Int32)), .val (.int (2 : Int32)), .val (.int (1 : Int32)), .val (.int c1)]) rfl ?_
    show Steps p.tables e below (T6.setTop (mkF m 38 #[.val (.ref a1), .val (.int (2 : Int32)), .val (.ref a2), .val (.int (2 : Int32)), .val (.int (2 : Int32)), .val (.int (1 : Int32)), .val (.int c1)] [])) _
    refine XS.iinc X6.here hx rfl (hb hby d5_38) rfl (l' := #[.val (.ref a1), .val (.int (2 : Int32)), .val (.ref a2), .val (.int (2 : Int32)), .val (.int (2 : Int32)), .val (.int (2 : Int32)), .val (.int c1)]) rfl ?_
    show Steps p.tables e below (T6.setTop (mkF m 41 #[.val (.ref a1), .val (.int (2 : Int32)), .val (.ref a2), .val (.int (2 : Int32)), .val (.int (2 : Int32)), .val (.int (2 : Int32)), .val (.int c1)] [])) _
    refine XS.goto X6.here hx rfl (pc0 := 41) (pc' := 3) rfl (hb hby d5_41) (by decide) (by decide) ?_
    show Steps p.tables e below (T6.setTop (mkF m 3 #[.val (.ref a1), .val (.int (2 : Int32)), .val (.ref a2), .val (.int (2 : Int32)), .val (.int (2 : Int32)), .val (.int (2 : Int32)), .val (.int c1)] [])) _
    refine XS.iload X6.here hx rfl (hb hby d5_3) rfl ?_
    show Steps p.tables e below (T6.setTop (mkF m 5 #[.val (.ref a1), .val (.int (2 : Int32)), .val (.ref a2), .val (.int (2 : Int32)), .val (.int (2 : Int32)), .val (.int (2 : Int32)), .val (.int c1)] [(.int (2 : Int32))])) _
    refine XS.iload X6.here hx rfl (hb hby d5_5) rfl ?_
    show Steps p.tables e below (T6.setTop (mkF m 7 #[.val (.ref a1), .val (.int (2 : Int32)), .val (.ref a2), .val (.int (2 : Int32)), .val (.int (2 : Int32)), .val (.int (2 : Int32)), .val (.int c1)] [(.int (2 : Int32)), (.int (2 : Int32))])) _
    refine XS.icmpYes X6.here hx rfl (pc0 := 7) (pc' := 44) rfl (hb hby d5_7) rfl (flt (by decide : ¬ ((2 : Int32) < (2 : Int32)))).2.1 (by decide) (by decide) ?_
    show Steps p.tables e below (T6.setTop (mkF m 44 #[.val (.ref a1), .val (.int (2 : Int32)), .val (.ref a2), .val (.int (2 : Int32)), .val (.int (2 : Int32)), .val (.int (2 : Int32)), .val (.int c1)] [])) _
    refine XS.iload X6.here hx rfl (hb hby d5_44) rfl ?_
    show Steps p.tables e below (T6.setTop (mkF m 46 #[.val (.ref a1), .val (.int (2 : Int32)), .val (.ref a2), .val (.int (2 : Int32)), .val (.int (2 : Int32)), .val (.int (2 : Int32)), .val (.int c1)] [(.int (2 : Int32))])) _
    exact retI X6 hx Bd.returns (hb hby d5_46) hr
  · show Q_cmp5_2 Z a1 a2 ka c0 c1 kb h0 n0 _ T6.heap _
    rw [e6]
    exact ⟨rfl, N6, K6, V_a2_31_5⟩
theorem d4_0 : decode jdk_52_method_16_code 0 = .ok (.iload_n 2, 1) := by decide +kernel
theorem d4_1 : decode jdk_52_method_16_code 1 = .ok (.newarray .byte, 2) := by decide +kernel
theorem d4_3 : decode jdk_52_method_16_code 3 = .ok (.astore_n 3, 1) := by decide +kernel
theorem d4_4 : decode jdk_52_method_16_code 4 = .ok (.aload_n 0, 1) := by decide +kernel
theorem d4_5 : decode jdk_52_method_16_code 5 = .ok (.iload_n 1, 1) := by decide +kernel
theorem d4_6 : decode jdk_52_method_16_code 6 = .ok (.aload_n 3, 1) := by decide +kernel
theorem d4_7 : decode jdk_52_method_16_code 7 = .ok (.iconst 0, 1) := by decide +kernel
theorem d4_8 : decode jdk_52_method_16_code 8 = .ok (.iload_n 2, 1) := by decide +kernel
theorem d4_9 : decode jdk_52_method_16_code 9 = .ok (.invokestatic 115, 3) := by decide +kernel
theorem d4_12 : decode jdk_52_method_16_code 12 = .ok (.istore 4, 2) := by decide +kernel
theorem d4_14 : decode jdk_52_method_16_code 14 = .ok (.iload 4, 2) := by decide +kernel
theorem d4_16 : decode jdk_52_method_16_code 16 = .ok (.iload_n 2, 1) := by decide +kernel
theorem d4_17 : decode jdk_52_method_16_code 17 = .ok (.if_icmp .eq 40, 3) := by decide +kernel
theorem d4_57 : decode jdk_52_method_16_code 57 = .ok (.aload_n 3, 1) := by decide +kernel
theorem d4_58 : decode jdk_52_method_16_code 58 = .ok (.areturn, 1) := by decide +kernel
theorem pd0 : parseMethodDescriptor "([CI[BII)I" = some ⟨[(.array .char), .int, (.array .byte), .int, .int], some .int⟩ := by decide +kernel
theorem ef_cmp3_2 (m : MethodId) (a1 : Addr) : entryFrame m #[(.ref a1), (.int (0 : Int32)), (.int (2 : Int32))] 6 = (mkF m 0 #[.val (.ref a1), .val (.int (0 : Int32)), .val (.int (2 : Int32)), .unset, .unset, .unset] []) := by first | (simp [entryFrame, mkF, argsToLocals, Value.category]; done) | rfl
def Q_cmp3_2 (Z : State) (a1 : Addr) (ka : ClassId) (c0 : Int32) (c1 : Int32) (h0 : Heap) (n0 : Nat) (v : Option Value) (h : Heap) (L : List Loc) : Prop := ∃ (b1 : Addr) (k1 : ClassId), v = some (.ref b1) ∧ Fr n0 L ∧ Keep h0 h [] ∧ h0.size ≤ b1 ∧ Arv Z h b1 k1 .byte (2 : Int32) [(.int (nar .byte (c0.toInt8.toInt32))), (.int (nar .byte (c1.toInt8.toInt32)))] (.int (0 : Int32))
set_option maxRecDepth 65536 in
set_option maxHeartbeats 40000000 in
theorem rm_cmp3_2 (l : Launch) (Z : State) (a0 : Array Value) (hw : ∀ d ∈ tables_1, d.before a0 Z = true) (ws : List Jvm.Cond) (a1 : Addr) (ka : ClassId) (c0 : Int32) (c1 : Int32) (h0 : Heap) (n0 : Nat) (Z0 : n0 ≤ h0.size) (V_a1 : Arv Z h0 a1 ka .char (2 : Int32) [(.int c0), (.int c1)] (.int (0 : Int32))) (hch0 : ¬ ((255 : Int32) < c0)) (hch1 : ¬ ((255 : Int32) < c1)) :
    MetFree l (⟨"java/lang/StringUTF16", "compress", "([CII)[B"⟩ : MethodName) (head1 (Jvm.Cond.code (⟨"java/lang/StringUTF16", "compress", "([CII)[B"⟩ : MethodName) jdk_52_method_16_code 6 (some (.array .byte)) :: ws) ({ frames := 1, cells := 1, slots := 2, locals := 18 } : Room)) (fun a U => a = #[(.ref a1), (.int (0 : Int32)), (.int (2 : Int32))] ∧ Z.Warmed39 U.vm ∧ U.heap = h0) (fun _ _ _ _ _ => True) (fun _ U o U' => ∃ v L, o = .returned v ∧ Q_cmp3_2 Z a1 ka c0 c1 h0 n0 v U'.heap L ∧ FrameEnd U o U' L ({ frames := 1, cells := 1, slots := 2, locals := 18 } : Room).cells ({ frames := 1, cells := 1, slots := 2, locals := 18 } : Room).slots) := by
  refine MetFree.of_bodySF (plainFor_of_name pn0) hisR ?_
  intro p e s m args below meth c s₁ Bd hml0 hP hK
  obtain ⟨rfl, hZ, hh⟩ := hP
  have hx := Bd.exec
  have hby := Bd.bytes
  have hml : c.maxLocals = 6 := hml0
  have hown : s.vm.findClass "java/lang/StringUTF16" = some m.cls := findClass_of_methodNamed Bd.named
  have hnm := (name_of_methodNamed Bd.named Bd.method).1
  have X0 : Stand p l e ({ frames := 1, cells := 1, slots := 2, locals := 18 } : Room) s m #[(.ref a1), (.int (0 : Int32)), (.int (2 : Int32))] below meth c s₁ [] 0 0 := Stand.of_body Bd
  have e0 : s₁.heap = h0 := by rw [← hh, Bd.state]; rfl
  have N0 := Fr.nil n0
  have pre0 : ∀ t, Steps p.tables e below (s₁.setTop (mkF m 0 #[.val (.ref a1), .val (.int (0 : Int32)), .val (.int (2 : Int32)), .unset, .unset, .unset] [])) t → Steps p.tables e below (s₁.setTop (entryFrame m #[(.ref a1), (.int (0 : Int32)), (.int (2 : Int32))] 6)) t := fun t k => castTop (ef_cmp3_2 m a1) k
  obtain ⟨T1, h1, k1, X1, e1, E1, A1, st1⟩ := newP X0 hx hZ (hw _ (List.mem_of_getElem? (i := 54) rfl)) e0 (g := (mkF m 1 #[.val (.ref a1), .val (.int (0 : Int32)), .val (.int (2 : Int32)), .unset, .unset, .unset] [(.int (2 : Int32))])) rfl (hb hby d4_1) rfl (by decide) (cap := 2) (by decide) (by decide) (by decide) (by decide)
  obtain ⟨b1, g1⟩ : ∃ z, z = h0.size := ⟨_, rfl⟩
  rw [← g1] at A1 st1
  have sz_b1 : h0.size ≤ b1 := Nat.le_trans (Keep.refl h0 []).1 (Nat.le_of_eq g1.symm)
  have g_b1 : n0 ≤ b1 := Nat.le_trans Z0 sz_b1
  have K1 : Keep h0 h1 [] := (Keep.refl h0 []).ext E1
  have V_b1 : Arv Z h1 b1 k1 .byte (2 : Int32) [(.int (0 : Int32)), (.int (0 : Int32))] (.int (0 : Int32)) := (Arv.new A1 (by decide)).pad (pad_rep [] (.int (0 : Int32)) 2)
  obtain ⟨_, _, ⟨T2, L2, k2, n2⟩, -, X2, ⟨Lc2, hQ2, l2, y2, z2⟩, st2⟩ := Jvm.LawKit.callS X1 hx (y := (⟨"java/lang/StringUTF16", "compress", "([CI[BII)I"⟩ : MethodName)) hown (mvT hZ (hw _ (List.mem_of_getElem? (i := 55) rfl))) (mvT hZ (hw _ (List.mem_of_getElem? (i := 56) rfl))) (mvT hZ (hw _ (List.mem_of_getElem? (i := 52) rfl))) (mvT hZ (hw _ (List.mem_of_getElem? (i := 57) rfl))) (by decide) (backOf (W := 0) (rm_cmp5_2 l Z a0 hw [] a1 b1 ka c0 c1 k1 h1 n0 (Nat.le_trans Z0 K1.1) (V_a1.ext E1) V_b1 g_b1 ((Nat.ne_of_lt (Nat.lt_of_lt_of_le V_a1.lt (Nat.le_of_eq g1.symm))) : a1 ≠ b1) (hch0 : ¬ ((255 : Int32) < c0)) (hch1 : ¬ ((255 : Int32) < c1))) hZ (hw _ (List.mem_of_getElem? (i := 57) rfl)) (hw _ (List.mem_of_getElem? (i := 52) rfl)) (by decide) (by decide)) (g := (mkF m 9 #[.val (.ref a1), .val (.int (0 : Int32)), .val (.int (2 : Int32)), .val (.ref b1), .unset, .unset] [(.int (2 : Int32)), (.int (0 : Int32)), (.ref b1), (.int (0 : Int32)), (.ref a1)])) rfl (by rw [hml]; rfl) (argsL := [(.ref a1), (.int (0 : Int32)), (.ref b1), (.int (0 : Int32)), (.int (2 : Int32))]) (rest := []) (lenOf pd0 rfl) rfl (by show 2 * 0 + _ ≤ _; exact Nat.le_of_eq rfl) (hb hby d4_9) (fun _ _ => ⟨rfl, e1, (by decide : 1 + 0 ≤ _), (by decide : 2 + 0 ≤ _)⟩)
  dsimp only [Pt.U, Pt.locs, Pt.cells, Pt.slots] at X2 l2 y2 z2 st2 hQ2
  subst l2 y2 z2
  obtain ⟨rfl, N2q, K2, f2_0⟩ := hQ2
  have N2 := Fr.app N0 N2q
  have KK2 : Keep h0 T2.heap [] := K1.trans K2 (allS (Or.inr sz_b1) all0)
  obtain ⟨fs, hr, hrun, hended, hW, hsame⟩ := X2.leave (v := some (.ref b1)) (fun h => by rw [Bd.returns] at h; cases h)
  refine ⟨_, _, pre0 _ ?_, hrun, hended, _, _, rfl, ?_, ⟨_, rfl⟩, hW, hsame.mono (by decide) (by decide)⟩
  · show Steps p.tables e below (s₁.setTop (mkF m 0 #[.val (.ref a1), .val (.int (0 : Int32)), .val (.int (2 : Int32)), .unset, .unset, .unset] [])) _
    refine XS.iloadN X0.here hx rfl (hb hby d4_0) rfl ?_
    show Steps p.tables e below (s₁.setTop (mkF m 1 #[.val (.ref a1), .val (.int (0 : Int32)), .val (.int (2 : Int32)), .unset, .unset, .unset] [(.int (2 : Int32))])) _
    refine st1 _ ?_
    show Steps p.tables e below (T1.setTop (mkF m 3 #[.val (.ref a1), .val (.int (0 : Int32)), .val (.int (2 : Int32)), .unset, .unset, .unset] [(.ref b1)])) _
    refine XS.astoreN X1.here hx rfl (hb hby d4_3) rfl rfl (l' := #[.val (.ref a1), .val (.int (0 : Int32)), .val (.int (2 : Int32)), .val (.ref b1), .unset, .unset]) rfl ?_
    show Steps p.tables e below (T1.setTop (mkF m 4 #[.val (.ref a1), .val (.int (0 : Int32)), .val (.int (2 : Int32)), .val (.ref b1), .unset, .unset] [])) _
    refine XS.aloadN X1.here hx rfl (hb hby d4_4) rfl rfl ?_
    show Steps p.tables e below (T1.setTop (mkF m 5 #[.val (.ref a1), .val (.int (0 : Int32)), .val (.int (2 : Int32)), .val (.ref b1), .unset, .unset] [(.ref a1)])) _
    refine XS.iloadN X1.here hx rfl (hb hby d4_5) rfl ?_
    show Steps p.tables e below (T1.setTop (mkF m 6 #[.val (.ref a1), .val (.int (0 : Int32)), .val (.int (2 : Int32)), .val (.ref b1), .unset, .unset] [(.int (0 : Int32)), (.ref a1)])) _
    refine XS.aloadN X1.here hx rfl (hb hby d4_6) rfl rfl ?_
    show Steps p.tables e below (T1.setTop (mkF m 7 #[.val (.ref a1), .val (.int (0 : Int32)), .val (.int (2 : Int32)), .val (.ref b1), .unset, .unset] [(.ref b1), (.int (0 : Int32)), (.ref a1)])) _
    refine XS.iconst X1.here hx rfl (hb hby d4_7) ?_
    show Steps p.tables e below (T1.setTop (mkF m 8 #[.val (.ref a1), .val (.int (0 : Int32)), .val (.int (2 : Int32)), .val (.ref b1), .unset, .unset] [(.int (0 : Int32)), (.ref b1), (.int (0 : Int32)), (.ref a1)])) _
    refine XS.iloadN X1.here hx rfl (hb hby d4_8) rfl ?_
    show Steps p.tables e below (T1.setTop (mkF m 9 #[.val (.ref a1), .val (.int (0 : Int32)), .val (.int (2 : Int32)), .val (.ref b1), .unset, .unset] [(.int (2 : Int32)), (.int (0 : Int32)), (.ref b1), (.int (0 : Int32)), (.ref a1)])) _
    refine st2 _ ?_
    show Steps p.tables e below (T2.setTop (mkF m 12 #[.val (.ref a1), .val (.int (0 : Int32)), .val (.int (2 : Int32)), .val (.ref b1), .unset, .unset] [(.int (2 : Int32))])) _
    refine XS.istore X2.here hx rfl (hb hby d4_12) rfl (l' := #[.val (.ref a1), .val (.int (0 : Int32)), .val (.int (2 : Int32)), .val (.ref b1), .val (.int (2 : Int32)), .unset]) rfl ?_
    show Steps p.tables e below (T2.setTop (mkF m 14 #[.val (.ref a1), .val (.int (0 : Int32)), .val (.int (2 : Int32)), .val (.ref b1), .val (.int (2 : Int32)), .unset] [])) _
    refine XS.iload X2.here hx rfl (hb hby d4_14) rfl ?_
    show Steps p.tables e below (T2.setTop (mkF m 16 #[.val (.ref a1), .val (.int (0 : Int32)), .val (.int (2 : Int32)), .val (.ref b1), .val (.int (2 : Int32)), .unset] [(.int (2 : Int32))])) _
    refine XS.iloadN X2.here hx rfl (hb hby d4_16) rfl ?_
    show Steps p.tables e below (T2.setTop (mkF m 17 #[.val (.ref a1), .val (.int (0 : Int32)), .val (.int (2 : Int32)), .val (.ref b1), .val (.int (2 : Int32)), .unset] [(.int (2 : Int32)), (.int (2 : Int32))])) _
    refine XS.icmpYes X2.here hx rfl (pc0 := 17) (pc' := 57) rfl (hb hby d4_17) rfl (teq (by decide : (2 : Int32) = (2 : Int32))).1 (by decide) (by decide) ?_
    show Steps p.tables e below (T2.setTop (mkF m 57 #[.val (.ref a1), .val (.int (0 : Int32)), .val (.int (2 : Int32)), .val (.ref b1), .val (.int (2 : Int32)), .unset] [])) _
    refine XS.aloadN X2.here hx rfl (hb hby d4_57) rfl rfl ?_
    show Steps p.tables e below (T2.setTop (mkF m 58 #[.val (.ref a1), .val (.int (0 : Int32)), .val (.int (2 : Int32)), .val (.ref b1), .val (.int (2 : Int32)), .unset] [(.ref b1)])) _
    exact retOut X2 hx Bd.returns rfl (Or.inr (Or.inr (Or.inr (Or.inr ⟨rfl, rfl, rfl⟩)))) (hb hby d4_58) hr
  · show Q_cmp3_2 Z a1 ka c0 c1 h0 n0 _ T2.heap _
    exact ⟨b1, k1, rfl, N2, KK2, sz_b1, f2_0⟩
theorem d6_0 : decode jdk_52_method_15_code 0 = .ok (.iload_n 1, 1) := by decide +kernel
theorem d6_1 : decode jdk_52_method_15_code 1 = .ok (.aload_n 0, 1) := by decide +kernel
theorem d6_2 : decode jdk_52_method_15_code 2 = .ok (.arraylength, 1) := by decide +kernel
theorem d6_3 : decode jdk_52_method_15_code 3 = .ok (.isub, 1) := by decide +kernel
theorem d6_4 : decode jdk_52_method_15_code 4 = .ok (.bipush 31, 2) := by decide +kernel
theorem d6_6 : decode jdk_52_method_15_code 6 = .ok (.iushr, 1) := by decide +kernel
theorem d6_7 : decode jdk_52_method_15_code 7 = .ok (.i2b, 1) := by decide +kernel
theorem d6_8 : decode jdk_52_method_15_code 8 = .ok (.ireturn, 1) := by decide +kernel
theorem ef_cod_2 (m : MethodId) (a1 : Addr) : entryFrame m #[(.ref a1), (.int (2 : Int32))] 2 = (mkF m 0 #[.val (.ref a1), .val (.int (2 : Int32))] []) := by first | (simp [entryFrame, mkF, argsToLocals, Value.category]; done) | rfl
def Q_cod_2 (Z : State) (a1 : Addr) (ka : ClassId) (x0 : Int32) (x1 : Int32) (h0 : Heap) (n0 : Nat) (v : Option Value) (h : Heap) (L : List Loc) : Prop := v = some (.int (0 : Int32)) ∧ L = [] ∧ h = h0
set_option maxRecDepth 65536 in
set_option maxHeartbeats 40000000 in
theorem rm_cod_2 (l : Launch) (Z : State) (a0 : Array Value) (hw : ∀ d ∈ tables_1, d.before a0 Z = true) (ws : List Jvm.Cond) (a1 : Addr) (ka : ClassId) (x0 : Int32) (x1 : Int32) (h0 : Heap) (n0 : Nat) (Z0 : n0 ≤ h0.size) (V_a1 : Arv Z h0 a1 ka .byte (2 : Int32) [(.int x0), (.int x1)] (.int (0 : Int32))) :
    MetFree l (⟨"java/lang/StringUTF16", "coderFromArrayLen", "([BI)B"⟩ : MethodName) (head1 (Jvm.Cond.code (⟨"java/lang/StringUTF16", "coderFromArrayLen", "([BI)B"⟩ : MethodName) jdk_52_method_15_code 2 (some .byte) :: ws) ({ frames := 0, cells := 0, slots := 0, locals := 0 } : Room)) (fun a U => a = #[(.ref a1), (.int (2 : Int32))] ∧ Z.Warmed39 U.vm ∧ U.heap = h0) (fun _ _ _ _ _ => True) (fun _ U o U' => ∃ v L, o = .returned v ∧ Q_cod_2 Z a1 ka x0 x1 h0 n0 v U'.heap L ∧ FrameEnd U o U' L ({ frames := 0, cells := 0, slots := 0, locals := 0 } : Room).cells ({ frames := 0, cells := 0, slots := 0, locals := 0 } : Room).slots) := by
  refine MetFree.of_bodySF (plainFor_of_name pn0) hisR ?_
  intro p e s m args below meth c s₁ Bd hml0 hP hK
  obtain ⟨rfl, hZ, hh⟩ := hP
  have hx := Bd.exec
  have hby := Bd.bytes
  have hml : c.maxLocals = 2 := hml0
  have hown : s.vm.findClass "java/lang/StringUTF16" = some m.cls := findClass_of_methodNamed Bd.named
  have hnm := (name_of_methodNamed Bd.named Bd.method).1
  have X0 : Stand p l e ({ frames := 0, cells := 0, slots := 0, locals := 0 } : Room) s m #[(.ref a1), (.int (2 : Int32))] below meth c s₁ [] 0 0 := Stand.of_body Bd
  have e0 : s₁.heap = h0 := by rw [← hh, Bd.state]; rfl
  have N0 := Fr.nil n0
  have pre0 : ∀ t, Steps p.tables e below (s₁.setTop (mkF m 0 #[.val (.ref a1), .val (.int (2 : Int32))] [])) t → Steps p.tables e below (s₁.setTop (entryFrame m #[(.ref a1), (.int (2 : Int32))] 2)) t := fun t k => castTop (ef_cod_2 m a1) k
  obtain ⟨cl_a1_2_1, Ar_a1_2_1, -, S_a1_2_1, N_a1_2_1, -, -⟩ := id V_a1
  obtain ⟨fs, hr, hrun, hended, hW, hsame⟩ := X0.leave (v := some (.int (0 : Int32))) (fun h => by rw [Bd.returns] at h; cases h)
  refine ⟨_, _, pre0 _ ?_, hrun, hended, _, _, rfl, ?_, ⟨_, rfl⟩, hW, hsame.mono (by decide) (by decide)⟩
  · show Steps p.tables e below (s₁.setTop (mkF m 0 #[.val (.ref a1), .val (.int (2 : Int32))] [])) _
    refine XS.iloadN X0.here hx rfl (hb hby d6_0) rfl ?_
    show Steps p.tables e below (s₁.setTop (mkF m 1 #[.val (.ref a1), .val (.int (2 : Int32))] [(.int (2 : Int32))])) _
    refine XS.aloadN X0.here hx rfl (hb hby d6_1) rfl rfl ?_
    show Steps p.tables e below (s₁.setTop (mkF m 2 #[.val (.ref a1), .val (.int (2 : Int32))] [(.ref a1), (.int (2 : Int32))])) _
    refine X0.arraylength hx (by rw [e0]; exact Ar_a1_2_1.1) (State.isArrayOf_alike hZ.alike Ar_a1_2_1.2.1) (g := (mkF m 2 #[.val (.ref a1), .val (.int (2 : Int32))] [(.ref a1), (.int (2 : Int32))])) rfl rfl (hb hby d6_2) _ ?_
    rw [len_of S_a1_2_1 N_a1_2_1]
    show Steps p.tables e below (s₁.setTop (mkF m 3 #[.val (.ref a1), .val (.int (2 : Int32))] [(.int (2 : Int32)), (.int (2 : Int32))])) _
    refine XS.isub X0.here hx rfl (hb hby d6_3) rfl ?_
    show Steps p.tables e below (s₁.setTop (mkF m 4 #[.val (.ref a1), .val (.int (2 : Int32))] [(.int (0 : Int32))])) _
    refine XS.bipush X0.here hx rfl (hb hby d6_4) ?_
    show Steps p.tables e below (s₁.setTop (mkF m 6 #[.val (.ref a1), .val (.int (2 : Int32))] [(.int (31 : Int32)), (.int (0 : Int32))])) _
    refine XS.iushr X0.here hx rfl (hb hby d6_6) rfl ?_
    show Steps p.tables e below (s₁.setTop (mkF m 7 #[.val (.ref a1), .val (.int (2 : Int32))] [(.int (0 : Int32))])) _
    refine XS.i2b X0.here hx rfl (hb hby d6_7) rfl ?_
    show Steps p.tables e below (s₁.setTop (mkF m 8 #[.val (.ref a1), .val (.int (2 : Int32))] [(.int (0 : Int32))])) _
    exact retN X0 hx (t := .byte) Bd.returns (by simp) (hb hby d6_8) hr
  · show Q_cod_2 Z a1 ka x0 x1 h0 n0 _ s₁.heap _
    rw [e0]
    exact ⟨rfl, rfl, rfl⟩
theorem d2_0 : decode jdk_42_method_149_code 0 = .ok (.aload_n 0, 1) := by decide +kernel
theorem d2_1 : decode jdk_42_method_149_code 1 = .ok (.invokespecial 1, 3) := by decide +kernel
theorem d2_4 : decode jdk_42_method_149_code 4 = .ok (.iload_n 3, 1) := by decide +kernel
theorem d2_5 : decode jdk_42_method_149_code 5 = .ok (.ifCond .ne 22, 3) := by decide +kernel
theorem d2_27 : decode jdk_42_method_149_code 27 = .ok (.getstatic 38, 3) := by decide +kernel
theorem d2_30 : decode jdk_42_method_149_code 30 = .ok (.ifCond .eq 28, 3) := by decide +kernel
theorem d2_33 : decode jdk_42_method_149_code 33 = .ok (.aload_n 1, 1) := by decide +kernel
theorem d2_34 : decode jdk_42_method_149_code 34 = .ok (.iload_n 2, 1) := by decide +kernel
theorem d2_35 : decode jdk_42_method_149_code 35 = .ok (.iload_n 3, 1) := by decide +kernel
theorem d2_36 : decode jdk_42_method_149_code 36 = .ok (.invokestatic 177, 3) := by decide +kernel
theorem d2_39 : decode jdk_42_method_149_code 39 = .ok (.astore 5, 2) := by decide +kernel
theorem d2_41 : decode jdk_42_method_149_code 41 = .ok (.aload_n 0, 1) := by decide +kernel
theorem d2_42 : decode jdk_42_method_149_code 42 = .ok (.aload 5, 2) := by decide +kernel
theorem d2_44 : decode jdk_42_method_149_code 44 = .ok (.iload_n 3, 1) := by decide +kernel
theorem d2_45 : decode jdk_42_method_149_code 45 = .ok (.invokestatic 47, 3) := by decide +kernel
theorem d2_48 : decode jdk_42_method_149_code 48 = .ok (.putfield 15, 3) := by decide +kernel
theorem d2_51 : decode jdk_42_method_149_code 51 = .ok (.aload_n 0, 1) := by decide +kernel
theorem d2_52 : decode jdk_42_method_149_code 52 = .ok (.aload 5, 2) := by decide +kernel
theorem d2_54 : decode jdk_42_method_149_code 54 = .ok (.putfield 9, 3) := by decide +kernel
theorem d2_57 : decode jdk_42_method_149_code 57 = .ok (.return_, 1) := by decide +kernel
theorem pd1 : parseMethodDescriptor "([CII)[B" = some ⟨[(.array .char), .int, .int], some (.array .byte)⟩ := by decide +kernel
theorem pd2 : parseMethodDescriptor "([BI)B" = some ⟨[(.array .byte), .int], some .byte⟩ := by decide +kernel
theorem pn1 : plainName "java/lang/String" = true := by first | (simp [plainName, overriddenIn]; done) | decide +kernel
theorem ef_ini4_2 (m : MethodId) (a1 : Addr) (a2 : Addr) : entryFrame m #[(.ref a1), (.ref a2), (.int (0 : Int32)), (.int (2 : Int32)), .null] 6 = (mkF m 0 #[.val (.ref a1), .val (.ref a2), .val (.int (0 : Int32)), .val (.int (2 : Int32)), .val .null, .unset] []) := by first | (simp [entryFrame, mkF, argsToLocals, Value.category]; done) | rfl
def Q_ini4_2 (Z : State) (a1 : Addr) (a2 : Addr) (ka : ClassId) (c0 : Int32) (c1 : Int32) (w_COMPACT_STRINGS : Int32) (u_coder_a1 : Value) (u_value_a1 : Value) (h0 : Heap) (n0 : Nat) (v : Option Value) (h : Heap) (L : List Loc) : Prop := ∃ (b1_3 : Addr) (k1_3 : ClassId), v = none ∧ Fr n0 L ∧ Keep h0 h [a1] ∧ h0.size ≤ b1_3 ∧ Exa Z h a1 "java/lang/String" ∧ Fld Z h a1 "java/lang/String" "coder" "B" (.int (0 : Int32)) ∧ Fld Z h a1 "java/lang/String" "value" "[B" (.ref b1_3) ∧ Arv Z h b1_3 k1_3 .byte (2 : Int32) [(.int (nar .byte (c0.toInt8.toInt32))), (.int (nar .byte (c1.toInt8.toInt32)))] (.int (0 : Int32))
set_option maxRecDepth 65536 in
set_option maxHeartbeats 40000000 in
theorem rm_ini4_2 (l : Launch) (Z : State) (a0 : Array Value) (hw : ∀ d ∈ tables_1, d.before a0 Z = true) (ws : List Jvm.Cond) (a1 : Addr) (a2 : Addr) (ka : ClassId) (c0 : Int32) (c1 : Int32) (w_COMPACT_STRINGS : Int32) (u_coder_a1 : Value) (u_value_a1 : Value) (h0 : Heap) (n0 : Nat) (Z0 : n0 ≤ h0.size) (V_a2 : Arv Z h0 a2 ka .char (2 : Int32) [(.int c0), (.int c1)] (.int (0 : Int32))) (S_COMPACT_STRINGS : Sta Z h0 "java/lang/String" "COMPACT_STRINGS" "Z" (.int w_COMPACT_STRINGS)) (E_a1 : Exa Z h0 a1 "java/lang/String") (F_coder_a1 : Fld Z h0 a1 "java/lang/String" "coder" "B" u_coder_a1) (g_a1 : n0 ≤ a1) (F_value_a1 : Fld Z h0 a1 "java/lang/String" "value" "[B" u_value_a1) (hch0 : ¬ ((255 : Int32) < c0)) (hch1 : ¬ ((255 : Int32) < c1)) (hCS : ¬ (w_COMPACT_STRINGS = (0 : Int32))) :
    MetFree l (⟨"java/lang/String", "<init>", "([CIILjava/lang/Void;)V"⟩ : MethodName) (head1 (Jvm.Cond.code (⟨"java/lang/String", "<init>", "([CIILjava/lang/Void;)V"⟩ : MethodName) jdk_42_method_149_code 6 none :: ws) ({ frames := 2, cells := 1, slots := 2, locals := 35 } : Room)) (fun a U => a = #[(.ref a1), (.ref a2), (.int (0 : Int32)), (.int (2 : Int32)), .null] ∧ Z.Warmed39 U.vm ∧ U.heap = h0) (fun _ _ _ _ _ => True) (fun _ U o U' => ∃ v L, o = .returned v ∧ Q_ini4_2 Z a1 a2 ka c0 c1 w_COMPACT_STRINGS u_coder_a1 u_value_a1 h0 n0 v U'.heap L ∧ FrameEnd U o U' L ({ frames := 2, cells := 1, slots := 2, locals := 35 } : Room).cells ({ frames := 2, cells := 1, slots := 2, locals := 35 } : Room).slots) := by
  refine MetFree.of_bodySF (plainFor_of_name pn1) hisR ?_
  intro p e s m args below meth c s₁ Bd hml0 hP hK
  obtain ⟨rfl, hZ, hh⟩ := hP
  have hx := Bd.exec
  have hby := Bd.bytes
  have hml : c.maxLocals = 6 := hml0
  have hown : s.vm.findClass "java/lang/String" = some m.cls := findClass_of_methodNamed Bd.named
  have hnm := (name_of_methodNamed Bd.named Bd.method).1
  have X0 : Stand p l e ({ frames := 2, cells := 1, slots := 2, locals := 35 } : Room) s m #[(.ref a1), (.ref a2), (.int (0 : Int32)), (.int (2 : Int32)), .null] below meth c s₁ [] 0 0 := Stand.of_body Bd
  have e0 : s₁.heap = h0 := by rw [← hh, Bd.state]; rfl
  have N0 := Fr.nil n0
  have pre0 : ∀ t, Steps p.tables e below (s₁.setTop (mkF m 0 #[.val (.ref a1), .val (.ref a2), .val (.int (0 : Int32)), .val (.int (2 : Int32)), .val .null, .unset] [])) t → Steps p.tables e below (s₁.setTop (entryFrame m #[(.ref a1), (.ref a2), (.int (0 : Int32)), (.int (2 : Int32)), .null] 6)) t := fun t k => castTop (ef_ini4_2 m a1 a2) k
  obtain ⟨T1, X1, e1, st1⟩ := initO X0 hx hZ hown (hw _ (List.mem_of_getElem? (i := 46) rfl)) (hw _ (List.mem_of_getElem? (i := 47) rfl)) (hw _ (List.mem_of_getElem? (i := 48) rfl)) e0 (g := (mkF m 1 #[.val (.ref a1), .val (.ref a2), .val (.int (0 : Int32)), .val (.int (2 : Int32)), .val .null, .unset] [(.ref a1)])) rfl (by rw [hml]; rfl) rfl (hb hby d2_1) (by decide) (W := 0) (by show 2 * 0 + _ ≤ _; exact Nat.le_of_eq rfl) (by decide)
  obtain ⟨T2, X2, e2, st2⟩ := getS2 X1 hx hZ hown (host := "") (Or.inl (hw _ (List.mem_of_getElem? (i := 49) rfl))) Via.refl e1 S_COMPACT_STRINGS (g := (mkF m 27 #[.val (.ref a1), .val (.ref a2), .val (.int (0 : Int32)), .val (.int (2 : Int32)), .val .null, .unset] [])) rfl (hb hby d2_27)
  obtain ⟨_, _, ⟨T3, L3, k3, n3⟩, -, X3, ⟨Lc3, hQ3, l3, y3, z3⟩, st3⟩ := Jvm.LawKit.callS X2 hx (y := (⟨"java/lang/StringUTF16", "compress", "([CII)[B"⟩ : MethodName)) hown (mvT hZ (hw _ (List.mem_of_getElem? (i := 50) rfl))) (mvT hZ (hw _ (List.mem_of_getElem? (i := 51) rfl))) (mvT hZ (hw _ (List.mem_of_getElem? (i := 52) rfl))) (mvT hZ (hw _ (List.mem_of_getElem? (i := 53) rfl))) (by decide) (backOf (W := 0) (rm_cmp3_2 l Z a0 hw [] a2 ka c0 c1 h0 n0 (Nat.le_trans Z0 (Keep.refl h0 [a1]).1) V_a2 (hch0 : ¬ ((255 : Int32) < c0)) (hch1 : ¬ ((255 : Int32) < c1))) hZ (hw _ (List.mem_of_getElem? (i := 53) rfl)) (hw _ (List.mem_of_getElem? (i := 52) rfl)) (by decide) (by decide)) (g := (mkF m 36 #[.val (.ref a1), .val (.ref a2), .val (.int (0 : Int32)), .val (.int (2 : Int32)), .val .null, .unset] [(.int (2 : Int32)), (.int (0 : Int32)), (.ref a2)])) rfl (by rw [hml]; rfl) (argsL := [(.ref a2), (.int (0 : Int32)), (.int (2 : Int32))]) (rest := []) (lenOf pd1 rfl) rfl (by show 2 * 0 + _ ≤ _; exact Nat.le_of_eq rfl) (hb hby d2_36) (fun _ _ => ⟨rfl, e2, (by decide : 0 + 1 ≤ _), (by decide : 0 + 2 ≤ _)⟩)
  dsimp only [Pt.U, Pt.locs, Pt.cells, Pt.slots] at X3 l3 y3 z3 st3 hQ3
  subst l3 y3 z3
  obtain ⟨b1_3, k1_3, rfl, N3q, K3, s3_b1, f3_0⟩ := hQ3
  have N3 := Fr.app N0 N3q
  have sz_b1_3 : h0.size ≤ b1_3 := Nat.le_trans (Keep.refl h0 [a1]).1 s3_b1
  have g_b1_3 : n0 ≤ b1_3 := Nat.le_trans Z0 sz_b1_3
  have KK3 : Keep h0 T3.heap [a1] := (Keep.refl h0 [a1]).trans K3 all0
  obtain ⟨_, _, ⟨T4, L4, k4, n4⟩, -, X4, ⟨Lc4, hQ4, l4, y4, z4⟩, st4⟩ := Jvm.LawKit.callS X3 hx (y := (⟨"java/lang/StringUTF16", "coderFromArrayLen", "([BI)B"⟩ : MethodName)) hown (mvT hZ (hw _ (List.mem_of_getElem? (i := 58) rfl))) (mvT hZ (hw _ (List.mem_of_getElem? (i := 59) rfl))) (mvT hZ (hw _ (List.mem_of_getElem? (i := 52) rfl))) (mvT hZ (hw _ (List.mem_of_getElem? (i := 60) rfl))) (by decide) (backOf (W := 1) (rm_cod_2 l Z a0 hw [] b1_3 k1_3 (nar .byte (c0.toInt8.toInt32)) (nar .byte (c1.toInt8.toInt32)) T3.heap n0 (Nat.le_trans Z0 KK3.1) f3_0 ) hZ (hw _ (List.mem_of_getElem? (i := 60) rfl)) (hw _ (List.mem_of_getElem? (i := 52) rfl)) (by decide) (by decide)) (g := (mkF m 45 #[.val (.ref a1), .val (.ref a2), .val (.int (0 : Int32)), .val (.int (2 : Int32)), .val .null, .val (.ref b1_3)] [(.int (2 : Int32)), (.ref b1_3), (.ref a1)])) rfl (by rw [hml]; rfl) (argsL := [(.ref b1_3), (.int (2 : Int32))]) (rest := [(.ref a1)]) (lenOf pd2 rfl) rfl (by show 2 * 0 + _ ≤ _; exact Nat.le_of_eq rfl) (hb hby d2_45) (fun _ _ => ⟨rfl, rfl, (by decide : 1 + 0 ≤ _), (by decide : 2 + 0 ≤ _)⟩)
  dsimp only [Pt.U, Pt.locs, Pt.cells, Pt.slots] at X4 l4 y4 z4 st4 hQ4
  subst l4 y4 z4
  obtain ⟨rfl, rfl, e4⟩ := hQ4
  have N4 := Fr.app N3 (Fr.nil n0)
  obtain ⟨T5, h5, X5, e5, W5, st5⟩ := putF X4 hx hZ hown (host := "") (Or.inl (hw _ (List.mem_of_getElem? (i := 61) rfl))) Via.refl e4 (F_coder_a1.keep K3 nin0) (E_a1.keep K3) (Or.inr ⟨(hw _ (List.mem_of_getElem? (i := 62) rfl)), rfl, hnm⟩) (hw _ (List.mem_of_getElem? (i := 37) rfl)) (ty := .byte) (by decide) rfl rfl (g := (mkF m 48 #[.val (.ref a1), .val (.ref a2), .val (.int (0 : Int32)), .val (.int (2 : Int32)), .val .null, .val (.ref b1_3)] [(.int (0 : Int32)), (.ref a1)])) rfl rfl (hb hby d2_48)
  have Fw5 := (F_coder_a1.keep K3 nin0).same W5
  have K5 : Keep h0 h5 [a1] := KK3.wr W5 (Or.inl (List.mem_of_getElem? (i := 0) rfl))
  have N5 := Fr.snoc X5 N4 g_a1
  obtain ⟨T6, h6, X6, e6, W6, st6⟩ := putF X5 hx hZ hown (host := "") (Or.inl (hw _ (List.mem_of_getElem? (i := 63) rfl))) Via.refl e5 ((F_value_a1.keep K3 nin0).other W5 (Or.inr (slot_ne (Or.inr (hw _ (List.mem_of_getElem? (i := 64) rfl))) (Or.inr (hw _ (List.mem_of_getElem? (i := 62) rfl))) (by decide) (t := (.array .byte)) (t' := .byte) (by decide) (by decide)))) ((E_a1.keep K3).wr W5) (Or.inr ⟨(hw _ (List.mem_of_getElem? (i := 64) rfl)), rfl, hnm⟩) (hw _ (List.mem_of_getElem? (i := 37) rfl)) (ty := (.array .byte)) (by decide) rfl rfl (g := (mkF m 54 #[.val (.ref a1), .val (.ref a2), .val (.int (0 : Int32)), .val (.int (2 : Int32)), .val .null, .val (.ref b1_3)] [(.ref b1_3), (.ref a1)])) rfl rfl (hb hby d2_54)
  have Fw6 := ((F_value_a1.keep K3 nin0).other W5 (Or.inr (slot_ne (Or.inr (hw _ (List.mem_of_getElem? (i := 64) rfl))) (Or.inr (hw _ (List.mem_of_getElem? (i := 62) rfl))) (by decide) (t := (.array .byte)) (t' := .byte) (by decide) (by decide)))).same W6
  have K6 : Keep h0 h6 [a1] := K5.wr W6 (Or.inl (List.mem_of_getElem? (i := 0) rfl))
  have N6 := Fr.snoc X6 N5 g_a1
  obtain ⟨fs, hr, hrun, hended, hW, hsame⟩ := X6.leave (v := none) (fun _ => rfl)
  refine ⟨_, _, pre0 _ ?_, hrun, hended, _, _, rfl, ?_, ⟨_, rfl⟩, hW, hsame.mono (by decide) (by decide)⟩
  · show Steps p.tables e below (s₁.setTop (mkF m 0 #[.val (.ref a1), .val (.ref a2), .val (.int (0 : Int32)), .val (.int (2 : Int32)), .val .null, .unset] [])) _
    refine XS.aloadN X0.here hx rfl (hb hby d2_0) rfl rfl ?_
    show Steps p.tables e below (s₁.setTop (mkF m 1 #[.val (.ref a1), .val (.ref a2), .val (.int (0 : Int32)), .val (.int (2 : Int32)), .val .null, .unset] [(.ref a1)])) _
    refine st1 _ ?_
    show Steps p.tables e below (T1.setTop (mkF m 4 #[.val (.ref a1), .val (.ref a2), .val (.int (0 : Int32)), .val (.int (2 : Int32)), .val .null, .unset] [])) _
    refine XS.iloadN X1.here hx rfl (hb hby d2_4) rfl ?_
    show Steps p.tables e below (T1.setTop (mkF m 5 #[.val (.ref a1), .val (.ref a2), .val (.int (0 : Int32)), .val (.int (2 : Int32)), .val .null, .unset] [(.int (2 : Int32))])) _
    refine XS.ifYes X1.here hx rfl (pc0 := 5) (pc' := 27) rfl (hb hby d2_5) rfl ((if0 _ _).trans (feq (by decide : ¬ ((2 : Int32) = (0 : Int32)))).2) (by decide) (by decide) ?_
    show Steps p.tables e below (T1.setTop (mkF m 27 #[.val (.ref a1), .val (.ref a2), .val (.int (0 : Int32)), .val (.int (2 : Int32)), .val .null, .unset] [])) _
    refine st2 _ ?_
    show Steps p.tables e below (T2.setTop (mkF m 30 #[.val (.ref a1), .val (.ref a2), .val (.int (0 : Int32)), .val (.int (2 : Int32)), .val .null, .unset] [(.int w_COMPACT_STRINGS)])) _
    refine XS.ifNo X2.here hx rfl (hb hby d2_30) rfl ((if0 _ _).trans (feq (hCS : ¬ (w_COMPACT_STRINGS = (0 : Int32)))).1) ?_
    show Steps p.tables e below (T2.setTop (mkF m 33 #[.val (.ref a1), .val (.ref a2), .val (.int (0 : Int32)), .val (.int (2 : Int32)), .val .null, .unset] [])) _
    refine XS.aloadN X2.here hx rfl (hb hby d2_33) rfl rfl ?_
    show Steps p.tables e below (T2.setTop (mkF m 34 #[.val (.ref a1), .val (.ref a2), .val (.int (0 : Int32)), .val (.int (2 : Int32)), .val .null, .unset] [(.ref a2)])) _
    refine XS.iloadN X2.here hx rfl (hb hby d2_34) rfl ?_
    show Steps p.tables e below (T2.setTop (mkF m 35 #[.val (.ref a1), .val (.ref a2), .val (.int (0 : Int32)), .val (.int (2 : Int32)), .val .null, .unset] [(.int (0 : Int32)), (.ref a2)])) _
    refine XS.iloadN X2.here hx rfl (hb hby d2_35) rfl ?_
    show Steps p.tables e below (T2.setTop (mkF m 36 #[.val (.ref a1), .val (.ref a2), .val (.int (0 : Int32)), .val (.int (2 : Int32)), .val .null, .unset] [(.int (2 : Int32)), (.int (0 : Int32)), (.ref a2)])) _
    refine st3 _ ?_
    show Steps p.tables e below (T3.setTop (mkF m 39 #[.val (.ref a1), .val (.ref a2), .val (.int (0 : Int32)), .val (.int (2 : Int32)), .val .null, .unset] [(.ref b1_3)])) _
    refine XS.astore X3.here hx rfl (hb hby d2_39) rfl rfl (l' := #[.val (.ref a1), .val (.ref a2), .val (.int (0 : Int32)), .val (.int (2 : Int32)), .val .null, .val (.ref b1_3)]) rfl ?_
    show Steps p.tables e below (T3.setTop (mkF m 41 #[.val (.ref a1), .val (.ref a2), .val (.int (0 : Int32)), .val (.int (2 : Int32)), .val .null, .val (.ref b1_3)] [])) _
    refine XS.aloadN X3.here hx rfl (hb hby d2_41) rfl rfl ?_
    show Steps p.tables e below (T3.setTop (mkF m 42 #[.val (.ref a1), .val (.ref a2), .val (.int (0 : Int32)), .val (.int (2 : Int32)), .val .null, .val (.ref b1_3)] [(.ref a1)])) _
    refine XS.aload X3.here hx rfl (hb hby d2_42) rfl rfl ?_
    show Steps p.tables e below (T3.setTop (mkF m 44 #[.val (.ref a1), .val (.ref a2), .val (.int (0 : Int32)), .val (.int (2 : Int32)), .val .null, .val (.ref b1_3)] [(.ref b1_3), (.ref a1)])) _
    refine XS.iloadN X3.here hx rfl (hb hby d2_44) rfl ?_
    show Steps p.tables e below (T3.setTop (mkF m 45 #[.val (.ref a1), .val (.ref a2), .val (.int (0 : Int32)), .val (.int (2 : Int32)), .val .null, .val (.ref b1_3)] [(.int (2 : Int32)), (.ref b1_3), (.ref a1)])) _
    refine st4 _ ?_
    show Steps p.tables e below (T4.setTop (mkF m 48 #[.val (.ref a1), .val (.ref a2), .val (.int (0 : Int32)), .val (.int (2 : Int32)), .val .null, .val (.ref b1_3)] [(.int (0 : Int32)), (.ref a1)])) _
    refine st5 _ ?_
    show Steps p.tables e below (T5.setTop (mkF m 51 #[.val (.ref a1), .val (.ref a2), .val (.int (0 : Int32)), .val (.int (2 : Int32)), .val .null, .val (.ref b1_3)] [])) _
    refine XS.aloadN X5.here hx rfl (hb hby d2_51) rfl rfl ?_
    show Steps p.tables e below (T5.setTop (mkF m 52 #[.val (.ref a1), .val (.ref a2), .val (.int (0 : Int32)), .val (.int (2 : Int32)), .val .null, .val (.ref b1_3)] [(.ref a1)])) _
    refine XS.aload X5.here hx rfl (hb hby d2_52) rfl rfl ?_
    show Steps p.tables e below (T5.setTop (mkF m 54 #[.val (.ref a1), .val (.ref a2), .val (.int (0 : Int32)), .val (.int (2 : Int32)), .val .null, .val (.ref b1_3)] [(.ref b1_3), (.ref a1)])) _
    refine st6 _ ?_
    show Steps p.tables e below (T6.setTop (mkF m 57 #[.val (.ref a1), .val (.ref a2), .val (.int (0 : Int32)), .val (.int (2 : Int32)), .val .null, .val (.ref b1_3)] [])) _
    exact X6.returnOut hx Bd.returns (hb hby d2_57) hr
  · show Q_ini4_2 Z a1 a2 ka c0 c1 w_COMPACT_STRINGS u_coder_a1 u_value_a1 h0 n0 _ T6.heap _
    rw [e6]
    exact ⟨b1_3, k1_3, rfl, N6, K6, sz_b1_3, (((E_a1.keep K3).wr W5).wr W6), (Fw5.other W6 (Or.inr (slot_ne (Or.inr (hw _ (List.mem_of_getElem? (i := 62) rfl))) (Or.inr (hw _ (List.mem_of_getElem? (i := 64) rfl))) (by decide) (t := .byte) (t' := (.array .byte)) (by decide) (by decide)))), Fw6, ((f3_0.other W5 (Ne.symm (Nat.ne_of_lt (Nat.lt_of_lt_of_le E_a1.lt s3_b1)))).other W6 (Ne.symm (Nat.ne_of_lt (Nat.lt_of_lt_of_le E_a1.lt s3_b1))))⟩
theorem d1_0 : decode jdk_42_method_3_code 0 = .ok (.aload_n 0, 1) := by decide +kernel
theorem d1_1 : decode jdk_42_method_3_code 1 = .ok (.aload_n 1, 1) := by decide +kernel
theorem d1_2 : decode jdk_42_method_3_code 2 = .ok (.iconst 0, 1) := by decide +kernel
theorem d1_3 : decode jdk_42_method_3_code 3 = .ok (.aload_n 1, 1) := by decide +kernel
theorem d1_4 : decode jdk_42_method_3_code 4 = .ok (.arraylength, 1) := by decide +kernel
theorem d1_5 : decode jdk_42_method_3_code 5 = .ok (.aconst_null, 1) := by decide +kernel
theorem d1_6 : decode jdk_42_method_3_code 6 = .ok (.invokespecial 27, 3) := by decide +kernel
theorem d1_9 : decode jdk_42_method_3_code 9 = .ok (.return_, 1) := by decide +kernel
theorem pd3 : parseMethodDescriptor "([CIILjava/lang/Void;)V" = some ⟨[(.array .char), .int, .int, (.object "java/lang/Void")], none⟩ := by decide +kernel
theorem ef_ini1_2 (m : MethodId) (a1 : Addr) (a2 : Addr) : entryFrame m #[(.ref a1), (.ref a2)] 2 = (mkF m 0 #[.val (.ref a1), .val (.ref a2)] []) := by first | (simp [entryFrame, mkF, argsToLocals, Value.category]; done) | rfl
def Q_ini1_2 (Z : State) (a1 : Addr) (a2 : Addr) (ka : ClassId) (c0 : Int32) (c1 : Int32) (w_COMPACT_STRINGS : Int32) (u_coder_a1 : Value) (u_value_a1 : Value) (h0 : Heap) (n0 : Nat) (v : Option Value) (h : Heap) (L : List Loc) : Prop := ∃ (b1_3_2 : Addr) (k1_3_2 : ClassId), v = none ∧ Fr n0 L ∧ Keep h0 h [a1] ∧ h0.size ≤ b1_3_2 ∧ Exa Z h a1 "java/lang/String" ∧ Fld Z h a1 "java/lang/String" "coder" "B" (.int (0 : Int32)) ∧ Fld Z h a1 "java/lang/String" "value" "[B" (.ref b1_3_2) ∧ Arv Z h b1_3_2 k1_3_2 .byte (2 : Int32) [(.int (nar .byte (c0.toInt8.toInt32))), (.int (nar .byte (c1.toInt8.toInt32)))] (.int (0 : Int32))
set_option maxRecDepth 65536 in
set_option maxHeartbeats 40000000 in
theorem rm_ini1_2 (l : Launch) (Z : State) (a0 : Array Value) (hw : ∀ d ∈ tables_1, d.before a0 Z = true) (ws : List Jvm.Cond) (a1 : Addr) (a2 : Addr) (ka : ClassId) (c0 : Int32) (c1 : Int32) (w_COMPACT_STRINGS : Int32) (u_coder_a1 : Value) (u_value_a1 : Value) (h0 : Heap) (n0 : Nat) (Z0 : n0 ≤ h0.size) (V_a2 : Arv Z h0 a2 ka .char (2 : Int32) [(.int c0), (.int c1)] (.int (0 : Int32))) (S_COMPACT_STRINGS : Sta Z h0 "java/lang/String" "COMPACT_STRINGS" "Z" (.int w_COMPACT_STRINGS)) (E_a1 : Exa Z h0 a1 "java/lang/String") (F_coder_a1 : Fld Z h0 a1 "java/lang/String" "coder" "B" u_coder_a1) (g_a1 : n0 ≤ a1) (F_value_a1 : Fld Z h0 a1 "java/lang/String" "value" "[B" u_value_a1) (hch0 : ¬ ((255 : Int32) < c0)) (hch1 : ¬ ((255 : Int32) < c1)) (hCS : ¬ (w_COMPACT_STRINGS = (0 : Int32))) :
    MetFree l (⟨"java/lang/String", "<init>", "([C)V"⟩ : MethodName) (head1 (Jvm.Cond.code (⟨"java/lang/String", "<init>", "([C)V"⟩ : MethodName) jdk_42_method_3_code 2 none :: ws) ({ frames := 3, cells := 1, slots := 2, locals := 52 } : Room)) (fun a U => a = #[(.ref a1), (.ref a2)] ∧ Z.Warmed39 U.vm ∧ U.heap = h0) (fun _ _ _ _ _ => True) (fun _ U o U' => ∃ v L, o = .returned v ∧ Q_ini1_2 Z a1 a2 ka c0 c1 w_COMPACT_STRINGS u_coder_a1 u_value_a1 h0 n0 v U'.heap L ∧ FrameEnd U o U' L ({ frames := 3, cells := 1, slots := 2, locals := 52 } : Room).cells ({ frames := 3, cells := 1, slots := 2, locals := 52 } : Room).slots) := by
  refine MetFree.of_bodySF (plainFor_of_name pn1) hisR ?_
  intro p e s m args below meth c s₁ Bd hml0 hP hK
  obtain ⟨rfl, hZ, hh⟩ := hP
  have hx := Bd.exec
  have hby := Bd.bytes
  have hml : c.maxLocals = 2 := hml0
  have hown : s.vm.findClass "java/lang/String" = some m.cls := findClass_of_methodNamed Bd.named
  have hnm := (name_of_methodNamed Bd.named Bd.method).1
  have X0 : Stand p l e ({ frames := 3, cells := 1, slots := 2, locals := 52 } : Room) s m #[(.ref a1), (.ref a2)] below meth c s₁ [] 0 0 := Stand.of_body Bd
  have e0 : s₁.heap = h0 := by rw [← hh, Bd.state]; rfl
  have N0 := Fr.nil n0
  have pre0 : ∀ t, Steps p.tables e below (s₁.setTop (mkF m 0 #[.val (.ref a1), .val (.ref a2)] [])) t → Steps p.tables e below (s₁.setTop (entryFrame m #[(.ref a1), (.ref a2)] 2)) t := fun t k => castTop (ef_ini1_2 m a1 a2) k
  obtain ⟨cl_a2_4_1, Ar_a2_4_1, -, S_a2_4_1, N_a2_4_1, -, -⟩ := id V_a2
  obtain ⟨_, _, ⟨T2, L2, k2, n2⟩, -, X2, ⟨Lc2, hQ2, l2, y2, z2⟩, st2⟩ := X0.specialBack hx (y := (⟨"java/lang/String", "<init>", "([CIILjava/lang/Void;)V"⟩ : MethodName)) rfl hown (mvT hZ (hw _ (List.mem_of_getElem? (i := 42) rfl))) (mvT hZ (hw _ (List.mem_of_getElem? (i := 43) rfl))) (mvT hZ (hw _ (List.mem_of_getElem? (i := 45) rfl))) (by decide) (backOf (W := 0) (rm_ini4_2 l Z a0 hw [] a1 a2 ka c0 c1 w_COMPACT_STRINGS u_coder_a1 u_value_a1 h0 n0 (Nat.le_trans Z0 (Keep.refl h0 [a1]).1) V_a2 S_COMPACT_STRINGS E_a1 F_coder_a1 g_a1 F_value_a1 (hch0 : ¬ ((255 : Int32) < c0)) (hch1 : ¬ ((255 : Int32) < c1)) (hCS : ¬ (w_COMPACT_STRINGS = (0 : Int32)))) hZ (hw _ (List.mem_of_getElem? (i := 45) rfl)) (hw _ (List.mem_of_getElem? (i := 38) rfl)) (by decide) (by decide)) (g := (mkF m 6 #[.val (.ref a1), .val (.ref a2)] [.null, (.int (2 : Int32)), (.int (0 : Int32)), (.ref a2), (.ref a1)])) rfl (by rw [hml]; rfl) (Steps.refl _) (a := a1) (argsL := [(.ref a2), (.int (0 : Int32)), (.int (2 : Int32)), .null]) (rest := []) (lenOf pd3 rfl) rfl (by show 2 * 0 + _ ≤ _; exact Nat.le_of_eq rfl) (hb hby d1_6) (fun _ _ => ⟨rfl, e0, (by decide : 0 + 1 ≤ _), (by decide : 0 + 2 ≤ _)⟩)
  dsimp only [Pt.U, Pt.locs, Pt.cells, Pt.slots] at X2 l2 y2 z2 st2 hQ2
  subst l2 y2 z2
  obtain ⟨b1_3_2, k1_3_2, rfl, N2q, K2, s2_b1_3, f2_0, f2_1, f2_2, f2_3⟩ := hQ2
  have N2 := Fr.app N0 N2q
  have sz_b1_3_2 : h0.size ≤ b1_3_2 := Nat.le_trans (Keep.refl h0 [a1]).1 s2_b1_3
  have g_b1_3_2 : n0 ≤ b1_3_2 := Nat.le_trans Z0 sz_b1_3_2
  have KK2 : Keep h0 T2.heap [a1] := (Keep.refl h0 [a1]).trans K2 (allS (Or.inl (List.mem_of_getElem? (i := 0) rfl)) all0)
  obtain ⟨fs, hr, hrun, hended, hW, hsame⟩ := X2.leave (v := none) (fun _ => rfl)
  refine ⟨_, _, pre0 _ ?_, hrun, hended, _, _, rfl, ?_, ⟨_, rfl⟩, hW, hsame.mono (by decide) (by decide)⟩
  · show Steps p.tables e below (s₁.setTop (mkF m 0 #[.val (.ref a1), .val (.ref a2)] [])) _
    refine XS.aloadN X0.here hx rfl (hb hby d1_0) rfl rfl ?_
    show Steps p.tables e below (s₁.setTop (mkF m 1 #[.val (.ref a1), .val (.ref a2)] [(.ref a1)])) _
    refine XS.aloadN X0.here hx rfl (hb hby d1_1) rfl rfl ?_
    show Steps p.tables e below (s₁.setTop (mkF m 2 #[.val (.ref a1), .val (.ref a2)] [(.ref a2), (.ref a1)])) _
    refine XS.iconst X0.here hx rfl (hb hby d1_2) ?_
    show Steps p.tables e below (s₁.setTop (mkF m 3 #[.val (.ref a1), .val (.ref a2)] [(.int (0 : Int32)), (.ref a2), (.ref a1)])) _
    refine XS.aloadN X0.here hx rfl (hb hby d1_3) rfl rfl ?_
    show Steps p.tables e below (s₁.setTop (mkF m 4 #[.val (.ref a1), .val (.ref a2)] [(.ref a2), (.int (0 : Int32)), (.ref a2), (.ref a1)])) _
    refine X0.arraylength hx (by rw [e0]; exact Ar_a2_4_1.1) (State.isArrayOf_alike hZ.alike Ar_a2_4_1.2.1) (g := (mkF m 4 #[.val (.ref a1), .val (.ref a2)] [(.ref a2), (.int (0 : Int32)), (.ref a2), (.ref a1)])) rfl rfl (hb hby d1_4) _ ?_
    rw [len_of S_a2_4_1 N_a2_4_1]
    show Steps p.tables e below (s₁.setTop (mkF m 5 #[.val (.ref a1), .val (.ref a2)] [(.int (2 : Int32)), (.int (0 : Int32)), (.ref a2), (.ref a1)])) _
    refine XS.aconstNull X0.here hx rfl (hb hby d1_5) ?_
    show Steps p.tables e below (s₁.setTop (mkF m 6 #[.val (.ref a1), .val (.ref a2)] [.null, (.int (2 : Int32)), (.int (0 : Int32)), (.ref a2), (.ref a1)])) _
    refine st2.trans ?_
    show Steps p.tables e below (T2.setTop (mkF m 9 #[.val (.ref a1), .val (.ref a2)] [])) _
    exact X2.returnOut hx Bd.returns (hb hby d1_9) hr
  · show Q_ini1_2 Z a1 a2 ka c0 c1 w_COMPACT_STRINGS u_coder_a1 u_value_a1 h0 n0 _ T2.heap _
    exact ⟨b1_3_2, k1_3_2, rfl, N2, KK2, sz_b1_3_2, (E_a1.keep K2), f2_1, f2_2, f2_3⟩
theorem d8_0 : decode jdk_30_method_1_code 0 = .ok (.aload_n 0, 1) := by decide +kernel
theorem d8_1 : decode jdk_30_method_1_code 1 = .ok (.invokespecial 1, 3) := by decide +kernel
theorem d8_4 : decode jdk_30_method_1_code 4 = .ok (.return_, 1) := by decide +kernel
theorem pn2 : plainName "java/lang/Record" = true := by first | (simp [plainName, overriddenIn]; done) | decide +kernel
theorem ef8 (m : MethodId) (a1 : Addr) : entryFrame m #[(.ref a1)] 1 = (mkF m 0 #[.val (.ref a1)] []) := by first | (simp [entryFrame, mkF, argsToLocals, Value.category]; done) | rfl
def Q8 (Z : State) (a1 : Addr) (h0 : Heap) (n0 : Nat) (v : Option Value) (h : Heap) (L : List Loc) : Prop := v = none ∧ L = [] ∧ h = h0
set_option maxRecDepth 65536 in
set_option maxHeartbeats 40000000 in
theorem rm8 (l : Launch) (Z : State) (a0 : Array Value) (hw : ∀ d ∈ tables_1, d.before a0 Z = true) (ws : List Jvm.Cond) (a1 : Addr) (h0 : Heap) (n0 : Nat) (Z0 : n0 ≤ h0.size) :
    MetFree l (⟨"java/lang/Record", "<init>", "()V"⟩ : MethodName) (head1 (Jvm.Cond.code (⟨"java/lang/Record", "<init>", "()V"⟩ : MethodName) jdk_30_method_1_code 1 none :: ws) ({ frames := 1, cells := 0, slots := 0, locals := 12 } : Room)) (fun a U => a = #[(.ref a1)] ∧ Z.Warmed39 U.vm ∧ U.heap = h0) (fun _ _ _ _ _ => True) (fun _ U o U' => ∃ v L, o = .returned v ∧ Q8 Z a1 h0 n0 v U'.heap L ∧ FrameEnd U o U' L ({ frames := 1, cells := 0, slots := 0, locals := 12 } : Room).cells ({ frames := 1, cells := 0, slots := 0, locals := 12 } : Room).slots) := by
  refine MetFree.of_bodySF (plainFor_of_name pn2) hisR ?_
  intro p e s m args below meth c s₁ Bd hml0 hP hK
  obtain ⟨rfl, hZ, hh⟩ := hP
  have hx := Bd.exec
  have hby := Bd.bytes
  have hml : c.maxLocals = 1 := hml0
  have hown : s.vm.findClass "java/lang/Record" = some m.cls := findClass_of_methodNamed Bd.named
  have hnm := (name_of_methodNamed Bd.named Bd.method).1
  have X0 : Stand p l e ({ frames := 1, cells := 0, slots := 0, locals := 12 } : Room) s m #[(.ref a1)] below meth c s₁ [] 0 0 := Stand.of_body Bd
  have e0 : s₁.heap = h0 := by rw [← hh, Bd.state]; rfl
  have N0 := Fr.nil n0
  have pre0 : ∀ t, Steps p.tables e below (s₁.setTop (mkF m 0 #[.val (.ref a1)] [])) t → Steps p.tables e below (s₁.setTop (entryFrame m #[(.ref a1)] 1)) t := fun t k => castTop (ef8 m a1) k
  obtain ⟨T1, X1, e1, st1⟩ := initO X0 hx hZ hown (hw _ (List.mem_of_getElem? (i := 76) rfl)) (hw _ (List.mem_of_getElem? (i := 47) rfl)) (hw _ (List.mem_of_getElem? (i := 48) rfl)) e0 (g := (mkF m 1 #[.val (.ref a1)] [(.ref a1)])) rfl (by rw [hml]; rfl) rfl (hb hby d8_1) (by decide) (W := 0) (by show 2 * 0 + _ ≤ _; exact Nat.le_of_eq rfl) (by decide)
  obtain ⟨fs, hr, hrun, hended, hW, hsame⟩ := X1.leave (v := none) (fun _ => rfl)
  refine ⟨_, _, pre0 _ ?_, hrun, hended, _, _, rfl, ?_, ⟨_, rfl⟩, hW, hsame.mono (by decide) (by decide)⟩
  · show Steps p.tables e below (s₁.setTop (mkF m 0 #[.val (.ref a1)] [])) _
    refine XS.aloadN X0.here hx rfl (hb hby d8_0) rfl rfl ?_
    show Steps p.tables e below (s₁.setTop (mkF m 1 #[.val (.ref a1)] [(.ref a1)])) _
    refine st1 _ ?_
    show Steps p.tables e below (T1.setTop (mkF m 4 #[.val (.ref a1)] [])) _
    exact X1.returnOut hx Bd.returns (hb hby d8_4) hr
  · show Q8 Z a1 h0 n0 _ T1.heap _
    rw [e1]
    exact ⟨rfl, rfl, rfl⟩
theorem d7_0 : decode prog_3_method_1_code 0 = .ok (.aload_n 0, 1) := by decide +kernel
theorem d7_1 : decode prog_3_method_1_code 1 = .ok (.invokespecial 1, 3) := by decide +kernel
theorem d7_4 : decode prog_3_method_1_code 4 = .ok (.aload_n 0, 1) := by decide +kernel
theorem d7_5 : decode prog_3_method_1_code 5 = .ok (.aload_n 1, 1) := by decide +kernel
theorem d7_6 : decode prog_3_method_1_code 6 = .ok (.putfield 7, 3) := by decide +kernel
theorem d7_9 : decode prog_3_method_1_code 9 = .ok (.aload_n 0, 1) := by decide +kernel
theorem d7_10 : decode prog_3_method_1_code 10 = .ok (.aload_n 2, 1) := by decide +kernel
theorem d7_11 : decode prog_3_method_1_code 11 = .ok (.putfield 13, 3) := by decide +kernel
theorem d7_14 : decode prog_3_method_1_code 14 = .ok (.aload_n 0, 1) := by decide +kernel
theorem d7_15 : decode prog_3_method_1_code 15 = .ok (.iload_n 3, 1) := by decide +kernel
theorem d7_16 : decode prog_3_method_1_code 16 = .ok (.putfield 17, 3) := by decide +kernel
theorem d7_19 : decode prog_3_method_1_code 19 = .ok (.return_, 1) := by decide +kernel
theorem pd4 : parseMethodDescriptor "()V" = some ⟨[], none⟩ := by decide +kernel
theorem pn3 : plainName "com/example/cantrip/cantrip/Token" = true := by first | (simp [plainName, overriddenIn]; done) | decide +kernel
theorem ef7 (m : MethodId) (a1 : Addr) (a2 : Addr) (a3 : Addr) (p4 : Int32) : entryFrame m #[(.ref a1), (.ref a2), (.ref a3), (.int p4)] 4 = (mkF m 0 #[.val (.ref a1), .val (.ref a2), .val (.ref a3), .val (.int p4)] []) := by first | (simp [entryFrame, mkF, argsToLocals, Value.category]; done) | rfl
def Q7 (Z : State) (a1 : Addr) (a2 : Addr) (a3 : Addr) (p4 : Int32) (u_kind_a1 : Value) (u_text_a1 : Value) (u_offset_a1 : Value) (h0 : Heap) (n0 : Nat) (v : Option Value) (h : Heap) (L : List Loc) : Prop := v = none ∧ Fr n0 L ∧ Keep h0 h [a1] ∧ Exa Z h a1 "com/example/cantrip/cantrip/Token" ∧ Fld Z h a1 "com/example/cantrip/cantrip/Token" "kind" "Lcom/example/cantrip/cantrip/Token$Kind;" (.ref a2) ∧ Fld Z h a1 "com/example/cantrip/cantrip/Token" "text" "Ljava/lang/String;" (.ref a3) ∧ Fld Z h a1 "com/example/cantrip/cantrip/Token" "offset" "I" (.int p4)
set_option maxRecDepth 65536 in
set_option maxHeartbeats 40000000 in
theorem rm7 (l : Launch) (Z : State) (a0 : Array Value) (hw : ∀ d ∈ tables_1, d.before a0 Z = true) (ws : List Jvm.Cond) (a1 : Addr) (a2 : Addr) (a3 : Addr) (p4 : Int32) (u_kind_a1 : Value) (u_text_a1 : Value) (u_offset_a1 : Value) (h0 : Heap) (n0 : Nat) (Z0 : n0 ≤ h0.size) (E_a1 : Exa Z h0 a1 "com/example/cantrip/cantrip/Token") (F_kind_a1 : Fld Z h0 a1 "com/example/cantrip/cantrip/Token" "kind" "Lcom/example/cantrip/cantrip/Token$Kind;" u_kind_a1) (g_a1 : n0 ≤ a1) (F_text_a1 : Fld Z h0 a1 "com/example/cantrip/cantrip/Token" "text" "Ljava/lang/String;" u_text_a1) (F_offset_a1 : Fld Z h0 a1 "com/example/cantrip/cantrip/Token" "offset" "I" u_offset_a1) :
    MetFree l (⟨"com/example/cantrip/cantrip/Token", "<init>", "(Lcom/example/cantrip/cantrip/Token$Kind;Ljava/lang/String;I)V"⟩ : MethodName) (head1 (Jvm.Cond.code (⟨"com/example/cantrip/cantrip/Token", "<init>", "(Lcom/example/cantrip/cantrip/Token$Kind;Ljava/lang/String;I)V"⟩ : MethodName) prog_3_method_1_code 4 none :: ws) ({ frames := 2, cells := 0, slots := 0, locals := 24 } : Room)) (fun a U => a = #[(.ref a1), (.ref a2), (.ref a3), (.int p4)] ∧ Z.Warmed39 U.vm ∧ U.heap = h0) (fun _ _ _ _ _ => True) (fun _ U o U' => ∃ v L, o = .returned v ∧ Q7 Z a1 a2 a3 p4 u_kind_a1 u_text_a1 u_offset_a1 h0 n0 v U'.heap L ∧ FrameEnd U o U' L ({ frames := 2, cells := 0, slots := 0, locals := 24 } : Room).cells ({ frames := 2, cells := 0, slots := 0, locals := 24 } : Room).slots) := by
  refine MetFree.of_bodySF (plainFor_of_name pn3) hisR ?_
  intro p e s m args below meth c s₁ Bd hml0 hP hK
  obtain ⟨rfl, hZ, hh⟩ := hP
  have hx := Bd.exec
  have hby := Bd.bytes
  have hml : c.maxLocals = 4 := hml0
  have hown : s.vm.findClass "com/example/cantrip/cantrip/Token" = some m.cls := findClass_of_methodNamed Bd.named
  have hnm := (name_of_methodNamed Bd.named Bd.method).1
  have X0 : Stand p l e ({ frames := 2, cells := 0, slots := 0, locals := 24 } : Room) s m #[(.ref a1), (.ref a2), (.ref a3), (.int p4)] below meth c s₁ [] 0 0 := Stand.of_body Bd
  have e0 : s₁.heap = h0 := by rw [← hh, Bd.state]; rfl
  have N0 := Fr.nil n0
  have pre0 : ∀ t, Steps p.tables e below (s₁.setTop (mkF m 0 #[.val (.ref a1), .val (.ref a2), .val (.ref a3), .val (.int p4)] [])) t → Steps p.tables e below (s₁.setTop (entryFrame m #[(.ref a1), (.ref a2), (.ref a3), (.int p4)] 4)) t := fun t k => castTop (ef7 m a1 a2 a3 p4) k
  obtain ⟨_, _, ⟨T1, L1, k1, n1⟩, -, X1, ⟨Lc1, hQ1, l1, y1, z1⟩, st1⟩ := X0.specialBack hx (y := (⟨"java/lang/Record", "<init>", "()V"⟩ : MethodName)) rfl hown (mvT hZ (hw _ (List.mem_of_getElem? (i := 71) rfl))) (mvT hZ (hw _ (List.mem_of_getElem? (i := 72) rfl))) (mvT hZ (hw _ (List.mem_of_getElem? (i := 75) rfl))) (by decide) (backOf (W := 0) (rm8 l Z a0 hw [] a1  h0 n0 (Nat.le_trans Z0 (Keep.refl h0 [a1]).1)  ) hZ (hw _ (List.mem_of_getElem? (i := 75) rfl)) (hw _ (List.mem_of_getElem? (i := 74) rfl)) (by decide) (by decide)) (g := (mkF m 1 #[.val (.ref a1), .val (.ref a2), .val (.ref a3), .val (.int p4)] [(.ref a1)])) rfl (by rw [hml]; rfl) (Steps.refl _) (a := a1) (argsL := []) (rest := []) (lenOf pd4 rfl) rfl (by show 2 * 0 + _ ≤ _; exact Nat.le_of_eq rfl) (hb hby d7_1) (fun _ _ => ⟨rfl, e0, (by decide : 0 + 0 ≤ _), (by decide : 0 + 0 ≤ _)⟩)
  dsimp only [Pt.U, Pt.locs, Pt.cells, Pt.slots] at X1 l1 y1 z1 st1 hQ1
  subst l1 y1 z1
  obtain ⟨rfl, rfl, e1⟩ := hQ1
  have N1 := Fr.app N0 (Fr.nil n0)
  obtain ⟨T2, h2, X2, e2, W2, st2⟩ := putF X1 hx hZ hown (host := "") (Or.inl (hw _ (List.mem_of_getElem? (i := 77) rfl))) Via.refl e1 F_kind_a1 E_a1 (Or.inr ⟨(hw _ (List.mem_of_getElem? (i := 78) rfl)), rfl, hnm⟩) (hw _ (List.mem_of_getElem? (i := 66) rfl)) (ty := (.object "com/example/cantrip/cantrip/Token$Kind")) (by decide) rfl rfl (g := (mkF m 6 #[.val (.ref a1), .val (.ref a2), .val (.ref a3), .val (.int p4)] [(.ref a2), (.ref a1)])) rfl rfl (hb hby d7_6)
  have Fw2 := F_kind_a1.same W2
  have K2 : Keep h0 h2 [a1] := (Keep.refl h0 [a1]).wr W2 (Or.inl (List.mem_of_getElem? (i := 0) rfl))
  have N2 := Fr.snoc X2 N1 g_a1
  obtain ⟨T3, h3, X3, e3, W3, st3⟩ := putF X2 hx hZ hown (host := "") (Or.inl (hw _ (List.mem_of_getElem? (i := 79) rfl))) Via.refl e2 (F_text_a1.other W2 (Or.inr (slot_ne (Or.inr (hw _ (List.mem_of_getElem? (i := 80) rfl))) (Or.inr (hw _ (List.mem_of_getElem? (i := 78) rfl))) (by decide) (t := (.object "java/lang/String")) (t' := (.object "com/example/cantrip/cantrip/Token$Kind")) (by decide) (by decide)))) (E_a1.wr W2) (Or.inr ⟨(hw _ (List.mem_of_getElem? (i := 80) rfl)), rfl, hnm⟩) (hw _ (List.mem_of_getElem? (i := 66) rfl)) (ty := (.object "java/lang/String")) (by decide) rfl rfl (g := (mkF m 11 #[.val (.ref a1), .val (.ref a2), .val (.ref a3), .val (.int p4)] [(.ref a3), (.ref a1)])) rfl rfl (hb hby d7_11)
  have Fw3 := (F_text_a1.other W2 (Or.inr (slot_ne (Or.inr (hw _ (List.mem_of_getElem? (i := 80) rfl))) (Or.inr (hw _ (List.mem_of_getElem? (i := 78) rfl))) (by decide) (t := (.object "java/lang/String")) (t' := (.object "com/example/cantrip/cantrip/Token$Kind")) (by decide) (by decide)))).same W3
  have K3 : Keep h0 h3 [a1] := K2.wr W3 (Or.inl (List.mem_of_getElem? (i := 0) rfl))
  have N3 := Fr.snoc X3 N2 g_a1
  obtain ⟨T4, h4, X4, e4, W4, st4⟩ := putF X3 hx hZ hown (host := "") (Or.inl (hw _ (List.mem_of_getElem? (i := 81) rfl))) Via.refl e3 ((F_offset_a1.other W2 (Or.inr (slot_ne (Or.inr (hw _ (List.mem_of_getElem? (i := 82) rfl))) (Or.inr (hw _ (List.mem_of_getElem? (i := 78) rfl))) (by decide) (t := .int) (t' := (.object "com/example/cantrip/cantrip/Token$Kind")) (by decide) (by decide)))).other W3 (Or.inr (slot_ne (Or.inr (hw _ (List.mem_of_getElem? (i := 82) rfl))) (Or.inr (hw _ (List.mem_of_getElem? (i := 80) rfl))) (by decide) (t := .int) (t' := (.object "java/lang/String")) (by decide) (by decide)))) ((E_a1.wr W2).wr W3) (Or.inr ⟨(hw _ (List.mem_of_getElem? (i := 82) rfl)), rfl, hnm⟩) (hw _ (List.mem_of_getElem? (i := 66) rfl)) (ty := .int) (by decide) rfl rfl (g := (mkF m 16 #[.val (.ref a1), .val (.ref a2), .val (.ref a3), .val (.int p4)] [(.int p4), (.ref a1)])) rfl rfl (hb hby d7_16)
  have Fw4 := ((F_offset_a1.other W2 (Or.inr (slot_ne (Or.inr (hw _ (List.mem_of_getElem? (i := 82) rfl))) (Or.inr (hw _ (List.mem_of_getElem? (i := 78) rfl))) (by decide) (t := .int) (t' := (.object "com/example/cantrip/cantrip/Token$Kind")) (by decide) (by decide)))).other W3 (Or.inr (slot_ne (Or.inr (hw _ (List.mem_of_getElem? (i := 82) rfl))) (Or.inr (hw _ (List.mem_of_getElem? (i := 80) rfl))) (by decide) (t := .int) (t' := (.object "java/lang/String")) (by decide) (by decide)))).same W4
  have K4 : Keep h0 h4 [a1] := K3.wr W4 (Or.inl (List.mem_of_getElem? (i := 0) rfl))
  have N4 := Fr.snoc X4 N3 g_a1
  obtain ⟨fs, hr, hrun, hended, hW, hsame⟩ := X4.leave (v := none) (fun _ => rfl)
  refine ⟨_, _, pre0 _ ?_, hrun, hended, _, _, rfl, ?_, ⟨_, rfl⟩, hW, hsame.mono (by decide) (by decide)⟩
  · show Steps p.tables e below (s₁.setTop (mkF m 0 #[.val (.ref a1), .val (.ref a2), .val (.ref a3), .val (.int p4)] [])) _
    refine XS.aloadN X0.here hx rfl (hb hby d7_0) rfl rfl ?_
    show Steps p.tables e below (s₁.setTop (mkF m 1 #[.val (.ref a1), .val (.ref a2), .val (.ref a3), .val (.int p4)] [(.ref a1)])) _
    refine st1.trans ?_
    show Steps p.tables e below (T1.setTop (mkF m 4 #[.val (.ref a1), .val (.ref a2), .val (.ref a3), .val (.int p4)] [])) _
    refine XS.aloadN X1.here hx rfl (hb hby d7_4) rfl rfl ?_
    show Steps p.tables e below (T1.setTop (mkF m 5 #[.val (.ref a1), .val (.ref a2), .val (.ref a3), .val (.int p4)] [(.ref a1)])) _
    refine XS.aloadN X1.here hx rfl (hb hby d7_5) rfl rfl ?_
    show Steps p.tables e below (T1.setTop (mkF m 6 #[.val (.ref a1), .val (.ref a2), .val (.ref a3), .val (.int p4)] [(.ref a2), (.ref a1)])) _
    refine st2 _ ?_
    show Steps p.tables e below (T2.setTop (mkF m 9 #[.val (.ref a1), .val (.ref a2), .val (.ref a3), .val (.int p4)] [])) _
    refine XS.aloadN X2.here hx rfl (hb hby d7_9) rfl rfl ?_
    show Steps p.tables e below (T2.setTop (mkF m 10 #[.val (.ref a1), .val (.ref a2), .val (.ref a3), .val (.int p4)] [(.ref a1)])) _
    refine XS.aloadN X2.here hx rfl (hb hby d7_10) rfl rfl ?_
    show Steps p.tables e below (T2.setTop (mkF m 11 #[.val (.ref a1), .val (.ref a2), .val (.ref a3), .val (.int p4)] [(.ref a3), (.ref a1)])) _
    refine st3 _ ?_
    show Steps p.tables e below (T3.setTop (mkF m 14 #[.val (.ref a1), .val (.ref a2), .val (.ref a3), .val (.int p4)] [])) _
    refine XS.aloadN X3.here hx rfl (hb hby d7_14) rfl rfl ?_
    show Steps p.tables e below (T3.setTop (mkF m 15 #[.val (.ref a1), .val (.ref a2), .val (.ref a3), .val (.int p4)] [(.ref a1)])) _
    refine XS.iloadN X3.here hx rfl (hb hby d7_15) rfl ?_
    show Steps p.tables e below (T3.setTop (mkF m 16 #[.val (.ref a1), .val (.ref a2), .val (.ref a3), .val (.int p4)] [(.int p4), (.ref a1)])) _
    refine st4 _ ?_
    show Steps p.tables e below (T4.setTop (mkF m 19 #[.val (.ref a1), .val (.ref a2), .val (.ref a3), .val (.int p4)] [])) _
    exact X4.returnOut hx Bd.returns (hb hby d7_19) hr
  · show Q7 Z a1 a2 a3 p4 u_kind_a1 u_text_a1 u_offset_a1 h0 n0 _ T4.heap _
    rw [e4]
    exact ⟨rfl, N4, K4, (((E_a1.wr W2).wr W3).wr W4), ((Fw2.other W3 (Or.inr (slot_ne (Or.inr (hw _ (List.mem_of_getElem? (i := 78) rfl))) (Or.inr (hw _ (List.mem_of_getElem? (i := 80) rfl))) (by decide) (t := (.object "com/example/cantrip/cantrip/Token$Kind")) (t' := (.object "java/lang/String")) (by decide) (by decide)))).other W4 (Or.inr (slot_ne (Or.inr (hw _ (List.mem_of_getElem? (i := 78) rfl))) (Or.inr (hw _ (List.mem_of_getElem? (i := 82) rfl))) (by decide) (t := (.object "com/example/cantrip/cantrip/Token$Kind")) (t' := .int) (by decide) (by decide)))), (Fw3.other W4 (Or.inr (slot_ne (Or.inr (hw _ (List.mem_of_getElem? (i := 80) rfl))) (Or.inr (hw _ (List.mem_of_getElem? (i := 82) rfl))) (by decide) (t := (.object "java/lang/String")) (t' := .int) (by decide) (by decide)))), Fw4⟩
theorem d9_0 : decode prog_3_method_5_code 0 = .ok (.aload_n 0, 1) := by decide +kernel
theorem d9_1 : decode prog_3_method_5_code 1 = .ok (.getfield 7, 3) := by decide +kernel
theorem d9_4 : decode prog_3_method_5_code 4 = .ok (.getstatic 50, 3) := by decide +kernel
theorem d9_7 : decode prog_3_method_5_code 7 = .ok (.if_acmp .eq 23, 3) := by decide +kernel
theorem d9_10 : decode prog_3_method_5_code 10 = .ok (.aload_n 0, 1) := by decide +kernel
theorem d9_11 : decode prog_3_method_5_code 11 = .ok (.getfield 7, 3) := by decide +kernel
theorem d9_14 : decode prog_3_method_5_code 14 = .ok (.getstatic 53, 3) := by decide +kernel
theorem d9_17 : decode prog_3_method_5_code 17 = .ok (.if_acmp .eq 13, 3) := by decide +kernel
theorem d9_20 : decode prog_3_method_5_code 20 = .ok (.aload_n 0, 1) := by decide +kernel
theorem d9_21 : decode prog_3_method_5_code 21 = .ok (.getfield 7, 3) := by decide +kernel
theorem d9_24 : decode prog_3_method_5_code 24 = .ok (.getstatic 56, 3) := by decide +kernel
theorem d9_27 : decode prog_3_method_5_code 27 = .ok (.if_acmp .ne 7, 3) := by decide +kernel
theorem d9_30 : decode prog_3_method_5_code 30 = .ok (.iconst 1, 1) := by decide +kernel
theorem d9_31 : decode prog_3_method_5_code 31 = .ok (.goto 4, 3) := by decide +kernel
theorem d9_34 : decode prog_3_method_5_code 34 = .ok (.iconst 0, 1) := by decide +kernel
theorem d9_35 : decode prog_3_method_5_code 35 = .ok (.ireturn, 1) := by decide +kernel
def res9 (w_kind_a1 : Addr) (w_INTEGER : Addr) (w_DECIMAL : Addr) (w_DOUBLE : Addr) : Int32 := if w_kind_a1 = w_INTEGER then (1 : Int32) else if w_kind_a1 = w_DECIMAL then (1 : Int32) else if w_kind_a1 = w_DOUBLE then (1 : Int32) else (0 : Int32)
theorem ef9 (m : MethodId) (a1 : Addr) : entryFrame m #[(.ref a1)] 1 = (mkF m 0 #[.val (.ref a1)] []) := by first | (simp [entryFrame, mkF, argsToLocals, Value.category]; done) | rfl
def Q9 (Z : State) (a1 : Addr) (w_kind_a1 : Addr) (w_INTEGER : Addr) (w_DECIMAL : Addr) (w_DOUBLE : Addr) (h0 : Heap) (n0 : Nat) (v : Option Value) (h : Heap) (L : List Loc) : Prop := v = some (.int (res9 w_kind_a1 w_INTEGER w_DECIMAL w_DOUBLE)) ∧ L = [] ∧ h = h0
set_option maxRecDepth 65536 in
set_option maxHeartbeats 40000000 in
theorem rm9 (l : Launch) (Z : State) (a0 : Array Value) (hw : ∀ d ∈ tables_1, d.before a0 Z = true) (ws : List Jvm.Cond) (a1 : Addr) (w_kind_a1 : Addr) (w_INTEGER : Addr) (w_DECIMAL : Addr) (w_DOUBLE : Addr) (h0 : Heap) (n0 : Nat) (Z0 : n0 ≤ h0.size) (F_kind_a1 : Fld Z h0 a1 "com/example/cantrip/cantrip/Token" "kind" "Lcom/example/cantrip/cantrip/Token$Kind;" (.ref w_kind_a1)) (S_INTEGER : Sta Z h0 "com/example/cantrip/cantrip/Token$Kind" "INTEGER" "Lcom/example/cantrip/cantrip/Token$Kind;" (.ref w_INTEGER)) (S_DECIMAL : Sta Z h0 "com/example/cantrip/cantrip/Token$Kind" "DECIMAL" "Lcom/example/cantrip/cantrip/Token$Kind;" (.ref w_DECIMAL)) (S_DOUBLE : Sta Z h0 "com/example/cantrip/cantrip/Token$Kind" "DOUBLE" "Lcom/example/cantrip/cantrip/Token$Kind;" (.ref w_DOUBLE)) :
    MetFree l (⟨"com/example/cantrip/cantrip/Token", "isNumber", "()Z"⟩ : MethodName) (head1 (Jvm.Cond.code (⟨"com/example/cantrip/cantrip/Token", "isNumber", "()Z"⟩ : MethodName) prog_3_method_5_code 1 (some .boolean) :: ws) ({ frames := 0, cells := 0, slots := 0, locals := 0 } : Room)) (fun a U => a = #[(.ref a1)] ∧ Z.Warmed39 U.vm ∧ U.heap = h0) (fun _ _ _ _ _ => True) (fun _ U o U' => ∃ v L, o = .returned v ∧ Q9 Z a1 w_kind_a1 w_INTEGER w_DECIMAL w_DOUBLE h0 n0 v U'.heap L ∧ FrameEnd U o U' L ({ frames := 0, cells := 0, slots := 0, locals := 0 } : Room).cells ({ frames := 0, cells := 0, slots := 0, locals := 0 } : Room).slots) := by
  refine MetFree.of_bodySF (plainFor_of_name pn3) hisR ?_
  intro p e s m args below meth c s₁ Bd hml0 hP hK
  obtain ⟨rfl, hZ, hh⟩ := hP
  have hx := Bd.exec
  have hby := Bd.bytes
  have hml : c.maxLocals = 1 := hml0
  have hown : s.vm.findClass "com/example/cantrip/cantrip/Token" = some m.cls := findClass_of_methodNamed Bd.named
  have hnm := (name_of_methodNamed Bd.named Bd.method).1
  have X0 : Stand p l e ({ frames := 0, cells := 0, slots := 0, locals := 0 } : Room) s m #[(.ref a1)] below meth c s₁ [] 0 0 := Stand.of_body Bd
  have e0 : s₁.heap = h0 := by rw [← hh, Bd.state]; rfl
  have N0 := Fr.nil n0
  have pre0 : ∀ t, Steps p.tables e below (s₁.setTop (mkF m 0 #[.val (.ref a1)] [])) t → Steps p.tables e below (s₁.setTop (entryFrame m #[(.ref a1)] 1)) t := fun t k => castTop (ef9 m a1) k
  obtain ⟨T1, X1, e1, st1⟩ := getF X0 hx hZ hown (host := "") (Or.inl (hw _ (List.mem_of_getElem? (i := 77) rfl))) Via.refl e0 F_kind_a1 (g := (mkF m 1 #[.val (.ref a1)] [(.ref a1)])) rfl rfl (hb hby d9_1)
  obtain ⟨T2, X2, e2, st2⟩ := getS2 X1 hx hZ hown (host := "") (Or.inl (hw _ (List.mem_of_getElem? (i := 88) rfl))) Via.refl e1 S_INTEGER (g := (mkF m 4 #[.val (.ref a1)] [(.ref w_kind_a1)])) rfl (hb hby d9_4)
  have pre3 : ∀ t, Steps p.tables e below (T2.setTop (mkF m 7 #[.val (.ref a1)] [(.ref w_INTEGER), (.ref w_kind_a1)])) t → Steps p.tables e below (s₁.setTop (entryFrame m #[(.ref a1)] 1)) t := by
    intro t kt
    refine pre0 _ ?_
    show Steps p.tables e below (s₁.setTop (mkF m 0 #[.val (.ref a1)] [])) _
    refine XS.aloadN X0.here hx rfl (hb hby d9_0) rfl rfl ?_
    show Steps p.tables e below (s₁.setTop (mkF m 1 #[.val (.ref a1)] [(.ref a1)])) _
    refine st1 _ ?_
    show Steps p.tables e below (T1.setTop (mkF m 4 #[.val (.ref a1)] [(.ref w_kind_a1)])) _
    refine st2 _ ?_
    exact kt
  by_cases hc7_4 : w_kind_a1 = w_INTEGER
  · obtain ⟨fs, hr, hrun, hended, hW, hsame⟩ := X2.leave (v := some (.int (1 : Int32))) (fun h => by rw [Bd.returns] at h; cases h)
    refine ⟨_, _, pre3 _ ?_, hrun, hended, _, _, rfl, ?_, ⟨_, rfl⟩, hW, hsame.mono (by decide) (by decide)⟩
    · show Steps p.tables e below (T2.setTop (mkF m 7 #[.val (.ref a1)] [(.ref w_INTEGER), (.ref w_kind_a1)])) _
      refine Jvm.RoadKit.acmp (g := (mkF m 7 #[.val (.ref a1)] [(.ref w_INTEGER), (.ref w_kind_a1)])) X2 hx rfl rfl rfl (pc0 := 7) (pc' := 30) (same := true) rfl (hb hby d9_7) rfl (decide_eq_true (congrArg Value.ref hc7_4)) (by decide) (by decide) ?_
      show Steps p.tables e below (T2.setTop (mkF m 30 #[.val (.ref a1)] [])) _
      refine XS.iconst X2.here hx rfl (hb hby d9_30) ?_
      show Steps p.tables e below (T2.setTop (mkF m 31 #[.val (.ref a1)] [(.int (1 : Int32))])) _
      refine XS.goto X2.here hx rfl (pc0 := 31) (pc' := 35) rfl (hb hby d9_31) (by decide) (by decide) ?_
      show Steps p.tables e below (T2.setTop (mkF m 35 #[.val (.ref a1)] [(.int (1 : Int32))])) _
      exact retN X2 hx (t := .boolean) Bd.returns (by simp) (hb hby d9_35) hr
    · show Q9 Z a1 w_kind_a1 w_INTEGER w_DECIMAL w_DOUBLE h0 n0 _ T2.heap _
      rw [e2]
      exact ⟨by rw [res9, if_pos hc7_4], rfl, rfl⟩
  · obtain ⟨T5, X5, e5, st5⟩ := getF X2 hx hZ hown (host := "") (Or.inl (hw _ (List.mem_of_getElem? (i := 77) rfl))) Via.refl e2 F_kind_a1 (g := (mkF m 11 #[.val (.ref a1)] [(.ref a1)])) rfl rfl (hb hby d9_11)
    obtain ⟨T6, X6, e6, st6⟩ := getS2 X5 hx hZ hown (host := "") (Or.inl (hw _ (List.mem_of_getElem? (i := 89) rfl))) Via.refl e5 S_DECIMAL (g := (mkF m 14 #[.val (.ref a1)] [(.ref w_kind_a1)])) rfl (hb hby d9_14)
    have pre7 : ∀ t, Steps p.tables e below (T6.setTop (mkF m 17 #[.val (.ref a1)] [(.ref w_DECIMAL), (.ref w_kind_a1)])) t → Steps p.tables e below (s₁.setTop (entryFrame m #[(.ref a1)] 1)) t := by
      intro t kt
      refine pre3 _ ?_
      show Steps p.tables e below (T2.setTop (mkF m 7 #[.val (.ref a1)] [(.ref w_INTEGER), (.ref w_kind_a1)])) _
      refine Jvm.RoadKit.acmp (g := (mkF m 7 #[.val (.ref a1)] [(.ref w_INTEGER), (.ref w_kind_a1)])) X2 hx rfl rfl rfl (pc0 := 7) (pc' := 10) (same := false) rfl (hb hby d9_7) rfl (decide_eq_false fun q => hc7_4 (Value.ref.inj q)) (by decide) (by decide) ?_
      show Steps p.tables e below (T2.setTop (mkF m 10 #[.val (.ref a1)] [])) _
      refine XS.aloadN X2.here hx rfl (hb hby d9_10) rfl rfl ?_
      show Steps p.tables e below (T2.setTop (mkF m 11 #[.val (.ref a1)] [(.ref a1)])) _
      refine st5 _ ?_
      show Steps p.tables e below (T5.setTop (mkF m 14 #[.val (.ref a1)] [(.ref w_kind_a1)])) _
      refine st6 _ ?_
      exact kt
    by_cases hc17_8 : w_kind_a1 = w_DECIMAL
    · obtain ⟨fs, hr, hrun, hended, hW, hsame⟩ := X6.leave (v := some (.int (1 : Int32))) (fun h => by rw [Bd.returns] at h; cases h)
      refine ⟨_, _, pre7 _ ?_, hrun, hended, _, _, rfl, ?_, ⟨_, rfl⟩, hW, hsame.mono (by decide) (by decide)⟩
      · show Steps p.tables e below (T6.setTop (mkF m 17 #[.val (.ref a1)] [(.ref w_DECIMAL), (.ref w_kind_a1)])) _
        refine Jvm.RoadKit.acmp (g := (mkF m 17 #[.val (.ref a1)] [(.ref w_DECIMAL), (.ref w_kind_a1)])) X6 hx rfl rfl rfl (pc0 := 17) (pc' := 30) (same := true) rfl (hb hby d9_17) rfl (decide_eq_true (congrArg Value.ref hc17_8)) (by decide) (by decide) ?_
        show Steps p.tables e below (T6.setTop (mkF m 30 #[.val (.ref a1)] [])) _
        refine XS.iconst X6.here hx rfl (hb hby d9_30) ?_
        show Steps p.tables e below (T6.setTop (mkF m 31 #[.val (.ref a1)] [(.int (1 : Int32))])) _
        refine XS.goto X6.here hx rfl (pc0 := 31) (pc' := 35) rfl (hb hby d9_31) (by decide) (by decide) ?_
        show Steps p.tables e below (T6.setTop (mkF m 35 #[.val (.ref a1)] [(.int (1 : Int32))])) _
        exact retN X6 hx (t := .boolean) Bd.returns (by simp) (hb hby d9_35) hr
      · show Q9 Z a1 w_kind_a1 w_INTEGER w_DECIMAL w_DOUBLE h0 n0 _ T6.heap _
        rw [e6]
        exact ⟨by rw [res9, if_neg hc7_4, if_pos hc17_8], rfl, rfl⟩
    · obtain ⟨T9, X9, e9, st9⟩ := getF X6 hx hZ hown (host := "") (Or.inl (hw _ (List.mem_of_getElem? (i := 77) rfl))) Via.refl e6 F_kind_a1 (g := (mkF m 21 #[.val (.ref a1)] [(.ref a1)])) rfl rfl (hb hby d9_21)
      obtain ⟨T10, X10, e10, st10⟩ := getS2 X9 hx hZ hown (host := "") (Or.inl (hw _ (List.mem_of_getElem? (i := 90) rfl))) Via.refl e9 S_DOUBLE (g := (mkF m 24 #[.val (.ref a1)] [(.ref w_kind_a1)])) rfl (hb hby d9_24)
      have pre11 : ∀ t, Steps p.tables e below (T10.setTop (mkF m 27 #[.val (.ref a1)] [(.ref w_DOUBLE), (.ref w_kind_a1)])) t → Steps p.tables e below (s₁.setTop (entryFrame m #[(.ref a1)] 1)) t := by
        intro t kt
        refine pre7 _ ?_
        show Steps p.tables e below (T6.setTop (mkF m 17 #[.val (.ref a1)] [(.ref w_DECIMAL), (.ref w_kind_a1)])) _
        refine Jvm.RoadKit.acmp (g := (mkF m 17 #[.val (.ref a1)] [(.ref w_DECIMAL), (.ref w_kind_a1)])) X6 hx rfl rfl rfl (pc0 := 17) (pc' := 20) (same := false) rfl (hb hby d9_17) rfl (decide_eq_false fun q => hc17_8 (Value.ref.inj q)) (by decide) (by decide) ?_
        show Steps p.tables e below (T6.setTop (mkF m 20 #[.val (.ref a1)] [])) _
        refine XS.aloadN X6.here hx rfl (hb hby d9_20) rfl rfl ?_
        show Steps p.tables e below (T6.setTop (mkF m 21 #[.val (.ref a1)] [(.ref a1)])) _
        refine st9 _ ?_
        show Steps p.tables e below (T9.setTop (mkF m 24 #[.val (.ref a1)] [(.ref w_kind_a1)])) _
        refine st10 _ ?_
        exact kt
      by_cases hc27_12 : w_kind_a1 = w_DOUBLE
      · obtain ⟨fs, hr, hrun, hended, hW, hsame⟩ := X10.leave (v := some (.int (1 : Int32))) (fun h => by rw [Bd.returns] at h; cases h)
        refine ⟨_, _, pre11 _ ?_, hrun, hended, _, _, rfl, ?_, ⟨_, rfl⟩, hW, hsame.mono (by decide) (by decide)⟩
        · show Steps p.tables e below (T10.setTop (mkF m 27 #[.val (.ref a1)] [(.ref w_DOUBLE), (.ref w_kind_a1)])) _
          refine Jvm.RoadKit.acmp (g := (mkF m 27 #[.val (.ref a1)] [(.ref w_DOUBLE), (.ref w_kind_a1)])) X10 hx rfl rfl rfl (pc0 := 27) (pc' := 30) (same := true) rfl (hb hby d9_27) rfl (decide_eq_true (congrArg Value.ref hc27_12)) (by decide) (by decide) ?_
          show Steps p.tables e below (T10.setTop (mkF m 30 #[.val (.ref a1)] [])) _
          refine XS.iconst X10.here hx rfl (hb hby d9_30) ?_
          show Steps p.tables e below (T10.setTop (mkF m 31 #[.val (.ref a1)] [(.int (1 : Int32))])) _
          refine XS.goto X10.here hx rfl (pc0 := 31) (pc' := 35) rfl (hb hby d9_31) (by decide) (by decide) ?_
          show Steps p.tables e below (T10.setTop (mkF m 35 #[.val (.ref a1)] [(.int (1 : Int32))])) _
          exact retN X10 hx (t := .boolean) Bd.returns (by simp) (hb hby d9_35) hr
        · show Q9 Z a1 w_kind_a1 w_INTEGER w_DECIMAL w_DOUBLE h0 n0 _ T10.heap _
          rw [e10]
          exact ⟨by rw [res9, if_neg hc7_4, if_neg hc17_8, if_pos hc27_12], rfl, rfl⟩
      · obtain ⟨fs, hr, hrun, hended, hW, hsame⟩ := X10.leave (v := some (.int (0 : Int32))) (fun h => by rw [Bd.returns] at h; cases h)
        refine ⟨_, _, pre11 _ ?_, hrun, hended, _, _, rfl, ?_, ⟨_, rfl⟩, hW, hsame.mono (by decide) (by decide)⟩
        · show Steps p.tables e below (T10.setTop (mkF m 27 #[.val (.ref a1)] [(.ref w_DOUBLE), (.ref w_kind_a1)])) _
          refine Jvm.RoadKit.acmp (g := (mkF m 27 #[.val (.ref a1)] [(.ref w_DOUBLE), (.ref w_kind_a1)])) X10 hx rfl rfl rfl (pc0 := 27) (pc' := 34) (same := false) rfl (hb hby d9_27) rfl (decide_eq_false fun q => hc27_12 (Value.ref.inj q)) (by decide) (by decide) ?_
          show Steps p.tables e below (T10.setTop (mkF m 34 #[.val (.ref a1)] [])) _
          refine XS.iconst X10.here hx rfl (hb hby d9_34) ?_
          show Steps p.tables e below (T10.setTop (mkF m 35 #[.val (.ref a1)] [(.int (0 : Int32))])) _
          exact retN X10 hx (t := .boolean) Bd.returns (by simp) (hb hby d9_35) hr
        · show Q9 Z a1 w_kind_a1 w_INTEGER w_DECIMAL w_DOUBLE h0 n0 _ T10.heap _
          rw [e10]
          exact ⟨by rw [res9, if_neg hc7_4, if_neg hc17_8, if_neg hc27_12], rfl, rfl⟩
theorem own_range_15 {i : Int32} (h0 : 0 ≤ i.toInt) (h1 : i.toInt < 15) : i = (0 : Int32) ∨ i = (1 : Int32) ∨ i = (2 : Int32) ∨ i = (3 : Int32) ∨ i = (4 : Int32) ∨ i = (5 : Int32) ∨ i = (6 : Int32) ∨ i = (7 : Int32) ∨ i = (8 : Int32) ∨ i = (9 : Int32) ∨ i = (10 : Int32) ∨ i = (11 : Int32) ∨ i = (12 : Int32) ∨ i = (13 : Int32) ∨ i = (14 : Int32) := by
  have h : i.toInt = 0 ∨ i.toInt = 1 ∨ i.toInt = 2 ∨ i.toInt = 3 ∨ i.toInt = 4 ∨ i.toInt = 5 ∨ i.toInt = 6 ∨ i.toInt = 7 ∨ i.toInt = 8 ∨ i.toInt = 9 ∨ i.toInt = 10 ∨ i.toInt = 11 ∨ i.toInt = 12 ∨ i.toInt = 13 ∨ i.toInt = 14 := by omega
  rcases h with h | h | h | h | h | h | h | h | h | h | h | h | h | h | h
  · exact Or.inl (Int32.toInt_inj.mp (h.trans (by decide)))
  · exact Or.inr (Or.inl (Int32.toInt_inj.mp (h.trans (by decide))))
  · exact Or.inr (Or.inr (Or.inl (Int32.toInt_inj.mp (h.trans (by decide)))))
  · exact Or.inr (Or.inr (Or.inr (Or.inl (Int32.toInt_inj.mp (h.trans (by decide))))))
  · exact Or.inr (Or.inr (Or.inr (Or.inr (Or.inl (Int32.toInt_inj.mp (h.trans (by decide)))))))
  · exact Or.inr (Or.inr (Or.inr (Or.inr (Or.inr (Or.inl (Int32.toInt_inj.mp (h.trans (by decide))))))))
  · exact Or.inr (Or.inr (Or.inr (Or.inr (Or.inr (Or.inr (Or.inl (Int32.toInt_inj.mp (h.trans (by decide)))))))))
  · exact Or.inr (Or.inr (Or.inr (Or.inr (Or.inr (Or.inr (Or.inr (Or.inl (Int32.toInt_inj.mp (h.trans (by decide))))))))))
  · exact Or.inr (Or.inr (Or.inr (Or.inr (Or.inr (Or.inr (Or.inr (Or.inr (Or.inl (Int32.toInt_inj.mp (h.trans (by decide)))))))))))
  · exact Or.inr (Or.inr (Or.inr (Or.inr (Or.inr (Or.inr (Or.inr (Or.inr (Or.inr (Or.inl (Int32.toInt_inj.mp (h.trans (by decide))))))))))))
  · exact Or.inr (Or.inr (Or.inr (Or.inr (Or.inr (Or.inr (Or.inr (Or.inr (Or.inr (Or.inr (Or.inl (Int32.toInt_inj.mp (h.trans (by decide)))))))))))))
  · exact Or.inr (Or.inr (Or.inr (Or.inr (Or.inr (Or.inr (Or.inr (Or.inr (Or.inr (Or.inr (Or.inr (Or.inl (Int32.toInt_inj.mp (h.trans (by decide))))))))))))))
  · exact Or.inr (Or.inr (Or.inr (Or.inr (Or.inr (Or.inr (Or.inr (Or.inr (Or.inr (Or.inr (Or.inr (Or.inr (Or.inl (Int32.toInt_inj.mp (h.trans (by decide)))))))))))))))
  · exact Or.inr (Or.inr (Or.inr (Or.inr (Or.inr (Or.inr (Or.inr (Or.inr (Or.inr (Or.inr (Or.inr (Or.inr (Or.inr (Or.inl (Int32.toInt_inj.mp (h.trans (by decide))))))))))))))))
  · exact Or.inr (Or.inr (Or.inr (Or.inr (Or.inr (Or.inr (Or.inr (Or.inr (Or.inr (Or.inr (Or.inr (Or.inr (Or.inr (Or.inr ((Int32.toInt_inj.mp (h.trans (by decide)))))))))))))))))
theorem own_rng (p1 : Int32) : 0 ≤ (((p1 &&& (2147483647 : Int32)) % (15 : Int32))).toInt ∧ (((p1 &&& (2147483647 : Int32)) % (15 : Int32))).toInt < 15 := by
  have e1 : (p1 &&& (2147483647 : Int32)).toInt = p1.toInt % (2 ^ 31 : Nat) := c_mask p1 _ 31 (by decide) (by decide)
  have e2 := (c_irem (p1 &&& (2147483647 : Int32)) 15 15 (by decide)).1 (by omega)
  omega
theorem own_ch (x : Int32) : ¬ ((255 : Int32) < (nar .char ((x &&& (255 : Int32)).toUInt32.toUInt16.toUInt32.toInt32))) := by
  have e : (x &&& (255 : Int32)).toInt = x.toInt % (2 ^ 8 : Nat) := c_mask x _ 8 (by decide) (by decide)
  have q : nar .char ((x &&& (255 : Int32)).toUInt32.toUInt16.toUInt32.toInt32) = x &&& (255 : Int32) := by
    show ((x &&& (255 : Int32)).toUInt32.toUInt16.toUInt32.toInt32).toUInt32.toUInt16.toUInt32.toInt32 = _
    rw [i2c_mask, i2c_mask]
  rw [q, Int32.lt_iff_toInt_lt, e]
  have : (255 : Int32).toInt = 255 := by decide
  omega
def own_pick (i : Int32) (w_IRI w_PNAME_NS w_PNAME_LN w_BLANK_NODE_LABEL w_VAR w_STRING w_LANGTAG w_INTEGER w_DECIMAL w_DOUBLE w_NIL w_ANON w_WORD w_PUNCT w_EOF : Addr) : Addr := if i = (0 : Int32) then w_IRI else if i = (1 : Int32) then w_PNAME_NS else if i = (2 : Int32) then w_PNAME_LN else if i = (3 : Int32) then w_BLANK_NODE_LABEL else if i = (4 : Int32) then w_VAR else if i = (5 : Int32) then w_STRING else if i = (6 : Int32) then w_LANGTAG else if i = (7 : Int32) then w_INTEGER else if i = (8 : Int32) then w_DECIMAL else if i = (9 : Int32) then w_DOUBLE else if i = (10 : Int32) then w_NIL else if i = (11 : Int32) then w_ANON else if i = (12 : Int32) then w_WORD else if i = (13 : Int32) then w_PUNCT else w_EOF
theorem own_at {i : Int32} (h0 : 0 ≤ i.toInt) (h1 : i.toInt < 15) (w_IRI w_PNAME_NS w_PNAME_LN w_BLANK_NODE_LABEL w_VAR w_STRING w_LANGTAG w_INTEGER w_DECIMAL w_DOUBLE w_NIL w_ANON w_WORD w_PUNCT w_EOF : Addr) : ([.ref w_IRI, .ref w_PNAME_NS, .ref w_PNAME_LN, .ref w_BLANK_NODE_LABEL, .ref w_VAR, .ref w_STRING, .ref w_LANGTAG, .ref w_INTEGER, .ref w_DECIMAL, .ref w_DOUBLE, .ref w_NIL, .ref w_ANON, .ref w_WORD, .ref w_PUNCT, .ref w_EOF] : List Value).getD i.toNatClampNeg .null = .ref (own_pick i w_IRI w_PNAME_NS w_PNAME_LN w_BLANK_NODE_LABEL w_VAR w_STRING w_LANGTAG w_INTEGER w_DECIMAL w_DOUBLE w_NIL w_ANON w_WORD w_PUNCT w_EOF) := by
  rcases own_range_15 h0 h1 with rfl | rfl | rfl | rfl | rfl | rfl | rfl | rfl | rfl | rfl | rfl | rfl | rfl | rfl | rfl <;> rfl
theorem own_inb {i : Int32} (h0 : 0 ≤ i.toInt) (h1 : i.toInt < 15) : ¬ i < 0 ∧ i < (15 : Int32) := by
  rw [Int32.lt_iff_toInt_lt, Int32.lt_iff_toInt_lt]
  have e0 : (0 : Int32).toInt = 0 := by decide
  have e1 : (15 : Int32).toInt = 15 := by decide
  omega
def mg0_171_s0 (p1 : Int32) : Int32 := if ((p1 &&& (2147483647 : Int32)) % (15 : Int32)) < (7 : Int32) then (0 : Int32) else if (9 : Int32) < ((p1 &&& (2147483647 : Int32)) % (15 : Int32)) then (0 : Int32) else (1 : Int32)
def res0 (p1 : Int32) (w_IRI : Addr) (w_PNAME_NS : Addr) (w_PNAME_LN : Addr) (w_BLANK_NODE_LABEL : Addr) (w_VAR : Addr) (w_STRING : Addr) (w_LANGTAG : Addr) (w_INTEGER : Addr) (w_DECIMAL : Addr) (w_DOUBLE : Addr) (w_NIL : Addr) (w_ANON : Addr) (w_WORD : Addr) (w_PUNCT : Addr) (w_EOF : Addr) : Int32 := if (res9 (own_pick ((p1 &&& (2147483647 : Int32)) % (15 : Int32)) w_IRI w_PNAME_NS w_PNAME_LN w_BLANK_NODE_LABEL w_VAR w_STRING w_LANGTAG w_INTEGER w_DECIMAL w_DOUBLE w_NIL w_ANON w_WORD w_PUNCT w_EOF) w_INTEGER w_DECIMAL w_DOUBLE) = (mg0_171_s0 p1) then (1 : Int32) else (0 : Int32)
theorem pd5 : parseMethodDescriptor "([C)V" = some ⟨[(.array .char)], none⟩ := by decide +kernel
theorem pd6 : parseMethodDescriptor "(Lcom/example/cantrip/cantrip/Token$Kind;Ljava/lang/String;I)V" = some ⟨[(.object "com/example/cantrip/cantrip/Token$Kind"), (.object "java/lang/String"), .int], none⟩ := by decide +kernel
theorem pd7 : parseMethodDescriptor "()Z" = some ⟨[], some .boolean⟩ := by decide +kernel
theorem pn4 : plainName "com/example/cantrip/cantrip/TokenIsNumberPinLaw" = true := by first | (simp [plainName, overriddenIn]; done) | decide +kernel
theorem ef0 (m : MethodId) (p1 : Int32) (p2 : Int32) (p3 : Int32) : entryFrame m #[(.int p1), (.int p2), (.int p3)] maxLocals = (mkF m 0 #[.val (.int p1), .val (.int p2), .val (.int p3), .unset, .unset, .unset, .unset, .unset, .unset] []) := by first | (simp [entryFrame, mkF, argsToLocals, Value.category, maxLocals]; done) | rfl
def Q0 (Z : State) (p1 : Int32) (p2 : Int32) (p3 : Int32) (w_IRI : Addr) (w_PNAME_NS : Addr) (w_PNAME_LN : Addr) (w_BLANK_NODE_LABEL : Addr) (w_VAR : Addr) (w_STRING : Addr) (w_LANGTAG : Addr) (w_INTEGER : Addr) (w_DECIMAL : Addr) (w_DOUBLE : Addr) (w_NIL : Addr) (w_ANON : Addr) (w_WORD : Addr) (w_PUNCT : Addr) (w_EOF : Addr) (w_COMPACT_STRINGS : Int32) (h0 : Heap) (n0 : Nat) (v : Option Value) (h : Heap) (L : List Loc) : Prop := v = some (.int (res0 p1 w_IRI w_PNAME_NS w_PNAME_LN w_BLANK_NODE_LABEL w_VAR w_STRING w_LANGTAG w_INTEGER w_DECIMAL w_DOUBLE w_NIL w_ANON w_WORD w_PUNCT w_EOF)) ∧ Fr n0 L
set_option maxRecDepth 65536 in
set_option maxHeartbeats 40000000 in
theorem rm0 (l : Launch) (Z : State) (a0 : Array Value) (hw : ∀ d ∈ tables_1, d.before a0 Z = true) (ws : List Jvm.Cond) (p1 : Int32) (p2 : Int32) (p3 : Int32) (w_IRI : Addr) (w_PNAME_NS : Addr) (w_PNAME_LN : Addr) (w_BLANK_NODE_LABEL : Addr) (w_VAR : Addr) (w_STRING : Addr) (w_LANGTAG : Addr) (w_INTEGER : Addr) (w_DECIMAL : Addr) (w_DOUBLE : Addr) (w_NIL : Addr) (w_ANON : Addr) (w_WORD : Addr) (w_PUNCT : Addr) (w_EOF : Addr) (w_COMPACT_STRINGS : Int32) (h0 : Heap) (n0 : Nat) (Z0 : n0 ≤ h0.size) (S_IRI : Sta Z h0 "com/example/cantrip/cantrip/Token$Kind" "IRI" "Lcom/example/cantrip/cantrip/Token$Kind;" (.ref w_IRI)) (E_w_IRI : Exa Z h0 w_IRI "com/example/cantrip/cantrip/Token$Kind") (S_PNAME_NS : Sta Z h0 "com/example/cantrip/cantrip/Token$Kind" "PNAME_NS" "Lcom/example/cantrip/cantrip/Token$Kind;" (.ref w_PNAME_NS)) (E_w_PNAME_NS : Exa Z h0 w_PNAME_NS "com/example/cantrip/cantrip/Token$Kind") (S_PNAME_LN : Sta Z h0 "com/example/cantrip/cantrip/Token$Kind" "PNAME_LN" "Lcom/example/cantrip/cantrip/Token$Kind;" (.ref w_PNAME_LN)) (E_w_PNAME_LN : Exa Z h0 w_PNAME_LN "com/example/cantrip/cantrip/Token$Kind") (S_BLANK_NODE_LABEL : Sta Z h0 "com/example/cantrip/cantrip/Token$Kind" "BLANK_NODE_LABEL" "Lcom/example/cantrip/cantrip/Token$Kind;" (.ref w_BLANK_NODE_LABEL)) (E_w_BLANK_NODE_LABEL : Exa Z h0 w_BLANK_NODE_LABEL "com/example/cantrip/cantrip/Token$Kind") (S_VAR : Sta Z h0 "com/example/cantrip/cantrip/Token$Kind" "VAR" "Lcom/example/cantrip/cantrip/Token$Kind;" (.ref w_VAR)) (E_w_VAR : Exa Z h0 w_VAR "com/example/cantrip/cantrip/Token$Kind") (S_STRING : Sta Z h0 "com/example/cantrip/cantrip/Token$Kind" "STRING" "Lcom/example/cantrip/cantrip/Token$Kind;" (.ref w_STRING)) (E_w_STRING : Exa Z h0 w_STRING "com/example/cantrip/cantrip/Token$Kind") (S_LANGTAG : Sta Z h0 "com/example/cantrip/cantrip/Token$Kind" "LANGTAG" "Lcom/example/cantrip/cantrip/Token$Kind;" (.ref w_LANGTAG)) (E_w_LANGTAG : Exa Z h0 w_LANGTAG "com/example/cantrip/cantrip/Token$Kind") (S_INTEGER : Sta Z h0 "com/example/cantrip/cantrip/Token$Kind" "INTEGER" "Lcom/example/cantrip/cantrip/Token$Kind;" (.ref w_INTEGER)) (E_w_INTEGER : Exa Z h0 w_INTEGER "com/example/cantrip/cantrip/Token$Kind") (S_DECIMAL : Sta Z h0 "com/example/cantrip/cantrip/Token$Kind" "DECIMAL" "Lcom/example/cantrip/cantrip/Token$Kind;" (.ref w_DECIMAL)) (E_w_DECIMAL : Exa Z h0 w_DECIMAL "com/example/cantrip/cantrip/Token$Kind") (S_DOUBLE : Sta Z h0 "com/example/cantrip/cantrip/Token$Kind" "DOUBLE" "Lcom/example/cantrip/cantrip/Token$Kind;" (.ref w_DOUBLE)) (E_w_DOUBLE : Exa Z h0 w_DOUBLE "com/example/cantrip/cantrip/Token$Kind") (S_NIL : Sta Z h0 "com/example/cantrip/cantrip/Token$Kind" "NIL" "Lcom/example/cantrip/cantrip/Token$Kind;" (.ref w_NIL)) (E_w_NIL : Exa Z h0 w_NIL "com/example/cantrip/cantrip/Token$Kind") (S_ANON : Sta Z h0 "com/example/cantrip/cantrip/Token$Kind" "ANON" "Lcom/example/cantrip/cantrip/Token$Kind;" (.ref w_ANON)) (E_w_ANON : Exa Z h0 w_ANON "com/example/cantrip/cantrip/Token$Kind") (S_WORD : Sta Z h0 "com/example/cantrip/cantrip/Token$Kind" "WORD" "Lcom/example/cantrip/cantrip/Token$Kind;" (.ref w_WORD)) (E_w_WORD : Exa Z h0 w_WORD "com/example/cantrip/cantrip/Token$Kind") (S_PUNCT : Sta Z h0 "com/example/cantrip/cantrip/Token$Kind" "PUNCT" "Lcom/example/cantrip/cantrip/Token$Kind;" (.ref w_PUNCT)) (E_w_PUNCT : Exa Z h0 w_PUNCT "com/example/cantrip/cantrip/Token$Kind") (S_EOF : Sta Z h0 "com/example/cantrip/cantrip/Token$Kind" "EOF" "Lcom/example/cantrip/cantrip/Token$Kind;" (.ref w_EOF)) (E_w_EOF : Exa Z h0 w_EOF "com/example/cantrip/cantrip/Token$Kind") (S_COMPACT_STRINGS : Sta Z h0 "java/lang/String" "COMPACT_STRINGS" "Z" (.int w_COMPACT_STRINGS)) (hCS : ¬ (w_COMPACT_STRINGS = (0 : Int32))) :
    MetFree l x (head1 (Jvm.Cond.code x code maxLocals ret :: ws) room_1) (fun a U => a = #[(.int p1), (.int p2), (.int p3)] ∧ Z.Warmed39 U.vm ∧ U.heap = h0) (fun _ _ _ _ _ => True) (fun _ U o U' => ∃ v L, o = .returned v ∧ Q0 Z p1 p2 p3 w_IRI w_PNAME_NS w_PNAME_LN w_BLANK_NODE_LABEL w_VAR w_STRING w_LANGTAG w_INTEGER w_DECIMAL w_DOUBLE w_NIL w_ANON w_WORD w_PUNCT w_EOF w_COMPACT_STRINGS h0 n0 v U'.heap L ∧ FrameEnd U o U' L room_1.cells room_1.slots) := by
  refine MetFree.of_bodySF (plainFor_of_name pn4) hisR ?_
  intro p e s m args below meth c s₁ Bd hml0 hP hK
  obtain ⟨rfl, hZ, hh⟩ := hP
  have hx := Bd.exec
  have hby := Bd.bytes
  have hml : c.maxLocals = 9 := hml0
  have hown : s.vm.findClass "com/example/cantrip/cantrip/TokenIsNumberPinLaw" = some m.cls := findClass_of_methodNamed Bd.named
  have hnm := (name_of_methodNamed Bd.named Bd.method).1
  have X0 : Stand p l e room_1 s m #[(.int p1), (.int p2), (.int p3)] below meth c s₁ [] 0 0 := Stand.of_body Bd
  have e0 : s₁.heap = h0 := by rw [← hh, Bd.state]; rfl
  have N0 := Fr.nil n0
  have pre0 : ∀ t, Steps p.tables e below (s₁.setTop (mkF m 0 #[.val (.int p1), .val (.int p2), .val (.int p3), .unset, .unset, .unset, .unset, .unset, .unset] [])) t → Steps p.tables e below (s₁.setTop (entryFrame m #[(.int p1), (.int p2), (.int p3)] maxLocals)) t := fun t k => castTop (ef0 m p1 p2 p3) k
  obtain ⟨T1, h1, k1, X1, e1, E1, A1, O1, st1⟩ := newR X0 hx hZ hown (hw _ (List.mem_of_getElem? (i := 0) rfl)) (hw _ (List.mem_of_getElem? (i := 1) rfl)) e0 (g := (mkF m 2 #[.val (.int p1), .val (.int p2), .val (.int p3), .unset, .unset, .unset, .unset, .unset, .unset] [(.int (15 : Int32))])) rfl (hb hby at_2) rfl (by decide) (cap := 15) (by decide) (by decide) (by decide) (by decide)
  obtain ⟨b1, g1⟩ : ∃ z, z = h0.size := ⟨_, rfl⟩
  rw [← g1] at A1 st1
  have sz_b1 : h0.size ≤ b1 := Nat.le_trans (Keep.refl h0 []).1 (Nat.le_of_eq g1.symm)
  have g_b1 : n0 ≤ b1 := Nat.le_trans Z0 sz_b1
  have K1 : Keep h0 h1 [] := (Keep.refl h0 []).ext E1
  have V_b1 : Arv Z h1 b1 k1 (.object "com/example/cantrip/cantrip/Token$Kind") (15 : Int32) [.null, .null, .null, .null, .null, .null, .null, .null, .null, .null, .null, .null, .null, .null, .null] .null := (Arv.new A1 (by decide)).pad (pad_rep [] .null 15)
  obtain ⟨T2, X2, e2, st2⟩ := getS2 X1 hx hZ hown (host := "") (Or.inl (hw _ (List.mem_of_getElem? (i := 2) rfl))) Via.refl e1 (S_IRI.ext E1) (g := (mkF m 7 #[.val (.int p1), .val (.int p2), .val (.int p3), .unset, .unset, .unset, .unset, .unset, .unset] [(.int (0 : Int32)), (.ref b1), (.ref b1)])) rfl (hb hby at_7)
  obtain ⟨cl_b1_10_3, Ar_b1_10_3, q_b1_10_3, S_b1_10_3, N_b1_10_3, H_b1_10_3, G_b1_10_3⟩ := id V_b1
  have hin_b1_10_3 : ¬ ((0 : Int32) < 0 ∨ cl_b1_10_3.slots.size ≤ ((0 : Int32) : Int32).toNatClampNeg) := inb_of S_b1_10_3 ⟨by decide, by decide⟩
  obtain ⟨T4, h4, X4, e4, W4, st4⟩ := stR X2 hx hZ e2 Ar_b1_10_3 (j := (0 : Int32)) hin_b1_10_3 rfl (Sto.ofV Ar_b1_10_3 q_b1_10_3 O1 (Ins.self (E_w_IRI.ext E1))) (g := (mkF m 10 #[.val (.int p1), .val (.int p2), .val (.int p3), .unset, .unset, .unset, .unset, .unset, .unset] [(.ref w_IRI), (.int (0 : Int32)), (.ref b1), (.ref b1)])) rfl rfl (hb hby at_10)
  have V_b1_10_3 : Arv Z h4 b1 k1 (.object "com/example/cantrip/cantrip/Token$Kind") (15 : Int32) [(.ref w_IRI), .null, .null, .null, .null, .null, .null, .null, .null, .null, .null, .null, .null, .null, .null] .null := Arv.set Ar_b1_10_3 q_b1_10_3 S_b1_10_3 N_b1_10_3 H_b1_10_3 G_b1_10_3 rfl W4 0 rfl (Nat.le_of_ble_eq_true rfl)
  have K4 : Keep h0 h4 [] := K1.wr W4 (Or.inr sz_b1)
  have N4 := Fr.snoc X4 N0 g_b1
  obtain ⟨T5, X5, e5, st5⟩ := getS2 X4 hx hZ hown (host := "") (Or.inl (hw _ (List.mem_of_getElem? (i := 6) rfl))) Via.refl e4 ((S_PNAME_NS.ext E1).wr W4) (g := (mkF m 13 #[.val (.int p1), .val (.int p2), .val (.int p3), .unset, .unset, .unset, .unset, .unset, .unset] [(.int (1 : Int32)), (.ref b1), (.ref b1)])) rfl (hb hby at_13)
  obtain ⟨cl_b1_16_6, Ar_b1_16_6, q_b1_16_6, S_b1_16_6, N_b1_16_6, H_b1_16_6, G_b1_16_6⟩ := id V_b1_10_3
  have hin_b1_16_6 : ¬ ((1 : Int32) < 0 ∨ cl_b1_16_6.slots.size ≤ ((1 : Int32) : Int32).toNatClampNeg) := inb_of S_b1_16_6 ⟨by decide, by decide⟩
  obtain ⟨T7, h7, X7, e7, W7, st7⟩ := stR X5 hx hZ e5 Ar_b1_16_6 (j := (1 : Int32)) hin_b1_16_6 rfl (Sto.ofV Ar_b1_16_6 q_b1_16_6 O1 (Ins.self ((E_w_PNAME_NS.ext E1).wr W4))) (g := (mkF m 16 #[.val (.int p1), .val (.int p2), .val (.int p3), .unset, .unset, .unset, .unset, .unset, .unset] [(.ref w_PNAME_NS), (.int (1 : Int32)), (.ref b1), (.ref b1)])) rfl rfl (hb hby at_16)
  have V_b1_16_6 : Arv Z h7 b1 k1 (.object "com/example/cantrip/cantrip/Token$Kind") (15 : Int32) [(.ref w_IRI), (.ref w_PNAME_NS), .null, .null, .null, .null, .null, .null, .null, .null, .null, .null, .null, .null, .null] .null := Arv.set Ar_b1_16_6 q_b1_16_6 S_b1_16_6 N_b1_16_6 H_b1_16_6 G_b1_16_6 rfl W7 1 rfl (Nat.le_of_ble_eq_true rfl)
  have K7 : Keep h0 h7 [] := K4.wr W7 (Or.inr sz_b1)
  have N7 := Fr.snoc X7 N4 g_b1
  obtain ⟨T8, X8, e8, st8⟩ := getS2 X7 hx hZ hown (host := "") (Or.inl (hw _ (List.mem_of_getElem? (i := 8) rfl))) Via.refl e7 (((S_PNAME_LN.ext E1).wr W4).wr W7) (g := (mkF m 19 #[.val (.int p1), .val (.int p2), .val (.int p3), .unset, .unset, .unset, .unset, .unset, .unset] [(.int (2 : Int32)), (.ref b1), (.ref b1)])) rfl (hb hby at_19)
  obtain ⟨cl_b1_22_9, Ar_b1_22_9, q_b1_22_9, S_b1_22_9, N_b1_22_9, H_b1_22_9, G_b1_22_9⟩ := id V_b1_16_6
  have hin_b1_22_9 : ¬ ((2 : Int32) < 0 ∨ cl_b1_22_9.slots.size ≤ ((2 : Int32) : Int32).toNatClampNeg) := inb_of S_b1_22_9 ⟨by decide, by decide⟩
  obtain ⟨T10, h10, X10, e10, W10, st10⟩ := stR X8 hx hZ e8 Ar_b1_22_9 (j := (2 : Int32)) hin_b1_22_9 rfl (Sto.ofV Ar_b1_22_9 q_b1_22_9 O1 (Ins.self (((E_w_PNAME_LN.ext E1).wr W4).wr W7))) (g := (mkF m 22 #[.val (.int p1), .val (.int p2), .val (.int p3), .unset, .unset, .unset, .unset, .unset, .unset] [(.ref w_PNAME_LN), (.int (2 : Int32)), (.ref b1), (.ref b1)])) rfl rfl (hb hby at_22)
  have V_b1_22_9 : Arv Z h10 b1 k1 (.object "com/example/cantrip/cantrip/Token$Kind") (15 : Int32) [(.ref w_IRI), (.ref w_PNAME_NS), (.ref w_PNAME_LN), .null, .null, .null, .null, .null, .null, .null, .null, .null, .null, .null, .null] .null := Arv.set Ar_b1_22_9 q_b1_22_9 S_b1_22_9 N_b1_22_9 H_b1_22_9 G_b1_22_9 rfl W10 2 rfl (Nat.le_of_ble_eq_true rfl)
  have K10 : Keep h0 h10 [] := K7.wr W10 (Or.inr sz_b1)
  have N10 := Fr.snoc X10 N7 g_b1
  obtain ⟨T11, X11, e11, st11⟩ := getS2 X10 hx hZ hown (host := "") (Or.inl (hw _ (List.mem_of_getElem? (i := 10) rfl))) Via.refl e10 ((((S_BLANK_NODE_LABEL.ext E1).wr W4).wr W7).wr W10) (g := (mkF m 25 #[.val (.int p1), .val (.int p2), .val (.int p3), .unset, .unset, .unset, .unset, .unset, .unset] [(.int (3 : Int32)), (.ref b1), (.ref b1)])) rfl (hb hby at_25)
  obtain ⟨cl_b1_28_12, Ar_b1_28_12, q_b1_28_12, S_b1_28_12, N_b1_28_12, H_b1_28_12, G_b1_28_12⟩ := id V_b1_22_9
  have hin_b1_28_12 : ¬ ((3 : Int32) < 0 ∨ cl_b1_28_12.slots.size ≤ ((3 : Int32) : Int32).toNatClampNeg) := inb_of S_b1_28_12 ⟨by decide, by decide⟩
  obtain ⟨T13, h13, X13, e13, W13, st13⟩ := stR X11 hx hZ e11 Ar_b1_28_12 (j := (3 : Int32)) hin_b1_28_12 rfl (Sto.ofV Ar_b1_28_12 q_b1_28_12 O1 (Ins.self ((((E_w_BLANK_NODE_LABEL.ext E1).wr W4).wr W7).wr W10))) (g := (mkF m 28 #[.val (.int p1), .val (.int p2), .val (.int p3), .unset, .unset, .unset, .unset, .unset, .unset] [(.ref w_BLANK_NODE_LABEL), (.int (3 : Int32)), (.ref b1), (.ref b1)])) rfl rfl (hb hby at_28)
  have V_b1_28_12 : Arv Z h13 b1 k1 (.object "com/example/cantrip/cantrip/Token$Kind") (15 : Int32) [(.ref w_IRI), (.ref w_PNAME_NS), (.ref w_PNAME_LN), (.ref w_BLANK_NODE_LABEL), .null, .null, .null, .null, .null, .null, .null, .null, .null, .null, .null] .null := Arv.set Ar_b1_28_12 q_b1_28_12 S_b1_28_12 N_b1_28_12 H_b1_28_12 G_b1_28_12 rfl W13 3 rfl (Nat.le_of_ble_eq_true rfl)
  have K13 : Keep h0 h13 [] := K10.wr W13 (Or.inr sz_b1)
  have N13 := Fr.snoc X13 N10 g_b1
  obtain ⟨T14, X14, e14, st14⟩ := getS2 X13 hx hZ hown (host := "") (Or.inl (hw _ (List.mem_of_getElem? (i := 12) rfl))) Via.refl e13 (((((S_VAR.ext E1).wr W4).wr W7).wr W10).wr W13) (g := (mkF m 31 #[.val (.int p1), .val (.int p2), .val (.int p3), .unset, .unset, .unset, .unset, .unset, .unset] [(.int (4 : Int32)), (.ref b1), (.ref b1)])) rfl (hb hby at_31)
  obtain ⟨cl_b1_34_15, Ar_b1_34_15, q_b1_34_15, S_b1_34_15, N_b1_34_15, H_b1_34_15, G_b1_34_15⟩ := id V_b1_28_12
  have hin_b1_34_15 : ¬ ((4 : Int32) < 0 ∨ cl_b1_34_15.slots.size ≤ ((4 : Int32) : Int32).toNatClampNeg) := inb_of S_b1_34_15 ⟨by decide, by decide⟩
  obtain ⟨T16, h16, X16, e16, W16, st16⟩ := stR X14 hx hZ e14 Ar_b1_34_15 (j := (4 : Int32)) hin_b1_34_15 rfl (Sto.ofV Ar_b1_34_15 q_b1_34_15 O1 (Ins.self (((((E_w_VAR.ext E1).wr W4).wr W7).wr W10).wr W13))) (g := (mkF m 34 #[.val (.int p1), .val (.int p2), .val (.int p3), .unset, .unset, .unset, .unset, .unset, .unset] [(.ref w_VAR), (.int (4 : Int32)), (.ref b1), (.ref b1)])) rfl rfl (hb hby at_34)
  have V_b1_34_15 : Arv Z h16 b1 k1 (.object "com/example/cantrip/cantrip/Token$Kind") (15 : Int32) [(.ref w_IRI), (.ref w_PNAME_NS), (.ref w_PNAME_LN), (.ref w_BLANK_NODE_LABEL), (.ref w_VAR), .null, .null, .null, .null, .null, .null, .null, .null, .null, .null] .null := Arv.set Ar_b1_34_15 q_b1_34_15 S_b1_34_15 N_b1_34_15 H_b1_34_15 G_b1_34_15 rfl W16 4 rfl (Nat.le_of_ble_eq_true rfl)
  have K16 : Keep h0 h16 [] := K13.wr W16 (Or.inr sz_b1)
  have N16 := Fr.snoc X16 N13 g_b1
  obtain ⟨T17, X17, e17, st17⟩ := getS2 X16 hx hZ hown (host := "") (Or.inl (hw _ (List.mem_of_getElem? (i := 14) rfl))) Via.refl e16 ((((((S_STRING.ext E1).wr W4).wr W7).wr W10).wr W13).wr W16) (g := (mkF m 37 #[.val (.int p1), .val (.int p2), .val (.int p3), .unset, .unset, .unset, .unset, .unset, .unset] [(.int (5 : Int32)), (.ref b1), (.ref b1)])) rfl (hb hby at_37)
  obtain ⟨cl_b1_40_18, Ar_b1_40_18, q_b1_40_18, S_b1_40_18, N_b1_40_18, H_b1_40_18, G_b1_40_18⟩ := id V_b1_34_15
  have hin_b1_40_18 : ¬ ((5 : Int32) < 0 ∨ cl_b1_40_18.slots.size ≤ ((5 : Int32) : Int32).toNatClampNeg) := inb_of S_b1_40_18 ⟨by decide, by decide⟩
  obtain ⟨T19, h19, X19, e19, W19, st19⟩ := stR X17 hx hZ e17 Ar_b1_40_18 (j := (5 : Int32)) hin_b1_40_18 rfl (Sto.ofV Ar_b1_40_18 q_b1_40_18 O1 (Ins.self ((((((E_w_STRING.ext E1).wr W4).wr W7).wr W10).wr W13).wr W16))) (g := (mkF m 40 #[.val (.int p1), .val (.int p2), .val (.int p3), .unset, .unset, .unset, .unset, .unset, .unset] [(.ref w_STRING), (.int (5 : Int32)), (.ref b1), (.ref b1)])) rfl rfl (hb hby at_40)
  have V_b1_40_18 : Arv Z h19 b1 k1 (.object "com/example/cantrip/cantrip/Token$Kind") (15 : Int32) [(.ref w_IRI), (.ref w_PNAME_NS), (.ref w_PNAME_LN), (.ref w_BLANK_NODE_LABEL), (.ref w_VAR), (.ref w_STRING), .null, .null, .null, .null, .null, .null, .null, .null, .null] .null := Arv.set Ar_b1_40_18 q_b1_40_18 S_b1_40_18 N_b1_40_18 H_b1_40_18 G_b1_40_18 rfl W19 5 rfl (Nat.le_of_ble_eq_true rfl)
  have K19 : Keep h0 h19 [] := K16.wr W19 (Or.inr sz_b1)
  have N19 := Fr.snoc X19 N16 g_b1
  obtain ⟨T20, X20, e20, st20⟩ := getS2 X19 hx hZ hown (host := "") (Or.inl (hw _ (List.mem_of_getElem? (i := 16) rfl))) Via.refl e19 (((((((S_LANGTAG.ext E1).wr W4).wr W7).wr W10).wr W13).wr W16).wr W19) (g := (mkF m 44 #[.val (.int p1), .val (.int p2), .val (.int p3), .unset, .unset, .unset, .unset, .unset, .unset] [(.int (6 : Int32)), (.ref b1), (.ref b1)])) rfl (hb hby at_44)
  obtain ⟨cl_b1_47_21, Ar_b1_47_21, q_b1_47_21, S_b1_47_21, N_b1_47_21, H_b1_47_21, G_b1_47_21⟩ := id V_b1_40_18
  have hin_b1_47_21 : ¬ ((6 : Int32) < 0 ∨ cl_b1_47_21.slots.size ≤ ((6 : Int32) : Int32).toNatClampNeg) := inb_of S_b1_47_21 ⟨by decide, by decide⟩
  obtain ⟨T22, h22, X22, e22, W22, st22⟩ := stR X20 hx hZ e20 Ar_b1_47_21 (j := (6 : Int32)) hin_b1_47_21 rfl (Sto.ofV Ar_b1_47_21 q_b1_47_21 O1 (Ins.self (((((((E_w_LANGTAG.ext E1).wr W4).wr W7).wr W10).wr W13).wr W16).wr W19))) (g := (mkF m 47 #[.val (.int p1), .val (.int p2), .val (.int p3), .unset, .unset, .unset, .unset, .unset, .unset] [(.ref w_LANGTAG), (.int (6 : Int32)), (.ref b1), (.ref b1)])) rfl rfl (hb hby at_47)
  have V_b1_47_21 : Arv Z h22 b1 k1 (.object "com/example/cantrip/cantrip/Token$Kind") (15 : Int32) [(.ref w_IRI), (.ref w_PNAME_NS), (.ref w_PNAME_LN), (.ref w_BLANK_NODE_LABEL), (.ref w_VAR), (.ref w_STRING), (.ref w_LANGTAG), .null, .null, .null, .null, .null, .null, .null, .null] .null := Arv.set Ar_b1_47_21 q_b1_47_21 S_b1_47_21 N_b1_47_21 H_b1_47_21 G_b1_47_21 rfl W22 6 rfl (Nat.le_of_ble_eq_true rfl)
  have K22 : Keep h0 h22 [] := K19.wr W22 (Or.inr sz_b1)
  have N22 := Fr.snoc X22 N19 g_b1
  obtain ⟨T23, X23, e23, st23⟩ := getS2 X22 hx hZ hown (host := "") (Or.inl (hw _ (List.mem_of_getElem? (i := 18) rfl))) Via.refl e22 ((((((((S_INTEGER.ext E1).wr W4).wr W7).wr W10).wr W13).wr W16).wr W19).wr W22) (g := (mkF m 51 #[.val (.int p1), .val (.int p2), .val (.int p3), .unset, .unset, .unset, .unset, .unset, .unset] [(.int (7 : Int32)), (.ref b1), (.ref b1)])) rfl (hb hby at_51)
  obtain ⟨cl_b1_54_24, Ar_b1_54_24, q_b1_54_24, S_b1_54_24, N_b1_54_24, H_b1_54_24, G_b1_54_24⟩ := id V_b1_47_21
  have hin_b1_54_24 : ¬ ((7 : Int32) < 0 ∨ cl_b1_54_24.slots.size ≤ ((7 : Int32) : Int32).toNatClampNeg) := inb_of S_b1_54_24 ⟨by decide, by decide⟩
  obtain ⟨T25, h25, X25, e25, W25, st25⟩ := stR X23 hx hZ e23 Ar_b1_54_24 (j := (7 : Int32)) hin_b1_54_24 rfl (Sto.ofV Ar_b1_54_24 q_b1_54_24 O1 (Ins.self ((((((((E_w_INTEGER.ext E1).wr W4).wr W7).wr W10).wr W13).wr W16).wr W19).wr W22))) (g := (mkF m 54 #[.val (.int p1), .val (.int p2), .val (.int p3), .unset, .unset, .unset, .unset, .unset, .unset] [(.ref w_INTEGER), (.int (7 : Int32)), (.ref b1), (.ref b1)])) rfl rfl (hb hby at_54)
  have V_b1_54_24 : Arv Z h25 b1 k1 (.object "com/example/cantrip/cantrip/Token$Kind") (15 : Int32) [(.ref w_IRI), (.ref w_PNAME_NS), (.ref w_PNAME_LN), (.ref w_BLANK_NODE_LABEL), (.ref w_VAR), (.ref w_STRING), (.ref w_LANGTAG), (.ref w_INTEGER), .null, .null, .null, .null, .null, .null, .null] .null := Arv.set Ar_b1_54_24 q_b1_54_24 S_b1_54_24 N_b1_54_24 H_b1_54_24 G_b1_54_24 rfl W25 7 rfl (Nat.le_of_ble_eq_true rfl)
  have K25 : Keep h0 h25 [] := K22.wr W25 (Or.inr sz_b1)
  have N25 := Fr.snoc X25 N22 g_b1
  obtain ⟨T26, X26, e26, st26⟩ := getS2 X25 hx hZ hown (host := "") (Or.inl (hw _ (List.mem_of_getElem? (i := 20) rfl))) Via.refl e25 (((((((((S_DECIMAL.ext E1).wr W4).wr W7).wr W10).wr W13).wr W16).wr W19).wr W22).wr W25) (g := (mkF m 58 #[.val (.int p1), .val (.int p2), .val (.int p3), .unset, .unset, .unset, .unset, .unset, .unset] [(.int (8 : Int32)), (.ref b1), (.ref b1)])) rfl (hb hby at_58)
  obtain ⟨cl_b1_61_27, Ar_b1_61_27, q_b1_61_27, S_b1_61_27, N_b1_61_27, H_b1_61_27, G_b1_61_27⟩ := id V_b1_54_24
  have hin_b1_61_27 : ¬ ((8 : Int32) < 0 ∨ cl_b1_61_27.slots.size ≤ ((8 : Int32) : Int32).toNatClampNeg) := inb_of S_b1_61_27 ⟨by decide, by decide⟩
  obtain ⟨T28, h28, X28, e28, W28, st28⟩ := stR X26 hx hZ e26 Ar_b1_61_27 (j := (8 : Int32)) hin_b1_61_27 rfl (Sto.ofV Ar_b1_61_27 q_b1_61_27 O1 (Ins.self (((((((((E_w_DECIMAL.ext E1).wr W4).wr W7).wr W10).wr W13).wr W16).wr W19).wr W22).wr W25))) (g := (mkF m 61 #[.val (.int p1), .val (.int p2), .val (.int p3), .unset, .unset, .unset, .unset, .unset, .unset] [(.ref w_DECIMAL), (.int (8 : Int32)), (.ref b1), (.ref b1)])) rfl rfl (hb hby at_61)
  have V_b1_61_27 : Arv Z h28 b1 k1 (.object "com/example/cantrip/cantrip/Token$Kind") (15 : Int32) [(.ref w_IRI), (.ref w_PNAME_NS), (.ref w_PNAME_LN), (.ref w_BLANK_NODE_LABEL), (.ref w_VAR), (.ref w_STRING), (.ref w_LANGTAG), (.ref w_INTEGER), (.ref w_DECIMAL), .null, .null, .null, .null, .null, .null] .null := Arv.set Ar_b1_61_27 q_b1_61_27 S_b1_61_27 N_b1_61_27 H_b1_61_27 G_b1_61_27 rfl W28 8 rfl (Nat.le_of_ble_eq_true rfl)
  have K28 : Keep h0 h28 [] := K25.wr W28 (Or.inr sz_b1)
  have N28 := Fr.snoc X28 N25 g_b1
  obtain ⟨T29, X29, e29, st29⟩ := getS2 X28 hx hZ hown (host := "") (Or.inl (hw _ (List.mem_of_getElem? (i := 22) rfl))) Via.refl e28 ((((((((((S_DOUBLE.ext E1).wr W4).wr W7).wr W10).wr W13).wr W16).wr W19).wr W22).wr W25).wr W28) (g := (mkF m 65 #[.val (.int p1), .val (.int p2), .val (.int p3), .unset, .unset, .unset, .unset, .unset, .unset] [(.int (9 : Int32)), (.ref b1), (.ref b1)])) rfl (hb hby at_65)
  obtain ⟨cl_b1_68_30, Ar_b1_68_30, q_b1_68_30, S_b1_68_30, N_b1_68_30, H_b1_68_30, G_b1_68_30⟩ := id V_b1_61_27
  have hin_b1_68_30 : ¬ ((9 : Int32) < 0 ∨ cl_b1_68_30.slots.size ≤ ((9 : Int32) : Int32).toNatClampNeg) := inb_of S_b1_68_30 ⟨by decide, by decide⟩
  obtain ⟨T31, h31, X31, e31, W31, st31⟩ := stR X29 hx hZ e29 Ar_b1_68_30 (j := (9 : Int32)) hin_b1_68_30 rfl (Sto.ofV Ar_b1_68_30 q_b1_68_30 O1 (Ins.self ((((((((((E_w_DOUBLE.ext E1).wr W4).wr W7).wr W10).wr W13).wr W16).wr W19).wr W22).wr W25).wr W28))) (g := (mkF m 68 #[.val (.int p1), .val (.int p2), .val (.int p3), .unset, .unset, .unset, .unset, .unset, .unset] [(.ref w_DOUBLE), (.int (9 : Int32)), (.ref b1), (.ref b1)])) rfl rfl (hb hby at_68)
  have V_b1_68_30 : Arv Z h31 b1 k1 (.object "com/example/cantrip/cantrip/Token$Kind") (15 : Int32) [(.ref w_IRI), (.ref w_PNAME_NS), (.ref w_PNAME_LN), (.ref w_BLANK_NODE_LABEL), (.ref w_VAR), (.ref w_STRING), (.ref w_LANGTAG), (.ref w_INTEGER), (.ref w_DECIMAL), (.ref w_DOUBLE), .null, .null, .null, .null, .null] .null := Arv.set Ar_b1_68_30 q_b1_68_30 S_b1_68_30 N_b1_68_30 H_b1_68_30 G_b1_68_30 rfl W31 9 rfl (Nat.le_of_ble_eq_true rfl)
  have K31 : Keep h0 h31 [] := K28.wr W31 (Or.inr sz_b1)
  have N31 := Fr.snoc X31 N28 g_b1
  obtain ⟨T32, X32, e32, st32⟩ := getS2 X31 hx hZ hown (host := "") (Or.inl (hw _ (List.mem_of_getElem? (i := 24) rfl))) Via.refl e31 (((((((((((S_NIL.ext E1).wr W4).wr W7).wr W10).wr W13).wr W16).wr W19).wr W22).wr W25).wr W28).wr W31) (g := (mkF m 72 #[.val (.int p1), .val (.int p2), .val (.int p3), .unset, .unset, .unset, .unset, .unset, .unset] [(.int (10 : Int32)), (.ref b1), (.ref b1)])) rfl (hb hby at_72)
  obtain ⟨cl_b1_75_33, Ar_b1_75_33, q_b1_75_33, S_b1_75_33, N_b1_75_33, H_b1_75_33, G_b1_75_33⟩ := id V_b1_68_30
  have hin_b1_75_33 : ¬ ((10 : Int32) < 0 ∨ cl_b1_75_33.slots.size ≤ ((10 : Int32) : Int32).toNatClampNeg) := inb_of S_b1_75_33 ⟨by decide, by decide⟩
  obtain ⟨T34, h34, X34, e34, W34, st34⟩ := stR X32 hx hZ e32 Ar_b1_75_33 (j := (10 : Int32)) hin_b1_75_33 rfl (Sto.ofV Ar_b1_75_33 q_b1_75_33 O1 (Ins.self (((((((((((E_w_NIL.ext E1).wr W4).wr W7).wr W10).wr W13).wr W16).wr W19).wr W22).wr W25).wr W28).wr W31))) (g := (mkF m 75 #[.val (.int p1), .val (.int p2), .val (.int p3), .unset, .unset, .unset, .unset, .unset, .unset] [(.ref w_NIL), (.int (10 : Int32)), (.ref b1), (.ref b1)])) rfl rfl (hb hby at_75)
  have V_b1_75_33 : Arv Z h34 b1 k1 (.object "com/example/cantrip/cantrip/Token$Kind") (15 : Int32) [(.ref w_IRI), (.ref w_PNAME_NS), (.ref w_PNAME_LN), (.ref w_BLANK_NODE_LABEL), (.ref w_VAR), (.ref w_STRING), (.ref w_LANGTAG), (.ref w_INTEGER), (.ref w_DECIMAL), (.ref w_DOUBLE), (.ref w_NIL), .null, .null, .null, .null] .null := Arv.set Ar_b1_75_33 q_b1_75_33 S_b1_75_33 N_b1_75_33 H_b1_75_33 G_b1_75_33 rfl W34 10 rfl (Nat.le_of_ble_eq_true rfl)
  have K34 : Keep h0 h34 [] := K31.wr W34 (Or.inr sz_b1)
  have N34 := Fr.snoc X34 N31 g_b1
  obtain ⟨T35, X35, e35, st35⟩ := getS2 X34 hx hZ hown (host := "") (Or.inl (hw _ (List.mem_of_getElem? (i := 26) rfl))) Via.refl e34 ((((((((((((S_ANON.ext E1).wr W4).wr W7).wr W10).wr W13).wr W16).wr W19).wr W22).wr W25).wr W28).wr W31).wr W34) (g := (mkF m 79 #[.val (.int p1), .val (.int p2), .val (.int p3), .unset, .unset, .unset, .unset, .unset, .unset] [(.int (11 : Int32)), (.ref b1), (.ref b1)])) rfl (hb hby at_79)
  obtain ⟨cl_b1_82_36, Ar_b1_82_36, q_b1_82_36, S_b1_82_36, N_b1_82_36, H_b1_82_36, G_b1_82_36⟩ := id V_b1_75_33
  have hin_b1_82_36 : ¬ ((11 : Int32) < 0 ∨ cl_b1_82_36.slots.size ≤ ((11 : Int32) : Int32).toNatClampNeg) := inb_of S_b1_82_36 ⟨by decide, by decide⟩
  obtain ⟨T37, h37, X37, e37, W37, st37⟩ := stR X35 hx hZ e35 Ar_b1_82_36 (j := (11 : Int32)) hin_b1_82_36 rfl (Sto.ofV Ar_b1_82_36 q_b1_82_36 O1 (Ins.self ((((((((((((E_w_ANON.ext E1).wr W4).wr W7).wr W10).wr W13).wr W16).wr W19).wr W22).wr W25).wr W28).wr W31).wr W34))) (g := (mkF m 82 #[.val (.int p1), .val (.int p2), .val (.int p3), .unset, .unset, .unset, .unset, .unset, .unset] [(.ref w_ANON), (.int (11 : Int32)), (.ref b1), (.ref b1)])) rfl rfl (hb hby at_82)
  have V_b1_82_36 : Arv Z h37 b1 k1 (.object "com/example/cantrip/cantrip/Token$Kind") (15 : Int32) [(.ref w_IRI), (.ref w_PNAME_NS), (.ref w_PNAME_LN), (.ref w_BLANK_NODE_LABEL), (.ref w_VAR), (.ref w_STRING), (.ref w_LANGTAG), (.ref w_INTEGER), (.ref w_DECIMAL), (.ref w_DOUBLE), (.ref w_NIL), (.ref w_ANON), .null, .null, .null] .null := Arv.set Ar_b1_82_36 q_b1_82_36 S_b1_82_36 N_b1_82_36 H_b1_82_36 G_b1_82_36 rfl W37 11 rfl (Nat.le_of_ble_eq_true rfl)
  have K37 : Keep h0 h37 [] := K34.wr W37 (Or.inr sz_b1)
  have N37 := Fr.snoc X37 N34 g_b1
  obtain ⟨T38, X38, e38, st38⟩ := getS2 X37 hx hZ hown (host := "") (Or.inl (hw _ (List.mem_of_getElem? (i := 28) rfl))) Via.refl e37 (((((((((((((S_WORD.ext E1).wr W4).wr W7).wr W10).wr W13).wr W16).wr W19).wr W22).wr W25).wr W28).wr W31).wr W34).wr W37) (g := (mkF m 86 #[.val (.int p1), .val (.int p2), .val (.int p3), .unset, .unset, .unset, .unset, .unset, .unset] [(.int (12 : Int32)), (.ref b1), (.ref b1)])) rfl (hb hby at_86)
  obtain ⟨cl_b1_89_39, Ar_b1_89_39, q_b1_89_39, S_b1_89_39, N_b1_89_39, H_b1_89_39, G_b1_89_39⟩ := id V_b1_82_36
  have hin_b1_89_39 : ¬ ((12 : Int32) < 0 ∨ cl_b1_89_39.slots.size ≤ ((12 : Int32) : Int32).toNatClampNeg) := inb_of S_b1_89_39 ⟨by decide, by decide⟩
  obtain ⟨T40, h40, X40, e40, W40, st40⟩ := stR X38 hx hZ e38 Ar_b1_89_39 (j := (12 : Int32)) hin_b1_89_39 rfl (Sto.ofV Ar_b1_89_39 q_b1_89_39 O1 (Ins.self (((((((((((((E_w_WORD.ext E1).wr W4).wr W7).wr W10).wr W13).wr W16).wr W19).wr W22).wr W25).wr W28).wr W31).wr W34).wr W37))) (g := (mkF m 89 #[.val (.int p1), .val (.int p2), .val (.int p3), .unset, .unset, .unset, .unset, .unset, .unset] [(.ref w_WORD), (.int (12 : Int32)), (.ref b1), (.ref b1)])) rfl rfl (hb hby at_89)
  have V_b1_89_39 : Arv Z h40 b1 k1 (.object "com/example/cantrip/cantrip/Token$Kind") (15 : Int32) [(.ref w_IRI), (.ref w_PNAME_NS), (.ref w_PNAME_LN), (.ref w_BLANK_NODE_LABEL), (.ref w_VAR), (.ref w_STRING), (.ref w_LANGTAG), (.ref w_INTEGER), (.ref w_DECIMAL), (.ref w_DOUBLE), (.ref w_NIL), (.ref w_ANON), (.ref w_WORD), .null, .null] .null := Arv.set Ar_b1_89_39 q_b1_89_39 S_b1_89_39 N_b1_89_39 H_b1_89_39 G_b1_89_39 rfl W40 12 rfl (Nat.le_of_ble_eq_true rfl)
  have K40 : Keep h0 h40 [] := K37.wr W40 (Or.inr sz_b1)
  have N40 := Fr.snoc X40 N37 g_b1
  obtain ⟨T41, X41, e41, st41⟩ := getS2 X40 hx hZ hown (host := "") (Or.inl (hw _ (List.mem_of_getElem? (i := 30) rfl))) Via.refl e40 ((((((((((((((S_PUNCT.ext E1).wr W4).wr W7).wr W10).wr W13).wr W16).wr W19).wr W22).wr W25).wr W28).wr W31).wr W34).wr W37).wr W40) (g := (mkF m 93 #[.val (.int p1), .val (.int p2), .val (.int p3), .unset, .unset, .unset, .unset, .unset, .unset] [(.int (13 : Int32)), (.ref b1), (.ref b1)])) rfl (hb hby at_93)
  obtain ⟨cl_b1_96_42, Ar_b1_96_42, q_b1_96_42, S_b1_96_42, N_b1_96_42, H_b1_96_42, G_b1_96_42⟩ := id V_b1_89_39
  have hin_b1_96_42 : ¬ ((13 : Int32) < 0 ∨ cl_b1_96_42.slots.size ≤ ((13 : Int32) : Int32).toNatClampNeg) := inb_of S_b1_96_42 ⟨by decide, by decide⟩
  obtain ⟨T43, h43, X43, e43, W43, st43⟩ := stR X41 hx hZ e41 Ar_b1_96_42 (j := (13 : Int32)) hin_b1_96_42 rfl (Sto.ofV Ar_b1_96_42 q_b1_96_42 O1 (Ins.self ((((((((((((((E_w_PUNCT.ext E1).wr W4).wr W7).wr W10).wr W13).wr W16).wr W19).wr W22).wr W25).wr W28).wr W31).wr W34).wr W37).wr W40))) (g := (mkF m 96 #[.val (.int p1), .val (.int p2), .val (.int p3), .unset, .unset, .unset, .unset, .unset, .unset] [(.ref w_PUNCT), (.int (13 : Int32)), (.ref b1), (.ref b1)])) rfl rfl (hb hby at_96)
  have V_b1_96_42 : Arv Z h43 b1 k1 (.object "com/example/cantrip/cantrip/Token$Kind") (15 : Int32) [(.ref w_IRI), (.ref w_PNAME_NS), (.ref w_PNAME_LN), (.ref w_BLANK_NODE_LABEL), (.ref w_VAR), (.ref w_STRING), (.ref w_LANGTAG), (.ref w_INTEGER), (.ref w_DECIMAL), (.ref w_DOUBLE), (.ref w_NIL), (.ref w_ANON), (.ref w_WORD), (.ref w_PUNCT), .null] .null := Arv.set Ar_b1_96_42 q_b1_96_42 S_b1_96_42 N_b1_96_42 H_b1_96_42 G_b1_96_42 rfl W43 13 rfl (Nat.le_of_ble_eq_true rfl)
  have K43 : Keep h0 h43 [] := K40.wr W43 (Or.inr sz_b1)
  have N43 := Fr.snoc X43 N40 g_b1
  obtain ⟨T44, X44, e44, st44⟩ := getS2 X43 hx hZ hown (host := "") (Or.inl (hw _ (List.mem_of_getElem? (i := 32) rfl))) Via.refl e43 (((((((((((((((S_EOF.ext E1).wr W4).wr W7).wr W10).wr W13).wr W16).wr W19).wr W22).wr W25).wr W28).wr W31).wr W34).wr W37).wr W40).wr W43) (g := (mkF m 100 #[.val (.int p1), .val (.int p2), .val (.int p3), .unset, .unset, .unset, .unset, .unset, .unset] [(.int (14 : Int32)), (.ref b1), (.ref b1)])) rfl (hb hby at_100)
  obtain ⟨cl_b1_103_45, Ar_b1_103_45, q_b1_103_45, S_b1_103_45, N_b1_103_45, H_b1_103_45, G_b1_103_45⟩ := id V_b1_96_42
  have hin_b1_103_45 : ¬ ((14 : Int32) < 0 ∨ cl_b1_103_45.slots.size ≤ ((14 : Int32) : Int32).toNatClampNeg) := inb_of S_b1_103_45 ⟨by decide, by decide⟩
  obtain ⟨T46, h46, X46, e46, W46, st46⟩ := stR X44 hx hZ e44 Ar_b1_103_45 (j := (14 : Int32)) hin_b1_103_45 rfl (Sto.ofV Ar_b1_103_45 q_b1_103_45 O1 (Ins.self (((((((((((((((E_w_EOF.ext E1).wr W4).wr W7).wr W10).wr W13).wr W16).wr W19).wr W22).wr W25).wr W28).wr W31).wr W34).wr W37).wr W40).wr W43))) (g := (mkF m 103 #[.val (.int p1), .val (.int p2), .val (.int p3), .unset, .unset, .unset, .unset, .unset, .unset] [(.ref w_EOF), (.int (14 : Int32)), (.ref b1), (.ref b1)])) rfl rfl (hb hby at_103)
  have V_b1_103_45 : Arv Z h46 b1 k1 (.object "com/example/cantrip/cantrip/Token$Kind") (15 : Int32) [(.ref w_IRI), (.ref w_PNAME_NS), (.ref w_PNAME_LN), (.ref w_BLANK_NODE_LABEL), (.ref w_VAR), (.ref w_STRING), (.ref w_LANGTAG), (.ref w_INTEGER), (.ref w_DECIMAL), (.ref w_DOUBLE), (.ref w_NIL), (.ref w_ANON), (.ref w_WORD), (.ref w_PUNCT), (.ref w_EOF)] .null := Arv.set Ar_b1_103_45 q_b1_103_45 S_b1_103_45 N_b1_103_45 H_b1_103_45 G_b1_103_45 rfl W46 14 rfl (Nat.le_of_ble_eq_true rfl)
  have K46 : Keep h0 h46 [] := K43.wr W46 (Or.inr sz_b1)
  have N46 := Fr.snoc X46 N43 g_b1
  obtain ⟨T47, h47, k47, X47, e47, E47, A47, st47⟩ := newP X46 hx hZ (hw _ (List.mem_of_getElem? (i := 35) rfl)) e46 (g := (mkF m 115 #[.val (.int p1), .val (.int p2), .val (.int p3), .val (.ref b1), .val (.int ((p1 &&& (2147483647 : Int32)) % (15 : Int32))), .unset, .unset, .unset, .unset] [(.int (2 : Int32))])) rfl (hb hby at_115) rfl (by decide) (cap := 2) (by decide) (by decide) (by decide) (by decide)
  obtain ⟨b47, g47⟩ : ∃ z, z = h46.size := ⟨_, rfl⟩
  rw [← g47] at A47 st47
  have sz_b47 : h0.size ≤ b47 := Nat.le_trans K46.1 (Nat.le_of_eq g47.symm)
  have g_b47 : n0 ≤ b47 := Nat.le_trans Z0 sz_b47
  have K47 : Keep h0 h47 [] := K46.ext E47
  have V_b47 : Arv Z h47 b47 k47 .char (2 : Int32) [(.int (0 : Int32)), (.int (0 : Int32))] (.int (0 : Int32)) := (Arv.new A47 (by decide)).pad (pad_rep [] (.int (0 : Int32)) 2)
  obtain ⟨cl_b47_125_48, Ar_b47_125_48, q_b47_125_48, S_b47_125_48, N_b47_125_48, H_b47_125_48, G_b47_125_48⟩ := id V_b47
  have hin_b47_125_48 : ¬ ((0 : Int32) < 0 ∨ cl_b47_125_48.slots.size ≤ ((0 : Int32) : Int32).toNatClampNeg) := inb_of S_b47_125_48 ⟨by decide, by decide⟩
  obtain ⟨T49, h49, X49, e49, W49, st49⟩ := stC X47 hx hZ e47 Ar_b47_125_48 (j := (0 : Int32)) hin_b47_125_48 (g := (mkF m 125 #[.val (.int p1), .val (.int p2), .val (.int p3), .val (.ref b1), .val (.int ((p1 &&& (2147483647 : Int32)) % (15 : Int32))), .unset, .unset, .unset, .unset] [(.int ((p2 &&& (255 : Int32)).toUInt32.toUInt16.toUInt32.toInt32)), (.int (0 : Int32)), (.ref b47), (.ref b47)])) rfl rfl (hb hby at_125)
  have V_b47_125_48 : Arv Z h49 b47 k47 .char (2 : Int32) [(.int (nar .char ((p2 &&& (255 : Int32)).toUInt32.toUInt16.toUInt32.toInt32))), (.int (0 : Int32))] (.int (0 : Int32)) := Arv.set Ar_b47_125_48 q_b47_125_48 S_b47_125_48 N_b47_125_48 H_b47_125_48 G_b47_125_48 (fits_nar_char _) W49 0 rfl (Nat.le_of_ble_eq_true rfl)
  have K49 : Keep h0 h49 [] := K47.wr W49 (Or.inr sz_b47)
  have N49 := Fr.snoc X49 N46 g_b47
  obtain ⟨cl_b47_137_50, Ar_b47_137_50, q_b47_137_50, S_b47_137_50, N_b47_137_50, H_b47_137_50, G_b47_137_50⟩ := id V_b47_125_48
  have hin_b47_137_50 : ¬ ((1 : Int32) < 0 ∨ cl_b47_137_50.slots.size ≤ ((1 : Int32) : Int32).toNatClampNeg) := inb_of S_b47_137_50 ⟨by decide, by decide⟩
  obtain ⟨T51, h51, X51, e51, W51, st51⟩ := stC X49 hx hZ e49 Ar_b47_137_50 (j := (1 : Int32)) hin_b47_137_50 (g := (mkF m 137 #[.val (.int p1), .val (.int p2), .val (.int p3), .val (.ref b1), .val (.int ((p1 &&& (2147483647 : Int32)) % (15 : Int32))), .unset, .unset, .unset, .unset] [(.int ((((p2.toUInt32 >>> ((8 : Int32) &&& 31).toUInt32).toInt32) &&& (255 : Int32)).toUInt32.toUInt16.toUInt32.toInt32)), (.int (1 : Int32)), (.ref b47), (.ref b47)])) rfl rfl (hb hby at_137)
  have V_b47_137_50 : Arv Z h51 b47 k47 .char (2 : Int32) [(.int (nar .char ((p2 &&& (255 : Int32)).toUInt32.toUInt16.toUInt32.toInt32))), (.int (nar .char ((((p2.toUInt32 >>> ((8 : Int32) &&& 31).toUInt32).toInt32) &&& (255 : Int32)).toUInt32.toUInt16.toUInt32.toInt32)))] (.int (0 : Int32)) := Arv.set Ar_b47_137_50 q_b47_137_50 S_b47_137_50 N_b47_137_50 H_b47_137_50 G_b47_137_50 (fits_nar_char _) W51 1 rfl (Nat.le_of_ble_eq_true rfl)
  have K51 : Keep h0 h51 [] := K49.wr W51 (Or.inr sz_b47)
  have N51 := Fr.snoc X51 N49 g_b47
  obtain ⟨T52, h52, X52, e52, E52, A52, D52, -, st52⟩ := newO X51 hx hZ hown (hw _ (List.mem_of_getElem? (i := 36) rfl)) (hw _ (List.mem_of_getElem? (i := 37) rfl)) (hw _ (List.mem_of_getElem? (i := 38) rfl)) e51 (g := (mkF m 140 #[.val (.int p1), .val (.int p2), .val (.int p3), .val (.ref b1), .val (.int ((p1 &&& (2147483647 : Int32)) % (15 : Int32))), .val (.ref b47), .unset, .unset, .unset] [])) rfl (hb hby at_140) (by decide) (by decide)
  obtain ⟨b52, g52⟩ : ∃ z, z = h51.size := ⟨_, rfl⟩
  rw [← g52] at A52 D52 st52
  have sz_b52 : h0.size ≤ b52 := Nat.le_trans K51.1 (Nat.le_of_eq g52.symm)
  have g_b52 : n0 ≤ b52 := Nat.le_trans Z0 sz_b52
  have K52 : Keep h0 h52 [] := K51.ext E52
  have F_coder_b52 : Fld Z h52 b52 "java/lang/String" "coder" "B" (.int (0 : Int32)) := D52 (Or.inr (hw _ (List.mem_of_getElem? (i := 62) rfl))) (ty := .byte) (by decide)
  have F_value_b52 : Fld Z h52 b52 "java/lang/String" "value" "[B" .null := D52 (Or.inr (hw _ (List.mem_of_getElem? (i := 64) rfl))) (ty := (.array .byte)) (by decide)
  obtain ⟨_, _, ⟨T53, L53, k53, n53⟩, -, X53, ⟨Lc53, hQ53, l53, y53, z53⟩, st53⟩ := X52.specialBack hx (y := (⟨"java/lang/String", "<init>", "([C)V"⟩ : MethodName)) rfl hown (mvT hZ (hw _ (List.mem_of_getElem? (i := 39) rfl))) (mvT hZ (hw _ (List.mem_of_getElem? (i := 40) rfl))) (mvT hZ (hw _ (List.mem_of_getElem? (i := 41) rfl))) (by decide) (backOf (W := 1) (rm_ini1_2 l Z a0 hw [] b52 b47 k47 (nar .char ((p2 &&& (255 : Int32)).toUInt32.toUInt16.toUInt32.toInt32)) (nar .char ((((p2.toUInt32 >>> ((8 : Int32) &&& 31).toUInt32).toInt32) &&& (255 : Int32)).toUInt32.toUInt16.toUInt32.toInt32)) w_COMPACT_STRINGS (.int (0 : Int32)) .null h52 n0 (Nat.le_trans Z0 K52.1) (V_b47_137_50.ext E52) ((((((((((((((((((((S_COMPACT_STRINGS.ext E1).wr W4).wr W7).wr W10).wr W13).wr W16).wr W19).wr W22).wr W25).wr W28).wr W31).wr W34).wr W37).wr W40).wr W43).wr W46).ext E47).wr W49).wr W51).ext E52) A52 F_coder_b52 g_b52 F_value_b52 (own_ch _ : ¬ ((255 : Int32) < (nar .char ((p2 &&& (255 : Int32)).toUInt32.toUInt16.toUInt32.toInt32)))) (own_ch _ : ¬ ((255 : Int32) < (nar .char ((((p2.toUInt32 >>> ((8 : Int32) &&& 31).toUInt32).toInt32) &&& (255 : Int32)).toUInt32.toUInt16.toUInt32.toInt32)))) (hCS : ¬ (w_COMPACT_STRINGS = (0 : Int32)))) hZ (hw _ (List.mem_of_getElem? (i := 41) rfl)) (hw _ (List.mem_of_getElem? (i := 38) rfl)) (by decide) (by decide)) (g := (mkF m 146 #[.val (.int p1), .val (.int p2), .val (.int p3), .val (.ref b1), .val (.int ((p1 &&& (2147483647 : Int32)) % (15 : Int32))), .val (.ref b47), .unset, .unset, .unset] [(.ref b47), (.ref b52), (.ref b52)])) rfl (by rw [hml]; rfl) (Steps.refl _) (a := b52) (argsL := [(.ref b47)]) (rest := [(.ref b52)]) (lenOf pd5 rfl) rfl (by show 2 * 0 + _ ≤ _; exact Nat.le_of_eq rfl) (hb hby at_146) (fun _ _ => ⟨rfl, e52, (by decide : 3 + 1 ≤ _), (by decide : 21 + 2 ≤ _)⟩)
  dsimp only [Pt.U, Pt.locs, Pt.cells, Pt.slots] at X53 l53 y53 z53 st53 hQ53
  subst l53 y53 z53
  obtain ⟨b1_3_2_53, k1_3_2_53, rfl, N53q, K53, s53_b1_3_2, f53_0, f53_1, f53_2, f53_3⟩ := hQ53
  have N53 := Fr.app N51 N53q
  have sz_b1_3_2_53 : h0.size ≤ b1_3_2_53 := Nat.le_trans K52.1 s53_b1_3_2
  have g_b1_3_2_53 : n0 ≤ b1_3_2_53 := Nat.le_trans Z0 sz_b1_3_2_53
  have KK53 : Keep h0 T53.heap [] := K52.trans K53 (allS (Or.inr sz_b52) all0)
  obtain ⟨T54, h54, X54, e54, E54, A54, D54, -, st54⟩ := newO X53 hx hZ hown (hw _ (List.mem_of_getElem? (i := 65) rfl)) (hw _ (List.mem_of_getElem? (i := 66) rfl)) (hw _ (List.mem_of_getElem? (i := 67) rfl)) rfl (g := (mkF m 151 #[.val (.int p1), .val (.int p2), .val (.int p3), .val (.ref b1), .val (.int ((p1 &&& (2147483647 : Int32)) % (15 : Int32))), .val (.ref b47), .val (.ref b52), .unset, .unset] [])) rfl (hb hby at_151) (by decide) (by decide)
  obtain ⟨b54, g54⟩ : ∃ z, z = T53.heap.size := ⟨_, rfl⟩
  rw [← g54] at A54 D54 st54
  have sz_b54 : h0.size ≤ b54 := Nat.le_trans KK53.1 (Nat.le_of_eq g54.symm)
  have g_b54 : n0 ≤ b54 := Nat.le_trans Z0 sz_b54
  have K54 : Keep h0 h54 [] := KK53.ext E54
  have F_kind_b54 : Fld Z h54 b54 "com/example/cantrip/cantrip/Token" "kind" "Lcom/example/cantrip/cantrip/Token$Kind;" .null := D54 (Or.inr (hw _ (List.mem_of_getElem? (i := 78) rfl))) (ty := (.object "com/example/cantrip/cantrip/Token$Kind")) (by decide)
  have F_text_b54 : Fld Z h54 b54 "com/example/cantrip/cantrip/Token" "text" "Ljava/lang/String;" .null := D54 (Or.inr (hw _ (List.mem_of_getElem? (i := 80) rfl))) (ty := (.object "java/lang/String")) (by decide)
  have F_offset_b54 : Fld Z h54 b54 "com/example/cantrip/cantrip/Token" "offset" "I" (.int (0 : Int32)) := D54 (Or.inr (hw _ (List.mem_of_getElem? (i := 82) rfl))) (ty := .int) (by decide)
  have hrg := own_rng p1
  obtain ⟨cl_b1_158_55, Ar_b1_158_55, q_b1_158_55, S_b1_158_55, N_b1_158_55, H_b1_158_55, G_b1_158_55⟩ := id ((((((V_b1_103_45.ext E47).other W49 (Nat.ne_of_lt (Nat.lt_of_lt_of_le V_b1_103_45.lt (Nat.le_of_eq g47.symm)))).other W51 (Nat.ne_of_lt (Nat.lt_of_lt_of_le V_b1_103_45.lt (Nat.le_of_eq g47.symm)))).ext E52).keep K53 (ninS (Nat.ne_of_lt (Nat.lt_of_lt_of_le (((V_b1_103_45.ext E47).other W49 (Nat.ne_of_lt (Nat.lt_of_lt_of_le V_b1_103_45.lt (Nat.le_of_eq g47.symm)))).other W51 (Nat.ne_of_lt (Nat.lt_of_lt_of_le V_b1_103_45.lt (Nat.le_of_eq g47.symm)))).lt (Nat.le_of_eq g52.symm))) nin0)).ext E54)
  have hin_b1_158_55 : ¬ (((p1 &&& (2147483647 : Int32)) % (15 : Int32)) < 0 ∨ cl_b1_158_55.slots.size ≤ (((p1 &&& (2147483647 : Int32)) % (15 : Int32)) : Int32).toNatClampNeg) := inb_of S_b1_158_55 (own_inb hrg.1 hrg.2)
  obtain ⟨_, _, ⟨T56, L56, k56, n56⟩, -, X56, ⟨Lc56, hQ56, l56, y56, z56⟩, st56⟩ := X54.specialBack hx (y := (⟨"com/example/cantrip/cantrip/Token", "<init>", "(Lcom/example/cantrip/cantrip/Token$Kind;Ljava/lang/String;I)V"⟩ : MethodName)) rfl hown (mvT hZ (hw _ (List.mem_of_getElem? (i := 68) rfl))) (mvT hZ (hw _ (List.mem_of_getElem? (i := 69) rfl))) (mvT hZ (hw _ (List.mem_of_getElem? (i := 70) rfl))) (by decide) (backOf (W := 1) (rm7 l Z a0 hw [] b54 (own_pick ((p1 &&& (2147483647 : Int32)) % (15 : Int32)) w_IRI w_PNAME_NS w_PNAME_LN w_BLANK_NODE_LABEL w_VAR w_STRING w_LANGTAG w_INTEGER w_DECIMAL w_DOUBLE w_NIL w_ANON w_WORD w_PUNCT w_EOF) b52 p3 .null .null (.int (0 : Int32)) h54 n0 (Nat.le_trans Z0 K54.1) A54 F_kind_b54 g_b54 F_text_b54 F_offset_b54 ) hZ (hw _ (List.mem_of_getElem? (i := 70) rfl)) (hw _ (List.mem_of_getElem? (i := 67) rfl)) (by decide) (by decide)) (g := (mkF m 162 #[.val (.int p1), .val (.int p2), .val (.int p3), .val (.ref b1), .val (.int ((p1 &&& (2147483647 : Int32)) % (15 : Int32))), .val (.ref b47), .val (.ref b52), .unset, .unset] [(.int p3), (.ref b52), (.ref (own_pick ((p1 &&& (2147483647 : Int32)) % (15 : Int32)) w_IRI w_PNAME_NS w_PNAME_LN w_BLANK_NODE_LABEL w_VAR w_STRING w_LANGTAG w_INTEGER w_DECIMAL w_DOUBLE w_NIL w_ANON w_WORD w_PUNCT w_EOF)), (.ref b54), (.ref b54)])) rfl (by rw [hml]; rfl) (Steps.refl _) (a := b54) (argsL := [(.ref (own_pick ((p1 &&& (2147483647 : Int32)) % (15 : Int32)) w_IRI w_PNAME_NS w_PNAME_LN w_BLANK_NODE_LABEL w_VAR w_STRING w_LANGTAG w_INTEGER w_DECIMAL w_DOUBLE w_NIL w_ANON w_WORD w_PUNCT w_EOF)), (.ref b52), (.int p3)]) (rest := [(.ref b54)]) (lenOf pd6 rfl) rfl (by show 2 * 0 + _ ≤ _; exact Nat.le_of_eq rfl) (hb hby at_162) (fun _ _ => ⟨rfl, e54, (by decide : 5 + 0 ≤ _), (by decide : 26 + 0 ≤ _)⟩)
  dsimp only [Pt.U, Pt.locs, Pt.cells, Pt.slots] at X56 l56 y56 z56 st56 hQ56
  subst l56 y56 z56
  obtain ⟨rfl, N56q, K56, f56_0, f56_1, f56_2, f56_3⟩ := hQ56
  have N56 := Fr.app N53 N56q
  have KK56 : Keep h0 T56.heap [] := K54.trans K56 (allS (Or.inr sz_b54) all0)
  have pre57 : ∀ t, Steps p.tables e below (T56.setTop (mkF m 171 #[.val (.int p1), .val (.int p2), .val (.int p3), .val (.ref b1), .val (.int ((p1 &&& (2147483647 : Int32)) % (15 : Int32))), .val (.ref b47), .val (.ref b52), .val (.ref b54), .unset] [(.int (7 : Int32)), (.int ((p1 &&& (2147483647 : Int32)) % (15 : Int32)))])) t → Steps p.tables e below (s₁.setTop (entryFrame m #[(.int p1), (.int p2), (.int p3)] maxLocals)) t := by
    intro t kt
    refine pre0 _ ?_
    show Steps p.tables e below (s₁.setTop (mkF m 0 #[.val (.int p1), .val (.int p2), .val (.int p3), .unset, .unset, .unset, .unset, .unset, .unset] [])) _
    refine XS.bipush X0.here hx rfl (hb hby at_0) ?_
    show Steps p.tables e below (s₁.setTop (mkF m 2 #[.val (.int p1), .val (.int p2), .val (.int p3), .unset, .unset, .unset, .unset, .unset, .unset] [(.int (15 : Int32))])) _
    refine st1 _ ?_
    show Steps p.tables e below (T1.setTop (mkF m 5 #[.val (.int p1), .val (.int p2), .val (.int p3), .unset, .unset, .unset, .unset, .unset, .unset] [(.ref b1)])) _
    refine XS.dup X1.here hx rfl (hb hby at_5) rfl rfl ?_
    show Steps p.tables e below (T1.setTop (mkF m 6 #[.val (.int p1), .val (.int p2), .val (.int p3), .unset, .unset, .unset, .unset, .unset, .unset] [(.ref b1), (.ref b1)])) _
    refine XS.iconst X1.here hx rfl (hb hby at_6) ?_
    show Steps p.tables e below (T1.setTop (mkF m 7 #[.val (.int p1), .val (.int p2), .val (.int p3), .unset, .unset, .unset, .unset, .unset, .unset] [(.int (0 : Int32)), (.ref b1), (.ref b1)])) _
    refine st2 _ ?_
    show Steps p.tables e below (T2.setTop (mkF m 10 #[.val (.int p1), .val (.int p2), .val (.int p3), .unset, .unset, .unset, .unset, .unset, .unset] [(.ref w_IRI), (.int (0 : Int32)), (.ref b1), (.ref b1)])) _
    refine st4 _ ?_
    show Steps p.tables e below (T4.setTop (mkF m 11 #[.val (.int p1), .val (.int p2), .val (.int p3), .unset, .unset, .unset, .unset, .unset, .unset] [(.ref b1)])) _
    refine XS.dup X4.here hx rfl (hb hby at_11) rfl rfl ?_
    show Steps p.tables e below (T4.setTop (mkF m 12 #[.val (.int p1), .val (.int p2), .val (.int p3), .unset, .unset, .unset, .unset, .unset, .unset] [(.ref b1), (.ref b1)])) _
    refine XS.iconst X4.here hx rfl (hb hby at_12) ?_
    show Steps p.tables e below (T4.setTop (mkF m 13 #[.val (.int p1), .val (.int p2), .val (.int p3), .unset, .unset, .unset, .unset, .unset, .unset] [(.int (1 : Int32)), (.ref b1), (.ref b1)])) _
    refine st5 _ ?_
    show Steps p.tables e below (T5.setTop (mkF m 16 #[.val (.int p1), .val (.int p2), .val (.int p3), .unset, .unset, .unset, .unset, .unset, .unset] [(.ref w_PNAME_NS), (.int (1 : Int32)), (.ref b1), (.ref b1)])) _
    refine st7 _ ?_
    show Steps p.tables e below (T7.setTop (mkF m 17 #[.val (.int p1), .val (.int p2), .val (.int p3), .unset, .unset, .unset, .unset, .unset, .unset] [(.ref b1)])) _
    refine XS.dup X7.here hx rfl (hb hby at_17) rfl rfl ?_
    show Steps p.tables e below (T7.setTop (mkF m 18 #[.val (.int p1), .val (.int p2), .val (.int p3), .unset, .unset, .unset, .unset, .unset, .unset] [(.ref b1), (.ref b1)])) _
    refine XS.iconst X7.here hx rfl (hb hby at_18) ?_
    show Steps p.tables e below (T7.setTop (mkF m 19 #[.val (.int p1), .val (.int p2), .val (.int p3), .unset, .unset, .unset, .unset, .unset, .unset] [(.int (2 : Int32)), (.ref b1), (.ref b1)])) _
    refine st8 _ ?_
    show Steps p.tables e below (T8.setTop (mkF m 22 #[.val (.int p1), .val (.int p2), .val (.int p3), .unset, .unset, .unset, .unset, .unset, .unset] [(.ref w_PNAME_LN), (.int (2 : Int32)), (.ref b1), (.ref b1)])) _
    refine st10 _ ?_
    show Steps p.tables e below (T10.setTop (mkF m 23 #[.val (.int p1), .val (.int p2), .val (.int p3), .unset, .unset, .unset, .unset, .unset, .unset] [(.ref b1)])) _
    refine XS.dup X10.here hx rfl (hb hby at_23) rfl rfl ?_
    show Steps p.tables e below (T10.setTop (mkF m 24 #[.val (.int p1), .val (.int p2), .val (.int p3), .unset, .unset, .unset, .unset, .unset, .unset] [(.ref b1), (.ref b1)])) _
    refine XS.iconst X10.here hx rfl (hb hby at_24) ?_
    show Steps p.tables e below (T10.setTop (mkF m 25 #[.val (.int p1), .val (.int p2), .val (.int p3), .unset, .unset, .unset, .unset, .unset, .unset] [(.int (3 : Int32)), (.ref b1), (.ref b1)])) _
    refine st11 _ ?_
    show Steps p.tables e below (T11.setTop (mkF m 28 #[.val (.int p1), .val (.int p2), .val (.int p3), .unset, .unset, .unset, .unset, .unset, .unset] [(.ref w_BLANK_NODE_LABEL), (.int (3 : Int32)), (.ref b1), (.ref b1)])) _
    refine st13 _ ?_
    show Steps p.tables e below (T13.setTop (mkF m 29 #[.val (.int p1), .val (.int p2), .val (.int p3), .unset, .unset, .unset, .unset, .unset, .unset] [(.ref b1)])) _
    refine XS.dup X13.here hx rfl (hb hby at_29) rfl rfl ?_
    show Steps p.tables e below (T13.setTop (mkF m 30 #[.val (.int p1), .val (.int p2), .val (.int p3), .unset, .unset, .unset, .unset, .unset, .unset] [(.ref b1), (.ref b1)])) _
    refine XS.iconst X13.here hx rfl (hb hby at_30) ?_
    show Steps p.tables e below (T13.setTop (mkF m 31 #[.val (.int p1), .val (.int p2), .val (.int p3), .unset, .unset, .unset, .unset, .unset, .unset] [(.int (4 : Int32)), (.ref b1), (.ref b1)])) _
    refine st14 _ ?_
    show Steps p.tables e below (T14.setTop (mkF m 34 #[.val (.int p1), .val (.int p2), .val (.int p3), .unset, .unset, .unset, .unset, .unset, .unset] [(.ref w_VAR), (.int (4 : Int32)), (.ref b1), (.ref b1)])) _
    refine st16 _ ?_
    show Steps p.tables e below (T16.setTop (mkF m 35 #[.val (.int p1), .val (.int p2), .val (.int p3), .unset, .unset, .unset, .unset, .unset, .unset] [(.ref b1)])) _
    refine XS.dup X16.here hx rfl (hb hby at_35) rfl rfl ?_
    show Steps p.tables e below (T16.setTop (mkF m 36 #[.val (.int p1), .val (.int p2), .val (.int p3), .unset, .unset, .unset, .unset, .unset, .unset] [(.ref b1), (.ref b1)])) _
    refine XS.iconst X16.here hx rfl (hb hby at_36) ?_
    show Steps p.tables e below (T16.setTop (mkF m 37 #[.val (.int p1), .val (.int p2), .val (.int p3), .unset, .unset, .unset, .unset, .unset, .unset] [(.int (5 : Int32)), (.ref b1), (.ref b1)])) _
    refine st17 _ ?_
    show Steps p.tables e below (T17.setTop (mkF m 40 #[.val (.int p1), .val (.int p2), .val (.int p3), .unset, .unset, .unset, .unset, .unset, .unset] [(.ref w_STRING), (.int (5 : Int32)), (.ref b1), (.ref b1)])) _
    refine st19 _ ?_
    show Steps p.tables e below (T19.setTop (mkF m 41 #[.val (.int p1), .val (.int p2), .val (.int p3), .unset, .unset, .unset, .unset, .unset, .unset] [(.ref b1)])) _
    refine XS.dup X19.here hx rfl (hb hby at_41) rfl rfl ?_
    show Steps p.tables e below (T19.setTop (mkF m 42 #[.val (.int p1), .val (.int p2), .val (.int p3), .unset, .unset, .unset, .unset, .unset, .unset] [(.ref b1), (.ref b1)])) _
    refine XS.bipush X19.here hx rfl (hb hby at_42) ?_
    show Steps p.tables e below (T19.setTop (mkF m 44 #[.val (.int p1), .val (.int p2), .val (.int p3), .unset, .unset, .unset, .unset, .unset, .unset] [(.int (6 : Int32)), (.ref b1), (.ref b1)])) _
    refine st20 _ ?_
    show Steps p.tables e below (T20.setTop (mkF m 47 #[.val (.int p1), .val (.int p2), .val (.int p3), .unset, .unset, .unset, .unset, .unset, .unset] [(.ref w_LANGTAG), (.int (6 : Int32)), (.ref b1), (.ref b1)])) _
    refine st22 _ ?_
    show Steps p.tables e below (T22.setTop (mkF m 48 #[.val (.int p1), .val (.int p2), .val (.int p3), .unset, .unset, .unset, .unset, .unset, .unset] [(.ref b1)])) _
    refine XS.dup X22.here hx rfl (hb hby at_48) rfl rfl ?_
    show Steps p.tables e below (T22.setTop (mkF m 49 #[.val (.int p1), .val (.int p2), .val (.int p3), .unset, .unset, .unset, .unset, .unset, .unset] [(.ref b1), (.ref b1)])) _
    refine XS.bipush X22.here hx rfl (hb hby at_49) ?_
    show Steps p.tables e below (T22.setTop (mkF m 51 #[.val (.int p1), .val (.int p2), .val (.int p3), .unset, .unset, .unset, .unset, .unset, .unset] [(.int (7 : Int32)), (.ref b1), (.ref b1)])) _
    refine st23 _ ?_
    show Steps p.tables e below (T23.setTop (mkF m 54 #[.val (.int p1), .val (.int p2), .val (.int p3), .unset, .unset, .unset, .unset, .unset, .unset] [(.ref w_INTEGER), (.int (7 : Int32)), (.ref b1), (.ref b1)])) _
    refine st25 _ ?_
    show Steps p.tables e below (T25.setTop (mkF m 55 #[.val (.int p1), .val (.int p2), .val (.int p3), .unset, .unset, .unset, .unset, .unset, .unset] [(.ref b1)])) _
    refine XS.dup X25.here hx rfl (hb hby at_55) rfl rfl ?_
    show Steps p.tables e below (T25.setTop (mkF m 56 #[.val (.int p1), .val (.int p2), .val (.int p3), .unset, .unset, .unset, .unset, .unset, .unset] [(.ref b1), (.ref b1)])) _
    refine XS.bipush X25.here hx rfl (hb hby at_56) ?_
    show Steps p.tables e below (T25.setTop (mkF m 58 #[.val (.int p1), .val (.int p2), .val (.int p3), .unset, .unset, .unset, .unset, .unset, .unset] [(.int (8 : Int32)), (.ref b1), (.ref b1)])) _
    refine st26 _ ?_
    show Steps p.tables e below (T26.setTop (mkF m 61 #[.val (.int p1), .val (.int p2), .val (.int p3), .unset, .unset, .unset, .unset, .unset, .unset] [(.ref w_DECIMAL), (.int (8 : Int32)), (.ref b1), (.ref b1)])) _
    refine st28 _ ?_
    show Steps p.tables e below (T28.setTop (mkF m 62 #[.val (.int p1), .val (.int p2), .val (.int p3), .unset, .unset, .unset, .unset, .unset, .unset] [(.ref b1)])) _
    refine XS.dup X28.here hx rfl (hb hby at_62) rfl rfl ?_
    show Steps p.tables e below (T28.setTop (mkF m 63 #[.val (.int p1), .val (.int p2), .val (.int p3), .unset, .unset, .unset, .unset, .unset, .unset] [(.ref b1), (.ref b1)])) _
    refine XS.bipush X28.here hx rfl (hb hby at_63) ?_
    show Steps p.tables e below (T28.setTop (mkF m 65 #[.val (.int p1), .val (.int p2), .val (.int p3), .unset, .unset, .unset, .unset, .unset, .unset] [(.int (9 : Int32)), (.ref b1), (.ref b1)])) _
    refine st29 _ ?_
    show Steps p.tables e below (T29.setTop (mkF m 68 #[.val (.int p1), .val (.int p2), .val (.int p3), .unset, .unset, .unset, .unset, .unset, .unset] [(.ref w_DOUBLE), (.int (9 : Int32)), (.ref b1), (.ref b1)])) _
    refine st31 _ ?_
    show Steps p.tables e below (T31.setTop (mkF m 69 #[.val (.int p1), .val (.int p2), .val (.int p3), .unset, .unset, .unset, .unset, .unset, .unset] [(.ref b1)])) _
    refine XS.dup X31.here hx rfl (hb hby at_69) rfl rfl ?_
    show Steps p.tables e below (T31.setTop (mkF m 70 #[.val (.int p1), .val (.int p2), .val (.int p3), .unset, .unset, .unset, .unset, .unset, .unset] [(.ref b1), (.ref b1)])) _
    refine XS.bipush X31.here hx rfl (hb hby at_70) ?_
    show Steps p.tables e below (T31.setTop (mkF m 72 #[.val (.int p1), .val (.int p2), .val (.int p3), .unset, .unset, .unset, .unset, .unset, .unset] [(.int (10 : Int32)), (.ref b1), (.ref b1)])) _
    refine st32 _ ?_
    show Steps p.tables e below (T32.setTop (mkF m 75 #[.val (.int p1), .val (.int p2), .val (.int p3), .unset, .unset, .unset, .unset, .unset, .unset] [(.ref w_NIL), (.int (10 : Int32)), (.ref b1), (.ref b1)])) _
    refine st34 _ ?_
    show Steps p.tables e below (T34.setTop (mkF m 76 #[.val (.int p1), .val (.int p2), .val (.int p3), .unset, .unset, .unset, .unset, .unset, .unset] [(.ref b1)])) _
    refine XS.dup X34.here hx rfl (hb hby at_76) rfl rfl ?_
    show Steps p.tables e below (T34.setTop (mkF m 77 #[.val (.int p1), .val (.int p2), .val (.int p3), .unset, .unset, .unset, .unset, .unset, .unset] [(.ref b1), (.ref b1)])) _
    refine XS.bipush X34.here hx rfl (hb hby at_77) ?_
    show Steps p.tables e below (T34.setTop (mkF m 79 #[.val (.int p1), .val (.int p2), .val (.int p3), .unset, .unset, .unset, .unset, .unset, .unset] [(.int (11 : Int32)), (.ref b1), (.ref b1)])) _
    refine st35 _ ?_
    show Steps p.tables e below (T35.setTop (mkF m 82 #[.val (.int p1), .val (.int p2), .val (.int p3), .unset, .unset, .unset, .unset, .unset, .unset] [(.ref w_ANON), (.int (11 : Int32)), (.ref b1), (.ref b1)])) _
    refine st37 _ ?_
    show Steps p.tables e below (T37.setTop (mkF m 83 #[.val (.int p1), .val (.int p2), .val (.int p3), .unset, .unset, .unset, .unset, .unset, .unset] [(.ref b1)])) _
    refine XS.dup X37.here hx rfl (hb hby at_83) rfl rfl ?_
    show Steps p.tables e below (T37.setTop (mkF m 84 #[.val (.int p1), .val (.int p2), .val (.int p3), .unset, .unset, .unset, .unset, .unset, .unset] [(.ref b1), (.ref b1)])) _
    refine XS.bipush X37.here hx rfl (hb hby at_84) ?_
    show Steps p.tables e below (T37.setTop (mkF m 86 #[.val (.int p1), .val (.int p2), .val (.int p3), .unset, .unset, .unset, .unset, .unset, .unset] [(.int (12 : Int32)), (.ref b1), (.ref b1)])) _
    refine st38 _ ?_
    show Steps p.tables e below (T38.setTop (mkF m 89 #[.val (.int p1), .val (.int p2), .val (.int p3), .unset, .unset, .unset, .unset, .unset, .unset] [(.ref w_WORD), (.int (12 : Int32)), (.ref b1), (.ref b1)])) _
    refine st40 _ ?_
    show Steps p.tables e below (T40.setTop (mkF m 90 #[.val (.int p1), .val (.int p2), .val (.int p3), .unset, .unset, .unset, .unset, .unset, .unset] [(.ref b1)])) _
    refine XS.dup X40.here hx rfl (hb hby at_90) rfl rfl ?_
    show Steps p.tables e below (T40.setTop (mkF m 91 #[.val (.int p1), .val (.int p2), .val (.int p3), .unset, .unset, .unset, .unset, .unset, .unset] [(.ref b1), (.ref b1)])) _
    refine XS.bipush X40.here hx rfl (hb hby at_91) ?_
    show Steps p.tables e below (T40.setTop (mkF m 93 #[.val (.int p1), .val (.int p2), .val (.int p3), .unset, .unset, .unset, .unset, .unset, .unset] [(.int (13 : Int32)), (.ref b1), (.ref b1)])) _
    refine st41 _ ?_
    show Steps p.tables e below (T41.setTop (mkF m 96 #[.val (.int p1), .val (.int p2), .val (.int p3), .unset, .unset, .unset, .unset, .unset, .unset] [(.ref w_PUNCT), (.int (13 : Int32)), (.ref b1), (.ref b1)])) _
    refine st43 _ ?_
    show Steps p.tables e below (T43.setTop (mkF m 97 #[.val (.int p1), .val (.int p2), .val (.int p3), .unset, .unset, .unset, .unset, .unset, .unset] [(.ref b1)])) _
    refine XS.dup X43.here hx rfl (hb hby at_97) rfl rfl ?_
    show Steps p.tables e below (T43.setTop (mkF m 98 #[.val (.int p1), .val (.int p2), .val (.int p3), .unset, .unset, .unset, .unset, .unset, .unset] [(.ref b1), (.ref b1)])) _
    refine XS.bipush X43.here hx rfl (hb hby at_98) ?_
    show Steps p.tables e below (T43.setTop (mkF m 100 #[.val (.int p1), .val (.int p2), .val (.int p3), .unset, .unset, .unset, .unset, .unset, .unset] [(.int (14 : Int32)), (.ref b1), (.ref b1)])) _
    refine st44 _ ?_
    show Steps p.tables e below (T44.setTop (mkF m 103 #[.val (.int p1), .val (.int p2), .val (.int p3), .unset, .unset, .unset, .unset, .unset, .unset] [(.ref w_EOF), (.int (14 : Int32)), (.ref b1), (.ref b1)])) _
    refine st46 _ ?_
    show Steps p.tables e below (T46.setTop (mkF m 104 #[.val (.int p1), .val (.int p2), .val (.int p3), .unset, .unset, .unset, .unset, .unset, .unset] [(.ref b1)])) _
    refine XS.astoreN X46.here hx rfl (hb hby at_104) rfl rfl (l' := #[.val (.int p1), .val (.int p2), .val (.int p3), .val (.ref b1), .unset, .unset, .unset, .unset, .unset]) rfl ?_
    show Steps p.tables e below (T46.setTop (mkF m 105 #[.val (.int p1), .val (.int p2), .val (.int p3), .val (.ref b1), .unset, .unset, .unset, .unset, .unset] [])) _
    refine XS.iloadN X46.here hx rfl (hb hby at_105) rfl ?_
    show Steps p.tables e below (T46.setTop (mkF m 106 #[.val (.int p1), .val (.int p2), .val (.int p3), .val (.ref b1), .unset, .unset, .unset, .unset, .unset] [(.int p1)])) _
    refine X46.ldcInt hx hown (mvT hZ (hw _ (List.mem_of_getElem? (i := 34) rfl))) (g := (mkF m 106 #[.val (.int p1), .val (.int p2), .val (.int p3), .val (.ref b1), .unset, .unset, .unset, .unset, .unset] [(.int p1)])) rfl (hb hby at_106) _ ?_
    show Steps p.tables e below (T46.setTop (mkF m 108 #[.val (.int p1), .val (.int p2), .val (.int p3), .val (.ref b1), .unset, .unset, .unset, .unset, .unset] [(.int (2147483647 : Int32)), (.int p1)])) _
    refine XS.iand X46.here hx rfl (hb hby at_108) rfl ?_
    show Steps p.tables e below (T46.setTop (mkF m 109 #[.val (.int p1), .val (.int p2), .val (.int p3), .val (.ref b1), .unset, .unset, .unset, .unset, .unset] [(.int (p1 &&& (2147483647 : Int32)))])) _
    refine XS.bipush X46.here hx rfl (hb hby at_109) ?_
    show Steps p.tables e below (T46.setTop (mkF m 111 #[.val (.int p1), .val (.int p2), .val (.int p3), .val (.ref b1), .unset, .unset, .unset, .unset, .unset] [(.int (15 : Int32)), (.int (p1 &&& (2147483647 : Int32)))])) _
    refine iremM (g := (mkF m 111 #[.val (.int p1), .val (.int p2), .val (.int p3), .val (.ref b1), .unset, .unset, .unset, .unset, .unset] [(.int (15 : Int32)), (.int (p1 &&& (2147483647 : Int32)))])) X46 hx rfl (hb hby at_111) rfl (by decide) ?_
    show Steps p.tables e below (T46.setTop (mkF m 112 #[.val (.int p1), .val (.int p2), .val (.int p3), .val (.ref b1), .unset, .unset, .unset, .unset, .unset] [(.int ((p1 &&& (2147483647 : Int32)) % (15 : Int32)))])) _
    refine XS.istore X46.here hx rfl (hb hby at_112) rfl (l' := #[.val (.int p1), .val (.int p2), .val (.int p3), .val (.ref b1), .val (.int ((p1 &&& (2147483647 : Int32)) % (15 : Int32))), .unset, .unset, .unset, .unset]) rfl ?_
    show Steps p.tables e below (T46.setTop (mkF m 114 #[.val (.int p1), .val (.int p2), .val (.int p3), .val (.ref b1), .val (.int ((p1 &&& (2147483647 : Int32)) % (15 : Int32))), .unset, .unset, .unset, .unset] [])) _
    refine XS.iconst X46.here hx rfl (hb hby at_114) ?_
    show Steps p.tables e below (T46.setTop (mkF m 115 #[.val (.int p1), .val (.int p2), .val (.int p3), .val (.ref b1), .val (.int ((p1 &&& (2147483647 : Int32)) % (15 : Int32))), .unset, .unset, .unset, .unset] [(.int (2 : Int32))])) _
    refine st47 _ ?_
    show Steps p.tables e below (T47.setTop (mkF m 117 #[.val (.int p1), .val (.int p2), .val (.int p3), .val (.ref b1), .val (.int ((p1 &&& (2147483647 : Int32)) % (15 : Int32))), .unset, .unset, .unset, .unset] [(.ref b47)])) _
    refine XS.dup X47.here hx rfl (hb hby at_117) rfl rfl ?_
    show Steps p.tables e below (T47.setTop (mkF m 118 #[.val (.int p1), .val (.int p2), .val (.int p3), .val (.ref b1), .val (.int ((p1 &&& (2147483647 : Int32)) % (15 : Int32))), .unset, .unset, .unset, .unset] [(.ref b47), (.ref b47)])) _
    refine XS.iconst X47.here hx rfl (hb hby at_118) ?_
    show Steps p.tables e below (T47.setTop (mkF m 119 #[.val (.int p1), .val (.int p2), .val (.int p3), .val (.ref b1), .val (.int ((p1 &&& (2147483647 : Int32)) % (15 : Int32))), .unset, .unset, .unset, .unset] [(.int (0 : Int32)), (.ref b47), (.ref b47)])) _
    refine XS.iloadN X47.here hx rfl (hb hby at_119) rfl ?_
    show Steps p.tables e below (T47.setTop (mkF m 120 #[.val (.int p1), .val (.int p2), .val (.int p3), .val (.ref b1), .val (.int ((p1 &&& (2147483647 : Int32)) % (15 : Int32))), .unset, .unset, .unset, .unset] [(.int p2), (.int (0 : Int32)), (.ref b47), (.ref b47)])) _
    refine XS.sipush X47.here hx rfl (hb hby at_120) ?_
    show Steps p.tables e below (T47.setTop (mkF m 123 #[.val (.int p1), .val (.int p2), .val (.int p3), .val (.ref b1), .val (.int ((p1 &&& (2147483647 : Int32)) % (15 : Int32))), .unset, .unset, .unset, .unset] [(.int (255 : Int32)), (.int p2), (.int (0 : Int32)), (.ref b47), (.ref b47)])) _
    refine XS.iand X47.here hx rfl (hb hby at_123) rfl ?_
    show Steps p.tables e below (T47.setTop (mkF m 124 #[.val (.int p1), .val (.int p2), .val (.int p3), .val (.ref b1), .val (.int ((p1 &&& (2147483647 : Int32)) % (15 : Int32))), .unset, .unset, .unset, .unset] [(.int (p2 &&& (255 : Int32))), (.int (0 : Int32)), (.ref b47), (.ref b47)])) _
    refine XS.i2c X47.here hx rfl (hb hby at_124) rfl ?_
    show Steps p.tables e below (T47.setTop (mkF m 125 #[.val (.int p1), .val (.int p2), .val (.int p3), .val (.ref b1), .val (.int ((p1 &&& (2147483647 : Int32)) % (15 : Int32))), .unset, .unset, .unset, .unset] [(.int ((p2 &&& (255 : Int32)).toUInt32.toUInt16.toUInt32.toInt32)), (.int (0 : Int32)), (.ref b47), (.ref b47)])) _
    refine st49 _ ?_
    show Steps p.tables e below (T49.setTop (mkF m 126 #[.val (.int p1), .val (.int p2), .val (.int p3), .val (.ref b1), .val (.int ((p1 &&& (2147483647 : Int32)) % (15 : Int32))), .unset, .unset, .unset, .unset] [(.ref b47)])) _
    refine XS.dup X49.here hx rfl (hb hby at_126) rfl rfl ?_
    show Steps p.tables e below (T49.setTop (mkF m 127 #[.val (.int p1), .val (.int p2), .val (.int p3), .val (.ref b1), .val (.int ((p1 &&& (2147483647 : Int32)) % (15 : Int32))), .unset, .unset, .unset, .unset] [(.ref b47), (.ref b47)])) _
    refine XS.iconst X49.here hx rfl (hb hby at_127) ?_
    show Steps p.tables e below (T49.setTop (mkF m 128 #[.val (.int p1), .val (.int p2), .val (.int p3), .val (.ref b1), .val (.int ((p1 &&& (2147483647 : Int32)) % (15 : Int32))), .unset, .unset, .unset, .unset] [(.int (1 : Int32)), (.ref b47), (.ref b47)])) _
    refine XS.iloadN X49.here hx rfl (hb hby at_128) rfl ?_
    show Steps p.tables e below (T49.setTop (mkF m 129 #[.val (.int p1), .val (.int p2), .val (.int p3), .val (.ref b1), .val (.int ((p1 &&& (2147483647 : Int32)) % (15 : Int32))), .unset, .unset, .unset, .unset] [(.int p2), (.int (1 : Int32)), (.ref b47), (.ref b47)])) _
    refine XS.bipush X49.here hx rfl (hb hby at_129) ?_
    show Steps p.tables e below (T49.setTop (mkF m 131 #[.val (.int p1), .val (.int p2), .val (.int p3), .val (.ref b1), .val (.int ((p1 &&& (2147483647 : Int32)) % (15 : Int32))), .unset, .unset, .unset, .unset] [(.int (8 : Int32)), (.int p2), (.int (1 : Int32)), (.ref b47), (.ref b47)])) _
    refine XS.iushr X49.here hx rfl (hb hby at_131) rfl ?_
    show Steps p.tables e below (T49.setTop (mkF m 132 #[.val (.int p1), .val (.int p2), .val (.int p3), .val (.ref b1), .val (.int ((p1 &&& (2147483647 : Int32)) % (15 : Int32))), .unset, .unset, .unset, .unset] [(.int ((p2.toUInt32 >>> ((8 : Int32) &&& 31).toUInt32).toInt32)), (.int (1 : Int32)), (.ref b47), (.ref b47)])) _
    refine XS.sipush X49.here hx rfl (hb hby at_132) ?_
    show Steps p.tables e below (T49.setTop (mkF m 135 #[.val (.int p1), .val (.int p2), .val (.int p3), .val (.ref b1), .val (.int ((p1 &&& (2147483647 : Int32)) % (15 : Int32))), .unset, .unset, .unset, .unset] [(.int (255 : Int32)), (.int ((p2.toUInt32 >>> ((8 : Int32) &&& 31).toUInt32).toInt32)), (.int (1 : Int32)), (.ref b47), (.ref b47)])) _
    refine XS.iand X49.here hx rfl (hb hby at_135) rfl ?_
    show Steps p.tables e below (T49.setTop (mkF m 136 #[.val (.int p1), .val (.int p2), .val (.int p3), .val (.ref b1), .val (.int ((p1 &&& (2147483647 : Int32)) % (15 : Int32))), .unset, .unset, .unset, .unset] [(.int (((p2.toUInt32 >>> ((8 : Int32) &&& 31).toUInt32).toInt32) &&& (255 : Int32))), (.int (1 : Int32)), (.ref b47), (.ref b47)])) _
    refine XS.i2c X49.here hx rfl (hb hby at_136) rfl ?_
    show Steps p.tables e below (T49.setTop (mkF m 137 #[.val (.int p1), .val (.int p2), .val (.int p3), .val (.ref b1), .val (.int ((p1 &&& (2147483647 : Int32)) % (15 : Int32))), .unset, .unset, .unset, .unset] [(.int ((((p2.toUInt32 >>> ((8 : Int32) &&& 31).toUInt32).toInt32) &&& (255 : Int32)).toUInt32.toUInt16.toUInt32.toInt32)), (.int (1 : Int32)), (.ref b47), (.ref b47)])) _
    refine st51 _ ?_
    show Steps p.tables e below (T51.setTop (mkF m 138 #[.val (.int p1), .val (.int p2), .val (.int p3), .val (.ref b1), .val (.int ((p1 &&& (2147483647 : Int32)) % (15 : Int32))), .unset, .unset, .unset, .unset] [(.ref b47)])) _
    refine XS.astore X51.here hx rfl (hb hby at_138) rfl rfl (l' := #[.val (.int p1), .val (.int p2), .val (.int p3), .val (.ref b1), .val (.int ((p1 &&& (2147483647 : Int32)) % (15 : Int32))), .val (.ref b47), .unset, .unset, .unset]) rfl ?_
    show Steps p.tables e below (T51.setTop (mkF m 140 #[.val (.int p1), .val (.int p2), .val (.int p3), .val (.ref b1), .val (.int ((p1 &&& (2147483647 : Int32)) % (15 : Int32))), .val (.ref b47), .unset, .unset, .unset] [])) _
    refine st52 _ ?_
    show Steps p.tables e below (T52.setTop (mkF m 143 #[.val (.int p1), .val (.int p2), .val (.int p3), .val (.ref b1), .val (.int ((p1 &&& (2147483647 : Int32)) % (15 : Int32))), .val (.ref b47), .unset, .unset, .unset] [(.ref b52)])) _
    refine XS.dup X52.here hx rfl (hb hby at_143) rfl rfl ?_
    show Steps p.tables e below (T52.setTop (mkF m 144 #[.val (.int p1), .val (.int p2), .val (.int p3), .val (.ref b1), .val (.int ((p1 &&& (2147483647 : Int32)) % (15 : Int32))), .val (.ref b47), .unset, .unset, .unset] [(.ref b52), (.ref b52)])) _
    refine XS.aload X52.here hx rfl (hb hby at_144) rfl rfl ?_
    show Steps p.tables e below (T52.setTop (mkF m 146 #[.val (.int p1), .val (.int p2), .val (.int p3), .val (.ref b1), .val (.int ((p1 &&& (2147483647 : Int32)) % (15 : Int32))), .val (.ref b47), .unset, .unset, .unset] [(.ref b47), (.ref b52), (.ref b52)])) _
    refine st53.trans ?_
    show Steps p.tables e below (T53.setTop (mkF m 149 #[.val (.int p1), .val (.int p2), .val (.int p3), .val (.ref b1), .val (.int ((p1 &&& (2147483647 : Int32)) % (15 : Int32))), .val (.ref b47), .unset, .unset, .unset] [(.ref b52)])) _
    refine XS.astore X53.here hx rfl (hb hby at_149) rfl rfl (l' := #[.val (.int p1), .val (.int p2), .val (.int p3), .val (.ref b1), .val (.int ((p1 &&& (2147483647 : Int32)) % (15 : Int32))), .val (.ref b47), .val (.ref b52), .unset, .unset]) rfl ?_
    show Steps p.tables e below (T53.setTop (mkF m 151 #[.val (.int p1), .val (.int p2), .val (.int p3), .val (.ref b1), .val (.int ((p1 &&& (2147483647 : Int32)) % (15 : Int32))), .val (.ref b47), .val (.ref b52), .unset, .unset] [])) _
    refine st54 _ ?_
    show Steps p.tables e below (T54.setTop (mkF m 154 #[.val (.int p1), .val (.int p2), .val (.int p3), .val (.ref b1), .val (.int ((p1 &&& (2147483647 : Int32)) % (15 : Int32))), .val (.ref b47), .val (.ref b52), .unset, .unset] [(.ref b54)])) _
    refine XS.dup X54.here hx rfl (hb hby at_154) rfl rfl ?_
    show Steps p.tables e below (T54.setTop (mkF m 155 #[.val (.int p1), .val (.int p2), .val (.int p3), .val (.ref b1), .val (.int ((p1 &&& (2147483647 : Int32)) % (15 : Int32))), .val (.ref b47), .val (.ref b52), .unset, .unset] [(.ref b54), (.ref b54)])) _
    refine XS.aloadN X54.here hx rfl (hb hby at_155) rfl rfl ?_
    show Steps p.tables e below (T54.setTop (mkF m 156 #[.val (.int p1), .val (.int p2), .val (.int p3), .val (.ref b1), .val (.int ((p1 &&& (2147483647 : Int32)) % (15 : Int32))), .val (.ref b47), .val (.ref b52), .unset, .unset] [(.ref b1), (.ref b54), (.ref b54)])) _
    refine XS.iload X54.here hx rfl (hb hby at_156) rfl ?_
    show Steps p.tables e below (T54.setTop (mkF m 158 #[.val (.int p1), .val (.int p2), .val (.int p3), .val (.ref b1), .val (.int ((p1 &&& (2147483647 : Int32)) % (15 : Int32))), .val (.ref b47), .val (.ref b52), .unset, .unset] [(.int ((p1 &&& (2147483647 : Int32)) % (15 : Int32))), (.ref b1), (.ref b54), (.ref b54)])) _
    refine X54.aaload hx (j := ((p1 &&& (2147483647 : Int32)) % (15 : Int32))) (v := (.ref (own_pick ((p1 &&& (2147483647 : Int32)) % (15 : Int32)) w_IRI w_PNAME_NS w_PNAME_LN w_BLANK_NODE_LABEL w_VAR w_STRING w_LANGTAG w_INTEGER w_DECIMAL w_DOUBLE w_NIL w_ANON w_WORD w_PUNCT w_EOF))) (by rw [e54]; exact Ar_b1_158_55.1) (State.isArrayOf_alike hZ.alike Ar_b1_158_55.2.1) rfl Ar_b1_158_55.2.2 hin_b1_158_55 (H_b1_158_55.at hin_b1_158_55 (own_at hrg.1 hrg.2 w_IRI w_PNAME_NS w_PNAME_LN w_BLANK_NODE_LABEL w_VAR w_STRING w_LANGTAG w_INTEGER w_DECIMAL w_DOUBLE w_NIL w_ANON w_WORD w_PUNCT w_EOF)) (g := (mkF m 158 #[.val (.int p1), .val (.int p2), .val (.int p3), .val (.ref b1), .val (.int ((p1 &&& (2147483647 : Int32)) % (15 : Int32))), .val (.ref b47), .val (.ref b52), .unset, .unset] [(.int ((p1 &&& (2147483647 : Int32)) % (15 : Int32))), (.ref b1), (.ref b54), (.ref b54)])) rfl rfl (hb hby at_158) _ ?_
    show Steps p.tables e below (T54.setTop (mkF m 159 #[.val (.int p1), .val (.int p2), .val (.int p3), .val (.ref b1), .val (.int ((p1 &&& (2147483647 : Int32)) % (15 : Int32))), .val (.ref b47), .val (.ref b52), .unset, .unset] [(.ref (own_pick ((p1 &&& (2147483647 : Int32)) % (15 : Int32)) w_IRI w_PNAME_NS w_PNAME_LN w_BLANK_NODE_LABEL w_VAR w_STRING w_LANGTAG w_INTEGER w_DECIMAL w_DOUBLE w_NIL w_ANON w_WORD w_PUNCT w_EOF)), (.ref b54), (.ref b54)])) _
    refine XS.aload X54.here hx rfl (hb hby at_159) rfl rfl ?_
    show Steps p.tables e below (T54.setTop (mkF m 161 #[.val (.int p1), .val (.int p2), .val (.int p3), .val (.ref b1), .val (.int ((p1 &&& (2147483647 : Int32)) % (15 : Int32))), .val (.ref b47), .val (.ref b52), .unset, .unset] [(.ref b52), (.ref (own_pick ((p1 &&& (2147483647 : Int32)) % (15 : Int32)) w_IRI w_PNAME_NS w_PNAME_LN w_BLANK_NODE_LABEL w_VAR w_STRING w_LANGTAG w_INTEGER w_DECIMAL w_DOUBLE w_NIL w_ANON w_WORD w_PUNCT w_EOF)), (.ref b54), (.ref b54)])) _
    refine XS.iloadN X54.here hx rfl (hb hby at_161) rfl ?_
    show Steps p.tables e below (T54.setTop (mkF m 162 #[.val (.int p1), .val (.int p2), .val (.int p3), .val (.ref b1), .val (.int ((p1 &&& (2147483647 : Int32)) % (15 : Int32))), .val (.ref b47), .val (.ref b52), .unset, .unset] [(.int p3), (.ref b52), (.ref (own_pick ((p1 &&& (2147483647 : Int32)) % (15 : Int32)) w_IRI w_PNAME_NS w_PNAME_LN w_BLANK_NODE_LABEL w_VAR w_STRING w_LANGTAG w_INTEGER w_DECIMAL w_DOUBLE w_NIL w_ANON w_WORD w_PUNCT w_EOF)), (.ref b54), (.ref b54)])) _
    refine st56.trans ?_
    show Steps p.tables e below (T56.setTop (mkF m 165 #[.val (.int p1), .val (.int p2), .val (.int p3), .val (.ref b1), .val (.int ((p1 &&& (2147483647 : Int32)) % (15 : Int32))), .val (.ref b47), .val (.ref b52), .unset, .unset] [(.ref b54)])) _
    refine XS.astore X56.here hx rfl (hb hby at_165) rfl rfl (l' := #[.val (.int p1), .val (.int p2), .val (.int p3), .val (.ref b1), .val (.int ((p1 &&& (2147483647 : Int32)) % (15 : Int32))), .val (.ref b47), .val (.ref b52), .val (.ref b54), .unset]) rfl ?_
    show Steps p.tables e below (T56.setTop (mkF m 167 #[.val (.int p1), .val (.int p2), .val (.int p3), .val (.ref b1), .val (.int ((p1 &&& (2147483647 : Int32)) % (15 : Int32))), .val (.ref b47), .val (.ref b52), .val (.ref b54), .unset] [])) _
    refine XS.iload X56.here hx rfl (hb hby at_167) rfl ?_
    show Steps p.tables e below (T56.setTop (mkF m 169 #[.val (.int p1), .val (.int p2), .val (.int p3), .val (.ref b1), .val (.int ((p1 &&& (2147483647 : Int32)) % (15 : Int32))), .val (.ref b47), .val (.ref b52), .val (.ref b54), .unset] [(.int ((p1 &&& (2147483647 : Int32)) % (15 : Int32)))])) _
    refine XS.bipush X56.here hx rfl (hb hby at_169) ?_
    exact kt
  have pre61 : ∀ t, Steps p.tables e below (T56.setTop (mkF m 186 #[.val (.int p1), .val (.int p2), .val (.int p3), .val (.ref b1), .val (.int ((p1 &&& (2147483647 : Int32)) % (15 : Int32))), .val (.ref b47), .val (.ref b52), .val (.ref b54), .unset] [(.int (mg0_171_s0 p1))])) t → Steps p.tables e below (s₁.setTop (entryFrame m #[(.int p1), (.int p2), (.int p3)] maxLocals)) t := by
    intro t kt
    by_cases hc171_58 : ((p1 &&& (2147483647 : Int32)) % (15 : Int32)) < (7 : Int32)
    · rw [show (mg0_171_s0 p1) = (0 : Int32) from by rw [mg0_171_s0, if_pos hc171_58]] at kt
      refine pre57 _ ?_
      show Steps p.tables e below (T56.setTop (mkF m 171 #[.val (.int p1), .val (.int p2), .val (.int p3), .val (.ref b1), .val (.int ((p1 &&& (2147483647 : Int32)) % (15 : Int32))), .val (.ref b47), .val (.ref b52), .val (.ref b54), .unset] [(.int (7 : Int32)), (.int ((p1 &&& (2147483647 : Int32)) % (15 : Int32)))])) _
      refine XS.icmpYes X56.here hx rfl (pc0 := 171) (pc' := 185) rfl (hb hby at_171) rfl (tlt hc171_58).1 (by decide) (by decide) ?_
      show Steps p.tables e below (T56.setTop (mkF m 185 #[.val (.int p1), .val (.int p2), .val (.int p3), .val (.ref b1), .val (.int ((p1 &&& (2147483647 : Int32)) % (15 : Int32))), .val (.ref b47), .val (.ref b52), .val (.ref b54), .unset] [])) _
      refine XS.iconst X56.here hx rfl (hb hby at_185) ?_
      exact kt
    · have pre59 : ∀ t, Steps p.tables e below (T56.setTop (mkF m 178 #[.val (.int p1), .val (.int p2), .val (.int p3), .val (.ref b1), .val (.int ((p1 &&& (2147483647 : Int32)) % (15 : Int32))), .val (.ref b47), .val (.ref b52), .val (.ref b54), .unset] [(.int (9 : Int32)), (.int ((p1 &&& (2147483647 : Int32)) % (15 : Int32)))])) t → Steps p.tables e below (s₁.setTop (entryFrame m #[(.int p1), (.int p2), (.int p3)] maxLocals)) t := by
        intro t kt
        refine pre57 _ ?_
        show Steps p.tables e below (T56.setTop (mkF m 171 #[.val (.int p1), .val (.int p2), .val (.int p3), .val (.ref b1), .val (.int ((p1 &&& (2147483647 : Int32)) % (15 : Int32))), .val (.ref b47), .val (.ref b52), .val (.ref b54), .unset] [(.int (7 : Int32)), (.int ((p1 &&& (2147483647 : Int32)) % (15 : Int32)))])) _
        refine XS.icmpNo X56.here hx rfl (hb hby at_171) rfl (flt hc171_58).1 ?_
        show Steps p.tables e below (T56.setTop (mkF m 174 #[.val (.int p1), .val (.int p2), .val (.int p3), .val (.ref b1), .val (.int ((p1 &&& (2147483647 : Int32)) % (15 : Int32))), .val (.ref b47), .val (.ref b52), .val (.ref b54), .unset] [])) _
        refine XS.iload X56.here hx rfl (hb hby at_174) rfl ?_
        show Steps p.tables e below (T56.setTop (mkF m 176 #[.val (.int p1), .val (.int p2), .val (.int p3), .val (.ref b1), .val (.int ((p1 &&& (2147483647 : Int32)) % (15 : Int32))), .val (.ref b47), .val (.ref b52), .val (.ref b54), .unset] [(.int ((p1 &&& (2147483647 : Int32)) % (15 : Int32)))])) _
        refine XS.bipush X56.here hx rfl (hb hby at_176) ?_
        exact kt
      by_cases hc178_60 : (9 : Int32) < ((p1 &&& (2147483647 : Int32)) % (15 : Int32))
      · rw [show (mg0_171_s0 p1) = (0 : Int32) from by rw [mg0_171_s0, if_neg hc171_58, if_pos hc178_60]] at kt
        refine pre59 _ ?_
        show Steps p.tables e below (T56.setTop (mkF m 178 #[.val (.int p1), .val (.int p2), .val (.int p3), .val (.ref b1), .val (.int ((p1 &&& (2147483647 : Int32)) % (15 : Int32))), .val (.ref b47), .val (.ref b52), .val (.ref b54), .unset] [(.int (9 : Int32)), (.int ((p1 &&& (2147483647 : Int32)) % (15 : Int32)))])) _
        refine XS.icmpYes X56.here hx rfl (pc0 := 178) (pc' := 185) rfl (hb hby at_178) rfl (tlt hc178_60).2.2.1 (by decide) (by decide) ?_
        show Steps p.tables e below (T56.setTop (mkF m 185 #[.val (.int p1), .val (.int p2), .val (.int p3), .val (.ref b1), .val (.int ((p1 &&& (2147483647 : Int32)) % (15 : Int32))), .val (.ref b47), .val (.ref b52), .val (.ref b54), .unset] [])) _
        refine XS.iconst X56.here hx rfl (hb hby at_185) ?_
        exact kt
      · rw [show (mg0_171_s0 p1) = (1 : Int32) from by rw [mg0_171_s0, if_neg hc171_58, if_neg hc178_60]] at kt
        refine pre59 _ ?_
        show Steps p.tables e below (T56.setTop (mkF m 178 #[.val (.int p1), .val (.int p2), .val (.int p3), .val (.ref b1), .val (.int ((p1 &&& (2147483647 : Int32)) % (15 : Int32))), .val (.ref b47), .val (.ref b52), .val (.ref b54), .unset] [(.int (9 : Int32)), (.int ((p1 &&& (2147483647 : Int32)) % (15 : Int32)))])) _
        refine XS.icmpNo X56.here hx rfl (hb hby at_178) rfl (flt hc178_60).2.2.1 ?_
        show Steps p.tables e below (T56.setTop (mkF m 181 #[.val (.int p1), .val (.int p2), .val (.int p3), .val (.ref b1), .val (.int ((p1 &&& (2147483647 : Int32)) % (15 : Int32))), .val (.ref b47), .val (.ref b52), .val (.ref b54), .unset] [])) _
        refine XS.iconst X56.here hx rfl (hb hby at_181) ?_
        show Steps p.tables e below (T56.setTop (mkF m 182 #[.val (.int p1), .val (.int p2), .val (.int p3), .val (.ref b1), .val (.int ((p1 &&& (2147483647 : Int32)) % (15 : Int32))), .val (.ref b47), .val (.ref b52), .val (.ref b54), .unset] [(.int (1 : Int32))])) _
        refine XS.goto X56.here hx rfl (pc0 := 182) (pc' := 186) rfl (hb hby at_182) (by decide) (by decide) ?_
        exact kt
  obtain ⟨cq62, kq62, q62a, q62b, q62c⟩ := isOf hZ rfl (A54.keep K56)
  obtain ⟨_, _, ⟨T62, L62, k62, n62⟩, -, X62, ⟨Lc62, hQ62, l62, y62, z62⟩, st62⟩ := X56.virtualBack hx (y := (⟨"com/example/cantrip/cantrip/Token", "isNumber", "()Z"⟩ : MethodName)) (z := (⟨"com/example/cantrip/cantrip/Token", "isNumber", "()Z"⟩ : MethodName)) hown (mvT hZ (hw _ (List.mem_of_getElem? (i := 83) rfl))) (mvT hZ (hw _ (List.mem_of_getElem? (i := 84) rfl))) (notFace_of_selects (args := #[]) (mvT hZ (hw _ (List.mem_of_getElem? (i := 86) rfl)))) (mvT hZ (hw _ (List.mem_of_getElem? (i := 86) rfl))) (mvT hZ (hw _ (List.mem_of_getElem? (i := 85) rfl))) (by decide) (backOf (W := 0) (rm9 l Z a0 hw [] b54 (own_pick ((p1 &&& (2147483647 : Int32)) % (15 : Int32)) w_IRI w_PNAME_NS w_PNAME_LN w_BLANK_NODE_LABEL w_VAR w_STRING w_LANGTAG w_INTEGER w_DECIMAL w_DOUBLE w_NIL w_ANON w_WORD w_PUNCT w_EOF) w_INTEGER w_DECIMAL w_DOUBLE T56.heap n0 (Nat.le_trans Z0 KK56.1) f56_1 (own_sta_keep ((own_sta_keep ((((((((((((((((((((S_INTEGER.ext E1).wr W4).wr W7).wr W10).wr W13).wr W16).wr W19).wr W22).wr W25).wr W28).wr W31).wr W34).wr W37).wr W40).wr W43).wr W46).ext E47).wr W49).wr W51).ext E52) K53 (allS (own_exa_ns A52) all0)).ext E54) K56 (allS (own_exa_ns A54) all0)) (own_sta_keep ((own_sta_keep ((((((((((((((((((((S_DECIMAL.ext E1).wr W4).wr W7).wr W10).wr W13).wr W16).wr W19).wr W22).wr W25).wr W28).wr W31).wr W34).wr W37).wr W40).wr W43).wr W46).ext E47).wr W49).wr W51).ext E52) K53 (allS (own_exa_ns A52) all0)).ext E54) K56 (allS (own_exa_ns A54) all0)) (own_sta_keep ((own_sta_keep ((((((((((((((((((((S_DOUBLE.ext E1).wr W4).wr W7).wr W10).wr W13).wr W16).wr W19).wr W22).wr W25).wr W28).wr W31).wr W34).wr W37).wr W40).wr W43).wr W46).ext E47).wr W49).wr W51).ext E52) K53 (allS (own_exa_ns A52) all0)).ext E54) K56 (allS (own_exa_ns A54) all0)) ) hZ (hw _ (List.mem_of_getElem? (i := 87) rfl)) (hw _ (List.mem_of_getElem? (i := 67) rfl)) (by decide) (by decide)) q62a q62c (g := (mkF m 190 #[.val (.int p1), .val (.int p2), .val (.int p3), .val (.ref b1), .val (.int ((p1 &&& (2147483647 : Int32)) % (15 : Int32))), .val (.ref b47), .val (.ref b52), .val (.ref b54), .val (.int (mg0_171_s0 p1))] [(.ref b54)])) rfl (by rw [hml]; rfl) (Steps.refl _) (argsL := []) (rest := []) (lenOf pd7 rfl) rfl (by show 2 * 0 + _ ≤ _; exact Nat.le_of_eq rfl) (hb hby at_190) (fun _ _ => ⟨rfl, rfl, (by decide : 5 + 0 ≤ _), (by decide : 26 + 0 ≤ _)⟩)
  dsimp only [Pt.U, Pt.locs, Pt.cells, Pt.slots] at X62 l62 y62 z62 st62 hQ62
  subst l62 y62 z62
  obtain ⟨rfl, rfl, e62⟩ := hQ62
  have N62 := Fr.app N56 (Fr.nil n0)
  have pre63 : ∀ t, Steps p.tables e below (T62.setTop (mkF m 195 #[.val (.int p1), .val (.int p2), .val (.int p3), .val (.ref b1), .val (.int ((p1 &&& (2147483647 : Int32)) % (15 : Int32))), .val (.ref b47), .val (.ref b52), .val (.ref b54), .val (.int (mg0_171_s0 p1))] [(.int (mg0_171_s0 p1)), (.int (res9 (own_pick ((p1 &&& (2147483647 : Int32)) % (15 : Int32)) w_IRI w_PNAME_NS w_PNAME_LN w_BLANK_NODE_LABEL w_VAR w_STRING w_LANGTAG w_INTEGER w_DECIMAL w_DOUBLE w_NIL w_ANON w_WORD w_PUNCT w_EOF) w_INTEGER w_DECIMAL w_DOUBLE))])) t → Steps p.tables e below (s₁.setTop (entryFrame m #[(.int p1), (.int p2), (.int p3)] maxLocals)) t := by
    intro t kt
    refine pre61 _ ?_
    show Steps p.tables e below (T56.setTop (mkF m 186 #[.val (.int p1), .val (.int p2), .val (.int p3), .val (.ref b1), .val (.int ((p1 &&& (2147483647 : Int32)) % (15 : Int32))), .val (.ref b47), .val (.ref b52), .val (.ref b54), .unset] [(.int (mg0_171_s0 p1))])) _
    refine XS.istore X56.here hx rfl (hb hby at_186) rfl (l' := #[.val (.int p1), .val (.int p2), .val (.int p3), .val (.ref b1), .val (.int ((p1 &&& (2147483647 : Int32)) % (15 : Int32))), .val (.ref b47), .val (.ref b52), .val (.ref b54), .val (.int (mg0_171_s0 p1))]) rfl ?_
    show Steps p.tables e below (T56.setTop (mkF m 188 #[.val (.int p1), .val (.int p2), .val (.int p3), .val (.ref b1), .val (.int ((p1 &&& (2147483647 : Int32)) % (15 : Int32))), .val (.ref b47), .val (.ref b52), .val (.ref b54), .val (.int (mg0_171_s0 p1))] [])) _
    refine XS.aload X56.here hx rfl (hb hby at_188) rfl rfl ?_
    show Steps p.tables e below (T56.setTop (mkF m 190 #[.val (.int p1), .val (.int p2), .val (.int p3), .val (.ref b1), .val (.int ((p1 &&& (2147483647 : Int32)) % (15 : Int32))), .val (.ref b47), .val (.ref b52), .val (.ref b54), .val (.int (mg0_171_s0 p1))] [(.ref b54)])) _
    refine st62.trans ?_
    show Steps p.tables e below (T62.setTop (mkF m 193 #[.val (.int p1), .val (.int p2), .val (.int p3), .val (.ref b1), .val (.int ((p1 &&& (2147483647 : Int32)) % (15 : Int32))), .val (.ref b47), .val (.ref b52), .val (.ref b54), .val (.int (mg0_171_s0 p1))] [(.int (res9 (own_pick ((p1 &&& (2147483647 : Int32)) % (15 : Int32)) w_IRI w_PNAME_NS w_PNAME_LN w_BLANK_NODE_LABEL w_VAR w_STRING w_LANGTAG w_INTEGER w_DECIMAL w_DOUBLE w_NIL w_ANON w_WORD w_PUNCT w_EOF) w_INTEGER w_DECIMAL w_DOUBLE))])) _
    refine XS.iload X62.here hx rfl (hb hby at_193) rfl ?_
    exact kt
  by_cases hc195_64 : (res9 (own_pick ((p1 &&& (2147483647 : Int32)) % (15 : Int32)) w_IRI w_PNAME_NS w_PNAME_LN w_BLANK_NODE_LABEL w_VAR w_STRING w_LANGTAG w_INTEGER w_DECIMAL w_DOUBLE w_NIL w_ANON w_WORD w_PUNCT w_EOF) w_INTEGER w_DECIMAL w_DOUBLE) = (mg0_171_s0 p1)
  · obtain ⟨fs, hr, hrun, hended, hW, hsame⟩ := X62.leave (v := some (.int (1 : Int32))) (fun h => by rw [Bd.returns] at h; cases h)
    refine ⟨_, _, pre63 _ ?_, hrun, hended, _, _, rfl, ?_, ⟨_, rfl⟩, hW, hsame.mono (by decide) (by decide)⟩
    · show Steps p.tables e below (T62.setTop (mkF m 195 #[.val (.int p1), .val (.int p2), .val (.int p3), .val (.ref b1), .val (.int ((p1 &&& (2147483647 : Int32)) % (15 : Int32))), .val (.ref b47), .val (.ref b52), .val (.ref b54), .val (.int (mg0_171_s0 p1))] [(.int (mg0_171_s0 p1)), (.int (res9 (own_pick ((p1 &&& (2147483647 : Int32)) % (15 : Int32)) w_IRI w_PNAME_NS w_PNAME_LN w_BLANK_NODE_LABEL w_VAR w_STRING w_LANGTAG w_INTEGER w_DECIMAL w_DOUBLE w_NIL w_ANON w_WORD w_PUNCT w_EOF) w_INTEGER w_DECIMAL w_DOUBLE))])) _
      refine XS.icmpNo X62.here hx rfl (hb hby at_195) rfl (teq hc195_64).2 ?_
      show Steps p.tables e below (T62.setTop (mkF m 198 #[.val (.int p1), .val (.int p2), .val (.int p3), .val (.ref b1), .val (.int ((p1 &&& (2147483647 : Int32)) % (15 : Int32))), .val (.ref b47), .val (.ref b52), .val (.ref b54), .val (.int (mg0_171_s0 p1))] [])) _
      refine XS.iconst X62.here hx rfl (hb hby at_198) ?_
      show Steps p.tables e below (T62.setTop (mkF m 199 #[.val (.int p1), .val (.int p2), .val (.int p3), .val (.ref b1), .val (.int ((p1 &&& (2147483647 : Int32)) % (15 : Int32))), .val (.ref b47), .val (.ref b52), .val (.ref b54), .val (.int (mg0_171_s0 p1))] [(.int (1 : Int32))])) _
      refine XS.goto X62.here hx rfl (pc0 := 199) (pc' := 203) rfl (hb hby at_199) (by decide) (by decide) ?_
      show Steps p.tables e below (T62.setTop (mkF m 203 #[.val (.int p1), .val (.int p2), .val (.int p3), .val (.ref b1), .val (.int ((p1 &&& (2147483647 : Int32)) % (15 : Int32))), .val (.ref b47), .val (.ref b52), .val (.ref b54), .val (.int (mg0_171_s0 p1))] [(.int (1 : Int32))])) _
      exact retN X62 hx (t := .boolean) Bd.returns (by simp) (hb hby at_203) hr
    · show Q0 Z p1 p2 p3 w_IRI w_PNAME_NS w_PNAME_LN w_BLANK_NODE_LABEL w_VAR w_STRING w_LANGTAG w_INTEGER w_DECIMAL w_DOUBLE w_NIL w_ANON w_WORD w_PUNCT w_EOF w_COMPACT_STRINGS h0 n0 _ T62.heap _
      rw [e62]
      exact ⟨by rw [res0, if_pos hc195_64], N62⟩
  · obtain ⟨fs, hr, hrun, hended, hW, hsame⟩ := X62.leave (v := some (.int (0 : Int32))) (fun h => by rw [Bd.returns] at h; cases h)
    refine ⟨_, _, pre63 _ ?_, hrun, hended, _, _, rfl, ?_, ⟨_, rfl⟩, hW, hsame.mono (by decide) (by decide)⟩
    · show Steps p.tables e below (T62.setTop (mkF m 195 #[.val (.int p1), .val (.int p2), .val (.int p3), .val (.ref b1), .val (.int ((p1 &&& (2147483647 : Int32)) % (15 : Int32))), .val (.ref b47), .val (.ref b52), .val (.ref b54), .val (.int (mg0_171_s0 p1))] [(.int (mg0_171_s0 p1)), (.int (res9 (own_pick ((p1 &&& (2147483647 : Int32)) % (15 : Int32)) w_IRI w_PNAME_NS w_PNAME_LN w_BLANK_NODE_LABEL w_VAR w_STRING w_LANGTAG w_INTEGER w_DECIMAL w_DOUBLE w_NIL w_ANON w_WORD w_PUNCT w_EOF) w_INTEGER w_DECIMAL w_DOUBLE))])) _
      refine XS.icmpYes X62.here hx rfl (pc0 := 195) (pc' := 202) rfl (hb hby at_195) rfl (feq hc195_64).2 (by decide) (by decide) ?_
      show Steps p.tables e below (T62.setTop (mkF m 202 #[.val (.int p1), .val (.int p2), .val (.int p3), .val (.ref b1), .val (.int ((p1 &&& (2147483647 : Int32)) % (15 : Int32))), .val (.ref b47), .val (.ref b52), .val (.ref b54), .val (.int (mg0_171_s0 p1))] [])) _
      refine XS.iconst X62.here hx rfl (hb hby at_202) ?_
      show Steps p.tables e below (T62.setTop (mkF m 203 #[.val (.int p1), .val (.int p2), .val (.int p3), .val (.ref b1), .val (.int ((p1 &&& (2147483647 : Int32)) % (15 : Int32))), .val (.ref b47), .val (.ref b52), .val (.ref b54), .val (.int (mg0_171_s0 p1))] [(.int (0 : Int32))])) _
      exact retN X62 hx (t := .boolean) Bd.returns (by simp) (hb hby at_203) hr
    · show Q0 Z p1 p2 p3 w_IRI w_PNAME_NS w_PNAME_LN w_BLANK_NODE_LABEL w_VAR w_STRING w_LANGTAG w_INTEGER w_DECIMAL w_DOUBLE w_NIL w_ANON w_WORD w_PUNCT w_EOF w_COMPACT_STRINGS h0 n0 _ T62.heap _
      rw [e62]
      exact ⟨by rw [res0, if_neg hc195_64], N62⟩
def Dis (w_IRI w_PNAME_NS w_PNAME_LN w_BLANK_NODE_LABEL w_VAR w_STRING w_LANGTAG w_INTEGER w_DECIMAL w_DOUBLE w_NIL w_ANON w_WORD w_PUNCT w_EOF : Addr) : Prop := w_IRI ≠ w_INTEGER ∧ w_IRI ≠ w_DECIMAL ∧ w_IRI ≠ w_DOUBLE ∧ w_PNAME_NS ≠ w_INTEGER ∧ w_PNAME_NS ≠ w_DECIMAL ∧ w_PNAME_NS ≠ w_DOUBLE ∧ w_PNAME_LN ≠ w_INTEGER ∧ w_PNAME_LN ≠ w_DECIMAL ∧ w_PNAME_LN ≠ w_DOUBLE ∧ w_BLANK_NODE_LABEL ≠ w_INTEGER ∧ w_BLANK_NODE_LABEL ≠ w_DECIMAL ∧ w_BLANK_NODE_LABEL ≠ w_DOUBLE ∧ w_VAR ≠ w_INTEGER ∧ w_VAR ≠ w_DECIMAL ∧ w_VAR ≠ w_DOUBLE ∧ w_STRING ≠ w_INTEGER ∧ w_STRING ≠ w_DECIMAL ∧ w_STRING ≠ w_DOUBLE ∧ w_LANGTAG ≠ w_INTEGER ∧ w_LANGTAG ≠ w_DECIMAL ∧ w_LANGTAG ≠ w_DOUBLE ∧ w_NIL ≠ w_INTEGER ∧ w_NIL ≠ w_DECIMAL ∧ w_NIL ≠ w_DOUBLE ∧ w_ANON ≠ w_INTEGER ∧ w_ANON ≠ w_DECIMAL ∧ w_ANON ≠ w_DOUBLE ∧ w_WORD ≠ w_INTEGER ∧ w_WORD ≠ w_DECIMAL ∧ w_WORD ≠ w_DOUBLE ∧ w_PUNCT ≠ w_INTEGER ∧ w_PUNCT ≠ w_DECIMAL ∧ w_PUNCT ≠ w_DOUBLE ∧ w_EOF ≠ w_INTEGER ∧ w_EOF ≠ w_DECIMAL ∧ w_EOF ≠ w_DOUBLE
theorem own_fin (p1 : Int32) (w_IRI w_PNAME_NS w_PNAME_LN w_BLANK_NODE_LABEL w_VAR w_STRING w_LANGTAG w_INTEGER w_DECIMAL w_DOUBLE w_NIL w_ANON w_WORD w_PUNCT w_EOF : Addr) (hD : Dis w_IRI w_PNAME_NS w_PNAME_LN w_BLANK_NODE_LABEL w_VAR w_STRING w_LANGTAG w_INTEGER w_DECIMAL w_DOUBLE w_NIL w_ANON w_WORD w_PUNCT w_EOF) : (res0 p1 w_IRI w_PNAME_NS w_PNAME_LN w_BLANK_NODE_LABEL w_VAR w_STRING w_LANGTAG w_INTEGER w_DECIMAL w_DOUBLE w_NIL w_ANON w_WORD w_PUNCT w_EOF) = 1 := by
  have e3 := own_range_15 (own_rng p1).1 (own_rng p1).2
  unfold Dis at hD
  unfold res0 mg0_171_s0
  generalize ((p1 &&& (2147483647 : Int32)) % (15 : Int32)) = i at e3
  rcases e3 with rfl | rfl | rfl | rfl | rfl | rfl | rfl | rfl | rfl | rfl | rfl | rfl | rfl | rfl | rfl <;> simp [own_pick, res9, hD]
set_option maxRecDepth 65536 in
set_option maxHeartbeats 40000000 in
theorem comes_1 {Post : Tables → Env → Array Value → State → Outcome → State → Prop} (hpost : ∀ tb e args s v u, (limb_1_1.after args s (.returned v) u = true ∧ limb_1_2.after args s (.returned v) u = true ∧ True) → FrameEnd s (.returned v) u (Jvm.fieldLocs frame_1_writes args s ++ Jvm.arrayLocs frame_1_arrays args s ++ Jvm.staticLocs frame_1_statics s) 24 128 → Post tb e args s (.returned v) u) :
    ArmFor flags0 classFile x code maxLocals ret World_1 tables_1 room_1 Calls_1 rest_1 Pre_1 Post := by
  intro l hfl _ _ p e ha hc hk s m args below hf hA hF happ hP
  obtain ⟨hcalls, hrest, hpre⟩ := hP
  obtain ⟨-, -, -, hnamed, -, -, -, hat⟩ := (Spec.applies_iff hf).mp happ
  obtain ⟨hg, hn⟩ := and_e (Cond.before_iff.mp (show (Jvm.Cond.and given_1 narrow_1).before args s = true from hpre))
  obtain ⟨ga0, gb0⟩ := and_e hg
  obtain ⟨ga1, gb1⟩ := and_e gb0
  obtain ⟨ga2, gb2⟩ := and_e gb1
  obtain ⟨w0, w1, w2, rfl⟩ : ∃ w0 w1 w2 : Value, args = #[w0, w1, w2] := by
    have hs : args.size = 3 := by simpa [Cond.value, given_1] using ga0
    obtain ⟨L⟩ := args
    match L, hs with
    | [w0, w1, w2], _ => exact ⟨w0, w1, w2, rfl⟩
  have hw := fun d (hd : d ∈ tables_1) => atoms_spec (ws := Jvm.Cond.code x code maxLocals ret :: tables_1) hat d (List.mem_cons_of_mem _ hd)
  have hfit : Fit s := fun {y c} hc i hi => by
    obtain ⟨ha, rfl⟩ := Array.getElem?_eq_some_iff.mp hc
    have q := List.all_eq_true.mp ((Array.all_eq_true_iff_forall_mem.mp hF) _ (Array.getElem_mem ha)) i (List.mem_range.mpr hi)
    simpa [Array.getElem?_eq_getElem hi] using q
  obtain ⟨i0, ei0⟩ := is_v ga1
  obtain rfl : w0 = (.int i0) := Option.some.inj ei0
  obtain ⟨i1, ei1⟩ := is_v ga2
  obtain rfl : w1 = (.int i1) := Option.some.inj ei1
  obtain ⟨i2, ei2⟩ := is_v gb2
  obtain rfl : w2 = (.int i2) := Option.some.inj ei2
  obtain ⟨hsets, hown0⟩ := atoms_of _ (rest_1_c_eq ▸ (show rest_1_c.before _ s = true from hrest))
  have n5 := not_v (Cond.before_iff.mp (hsets _ (List.mem_of_getElem? (i := 2) rfl)))
  obtain ⟨w_COMPACT_STRINGS, e10⟩ := is_v (Cond.before_iff.mp (hsets _ (List.mem_of_getElem? (i := 1) rfl)))
  have S_COMPACT_STRINGS : Sta s s.heap "java/lang/String" "COMPACT_STRINGS" "Z" (.int w_COMPACT_STRINGS) := Sta.start e10 (Or.inl (hsets _ (List.mem_of_getElem? (i := 0) rfl)))
  obtain ⟨w_SIOOBE_FORMATTER, e14, hSF⟩ := isR_v (Cond.before_iff.mp (hsets _ (List.mem_of_getElem? (i := 8) rfl)))
  have S_SIOOBE_FORMATTER : Sta s s.heap "jdk/internal/util/Preconditions" "SIOOBE_FORMATTER" "Ljava/util/function/BiFunction;" w_SIOOBE_FORMATTER := Sta.start e14 (Or.inl (hsets _ (List.mem_of_getElem? (i := 7) rfl)))
  have hCS : ¬ (w_COMPACT_STRINGS = (0 : Int32)) := gotF (Cond.eq_ints e10 (Term.int_eval (0))) n5
  obtain ⟨na1, nb1⟩ := and_e hn
  obtain ⟨na2, nb2⟩ := and_e nb1
  obtain ⟨na3, nb3⟩ := and_e nb2
  obtain ⟨na4, nb4⟩ := and_e nb3
  obtain ⟨na5, nb5⟩ := and_e nb4
  obtain ⟨na6, nb6⟩ := and_e nb5
  obtain ⟨na7, nb7⟩ := and_e nb6
  obtain ⟨na8, nb8⟩ := and_e nb7
  obtain ⟨na9, nb9⟩ := and_e nb8
  obtain ⟨na10, nb10⟩ := and_e nb9
  obtain ⟨na11, nb11⟩ := and_e nb10
  obtain ⟨na12, nb12⟩ := and_e nb11
  obtain ⟨na13, nb13⟩ := and_e nb12
  obtain ⟨na14, nb14⟩ := and_e nb13
  obtain ⟨na15, nb15⟩ := and_e nb14
  obtain ⟨na16, nb16⟩ := and_e nb15
  obtain ⟨na17, nb17⟩ := and_e nb16
  obtain ⟨na18, nb18⟩ := and_e nb17
  obtain ⟨na19, nb19⟩ := and_e nb18
  obtain ⟨na20, nb20⟩ := and_e nb19
  obtain ⟨na21, nb21⟩ := and_e nb20
  obtain ⟨na22, nb22⟩ := and_e nb21
  obtain ⟨na23, nb23⟩ := and_e nb22
  obtain ⟨na24, nb24⟩ := and_e nb23
  obtain ⟨na25, nb25⟩ := and_e nb24
  obtain ⟨na26, nb26⟩ := and_e nb25
  obtain ⟨na27, nb27⟩ := and_e nb26
  obtain ⟨na28, nb28⟩ := and_e nb27
  obtain ⟨na29, nb29⟩ := and_e nb28
  obtain ⟨w_IRI, ev_IRI⟩ := exa_v na1
  have S_IRI := Sta.start ev_IRI (Or.inr ⟨(hw _ (List.mem_of_getElem? (i := 3) rfl)), (hw _ (List.mem_of_getElem? (i := 4) rfl))⟩)
  have E_w_IRI := Exa.start ev_IRI na1
  obtain ⟨w_PNAME_NS, ev_PNAME_NS⟩ := exa_v na2
  have S_PNAME_NS := Sta.start ev_PNAME_NS (Or.inr ⟨(hw _ (List.mem_of_getElem? (i := 3) rfl)), (hw _ (List.mem_of_getElem? (i := 7) rfl))⟩)
  have E_w_PNAME_NS := Exa.start ev_PNAME_NS na2
  obtain ⟨w_PNAME_LN, ev_PNAME_LN⟩ := exa_v na3
  have S_PNAME_LN := Sta.start ev_PNAME_LN (Or.inr ⟨(hw _ (List.mem_of_getElem? (i := 3) rfl)), (hw _ (List.mem_of_getElem? (i := 9) rfl))⟩)
  have E_w_PNAME_LN := Exa.start ev_PNAME_LN na3
  obtain ⟨w_BLANK_NODE_LABEL, ev_BLANK_NODE_LABEL⟩ := exa_v na4
  have S_BLANK_NODE_LABEL := Sta.start ev_BLANK_NODE_LABEL (Or.inr ⟨(hw _ (List.mem_of_getElem? (i := 3) rfl)), (hw _ (List.mem_of_getElem? (i := 11) rfl))⟩)
  have E_w_BLANK_NODE_LABEL := Exa.start ev_BLANK_NODE_LABEL na4
  obtain ⟨w_VAR, ev_VAR⟩ := exa_v na5
  have S_VAR := Sta.start ev_VAR (Or.inr ⟨(hw _ (List.mem_of_getElem? (i := 3) rfl)), (hw _ (List.mem_of_getElem? (i := 13) rfl))⟩)
  have E_w_VAR := Exa.start ev_VAR na5
  obtain ⟨w_STRING, ev_STRING⟩ := exa_v na6
  have S_STRING := Sta.start ev_STRING (Or.inr ⟨(hw _ (List.mem_of_getElem? (i := 3) rfl)), (hw _ (List.mem_of_getElem? (i := 15) rfl))⟩)
  have E_w_STRING := Exa.start ev_STRING na6
  obtain ⟨w_LANGTAG, ev_LANGTAG⟩ := exa_v na7
  have S_LANGTAG := Sta.start ev_LANGTAG (Or.inr ⟨(hw _ (List.mem_of_getElem? (i := 3) rfl)), (hw _ (List.mem_of_getElem? (i := 17) rfl))⟩)
  have E_w_LANGTAG := Exa.start ev_LANGTAG na7
  obtain ⟨w_INTEGER, ev_INTEGER⟩ := exa_v na8
  have S_INTEGER := Sta.start ev_INTEGER (Or.inr ⟨(hw _ (List.mem_of_getElem? (i := 3) rfl)), (hw _ (List.mem_of_getElem? (i := 19) rfl))⟩)
  have E_w_INTEGER := Exa.start ev_INTEGER na8
  obtain ⟨w_DECIMAL, ev_DECIMAL⟩ := exa_v na9
  have S_DECIMAL := Sta.start ev_DECIMAL (Or.inr ⟨(hw _ (List.mem_of_getElem? (i := 3) rfl)), (hw _ (List.mem_of_getElem? (i := 21) rfl))⟩)
  have E_w_DECIMAL := Exa.start ev_DECIMAL na9
  obtain ⟨w_DOUBLE, ev_DOUBLE⟩ := exa_v na10
  have S_DOUBLE := Sta.start ev_DOUBLE (Or.inr ⟨(hw _ (List.mem_of_getElem? (i := 3) rfl)), (hw _ (List.mem_of_getElem? (i := 23) rfl))⟩)
  have E_w_DOUBLE := Exa.start ev_DOUBLE na10
  obtain ⟨w_NIL, ev_NIL⟩ := exa_v na11
  have S_NIL := Sta.start ev_NIL (Or.inr ⟨(hw _ (List.mem_of_getElem? (i := 3) rfl)), (hw _ (List.mem_of_getElem? (i := 25) rfl))⟩)
  have E_w_NIL := Exa.start ev_NIL na11
  obtain ⟨w_ANON, ev_ANON⟩ := exa_v na12
  have S_ANON := Sta.start ev_ANON (Or.inr ⟨(hw _ (List.mem_of_getElem? (i := 3) rfl)), (hw _ (List.mem_of_getElem? (i := 27) rfl))⟩)
  have E_w_ANON := Exa.start ev_ANON na12
  obtain ⟨w_WORD, ev_WORD⟩ := exa_v na13
  have S_WORD := Sta.start ev_WORD (Or.inr ⟨(hw _ (List.mem_of_getElem? (i := 3) rfl)), (hw _ (List.mem_of_getElem? (i := 29) rfl))⟩)
  have E_w_WORD := Exa.start ev_WORD na13
  obtain ⟨w_PUNCT, ev_PUNCT⟩ := exa_v na14
  have S_PUNCT := Sta.start ev_PUNCT (Or.inr ⟨(hw _ (List.mem_of_getElem? (i := 3) rfl)), (hw _ (List.mem_of_getElem? (i := 31) rfl))⟩)
  have E_w_PUNCT := Exa.start ev_PUNCT na14
  obtain ⟨w_EOF, ev_EOF⟩ := exa_v na15
  have S_EOF := Sta.start ev_EOF (Or.inr ⟨(hw _ (List.mem_of_getElem? (i := 3) rfl)), (hw _ (List.mem_of_getElem? (i := 33) rfl))⟩)
  have E_w_EOF := Exa.start ev_EOF na15
  have F_ordinal_w_IRI := Fld.start ((fld_at ev_IRI).symm.trans (own_eqv (Or.inl ⟨_, rfl⟩) (Term.int_eval _) na16))
  have F_ordinal_w_INTEGER := Fld.start ((fld_at ev_INTEGER).symm.trans (own_eqv (Or.inl ⟨_, rfl⟩) (Term.int_eval _) na17))
  have F_ordinal_w_DECIMAL := Fld.start ((fld_at ev_DECIMAL).symm.trans (own_eqv (Or.inl ⟨_, rfl⟩) (Term.int_eval _) na18))
  have F_ordinal_w_DOUBLE := Fld.start ((fld_at ev_DOUBLE).symm.trans (own_eqv (Or.inl ⟨_, rfl⟩) (Term.int_eval _) na19))
  have F_ordinal_w_PNAME_NS := Fld.start ((fld_at ev_PNAME_NS).symm.trans (own_eqv (Or.inl ⟨_, rfl⟩) (Term.int_eval _) na20))
  have F_ordinal_w_EOF := Fld.start ((fld_at ev_EOF).symm.trans (own_eqv (Or.inl ⟨_, rfl⟩) (Term.int_eval _) na21))
  have F_ordinal_w_STRING := Fld.start ((fld_at ev_STRING).symm.trans (own_eqv (Or.inl ⟨_, rfl⟩) (Term.int_eval _) na22))
  have F_ordinal_w_NIL := Fld.start ((fld_at ev_NIL).symm.trans (own_eqv (Or.inl ⟨_, rfl⟩) (Term.int_eval _) na23))
  have F_ordinal_w_BLANK_NODE_LABEL := Fld.start ((fld_at ev_BLANK_NODE_LABEL).symm.trans (own_eqv (Or.inl ⟨_, rfl⟩) (Term.int_eval _) na24))
  have F_ordinal_w_ANON := Fld.start ((fld_at ev_ANON).symm.trans (own_eqv (Or.inl ⟨_, rfl⟩) (Term.int_eval _) na25))
  have F_ordinal_w_PNAME_LN := Fld.start ((fld_at ev_PNAME_LN).symm.trans (own_eqv (Or.inl ⟨_, rfl⟩) (Term.int_eval _) na26))
  have F_ordinal_w_VAR := Fld.start ((fld_at ev_VAR).symm.trans (own_eqv (Or.inl ⟨_, rfl⟩) (Term.int_eval _) na27))
  have F_ordinal_w_LANGTAG := Fld.start ((fld_at ev_LANGTAG).symm.trans (own_eqv (Or.inl ⟨_, rfl⟩) (Term.int_eval _) na28))
  have F_ordinal_w_PUNCT := Fld.start ((fld_at ev_PUNCT).symm.trans (own_eqv (Or.inl ⟨_, rfl⟩) (Term.int_eval _) na29))
  have F_ordinal_w_WORD := Fld.start ((fld_at ev_WORD).symm.trans (own_eqv (Or.inl ⟨_, rfl⟩) (Term.int_eval _) nb29))
  have hD : Dis w_IRI w_PNAME_NS w_PNAME_LN w_BLANK_NODE_LABEL w_VAR w_STRING w_LANGTAG w_INTEGER w_DECIMAL w_DOUBLE w_NIL w_ANON w_WORD w_PUNCT w_EOF := ⟨Fld.ne F_ordinal_w_IRI F_ordinal_w_INTEGER (by decide), Fld.ne F_ordinal_w_IRI F_ordinal_w_DECIMAL (by decide), Fld.ne F_ordinal_w_IRI F_ordinal_w_DOUBLE (by decide), Fld.ne F_ordinal_w_PNAME_NS F_ordinal_w_INTEGER (by decide), Fld.ne F_ordinal_w_PNAME_NS F_ordinal_w_DECIMAL (by decide), Fld.ne F_ordinal_w_PNAME_NS F_ordinal_w_DOUBLE (by decide), Fld.ne F_ordinal_w_PNAME_LN F_ordinal_w_INTEGER (by decide), Fld.ne F_ordinal_w_PNAME_LN F_ordinal_w_DECIMAL (by decide), Fld.ne F_ordinal_w_PNAME_LN F_ordinal_w_DOUBLE (by decide), Fld.ne F_ordinal_w_BLANK_NODE_LABEL F_ordinal_w_INTEGER (by decide), Fld.ne F_ordinal_w_BLANK_NODE_LABEL F_ordinal_w_DECIMAL (by decide), Fld.ne F_ordinal_w_BLANK_NODE_LABEL F_ordinal_w_DOUBLE (by decide), Fld.ne F_ordinal_w_VAR F_ordinal_w_INTEGER (by decide), Fld.ne F_ordinal_w_VAR F_ordinal_w_DECIMAL (by decide), Fld.ne F_ordinal_w_VAR F_ordinal_w_DOUBLE (by decide), Fld.ne F_ordinal_w_STRING F_ordinal_w_INTEGER (by decide), Fld.ne F_ordinal_w_STRING F_ordinal_w_DECIMAL (by decide), Fld.ne F_ordinal_w_STRING F_ordinal_w_DOUBLE (by decide), Fld.ne F_ordinal_w_LANGTAG F_ordinal_w_INTEGER (by decide), Fld.ne F_ordinal_w_LANGTAG F_ordinal_w_DECIMAL (by decide), Fld.ne F_ordinal_w_LANGTAG F_ordinal_w_DOUBLE (by decide), Fld.ne F_ordinal_w_NIL F_ordinal_w_INTEGER (by decide), Fld.ne F_ordinal_w_NIL F_ordinal_w_DECIMAL (by decide), Fld.ne F_ordinal_w_NIL F_ordinal_w_DOUBLE (by decide), Fld.ne F_ordinal_w_ANON F_ordinal_w_INTEGER (by decide), Fld.ne F_ordinal_w_ANON F_ordinal_w_DECIMAL (by decide), Fld.ne F_ordinal_w_ANON F_ordinal_w_DOUBLE (by decide), Fld.ne F_ordinal_w_WORD F_ordinal_w_INTEGER (by decide), Fld.ne F_ordinal_w_WORD F_ordinal_w_DECIMAL (by decide), Fld.ne F_ordinal_w_WORD F_ordinal_w_DOUBLE (by decide), Fld.ne F_ordinal_w_PUNCT F_ordinal_w_INTEGER (by decide), Fld.ne F_ordinal_w_PUNCT F_ordinal_w_DECIMAL (by decide), Fld.ne F_ordinal_w_PUNCT F_ordinal_w_DOUBLE (by decide), Fld.ne F_ordinal_w_EOF F_ordinal_w_INTEGER (by decide), Fld.ne F_ordinal_w_EOF F_ordinal_w_DECIMAL (by decide), Fld.ne F_ordinal_w_EOF F_ordinal_w_DOUBLE (by decide)⟩
  obtain ⟨n, o, h1, h2, h3, _, L, rfl, ⟨rfl, N⟩, hq⟩ := rm0 l s _ hw tables_1 i0 i1 i2 w_IRI w_PNAME_NS w_PNAME_LN w_BLANK_NODE_LABEL w_VAR w_STRING w_LANGTAG w_INTEGER w_DECIMAL w_DOUBLE w_NIL w_ANON w_WORD w_PUNCT w_EOF w_COMPACT_STRINGS s.heap s.heap.size (Nat.le_refl _) S_IRI E_w_IRI S_PNAME_NS E_w_PNAME_NS S_PNAME_LN E_w_PNAME_LN S_BLANK_NODE_LABEL E_w_BLANK_NODE_LABEL S_VAR E_w_VAR S_STRING E_w_STRING S_LANGTAG E_w_LANGTAG S_INTEGER E_w_INTEGER S_DECIMAL E_w_DECIMAL S_DOUBLE E_w_DOUBLE S_NIL E_w_NIL S_ANON E_w_ANON S_WORD E_w_WORD S_PUNCT E_w_PUNCT S_EOF E_w_EOF S_COMPACT_STRINGS hCS p e ha hc hk s m _ below hf ((Spec.applies_iff_loose hf).mp happ).1 ⟨rfl, State.Warmed39.refl s, rfl⟩ trivial
  have hfin : (res0 i0 w_IRI w_PNAME_NS w_PNAME_LN w_BLANK_NODE_LABEL w_VAR w_STRING w_LANGTAG w_INTEGER w_DECIMAL w_DOUBLE w_NIL w_ANON w_WORD w_PUNCT w_EOF) = (1 : Int32) := own_fin i0 w_IRI w_PNAME_NS w_PNAME_LN w_BLANK_NODE_LABEL w_VAR w_STRING w_LANGTAG w_INTEGER w_DECIMAL w_DOUBLE w_NIL w_ANON w_WORD w_PUNCT w_EOF hD
  refine ⟨n, _, h1, h2, h3, hpost _ _ _ _ _ _ ⟨Cond.after_iff.mpr rfl, Cond.after_iff.mpr (eq_i res_at (Term.int_eval (1)) (by rw [hfin])), trivial⟩ ⟨hq.1, hq.2.1, (hq.2.2.sift fun y hy => Or.inr (N y hy)).mono (by decide) (by decide)⟩⟩
theorem main_1_1 : Claimed_1_1 := comes_1 fun _ _ _ _ _ _ h hF => ⟨h.1, hF⟩
theorem main_1_2 : Claimed_1_2 := comes_1 fun _ _ _ _ _ _ h hF => ⟨h.2.1, hF⟩
end Jvm.Pilot.@@N@@
namespace Jvm.Pilot.@@N@@
open Jvm Jvm.ClassFile Sem Op Lib Jvm.Free Jvm.Stand Jvm.Pilot.@@N@@.Jvm.D
/-! MADE BY PROGRAM (witnessworld.py) out of the Statement's table words and the real class files: 24 classes; the members and pool entries that the words name. The judged class is class 1, her method 1. -/
namespace start1
open Jvm.ClassFile
def u (s : String) : CpInfo := .utf8 (stringToUtf16 s)
/-- a pool by its gaps: so many unusable entries, then the entry; so many at the end -/
def gap : Nat → List CpInfo → List CpInfo
  | 0, r => r
  | n + 1, r => .unusable :: gap n r
def poolList (es : List (Nat × CpInfo)) (last : Nat) : List CpInfo := es.foldr (fun e r => gap e.1 (e.2 :: r)) (gap last [])
def pool (es : List (Nat × CpInfo)) (last : Nat) : Array CpInfo := ⟨poolList es last⟩
def fileOf (pool : Array CpInfo) (this : Nat) (attrs : Array Attribute := #[]) (ms : Array MethodInfo := #[]) (fl : Nat := 33) (sup : Nat := 0) (ifs : Array Nat := #[]) (fds : Array FieldInfo := #[]) : ClassFile where
  minorVersion := 0
  majorVersion := 65
  constantPool := pool
  accessFlags := fl
  thisClass := this
  superClass := sup
  interfaces := ifs
  fields := fds
  methods := ms
  attributes := attrs
def plain (name : String) (sup : Option ClassId) : Class where
  name := name
  kind := .ordinary
  loader := none
  accessFlags := 33
  super := sup
  interfaces := #[]
  cf := none
  fields := #[]
  methods := #[]
  instanceTypes := #[]
  staticTypes := #[]
  resolved := #[]
  callSites := []
  init := .initialized
  statics := none
  mirror := none

def pool0 : Array CpInfo := pool [(5, u "<init>"), (0, u "()V"), (1, .class_ 10), (1, u "java/lang/Object")] 113

def k0c0 : Code := { maxStack := 0, maxLocals := 1, code := object_method_1_code, exceptionTable := #[], attributes := #[] }
def k0m0 : Method := { name := "<init>", desc := "()V", sig := { parameters := [], returnType := none }, accessFlags := 1, code := some k0c0 }
/-- java/lang/Object -/
def k0 : Class := { plain "java/lang/Object" none with
  accessFlags := 33
  interfaces := #[]
  cf := some (fileOf pool0 8 #[] #[{ accessFlags := 1, nameIndex := 5, descriptorIndex := 6, attributes := #[] }] 33 0 #[] #[])
  fields := #[]
  methods := #[k0m0]
  instanceTypes := #[]
  staticTypes := #[]
  resolved := Array.replicate 124 none
  statics := none }

def pool1 : Array CpInfo := pool [(2, .class_ 4), (1, u "java/lang/Object"), (0, u "<init>"), (0, u "()V"), (0, .class_ 8), (0, u "com/example/cantrip/cantrip/Token$Kind"), (0, .fieldref 7 10), (0, .nameAndType 11 12), (0, u "IRI"), (0, u "Lcom/example/cantrip/cantrip/Token$Kind;"), (0, .fieldref 7 14), (0, .nameAndType 15 12), (0, u "PNAME_NS"), (0, .fieldref 7 17), (0, .nameAndType 18 12), (0, u "PNAME_LN"), (0, .fieldref 7 20), (0, .nameAndType 21 12), (0, u "BLANK_NODE_LABEL"), (0, .fieldref 7 23), (0, .nameAndType 24 12), (0, u "VAR"), (0, .fieldref 7 26), (0, .nameAndType 27 12), (0, u "STRING"), (0, .fieldref 7 29), (0, .nameAndType 30 12), (0, u "LANGTAG"), (0, .fieldref 7 32), (0, .nameAndType 33 12), (0, u "INTEGER"), (0, .fieldref 7 35), (0, .nameAndType 36 12), (0, u "DECIMAL"), (0, .fieldref 7 38), (0, .nameAndType 39 12), (0, u "DOUBLE"), (0, .fieldref 7 41), (0, .nameAndType 42 12), (0, u "NIL"), (0, .fieldref 7 44), (0, .nameAndType 45 12), (0, u "ANON"), (0, .fieldref 7 47), (0, .nameAndType 48 12), (0, u "WORD"), (0, .fieldref 7 50), (0, .nameAndType 51 12), (0, u "PUNCT"), (0, .fieldref 7 53), (0, .nameAndType 54 12), (0, u "EOF"), (0, .integer 2147483647), (0, .class_ 57), (0, u "java/lang/String"), (0, .methodref 56 59), (0, .nameAndType 5 60), (0, u "([C)V"), (0, .class_ 62), (0, u "com/example/cantrip/cantrip/Token"), (0, .methodref 61 64), (0, .nameAndType 5 65), (0, u "(Lcom/example/cantrip/cantrip/Token$Kind;Ljava/lang/String;I)V"), (0, .methodref 61 67), (0, .nameAndType 68 69), (0, u "isNumber"), (0, u "()Z"), (0, .class_ 71), (0, u "com/example/cantrip/cantrip/TokenIsNumberPinLaw"), (2, u "law"), (0, u "(III)Z")] 9

def k1m0 : Method := { name := "<init>", desc := "()V", sig := { parameters := [], returnType := none }, accessFlags := 1, code := none }
def k1c1 : Code := { maxStack := 5, maxLocals := 9, code := code, exceptionTable := #[], attributes := #[] }
def k1m1 : Method := { name := "law", desc := "(III)Z", sig := { parameters := [.int, .int, .int], returnType := some .boolean }, accessFlags := 9, code := some k1c1 }
/-- com/example/cantrip/cantrip/TokenIsNumberPinLaw -/
def k1 : Class := { plain "com/example/cantrip/cantrip/TokenIsNumberPinLaw" (some 0) with
  accessFlags := 49
  interfaces := #[]
  cf := some (fileOf pool1 70 #[] #[{ accessFlags := 1, nameIndex := 5, descriptorIndex := 6, attributes := #[] }, { accessFlags := 9, nameIndex := 74, descriptorIndex := 75, attributes := #[] }] 49 2 #[] #[])
  fields := #[]
  methods := #[k1m0, k1m1]
  instanceTypes := #[]
  staticTypes := #[]
  resolved := Array.replicate 85 none
  statics := none }

def pool2 : Array CpInfo := pool [(1, .class_ 2), (0, u "java/lang/constant/Constable"), (0, .class_ 4), (0, u "java/lang/Object")] 6

/-- java/lang/constant/Constable -/
def k2 : Class := { plain "java/lang/constant/Constable" (some 0) with
  accessFlags := 1537
  interfaces := #[]
  cf := some (fileOf pool2 1 #[] #[] 1537 3 #[] #[])
  fields := #[]
  methods := #[]
  instanceTypes := #[]
  staticTypes := #[]
  resolved := Array.replicate 11 none
  statics := none }

def pool3 : Array CpInfo := pool [(1, .class_ 2), (0, u "java/lang/Comparable"), (0, .class_ 4), (0, u "java/lang/Object")] 7

/-- java/lang/Comparable -/
def k3 : Class := { plain "java/lang/Comparable" (some 0) with
  accessFlags := 1537
  interfaces := #[]
  cf := some (fileOf pool3 1 #[] #[] 1537 3 #[] #[])
  fields := #[]
  methods := #[]
  instanceTypes := #[]
  staticTypes := #[]
  resolved := Array.replicate 12 none
  statics := none }

def pool4 : Array CpInfo := pool [(1, .class_ 2), (0, u "java/io/Serializable"), (0, .class_ 4), (0, u "java/lang/Object")] 2

/-- java/io/Serializable -/
def k4 : Class := { plain "java/io/Serializable" (some 0) with
  accessFlags := 1537
  interfaces := #[]
  cf := some (fileOf pool4 1 #[] #[] 1537 3 #[] #[])
  fields := #[]
  methods := #[]
  instanceTypes := #[]
  staticTypes := #[]
  resolved := Array.replicate 7 none
  statics := none }

def pool5 : Array CpInfo := pool [(2, .class_ 4), (1, u "java/lang/Enum"), (0, u "name"), (0, u "Ljava/lang/String;"), (2, u "ordinal"), (0, u "I"), (1, .class_ 14), (1, u "java/lang/Object"), (4, u "hash"), (86, .class_ 108), (1, u "java/lang/Enum$EnumDesc"), (2, .class_ 112), (0, u "java/lang/constant/Constable"), (0, .class_ 114), (0, u "java/lang/Comparable"), (0, .class_ 116), (0, u "java/io/Serializable")] 87

/-- java/lang/Enum -/
def k5 : Class := { plain "java/lang/Enum" (some 0) with
  accessFlags := 1057
  interfaces := #[2, 3, 4]
  cf := some (fileOf pool5 2 #[.nestMembers #[106]] #[] 1057 12 #[111, 113, 115] #[{ accessFlags := 18, nameIndex := 5, descriptorIndex := 6, attributes := #[] }, { accessFlags := 18, nameIndex := 9, descriptorIndex := 10, attributes := #[] }, { accessFlags := 2, nameIndex := 19, descriptorIndex := 10, attributes := #[] }])
  fields := #[{ name := "name", type := (.object "java/lang/String"), accessFlags := 18, slot := 0, constantValue := 0 }, { name := "ordinal", type := .int, accessFlags := 18, slot := 1, constantValue := 0 }, { name := "hash", type := .int, accessFlags := 2, slot := 2, constantValue := 0 }]
  methods := #[]
  instanceTypes := #[(.object "java/lang/String"), .int, .int]
  staticTypes := #[]
  resolved := Array.replicate 204 none
  statics := none }

def pool6 : Array CpInfo := pool [(1, .class_ 2), (0, u "com/example/cantrip/cantrip/Token$Kind"), (2, u "IRI"), (0, u "Lcom/example/cantrip/cantrip/Token$Kind;"), (2, u "PNAME_NS"), (2, u "PNAME_LN"), (2, u "BLANK_NODE_LABEL"), (2, u "VAR"), (2, u "STRING"), (2, u "LANGTAG"), (2, u "INTEGER"), (2, u "DECIMAL"), (2, u "DOUBLE"), (2, u "NIL"), (2, u "ANON"), (2, u "WORD"), (2, u "PUNCT"), (2, u "EOF"), (2, u "$VALUES"), (0, u "[Lcom/example/cantrip/cantrip/Token$Kind;"), (6, .class_ 61), (1, u "java/lang/Enum"), (38, .class_ 101), (0, u "com/example/cantrip/cantrip/Token")] 2

/-- com/example/cantrip/cantrip/Token$Kind -/
def k6 : Class := { plain "com/example/cantrip/cantrip/Token$Kind" (some 5) with
  accessFlags := 16432
  interfaces := #[]
  cf := some (fileOf pool6 1 #[.nestHost 100] #[] 16432 59 #[] #[{ accessFlags := 16409, nameIndex := 5, descriptorIndex := 6, attributes := #[] }, { accessFlags := 16409, nameIndex := 9, descriptorIndex := 6, attributes := #[] }, { accessFlags := 16409, nameIndex := 12, descriptorIndex := 6, attributes := #[] }, { accessFlags := 16409, nameIndex := 15, descriptorIndex := 6, attributes := #[] }, { accessFlags := 16409, nameIndex := 18, descriptorIndex := 6, attributes := #[] }, { accessFlags := 16409, nameIndex := 21, descriptorIndex := 6, attributes := #[] }, { accessFlags := 16409, nameIndex := 24, descriptorIndex := 6, attributes := #[] }, { accessFlags := 16409, nameIndex := 27, descriptorIndex := 6, attributes := #[] }, { accessFlags := 16409, nameIndex := 30, descriptorIndex := 6, attributes := #[] }, { accessFlags := 16409, nameIndex := 33, descriptorIndex := 6, attributes := #[] }, { accessFlags := 16409, nameIndex := 36, descriptorIndex := 6, attributes := #[] }, { accessFlags := 16409, nameIndex := 39, descriptorIndex := 6, attributes := #[] }, { accessFlags := 16409, nameIndex := 42, descriptorIndex := 6, attributes := #[] }, { accessFlags := 16409, nameIndex := 45, descriptorIndex := 6, attributes := #[] }, { accessFlags := 16409, nameIndex := 48, descriptorIndex := 6, attributes := #[] }, { accessFlags := 4122, nameIndex := 51, descriptorIndex := 52, attributes := #[] }])
  fields := #[{ name := "IRI", type := (.object "com/example/cantrip/cantrip/Token$Kind"), accessFlags := 16409, slot := 0, constantValue := 0 }, { name := "PNAME_NS", type := (.object "com/example/cantrip/cantrip/Token$Kind"), accessFlags := 16409, slot := 1, constantValue := 0 }, { name := "PNAME_LN", type := (.object "com/example/cantrip/cantrip/Token$Kind"), accessFlags := 16409, slot := 2, constantValue := 0 }, { name := "BLANK_NODE_LABEL", type := (.object "com/example/cantrip/cantrip/Token$Kind"), accessFlags := 16409, slot := 3, constantValue := 0 }, { name := "VAR", type := (.object "com/example/cantrip/cantrip/Token$Kind"), accessFlags := 16409, slot := 4, constantValue := 0 }, { name := "STRING", type := (.object "com/example/cantrip/cantrip/Token$Kind"), accessFlags := 16409, slot := 5, constantValue := 0 }, { name := "LANGTAG", type := (.object "com/example/cantrip/cantrip/Token$Kind"), accessFlags := 16409, slot := 6, constantValue := 0 }, { name := "INTEGER", type := (.object "com/example/cantrip/cantrip/Token$Kind"), accessFlags := 16409, slot := 7, constantValue := 0 }, { name := "DECIMAL", type := (.object "com/example/cantrip/cantrip/Token$Kind"), accessFlags := 16409, slot := 8, constantValue := 0 }, { name := "DOUBLE", type := (.object "com/example/cantrip/cantrip/Token$Kind"), accessFlags := 16409, slot := 9, constantValue := 0 }, { name := "NIL", type := (.object "com/example/cantrip/cantrip/Token$Kind"), accessFlags := 16409, slot := 10, constantValue := 0 }, { name := "ANON", type := (.object "com/example/cantrip/cantrip/Token$Kind"), accessFlags := 16409, slot := 11, constantValue := 0 }, { name := "WORD", type := (.object "com/example/cantrip/cantrip/Token$Kind"), accessFlags := 16409, slot := 12, constantValue := 0 }, { name := "PUNCT", type := (.object "com/example/cantrip/cantrip/Token$Kind"), accessFlags := 16409, slot := 13, constantValue := 0 }, { name := "EOF", type := (.object "com/example/cantrip/cantrip/Token$Kind"), accessFlags := 16409, slot := 14, constantValue := 0 }, { name := "$VALUES", type := (.array (.object "com/example/cantrip/cantrip/Token$Kind")), accessFlags := 4122, slot := 15, constantValue := 0 }]
  methods := #[]
  instanceTypes := #[(.object "java/lang/String"), .int, .int]
  staticTypes := #[(.object "com/example/cantrip/cantrip/Token$Kind"), (.object "com/example/cantrip/cantrip/Token$Kind"), (.object "com/example/cantrip/cantrip/Token$Kind"), (.object "com/example/cantrip/cantrip/Token$Kind"), (.object "com/example/cantrip/cantrip/Token$Kind"), (.object "com/example/cantrip/cantrip/Token$Kind"), (.object "com/example/cantrip/cantrip/Token$Kind"), (.object "com/example/cantrip/cantrip/Token$Kind"), (.object "com/example/cantrip/cantrip/Token$Kind"), (.object "com/example/cantrip/cantrip/Token$Kind"), (.object "com/example/cantrip/cantrip/Token$Kind"), (.object "com/example/cantrip/cantrip/Token$Kind"), (.object "com/example/cantrip/cantrip/Token$Kind"), (.object "com/example/cantrip/cantrip/Token$Kind"), (.object "com/example/cantrip/cantrip/Token$Kind"), (.array (.object "com/example/cantrip/cantrip/Token$Kind"))]
  resolved := Array.replicate 104 none
  statics := some 0 }

def pool7 : Array CpInfo := pool [(2, .class_ 4), (1, u "java/lang/CharSequence"), (42, .class_ 48), (0, u "java/lang/CharSequence$1CodePointIterator"), (10, .class_ 60), (0, u "java/lang/CharSequence$1CharIterator"), (5, .class_ 67), (0, u "java/lang/Object")] 63

/-- java/lang/CharSequence -/
def k7 : Class := { plain "java/lang/CharSequence" (some 0) with
  accessFlags := 1537
  interfaces := #[]
  cf := some (fileOf pool7 2 #[.nestMembers #[47, 59]] #[] 1537 66 #[] #[])
  fields := #[]
  methods := #[]
  instanceTypes := #[]
  staticTypes := #[]
  resolved := Array.replicate 131 none
  statics := none }

def pool8 : Array CpInfo := pool [(1, .class_ 2), (0, u "java/lang/constant/ConstantDesc"), (0, .class_ 4), (0, u "java/lang/Object")] 32

/-- java/lang/constant/ConstantDesc -/
def k8 : Class := { plain "java/lang/constant/ConstantDesc" (some 0) with
  accessFlags := 1537
  interfaces := #[]
  cf := some (fileOf pool8 1 #[] #[] 1537 3 #[] #[])
  fields := #[]
  methods := #[]
  instanceTypes := #[]
  staticTypes := #[]
  resolved := Array.replicate 37 none
  statics := none }

def pool9 : Array CpInfo := pool [(1, .methodref 2 3), (0, .class_ 4), (0, .nameAndType 5 6), (0, u "java/lang/Object"), (0, u "<init>"), (0, u "()V"), (2, .fieldref 10 11), (0, .class_ 12), (0, .nameAndType 13 14), (0, u "java/lang/String"), (0, u "value"), (0, u "[B"), (0, .fieldref 10 16), (0, .nameAndType 17 18), (0, u "coder"), (0, u "B"), (2, u "hash"), (0, u "I"), (2, u "hashIsZero"), (0, u "Z"), (0, .methodref 10 28), (0, .nameAndType 5 29), (0, u "([CIILjava/lang/Void;)V"), (8, .fieldref 10 39), (0, .nameAndType 40 26), (0, u "COMPACT_STRINGS"), (1, .class_ 44), (1, u "java/lang/StringUTF16"), (0, u "compress"), (1, .methodref 42 48), (0, .nameAndType 49 50), (0, u "coderFromArrayLen"), (0, u "([BI)B"), (126, .methodref 42 178), (0, .nameAndType 45 179), (0, u "([CII)[B"), (395, .class_ 576), (0, u "java/lang/CharSequence"), (22, u "CASE_INSENSITIVE_ORDER"), (0, u "Ljava/util/Comparator;"), (409, u "([C)V"), (90, u "serialPersistentFields"), (0, u "[Ljava/io/ObjectStreamField;"), (0, .class_ 1104), (0, u "java/lang/String$CaseInsensitiveComparator"), (1, .class_ 1107), (0, u "java/io/Serializable"), (0, .class_ 1109), (0, u "java/lang/Comparable"), (0, .class_ 1111), (0, u "java/lang/constant/Constable"), (0, .class_ 1113), (0, u "java/lang/constant/ConstantDesc"), (2, u "serialVersionUID"), (0, u "J"), (3, u "REPL"), (0, u "C"), (2, u "LATIN1"), (1, u "UTF16")] 323

def k9m0 : Method := { name := "<init>", desc := "()V", sig := { parameters := [], returnType := none }, accessFlags := 1, code := none }
def k9c1 : Code := { maxStack := 5, maxLocals := 2, code := jdk_42_method_3_code, exceptionTable := #[], attributes := #[] }
def k9m1 : Method := { name := "<init>", desc := "([C)V", sig := { parameters := [(.array .char)], returnType := none }, accessFlags := 1, code := some k9c1 }
def k9c2 : Code := { maxStack := 4, maxLocals := 6, code := jdk_42_method_149_code, exceptionTable := #[], attributes := #[] }
def k9m2 : Method := { name := "<init>", desc := "([CIILjava/lang/Void;)V", sig := { parameters := [(.array .char), .int, .int, (.object "java/lang/Void")], returnType := none }, accessFlags := 2, code := some k9c2 }
/-- java/lang/String -/
def k9 : Class := { plain "java/lang/String" (some 0) with
  accessFlags := 49
  interfaces := #[4, 3, 7, 2, 8]
  cf := some (fileOf pool9 10 #[.nestMembers #[1103]] #[{ accessFlags := 1, nameIndex := 5, descriptorIndex := 6, attributes := #[] }, { accessFlags := 1, nameIndex := 5, descriptorIndex := 1010, attributes := #[] }, { accessFlags := 2, nameIndex := 5, descriptorIndex := 29, attributes := #[] }] 49 2 #[1106, 1108, 575, 1110, 1112] #[{ accessFlags := 18, nameIndex := 13, descriptorIndex := 14, attributes := #[] }, { accessFlags := 18, nameIndex := 17, descriptorIndex := 18, attributes := #[] }, { accessFlags := 2, nameIndex := 21, descriptorIndex := 22, attributes := #[] }, { accessFlags := 2, nameIndex := 25, descriptorIndex := 26, attributes := #[] }, { accessFlags := 26, nameIndex := 1116, descriptorIndex := 1117, attributes := #[] }, { accessFlags := 24, nameIndex := 40, descriptorIndex := 26, attributes := #[] }, { accessFlags := 26, nameIndex := 1101, descriptorIndex := 1102, attributes := #[] }, { accessFlags := 26, nameIndex := 1121, descriptorIndex := 1122, attributes := #[] }, { accessFlags := 25, nameIndex := 599, descriptorIndex := 600, attributes := #[] }, { accessFlags := 24, nameIndex := 1125, descriptorIndex := 18, attributes := #[] }, { accessFlags := 24, nameIndex := 1127, descriptorIndex := 18, attributes := #[] }])
  fields := #[{ name := "value", type := (.array .byte), accessFlags := 18, slot := 0, constantValue := 0 }, { name := "coder", type := .byte, accessFlags := 18, slot := 1, constantValue := 0 }, { name := "hash", type := .int, accessFlags := 2, slot := 2, constantValue := 0 }, { name := "hashIsZero", type := .boolean, accessFlags := 2, slot := 3, constantValue := 0 }, { name := "serialVersionUID", type := .long, accessFlags := 26, slot := 0, constantValue := 0 }, { name := "COMPACT_STRINGS", type := .boolean, accessFlags := 24, slot := 1, constantValue := 0 }, { name := "serialPersistentFields", type := (.array (.object "java/io/ObjectStreamField")), accessFlags := 26, slot := 2, constantValue := 0 }, { name := "REPL", type := .char, accessFlags := 26, slot := 3, constantValue := 0 }, { name := "CASE_INSENSITIVE_ORDER", type := (.object "java/util/Comparator"), accessFlags := 25, slot := 4, constantValue := 0 }, { name := "LATIN1", type := .byte, accessFlags := 24, slot := 5, constantValue := 0 }, { name := "UTF16", type := .byte, accessFlags := 24, slot := 6, constantValue := 0 }]
  methods := #[k9m0, k9m1, k9m2]
  instanceTypes := #[(.array .byte), .byte, .int, .boolean]
  staticTypes := #[.long, .boolean, (.array (.object "java/io/ObjectStreamField")), .char, (.object "java/util/Comparator"), .byte, .byte]
  resolved := Array.replicate 1451 none
  statics := some 1 }

def pool10 : Array CpInfo := pool [(6, .class_ 8), (1, u "java/lang/Object"), (0, u "<init>"), (0, u "()V"), (1, .class_ 14), (1, u "java/lang/StringUTF16"), (31, u "$assertionsDisabled"), (0, u "Z"), (13, u "HI_BYTE_SHIFT"), (0, u "I"), (2, u "LO_BYTE_SHIFT"), (49, .methodref 12 116), (0, .nameAndType 117 118), (0, u "compress"), (0, u "([CI[BII)I"), (3, u "([CII)[B"), (138, u "coderFromArrayLen"), (0, u "([BI)B"), (106, .class_ 371), (1, u "java/lang/StringUTF16$LinesSpliterator"), (58, u "MAX_LENGTH"), (196, .class_ 628), (0, u "java/lang/StringUTF16$CodePointsSpliterator"), (0, .class_ 630), (0, u "java/lang/StringUTF16$CharsSpliterator")] 4

def k10m0 : Method := { name := "<init>", desc := "()V", sig := { parameters := [], returnType := none }, accessFlags := 0, code := none }
def k10c1 : Code := { maxStack := 2, maxLocals := 2, code := jdk_52_method_15_code, exceptionTable := #[], attributes := #[] }
def k10m1 : Method := { name := "coderFromArrayLen", desc := "([BI)B", sig := { parameters := [(.array .byte), .int], returnType := some .byte }, accessFlags := 8, code := some k10c1 }
def k10c2 : Code := { maxStack := 5, maxLocals := 6, code := jdk_52_method_16_code, exceptionTable := #[], attributes := #[] }
def k10m2 : Method := { name := "compress", desc := "([CII)[B", sig := { parameters := [(.array .char), .int, .int], returnType := some (.array .byte) }, accessFlags := 9, code := some k10c2 }
def k10c3 : Code := { maxStack := 3, maxLocals := 7, code := jdk_52_method_21_code, exceptionTable := #[], attributes := #[] }
def k10m3 : Method := { name := "compress", desc := "([CI[BII)I", sig := { parameters := [(.array .char), .int, (.array .byte), .int, .int], returnType := some .int }, accessFlags := 9, code := some k10c3 }
/-- java/lang/StringUTF16 -/
def k10 : Class := { plain "java/lang/StringUTF16" (some 0) with
  accessFlags := 48
  interfaces := #[]
  cf := some (fileOf pool10 12 #[.nestMembers #[627, 629, 369]] #[{ accessFlags := 0, nameIndex := 9, descriptorIndex := 10, attributes := #[] }, { accessFlags := 8, nameIndex := 261, descriptorIndex := 262, attributes := #[] }, { accessFlags := 9, nameIndex := 117, descriptorIndex := 122, attributes := #[] }, { accessFlags := 9, nameIndex := 117, descriptorIndex := 118, attributes := #[] }] 48 6 #[] #[{ accessFlags := 26, nameIndex := 61, descriptorIndex := 62, attributes := #[] }, { accessFlags := 26, nameIndex := 65, descriptorIndex := 62, attributes := #[] }, { accessFlags := 24, nameIndex := 430, descriptorIndex := 62, attributes := #[] }, { accessFlags := 4120, nameIndex := 46, descriptorIndex := 47, attributes := #[] }])
  fields := #[{ name := "HI_BYTE_SHIFT", type := .int, accessFlags := 26, slot := 0, constantValue := 0 }, { name := "LO_BYTE_SHIFT", type := .int, accessFlags := 26, slot := 1, constantValue := 0 }, { name := "MAX_LENGTH", type := .int, accessFlags := 24, slot := 2, constantValue := 0 }, { name := "$assertionsDisabled", type := .boolean, accessFlags := 4120, slot := 3, constantValue := 0 }]
  methods := #[k10m0, k10m1, k10m2, k10m3]
  instanceTypes := #[]
  staticTypes := #[.int, .int, .int, .boolean]
  resolved := Array.replicate 635 none
  statics := none }

def pool11 : Array CpInfo := pool [(1, .methodref 2 3), (0, .class_ 4), (0, .nameAndType 5 6), (0, u "java/lang/Object"), (0, u "<init>"), (0, u "()V"), (0, .class_ 8), (0, u "java/lang/Record")] 13

def k11c0 : Code := { maxStack := 1, maxLocals := 1, code := jdk_30_method_1_code, exceptionTable := #[], attributes := #[] }
def k11m0 : Method := { name := "<init>", desc := "()V", sig := { parameters := [], returnType := none }, accessFlags := 4, code := some k11c0 }
/-- java/lang/Record -/
def k11 : Class := { plain "java/lang/Record" (some 0) with
  accessFlags := 1057
  interfaces := #[]
  cf := some (fileOf pool11 7 #[] #[{ accessFlags := 4, nameIndex := 5, descriptorIndex := 6, attributes := #[] }] 1057 2 #[] #[])
  fields := #[]
  methods := #[k11m0]
  instanceTypes := #[]
  staticTypes := #[]
  resolved := Array.replicate 22 none
  statics := none }

def pool12 : Array CpInfo := pool [(1, .methodref 2 3), (0, .class_ 4), (0, .nameAndType 5 6), (0, u "java/lang/Record"), (0, u "<init>"), (0, u "()V"), (0, .fieldref 8 9), (0, .class_ 10), (0, .nameAndType 11 12), (0, u "com/example/cantrip/cantrip/Token"), (0, u "kind"), (0, u "Lcom/example/cantrip/cantrip/Token$Kind;"), (0, .fieldref 8 14), (0, .nameAndType 15 16), (0, u "text"), (0, u "Ljava/lang/String;"), (0, .fieldref 8 18), (0, .nameAndType 19 20), (0, u "offset"), (0, u "I"), (1, .class_ 24), (1, u "com/example/cantrip/cantrip/Token$Kind"), (16, u "isNumber"), (0, u "()Z"), (7, .fieldref 22 51), (0, .nameAndType 52 12), (0, u "INTEGER"), (0, .fieldref 22 54), (0, .nameAndType 55 12), (0, u "DECIMAL"), (0, .fieldref 22 57), (0, .nameAndType 58 12), (0, u "DOUBLE"), (31, u "(Lcom/example/cantrip/cantrip/Token$Kind;Ljava/lang/String;I)V")] 50

def k12c0 : Code := { maxStack := 2, maxLocals := 4, code := prog_3_method_1_code, exceptionTable := #[], attributes := #[] }
def k12m0 : Method := { name := "<init>", desc := "(Lcom/example/cantrip/cantrip/Token$Kind;Ljava/lang/String;I)V", sig := { parameters := [(.object "com/example/cantrip/cantrip/Token$Kind"), (.object "java/lang/String"), .int], returnType := none }, accessFlags := 0, code := some k12c0 }
def k12c1 : Code := { maxStack := 2, maxLocals := 1, code := prog_3_method_5_code, exceptionTable := #[], attributes := #[] }
def k12m1 : Method := { name := "isNumber", desc := "()Z", sig := { parameters := [], returnType := some .boolean }, accessFlags := 0, code := some k12c1 }
/-- com/example/cantrip/cantrip/Token -/
def k12 : Class := { plain "com/example/cantrip/cantrip/Token" (some 11) with
  accessFlags := 48
  interfaces := #[]
  cf := some (fileOf pool12 8 #[.nestMembers #[22]] #[{ accessFlags := 0, nameIndex := 5, descriptorIndex := 90, attributes := #[] }, { accessFlags := 0, nameIndex := 41, descriptorIndex := 42, attributes := #[] }] 48 2 #[] #[{ accessFlags := 18, nameIndex := 11, descriptorIndex := 12, attributes := #[] }, { accessFlags := 18, nameIndex := 15, descriptorIndex := 16, attributes := #[] }, { accessFlags := 18, nameIndex := 19, descriptorIndex := 20, attributes := #[] }])
  fields := #[{ name := "kind", type := (.object "com/example/cantrip/cantrip/Token$Kind"), accessFlags := 18, slot := 0, constantValue := 0 }, { name := "text", type := (.object "java/lang/String"), accessFlags := 18, slot := 1, constantValue := 0 }, { name := "offset", type := .int, accessFlags := 18, slot := 2, constantValue := 0 }]
  methods := #[k12m0, k12m1]
  instanceTypes := #[(.object "com/example/cantrip/cantrip/Token$Kind"), (.object "java/lang/String"), .int]
  staticTypes := #[]
  resolved := Array.replicate 141 none
  statics := none }

def pool13 : Array CpInfo := pool [(4, .class_ 6), (1, u "java/lang/Object"), (0, u "<init>"), (0, u "()V"), (5, .class_ 16), (1, u "java/lang/StringLatin1"), (104, u "$assertionsDisabled"), (0, u "Z"), (98, .class_ 223), (1, u "java/lang/StringLatin1$LinesSpliterator"), (166, .class_ 391), (0, u "java/lang/StringLatin1$CharsSpliterator")] 3

def k13m0 : Method := { name := "<init>", desc := "()V", sig := { parameters := [], returnType := none }, accessFlags := 0, code := none }
/-- java/lang/StringLatin1 -/
def k13 : Class := { plain "java/lang/StringLatin1" (some 0) with
  accessFlags := 48
  interfaces := #[]
  cf := some (fileOf pool13 14 #[.nestMembers #[390, 221]] #[{ accessFlags := 0, nameIndex := 7, descriptorIndex := 8, attributes := #[] }] 48 4 #[] #[{ accessFlags := 4120, nameIndex := 121, descriptorIndex := 122, attributes := #[] }])
  fields := #[{ name := "$assertionsDisabled", type := .boolean, accessFlags := 4120, slot := 0, constantValue := 0 }]
  methods := #[k13m0]
  instanceTypes := #[]
  staticTypes := #[.boolean]
  resolved := Array.replicate 395 none
  statics := none }

def pool14 : Array CpInfo := pool [(2, .class_ 4), (1, u "java/lang/Object"), (0, u "<init>"), (0, u "()V"), (17, .class_ 26), (1, u "jdk/internal/util/Preconditions"), (28, .class_ 56), (0, u "jdk/internal/util/Preconditions$4"), (57, .class_ 115), (0, u "jdk/internal/util/Preconditions$1"), (7, u "SIOOBE_FORMATTER"), (0, u "Ljava/util/function/BiFunction;"), (0, .class_ 126), (0, u "jdk/internal/util/Preconditions$2"), (3, u "AIOOBE_FORMATTER"), (0, .class_ 132), (0, u "jdk/internal/util/Preconditions$3"), (3, u "IOOBE_FORMATTER")] 57

def k14m0 : Method := { name := "<init>", desc := "()V", sig := { parameters := [], returnType := none }, accessFlags := 1, code := none }
/-- jdk/internal/util/Preconditions -/
def k14 : Class := { plain "jdk/internal/util/Preconditions" (some 0) with
  accessFlags := 33
  interfaces := #[]
  cf := some (fileOf pool14 24 #[.nestMembers #[55, 131, 125, 114]] #[{ accessFlags := 1, nameIndex := 5, descriptorIndex := 6, attributes := #[] }] 33 2 #[] #[{ accessFlags := 25, nameIndex := 123, descriptorIndex := 124, attributes := #[] }, { accessFlags := 25, nameIndex := 130, descriptorIndex := 124, attributes := #[] }, { accessFlags := 25, nameIndex := 136, descriptorIndex := 124, attributes := #[] }])
  fields := #[{ name := "SIOOBE_FORMATTER", type := (.object "java/util/function/BiFunction"), accessFlags := 25, slot := 0, constantValue := 0 }, { name := "AIOOBE_FORMATTER", type := (.object "java/util/function/BiFunction"), accessFlags := 25, slot := 1, constantValue := 0 }, { name := "IOOBE_FORMATTER", type := (.object "java/util/function/BiFunction"), accessFlags := 25, slot := 2, constantValue := 0 }]
  methods := #[k14m0]
  instanceTypes := #[]
  staticTypes := #[(.object "java/util/function/BiFunction"), (.object "java/util/function/BiFunction"), (.object "java/util/function/BiFunction")]
  resolved := Array.replicate 194 none
  statics := some 2 }

def pool15 : Array CpInfo := pool [(9, u "<init>"), (6, .class_ 18), (1, u "java/lang/Object"), (0, u "()V"), (1, .class_ 23), (1, u "jdk/internal/util/ArraysSupport"), (0, u "LOG2_ARRAY_LONG_INDEX_SCALE"), (0, u "I"), (2, u "U"), (0, u "Ljdk/internal/misc/Unsafe;"), (8, u "BIG_ENDIAN"), (0, u "Z"), (8, u "LOG2_BYTE_BIT_SIZE"), (4, u "LOG2_ARRAY_INT_INDEX_SCALE"), (54, u "JLA"), (0, u "Ljdk/internal/access/JavaLangAccess;"), (11, u "LOG2_ARRAY_BOOLEAN_INDEX_SCALE"), (9, u "LOG2_ARRAY_BYTE_INDEX_SCALE"), (5, u "LOG2_ARRAY_CHAR_INDEX_SCALE"), (5, u "LOG2_ARRAY_SHORT_INDEX_SCALE"), (18, u "LOG2_ARRAY_FLOAT_INDEX_SCALE"), (24, u "LOG2_ARRAY_DOUBLE_INDEX_SCALE"), (89, u "T_BOOLEAN"), (2, u "T_CHAR"), (1, u "T_FLOAT"), (1, u "T_DOUBLE"), (1, u "T_BYTE"), (1, u "T_SHORT"), (1, u "T_INT"), (1, u "T_LONG"), (1, u "SOFT_MAX_ARRAY_LENGTH")] 83

def k15m0 : Method := { name := "<init>", desc := "()V", sig := { parameters := [], returnType := none }, accessFlags := 2, code := none }
/-- jdk/internal/util/ArraysSupport -/
def k15 : Class := { plain "jdk/internal/util/ArraysSupport" (some 0) with
  accessFlags := 33
  interfaces := #[]
  cf := some (fileOf pool15 21 #[] #[{ accessFlags := 2, nameIndex := 9, descriptorIndex := 19, attributes := #[] }] 33 16 #[] #[{ accessFlags := 24, nameIndex := 28, descriptorIndex := 29, attributes := #[] }, { accessFlags := 26, nameIndex := 38, descriptorIndex := 39, attributes := #[] }, { accessFlags := 25, nameIndex := 121, descriptorIndex := 25, attributes := #[] }, { accessFlags := 25, nameIndex := 131, descriptorIndex := 25, attributes := #[] }, { accessFlags := 25, nameIndex := 137, descriptorIndex := 25, attributes := #[] }, { accessFlags := 25, nameIndex := 143, descriptorIndex := 25, attributes := #[] }, { accessFlags := 25, nameIndex := 53, descriptorIndex := 25, attributes := #[] }, { accessFlags := 25, nameIndex := 24, descriptorIndex := 25, attributes := #[] }, { accessFlags := 25, nameIndex := 162, descriptorIndex := 25, attributes := #[] }, { accessFlags := 25, nameIndex := 187, descriptorIndex := 25, attributes := #[] }, { accessFlags := 26, nameIndex := 48, descriptorIndex := 25, attributes := #[] }, { accessFlags := 25, nameIndex := 277, descriptorIndex := 25, attributes := #[] }, { accessFlags := 25, nameIndex := 280, descriptorIndex := 25, attributes := #[] }, { accessFlags := 25, nameIndex := 282, descriptorIndex := 25, attributes := #[] }, { accessFlags := 25, nameIndex := 284, descriptorIndex := 25, attributes := #[] }, { accessFlags := 25, nameIndex := 286, descriptorIndex := 25, attributes := #[] }, { accessFlags := 25, nameIndex := 288, descriptorIndex := 25, attributes := #[] }, { accessFlags := 25, nameIndex := 290, descriptorIndex := 25, attributes := #[] }, { accessFlags := 25, nameIndex := 292, descriptorIndex := 25, attributes := #[] }, { accessFlags := 26, nameIndex := 108, descriptorIndex := 109, attributes := #[] }, { accessFlags := 25, nameIndex := 294, descriptorIndex := 25, attributes := #[] }])
  fields := #[{ name := "U", type := (.object "jdk/internal/misc/Unsafe"), accessFlags := 24, slot := 0, constantValue := 0 }, { name := "BIG_ENDIAN", type := .boolean, accessFlags := 26, slot := 1, constantValue := 0 }, { name := "LOG2_ARRAY_BOOLEAN_INDEX_SCALE", type := .int, accessFlags := 25, slot := 2, constantValue := 0 }, { name := "LOG2_ARRAY_BYTE_INDEX_SCALE", type := .int, accessFlags := 25, slot := 3, constantValue := 0 }, { name := "LOG2_ARRAY_CHAR_INDEX_SCALE", type := .int, accessFlags := 25, slot := 4, constantValue := 0 }, { name := "LOG2_ARRAY_SHORT_INDEX_SCALE", type := .int, accessFlags := 25, slot := 5, constantValue := 0 }, { name := "LOG2_ARRAY_INT_INDEX_SCALE", type := .int, accessFlags := 25, slot := 6, constantValue := 0 }, { name := "LOG2_ARRAY_LONG_INDEX_SCALE", type := .int, accessFlags := 25, slot := 7, constantValue := 0 }, { name := "LOG2_ARRAY_FLOAT_INDEX_SCALE", type := .int, accessFlags := 25, slot := 8, constantValue := 0 }, { name := "LOG2_ARRAY_DOUBLE_INDEX_SCALE", type := .int, accessFlags := 25, slot := 9, constantValue := 0 }, { name := "LOG2_BYTE_BIT_SIZE", type := .int, accessFlags := 26, slot := 10, constantValue := 0 }, { name := "T_BOOLEAN", type := .int, accessFlags := 25, slot := 11, constantValue := 0 }, { name := "T_CHAR", type := .int, accessFlags := 25, slot := 12, constantValue := 0 }, { name := "T_FLOAT", type := .int, accessFlags := 25, slot := 13, constantValue := 0 }, { name := "T_DOUBLE", type := .int, accessFlags := 25, slot := 14, constantValue := 0 }, { name := "T_BYTE", type := .int, accessFlags := 25, slot := 15, constantValue := 0 }, { name := "T_SHORT", type := .int, accessFlags := 25, slot := 16, constantValue := 0 }, { name := "T_INT", type := .int, accessFlags := 25, slot := 17, constantValue := 0 }, { name := "T_LONG", type := .int, accessFlags := 25, slot := 18, constantValue := 0 }, { name := "JLA", type := (.object "jdk/internal/access/JavaLangAccess"), accessFlags := 26, slot := 19, constantValue := 0 }, { name := "SOFT_MAX_ARRAY_LENGTH", type := .int, accessFlags := 25, slot := 20, constantValue := 0 }]
  methods := #[k15m0]
  instanceTypes := #[]
  staticTypes := #[(.object "jdk/internal/misc/Unsafe"), .boolean, .int, .int, .int, .int, .int, .int, .int, .int, .int, .int, .int, .int, .int, .int, .int, .int, .int, (.object "jdk/internal/access/JavaLangAccess"), .int]
  resolved := Array.replicate 378 none
  statics := none }

def pool16 : Array CpInfo := pool [(1, u "java/lang/Cloneable"), (0, .class_ 1), (0, u "java/lang/Object"), (0, .class_ 3)] 3

/-- java/lang/Cloneable -/
def k16 : Class := { plain "java/lang/Cloneable" (some 0) with
  accessFlags := 1537
  interfaces := #[]
  cf := some (fileOf pool16 2 #[] #[] 1537 4 #[] #[])
  fields := #[]
  methods := #[]
  instanceTypes := #[]
  staticTypes := #[]
  resolved := Array.replicate 8 none
  statics := none }

/-- the primitive byte -/
def k17 : Class := { plain "byte" none with kind := .primitive 'B', accessFlags := 0x411 }
/-- [B -/
def k18 : Class := { plain "[B" (some 0) with kind := .array 17 .byte, interfaces := #[16, 4], accessFlags := 1041 }

/-- the primitive char -/
def k19 : Class := { plain "char" none with kind := .primitive 'C', accessFlags := 0x411 }
/-- [C -/
def k20 : Class := { plain "[C" (some 0) with kind := .array 19 .char, interfaces := #[16, 4], accessFlags := 1041 }

/-- the primitive int -/
def k21 : Class := { plain "int" none with kind := .primitive 'I', accessFlags := 0x411 }
/-- [I -/
def k22 : Class := { plain "[I" (some 0) with kind := .array 21 .int, interfaces := #[16, 4], accessFlags := 1041 }

/-- [Lcom/example/cantrip/cantrip/Token$Kind; -/
def k23 : Class := { plain "[Lcom/example/cantrip/cantrip/Token$Kind;" (some 0) with kind := .array 6 (.object "com/example/cantrip/cantrip/Token$Kind"), interfaces := #[16, 4], accessFlags := 1041 }

def heap : Heap := #[{ cls := 6, slots := #[.ref 3, .ref 4, .ref 5, .ref 6, .ref 7, .ref 8, .ref 9, .ref 10, .ref 11, .ref 12, .ref 13, .ref 14, .ref 15, .ref 16, .ref 17, .null], vm := .statics 6 },
  { cls := 9, slots := #[.long 0, .int 1, .null, .int 0, .null, .int 0, .int 0], vm := .statics 9 },
  { cls := 14, slots := #[.null, .null, .null], vm := .statics 14 },
  { cls := 6, slots := #[.null, .int 0, .int 0], vm := .none },
  { cls := 6, slots := #[.null, .int 1, .int 0], vm := .none },
  { cls := 6, slots := #[.null, .int 2, .int 0], vm := .none },
  { cls := 6, slots := #[.null, .int 3, .int 0], vm := .none },
  { cls := 6, slots := #[.null, .int 4, .int 0], vm := .none },
  { cls := 6, slots := #[.null, .int 5, .int 0], vm := .none },
  { cls := 6, slots := #[.null, .int 6, .int 0], vm := .none },
  { cls := 6, slots := #[.null, .int 7, .int 0], vm := .none },
  { cls := 6, slots := #[.null, .int 8, .int 0], vm := .none },
  { cls := 6, slots := #[.null, .int 9, .int 0], vm := .none },
  { cls := 6, slots := #[.null, .int 10, .int 0], vm := .none },
  { cls := 6, slots := #[.null, .int 11, .int 0], vm := .none },
  { cls := 6, slots := #[.null, .int 12, .int 0], vm := .none },
  { cls := 6, slots := #[.null, .int 13, .int 0], vm := .none },
  { cls := 6, slots := #[.null, .int 14, .int 0], vm := .none }]
def classes : Array Class := #[k0, k1, k2, k3, k4, k5, k6, k7, k8, k9, k10, k11, k12, k13, k14, k15, k16, k17, k18, k19, k20, k21, k22, k23]
def interned : List (Array UInt16 × Addr) := []
def slotsUsed : Nat := 71
def theMethod : MethodId := ⟨1, 1⟩
def args0 : Array Value := #[.int 8, .int 16705, .int 3]
def aboutOver (below : List Frame) : State where
  vm := { classes := classes, interned := interned.toArray }
  heap := heap
  slotsUsed := slotsUsed
  threads := #[{ frames := .invoking theMethod args0 :: below }]
def below0 : List Frame := [.native { method := ⟨0, 0⟩, args := #[] }]
def about1 : State := aboutOver below0
def p0 : Program := .bare "" "" ""
def e0 : Env := launch0.env 0 0 0
theorem w_frames : about1.frames = Frame.invoking theMethod args0 :: below0 := rfl
set_option maxRecDepth 65536 in
theorem w_args : argsFit about1.vm theMethod args0 = true := by decide +kernel
set_option maxRecDepth 65536 in
theorem w_heap : heapFits about1 = true := by decide +kernel
set_option maxRecDepth 65536 in
theorem w_runnable : about1.curStatus? = some .runnable := by decide +kernel
set_option maxRecDepth 65536 in
theorem w_alone : about1.alone = true := by decide +kernel
set_option maxRecDepth 65536 in
theorem w_named : about1.methodNamed? x = some theMethod := by decide +kernel
set_option maxRecDepth 65536 in
theorem w_hears : about1.hears theMethod below0 = true := by decide +kernel
set_option maxRecDepth 65536 in
theorem w_ripe : about1.ripe theMethod args0 below0 = true := by decide +kernel
theorem w_running : about1.status = .running := rfl
set_option maxRecDepth 65536 in
theorem w_room : about1.hasRoom e0.platform room_1 = true :=
  launch0.hasRoom_least _ room_1 (by decide +kernel) (by decide +kernel) (by decide +kernel) (by decide +kernel) (by decide +kernel) (by decide +kernel)
theorem allAtoms_all (ts : List Jvm.Cond) (a : Array Jvm.Value) (st : Jvm.State) : (allAtoms ts).before a st = ts.all (fun c => c.before a st) := by
  induction ts with
  | nil => rfl
  | cons c t ih =>
    show (Jvm.Cond.and c (allAtoms t)).before a st = _
    rw [Jvm.Cond.before_and, ih, List.all_cons]
def words1 : List Jvm.Cond := Jvm.Cond.code x code maxLocals ret :: tables_1
/-- a 'code' word, met by the world's own term for the bytes: nothing is compared byte by byte -/
theorem code_word {y : MethodName} {bytes : ByteArray} {mx : Nat} {rt : Option FieldType} {a : Array Value} {s : State} {m : MethodId} {meth : Method} {c : Code} (h1 : s.methodNamed? y = some m) (h2 : s.vm.method? m = some meth) (h3 : meth.code = some c) (h4 : c.code = bytes)
    (h5 : (c.maxLocals == mx && c.exceptionTable.isEmpty && decide (c.maxStack ≤ mostOperands) && decide (meth.sig.returnType = rt) && !meth.locks && decide (parseMethodDescriptor y.desc = some meth.sig)) = true) : (Jvm.Cond.code y bytes mx rt).before a s = true := by
  simp only [Bool.and_eq_true, beq_iff_eq, Bool.not_eq_true', decide_eq_true_eq] at h5
  obtain ⟨⟨⟨⟨⟨g1, g2⟩, g3⟩, g4⟩, g5⟩, g6⟩ := h5
  simp [Cond.before, Cond.holds, Cond.value, h1, h2, h3, h4, g1, g2, g3, g4, g5, g6]
def isCode : Jvm.Cond → Bool
  | .code _ _ _ _ => true
  | _ => false
theorem all_split {L : List Jvm.Cond} {P : Jvm.Cond → Bool} (h1 : L.all (fun c => isCode c || P c) = true) (h2 : ∀ c ∈ L.filter isCode, P c = true) : L.all P = true := by
  refine List.all_eq_true.mpr fun c hc => ?_
  have h := List.all_eq_true.mp h1 c hc
  rcases Bool.eq_false_or_eq_true (isCode c) with hi | hi
  · exact h2 c (List.mem_filter.mpr ⟨hc, hi⟩)
  · simpa [hi] using h
set_option maxRecDepth 65536 in
theorem w_c0 : (Jvm.Cond.code x code maxLocals ret).before args0 about1 = true := code_word (m := ⟨1, 1⟩) (meth := k1m1) (c := k1c1) (by decide +kernel) rfl rfl rfl (by decide +kernel)
set_option maxRecDepth 65536 in
theorem w_c1 : (Jvm.Cond.code ({ cls := "java/lang/String", name := "<init>", desc := "([C)V" } : Jvm.MethodName) jdk_42_method_3_code (2 : Nat) (Option.none : Option Jvm.ClassFile.FieldType)).before args0 about1 = true := code_word (m := ⟨9, 1⟩) (meth := k9m1) (c := k9c1) (by decide +kernel) rfl rfl rfl (by decide +kernel)
set_option maxRecDepth 65536 in
theorem w_c2 : (Jvm.Cond.code ({ cls := "java/lang/String", name := "<init>", desc := "([CIILjava/lang/Void;)V" } : Jvm.MethodName) jdk_42_method_149_code (6 : Nat) (Option.none : Option Jvm.ClassFile.FieldType)).before args0 about1 = true := code_word (m := ⟨9, 2⟩) (meth := k9m2) (c := k9c2) (by decide +kernel) rfl rfl rfl (by decide +kernel)
set_option maxRecDepth 65536 in
theorem w_c3 : (Jvm.Cond.code ({ cls := "java/lang/Object", name := "<init>", desc := "()V" } : Jvm.MethodName) object_method_1_code (1 : Nat) (Option.none : Option Jvm.ClassFile.FieldType)).before args0 about1 = true := code_word (m := ⟨0, 0⟩) (meth := k0m0) (c := k0c0) (by decide +kernel) rfl rfl rfl (by decide +kernel)
set_option maxRecDepth 65536 in
theorem w_c4 : (Jvm.Cond.code ({ cls := "java/lang/StringUTF16", name := "compress", desc := "([CII)[B" } : Jvm.MethodName) jdk_52_method_16_code (6 : Nat) (Option.some (Jvm.ClassFile.FieldType.array Jvm.ClassFile.FieldType.byte))).before args0 about1 = true := code_word (m := ⟨10, 2⟩) (meth := k10m2) (c := k10c2) (by decide +kernel) rfl rfl rfl (by decide +kernel)
set_option maxRecDepth 65536 in
theorem w_c5 : (Jvm.Cond.code ({ cls := "java/lang/StringUTF16", name := "compress", desc := "([CI[BII)I" } : Jvm.MethodName) jdk_52_method_21_code (7 : Nat) (Option.some Jvm.ClassFile.FieldType.int)).before args0 about1 = true := code_word (m := ⟨10, 3⟩) (meth := k10m3) (c := k10c3) (by decide +kernel) rfl rfl rfl (by decide +kernel)
set_option maxRecDepth 65536 in
theorem w_c6 : (Jvm.Cond.code ({ cls := "java/lang/StringUTF16", name := "coderFromArrayLen", desc := "([BI)B" } : Jvm.MethodName) jdk_52_method_15_code (2 : Nat) (Option.some Jvm.ClassFile.FieldType.byte)).before args0 about1 = true := code_word (m := ⟨10, 1⟩) (meth := k10m1) (c := k10c1) (by decide +kernel) rfl rfl rfl (by decide +kernel)
set_option maxRecDepth 65536 in
theorem w_c7 : (Jvm.Cond.code ({ cls := "com/example/cantrip/cantrip/Token", name := "<init>", desc := "(Lcom/example/cantrip/cantrip/Token$Kind;Ljava/lang/String;I)V" } : Jvm.MethodName) prog_3_method_1_code (4 : Nat) (Option.none : Option Jvm.ClassFile.FieldType)).before args0 about1 = true := code_word (m := ⟨12, 0⟩) (meth := k12m0) (c := k12c0) (by decide +kernel) rfl rfl rfl (by decide +kernel)
set_option maxRecDepth 65536 in
theorem w_c8 : (Jvm.Cond.code ({ cls := "java/lang/Record", name := "<init>", desc := "()V" } : Jvm.MethodName) jdk_30_method_1_code (1 : Nat) (Option.none : Option Jvm.ClassFile.FieldType)).before args0 about1 = true := code_word (m := ⟨11, 0⟩) (meth := k11m0) (c := k11c0) (by decide +kernel) rfl rfl rfl (by decide +kernel)
set_option maxRecDepth 65536 in
theorem w_c9 : (Jvm.Cond.code ({ cls := "com/example/cantrip/cantrip/Token", name := "isNumber", desc := "()Z" } : Jvm.MethodName) prog_3_method_5_code (1 : Nat) (Option.some Jvm.ClassFile.FieldType.boolean)).before args0 about1 = true := code_word (m := ⟨12, 1⟩) (meth := k12m1) (c := k12c1) (by decide +kernel) rfl rfl rfl (by decide +kernel)
def codes1 : List Jvm.Cond := [Jvm.Cond.code x code maxLocals ret, Jvm.Cond.code ({ cls := "java/lang/String", name := "<init>", desc := "([C)V" } : Jvm.MethodName) jdk_42_method_3_code (2 : Nat) (Option.none : Option Jvm.ClassFile.FieldType), Jvm.Cond.code ({ cls := "java/lang/String", name := "<init>", desc := "([CIILjava/lang/Void;)V" } : Jvm.MethodName) jdk_42_method_149_code (6 : Nat) (Option.none : Option Jvm.ClassFile.FieldType), Jvm.Cond.code ({ cls := "java/lang/Object", name := "<init>", desc := "()V" } : Jvm.MethodName) object_method_1_code (1 : Nat) (Option.none : Option Jvm.ClassFile.FieldType), Jvm.Cond.code ({ cls := "java/lang/StringUTF16", name := "compress", desc := "([CII)[B" } : Jvm.MethodName) jdk_52_method_16_code (6 : Nat) (Option.some (Jvm.ClassFile.FieldType.array Jvm.ClassFile.FieldType.byte)), Jvm.Cond.code ({ cls := "java/lang/StringUTF16", name := "compress", desc := "([CI[BII)I" } : Jvm.MethodName) jdk_52_method_21_code (7 : Nat) (Option.some Jvm.ClassFile.FieldType.int), Jvm.Cond.code ({ cls := "java/lang/StringUTF16", name := "coderFromArrayLen", desc := "([BI)B" } : Jvm.MethodName) jdk_52_method_15_code (2 : Nat) (Option.some Jvm.ClassFile.FieldType.byte), Jvm.Cond.code ({ cls := "com/example/cantrip/cantrip/Token", name := "<init>", desc := "(Lcom/example/cantrip/cantrip/Token$Kind;Ljava/lang/String;I)V" } : Jvm.MethodName) prog_3_method_1_code (4 : Nat) (Option.none : Option Jvm.ClassFile.FieldType), Jvm.Cond.code ({ cls := "java/lang/Record", name := "<init>", desc := "()V" } : Jvm.MethodName) jdk_30_method_1_code (1 : Nat) (Option.none : Option Jvm.ClassFile.FieldType), Jvm.Cond.code ({ cls := "com/example/cantrip/cantrip/Token", name := "isNumber", desc := "()Z" } : Jvm.MethodName) prog_3_method_5_code (1 : Nat) (Option.some Jvm.ClassFile.FieldType.boolean)]
set_option maxRecDepth 65536 in
theorem codes_eq : words1.filter isCode = codes1 := rfl
theorem w_codes : ∀ c ∈ words1.filter isCode, c.before args0 about1 = true := by
  rw [codes_eq]
  intro c hc
  simp only [codes1, List.mem_cons, List.not_mem_nil, or_false] at hc
  rcases hc with rfl | rfl | rfl | rfl | rfl | rfl | rfl | rfl | rfl | rfl
  · exact w_c0
  · exact w_c1
  · exact w_c2
  · exact w_c3
  · exact w_c4
  · exact w_c5
  · exact w_c6
  · exact w_c7
  · exact w_c8
  · exact w_c9
set_option maxRecDepth 65536 in
theorem w_t1 : (words1.take 24).all (fun c => isCode c || c.before args0 about1) = true := by decide +kernel
set_option maxRecDepth 65536 in
theorem w_t2 : ((words1.drop 24).take 24).all (fun c => isCode c || c.before args0 about1) = true := by decide +kernel
set_option maxRecDepth 65536 in
theorem w_t3 : (((words1.drop 24).drop 24).take 24).all (fun c => isCode c || c.before args0 about1) = true := by decide +kernel
set_option maxRecDepth 65536 in
theorem w_t4 : (((words1.drop 24).drop 24).drop 24).all (fun c => isCode c || c.before args0 about1) = true := by decide +kernel
theorem w_tables : (allAtoms (Jvm.Cond.code x code maxLocals ret :: tables_1)).before args0 about1 = true := by
  rw [allAtoms_all]
  show words1.all (fun c => c.before args0 about1) = true
  refine all_split ?_ w_codes
  rw [← List.take_append_drop 24 words1, List.all_append, w_t1, ← List.take_append_drop 24 (words1.drop 24), List.all_append, w_t2, ← List.take_append_drop 24 ((words1.drop 24).drop 24), List.all_append, w_t3, w_t4]
  rfl
set_option maxRecDepth 65536 in
theorem w_rest : rest_1_c.before args0 about1 = true := by decide +kernel
set_option maxRecDepth 65536 in
theorem w_case : (Jvm.Cond.and given_1 narrow_1).before args0 about1 = true := by decide +kernel
theorem w_applies : (headSpec (Jvm.Cond.code x code maxLocals ret :: tables_1) room_1).applies x e0.platform about1 = true :=
  (Spec.applies_iff w_frames).mpr ⟨w_running, w_runnable, w_alone, w_named, w_hears, w_ripe, w_room, w_tables⟩
theorem atStart : AtStart classFile x code maxLocals ret World_1 tables_1 room_1 Calls_1 rest_1 Pre_1 launch0 p0 e0 about1 theMethod args0 below0 :=
  ⟨lists_1, trivial, launch0.admits_env _ _ _, launch0.least_env, fairChoices_fair.cas, fairChoices_fair.clock, w_frames, w_args, w_heap, w_applies, trivial, w_rest, w_case⟩
end start1
theorem witness_1 : WitnessClaimed_1 := ⟨start1.p0, start1.e0, start1.about1, start1.theMethod, start1.args0, start1.below0, start1.atStart⟩
end Jvm.Pilot.@@N@@
