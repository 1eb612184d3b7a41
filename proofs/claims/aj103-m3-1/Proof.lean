import JvmDerived
import JvmDerived.Pilot.@@N@@Statement
import JvmDerived.Pilot.@@N@@Code
set_option linter.unusedVariables false
set_option linter.unusedSimpArgs false
namespace Jvm.RoadKit
open Sem ClassFile Op Lib Jvm.Stand Jvm.Free Jvm.LawKit
section New
variable {p : Program} {l : Launch} {e : Env} {R : Room} {s : State} {m : MethodId} {args : Array Value} {below : List Frame} {meth : Method} {c : Code} {T : State} {locs : List Loc} {cells slots : Nat}
theorem retI (X : Stand p l e R s m args below meth c T locs cells slots) (hx : p.tables.exec = Jvm.exec) {pc : Nat} {Ls : Array Slot} {z : Int32} {rest : List Value} (hret : meth.sig.returnType = some .int) (hd : decode c.code pc = .ok (.ireturn, 1)) {fs : List Frame}
    (hl : ∀ (f : JFrame) (acts : List Action), f.method = m → f.locked = none → f.entered = [] → (doReturn e (T.setTop f) acts (some (.int z))).1 = T.setFrames fs) : Steps p.tables e below (T.setTop (mkF m pc Ls (.int z :: rest))) (T.setFrames fs) := by
  have hm' : T.vm.method? m = some meth := X.method'
  have hn : narrow .int (.int z) = .int z := rfl
  show Steps p.tables e below (T.setTop { method := m, pc := pc, locals := Ls, stack := _ :: rest, locked := none }) _
  jvm_step X.here [X.here.top, hx, hd, hm', hret, hn]
  first | (intro acts; rw [hl _ acts rfl rfl rfl]) | rw [hl _ _ rfl rfl rfl]
  exact Steps.refl _
end New
theorem own_sta_keep {Z : State} {h h' : Heap} {C n d : String} {w : Value} {ws : List Addr} (F : Sta Z h C n d w) (K : Keep h h' ws) (q : ∀ x ∈ ws, ∃ c : Cell, h[x]? = some c ∧ c.vm.isStatics = false) : Sta Z h' C n d w := by
  obtain ⟨cf, i, k, f, st, cell, h1, h2, h3, h4, h5, h6, h7⟩ := F
  refine ⟨cf, i, k, f, st, cell, h1, h2, h3, h4, K.2.1 st cell h5 (fun hm => ?_), h6, h7⟩
  obtain ⟨c, g1, g2⟩ := q st hm
  cases h5.symm.trans g1
  rw [h6] at g2; cases g2
theorem own_exa_ns {Z : State} {h : Heap} {a : Addr} {C : String} (F : Exa Z h a C) : ∃ c : Cell, h[a]? = some c ∧ c.vm.isStatics = false := by
  obtain ⟨cell, k, h1, -, -, h4, -⟩ := F
  exact ⟨cell, h1, h4⟩
theorem own_arv_ns {Z : State} {h : Heap} {a : Addr} {k : ClassId} {ty : FieldType} {z : Int32} {vs : List Value} {d : Value} (F : Arv Z h a k ty z vs d) : ∃ c : Cell, h[a]? = some c ∧ c.vm.isStatics = false := by
  obtain ⟨cell, A, -⟩ := F
  exact ⟨cell, A.1, A.plain⟩
theorem own_arv {Z : State} {h : Heap} {a : Addr} {k : ClassId} {ty : FieldType} {z : Int32} {vs : List Value} {d : Value} (F : Arh Z h a k ty z [] vs d) : Arv Z h a k ty z vs d := F
theorem own_eqv {Z : State} {args : Array Value} {t u : Term} {v : Value} (hv : (∃ k, v = .int k) ∨ ∃ a, v = .ref a) (hu : u.eval args Z none [] Z = some v) (h : (Jvm.Cond.eq t u).value args Z none Z [] = some true) : t.eval args Z none [] Z = some v := by
  simp only [Jvm.Cond.value, hu] at h
  cases ht : t.eval args Z none [] Z with
  | none => simp [ht] at h
  | some x => rcases hv with ⟨k, rfl⟩ | ⟨a, rfl⟩ <;> cases x <;> simp [ht] at h ⊢ <;> exact h
theorem own_len {Z : State} {args : Array Value} {t : Term} {a : Addr} {cl : Cell} {ty : FieldType} {z : Int32} (ev : t.eval args Z none [] Z = some (.ref a)) (A : Arr Z Z.heap a cl ty) (h : (Term.length t).eval args Z none [] Z = some (.int z)) : cl.slots.size < 2 ^ 31 ∧ cl.slots.size.toInt32 = z := by
  obtain ⟨a', cell, ha', hat, hv⟩ := Term.length_spec h
  cases ev.symm.trans ha'
  cases A.1.symm.trans (State.arrayAt?_spec hat).1
  cases hv
  refine ⟨?_, rfl⟩
  by_cases q : cl.slots.size < 2 ^ 31
  · exact q
  · exfalso
    simp [Term.eval, ev, hat, q] at h
end Jvm.RoadKit
namespace Jvm.Pilot.@@N@@
open Jvm Jvm.ClassFile Sem Op Lib Jvm.Free Jvm.Stand Jvm.LawKit Jvm.RoadKit Bundle Jvm.Pilot.@@N@@.Jvm.D
abbrev EL1 : List (String × Nat) := consts_1
theorem own_wS {Z : State} {a0 : Array Value} (hw : ∀ d ∈ tables_1, d.before a0 Z = true) : ∀ a ∈ Bundle.stringAtoms, a.before a0 Z = true := by
  intro a ha
  simp only [Bundle.stringAtoms, List.mem_cons, List.not_mem_nil, or_false] at ha
  rcases ha with rfl | rfl | rfl | rfl | rfl | rfl | rfl
  · exact (hw _ (List.mem_of_getElem? (i := 7) rfl))
  · exact (hw _ (List.mem_of_getElem? (i := 6) rfl))
  · exact (hw _ (List.mem_of_getElem? (i := 24) rfl))
  · exact (hw _ (List.mem_of_getElem? (i := 34) rfl))
  · exact (hw _ (List.mem_of_getElem? (i := 32) rfl))
  · exact (hw _ (List.mem_of_getElem? (i := 36) rfl))
  · exact (hw _ (List.mem_of_getElem? (i := 37) rfl))
theorem own_safe {Z : State} {EL : List (String × Nat)} {vm : Vm} {h : Heap} {x : Addr} (hal : Z.vm.Alike vm) (E : Exa Z h x "java/lang/String") (F : Fld Z h x "java/lang/String" "value" "[B" .null) : Safe Z EL vm h x := fun B => by
  obtain ⟨cell, k, e1, e2, e3, -, -⟩ := E
  obtain ⟨p, -, u, a, -, q, -, G, rfl | rfl⟩ := B
  · obtain ⟨cell', cf, kf, i, f, g1, g2, -, -, -, -, g3⟩ := F
    cases (show h[q.sa]? = some q.sC from G.ha).symm.trans g1
    obtain ⟨cS, ⟨⟨-, -, -, ⟨c1, k1, i1, f1, -⟩, -, -, -, v1, -⟩, -⟩, -⟩ := G
    obtain ⟨k3, e4, -⟩ := State.fieldFound?_setVm (s := Z) hal g2
    have e5 := (show (Wst Z vm h).fieldFound? _ _ _ = _ from e4).symm.trans f1
    simp only [Option.some.injEq, Prod.mk.injEq] at e5
    rw [← e5.2.2.2, g3] at v1
    cases v1
  · cases (show h[q.sd]? = some q.SA from G.hd).symm.trans e1
    obtain ⟨cS, -, -, f, -⟩ := G
    have f' : vm.findClass "[B" = some q.SA.cls := f
    rw [hal.findClass] at f'
    obtain ⟨k1, q1, q2⟩ := Vm.findClass_spec f'
    obtain ⟨k2, q3, q4⟩ := Vm.findClass_spec e2
    cases q1.symm.trans q3
    exact absurd (q2.symm.trans q4) (by decide)
theorem d3_0 : decode jdk_42_method_149_code 0 = .ok (.aload_n 0, 1) := by decide +kernel
theorem d3_1 : decode jdk_42_method_149_code 1 = .ok (.invokespecial 1, 3) := by decide +kernel
theorem d3_4 : decode jdk_42_method_149_code 4 = .ok (.iload_n 3, 1) := by decide +kernel
theorem d3_5 : decode jdk_42_method_149_code 5 = .ok (.ifCond .ne 22, 3) := by decide +kernel
theorem d3_8 : decode jdk_42_method_149_code 8 = .ok (.aload_n 0, 1) := by decide +kernel
theorem d3_9 : decode jdk_42_method_149_code 9 = .ok (.ldc 7, 2) := by decide +kernel
theorem d3_11 : decode jdk_42_method_149_code 11 = .ok (.getfield 9, 3) := by decide +kernel
theorem d3_14 : decode jdk_42_method_149_code 14 = .ok (.putfield 9, 3) := by decide +kernel
theorem d3_17 : decode jdk_42_method_149_code 17 = .ok (.aload_n 0, 1) := by decide +kernel
theorem d3_18 : decode jdk_42_method_149_code 18 = .ok (.ldc 7, 2) := by decide +kernel
theorem d3_20 : decode jdk_42_method_149_code 20 = .ok (.getfield 15, 3) := by decide +kernel
theorem d3_23 : decode jdk_42_method_149_code 23 = .ok (.putfield 15, 3) := by decide +kernel
theorem d3_26 : decode jdk_42_method_149_code 26 = .ok (.return_, 1) := by decide +kernel
theorem pn0 : plainName "java/lang/String" = true := by first | (simp [plainName, overriddenIn]; done) | decide +kernel
theorem ef_ini4_0 (m : MethodId) (a1 : Addr) (a2 : Addr) : entryFrame m #[(.ref a1), (.ref a2), (.int (0 : Int32)), (.int (0 : Int32)), .null] 6 = (mkF m 0 #[.val (.ref a1), .val (.ref a2), .val (.int (0 : Int32)), .val (.int (0 : Int32)), .val .null, .unset] []) := by first | (simp [entryFrame, mkF, argsToLocals, Value.category]; done) | rfl
def Q_ini4_0 (Z : State) (a1 : Addr) (a2 : Addr) (ka : ClassId) (h0 : Heap) (n0 : Nat) (v : Option Value) (h : Heap) (L : List Loc) : Prop := ∃ (c2 : Addr) (k2 : ClassId), v = none ∧ Fr n0 L ∧ Keep h0 h [a1] ∧ Exa Z h a1 "java/lang/String" ∧ Fld Z h a1 "java/lang/String" "value" "[B" (.ref c2) ∧ Fld Z h a1 "java/lang/String" "coder" "B" (.int (0 : Int32)) ∧ Arv Z h c2 k2 .byte (0 : Int32) [] (.int (0 : Int32))
set_option maxRecDepth 65536 in
set_option maxHeartbeats 40000000 in
theorem rm_ini4_0 (l : Launch) (Z : State) (a0 : Array Value) (hw : ∀ d ∈ tables_1, d.before a0 Z = true) (ws : List Jvm.Cond) (a1 : Addr) (a2 : Addr) (ka : ClassId) (h0 : Heap) (n0 : Nat) (Z0 : n0 ≤ h0.size) (V_a2 : Arv Z h0 a2 ka .char (0 : Int32) [] (.int (0 : Int32))) (E_a1 : Exa Z h0 a1 "java/lang/String") (F_value_a1 : Fld Z h0 a1 "java/lang/String" "value" "[B" .null) (F_coder_a1 : Fld Z h0 a1 "java/lang/String" "coder" "B" (.int (0 : Int32))) (g_a1 : n0 ≤ a1) (hEL : EW Z a0 EL1) :
    MetFree l (⟨"java/lang/String", "<init>", "([CIILjava/lang/Void;)V"⟩ : MethodName) (head1 (Jvm.Cond.code (⟨"java/lang/String", "<init>", "([CIILjava/lang/Void;)V"⟩ : MethodName) jdk_42_method_149_code 6 none :: ws) ({ frames := 1, cells := 2, slots := 4, locals := 12 } : Room)) (fun a U => a = #[(.ref a1), (.ref a2), (.int (0 : Int32)), (.int (0 : Int32)), .null] ∧ Z.Warmed39 U.vm ∧ U.heap = h0 ∧ CHv Z EL1 U.vm h0) (fun _ _ _ _ _ => True) (fun _ U o U' => ∃ v L, o = .returned v ∧ Q_ini4_0 Z a1 a2 ka h0 n0 v U'.heap L ∧ CHr Z EL1 U.vm U.heap U'.vm U'.heap ∧ ReturnedEndW U o U' L ({ frames := 1, cells := 2, slots := 4, locals := 12 } : Room).cells ({ frames := 1, cells := 2, slots := 4, locals := 12 } : Room).slots) := by
  refine MetFree.of_bodySF (plainFor_of_name pn0) hisR ?_
  intro p e s m args below meth c s₁ Bd hml0 hP hK
  obtain ⟨rfl, hZ, hh, HC⟩ := hP
  have hx := Bd.exec
  have hby := Bd.bytes
  have hml : c.maxLocals = 6 := hml0
  have hown : s.vm.findClass "java/lang/String" = some m.cls := findClass_of_methodNamed Bd.named
  have hnm := (name_of_methodNamed Bd.named Bd.method).1
  have X0 : Stand p l e ({ frames := 1, cells := 2, slots := 4, locals := 12 } : Room) (s.setVm s.vm) m #[(.ref a1), (.ref a2), (.int (0 : Int32)), (.int (0 : Int32)), .null] below meth c s₁ [] 0 0 := by rw [State.setVm_self]; exact Stand.of_body Bd
  have hS0 : s.Since s.vm 0 := (State.WarmedH.refl s).since 0
  have CR0 : CHr Z EL1 s.vm h0 s.vm h0 := CHr.refl HC
  have hZ : Z.Warmed39 (s.setVm s.vm).vm := hZ
  have hown : (s.setVm s.vm).vm.findClass "java/lang/String" = some m.cls := hown
  have e0 : s₁.heap = h0 := by rw [← hh, Bd.state]; rfl
  have N0 := Fr.nil n0
  have pre0 : ∀ t, Steps p.tables e below (s₁.setTop (mkF m 0 #[.val (.ref a1), .val (.ref a2), .val (.int (0 : Int32)), .val (.int (0 : Int32)), .val .null, .unset] [])) t → Steps p.tables e below (s₁.setTop (entryFrame m #[(.ref a1), (.ref a2), (.int (0 : Int32)), (.int (0 : Int32)), .null] 6)) t := fun t k => castTop (ef_ini4_0 m a1 a2) k
  obtain ⟨T1, X1, e1, st1⟩ := initO X0 hx hZ hown (hw _ (List.mem_of_getElem? (i := 16) rfl)) (hw _ (List.mem_of_getElem? (i := 17) rfl)) (hw _ (List.mem_of_getElem? (i := 18) rfl)) e0 (g := (mkF m 1 #[.val (.ref a1), .val (.ref a2), .val (.int (0 : Int32)), .val (.int (0 : Int32)), .val .null, .unset] [(.ref a1)])) rfl (by rw [hml]; rfl) rfl (hb hby d3_1) (by decide) (W := 0) (by show 2 * 0 + _ ≤ _; exact Nat.le_of_eq rfl) (by decide)
  have pre3 : ∀ t, Steps p.tables e below (T1.setTop (mkF m 9 #[.val (.ref a1), .val (.ref a2), .val (.int (0 : Int32)), .val (.int (0 : Int32)), .val .null, .unset] [(.ref a1)])) t → Steps p.tables e below (s₁.setTop (entryFrame m #[(.ref a1), (.ref a2), (.int (0 : Int32)), (.int (0 : Int32)), .null] 6)) t := by
    intro t kt
    refine pre0 _ ?_
    show Steps p.tables e below (s₁.setTop (mkF m 0 #[.val (.ref a1), .val (.ref a2), .val (.int (0 : Int32)), .val (.int (0 : Int32)), .val .null, .unset] [])) _
    refine XS.aloadN X0.here hx rfl (hb hby d3_0) rfl rfl ?_
    show Steps p.tables e below (s₁.setTop (mkF m 1 #[.val (.ref a1), .val (.ref a2), .val (.int (0 : Int32)), .val (.int (0 : Int32)), .val .null, .unset] [(.ref a1)])) _
    refine st1 _ ?_
    show Steps p.tables e below (T1.setTop (mkF m 4 #[.val (.ref a1), .val (.ref a2), .val (.int (0 : Int32)), .val (.int (0 : Int32)), .val .null, .unset] [])) _
    refine XS.iloadN X1.here hx rfl (hb hby d3_4) rfl ?_
    refine XS.ifNo X1.here hx rfl (hb hby d3_5) rfl ((if0 _ _).trans (teq (by decide : (0 : Int32) = (0 : Int32))).2) ?_
    show Steps p.tables e below (T1.setTop (mkF m 8 #[.val (.ref a1), .val (.ref a2), .val (.int (0 : Int32)), .val (.int (0 : Int32)), .val .null, .unset] [])) _
    refine XS.aloadN X1.here hx rfl (hb hby d3_8) rfl rfl ?_
    exact kt
  obtain ⟨b2, T2, h2, k1_2, c2, k2, X2, e2, E2, hS2, hk1_2, hZ, hown, EL_2, FC_2, FV_2, VL_2, -, -, hC2, Lit2, hsf2, st2⟩ := ldcCH X1 hx hZ hown (hw _ (List.mem_of_getElem? (i := 35) rfl)) (own_wS hw) e1 hS0 (Nat.le_trans (Nat.zero_le _) (Nat.le_refl _)) hEL (List.mem_of_getElem? (i := 0) rfl) CR0.1 (vs := []) (z := (0 : Int32)) ⟨by simp, rfl⟩ (by decide) rfl (g := (mkF m 9 #[.val (.ref a1), .val (.ref a2), .val (.int (0 : Int32)), .val (.int (0 : Int32)), .val .null, .unset] [(.ref a1)])) rfl (hb hby d3_9) (n := 0) (by decide) (by decide) (by decide) (by decide)
  have K2 : Keep h0 h2 [a1] := (Keep.refl h0 [a1]).ext E2
  have CR2 := CHr.trans CR0 hC2
  have SF_a1 := own_safe (EL := EL1) hZ.alike (E_a1.ext E2) (F_value_a1.ext E2)
  obtain ⟨T4, X4, e4, st4⟩ := getF X2 hx hZ hown (host := "") (Or.inl (hw _ (List.mem_of_getElem? (i := 33) rfl))) Via.refl e2 FV_2 (g := (mkF m 11 #[.val (.ref a1), .val (.ref a2), .val (.int (0 : Int32)), .val (.int (0 : Int32)), .val .null, .unset] [(.ref b2), (.ref a1)])) rfl rfl (hb hby d3_11)
  obtain ⟨T5, h5, X5, e5, W5, st5⟩ := putF X4 hx hZ hown (host := "") (Or.inl (hw _ (List.mem_of_getElem? (i := 33) rfl))) Via.refl e4 (F_value_a1.ext E2) (E_a1.ext E2) (Or.inr ⟨(hw _ (List.mem_of_getElem? (i := 34) rfl)), rfl, hnm⟩) (hw _ (List.mem_of_getElem? (i := 6) rfl)) (ty := (.array .byte)) (by decide) rfl rfl (g := (mkF m 14 #[.val (.ref a1), .val (.ref a2), .val (.int (0 : Int32)), .val (.int (0 : Int32)), .val .null, .unset] [(.ref c2), (.ref a1)])) rfl rfl (hb hby d3_14)
  have Fw5 := (F_value_a1.ext E2).same W5
  have K5 : Keep h0 h5 [a1] := K2.wr W5 (Or.inl (List.mem_of_getElem? (i := 0) rfl))
  have N5 := Fr.snoc X5 N0 g_a1
  have hk_5 := Nat.le_trans hk1_2 (Nat.le_of_eq W5.size.symm)
  have CR5 := CHr.trans CR2 (CHr.wr W5 SF_a1 CR2.1)
  have SF5 := Safe.wr W5 SF_a1 CR2.1 SF_a1
  obtain ⟨T6, X6, e6, st6⟩ := getF X5 hx hZ hown (host := "") (Or.inl (hw _ (List.mem_of_getElem? (i := 31) rfl))) Via.refl e5 (FC_2.other W5 (Or.inl (Ne.symm (hsf2 a1 SF_a1).1))) (g := (mkF m 20 #[.val (.ref a1), .val (.ref a2), .val (.int (0 : Int32)), .val (.int (0 : Int32)), .val .null, .unset] [(.ref b2), (.ref a1)])) rfl rfl (hb hby d3_20)
  obtain ⟨T7, h7, X7, e7, W7, st7⟩ := putF X6 hx hZ hown (host := "") (Or.inl (hw _ (List.mem_of_getElem? (i := 31) rfl))) Via.refl e6 ((F_coder_a1.ext E2).other W5 (Or.inr (slot_ne (Or.inr (hw _ (List.mem_of_getElem? (i := 32) rfl))) (Or.inr (hw _ (List.mem_of_getElem? (i := 34) rfl))) (by decide) (t := .byte) (t' := (.array .byte)) (by decide) (by decide)))) ((E_a1.ext E2).wr W5) (Or.inr ⟨(hw _ (List.mem_of_getElem? (i := 32) rfl)), rfl, hnm⟩) (hw _ (List.mem_of_getElem? (i := 6) rfl)) (ty := .byte) (by decide) rfl rfl (g := (mkF m 23 #[.val (.ref a1), .val (.ref a2), .val (.int (0 : Int32)), .val (.int (0 : Int32)), .val .null, .unset] [(.int (0 : Int32)), (.ref a1)])) rfl rfl (hb hby d3_23)
  have Fw7 := ((F_coder_a1.ext E2).other W5 (Or.inr (slot_ne (Or.inr (hw _ (List.mem_of_getElem? (i := 32) rfl))) (Or.inr (hw _ (List.mem_of_getElem? (i := 34) rfl))) (by decide) (t := .byte) (t' := (.array .byte)) (by decide) (by decide)))).same W7
  have K7 : Keep h0 h7 [a1] := K5.wr W7 (Or.inl (List.mem_of_getElem? (i := 0) rfl))
  have N7 := Fr.snoc X7 N5 g_a1
  have hk_7 := Nat.le_trans hk_5 (Nat.le_of_eq W7.size.symm)
  have CR7 := CHr.trans CR5 (CHr.wr W7 SF5 CR5.1)
  have SF7 := Safe.wr W7 SF5 CR5.1 SF5
  obtain ⟨fs, hr, hrun, hended, hRW⟩ := X7.leaveW hS2 (Nat.le_trans hk_7 (Nat.le_of_eq (congrArg Array.size e7.symm))) (v := none) (fun _ => rfl)
  have hCC : CHr Z EL1 s.vm s.heap T7.vm T7.heap := by rw [hh, e7]; exact CHr.trans CR7 (CHv.at X7 hZ hEL CR7.1)
  refine ⟨_, _, pre3 _ ?_, hrun, hended, _, _, rfl, ?_, hCC, hRW.1, hRW.2.1, hRW.2.2.1, hRW.2.2.2.mono (by decide) (by decide)⟩
  · show Steps p.tables e below (T1.setTop (mkF m 9 #[.val (.ref a1), .val (.ref a2), .val (.int (0 : Int32)), .val (.int (0 : Int32)), .val .null, .unset] [(.ref a1)])) _
    refine st2 _ ?_
    show Steps p.tables e below (T2.setTop (mkF m 11 #[.val (.ref a1), .val (.ref a2), .val (.int (0 : Int32)), .val (.int (0 : Int32)), .val .null, .unset] [(.ref b2), (.ref a1)])) _
    refine st4 _ ?_
    show Steps p.tables e below (T4.setTop (mkF m 14 #[.val (.ref a1), .val (.ref a2), .val (.int (0 : Int32)), .val (.int (0 : Int32)), .val .null, .unset] [(.ref c2), (.ref a1)])) _
    refine st5 _ ?_
    show Steps p.tables e below (T5.setTop (mkF m 17 #[.val (.ref a1), .val (.ref a2), .val (.int (0 : Int32)), .val (.int (0 : Int32)), .val .null, .unset] [])) _
    refine XS.aloadN X5.here hx rfl (hb hby d3_17) rfl rfl ?_
    refine ldcAgain X5 hx hZ hown (hw _ (List.mem_of_getElem? (i := 35) rfl)) Lit2 (g := (mkF m 18 #[.val (.ref a1), .val (.ref a2), .val (.int (0 : Int32)), .val (.int (0 : Int32)), .val .null, .unset] [(.ref a1)])) rfl (hb hby d3_18) _ ?_
    show Steps p.tables e below (T5.setTop (mkF m 20 #[.val (.ref a1), .val (.ref a2), .val (.int (0 : Int32)), .val (.int (0 : Int32)), .val .null, .unset] [(.ref b2), (.ref a1)])) _
    refine st6 _ ?_
    show Steps p.tables e below (T6.setTop (mkF m 23 #[.val (.ref a1), .val (.ref a2), .val (.int (0 : Int32)), .val (.int (0 : Int32)), .val .null, .unset] [(.int (0 : Int32)), (.ref a1)])) _
    refine st7 _ ?_
    show Steps p.tables e below (T7.setTop (mkF m 26 #[.val (.ref a1), .val (.ref a2), .val (.int (0 : Int32)), .val (.int (0 : Int32)), .val .null, .unset] [])) _
    exact X7.returnOut hx Bd.returns (hb hby d3_26) hr
  · show Q_ini4_0 Z a1 a2 ka h0 n0 _ T7.heap _
    rw [e7]
    exact ⟨c2, k2, rfl, N7, K7, (((E_a1.ext E2).wr W5).wr W7), (Fw5.other W7 (Or.inr (slot_ne (Or.inr (hw _ (List.mem_of_getElem? (i := 34) rfl))) (Or.inr (hw _ (List.mem_of_getElem? (i := 32) rfl))) (by decide) (t := (.array .byte)) (t' := .byte) (by decide) (by decide)))), Fw7, ((VL_2.other W5 (Ne.symm (hsf2 a1 SF_a1).2)).other W7 (Ne.symm (hsf2 a1 SF_a1).2))⟩
theorem d2_0 : decode jdk_42_method_3_code 0 = .ok (.aload_n 0, 1) := by decide +kernel
theorem d2_1 : decode jdk_42_method_3_code 1 = .ok (.aload_n 1, 1) := by decide +kernel
theorem d2_2 : decode jdk_42_method_3_code 2 = .ok (.iconst 0, 1) := by decide +kernel
theorem d2_3 : decode jdk_42_method_3_code 3 = .ok (.aload_n 1, 1) := by decide +kernel
theorem d2_4 : decode jdk_42_method_3_code 4 = .ok (.arraylength, 1) := by decide +kernel
theorem d2_5 : decode jdk_42_method_3_code 5 = .ok (.aconst_null, 1) := by decide +kernel
theorem d2_6 : decode jdk_42_method_3_code 6 = .ok (.invokespecial 27, 3) := by decide +kernel
theorem d2_9 : decode jdk_42_method_3_code 9 = .ok (.return_, 1) := by decide +kernel
theorem pd0 : parseMethodDescriptor "([CIILjava/lang/Void;)V" = some ⟨[(.array .char), .int, .int, (.object "java/lang/Void")], none⟩ := by decide +kernel
theorem ef_ini1_0 (m : MethodId) (a1 : Addr) (a2 : Addr) : entryFrame m #[(.ref a1), (.ref a2)] 2 = (mkF m 0 #[.val (.ref a1), .val (.ref a2)] []) := by first | (simp [entryFrame, mkF, argsToLocals, Value.category]; done) | rfl
def Q_ini1_0 (Z : State) (a1 : Addr) (a2 : Addr) (ka : ClassId) (h0 : Heap) (n0 : Nat) (v : Option Value) (h : Heap) (L : List Loc) : Prop := ∃ (c2_2 : Addr) (k2_2 : ClassId), v = none ∧ Fr n0 L ∧ Keep h0 h [a1] ∧ Exa Z h a1 "java/lang/String" ∧ Fld Z h a1 "java/lang/String" "value" "[B" (.ref c2_2) ∧ Fld Z h a1 "java/lang/String" "coder" "B" (.int (0 : Int32)) ∧ Arv Z h c2_2 k2_2 .byte (0 : Int32) [] (.int (0 : Int32))
set_option maxRecDepth 65536 in
set_option maxHeartbeats 40000000 in
theorem rm_ini1_0 (l : Launch) (Z : State) (a0 : Array Value) (hw : ∀ d ∈ tables_1, d.before a0 Z = true) (ws : List Jvm.Cond) (a1 : Addr) (a2 : Addr) (ka : ClassId) (h0 : Heap) (n0 : Nat) (Z0 : n0 ≤ h0.size) (V_a2 : Arv Z h0 a2 ka .char (0 : Int32) [] (.int (0 : Int32))) (E_a1 : Exa Z h0 a1 "java/lang/String") (F_value_a1 : Fld Z h0 a1 "java/lang/String" "value" "[B" .null) (F_coder_a1 : Fld Z h0 a1 "java/lang/String" "coder" "B" (.int (0 : Int32))) (g_a1 : n0 ≤ a1) (hEL : EW Z a0 EL1) :
    MetFree l (⟨"java/lang/String", "<init>", "([C)V"⟩ : MethodName) (head1 (Jvm.Cond.code (⟨"java/lang/String", "<init>", "([C)V"⟩ : MethodName) jdk_42_method_3_code 2 none :: ws) ({ frames := 2, cells := 2, slots := 4, locals := 29 } : Room)) (fun a U => a = #[(.ref a1), (.ref a2)] ∧ Z.Warmed39 U.vm ∧ U.heap = h0 ∧ CHv Z EL1 U.vm h0) (fun _ _ _ _ _ => True) (fun _ U o U' => ∃ v L, o = .returned v ∧ Q_ini1_0 Z a1 a2 ka h0 n0 v U'.heap L ∧ CHr Z EL1 U.vm U.heap U'.vm U'.heap ∧ ReturnedEndW U o U' L ({ frames := 2, cells := 2, slots := 4, locals := 29 } : Room).cells ({ frames := 2, cells := 2, slots := 4, locals := 29 } : Room).slots) := by
  refine MetFree.of_bodySF (plainFor_of_name pn0) hisR ?_
  intro p e s m args below meth c s₁ Bd hml0 hP hK
  obtain ⟨rfl, hZ, hh, HC⟩ := hP
  have hx := Bd.exec
  have hby := Bd.bytes
  have hml : c.maxLocals = 2 := hml0
  have hown : s.vm.findClass "java/lang/String" = some m.cls := findClass_of_methodNamed Bd.named
  have hnm := (name_of_methodNamed Bd.named Bd.method).1
  have X0 : Stand p l e ({ frames := 2, cells := 2, slots := 4, locals := 29 } : Room) (s.setVm s.vm) m #[(.ref a1), (.ref a2)] below meth c s₁ [] 0 0 := by rw [State.setVm_self]; exact Stand.of_body Bd
  have hS0 : s.Since s.vm 0 := (State.WarmedH.refl s).since 0
  have CR0 : CHr Z EL1 s.vm h0 s.vm h0 := CHr.refl HC
  have hZ : Z.Warmed39 (s.setVm s.vm).vm := hZ
  have hown : (s.setVm s.vm).vm.findClass "java/lang/String" = some m.cls := hown
  have e0 : s₁.heap = h0 := by rw [← hh, Bd.state]; rfl
  have N0 := Fr.nil n0
  have pre0 : ∀ t, Steps p.tables e below (s₁.setTop (mkF m 0 #[.val (.ref a1), .val (.ref a2)] [])) t → Steps p.tables e below (s₁.setTop (entryFrame m #[(.ref a1), (.ref a2)] 2)) t := fun t k => castTop (ef_ini1_0 m a1 a2) k
  obtain ⟨cl_a2_4_1, Ar_a2_4_1, -, S_a2_4_1, N_a2_4_1, -, -⟩ := id V_a2
  have pre3 : ∀ t, Steps p.tables e below (s₁.setTop (mkF m 6 #[.val (.ref a1), .val (.ref a2)] [.null, (.int (0 : Int32)), (.int (0 : Int32)), (.ref a2), (.ref a1)])) t → Steps p.tables e below (s₁.setTop (entryFrame m #[(.ref a1), (.ref a2)] 2)) t := by
    intro t kt
    refine pre0 _ ?_
    show Steps p.tables e below (s₁.setTop (mkF m 0 #[.val (.ref a1), .val (.ref a2)] [])) _
    refine XS.aloadN X0.here hx rfl (hb hby d2_0) rfl rfl ?_
    refine XS.aloadN X0.here hx rfl (hb hby d2_1) rfl rfl ?_
    refine XS.iconst X0.here hx rfl (hb hby d2_2) ?_
    show Steps p.tables e below (s₁.setTop (mkF m 3 #[.val (.ref a1), .val (.ref a2)] [(.int (0 : Int32)), (.ref a2), (.ref a1)])) _
    refine XS.aloadN X0.here hx rfl (hb hby d2_3) rfl rfl ?_
    refine X0.arraylength hx (by rw [e0]; exact Ar_a2_4_1.1) (State.isArrayOf_alike hZ.alike Ar_a2_4_1.2.1) (g := (mkF m 4 #[.val (.ref a1), .val (.ref a2)] [(.ref a2), (.int (0 : Int32)), (.ref a2), (.ref a1)])) rfl rfl (hb hby d2_4) _ ?_
    rw [len_of S_a2_4_1 N_a2_4_1]
    show Steps p.tables e below (s₁.setTop (mkF m 5 #[.val (.ref a1), .val (.ref a2)] [(.int (0 : Int32)), (.int (0 : Int32)), (.ref a2), (.ref a1)])) _
    refine XS.aconstNull X0.here hx rfl (hb hby d2_5) ?_
    exact kt
  obtain ⟨_, _, ⟨T2, L2, k2, n2⟩, -, XX2, hSS2, hgr2, ⟨Lc2, hQ2, l2, y2, z2, hC2⟩, st2⟩ := X0.specialBackS hx (y := (⟨"java/lang/String", "<init>", "([CIILjava/lang/Void;)V"⟩ : MethodName)) rfl hown (mvT hZ (hw _ (List.mem_of_getElem? (i := 12) rfl))) (mvT hZ (hw _ (List.mem_of_getElem? (i := 13) rfl))) (mvT hZ (hw _ (List.mem_of_getElem? (i := 15) rfl))) (by decide) (backOfSH (W := 0) (rm_ini4_0 l Z a0 hw [] a1 a2 ka h0 n0 (Nat.le_trans Z0 (Keep.refl h0 [a1]).1) V_a2 E_a1 F_value_a1 F_coder_a1 g_a1  hEL) hZ (hw _ (List.mem_of_getElem? (i := 15) rfl)) (hw _ (List.mem_of_getElem? (i := 7) rfl)) (by decide) (by decide) hEL CR0.1) (g := (mkF m 6 #[.val (.ref a1), .val (.ref a2)] [.null, (.int (0 : Int32)), (.int (0 : Int32)), (.ref a2), (.ref a1)])) rfl (by rw [hml]; rfl) (Steps.refl _) (a := a1) (argsL := [(.ref a2), (.int (0 : Int32)), (.int (0 : Int32)), .null]) (rest := []) (lenOf pd0 rfl) rfl (by show 2 * 0 + _ ≤ _; exact Nat.le_of_eq rfl) (hb hby d2_6) (fun _ _ => ⟨rfl, e0, (by decide : 0 + 2 ≤ _), (by decide : 0 + 4 ≤ _)⟩)
  dsimp only [Pt.U, Pt.locs, Pt.cells, Pt.slots] at XX2 hSS2 hgr2 l2 y2 z2 st2 hQ2 hC2
  subst l2 y2 z2
  obtain ⟨X2, hS2, hZ, hown⟩ := rebS hS0 (Nat.le_trans (Nat.zero_le _) (Nat.le_of_eq (congrArg Array.size e0.symm))) XX2 hSS2 hgr2 hZ hown
  have CR2 := CHr.trans CR0 hC2
  obtain ⟨c2_2, k2_2, rfl, N2q, K2, f2_0, f2_1, f2_2, f2_3⟩ := hQ2
  have N2 := Fr.app N0 N2q
  have KK2 : Keep h0 T2.heap [a1] := (Keep.refl h0 [a1]).trans K2 (allS (Or.inl (List.mem_of_getElem? (i := 0) rfl)) all0)
  obtain ⟨fs, hr, hrun, hended, hRW⟩ := X2.leaveW hS2 (Nat.le_trans (Nat.le_refl _) (Nat.le_of_eq (congrArg Array.size (rfl : T2.heap = T2.heap).symm))) (v := none) (fun _ => rfl)
  have hCC : CHr Z EL1 s.vm s.heap T2.vm T2.heap := by rw [hh]; exact CHr.trans CR2 (CHv.at X2 hZ hEL CR2.1)
  refine ⟨_, _, pre3 _ ?_, hrun, hended, _, _, rfl, ?_, hCC, hRW.1, hRW.2.1, hRW.2.2.1, hRW.2.2.2.mono (by decide) (by decide)⟩
  · show Steps p.tables e below (s₁.setTop (mkF m 6 #[.val (.ref a1), .val (.ref a2)] [.null, (.int (0 : Int32)), (.int (0 : Int32)), (.ref a2), (.ref a1)])) _
    refine st2.trans ?_
    show Steps p.tables e below (T2.setTop (mkF m 9 #[.val (.ref a1), .val (.ref a2)] [])) _
    exact X2.returnOut hx Bd.returns (hb hby d2_9) hr
  · show Q_ini1_0 Z a1 a2 ka h0 n0 _ T2.heap _
    exact ⟨c2_2, k2_2, rfl, N2, KK2, (E_a1.keep K2), f2_1, f2_2, f2_3⟩
theorem d6_0 : decode jdk_52_method_21_code 0 = .ok (.iconst 0, 1) := by decide +kernel
theorem d6_1 : decode jdk_52_method_21_code 1 = .ok (.istore 5, 2) := by decide +kernel
theorem d6_3 : decode jdk_52_method_21_code 3 = .ok (.iload 5, 2) := by decide +kernel
theorem d6_5 : decode jdk_52_method_21_code 5 = .ok (.iload 4, 2) := by decide +kernel
theorem d6_7 : decode jdk_52_method_21_code 7 = .ok (.if_icmp .ge 37, 3) := by decide +kernel
theorem d6_10 : decode jdk_52_method_21_code 10 = .ok (.aload_n 0, 1) := by decide +kernel
theorem d6_11 : decode jdk_52_method_21_code 11 = .ok (.iload_n 1, 1) := by decide +kernel
theorem d6_12 : decode jdk_52_method_21_code 12 = .ok (.caload, 1) := by decide +kernel
theorem d6_13 : decode jdk_52_method_21_code 13 = .ok (.istore 6, 2) := by decide +kernel
theorem d6_15 : decode jdk_52_method_21_code 15 = .ok (.iload 6, 2) := by decide +kernel
theorem d6_17 : decode jdk_52_method_21_code 17 = .ok (.sipush 255, 3) := by decide +kernel
theorem d6_20 : decode jdk_52_method_21_code 20 = .ok (.if_icmp .le 6, 3) := by decide +kernel
theorem d6_26 : decode jdk_52_method_21_code 26 = .ok (.aload_n 2, 1) := by decide +kernel
theorem d6_27 : decode jdk_52_method_21_code 27 = .ok (.iload_n 3, 1) := by decide +kernel
theorem d6_28 : decode jdk_52_method_21_code 28 = .ok (.iload 6, 2) := by decide +kernel
theorem d6_30 : decode jdk_52_method_21_code 30 = .ok (.i2b, 1) := by decide +kernel
theorem d6_31 : decode jdk_52_method_21_code 31 = .ok (.bastore, 1) := by decide +kernel
theorem d6_32 : decode jdk_52_method_21_code 32 = .ok (.iinc 1 1, 3) := by decide +kernel
theorem d6_35 : decode jdk_52_method_21_code 35 = .ok (.iinc 3 1, 3) := by decide +kernel
theorem d6_38 : decode jdk_52_method_21_code 38 = .ok (.iinc 5 1, 3) := by decide +kernel
theorem d6_41 : decode jdk_52_method_21_code 41 = .ok (.goto (-38), 3) := by decide +kernel
theorem d6_44 : decode jdk_52_method_21_code 44 = .ok (.iload 4, 2) := by decide +kernel
theorem d6_46 : decode jdk_52_method_21_code 46 = .ok (.ireturn, 1) := by decide +kernel
theorem pn1 : plainName "java/lang/StringUTF16" = true := by first | (simp [plainName, overriddenIn]; done) | decide +kernel
theorem ef_cmp5_1 (m : MethodId) (a1 : Addr) (a2 : Addr) : entryFrame m #[(.ref a1), (.int (0 : Int32)), (.ref a2), (.int (0 : Int32)), (.int (1 : Int32))] 7 = (mkF m 0 #[.val (.ref a1), .val (.int (0 : Int32)), .val (.ref a2), .val (.int (0 : Int32)), .val (.int (1 : Int32)), .unset, .unset] []) := by first | (simp [entryFrame, mkF, argsToLocals, Value.category]; done) | rfl
def Q_cmp5_1 (Z : State) (a1 : Addr) (a2 : Addr) (ka : ClassId) (c0 : Int32) (kb : ClassId) (h0 : Heap) (n0 : Nat) (v : Option Value) (h : Heap) (L : List Loc) : Prop := v = some (.int (1 : Int32)) ∧ Fr n0 L ∧ Keep h0 h [a2] ∧ Arv Z h a2 kb .byte (1 : Int32) [(.int (nar .byte (c0.toInt8.toInt32)))] (.int (0 : Int32))
set_option maxRecDepth 65536 in
set_option maxHeartbeats 40000000 in
theorem rm_cmp5_1 (l : Launch) (Z : State) (a0 : Array Value) (hw : ∀ d ∈ tables_1, d.before a0 Z = true) (ws : List Jvm.Cond) (a1 : Addr) (a2 : Addr) (ka : ClassId) (c0 : Int32) (kb : ClassId) (h0 : Heap) (n0 : Nat) (Z0 : n0 ≤ h0.size) (V_a1 : Arv Z h0 a1 ka .char (1 : Int32) [(.int c0)] (.int (0 : Int32))) (V_a2 : Arv Z h0 a2 kb .byte (1 : Int32) [(.int (0 : Int32))] (.int (0 : Int32))) (g_a2 : n0 ≤ a2) (hne_13 : a1 ≠ a2) (hch0 : ¬ ((255 : Int32) < c0)) :
    MetFree l (⟨"java/lang/StringUTF16", "compress", "([CI[BII)I"⟩ : MethodName) (head1 (Jvm.Cond.code (⟨"java/lang/StringUTF16", "compress", "([CI[BII)I"⟩ : MethodName) jdk_52_method_21_code 7 (some .int) :: ws) ({ frames := 0, cells := 0, slots := 0, locals := 0 } : Room)) (fun a U => a = #[(.ref a1), (.int (0 : Int32)), (.ref a2), (.int (0 : Int32)), (.int (1 : Int32))] ∧ Z.Warmed39 U.vm ∧ U.heap = h0) (fun _ _ _ _ _ => True) (fun _ U o U' => ∃ v L, o = .returned v ∧ Q_cmp5_1 Z a1 a2 ka c0 kb h0 n0 v U'.heap L ∧ FrameEnd U o U' L ({ frames := 0, cells := 0, slots := 0, locals := 0 } : Room).cells ({ frames := 0, cells := 0, slots := 0, locals := 0 } : Room).slots) := by
  refine MetFree.of_bodySF (plainFor_of_name pn1) hisR ?_
  intro p e s m args below meth c s₁ Bd hml0 hP hK
  obtain ⟨rfl, hZ, hh⟩ := hP
  have hx := Bd.exec
  have hby := Bd.bytes
  have hml : c.maxLocals = 7 := hml0
  have hown : s.vm.findClass "java/lang/StringUTF16" = some m.cls := findClass_of_methodNamed Bd.named
  have hnm := (name_of_methodNamed Bd.named Bd.method).1
  have X0 : Stand p l e ({ frames := 0, cells := 0, slots := 0, locals := 0 } : Room) s m #[(.ref a1), (.int (0 : Int32)), (.ref a2), (.int (0 : Int32)), (.int (1 : Int32))] below meth c s₁ [] 0 0 := Stand.of_body Bd
  have e0 : s₁.heap = h0 := by rw [← hh, Bd.state]; rfl
  have N0 := Fr.nil n0
  have pre0 : ∀ t, Steps p.tables e below (s₁.setTop (mkF m 0 #[.val (.ref a1), .val (.int (0 : Int32)), .val (.ref a2), .val (.int (0 : Int32)), .val (.int (1 : Int32)), .unset, .unset] [])) t → Steps p.tables e below (s₁.setTop (entryFrame m #[(.ref a1), (.int (0 : Int32)), (.ref a2), (.int (0 : Int32)), (.int (1 : Int32))] 7)) t := fun t k => castTop (ef_cmp5_1 m a1 a2) k
  obtain ⟨cl_a1_12_1, Ar_a1_12_1, q_a1_12_1, S_a1_12_1, N_a1_12_1, H_a1_12_1, G_a1_12_1⟩ := id V_a1
  have hin_a1_12_1 : ¬ ((0 : Int32) < 0 ∨ cl_a1_12_1.slots.size ≤ ((0 : Int32) : Int32).toNatClampNeg) := inb_of S_a1_12_1 ⟨by decide, by decide⟩
  obtain ⟨cl_a2_31_2, Ar_a2_31_2, q_a2_31_2, S_a2_31_2, N_a2_31_2, H_a2_31_2, G_a2_31_2⟩ := id V_a2
  have hin_a2_31_2 : ¬ ((0 : Int32) < 0 ∨ cl_a2_31_2.slots.size ≤ ((0 : Int32) : Int32).toNatClampNeg) := inb_of S_a2_31_2 ⟨by decide, by decide⟩
  obtain ⟨T3, h3, X3, e3, W3, st3⟩ := stB X0 hx hZ e0 Ar_a2_31_2 (j := (0 : Int32)) hin_a2_31_2 (g := (mkF m 31 #[.val (.ref a1), .val (.int (0 : Int32)), .val (.ref a2), .val (.int (0 : Int32)), .val (.int (1 : Int32)), .val (.int (0 : Int32)), .val (.int c0)] [(.int (c0.toInt8.toInt32)), (.int (0 : Int32)), (.ref a2)])) rfl rfl (hb hby d6_31)
  have V_a2_31_2 : Arv Z h3 a2 kb .byte (1 : Int32) [(.int (nar .byte (c0.toInt8.toInt32)))] (.int (0 : Int32)) := Arv.set Ar_a2_31_2 q_a2_31_2 S_a2_31_2 N_a2_31_2 H_a2_31_2 G_a2_31_2 (fits_nar_byte _) W3 0 rfl (Nat.le_of_ble_eq_true rfl)
  have K3 : Keep h0 h3 [a2] := (Keep.refl h0 [a2]).wr W3 (Or.inl (List.mem_of_getElem? (i := 0) rfl))
  have N3 := Fr.snoc X3 N0 g_a2
  obtain ⟨fs, hr, hrun, hended, hW, hsame⟩ := X3.leave (v := some (.int (1 : Int32))) (fun h => by rw [Bd.returns] at h; cases h)
  refine ⟨_, _, pre0 _ ?_, hrun, hended, _, _, rfl, ?_, ⟨_, rfl⟩, hW, hsame.mono (by decide) (by decide)⟩
  · show Steps p.tables e below (s₁.setTop (mkF m 0 #[.val (.ref a1), .val (.int (0 : Int32)), .val (.ref a2), .val (.int (0 : Int32)), .val (.int (1 : Int32)), .unset, .unset] [])) _
    refine XS.iconst X0.here hx rfl (hb hby d6_0) ?_
    refine XS.istore X0.here hx rfl (hb hby d6_1) rfl (l' := #[.val (.ref a1), .val (.int (0 : Int32)), .val (.ref a2), .val (.int (0 : Int32)), .val (.int (1 : Int32)), .val (.int (0 : Int32)), .unset]) rfl ?_
    refine XS.iload X0.here hx rfl (hb hby d6_3) rfl ?_
    show Steps p.tables e below (s₁.setTop (mkF m 5 #[.val (.ref a1), .val (.int (0 : Int32)), .val (.ref a2), .val (.int (0 : Int32)), .val (.int (1 : Int32)), .val (.int (0 : Int32)), .unset] [(.int (0 : Int32))])) _
    refine XS.iload X0.here hx rfl (hb hby d6_5) rfl ?_
    refine XS.icmpNo X0.here hx rfl (hb hby d6_7) rfl (tlt (by decide : (0 : Int32) < (1 : Int32))).2.1 ?_
    refine XS.aloadN X0.here hx rfl (hb hby d6_10) rfl rfl ?_
    show Steps p.tables e below (s₁.setTop (mkF m 11 #[.val (.ref a1), .val (.int (0 : Int32)), .val (.ref a2), .val (.int (0 : Int32)), .val (.int (1 : Int32)), .val (.int (0 : Int32)), .unset] [(.ref a1)])) _
    refine XS.iloadN X0.here hx rfl (hb hby d6_11) rfl ?_
    refine X0.caload hx (j := (0 : Int32)) (v := (.int c0)) (by rw [e0]; exact Ar_a1_12_1.1) (State.isArrayOf_alike hZ.alike Ar_a1_12_1.2.1) Ar_a1_12_1.2.2 hin_a1_12_1 (H_a1_12_1.at hin_a1_12_1 rfl) (g := (mkF m 12 #[.val (.ref a1), .val (.int (0 : Int32)), .val (.ref a2), .val (.int (0 : Int32)), .val (.int (1 : Int32)), .val (.int (0 : Int32)), .unset] [(.int (0 : Int32)), (.ref a1)])) rfl rfl (hb hby d6_12) _ ?_
    show Steps p.tables e below (s₁.setTop (mkF m 13 #[.val (.ref a1), .val (.int (0 : Int32)), .val (.ref a2), .val (.int (0 : Int32)), .val (.int (1 : Int32)), .val (.int (0 : Int32)), .unset] [(.int c0)])) _
    refine XS.istore X0.here hx rfl (hb hby d6_13) rfl (l' := #[.val (.ref a1), .val (.int (0 : Int32)), .val (.ref a2), .val (.int (0 : Int32)), .val (.int (1 : Int32)), .val (.int (0 : Int32)), .val (.int c0)]) rfl ?_
    show Steps p.tables e below (s₁.setTop (mkF m 15 #[.val (.ref a1), .val (.int (0 : Int32)), .val (.ref a2), .val (.int (0 : Int32)), .val (.int (1 : Int32)), .val (.int (0 : Int32)), .val (.int c0)] [])) _
    refine XS.iload X0.here hx rfl (hb hby d6_15) rfl ?_
    refine XS.sipush X0.here hx rfl (hb hby d6_17) ?_
    refine XS.icmpYes X0.here hx rfl (pc0 := 20) (pc' := 26) rfl (hb hby d6_20) rfl (flt hch0).2.2.2 (by decide) (by decide) ?_
    show Steps p.tables e below (s₁.setTop (mkF m 26 #[.val (.ref a1), .val (.int (0 : Int32)), .val (.ref a2), .val (.int (0 : Int32)), .val (.int (1 : Int32)), .val (.int (0 : Int32)), .val (.int c0)] [])) _
    refine XS.aloadN X0.here hx rfl (hb hby d6_26) rfl rfl ?_
    refine XS.iloadN X0.here hx rfl (hb hby d6_27) rfl ?_
    refine XS.iload X0.here hx rfl (hb hby d6_28) rfl ?_
    show Steps p.tables e below (s₁.setTop (mkF m 30 #[.val (.ref a1), .val (.int (0 : Int32)), .val (.ref a2), .val (.int (0 : Int32)), .val (.int (1 : Int32)), .val (.int (0 : Int32)), .val (.int c0)] [(.int c0), (.int (0 : Int32)), (.ref a2)])) _
    refine XS.i2b X0.here hx rfl (hb hby d6_30) rfl ?_
    show Steps p.tables e below (s₁.setTop (mkF m 31 #[.val (.ref a1), .val (.int (0 : Int32)), .val (.ref a2), .val (.int (0 : Int32)), .val (.int (1 : Int32)), .val (.int (0 : Int32)), .val (.int c0)] [(.int (c0.toInt8.toInt32)), (.int (0 : Int32)), (.ref a2)])) _
    refine st3 _ ?_
    show Steps p.tables e below (T3.setTop (mkF m 32 #[.val (.ref a1), .val (.int (0 : Int32)), .val (.ref a2), .val (.int (0 : Int32)), .val (.int (1 : Int32)), .val (.int (0 : Int32)), .val (.int c0)] [])) _
    refine XS.iinc X3.here hx rfl (hb hby d6_32) rfl (l' := #[.val (.ref a1), .val (.int (1 : Int32)), .val (.ref a2), .val (.int (0 : Int32)), .val (.int (1 : Int32)), .val (.int (0 : Int32)), .val (.int c0)]) rfl ?_
    refine XS.iinc X3.here hx rfl (hb hby d6_35) rfl (l' := #[.val (.ref a1), .val (.int (1 : Int32)), .val (.ref a2), .val (.int (1 : Int32)), .val (.int (1 : Int32)), .val (.int (0 : Int32)), .val (.int c0)]) rfl ?_
    show Steps p.tables e below (T3.setTop (mkF m 38 #[.val (.ref a1), .val (.int (1 : Int32)), .val (.ref a2), .val (.int (1 : Int32)), .val (.int (1 : Int32)), .val (.int (0 : Int32)), .val (.int c0)] [])) _
    refine XS.iinc X3.here hx rfl (hb hby d6_38) rfl (l' := #[.val (.ref a1), .val (.int (1 : Int32)), .val (.ref a2), .val (.int (1 : Int32)), .val (.int (1 : Int32)), .val (.int (1 : Int32)), .val (.int c0)]) rfl ?_
    refine XS.goto X3.here hx rfl (pc0 := 41) (pc' := 3) rfl (hb hby d6_41) (by decide) (by decide) ?_
    refine XS.iload X3.here hx rfl (hb hby d6_3) rfl ?_
    show Steps p.tables e below (T3.setTop (mkF m 5 #[.val (.ref a1), .val (.int (1 : Int32)), .val (.ref a2), .val (.int (1 : Int32)), .val (.int (1 : Int32)), .val (.int (1 : Int32)), .val (.int c0)] [(.int (1 : Int32))])) _
    refine XS.iload X3.here hx rfl (hb hby d6_5) rfl ?_
    refine XS.icmpYes X3.here hx rfl (pc0 := 7) (pc' := 44) rfl (hb hby d6_7) rfl (flt (by decide : ¬ ((1 : Int32) < (1 : Int32)))).2.1 (by decide) (by decide) ?_
    refine XS.iload X3.here hx rfl (hb hby d6_44) rfl ?_
    show Steps p.tables e below (T3.setTop (mkF m 46 #[.val (.ref a1), .val (.int (1 : Int32)), .val (.ref a2), .val (.int (1 : Int32)), .val (.int (1 : Int32)), .val (.int (1 : Int32)), .val (.int c0)] [(.int (1 : Int32))])) _
    exact retI X3 hx Bd.returns (hb hby d6_46) hr
  · show Q_cmp5_1 Z a1 a2 ka c0 kb h0 n0 _ T3.heap _
    rw [e3]
    exact ⟨rfl, N3, K3, V_a2_31_2⟩
theorem d5_0 : decode jdk_52_method_16_code 0 = .ok (.iload_n 2, 1) := by decide +kernel
theorem d5_1 : decode jdk_52_method_16_code 1 = .ok (.newarray .byte, 2) := by decide +kernel
theorem d5_3 : decode jdk_52_method_16_code 3 = .ok (.astore_n 3, 1) := by decide +kernel
theorem d5_4 : decode jdk_52_method_16_code 4 = .ok (.aload_n 0, 1) := by decide +kernel
theorem d5_5 : decode jdk_52_method_16_code 5 = .ok (.iload_n 1, 1) := by decide +kernel
theorem d5_6 : decode jdk_52_method_16_code 6 = .ok (.aload_n 3, 1) := by decide +kernel
theorem d5_7 : decode jdk_52_method_16_code 7 = .ok (.iconst 0, 1) := by decide +kernel
theorem d5_8 : decode jdk_52_method_16_code 8 = .ok (.iload_n 2, 1) := by decide +kernel
theorem d5_9 : decode jdk_52_method_16_code 9 = .ok (.invokestatic 115, 3) := by decide +kernel
theorem d5_12 : decode jdk_52_method_16_code 12 = .ok (.istore 4, 2) := by decide +kernel
theorem d5_14 : decode jdk_52_method_16_code 14 = .ok (.iload 4, 2) := by decide +kernel
theorem d5_16 : decode jdk_52_method_16_code 16 = .ok (.iload_n 2, 1) := by decide +kernel
theorem d5_17 : decode jdk_52_method_16_code 17 = .ok (.if_icmp .eq 40, 3) := by decide +kernel
theorem d5_57 : decode jdk_52_method_16_code 57 = .ok (.aload_n 3, 1) := by decide +kernel
theorem d5_58 : decode jdk_52_method_16_code 58 = .ok (.areturn, 1) := by decide +kernel
theorem pd1 : parseMethodDescriptor "([CI[BII)I" = some ⟨[(.array .char), .int, (.array .byte), .int, .int], some .int⟩ := by decide +kernel
theorem ef_cmp3_1 (m : MethodId) (a1 : Addr) : entryFrame m #[(.ref a1), (.int (0 : Int32)), (.int (1 : Int32))] 6 = (mkF m 0 #[.val (.ref a1), .val (.int (0 : Int32)), .val (.int (1 : Int32)), .unset, .unset, .unset] []) := by first | (simp [entryFrame, mkF, argsToLocals, Value.category]; done) | rfl
def Q_cmp3_1 (Z : State) (a1 : Addr) (ka : ClassId) (c0 : Int32) (h0 : Heap) (n0 : Nat) (v : Option Value) (h : Heap) (L : List Loc) : Prop := ∃ (b1 : Addr) (k1 : ClassId), v = some (.ref b1) ∧ Fr n0 L ∧ Keep h0 h [] ∧ h0.size ≤ b1 ∧ Arv Z h b1 k1 .byte (1 : Int32) [(.int (nar .byte (c0.toInt8.toInt32)))] (.int (0 : Int32))
set_option maxRecDepth 65536 in
set_option maxHeartbeats 40000000 in
theorem rm_cmp3_1 (l : Launch) (Z : State) (a0 : Array Value) (hw : ∀ d ∈ tables_1, d.before a0 Z = true) (ws : List Jvm.Cond) (a1 : Addr) (ka : ClassId) (c0 : Int32) (h0 : Heap) (n0 : Nat) (Z0 : n0 ≤ h0.size) (V_a1 : Arv Z h0 a1 ka .char (1 : Int32) [(.int c0)] (.int (0 : Int32))) (hch0 : ¬ ((255 : Int32) < c0)) :
    MetFree l (⟨"java/lang/StringUTF16", "compress", "([CII)[B"⟩ : MethodName) (head1 (Jvm.Cond.code (⟨"java/lang/StringUTF16", "compress", "([CII)[B"⟩ : MethodName) jdk_52_method_16_code 6 (some (.array .byte)) :: ws) ({ frames := 1, cells := 1, slots := 1, locals := 18 } : Room)) (fun a U => a = #[(.ref a1), (.int (0 : Int32)), (.int (1 : Int32))] ∧ Z.Warmed39 U.vm ∧ U.heap = h0) (fun _ _ _ _ _ => True) (fun _ U o U' => ∃ v L, o = .returned v ∧ Q_cmp3_1 Z a1 ka c0 h0 n0 v U'.heap L ∧ FrameEnd U o U' L ({ frames := 1, cells := 1, slots := 1, locals := 18 } : Room).cells ({ frames := 1, cells := 1, slots := 1, locals := 18 } : Room).slots) := by
  refine MetFree.of_bodySF (plainFor_of_name pn1) hisR ?_
  intro p e s m args below meth c s₁ Bd hml0 hP hK
  obtain ⟨rfl, hZ, hh⟩ := hP
  have hx := Bd.exec
  have hby := Bd.bytes
  have hml : c.maxLocals = 6 := hml0
  have hown : s.vm.findClass "java/lang/StringUTF16" = some m.cls := findClass_of_methodNamed Bd.named
  have hnm := (name_of_methodNamed Bd.named Bd.method).1
  have X0 : Stand p l e ({ frames := 1, cells := 1, slots := 1, locals := 18 } : Room) s m #[(.ref a1), (.int (0 : Int32)), (.int (1 : Int32))] below meth c s₁ [] 0 0 := Stand.of_body Bd
  have e0 : s₁.heap = h0 := by rw [← hh, Bd.state]; rfl
  have N0 := Fr.nil n0
  have pre0 : ∀ t, Steps p.tables e below (s₁.setTop (mkF m 0 #[.val (.ref a1), .val (.int (0 : Int32)), .val (.int (1 : Int32)), .unset, .unset, .unset] [])) t → Steps p.tables e below (s₁.setTop (entryFrame m #[(.ref a1), (.int (0 : Int32)), (.int (1 : Int32))] 6)) t := fun t k => castTop (ef_cmp3_1 m a1) k
  obtain ⟨T1, h1, k1, X1, e1, E1, A1, st1⟩ := newP X0 hx hZ (hw _ (List.mem_of_getElem? (i := 24) rfl)) e0 (g := (mkF m 1 #[.val (.ref a1), .val (.int (0 : Int32)), .val (.int (1 : Int32)), .unset, .unset, .unset] [(.int (1 : Int32))])) rfl (hb hby d5_1) rfl (by decide) (cap := 1) (by decide) (by decide) (by decide) (by decide)
  obtain ⟨b1, g1⟩ : ∃ z, z = h0.size := ⟨_, rfl⟩
  rw [← g1] at A1 st1
  have sz_b1 : h0.size ≤ b1 := Nat.le_trans (Keep.refl h0 []).1 (Nat.le_of_eq g1.symm)
  have g_b1 : n0 ≤ b1 := Nat.le_trans Z0 sz_b1
  have K1 : Keep h0 h1 [] := (Keep.refl h0 []).ext E1
  have V_b1 : Arv Z h1 b1 k1 .byte (1 : Int32) [(.int (0 : Int32))] (.int (0 : Int32)) := (Arv.new A1 (by decide)).pad (pad_rep [] (.int (0 : Int32)) 1)
  obtain ⟨_, _, ⟨T2, L2, k2, n2⟩, -, X2, ⟨Lc2, hQ2, l2, y2, z2⟩, st2⟩ := Jvm.LawKit.callS X1 hx (y := (⟨"java/lang/StringUTF16", "compress", "([CI[BII)I"⟩ : MethodName)) hown (mvT hZ (hw _ (List.mem_of_getElem? (i := 25) rfl))) (mvT hZ (hw _ (List.mem_of_getElem? (i := 26) rfl))) (mvT hZ (hw _ (List.mem_of_getElem? (i := 22) rfl))) (mvT hZ (hw _ (List.mem_of_getElem? (i := 27) rfl))) (by decide) (backOf (W := 0) (rm_cmp5_1 l Z a0 hw [] a1 b1 ka c0 k1 h1 n0 (Nat.le_trans Z0 K1.1) (V_a1.ext E1) V_b1 g_b1 ((Nat.ne_of_lt (Nat.lt_of_lt_of_le V_a1.lt (Nat.le_of_eq g1.symm))) : a1 ≠ b1) (hch0 : ¬ ((255 : Int32) < c0))) hZ (hw _ (List.mem_of_getElem? (i := 27) rfl)) (hw _ (List.mem_of_getElem? (i := 22) rfl)) (by decide) (by decide)) (g := (mkF m 9 #[.val (.ref a1), .val (.int (0 : Int32)), .val (.int (1 : Int32)), .val (.ref b1), .unset, .unset] [(.int (1 : Int32)), (.int (0 : Int32)), (.ref b1), (.int (0 : Int32)), (.ref a1)])) rfl (by rw [hml]; rfl) (argsL := [(.ref a1), (.int (0 : Int32)), (.ref b1), (.int (0 : Int32)), (.int (1 : Int32))]) (rest := []) (lenOf pd1 rfl) rfl (by show 2 * 0 + _ ≤ _; exact Nat.le_of_eq rfl) (hb hby d5_9) (fun _ _ => ⟨rfl, e1, (by decide : 1 + 0 ≤ _), (by decide : 1 + 0 ≤ _)⟩)
  dsimp only [Pt.U, Pt.locs, Pt.cells, Pt.slots] at X2 l2 y2 z2 st2 hQ2
  subst l2 y2 z2
  obtain ⟨rfl, N2q, K2, f2_0⟩ := hQ2
  have N2 := Fr.app N0 N2q
  have KK2 : Keep h0 T2.heap [] := K1.trans K2 (allS (Or.inr sz_b1) all0)
  obtain ⟨fs, hr, hrun, hended, hW, hsame⟩ := X2.leave (v := some (.ref b1)) (fun h => by rw [Bd.returns] at h; cases h)
  refine ⟨_, _, pre0 _ ?_, hrun, hended, _, _, rfl, ?_, ⟨_, rfl⟩, hW, hsame.mono (by decide) (by decide)⟩
  · show Steps p.tables e below (s₁.setTop (mkF m 0 #[.val (.ref a1), .val (.int (0 : Int32)), .val (.int (1 : Int32)), .unset, .unset, .unset] [])) _
    refine XS.iloadN X0.here hx rfl (hb hby d5_0) rfl ?_
    show Steps p.tables e below (s₁.setTop (mkF m 1 #[.val (.ref a1), .val (.int (0 : Int32)), .val (.int (1 : Int32)), .unset, .unset, .unset] [(.int (1 : Int32))])) _
    refine st1 _ ?_
    show Steps p.tables e below (T1.setTop (mkF m 3 #[.val (.ref a1), .val (.int (0 : Int32)), .val (.int (1 : Int32)), .unset, .unset, .unset] [(.ref b1)])) _
    refine XS.astoreN X1.here hx rfl (hb hby d5_3) rfl rfl (l' := #[.val (.ref a1), .val (.int (0 : Int32)), .val (.int (1 : Int32)), .val (.ref b1), .unset, .unset]) rfl ?_
    refine XS.aloadN X1.here hx rfl (hb hby d5_4) rfl rfl ?_
    show Steps p.tables e below (T1.setTop (mkF m 5 #[.val (.ref a1), .val (.int (0 : Int32)), .val (.int (1 : Int32)), .val (.ref b1), .unset, .unset] [(.ref a1)])) _
    refine XS.iloadN X1.here hx rfl (hb hby d5_5) rfl ?_
    refine XS.aloadN X1.here hx rfl (hb hby d5_6) rfl rfl ?_
    refine XS.iconst X1.here hx rfl (hb hby d5_7) ?_
    show Steps p.tables e below (T1.setTop (mkF m 8 #[.val (.ref a1), .val (.int (0 : Int32)), .val (.int (1 : Int32)), .val (.ref b1), .unset, .unset] [(.int (0 : Int32)), (.ref b1), (.int (0 : Int32)), (.ref a1)])) _
    refine XS.iloadN X1.here hx rfl (hb hby d5_8) rfl ?_
    show Steps p.tables e below (T1.setTop (mkF m 9 #[.val (.ref a1), .val (.int (0 : Int32)), .val (.int (1 : Int32)), .val (.ref b1), .unset, .unset] [(.int (1 : Int32)), (.int (0 : Int32)), (.ref b1), (.int (0 : Int32)), (.ref a1)])) _
    refine st2 _ ?_
    show Steps p.tables e below (T2.setTop (mkF m 12 #[.val (.ref a1), .val (.int (0 : Int32)), .val (.int (1 : Int32)), .val (.ref b1), .unset, .unset] [(.int (1 : Int32))])) _
    refine XS.istore X2.here hx rfl (hb hby d5_12) rfl (l' := #[.val (.ref a1), .val (.int (0 : Int32)), .val (.int (1 : Int32)), .val (.ref b1), .val (.int (1 : Int32)), .unset]) rfl ?_
    refine XS.iload X2.here hx rfl (hb hby d5_14) rfl ?_
    show Steps p.tables e below (T2.setTop (mkF m 16 #[.val (.ref a1), .val (.int (0 : Int32)), .val (.int (1 : Int32)), .val (.ref b1), .val (.int (1 : Int32)), .unset] [(.int (1 : Int32))])) _
    refine XS.iloadN X2.here hx rfl (hb hby d5_16) rfl ?_
    refine XS.icmpYes X2.here hx rfl (pc0 := 17) (pc' := 57) rfl (hb hby d5_17) rfl (teq (by decide : (1 : Int32) = (1 : Int32))).1 (by decide) (by decide) ?_
    refine XS.aloadN X2.here hx rfl (hb hby d5_57) rfl rfl ?_
    show Steps p.tables e below (T2.setTop (mkF m 58 #[.val (.ref a1), .val (.int (0 : Int32)), .val (.int (1 : Int32)), .val (.ref b1), .val (.int (1 : Int32)), .unset] [(.ref b1)])) _
    exact retOut X2 hx Bd.returns rfl (Or.inr (Or.inr (Or.inr (Or.inr ⟨rfl, rfl, rfl⟩)))) (hb hby d5_58) hr
  · show Q_cmp3_1 Z a1 ka c0 h0 n0 _ T2.heap _
    exact ⟨b1, k1, rfl, N2, KK2, sz_b1, f2_0⟩
theorem d7_0 : decode jdk_52_method_15_code 0 = .ok (.iload_n 1, 1) := by decide +kernel
theorem d7_1 : decode jdk_52_method_15_code 1 = .ok (.aload_n 0, 1) := by decide +kernel
theorem d7_2 : decode jdk_52_method_15_code 2 = .ok (.arraylength, 1) := by decide +kernel
theorem d7_3 : decode jdk_52_method_15_code 3 = .ok (.isub, 1) := by decide +kernel
theorem d7_4 : decode jdk_52_method_15_code 4 = .ok (.bipush 31, 2) := by decide +kernel
theorem d7_6 : decode jdk_52_method_15_code 6 = .ok (.iushr, 1) := by decide +kernel
theorem d7_7 : decode jdk_52_method_15_code 7 = .ok (.i2b, 1) := by decide +kernel
theorem d7_8 : decode jdk_52_method_15_code 8 = .ok (.ireturn, 1) := by decide +kernel
theorem ef_cod_1 (m : MethodId) (a1 : Addr) : entryFrame m #[(.ref a1), (.int (1 : Int32))] 2 = (mkF m 0 #[.val (.ref a1), .val (.int (1 : Int32))] []) := by first | (simp [entryFrame, mkF, argsToLocals, Value.category]; done) | rfl
def Q_cod_1 (Z : State) (a1 : Addr) (ka : ClassId) (x0 : Int32) (h0 : Heap) (n0 : Nat) (v : Option Value) (h : Heap) (L : List Loc) : Prop := v = some (.int (0 : Int32)) ∧ L = [] ∧ h = h0
set_option maxRecDepth 65536 in
set_option maxHeartbeats 40000000 in
theorem rm_cod_1 (l : Launch) (Z : State) (a0 : Array Value) (hw : ∀ d ∈ tables_1, d.before a0 Z = true) (ws : List Jvm.Cond) (a1 : Addr) (ka : ClassId) (x0 : Int32) (h0 : Heap) (n0 : Nat) (Z0 : n0 ≤ h0.size) (V_a1 : Arv Z h0 a1 ka .byte (1 : Int32) [(.int x0)] (.int (0 : Int32))) :
    MetFree l (⟨"java/lang/StringUTF16", "coderFromArrayLen", "([BI)B"⟩ : MethodName) (head1 (Jvm.Cond.code (⟨"java/lang/StringUTF16", "coderFromArrayLen", "([BI)B"⟩ : MethodName) jdk_52_method_15_code 2 (some .byte) :: ws) ({ frames := 0, cells := 0, slots := 0, locals := 0 } : Room)) (fun a U => a = #[(.ref a1), (.int (1 : Int32))] ∧ Z.Warmed39 U.vm ∧ U.heap = h0) (fun _ _ _ _ _ => True) (fun _ U o U' => ∃ v L, o = .returned v ∧ Q_cod_1 Z a1 ka x0 h0 n0 v U'.heap L ∧ FrameEnd U o U' L ({ frames := 0, cells := 0, slots := 0, locals := 0 } : Room).cells ({ frames := 0, cells := 0, slots := 0, locals := 0 } : Room).slots) := by
  refine MetFree.of_bodySF (plainFor_of_name pn1) hisR ?_
  intro p e s m args below meth c s₁ Bd hml0 hP hK
  obtain ⟨rfl, hZ, hh⟩ := hP
  have hx := Bd.exec
  have hby := Bd.bytes
  have hml : c.maxLocals = 2 := hml0
  have hown : s.vm.findClass "java/lang/StringUTF16" = some m.cls := findClass_of_methodNamed Bd.named
  have hnm := (name_of_methodNamed Bd.named Bd.method).1
  have X0 : Stand p l e ({ frames := 0, cells := 0, slots := 0, locals := 0 } : Room) s m #[(.ref a1), (.int (1 : Int32))] below meth c s₁ [] 0 0 := Stand.of_body Bd
  have e0 : s₁.heap = h0 := by rw [← hh, Bd.state]; rfl
  have N0 := Fr.nil n0
  have pre0 : ∀ t, Steps p.tables e below (s₁.setTop (mkF m 0 #[.val (.ref a1), .val (.int (1 : Int32))] [])) t → Steps p.tables e below (s₁.setTop (entryFrame m #[(.ref a1), (.int (1 : Int32))] 2)) t := fun t k => castTop (ef_cod_1 m a1) k
  obtain ⟨cl_a1_2_1, Ar_a1_2_1, -, S_a1_2_1, N_a1_2_1, -, -⟩ := id V_a1
  obtain ⟨fs, hr, hrun, hended, hW, hsame⟩ := X0.leave (v := some (.int (0 : Int32))) (fun h => by rw [Bd.returns] at h; cases h)
  refine ⟨_, _, pre0 _ ?_, hrun, hended, _, _, rfl, ?_, ⟨_, rfl⟩, hW, hsame.mono (by decide) (by decide)⟩
  · show Steps p.tables e below (s₁.setTop (mkF m 0 #[.val (.ref a1), .val (.int (1 : Int32))] [])) _
    refine XS.iloadN X0.here hx rfl (hb hby d7_0) rfl ?_
    refine XS.aloadN X0.here hx rfl (hb hby d7_1) rfl rfl ?_
    refine X0.arraylength hx (by rw [e0]; exact Ar_a1_2_1.1) (State.isArrayOf_alike hZ.alike Ar_a1_2_1.2.1) (g := (mkF m 2 #[.val (.ref a1), .val (.int (1 : Int32))] [(.ref a1), (.int (1 : Int32))])) rfl rfl (hb hby d7_2) _ ?_
    rw [len_of S_a1_2_1 N_a1_2_1]
    show Steps p.tables e below (s₁.setTop (mkF m 3 #[.val (.ref a1), .val (.int (1 : Int32))] [(.int (1 : Int32)), (.int (1 : Int32))])) _
    refine XS.isub X0.here hx rfl (hb hby d7_3) rfl ?_
    refine XS.bipush X0.here hx rfl (hb hby d7_4) ?_
    refine XS.iushr X0.here hx rfl (hb hby d7_6) rfl ?_
    show Steps p.tables e below (s₁.setTop (mkF m 7 #[.val (.ref a1), .val (.int (1 : Int32))] [(.int (0 : Int32))])) _
    refine XS.i2b X0.here hx rfl (hb hby d7_7) rfl ?_
    show Steps p.tables e below (s₁.setTop (mkF m 8 #[.val (.ref a1), .val (.int (1 : Int32))] [(.int (0 : Int32))])) _
    exact retN X0 hx (t := .byte) Bd.returns (by simp) (hb hby d7_8) hr
  · show Q_cod_1 Z a1 ka x0 h0 n0 _ s₁.heap _
    rw [e0]
    exact ⟨rfl, rfl, rfl⟩
theorem d3_27 : decode jdk_42_method_149_code 27 = .ok (.getstatic 38, 3) := by decide +kernel
theorem d3_30 : decode jdk_42_method_149_code 30 = .ok (.ifCond .eq 28, 3) := by decide +kernel
theorem d3_33 : decode jdk_42_method_149_code 33 = .ok (.aload_n 1, 1) := by decide +kernel
theorem d3_34 : decode jdk_42_method_149_code 34 = .ok (.iload_n 2, 1) := by decide +kernel
theorem d3_35 : decode jdk_42_method_149_code 35 = .ok (.iload_n 3, 1) := by decide +kernel
theorem d3_36 : decode jdk_42_method_149_code 36 = .ok (.invokestatic 177, 3) := by decide +kernel
theorem d3_39 : decode jdk_42_method_149_code 39 = .ok (.astore 5, 2) := by decide +kernel
theorem d3_41 : decode jdk_42_method_149_code 41 = .ok (.aload_n 0, 1) := by decide +kernel
theorem d3_42 : decode jdk_42_method_149_code 42 = .ok (.aload 5, 2) := by decide +kernel
theorem d3_44 : decode jdk_42_method_149_code 44 = .ok (.iload_n 3, 1) := by decide +kernel
theorem d3_45 : decode jdk_42_method_149_code 45 = .ok (.invokestatic 47, 3) := by decide +kernel
theorem d3_48 : decode jdk_42_method_149_code 48 = .ok (.putfield 15, 3) := by decide +kernel
theorem d3_51 : decode jdk_42_method_149_code 51 = .ok (.aload_n 0, 1) := by decide +kernel
theorem d3_52 : decode jdk_42_method_149_code 52 = .ok (.aload 5, 2) := by decide +kernel
theorem d3_54 : decode jdk_42_method_149_code 54 = .ok (.putfield 9, 3) := by decide +kernel
theorem d3_57 : decode jdk_42_method_149_code 57 = .ok (.return_, 1) := by decide +kernel
theorem pd2 : parseMethodDescriptor "([CII)[B" = some ⟨[(.array .char), .int, .int], some (.array .byte)⟩ := by decide +kernel
theorem pd3 : parseMethodDescriptor "([BI)B" = some ⟨[(.array .byte), .int], some .byte⟩ := by decide +kernel
theorem ef_ini4_1 (m : MethodId) (a1 : Addr) (a2 : Addr) : entryFrame m #[(.ref a1), (.ref a2), (.int (0 : Int32)), (.int (1 : Int32)), .null] 6 = (mkF m 0 #[.val (.ref a1), .val (.ref a2), .val (.int (0 : Int32)), .val (.int (1 : Int32)), .val .null, .unset] []) := by first | (simp [entryFrame, mkF, argsToLocals, Value.category]; done) | rfl
def Q_ini4_1 (Z : State) (a1 : Addr) (a2 : Addr) (ka : ClassId) (c0 : Int32) (w_COMPACT_STRINGS : Int32) (u_coder_a1 : Value) (u_value_a1 : Value) (h0 : Heap) (n0 : Nat) (v : Option Value) (h : Heap) (L : List Loc) : Prop := ∃ (b1_3 : Addr) (k1_3 : ClassId), v = none ∧ Fr n0 L ∧ Keep h0 h [a1] ∧ h0.size ≤ b1_3 ∧ Exa Z h a1 "java/lang/String" ∧ Fld Z h a1 "java/lang/String" "coder" "B" (.int (0 : Int32)) ∧ Fld Z h a1 "java/lang/String" "value" "[B" (.ref b1_3) ∧ Arv Z h b1_3 k1_3 .byte (1 : Int32) [(.int (nar .byte (c0.toInt8.toInt32)))] (.int (0 : Int32))
set_option maxRecDepth 65536 in
set_option maxHeartbeats 40000000 in
theorem rm_ini4_1 (l : Launch) (Z : State) (a0 : Array Value) (hw : ∀ d ∈ tables_1, d.before a0 Z = true) (ws : List Jvm.Cond) (a1 : Addr) (a2 : Addr) (ka : ClassId) (c0 : Int32) (w_COMPACT_STRINGS : Int32) (u_coder_a1 : Value) (u_value_a1 : Value) (h0 : Heap) (n0 : Nat) (Z0 : n0 ≤ h0.size) (V_a2 : Arv Z h0 a2 ka .char (1 : Int32) [(.int c0)] (.int (0 : Int32))) (S_COMPACT_STRINGS : Sta Z h0 "java/lang/String" "COMPACT_STRINGS" "Z" (.int w_COMPACT_STRINGS)) (E_a1 : Exa Z h0 a1 "java/lang/String") (F_coder_a1 : Fld Z h0 a1 "java/lang/String" "coder" "B" u_coder_a1) (g_a1 : n0 ≤ a1) (F_value_a1 : Fld Z h0 a1 "java/lang/String" "value" "[B" u_value_a1) (hch0 : ¬ ((255 : Int32) < c0)) (hCS : ¬ (w_COMPACT_STRINGS = (0 : Int32))) :
    MetFree l (⟨"java/lang/String", "<init>", "([CIILjava/lang/Void;)V"⟩ : MethodName) (head1 (Jvm.Cond.code (⟨"java/lang/String", "<init>", "([CIILjava/lang/Void;)V"⟩ : MethodName) jdk_42_method_149_code 6 none :: ws) ({ frames := 2, cells := 1, slots := 1, locals := 35 } : Room)) (fun a U => a = #[(.ref a1), (.ref a2), (.int (0 : Int32)), (.int (1 : Int32)), .null] ∧ Z.Warmed39 U.vm ∧ U.heap = h0) (fun _ _ _ _ _ => True) (fun _ U o U' => ∃ v L, o = .returned v ∧ Q_ini4_1 Z a1 a2 ka c0 w_COMPACT_STRINGS u_coder_a1 u_value_a1 h0 n0 v U'.heap L ∧ FrameEnd U o U' L ({ frames := 2, cells := 1, slots := 1, locals := 35 } : Room).cells ({ frames := 2, cells := 1, slots := 1, locals := 35 } : Room).slots) := by
  refine MetFree.of_bodySF (plainFor_of_name pn0) hisR ?_
  intro p e s m args below meth c s₁ Bd hml0 hP hK
  obtain ⟨rfl, hZ, hh⟩ := hP
  have hx := Bd.exec
  have hby := Bd.bytes
  have hml : c.maxLocals = 6 := hml0
  have hown : s.vm.findClass "java/lang/String" = some m.cls := findClass_of_methodNamed Bd.named
  have hnm := (name_of_methodNamed Bd.named Bd.method).1
  have X0 : Stand p l e ({ frames := 2, cells := 1, slots := 1, locals := 35 } : Room) s m #[(.ref a1), (.ref a2), (.int (0 : Int32)), (.int (1 : Int32)), .null] below meth c s₁ [] 0 0 := Stand.of_body Bd
  have e0 : s₁.heap = h0 := by rw [← hh, Bd.state]; rfl
  have N0 := Fr.nil n0
  have pre0 : ∀ t, Steps p.tables e below (s₁.setTop (mkF m 0 #[.val (.ref a1), .val (.ref a2), .val (.int (0 : Int32)), .val (.int (1 : Int32)), .val .null, .unset] [])) t → Steps p.tables e below (s₁.setTop (entryFrame m #[(.ref a1), (.ref a2), (.int (0 : Int32)), (.int (1 : Int32)), .null] 6)) t := fun t k => castTop (ef_ini4_1 m a1 a2) k
  obtain ⟨T1, X1, e1, st1⟩ := initO X0 hx hZ hown (hw _ (List.mem_of_getElem? (i := 16) rfl)) (hw _ (List.mem_of_getElem? (i := 17) rfl)) (hw _ (List.mem_of_getElem? (i := 18) rfl)) e0 (g := (mkF m 1 #[.val (.ref a1), .val (.ref a2), .val (.int (0 : Int32)), .val (.int (1 : Int32)), .val .null, .unset] [(.ref a1)])) rfl (by rw [hml]; rfl) rfl (hb hby d3_1) (by decide) (W := 0) (by show 2 * 0 + _ ≤ _; exact Nat.le_of_eq rfl) (by decide)
  obtain ⟨T2, X2, e2, st2⟩ := getS2 X1 hx hZ hown (host := "") (Or.inl (hw _ (List.mem_of_getElem? (i := 19) rfl))) Via.refl e1 S_COMPACT_STRINGS (g := (mkF m 27 #[.val (.ref a1), .val (.ref a2), .val (.int (0 : Int32)), .val (.int (1 : Int32)), .val .null, .unset] [])) rfl (hb hby d3_27)
  obtain ⟨_, _, ⟨T3, L3, k3, n3⟩, -, X3, ⟨Lc3, hQ3, l3, y3, z3⟩, st3⟩ := Jvm.LawKit.callS X2 hx (y := (⟨"java/lang/StringUTF16", "compress", "([CII)[B"⟩ : MethodName)) hown (mvT hZ (hw _ (List.mem_of_getElem? (i := 20) rfl))) (mvT hZ (hw _ (List.mem_of_getElem? (i := 21) rfl))) (mvT hZ (hw _ (List.mem_of_getElem? (i := 22) rfl))) (mvT hZ (hw _ (List.mem_of_getElem? (i := 23) rfl))) (by decide) (backOf (W := 0) (rm_cmp3_1 l Z a0 hw [] a2 ka c0 h0 n0 (Nat.le_trans Z0 (Keep.refl h0 [a1]).1) V_a2 (hch0 : ¬ ((255 : Int32) < c0))) hZ (hw _ (List.mem_of_getElem? (i := 23) rfl)) (hw _ (List.mem_of_getElem? (i := 22) rfl)) (by decide) (by decide)) (g := (mkF m 36 #[.val (.ref a1), .val (.ref a2), .val (.int (0 : Int32)), .val (.int (1 : Int32)), .val .null, .unset] [(.int (1 : Int32)), (.int (0 : Int32)), (.ref a2)])) rfl (by rw [hml]; rfl) (argsL := [(.ref a2), (.int (0 : Int32)), (.int (1 : Int32))]) (rest := []) (lenOf pd2 rfl) rfl (by show 2 * 0 + _ ≤ _; exact Nat.le_of_eq rfl) (hb hby d3_36) (fun _ _ => ⟨rfl, e2, (by decide : 0 + 1 ≤ _), (by decide : 0 + 1 ≤ _)⟩)
  dsimp only [Pt.U, Pt.locs, Pt.cells, Pt.slots] at X3 l3 y3 z3 st3 hQ3
  subst l3 y3 z3
  obtain ⟨b1_3, k1_3, rfl, N3q, K3, s3_b1, f3_0⟩ := hQ3
  have N3 := Fr.app N0 N3q
  have sz_b1_3 : h0.size ≤ b1_3 := Nat.le_trans (Keep.refl h0 [a1]).1 s3_b1
  have g_b1_3 : n0 ≤ b1_3 := Nat.le_trans Z0 sz_b1_3
  have KK3 : Keep h0 T3.heap [a1] := (Keep.refl h0 [a1]).trans K3 all0
  obtain ⟨_, _, ⟨T4, L4, k4, n4⟩, -, X4, ⟨Lc4, hQ4, l4, y4, z4⟩, st4⟩ := Jvm.LawKit.callS X3 hx (y := (⟨"java/lang/StringUTF16", "coderFromArrayLen", "([BI)B"⟩ : MethodName)) hown (mvT hZ (hw _ (List.mem_of_getElem? (i := 28) rfl))) (mvT hZ (hw _ (List.mem_of_getElem? (i := 29) rfl))) (mvT hZ (hw _ (List.mem_of_getElem? (i := 22) rfl))) (mvT hZ (hw _ (List.mem_of_getElem? (i := 30) rfl))) (by decide) (backOf (W := 1) (rm_cod_1 l Z a0 hw [] b1_3 k1_3 (nar .byte (c0.toInt8.toInt32)) T3.heap n0 (Nat.le_trans Z0 KK3.1) f3_0 ) hZ (hw _ (List.mem_of_getElem? (i := 30) rfl)) (hw _ (List.mem_of_getElem? (i := 22) rfl)) (by decide) (by decide)) (g := (mkF m 45 #[.val (.ref a1), .val (.ref a2), .val (.int (0 : Int32)), .val (.int (1 : Int32)), .val .null, .val (.ref b1_3)] [(.int (1 : Int32)), (.ref b1_3), (.ref a1)])) rfl (by rw [hml]; rfl) (argsL := [(.ref b1_3), (.int (1 : Int32))]) (rest := [(.ref a1)]) (lenOf pd3 rfl) rfl (by show 2 * 0 + _ ≤ _; exact Nat.le_of_eq rfl) (hb hby d3_45) (fun _ _ => ⟨rfl, rfl, (by decide : 1 + 0 ≤ _), (by decide : 1 + 0 ≤ _)⟩)
  dsimp only [Pt.U, Pt.locs, Pt.cells, Pt.slots] at X4 l4 y4 z4 st4 hQ4
  subst l4 y4 z4
  obtain ⟨rfl, rfl, e4⟩ := hQ4
  have N4 := Fr.app N3 (Fr.nil n0)
  obtain ⟨T5, h5, X5, e5, W5, st5⟩ := putF X4 hx hZ hown (host := "") (Or.inl (hw _ (List.mem_of_getElem? (i := 31) rfl))) Via.refl e4 (F_coder_a1.keep K3 nin0) (E_a1.keep K3) (Or.inr ⟨(hw _ (List.mem_of_getElem? (i := 32) rfl)), rfl, hnm⟩) (hw _ (List.mem_of_getElem? (i := 6) rfl)) (ty := .byte) (by decide) rfl rfl (g := (mkF m 48 #[.val (.ref a1), .val (.ref a2), .val (.int (0 : Int32)), .val (.int (1 : Int32)), .val .null, .val (.ref b1_3)] [(.int (0 : Int32)), (.ref a1)])) rfl rfl (hb hby d3_48)
  have Fw5 := (F_coder_a1.keep K3 nin0).same W5
  have K5 : Keep h0 h5 [a1] := KK3.wr W5 (Or.inl (List.mem_of_getElem? (i := 0) rfl))
  have N5 := Fr.snoc X5 N4 g_a1
  obtain ⟨T6, h6, X6, e6, W6, st6⟩ := putF X5 hx hZ hown (host := "") (Or.inl (hw _ (List.mem_of_getElem? (i := 33) rfl))) Via.refl e5 ((F_value_a1.keep K3 nin0).other W5 (Or.inr (slot_ne (Or.inr (hw _ (List.mem_of_getElem? (i := 34) rfl))) (Or.inr (hw _ (List.mem_of_getElem? (i := 32) rfl))) (by decide) (t := (.array .byte)) (t' := .byte) (by decide) (by decide)))) ((E_a1.keep K3).wr W5) (Or.inr ⟨(hw _ (List.mem_of_getElem? (i := 34) rfl)), rfl, hnm⟩) (hw _ (List.mem_of_getElem? (i := 6) rfl)) (ty := (.array .byte)) (by decide) rfl rfl (g := (mkF m 54 #[.val (.ref a1), .val (.ref a2), .val (.int (0 : Int32)), .val (.int (1 : Int32)), .val .null, .val (.ref b1_3)] [(.ref b1_3), (.ref a1)])) rfl rfl (hb hby d3_54)
  have Fw6 := ((F_value_a1.keep K3 nin0).other W5 (Or.inr (slot_ne (Or.inr (hw _ (List.mem_of_getElem? (i := 34) rfl))) (Or.inr (hw _ (List.mem_of_getElem? (i := 32) rfl))) (by decide) (t := (.array .byte)) (t' := .byte) (by decide) (by decide)))).same W6
  have K6 : Keep h0 h6 [a1] := K5.wr W6 (Or.inl (List.mem_of_getElem? (i := 0) rfl))
  have N6 := Fr.snoc X6 N5 g_a1
  obtain ⟨fs, hr, hrun, hended, hW, hsame⟩ := X6.leave (v := none) (fun _ => rfl)
  refine ⟨_, _, pre0 _ ?_, hrun, hended, _, _, rfl, ?_, ⟨_, rfl⟩, hW, hsame.mono (by decide) (by decide)⟩
  · show Steps p.tables e below (s₁.setTop (mkF m 0 #[.val (.ref a1), .val (.ref a2), .val (.int (0 : Int32)), .val (.int (1 : Int32)), .val .null, .unset] [])) _
    refine XS.aloadN X0.here hx rfl (hb hby d3_0) rfl rfl ?_
    show Steps p.tables e below (s₁.setTop (mkF m 1 #[.val (.ref a1), .val (.ref a2), .val (.int (0 : Int32)), .val (.int (1 : Int32)), .val .null, .unset] [(.ref a1)])) _
    refine st1 _ ?_
    show Steps p.tables e below (T1.setTop (mkF m 4 #[.val (.ref a1), .val (.ref a2), .val (.int (0 : Int32)), .val (.int (1 : Int32)), .val .null, .unset] [])) _
    refine XS.iloadN X1.here hx rfl (hb hby d3_4) rfl ?_
    refine XS.ifYes X1.here hx rfl (pc0 := 5) (pc' := 27) rfl (hb hby d3_5) rfl ((if0 _ _).trans (feq (by decide : ¬ ((1 : Int32) = (0 : Int32)))).2) (by decide) (by decide) ?_
    show Steps p.tables e below (T1.setTop (mkF m 27 #[.val (.ref a1), .val (.ref a2), .val (.int (0 : Int32)), .val (.int (1 : Int32)), .val .null, .unset] [])) _
    refine st2 _ ?_
    show Steps p.tables e below (T2.setTop (mkF m 30 #[.val (.ref a1), .val (.ref a2), .val (.int (0 : Int32)), .val (.int (1 : Int32)), .val .null, .unset] [(.int w_COMPACT_STRINGS)])) _
    refine XS.ifNo X2.here hx rfl (hb hby d3_30) rfl ((if0 _ _).trans (feq (hCS : ¬ (w_COMPACT_STRINGS = (0 : Int32)))).1) ?_
    refine XS.aloadN X2.here hx rfl (hb hby d3_33) rfl rfl ?_
    refine XS.iloadN X2.here hx rfl (hb hby d3_34) rfl ?_
    show Steps p.tables e below (T2.setTop (mkF m 35 #[.val (.ref a1), .val (.ref a2), .val (.int (0 : Int32)), .val (.int (1 : Int32)), .val .null, .unset] [(.int (0 : Int32)), (.ref a2)])) _
    refine XS.iloadN X2.here hx rfl (hb hby d3_35) rfl ?_
    show Steps p.tables e below (T2.setTop (mkF m 36 #[.val (.ref a1), .val (.ref a2), .val (.int (0 : Int32)), .val (.int (1 : Int32)), .val .null, .unset] [(.int (1 : Int32)), (.int (0 : Int32)), (.ref a2)])) _
    refine st3 _ ?_
    show Steps p.tables e below (T3.setTop (mkF m 39 #[.val (.ref a1), .val (.ref a2), .val (.int (0 : Int32)), .val (.int (1 : Int32)), .val .null, .unset] [(.ref b1_3)])) _
    refine XS.astore X3.here hx rfl (hb hby d3_39) rfl rfl (l' := #[.val (.ref a1), .val (.ref a2), .val (.int (0 : Int32)), .val (.int (1 : Int32)), .val .null, .val (.ref b1_3)]) rfl ?_
    refine XS.aloadN X3.here hx rfl (hb hby d3_41) rfl rfl ?_
    show Steps p.tables e below (T3.setTop (mkF m 42 #[.val (.ref a1), .val (.ref a2), .val (.int (0 : Int32)), .val (.int (1 : Int32)), .val .null, .val (.ref b1_3)] [(.ref a1)])) _
    refine XS.aload X3.here hx rfl (hb hby d3_42) rfl rfl ?_
    refine XS.iloadN X3.here hx rfl (hb hby d3_44) rfl ?_
    show Steps p.tables e below (T3.setTop (mkF m 45 #[.val (.ref a1), .val (.ref a2), .val (.int (0 : Int32)), .val (.int (1 : Int32)), .val .null, .val (.ref b1_3)] [(.int (1 : Int32)), (.ref b1_3), (.ref a1)])) _
    refine st4 _ ?_
    show Steps p.tables e below (T4.setTop (mkF m 48 #[.val (.ref a1), .val (.ref a2), .val (.int (0 : Int32)), .val (.int (1 : Int32)), .val .null, .val (.ref b1_3)] [(.int (0 : Int32)), (.ref a1)])) _
    refine st5 _ ?_
    show Steps p.tables e below (T5.setTop (mkF m 51 #[.val (.ref a1), .val (.ref a2), .val (.int (0 : Int32)), .val (.int (1 : Int32)), .val .null, .val (.ref b1_3)] [])) _
    refine XS.aloadN X5.here hx rfl (hb hby d3_51) rfl rfl ?_
    show Steps p.tables e below (T5.setTop (mkF m 52 #[.val (.ref a1), .val (.ref a2), .val (.int (0 : Int32)), .val (.int (1 : Int32)), .val .null, .val (.ref b1_3)] [(.ref a1)])) _
    refine XS.aload X5.here hx rfl (hb hby d3_52) rfl rfl ?_
    show Steps p.tables e below (T5.setTop (mkF m 54 #[.val (.ref a1), .val (.ref a2), .val (.int (0 : Int32)), .val (.int (1 : Int32)), .val .null, .val (.ref b1_3)] [(.ref b1_3), (.ref a1)])) _
    refine st6 _ ?_
    show Steps p.tables e below (T6.setTop (mkF m 57 #[.val (.ref a1), .val (.ref a2), .val (.int (0 : Int32)), .val (.int (1 : Int32)), .val .null, .val (.ref b1_3)] [])) _
    exact X6.returnOut hx Bd.returns (hb hby d3_57) hr
  · show Q_ini4_1 Z a1 a2 ka c0 w_COMPACT_STRINGS u_coder_a1 u_value_a1 h0 n0 _ T6.heap _
    rw [e6]
    exact ⟨b1_3, k1_3, rfl, N6, K6, sz_b1_3, (((E_a1.keep K3).wr W5).wr W6), (Fw5.other W6 (Or.inr (slot_ne (Or.inr (hw _ (List.mem_of_getElem? (i := 32) rfl))) (Or.inr (hw _ (List.mem_of_getElem? (i := 34) rfl))) (by decide) (t := .byte) (t' := (.array .byte)) (by decide) (by decide)))), Fw6, ((f3_0.other W5 (Ne.symm (Nat.ne_of_lt (Nat.lt_of_lt_of_le E_a1.lt s3_b1)))).other W6 (Ne.symm (Nat.ne_of_lt (Nat.lt_of_lt_of_le E_a1.lt s3_b1))))⟩
theorem ef_ini1_1 (m : MethodId) (a1 : Addr) (a2 : Addr) : entryFrame m #[(.ref a1), (.ref a2)] 2 = (mkF m 0 #[.val (.ref a1), .val (.ref a2)] []) := by first | (simp [entryFrame, mkF, argsToLocals, Value.category]; done) | rfl
def Q_ini1_1 (Z : State) (a1 : Addr) (a2 : Addr) (ka : ClassId) (c0 : Int32) (w_COMPACT_STRINGS : Int32) (u_coder_a1 : Value) (u_value_a1 : Value) (h0 : Heap) (n0 : Nat) (v : Option Value) (h : Heap) (L : List Loc) : Prop := ∃ (b1_3_2 : Addr) (k1_3_2 : ClassId), v = none ∧ Fr n0 L ∧ Keep h0 h [a1] ∧ h0.size ≤ b1_3_2 ∧ Exa Z h a1 "java/lang/String" ∧ Fld Z h a1 "java/lang/String" "coder" "B" (.int (0 : Int32)) ∧ Fld Z h a1 "java/lang/String" "value" "[B" (.ref b1_3_2) ∧ Arv Z h b1_3_2 k1_3_2 .byte (1 : Int32) [(.int (nar .byte (c0.toInt8.toInt32)))] (.int (0 : Int32))
set_option maxRecDepth 65536 in
set_option maxHeartbeats 40000000 in
theorem rm_ini1_1 (l : Launch) (Z : State) (a0 : Array Value) (hw : ∀ d ∈ tables_1, d.before a0 Z = true) (ws : List Jvm.Cond) (a1 : Addr) (a2 : Addr) (ka : ClassId) (c0 : Int32) (w_COMPACT_STRINGS : Int32) (u_coder_a1 : Value) (u_value_a1 : Value) (h0 : Heap) (n0 : Nat) (Z0 : n0 ≤ h0.size) (V_a2 : Arv Z h0 a2 ka .char (1 : Int32) [(.int c0)] (.int (0 : Int32))) (S_COMPACT_STRINGS : Sta Z h0 "java/lang/String" "COMPACT_STRINGS" "Z" (.int w_COMPACT_STRINGS)) (E_a1 : Exa Z h0 a1 "java/lang/String") (F_coder_a1 : Fld Z h0 a1 "java/lang/String" "coder" "B" u_coder_a1) (g_a1 : n0 ≤ a1) (F_value_a1 : Fld Z h0 a1 "java/lang/String" "value" "[B" u_value_a1) (hch0 : ¬ ((255 : Int32) < c0)) (hCS : ¬ (w_COMPACT_STRINGS = (0 : Int32))) :
    MetFree l (⟨"java/lang/String", "<init>", "([C)V"⟩ : MethodName) (head1 (Jvm.Cond.code (⟨"java/lang/String", "<init>", "([C)V"⟩ : MethodName) jdk_42_method_3_code 2 none :: ws) ({ frames := 3, cells := 1, slots := 1, locals := 52 } : Room)) (fun a U => a = #[(.ref a1), (.ref a2)] ∧ Z.Warmed39 U.vm ∧ U.heap = h0) (fun _ _ _ _ _ => True) (fun _ U o U' => ∃ v L, o = .returned v ∧ Q_ini1_1 Z a1 a2 ka c0 w_COMPACT_STRINGS u_coder_a1 u_value_a1 h0 n0 v U'.heap L ∧ FrameEnd U o U' L ({ frames := 3, cells := 1, slots := 1, locals := 52 } : Room).cells ({ frames := 3, cells := 1, slots := 1, locals := 52 } : Room).slots) := by
  refine MetFree.of_bodySF (plainFor_of_name pn0) hisR ?_
  intro p e s m args below meth c s₁ Bd hml0 hP hK
  obtain ⟨rfl, hZ, hh⟩ := hP
  have hx := Bd.exec
  have hby := Bd.bytes
  have hml : c.maxLocals = 2 := hml0
  have hown : s.vm.findClass "java/lang/String" = some m.cls := findClass_of_methodNamed Bd.named
  have hnm := (name_of_methodNamed Bd.named Bd.method).1
  have X0 : Stand p l e ({ frames := 3, cells := 1, slots := 1, locals := 52 } : Room) s m #[(.ref a1), (.ref a2)] below meth c s₁ [] 0 0 := Stand.of_body Bd
  have e0 : s₁.heap = h0 := by rw [← hh, Bd.state]; rfl
  have N0 := Fr.nil n0
  have pre0 : ∀ t, Steps p.tables e below (s₁.setTop (mkF m 0 #[.val (.ref a1), .val (.ref a2)] [])) t → Steps p.tables e below (s₁.setTop (entryFrame m #[(.ref a1), (.ref a2)] 2)) t := fun t k => castTop (ef_ini1_1 m a1 a2) k
  obtain ⟨cl_a2_4_1, Ar_a2_4_1, -, S_a2_4_1, N_a2_4_1, -, -⟩ := id V_a2
  obtain ⟨_, _, ⟨T2, L2, k2, n2⟩, -, X2, ⟨Lc2, hQ2, l2, y2, z2⟩, st2⟩ := X0.specialBack hx (y := (⟨"java/lang/String", "<init>", "([CIILjava/lang/Void;)V"⟩ : MethodName)) rfl hown (mvT hZ (hw _ (List.mem_of_getElem? (i := 12) rfl))) (mvT hZ (hw _ (List.mem_of_getElem? (i := 13) rfl))) (mvT hZ (hw _ (List.mem_of_getElem? (i := 15) rfl))) (by decide) (backOf (W := 0) (rm_ini4_1 l Z a0 hw [] a1 a2 ka c0 w_COMPACT_STRINGS u_coder_a1 u_value_a1 h0 n0 (Nat.le_trans Z0 (Keep.refl h0 [a1]).1) V_a2 S_COMPACT_STRINGS E_a1 F_coder_a1 g_a1 F_value_a1 (hch0 : ¬ ((255 : Int32) < c0)) (hCS : ¬ (w_COMPACT_STRINGS = (0 : Int32)))) hZ (hw _ (List.mem_of_getElem? (i := 15) rfl)) (hw _ (List.mem_of_getElem? (i := 7) rfl)) (by decide) (by decide)) (g := (mkF m 6 #[.val (.ref a1), .val (.ref a2)] [.null, (.int (1 : Int32)), (.int (0 : Int32)), (.ref a2), (.ref a1)])) rfl (by rw [hml]; rfl) (Steps.refl _) (a := a1) (argsL := [(.ref a2), (.int (0 : Int32)), (.int (1 : Int32)), .null]) (rest := []) (lenOf pd0 rfl) rfl (by show 2 * 0 + _ ≤ _; exact Nat.le_of_eq rfl) (hb hby d2_6) (fun _ _ => ⟨rfl, e0, (by decide : 0 + 1 ≤ _), (by decide : 0 + 1 ≤ _)⟩)
  dsimp only [Pt.U, Pt.locs, Pt.cells, Pt.slots] at X2 l2 y2 z2 st2 hQ2
  subst l2 y2 z2
  obtain ⟨b1_3_2, k1_3_2, rfl, N2q, K2, s2_b1_3, f2_0, f2_1, f2_2, f2_3⟩ := hQ2
  have N2 := Fr.app N0 N2q
  have sz_b1_3_2 : h0.size ≤ b1_3_2 := Nat.le_trans (Keep.refl h0 [a1]).1 s2_b1_3
  have g_b1_3_2 : n0 ≤ b1_3_2 := Nat.le_trans Z0 sz_b1_3_2
  have KK2 : Keep h0 T2.heap [a1] := (Keep.refl h0 [a1]).trans K2 (allS (Or.inl (List.mem_of_getElem? (i := 0) rfl)) all0)
  obtain ⟨fs, hr, hrun, hended, hW, hsame⟩ := X2.leave (v := none) (fun _ => rfl)
  refine ⟨_, _, pre0 _ ?_, hrun, hended, _, _, rfl, ?_, ⟨_, rfl⟩, hW, hsame.mono (by decide) (by decide)⟩
  · show Steps p.tables e below (s₁.setTop (mkF m 0 #[.val (.ref a1), .val (.ref a2)] [])) _
    refine XS.aloadN X0.here hx rfl (hb hby d2_0) rfl rfl ?_
    refine XS.aloadN X0.here hx rfl (hb hby d2_1) rfl rfl ?_
    refine XS.iconst X0.here hx rfl (hb hby d2_2) ?_
    show Steps p.tables e below (s₁.setTop (mkF m 3 #[.val (.ref a1), .val (.ref a2)] [(.int (0 : Int32)), (.ref a2), (.ref a1)])) _
    refine XS.aloadN X0.here hx rfl (hb hby d2_3) rfl rfl ?_
    refine X0.arraylength hx (by rw [e0]; exact Ar_a2_4_1.1) (State.isArrayOf_alike hZ.alike Ar_a2_4_1.2.1) (g := (mkF m 4 #[.val (.ref a1), .val (.ref a2)] [(.ref a2), (.int (0 : Int32)), (.ref a2), (.ref a1)])) rfl rfl (hb hby d2_4) _ ?_
    rw [len_of S_a2_4_1 N_a2_4_1]
    show Steps p.tables e below (s₁.setTop (mkF m 5 #[.val (.ref a1), .val (.ref a2)] [(.int (1 : Int32)), (.int (0 : Int32)), (.ref a2), (.ref a1)])) _
    refine XS.aconstNull X0.here hx rfl (hb hby d2_5) ?_
    show Steps p.tables e below (s₁.setTop (mkF m 6 #[.val (.ref a1), .val (.ref a2)] [.null, (.int (1 : Int32)), (.int (0 : Int32)), (.ref a2), (.ref a1)])) _
    refine st2.trans ?_
    show Steps p.tables e below (T2.setTop (mkF m 9 #[.val (.ref a1), .val (.ref a2)] [])) _
    exact X2.returnOut hx Bd.returns (hb hby d2_9) hr
  · show Q_ini1_1 Z a1 a2 ka c0 w_COMPACT_STRINGS u_coder_a1 u_value_a1 h0 n0 _ T2.heap _
    exact ⟨b1_3_2, k1_3_2, rfl, N2, KK2, sz_b1_3_2, (E_a1.keep K2), f2_1, f2_2, f2_3⟩
theorem ef_cmp5_2 (m : MethodId) (a1 : Addr) (a2 : Addr) : entryFrame m #[(.ref a1), (.int (0 : Int32)), (.ref a2), (.int (0 : Int32)), (.int (2 : Int32))] 7 = (mkF m 0 #[.val (.ref a1), .val (.int (0 : Int32)), .val (.ref a2), .val (.int (0 : Int32)), .val (.int (2 : Int32)), .unset, .unset] []) := by first | (simp [entryFrame, mkF, argsToLocals, Value.category]; done) | rfl
def Q_cmp5_2 (Z : State) (a1 : Addr) (a2 : Addr) (ka : ClassId) (c0 : Int32) (c1 : Int32) (kb : ClassId) (h0 : Heap) (n0 : Nat) (v : Option Value) (h : Heap) (L : List Loc) : Prop := v = some (.int (2 : Int32)) ∧ Fr n0 L ∧ Keep h0 h [a2] ∧ Arv Z h a2 kb .byte (2 : Int32) [(.int (nar .byte (c0.toInt8.toInt32))), (.int (nar .byte (c1.toInt8.toInt32)))] (.int (0 : Int32))
set_option maxRecDepth 65536 in
set_option maxHeartbeats 40000000 in
theorem rm_cmp5_2 (l : Launch) (Z : State) (a0 : Array Value) (hw : ∀ d ∈ tables_1, d.before a0 Z = true) (ws : List Jvm.Cond) (a1 : Addr) (a2 : Addr) (ka : ClassId) (c0 : Int32) (c1 : Int32) (kb : ClassId) (h0 : Heap) (n0 : Nat) (Z0 : n0 ≤ h0.size) (V_a1 : Arv Z h0 a1 ka .char (2 : Int32) [(.int c0), (.int c1)] (.int (0 : Int32))) (V_a2 : Arv Z h0 a2 kb .byte (2 : Int32) [(.int (0 : Int32)), (.int (0 : Int32))] (.int (0 : Int32))) (g_a2 : n0 ≤ a2) (hne_13 : a1 ≠ a2) (hch0 : ¬ ((255 : Int32) < c0)) (hch1 : ¬ ((255 : Int32) < c1)) :
    MetFree l (⟨"java/lang/StringUTF16", "compress", "([CI[BII)I"⟩ : MethodName) (head1 (Jvm.Cond.code (⟨"java/lang/StringUTF16", "compress", "([CI[BII)I"⟩ : MethodName) jdk_52_method_21_code 7 (some .int) :: ws) ({ frames := 0, cells := 0, slots := 0, locals := 0 } : Room)) (fun a U => a = #[(.ref a1), (.int (0 : Int32)), (.ref a2), (.int (0 : Int32)), (.int (2 : Int32))] ∧ Z.Warmed39 U.vm ∧ U.heap = h0) (fun _ _ _ _ _ => True) (fun _ U o U' => ∃ v L, o = .returned v ∧ Q_cmp5_2 Z a1 a2 ka c0 c1 kb h0 n0 v U'.heap L ∧ FrameEnd U o U' L ({ frames := 0, cells := 0, slots := 0, locals := 0 } : Room).cells ({ frames := 0, cells := 0, slots := 0, locals := 0 } : Room).slots) := by
  refine MetFree.of_bodySF (plainFor_of_name pn1) hisR ?_
  intro p e s m args below meth c s₁ Bd hml0 hP hK
  obtain ⟨rfl, hZ, hh⟩ := hP
  have hx := Bd.exec
  have hby := Bd.bytes
  have hml : c.maxLocals = 7 := hml0
  have hown : s.vm.findClass "java/lang/StringUTF16" = some m.cls := findClass_of_methodNamed Bd.named
  have hnm := (name_of_methodNamed Bd.named Bd.method).1
  have X0 : Stand p l e ({ frames := 0, cells := 0, slots := 0, locals := 0 } : Room) s m #[(.ref a1), (.int (0 : Int32)), (.ref a2), (.int (0 : Int32)), (.int (2 : Int32))] below meth c s₁ [] 0 0 := Stand.of_body Bd
  have e0 : s₁.heap = h0 := by rw [← hh, Bd.state]; rfl
  have N0 := Fr.nil n0
  have pre0 : ∀ t, Steps p.tables e below (s₁.setTop (mkF m 0 #[.val (.ref a1), .val (.int (0 : Int32)), .val (.ref a2), .val (.int (0 : Int32)), .val (.int (2 : Int32)), .unset, .unset] [])) t → Steps p.tables e below (s₁.setTop (entryFrame m #[(.ref a1), (.int (0 : Int32)), (.ref a2), (.int (0 : Int32)), (.int (2 : Int32))] 7)) t := fun t k => castTop (ef_cmp5_2 m a1 a2) k
  obtain ⟨cl_a1_12_1, Ar_a1_12_1, q_a1_12_1, S_a1_12_1, N_a1_12_1, H_a1_12_1, G_a1_12_1⟩ := id V_a1
  have hin_a1_12_1 : ¬ ((0 : Int32) < 0 ∨ cl_a1_12_1.slots.size ≤ ((0 : Int32) : Int32).toNatClampNeg) := inb_of S_a1_12_1 ⟨by decide, by decide⟩
  obtain ⟨cl_a2_31_2, Ar_a2_31_2, q_a2_31_2, S_a2_31_2, N_a2_31_2, H_a2_31_2, G_a2_31_2⟩ := id V_a2
  have hin_a2_31_2 : ¬ ((0 : Int32) < 0 ∨ cl_a2_31_2.slots.size ≤ ((0 : Int32) : Int32).toNatClampNeg) := inb_of S_a2_31_2 ⟨by decide, by decide⟩
  obtain ⟨T3, h3, X3, e3, W3, st3⟩ := stB X0 hx hZ e0 Ar_a2_31_2 (j := (0 : Int32)) hin_a2_31_2 (g := (mkF m 31 #[.val (.ref a1), .val (.int (0 : Int32)), .val (.ref a2), .val (.int (0 : Int32)), .val (.int (2 : Int32)), .val (.int (0 : Int32)), .val (.int c0)] [(.int (c0.toInt8.toInt32)), (.int (0 : Int32)), (.ref a2)])) rfl rfl (hb hby d6_31)
  have V_a2_31_2 : Arv Z h3 a2 kb .byte (2 : Int32) [(.int (nar .byte (c0.toInt8.toInt32))), (.int (0 : Int32))] (.int (0 : Int32)) := Arv.set Ar_a2_31_2 q_a2_31_2 S_a2_31_2 N_a2_31_2 H_a2_31_2 G_a2_31_2 (fits_nar_byte _) W3 0 rfl (Nat.le_of_ble_eq_true rfl)
  have K3 : Keep h0 h3 [a2] := (Keep.refl h0 [a2]).wr W3 (Or.inl (List.mem_of_getElem? (i := 0) rfl))
  have N3 := Fr.snoc X3 N0 g_a2
  obtain ⟨cl_a1_12_4, Ar_a1_12_4, q_a1_12_4, S_a1_12_4, N_a1_12_4, H_a1_12_4, G_a1_12_4⟩ := id (V_a1.other W3 hne_13)
  have hin_a1_12_4 : ¬ ((1 : Int32) < 0 ∨ cl_a1_12_4.slots.size ≤ ((1 : Int32) : Int32).toNatClampNeg) := inb_of S_a1_12_4 ⟨by decide, by decide⟩
  obtain ⟨cl_a2_31_5, Ar_a2_31_5, q_a2_31_5, S_a2_31_5, N_a2_31_5, H_a2_31_5, G_a2_31_5⟩ := id V_a2_31_2
  have hin_a2_31_5 : ¬ ((1 : Int32) < 0 ∨ cl_a2_31_5.slots.size ≤ ((1 : Int32) : Int32).toNatClampNeg) := inb_of S_a2_31_5 ⟨by decide, by decide⟩
  obtain ⟨T6, h6, X6, e6, W6, st6⟩ := stB X3 hx hZ e3 Ar_a2_31_5 (j := (1 : Int32)) hin_a2_31_5 (g := (mkF m 31 #[.val (.ref a1), .val (.int (1 : Int32)), .val (.ref a2), .val (.int (1 : Int32)), .val (.int (2 : Int32)), .val (.int (1 : Int32)), .val (.int c1)] [(.int (c1.toInt8.toInt32)), (.int (1 : Int32)), (.ref a2)])) rfl rfl (hb hby d6_31)
  have V_a2_31_5 : Arv Z h6 a2 kb .byte (2 : Int32) [(.int (nar .byte (c0.toInt8.toInt32))), (.int (nar .byte (c1.toInt8.toInt32)))] (.int (0 : Int32)) := Arv.set Ar_a2_31_5 q_a2_31_5 S_a2_31_5 N_a2_31_5 H_a2_31_5 G_a2_31_5 (fits_nar_byte _) W6 1 rfl (Nat.le_of_ble_eq_true rfl)
  have K6 : Keep h0 h6 [a2] := K3.wr W6 (Or.inl (List.mem_of_getElem? (i := 0) rfl))
  have N6 := Fr.snoc X6 N3 g_a2
  obtain ⟨fs, hr, hrun, hended, hW, hsame⟩ := X6.leave (v := some (.int (2 : Int32))) (fun h => by rw [Bd.returns] at h; cases h)
  refine ⟨_, _, pre0 _ ?_, hrun, hended, _, _, rfl, ?_, ⟨_, rfl⟩, hW, hsame.mono (by decide) (by decide)⟩
  · show Steps p.tables e below (s₁.setTop (mkF m 0 #[.val (.ref a1), .val (.int (0 : Int32)), .val (.ref a2), .val (.int (0 : Int32)), .val (.int (2 : Int32)), .unset, .unset] [])) _
    refine XS.iconst X0.here hx rfl (hb hby d6_0) ?_
    refine XS.istore X0.here hx rfl (hb hby d6_1) rfl (l' := #[.val (.ref a1), .val (.int (0 : Int32)), .val (.ref a2), .val (.int (0 : Int32)), .val (.int (2 : Int32)), .val (.int (0 : Int32)), .unset]) rfl ?_
    refine XS.iload X0.here hx rfl (hb hby d6_3) rfl ?_
    show Steps p.tables e below (s₁.setTop (mkF m 5 #[.val (.ref a1), .val (.int (0 : Int32)), .val (.ref a2), .val (.int (0 : Int32)), .val (.int (2 : Int32)), .val (.int (0 : Int32)), .unset] [(.int (0 : Int32))])) _
    refine XS.iload X0.here hx rfl (hb hby d6_5) rfl ?_
    refine XS.icmpNo X0.here hx rfl (hb hby d6_7) rfl (tlt (by decide : (0 : Int32) < (2 : Int32))).2.1 ?_
    refine XS.aloadN X0.here hx rfl (hb hby d6_10) rfl rfl ?_
    show Steps p.tables e below (s₁.setTop (mkF m 11 #[.val (.ref a1), .val (.int (0 : Int32)), .val (.ref a2), .val (.int (0 : Int32)), .val (.int (2 : Int32)), .val (.int (0 : Int32)), .unset] [(.ref a1)])) _
    refine XS.iloadN X0.here hx rfl (hb hby d6_11) rfl ?_
    refine X0.caload hx (j := (0 : Int32)) (v := (.int c0)) (by rw [e0]; exact Ar_a1_12_1.1) (State.isArrayOf_alike hZ.alike Ar_a1_12_1.2.1) Ar_a1_12_1.2.2 hin_a1_12_1 (H_a1_12_1.at hin_a1_12_1 rfl) (g := (mkF m 12 #[.val (.ref a1), .val (.int (0 : Int32)), .val (.ref a2), .val (.int (0 : Int32)), .val (.int (2 : Int32)), .val (.int (0 : Int32)), .unset] [(.int (0 : Int32)), (.ref a1)])) rfl rfl (hb hby d6_12) _ ?_
    show Steps p.tables e below (s₁.setTop (mkF m 13 #[.val (.ref a1), .val (.int (0 : Int32)), .val (.ref a2), .val (.int (0 : Int32)), .val (.int (2 : Int32)), .val (.int (0 : Int32)), .unset] [(.int c0)])) _
    refine XS.istore X0.here hx rfl (hb hby d6_13) rfl (l' := #[.val (.ref a1), .val (.int (0 : Int32)), .val (.ref a2), .val (.int (0 : Int32)), .val (.int (2 : Int32)), .val (.int (0 : Int32)), .val (.int c0)]) rfl ?_
    show Steps p.tables e below (s₁.setTop (mkF m 15 #[.val (.ref a1), .val (.int (0 : Int32)), .val (.ref a2), .val (.int (0 : Int32)), .val (.int (2 : Int32)), .val (.int (0 : Int32)), .val (.int c0)] [])) _
    refine XS.iload X0.here hx rfl (hb hby d6_15) rfl ?_
    refine XS.sipush X0.here hx rfl (hb hby d6_17) ?_
    refine XS.icmpYes X0.here hx rfl (pc0 := 20) (pc' := 26) rfl (hb hby d6_20) rfl (flt hch0).2.2.2 (by decide) (by decide) ?_
    show Steps p.tables e below (s₁.setTop (mkF m 26 #[.val (.ref a1), .val (.int (0 : Int32)), .val (.ref a2), .val (.int (0 : Int32)), .val (.int (2 : Int32)), .val (.int (0 : Int32)), .val (.int c0)] [])) _
    refine XS.aloadN X0.here hx rfl (hb hby d6_26) rfl rfl ?_
    refine XS.iloadN X0.here hx rfl (hb hby d6_27) rfl ?_
    refine XS.iload X0.here hx rfl (hb hby d6_28) rfl ?_
    show Steps p.tables e below (s₁.setTop (mkF m 30 #[.val (.ref a1), .val (.int (0 : Int32)), .val (.ref a2), .val (.int (0 : Int32)), .val (.int (2 : Int32)), .val (.int (0 : Int32)), .val (.int c0)] [(.int c0), (.int (0 : Int32)), (.ref a2)])) _
    refine XS.i2b X0.here hx rfl (hb hby d6_30) rfl ?_
    show Steps p.tables e below (s₁.setTop (mkF m 31 #[.val (.ref a1), .val (.int (0 : Int32)), .val (.ref a2), .val (.int (0 : Int32)), .val (.int (2 : Int32)), .val (.int (0 : Int32)), .val (.int c0)] [(.int (c0.toInt8.toInt32)), (.int (0 : Int32)), (.ref a2)])) _
    refine st3 _ ?_
    show Steps p.tables e below (T3.setTop (mkF m 32 #[.val (.ref a1), .val (.int (0 : Int32)), .val (.ref a2), .val (.int (0 : Int32)), .val (.int (2 : Int32)), .val (.int (0 : Int32)), .val (.int c0)] [])) _
    refine XS.iinc X3.here hx rfl (hb hby d6_32) rfl (l' := #[.val (.ref a1), .val (.int (1 : Int32)), .val (.ref a2), .val (.int (0 : Int32)), .val (.int (2 : Int32)), .val (.int (0 : Int32)), .val (.int c0)]) rfl ?_
    refine XS.iinc X3.here hx rfl (hb hby d6_35) rfl (l' := #[.val (.ref a1), .val (.int (1 : Int32)), .val (.ref a2), .val (.int (1 : Int32)), .val (.int (2 : Int32)), .val (.int (0 : Int32)), .val (.int c0)]) rfl ?_
    show Steps p.tables e below (T3.setTop (mkF m 38 #[.val (.ref a1), .val (.int (1 : Int32)), .val (.ref a2), .val (.int (1 : Int32)), .val (.int (2 : Int32)), .val (.int (0 : Int32)), .val (.int c0)] [])) _
    refine XS.iinc X3.here hx rfl (hb hby d6_38) rfl (l' := #[.val (.ref a1), .val (.int (1 : Int32)), .val (.ref a2), .val (.int (1 : Int32)), .val (.int (2 : Int32)), .val (.int (1 : Int32)), .val (.int c0)]) rfl ?_
    refine XS.goto X3.here hx rfl (pc0 := 41) (pc' := 3) rfl (hb hby d6_41) (by decide) (by decide) ?_
    refine XS.iload X3.here hx rfl (hb hby d6_3) rfl ?_
    show Steps p.tables e below (T3.setTop (mkF m 5 #[.val (.ref a1), .val (.int (1 : Int32)), .val (.ref a2), .val (.int (1 : Int32)), .val (.int (2 : Int32)), .val (.int (1 : Int32)), .val (.int c0)] [(.int (1 : Int32))])) _
    refine XS.iload X3.here hx rfl (hb hby d6_5) rfl ?_
    refine XS.icmpNo X3.here hx rfl (hb hby d6_7) rfl (tlt (by decide : (1 : Int32) < (2 : Int32))).2.1 ?_
    refine XS.aloadN X3.here hx rfl (hb hby d6_10) rfl rfl ?_
    show Steps p.tables e below (T3.setTop (mkF m 11 #[.val (.ref a1), .val (.int (1 : Int32)), .val (.ref a2), .val (.int (1 : Int32)), .val (.int (2 : Int32)), .val (.int (1 : Int32)), .val (.int c0)] [(.ref a1)])) _
    refine XS.iloadN X3.here hx rfl (hb hby d6_11) rfl ?_
    refine X3.caload hx (j := (1 : Int32)) (v := (.int c1)) (by rw [e3]; exact Ar_a1_12_4.1) (State.isArrayOf_alike hZ.alike Ar_a1_12_4.2.1) Ar_a1_12_4.2.2 hin_a1_12_4 (H_a1_12_4.at hin_a1_12_4 rfl) (g := (mkF m 12 #[.val (.ref a1), .val (.int (1 : Int32)), .val (.ref a2), .val (.int (1 : Int32)), .val (.int (2 : Int32)), .val (.int (1 : Int32)), .val (.int c0)] [(.int (1 : Int32)), (.ref a1)])) rfl rfl (hb hby d6_12) _ ?_
    show Steps p.tables e below (T3.setTop (mkF m 13 #[.val (.ref a1), .val (.int (1 : Int32)), .val (.ref a2), .val (.int (1 : Int32)), .val (.int (2 : Int32)), .val (.int (1 : Int32)), .val (.int c0)] [(.int c1)])) _
    refine XS.istore X3.here hx rfl (hb hby d6_13) rfl (l' := #[.val (.ref a1), .val (.int (1 : Int32)), .val (.ref a2), .val (.int (1 : Int32)), .val (.int (2 : Int32)), .val (.int (1 : Int32)), .val (.int c1)]) rfl ?_
    show Steps p.tables e below (T3.setTop (mkF m 15 #[.val (.ref a1), .val (.int (1 : Int32)), .val (.ref a2), .val (.int (1 : Int32)), .val (.int (2 : Int32)), .val (.int (1 : Int32)), .val (.int c1)] [])) _
    refine XS.iload X3.here hx rfl (hb hby d6_15) rfl ?_
    refine XS.sipush X3.here hx rfl (hb hby d6_17) ?_
    refine XS.icmpYes X3.here hx rfl (pc0 := 20) (pc' := 26) rfl (hb hby d6_20) rfl (flt hch1).2.2.2 (by decide) (by decide) ?_
    show Steps p.tables e below (T3.setTop (mkF m 26 #[.val (.ref a1), .val (.int (1 : Int32)), .val (.ref a2), .val (.int (1 : Int32)), .val (.int (2 : Int32)), .val (.int (1 : Int32)), .val (.int c1)] [])) _
    refine XS.aloadN X3.here hx rfl (hb hby d6_26) rfl rfl ?_
    refine XS.iloadN X3.here hx rfl (hb hby d6_27) rfl ?_
    refine XS.iload X3.here hx rfl (hb hby d6_28) rfl ?_
    show Steps p.tables e below (T3.setTop (mkF m 30 #[.val (.ref a1), .val (.int (1 : Int32)), .val (.ref a2), .val (.int (1 : Int32)), .val (.int (2 : Int32)), .val (.int (1 : Int32)), .val (.int c1)] [(.int c1), (.int (1 : Int32)), (.ref a2)])) _
    refine XS.i2b X3.here hx rfl (hb hby d6_30) rfl ?_
    show Steps p.tables e below (T3.setTop (mkF m 31 #[.val (.ref a1), .val (.int (1 : Int32)), .val (.ref a2), .val (.int (1 : Int32)), .val (.int (2 : Int32)), .val (.int (1 : Int32)), .val (.int c1)] [(.int (c1.toInt8.toInt32)), (.int (1 : Int32)), (.ref a2)])) _
    refine st6 _ ?_
    show Steps p.tables e below (T6.setTop (mkF m 32 #[.val (.ref a1), .val (.int (1 : Int32)), .val (.ref a2), .val (.int (1 : Int32)), .val (.int (2 : Int32)), .val (.int (1 : Int32)), .val (.int c1)] [])) _
    refine XS.iinc X6.here hx rfl (hb hby d6_32) rfl (l' := #[.val (.ref a1), .val (.int (2 : Int32)), .val (.ref a2), .val (.int (1 : Int32)), .val (.int (2 : Int32)), .val (.int (1 : Int32)), .val (.int c1)]) rfl ?_
    refine XS.iinc X6.here hx rfl (hb hby d6_35) rfl (l' := #[.val (.ref a1), .val (.int (2 : Int32)), .val (.ref a2), .val (.int (2 : Int32)), .val (.int (2 : Int32)), .val (.int (1 : Int32)), .val (.int c1)]) rfl ?_
    show Steps p.tables e below (T6.setTop (mkF m 38 #[.val (.ref a1), .val (.int (2 : Int32)), .val (.ref a2), .val (.int (2 : Int32)), .val (.int (2 : Int32)), .val (.int (1 : Int32)), .val (.int c1)] [])) _
    refine XS.iinc X6.here hx rfl (hb hby d6_38) rfl (l' := #[.val (.ref a1), .val (.int (2 : Int32)), .val (.ref a2), .val (.int (2 : Int32)), .val (.int (2 : Int32)), .val (.int (2 : Int32)), .val (.int c1)]) rfl ?_
    refine XS.goto X6.here hx rfl (pc0 := 41) (pc' := 3) rfl (hb hby d6_41) (by decide) (by decide) ?_
    refine XS.iload X6.here hx rfl (hb hby d6_3) rfl ?_
    show Steps p.tables e below (T6.setTop (mkF m 5 #[.val (.ref a1), .val (.int (2 : Int32)), .val (.ref a2), .val (.int (2 : Int32)), .val (.int (2 : Int32)), .val (.int (2 : Int32)), .val (.int c1)] [(.int (2 : Int32))])) _
    refine XS.iload X6.here hx rfl (hb hby d6_5) rfl ?_
    refine XS.icmpYes X6.here hx rfl (pc0 := 7) (pc' := 44) rfl (hb hby d6_7) rfl (flt (by decide : ¬ ((2 : Int32) < (2 : Int32)))).2.1 (by decide) (by decide) ?_
    refine XS.iload X6.here hx rfl (hb hby d6_44) rfl ?_
    show Steps p.tables e below (T6.setTop (mkF m 46 #[.val (.ref a1), .val (.int (2 : Int32)), .val (.ref a2), .val (.int (2 : Int32)), .val (.int (2 : Int32)), .val (.int (2 : Int32)), .val (.int c1)] [(.int (2 : Int32))])) _
    exact retI X6 hx Bd.returns (hb hby d6_46) hr
  · show Q_cmp5_2 Z a1 a2 ka c0 c1 kb h0 n0 _ T6.heap _
    rw [e6]
    exact ⟨rfl, N6, K6, V_a2_31_5⟩
theorem ef_cmp3_2 (m : MethodId) (a1 : Addr) : entryFrame m #[(.ref a1), (.int (0 : Int32)), (.int (2 : Int32))] 6 = (mkF m 0 #[.val (.ref a1), .val (.int (0 : Int32)), .val (.int (2 : Int32)), .unset, .unset, .unset] []) := by first | (simp [entryFrame, mkF, argsToLocals, Value.category]; done) | rfl
def Q_cmp3_2 (Z : State) (a1 : Addr) (ka : ClassId) (c0 : Int32) (c1 : Int32) (h0 : Heap) (n0 : Nat) (v : Option Value) (h : Heap) (L : List Loc) : Prop := ∃ (b1 : Addr) (k1 : ClassId), v = some (.ref b1) ∧ Fr n0 L ∧ Keep h0 h [] ∧ h0.size ≤ b1 ∧ Arv Z h b1 k1 .byte (2 : Int32) [(.int (nar .byte (c0.toInt8.toInt32))), (.int (nar .byte (c1.toInt8.toInt32)))] (.int (0 : Int32))
set_option maxRecDepth 65536 in
set_option maxHeartbeats 40000000 in
theorem rm_cmp3_2 (l : Launch) (Z : State) (a0 : Array Value) (hw : ∀ d ∈ tables_1, d.before a0 Z = true) (ws : List Jvm.Cond) (a1 : Addr) (ka : ClassId) (c0 : Int32) (c1 : Int32) (h0 : Heap) (n0 : Nat) (Z0 : n0 ≤ h0.size) (V_a1 : Arv Z h0 a1 ka .char (2 : Int32) [(.int c0), (.int c1)] (.int (0 : Int32))) (hch0 : ¬ ((255 : Int32) < c0)) (hch1 : ¬ ((255 : Int32) < c1)) :
    MetFree l (⟨"java/lang/StringUTF16", "compress", "([CII)[B"⟩ : MethodName) (head1 (Jvm.Cond.code (⟨"java/lang/StringUTF16", "compress", "([CII)[B"⟩ : MethodName) jdk_52_method_16_code 6 (some (.array .byte)) :: ws) ({ frames := 1, cells := 1, slots := 2, locals := 18 } : Room)) (fun a U => a = #[(.ref a1), (.int (0 : Int32)), (.int (2 : Int32))] ∧ Z.Warmed39 U.vm ∧ U.heap = h0) (fun _ _ _ _ _ => True) (fun _ U o U' => ∃ v L, o = .returned v ∧ Q_cmp3_2 Z a1 ka c0 c1 h0 n0 v U'.heap L ∧ FrameEnd U o U' L ({ frames := 1, cells := 1, slots := 2, locals := 18 } : Room).cells ({ frames := 1, cells := 1, slots := 2, locals := 18 } : Room).slots) := by
  refine MetFree.of_bodySF (plainFor_of_name pn1) hisR ?_
  intro p e s m args below meth c s₁ Bd hml0 hP hK
  obtain ⟨rfl, hZ, hh⟩ := hP
  have hx := Bd.exec
  have hby := Bd.bytes
  have hml : c.maxLocals = 6 := hml0
  have hown : s.vm.findClass "java/lang/StringUTF16" = some m.cls := findClass_of_methodNamed Bd.named
  have hnm := (name_of_methodNamed Bd.named Bd.method).1
  have X0 : Stand p l e ({ frames := 1, cells := 1, slots := 2, locals := 18 } : Room) s m #[(.ref a1), (.int (0 : Int32)), (.int (2 : Int32))] below meth c s₁ [] 0 0 := Stand.of_body Bd
  have e0 : s₁.heap = h0 := by rw [← hh, Bd.state]; rfl
  have N0 := Fr.nil n0
  have pre0 : ∀ t, Steps p.tables e below (s₁.setTop (mkF m 0 #[.val (.ref a1), .val (.int (0 : Int32)), .val (.int (2 : Int32)), .unset, .unset, .unset] [])) t → Steps p.tables e below (s₁.setTop (entryFrame m #[(.ref a1), (.int (0 : Int32)), (.int (2 : Int32))] 6)) t := fun t k => castTop (ef_cmp3_2 m a1) k
  obtain ⟨T1, h1, k1, X1, e1, E1, A1, st1⟩ := newP X0 hx hZ (hw _ (List.mem_of_getElem? (i := 24) rfl)) e0 (g := (mkF m 1 #[.val (.ref a1), .val (.int (0 : Int32)), .val (.int (2 : Int32)), .unset, .unset, .unset] [(.int (2 : Int32))])) rfl (hb hby d5_1) rfl (by decide) (cap := 2) (by decide) (by decide) (by decide) (by decide)
  obtain ⟨b1, g1⟩ : ∃ z, z = h0.size := ⟨_, rfl⟩
  rw [← g1] at A1 st1
  have sz_b1 : h0.size ≤ b1 := Nat.le_trans (Keep.refl h0 []).1 (Nat.le_of_eq g1.symm)
  have g_b1 : n0 ≤ b1 := Nat.le_trans Z0 sz_b1
  have K1 : Keep h0 h1 [] := (Keep.refl h0 []).ext E1
  have V_b1 : Arv Z h1 b1 k1 .byte (2 : Int32) [(.int (0 : Int32)), (.int (0 : Int32))] (.int (0 : Int32)) := (Arv.new A1 (by decide)).pad (pad_rep [] (.int (0 : Int32)) 2)
  obtain ⟨_, _, ⟨T2, L2, k2, n2⟩, -, X2, ⟨Lc2, hQ2, l2, y2, z2⟩, st2⟩ := Jvm.LawKit.callS X1 hx (y := (⟨"java/lang/StringUTF16", "compress", "([CI[BII)I"⟩ : MethodName)) hown (mvT hZ (hw _ (List.mem_of_getElem? (i := 25) rfl))) (mvT hZ (hw _ (List.mem_of_getElem? (i := 26) rfl))) (mvT hZ (hw _ (List.mem_of_getElem? (i := 22) rfl))) (mvT hZ (hw _ (List.mem_of_getElem? (i := 27) rfl))) (by decide) (backOf (W := 0) (rm_cmp5_2 l Z a0 hw [] a1 b1 ka c0 c1 k1 h1 n0 (Nat.le_trans Z0 K1.1) (V_a1.ext E1) V_b1 g_b1 ((Nat.ne_of_lt (Nat.lt_of_lt_of_le V_a1.lt (Nat.le_of_eq g1.symm))) : a1 ≠ b1) (hch0 : ¬ ((255 : Int32) < c0)) (hch1 : ¬ ((255 : Int32) < c1))) hZ (hw _ (List.mem_of_getElem? (i := 27) rfl)) (hw _ (List.mem_of_getElem? (i := 22) rfl)) (by decide) (by decide)) (g := (mkF m 9 #[.val (.ref a1), .val (.int (0 : Int32)), .val (.int (2 : Int32)), .val (.ref b1), .unset, .unset] [(.int (2 : Int32)), (.int (0 : Int32)), (.ref b1), (.int (0 : Int32)), (.ref a1)])) rfl (by rw [hml]; rfl) (argsL := [(.ref a1), (.int (0 : Int32)), (.ref b1), (.int (0 : Int32)), (.int (2 : Int32))]) (rest := []) (lenOf pd1 rfl) rfl (by show 2 * 0 + _ ≤ _; exact Nat.le_of_eq rfl) (hb hby d5_9) (fun _ _ => ⟨rfl, e1, (by decide : 1 + 0 ≤ _), (by decide : 2 + 0 ≤ _)⟩)
  dsimp only [Pt.U, Pt.locs, Pt.cells, Pt.slots] at X2 l2 y2 z2 st2 hQ2
  subst l2 y2 z2
  obtain ⟨rfl, N2q, K2, f2_0⟩ := hQ2
  have N2 := Fr.app N0 N2q
  have KK2 : Keep h0 T2.heap [] := K1.trans K2 (allS (Or.inr sz_b1) all0)
  obtain ⟨fs, hr, hrun, hended, hW, hsame⟩ := X2.leave (v := some (.ref b1)) (fun h => by rw [Bd.returns] at h; cases h)
  refine ⟨_, _, pre0 _ ?_, hrun, hended, _, _, rfl, ?_, ⟨_, rfl⟩, hW, hsame.mono (by decide) (by decide)⟩
  · show Steps p.tables e below (s₁.setTop (mkF m 0 #[.val (.ref a1), .val (.int (0 : Int32)), .val (.int (2 : Int32)), .unset, .unset, .unset] [])) _
    refine XS.iloadN X0.here hx rfl (hb hby d5_0) rfl ?_
    show Steps p.tables e below (s₁.setTop (mkF m 1 #[.val (.ref a1), .val (.int (0 : Int32)), .val (.int (2 : Int32)), .unset, .unset, .unset] [(.int (2 : Int32))])) _
    refine st1 _ ?_
    show Steps p.tables e below (T1.setTop (mkF m 3 #[.val (.ref a1), .val (.int (0 : Int32)), .val (.int (2 : Int32)), .unset, .unset, .unset] [(.ref b1)])) _
    refine XS.astoreN X1.here hx rfl (hb hby d5_3) rfl rfl (l' := #[.val (.ref a1), .val (.int (0 : Int32)), .val (.int (2 : Int32)), .val (.ref b1), .unset, .unset]) rfl ?_
    refine XS.aloadN X1.here hx rfl (hb hby d5_4) rfl rfl ?_
    show Steps p.tables e below (T1.setTop (mkF m 5 #[.val (.ref a1), .val (.int (0 : Int32)), .val (.int (2 : Int32)), .val (.ref b1), .unset, .unset] [(.ref a1)])) _
    refine XS.iloadN X1.here hx rfl (hb hby d5_5) rfl ?_
    refine XS.aloadN X1.here hx rfl (hb hby d5_6) rfl rfl ?_
    refine XS.iconst X1.here hx rfl (hb hby d5_7) ?_
    show Steps p.tables e below (T1.setTop (mkF m 8 #[.val (.ref a1), .val (.int (0 : Int32)), .val (.int (2 : Int32)), .val (.ref b1), .unset, .unset] [(.int (0 : Int32)), (.ref b1), (.int (0 : Int32)), (.ref a1)])) _
    refine XS.iloadN X1.here hx rfl (hb hby d5_8) rfl ?_
    show Steps p.tables e below (T1.setTop (mkF m 9 #[.val (.ref a1), .val (.int (0 : Int32)), .val (.int (2 : Int32)), .val (.ref b1), .unset, .unset] [(.int (2 : Int32)), (.int (0 : Int32)), (.ref b1), (.int (0 : Int32)), (.ref a1)])) _
    refine st2 _ ?_
    show Steps p.tables e below (T2.setTop (mkF m 12 #[.val (.ref a1), .val (.int (0 : Int32)), .val (.int (2 : Int32)), .val (.ref b1), .unset, .unset] [(.int (2 : Int32))])) _
    refine XS.istore X2.here hx rfl (hb hby d5_12) rfl (l' := #[.val (.ref a1), .val (.int (0 : Int32)), .val (.int (2 : Int32)), .val (.ref b1), .val (.int (2 : Int32)), .unset]) rfl ?_
    refine XS.iload X2.here hx rfl (hb hby d5_14) rfl ?_
    show Steps p.tables e below (T2.setTop (mkF m 16 #[.val (.ref a1), .val (.int (0 : Int32)), .val (.int (2 : Int32)), .val (.ref b1), .val (.int (2 : Int32)), .unset] [(.int (2 : Int32))])) _
    refine XS.iloadN X2.here hx rfl (hb hby d5_16) rfl ?_
    refine XS.icmpYes X2.here hx rfl (pc0 := 17) (pc' := 57) rfl (hb hby d5_17) rfl (teq (by decide : (2 : Int32) = (2 : Int32))).1 (by decide) (by decide) ?_
    refine XS.aloadN X2.here hx rfl (hb hby d5_57) rfl rfl ?_
    show Steps p.tables e below (T2.setTop (mkF m 58 #[.val (.ref a1), .val (.int (0 : Int32)), .val (.int (2 : Int32)), .val (.ref b1), .val (.int (2 : Int32)), .unset] [(.ref b1)])) _
    exact retOut X2 hx Bd.returns rfl (Or.inr (Or.inr (Or.inr (Or.inr ⟨rfl, rfl, rfl⟩)))) (hb hby d5_58) hr
  · show Q_cmp3_2 Z a1 ka c0 c1 h0 n0 _ T2.heap _
    exact ⟨b1, k1, rfl, N2, KK2, sz_b1, f2_0⟩
theorem ef_cod_2 (m : MethodId) (a1 : Addr) : entryFrame m #[(.ref a1), (.int (2 : Int32))] 2 = (mkF m 0 #[.val (.ref a1), .val (.int (2 : Int32))] []) := by first | (simp [entryFrame, mkF, argsToLocals, Value.category]; done) | rfl
def Q_cod_2 (Z : State) (a1 : Addr) (ka : ClassId) (x0 : Int32) (x1 : Int32) (h0 : Heap) (n0 : Nat) (v : Option Value) (h : Heap) (L : List Loc) : Prop := v = some (.int (0 : Int32)) ∧ L = [] ∧ h = h0
set_option maxRecDepth 65536 in
set_option maxHeartbeats 40000000 in
theorem rm_cod_2 (l : Launch) (Z : State) (a0 : Array Value) (hw : ∀ d ∈ tables_1, d.before a0 Z = true) (ws : List Jvm.Cond) (a1 : Addr) (ka : ClassId) (x0 : Int32) (x1 : Int32) (h0 : Heap) (n0 : Nat) (Z0 : n0 ≤ h0.size) (V_a1 : Arv Z h0 a1 ka .byte (2 : Int32) [(.int x0), (.int x1)] (.int (0 : Int32))) :
    MetFree l (⟨"java/lang/StringUTF16", "coderFromArrayLen", "([BI)B"⟩ : MethodName) (head1 (Jvm.Cond.code (⟨"java/lang/StringUTF16", "coderFromArrayLen", "([BI)B"⟩ : MethodName) jdk_52_method_15_code 2 (some .byte) :: ws) ({ frames := 0, cells := 0, slots := 0, locals := 0 } : Room)) (fun a U => a = #[(.ref a1), (.int (2 : Int32))] ∧ Z.Warmed39 U.vm ∧ U.heap = h0) (fun _ _ _ _ _ => True) (fun _ U o U' => ∃ v L, o = .returned v ∧ Q_cod_2 Z a1 ka x0 x1 h0 n0 v U'.heap L ∧ FrameEnd U o U' L ({ frames := 0, cells := 0, slots := 0, locals := 0 } : Room).cells ({ frames := 0, cells := 0, slots := 0, locals := 0 } : Room).slots) := by
  refine MetFree.of_bodySF (plainFor_of_name pn1) hisR ?_
  intro p e s m args below meth c s₁ Bd hml0 hP hK
  obtain ⟨rfl, hZ, hh⟩ := hP
  have hx := Bd.exec
  have hby := Bd.bytes
  have hml : c.maxLocals = 2 := hml0
  have hown : s.vm.findClass "java/lang/StringUTF16" = some m.cls := findClass_of_methodNamed Bd.named
  have hnm := (name_of_methodNamed Bd.named Bd.method).1
  have X0 : Stand p l e ({ frames := 0, cells := 0, slots := 0, locals := 0 } : Room) s m #[(.ref a1), (.int (2 : Int32))] below meth c s₁ [] 0 0 := Stand.of_body Bd
  have e0 : s₁.heap = h0 := by rw [← hh, Bd.state]; rfl
  have N0 := Fr.nil n0
  have pre0 : ∀ t, Steps p.tables e below (s₁.setTop (mkF m 0 #[.val (.ref a1), .val (.int (2 : Int32))] [])) t → Steps p.tables e below (s₁.setTop (entryFrame m #[(.ref a1), (.int (2 : Int32))] 2)) t := fun t k => castTop (ef_cod_2 m a1) k
  obtain ⟨cl_a1_2_1, Ar_a1_2_1, -, S_a1_2_1, N_a1_2_1, -, -⟩ := id V_a1
  obtain ⟨fs, hr, hrun, hended, hW, hsame⟩ := X0.leave (v := some (.int (0 : Int32))) (fun h => by rw [Bd.returns] at h; cases h)
  refine ⟨_, _, pre0 _ ?_, hrun, hended, _, _, rfl, ?_, ⟨_, rfl⟩, hW, hsame.mono (by decide) (by decide)⟩
  · show Steps p.tables e below (s₁.setTop (mkF m 0 #[.val (.ref a1), .val (.int (2 : Int32))] [])) _
    refine XS.iloadN X0.here hx rfl (hb hby d7_0) rfl ?_
    refine XS.aloadN X0.here hx rfl (hb hby d7_1) rfl rfl ?_
    refine X0.arraylength hx (by rw [e0]; exact Ar_a1_2_1.1) (State.isArrayOf_alike hZ.alike Ar_a1_2_1.2.1) (g := (mkF m 2 #[.val (.ref a1), .val (.int (2 : Int32))] [(.ref a1), (.int (2 : Int32))])) rfl rfl (hb hby d7_2) _ ?_
    rw [len_of S_a1_2_1 N_a1_2_1]
    show Steps p.tables e below (s₁.setTop (mkF m 3 #[.val (.ref a1), .val (.int (2 : Int32))] [(.int (2 : Int32)), (.int (2 : Int32))])) _
    refine XS.isub X0.here hx rfl (hb hby d7_3) rfl ?_
    refine XS.bipush X0.here hx rfl (hb hby d7_4) ?_
    refine XS.iushr X0.here hx rfl (hb hby d7_6) rfl ?_
    show Steps p.tables e below (s₁.setTop (mkF m 7 #[.val (.ref a1), .val (.int (2 : Int32))] [(.int (0 : Int32))])) _
    refine XS.i2b X0.here hx rfl (hb hby d7_7) rfl ?_
    show Steps p.tables e below (s₁.setTop (mkF m 8 #[.val (.ref a1), .val (.int (2 : Int32))] [(.int (0 : Int32))])) _
    exact retN X0 hx (t := .byte) Bd.returns (by simp) (hb hby d7_8) hr
  · show Q_cod_2 Z a1 ka x0 x1 h0 n0 _ s₁.heap _
    rw [e0]
    exact ⟨rfl, rfl, rfl⟩
theorem ef_ini4_2 (m : MethodId) (a1 : Addr) (a2 : Addr) : entryFrame m #[(.ref a1), (.ref a2), (.int (0 : Int32)), (.int (2 : Int32)), .null] 6 = (mkF m 0 #[.val (.ref a1), .val (.ref a2), .val (.int (0 : Int32)), .val (.int (2 : Int32)), .val .null, .unset] []) := by first | (simp [entryFrame, mkF, argsToLocals, Value.category]; done) | rfl
def Q_ini4_2 (Z : State) (a1 : Addr) (a2 : Addr) (ka : ClassId) (c0 : Int32) (c1 : Int32) (w_COMPACT_STRINGS : Int32) (u_coder_a1 : Value) (u_value_a1 : Value) (h0 : Heap) (n0 : Nat) (v : Option Value) (h : Heap) (L : List Loc) : Prop := ∃ (b1_3 : Addr) (k1_3 : ClassId), v = none ∧ Fr n0 L ∧ Keep h0 h [a1] ∧ h0.size ≤ b1_3 ∧ Exa Z h a1 "java/lang/String" ∧ Fld Z h a1 "java/lang/String" "coder" "B" (.int (0 : Int32)) ∧ Fld Z h a1 "java/lang/String" "value" "[B" (.ref b1_3) ∧ Arv Z h b1_3 k1_3 .byte (2 : Int32) [(.int (nar .byte (c0.toInt8.toInt32))), (.int (nar .byte (c1.toInt8.toInt32)))] (.int (0 : Int32))
set_option maxRecDepth 65536 in
set_option maxHeartbeats 40000000 in
theorem rm_ini4_2 (l : Launch) (Z : State) (a0 : Array Value) (hw : ∀ d ∈ tables_1, d.before a0 Z = true) (ws : List Jvm.Cond) (a1 : Addr) (a2 : Addr) (ka : ClassId) (c0 : Int32) (c1 : Int32) (w_COMPACT_STRINGS : Int32) (u_coder_a1 : Value) (u_value_a1 : Value) (h0 : Heap) (n0 : Nat) (Z0 : n0 ≤ h0.size) (V_a2 : Arv Z h0 a2 ka .char (2 : Int32) [(.int c0), (.int c1)] (.int (0 : Int32))) (S_COMPACT_STRINGS : Sta Z h0 "java/lang/String" "COMPACT_STRINGS" "Z" (.int w_COMPACT_STRINGS)) (E_a1 : Exa Z h0 a1 "java/lang/String") (F_coder_a1 : Fld Z h0 a1 "java/lang/String" "coder" "B" u_coder_a1) (g_a1 : n0 ≤ a1) (F_value_a1 : Fld Z h0 a1 "java/lang/String" "value" "[B" u_value_a1) (hch0 : ¬ ((255 : Int32) < c0)) (hch1 : ¬ ((255 : Int32) < c1)) (hCS : ¬ (w_COMPACT_STRINGS = (0 : Int32))) :
    MetFree l (⟨"java/lang/String", "<init>", "([CIILjava/lang/Void;)V"⟩ : MethodName) (head1 (Jvm.Cond.code (⟨"java/lang/String", "<init>", "([CIILjava/lang/Void;)V"⟩ : MethodName) jdk_42_method_149_code 6 none :: ws) ({ frames := 2, cells := 1, slots := 2, locals := 35 } : Room)) (fun a U => a = #[(.ref a1), (.ref a2), (.int (0 : Int32)), (.int (2 : Int32)), .null] ∧ Z.Warmed39 U.vm ∧ U.heap = h0) (fun _ _ _ _ _ => True) (fun _ U o U' => ∃ v L, o = .returned v ∧ Q_ini4_2 Z a1 a2 ka c0 c1 w_COMPACT_STRINGS u_coder_a1 u_value_a1 h0 n0 v U'.heap L ∧ FrameEnd U o U' L ({ frames := 2, cells := 1, slots := 2, locals := 35 } : Room).cells ({ frames := 2, cells := 1, slots := 2, locals := 35 } : Room).slots) := by
  refine MetFree.of_bodySF (plainFor_of_name pn0) hisR ?_
  intro p e s m args below meth c s₁ Bd hml0 hP hK
  obtain ⟨rfl, hZ, hh⟩ := hP
  have hx := Bd.exec
  have hby := Bd.bytes
  have hml : c.maxLocals = 6 := hml0
  have hown : s.vm.findClass "java/lang/String" = some m.cls := findClass_of_methodNamed Bd.named
  have hnm := (name_of_methodNamed Bd.named Bd.method).1
  have X0 : Stand p l e ({ frames := 2, cells := 1, slots := 2, locals := 35 } : Room) s m #[(.ref a1), (.ref a2), (.int (0 : Int32)), (.int (2 : Int32)), .null] below meth c s₁ [] 0 0 := Stand.of_body Bd
  have e0 : s₁.heap = h0 := by rw [← hh, Bd.state]; rfl
  have N0 := Fr.nil n0
  have pre0 : ∀ t, Steps p.tables e below (s₁.setTop (mkF m 0 #[.val (.ref a1), .val (.ref a2), .val (.int (0 : Int32)), .val (.int (2 : Int32)), .val .null, .unset] [])) t → Steps p.tables e below (s₁.setTop (entryFrame m #[(.ref a1), (.ref a2), (.int (0 : Int32)), (.int (2 : Int32)), .null] 6)) t := fun t k => castTop (ef_ini4_2 m a1 a2) k
  obtain ⟨T1, X1, e1, st1⟩ := initO X0 hx hZ hown (hw _ (List.mem_of_getElem? (i := 16) rfl)) (hw _ (List.mem_of_getElem? (i := 17) rfl)) (hw _ (List.mem_of_getElem? (i := 18) rfl)) e0 (g := (mkF m 1 #[.val (.ref a1), .val (.ref a2), .val (.int (0 : Int32)), .val (.int (2 : Int32)), .val .null, .unset] [(.ref a1)])) rfl (by rw [hml]; rfl) rfl (hb hby d3_1) (by decide) (W := 0) (by show 2 * 0 + _ ≤ _; exact Nat.le_of_eq rfl) (by decide)
  obtain ⟨T2, X2, e2, st2⟩ := getS2 X1 hx hZ hown (host := "") (Or.inl (hw _ (List.mem_of_getElem? (i := 19) rfl))) Via.refl e1 S_COMPACT_STRINGS (g := (mkF m 27 #[.val (.ref a1), .val (.ref a2), .val (.int (0 : Int32)), .val (.int (2 : Int32)), .val .null, .unset] [])) rfl (hb hby d3_27)
  obtain ⟨_, _, ⟨T3, L3, k3, n3⟩, -, X3, ⟨Lc3, hQ3, l3, y3, z3⟩, st3⟩ := Jvm.LawKit.callS X2 hx (y := (⟨"java/lang/StringUTF16", "compress", "([CII)[B"⟩ : MethodName)) hown (mvT hZ (hw _ (List.mem_of_getElem? (i := 20) rfl))) (mvT hZ (hw _ (List.mem_of_getElem? (i := 21) rfl))) (mvT hZ (hw _ (List.mem_of_getElem? (i := 22) rfl))) (mvT hZ (hw _ (List.mem_of_getElem? (i := 23) rfl))) (by decide) (backOf (W := 0) (rm_cmp3_2 l Z a0 hw [] a2 ka c0 c1 h0 n0 (Nat.le_trans Z0 (Keep.refl h0 [a1]).1) V_a2 (hch0 : ¬ ((255 : Int32) < c0)) (hch1 : ¬ ((255 : Int32) < c1))) hZ (hw _ (List.mem_of_getElem? (i := 23) rfl)) (hw _ (List.mem_of_getElem? (i := 22) rfl)) (by decide) (by decide)) (g := (mkF m 36 #[.val (.ref a1), .val (.ref a2), .val (.int (0 : Int32)), .val (.int (2 : Int32)), .val .null, .unset] [(.int (2 : Int32)), (.int (0 : Int32)), (.ref a2)])) rfl (by rw [hml]; rfl) (argsL := [(.ref a2), (.int (0 : Int32)), (.int (2 : Int32))]) (rest := []) (lenOf pd2 rfl) rfl (by show 2 * 0 + _ ≤ _; exact Nat.le_of_eq rfl) (hb hby d3_36) (fun _ _ => ⟨rfl, e2, (by decide : 0 + 1 ≤ _), (by decide : 0 + 2 ≤ _)⟩)
  dsimp only [Pt.U, Pt.locs, Pt.cells, Pt.slots] at X3 l3 y3 z3 st3 hQ3
  subst l3 y3 z3
  obtain ⟨b1_3, k1_3, rfl, N3q, K3, s3_b1, f3_0⟩ := hQ3
  have N3 := Fr.app N0 N3q
  have sz_b1_3 : h0.size ≤ b1_3 := Nat.le_trans (Keep.refl h0 [a1]).1 s3_b1
  have g_b1_3 : n0 ≤ b1_3 := Nat.le_trans Z0 sz_b1_3
  have KK3 : Keep h0 T3.heap [a1] := (Keep.refl h0 [a1]).trans K3 all0
  obtain ⟨_, _, ⟨T4, L4, k4, n4⟩, -, X4, ⟨Lc4, hQ4, l4, y4, z4⟩, st4⟩ := Jvm.LawKit.callS X3 hx (y := (⟨"java/lang/StringUTF16", "coderFromArrayLen", "([BI)B"⟩ : MethodName)) hown (mvT hZ (hw _ (List.mem_of_getElem? (i := 28) rfl))) (mvT hZ (hw _ (List.mem_of_getElem? (i := 29) rfl))) (mvT hZ (hw _ (List.mem_of_getElem? (i := 22) rfl))) (mvT hZ (hw _ (List.mem_of_getElem? (i := 30) rfl))) (by decide) (backOf (W := 1) (rm_cod_2 l Z a0 hw [] b1_3 k1_3 (nar .byte (c0.toInt8.toInt32)) (nar .byte (c1.toInt8.toInt32)) T3.heap n0 (Nat.le_trans Z0 KK3.1) f3_0 ) hZ (hw _ (List.mem_of_getElem? (i := 30) rfl)) (hw _ (List.mem_of_getElem? (i := 22) rfl)) (by decide) (by decide)) (g := (mkF m 45 #[.val (.ref a1), .val (.ref a2), .val (.int (0 : Int32)), .val (.int (2 : Int32)), .val .null, .val (.ref b1_3)] [(.int (2 : Int32)), (.ref b1_3), (.ref a1)])) rfl (by rw [hml]; rfl) (argsL := [(.ref b1_3), (.int (2 : Int32))]) (rest := [(.ref a1)]) (lenOf pd3 rfl) rfl (by show 2 * 0 + _ ≤ _; exact Nat.le_of_eq rfl) (hb hby d3_45) (fun _ _ => ⟨rfl, rfl, (by decide : 1 + 0 ≤ _), (by decide : 2 + 0 ≤ _)⟩)
  dsimp only [Pt.U, Pt.locs, Pt.cells, Pt.slots] at X4 l4 y4 z4 st4 hQ4
  subst l4 y4 z4
  obtain ⟨rfl, rfl, e4⟩ := hQ4
  have N4 := Fr.app N3 (Fr.nil n0)
  obtain ⟨T5, h5, X5, e5, W5, st5⟩ := putF X4 hx hZ hown (host := "") (Or.inl (hw _ (List.mem_of_getElem? (i := 31) rfl))) Via.refl e4 (F_coder_a1.keep K3 nin0) (E_a1.keep K3) (Or.inr ⟨(hw _ (List.mem_of_getElem? (i := 32) rfl)), rfl, hnm⟩) (hw _ (List.mem_of_getElem? (i := 6) rfl)) (ty := .byte) (by decide) rfl rfl (g := (mkF m 48 #[.val (.ref a1), .val (.ref a2), .val (.int (0 : Int32)), .val (.int (2 : Int32)), .val .null, .val (.ref b1_3)] [(.int (0 : Int32)), (.ref a1)])) rfl rfl (hb hby d3_48)
  have Fw5 := (F_coder_a1.keep K3 nin0).same W5
  have K5 : Keep h0 h5 [a1] := KK3.wr W5 (Or.inl (List.mem_of_getElem? (i := 0) rfl))
  have N5 := Fr.snoc X5 N4 g_a1
  obtain ⟨T6, h6, X6, e6, W6, st6⟩ := putF X5 hx hZ hown (host := "") (Or.inl (hw _ (List.mem_of_getElem? (i := 33) rfl))) Via.refl e5 ((F_value_a1.keep K3 nin0).other W5 (Or.inr (slot_ne (Or.inr (hw _ (List.mem_of_getElem? (i := 34) rfl))) (Or.inr (hw _ (List.mem_of_getElem? (i := 32) rfl))) (by decide) (t := (.array .byte)) (t' := .byte) (by decide) (by decide)))) ((E_a1.keep K3).wr W5) (Or.inr ⟨(hw _ (List.mem_of_getElem? (i := 34) rfl)), rfl, hnm⟩) (hw _ (List.mem_of_getElem? (i := 6) rfl)) (ty := (.array .byte)) (by decide) rfl rfl (g := (mkF m 54 #[.val (.ref a1), .val (.ref a2), .val (.int (0 : Int32)), .val (.int (2 : Int32)), .val .null, .val (.ref b1_3)] [(.ref b1_3), (.ref a1)])) rfl rfl (hb hby d3_54)
  have Fw6 := ((F_value_a1.keep K3 nin0).other W5 (Or.inr (slot_ne (Or.inr (hw _ (List.mem_of_getElem? (i := 34) rfl))) (Or.inr (hw _ (List.mem_of_getElem? (i := 32) rfl))) (by decide) (t := (.array .byte)) (t' := .byte) (by decide) (by decide)))).same W6
  have K6 : Keep h0 h6 [a1] := K5.wr W6 (Or.inl (List.mem_of_getElem? (i := 0) rfl))
  have N6 := Fr.snoc X6 N5 g_a1
  obtain ⟨fs, hr, hrun, hended, hW, hsame⟩ := X6.leave (v := none) (fun _ => rfl)
  refine ⟨_, _, pre0 _ ?_, hrun, hended, _, _, rfl, ?_, ⟨_, rfl⟩, hW, hsame.mono (by decide) (by decide)⟩
  · show Steps p.tables e below (s₁.setTop (mkF m 0 #[.val (.ref a1), .val (.ref a2), .val (.int (0 : Int32)), .val (.int (2 : Int32)), .val .null, .unset] [])) _
    refine XS.aloadN X0.here hx rfl (hb hby d3_0) rfl rfl ?_
    show Steps p.tables e below (s₁.setTop (mkF m 1 #[.val (.ref a1), .val (.ref a2), .val (.int (0 : Int32)), .val (.int (2 : Int32)), .val .null, .unset] [(.ref a1)])) _
    refine st1 _ ?_
    show Steps p.tables e below (T1.setTop (mkF m 4 #[.val (.ref a1), .val (.ref a2), .val (.int (0 : Int32)), .val (.int (2 : Int32)), .val .null, .unset] [])) _
    refine XS.iloadN X1.here hx rfl (hb hby d3_4) rfl ?_
    refine XS.ifYes X1.here hx rfl (pc0 := 5) (pc' := 27) rfl (hb hby d3_5) rfl ((if0 _ _).trans (feq (by decide : ¬ ((2 : Int32) = (0 : Int32)))).2) (by decide) (by decide) ?_
    show Steps p.tables e below (T1.setTop (mkF m 27 #[.val (.ref a1), .val (.ref a2), .val (.int (0 : Int32)), .val (.int (2 : Int32)), .val .null, .unset] [])) _
    refine st2 _ ?_
    show Steps p.tables e below (T2.setTop (mkF m 30 #[.val (.ref a1), .val (.ref a2), .val (.int (0 : Int32)), .val (.int (2 : Int32)), .val .null, .unset] [(.int w_COMPACT_STRINGS)])) _
    refine XS.ifNo X2.here hx rfl (hb hby d3_30) rfl ((if0 _ _).trans (feq (hCS : ¬ (w_COMPACT_STRINGS = (0 : Int32)))).1) ?_
    refine XS.aloadN X2.here hx rfl (hb hby d3_33) rfl rfl ?_
    refine XS.iloadN X2.here hx rfl (hb hby d3_34) rfl ?_
    show Steps p.tables e below (T2.setTop (mkF m 35 #[.val (.ref a1), .val (.ref a2), .val (.int (0 : Int32)), .val (.int (2 : Int32)), .val .null, .unset] [(.int (0 : Int32)), (.ref a2)])) _
    refine XS.iloadN X2.here hx rfl (hb hby d3_35) rfl ?_
    show Steps p.tables e below (T2.setTop (mkF m 36 #[.val (.ref a1), .val (.ref a2), .val (.int (0 : Int32)), .val (.int (2 : Int32)), .val .null, .unset] [(.int (2 : Int32)), (.int (0 : Int32)), (.ref a2)])) _
    refine st3 _ ?_
    show Steps p.tables e below (T3.setTop (mkF m 39 #[.val (.ref a1), .val (.ref a2), .val (.int (0 : Int32)), .val (.int (2 : Int32)), .val .null, .unset] [(.ref b1_3)])) _
    refine XS.astore X3.here hx rfl (hb hby d3_39) rfl rfl (l' := #[.val (.ref a1), .val (.ref a2), .val (.int (0 : Int32)), .val (.int (2 : Int32)), .val .null, .val (.ref b1_3)]) rfl ?_
    refine XS.aloadN X3.here hx rfl (hb hby d3_41) rfl rfl ?_
    show Steps p.tables e below (T3.setTop (mkF m 42 #[.val (.ref a1), .val (.ref a2), .val (.int (0 : Int32)), .val (.int (2 : Int32)), .val .null, .val (.ref b1_3)] [(.ref a1)])) _
    refine XS.aload X3.here hx rfl (hb hby d3_42) rfl rfl ?_
    refine XS.iloadN X3.here hx rfl (hb hby d3_44) rfl ?_
    show Steps p.tables e below (T3.setTop (mkF m 45 #[.val (.ref a1), .val (.ref a2), .val (.int (0 : Int32)), .val (.int (2 : Int32)), .val .null, .val (.ref b1_3)] [(.int (2 : Int32)), (.ref b1_3), (.ref a1)])) _
    refine st4 _ ?_
    show Steps p.tables e below (T4.setTop (mkF m 48 #[.val (.ref a1), .val (.ref a2), .val (.int (0 : Int32)), .val (.int (2 : Int32)), .val .null, .val (.ref b1_3)] [(.int (0 : Int32)), (.ref a1)])) _
    refine st5 _ ?_
    show Steps p.tables e below (T5.setTop (mkF m 51 #[.val (.ref a1), .val (.ref a2), .val (.int (0 : Int32)), .val (.int (2 : Int32)), .val .null, .val (.ref b1_3)] [])) _
    refine XS.aloadN X5.here hx rfl (hb hby d3_51) rfl rfl ?_
    show Steps p.tables e below (T5.setTop (mkF m 52 #[.val (.ref a1), .val (.ref a2), .val (.int (0 : Int32)), .val (.int (2 : Int32)), .val .null, .val (.ref b1_3)] [(.ref a1)])) _
    refine XS.aload X5.here hx rfl (hb hby d3_52) rfl rfl ?_
    show Steps p.tables e below (T5.setTop (mkF m 54 #[.val (.ref a1), .val (.ref a2), .val (.int (0 : Int32)), .val (.int (2 : Int32)), .val .null, .val (.ref b1_3)] [(.ref b1_3), (.ref a1)])) _
    refine st6 _ ?_
    show Steps p.tables e below (T6.setTop (mkF m 57 #[.val (.ref a1), .val (.ref a2), .val (.int (0 : Int32)), .val (.int (2 : Int32)), .val .null, .val (.ref b1_3)] [])) _
    exact X6.returnOut hx Bd.returns (hb hby d3_57) hr
  · show Q_ini4_2 Z a1 a2 ka c0 c1 w_COMPACT_STRINGS u_coder_a1 u_value_a1 h0 n0 _ T6.heap _
    rw [e6]
    exact ⟨b1_3, k1_3, rfl, N6, K6, sz_b1_3, (((E_a1.keep K3).wr W5).wr W6), (Fw5.other W6 (Or.inr (slot_ne (Or.inr (hw _ (List.mem_of_getElem? (i := 32) rfl))) (Or.inr (hw _ (List.mem_of_getElem? (i := 34) rfl))) (by decide) (t := .byte) (t' := (.array .byte)) (by decide) (by decide)))), Fw6, ((f3_0.other W5 (Ne.symm (Nat.ne_of_lt (Nat.lt_of_lt_of_le E_a1.lt s3_b1)))).other W6 (Ne.symm (Nat.ne_of_lt (Nat.lt_of_lt_of_le E_a1.lt s3_b1))))⟩
theorem ef_ini1_2 (m : MethodId) (a1 : Addr) (a2 : Addr) : entryFrame m #[(.ref a1), (.ref a2)] 2 = (mkF m 0 #[.val (.ref a1), .val (.ref a2)] []) := by first | (simp [entryFrame, mkF, argsToLocals, Value.category]; done) | rfl
def Q_ini1_2 (Z : State) (a1 : Addr) (a2 : Addr) (ka : ClassId) (c0 : Int32) (c1 : Int32) (w_COMPACT_STRINGS : Int32) (u_coder_a1 : Value) (u_value_a1 : Value) (h0 : Heap) (n0 : Nat) (v : Option Value) (h : Heap) (L : List Loc) : Prop := ∃ (b1_3_2 : Addr) (k1_3_2 : ClassId), v = none ∧ Fr n0 L ∧ Keep h0 h [a1] ∧ h0.size ≤ b1_3_2 ∧ Exa Z h a1 "java/lang/String" ∧ Fld Z h a1 "java/lang/String" "coder" "B" (.int (0 : Int32)) ∧ Fld Z h a1 "java/lang/String" "value" "[B" (.ref b1_3_2) ∧ Arv Z h b1_3_2 k1_3_2 .byte (2 : Int32) [(.int (nar .byte (c0.toInt8.toInt32))), (.int (nar .byte (c1.toInt8.toInt32)))] (.int (0 : Int32))
set_option maxRecDepth 65536 in
set_option maxHeartbeats 40000000 in
theorem rm_ini1_2 (l : Launch) (Z : State) (a0 : Array Value) (hw : ∀ d ∈ tables_1, d.before a0 Z = true) (ws : List Jvm.Cond) (a1 : Addr) (a2 : Addr) (ka : ClassId) (c0 : Int32) (c1 : Int32) (w_COMPACT_STRINGS : Int32) (u_coder_a1 : Value) (u_value_a1 : Value) (h0 : Heap) (n0 : Nat) (Z0 : n0 ≤ h0.size) (V_a2 : Arv Z h0 a2 ka .char (2 : Int32) [(.int c0), (.int c1)] (.int (0 : Int32))) (S_COMPACT_STRINGS : Sta Z h0 "java/lang/String" "COMPACT_STRINGS" "Z" (.int w_COMPACT_STRINGS)) (E_a1 : Exa Z h0 a1 "java/lang/String") (F_coder_a1 : Fld Z h0 a1 "java/lang/String" "coder" "B" u_coder_a1) (g_a1 : n0 ≤ a1) (F_value_a1 : Fld Z h0 a1 "java/lang/String" "value" "[B" u_value_a1) (hch0 : ¬ ((255 : Int32) < c0)) (hch1 : ¬ ((255 : Int32) < c1)) (hCS : ¬ (w_COMPACT_STRINGS = (0 : Int32))) :
    MetFree l (⟨"java/lang/String", "<init>", "([C)V"⟩ : MethodName) (head1 (Jvm.Cond.code (⟨"java/lang/String", "<init>", "([C)V"⟩ : MethodName) jdk_42_method_3_code 2 none :: ws) ({ frames := 3, cells := 1, slots := 2, locals := 52 } : Room)) (fun a U => a = #[(.ref a1), (.ref a2)] ∧ Z.Warmed39 U.vm ∧ U.heap = h0) (fun _ _ _ _ _ => True) (fun _ U o U' => ∃ v L, o = .returned v ∧ Q_ini1_2 Z a1 a2 ka c0 c1 w_COMPACT_STRINGS u_coder_a1 u_value_a1 h0 n0 v U'.heap L ∧ FrameEnd U o U' L ({ frames := 3, cells := 1, slots := 2, locals := 52 } : Room).cells ({ frames := 3, cells := 1, slots := 2, locals := 52 } : Room).slots) := by
  refine MetFree.of_bodySF (plainFor_of_name pn0) hisR ?_
  intro p e s m args below meth c s₁ Bd hml0 hP hK
  obtain ⟨rfl, hZ, hh⟩ := hP
  have hx := Bd.exec
  have hby := Bd.bytes
  have hml : c.maxLocals = 2 := hml0
  have hown : s.vm.findClass "java/lang/String" = some m.cls := findClass_of_methodNamed Bd.named
  have hnm := (name_of_methodNamed Bd.named Bd.method).1
  have X0 : Stand p l e ({ frames := 3, cells := 1, slots := 2, locals := 52 } : Room) s m #[(.ref a1), (.ref a2)] below meth c s₁ [] 0 0 := Stand.of_body Bd
  have e0 : s₁.heap = h0 := by rw [← hh, Bd.state]; rfl
  have N0 := Fr.nil n0
  have pre0 : ∀ t, Steps p.tables e below (s₁.setTop (mkF m 0 #[.val (.ref a1), .val (.ref a2)] [])) t → Steps p.tables e below (s₁.setTop (entryFrame m #[(.ref a1), (.ref a2)] 2)) t := fun t k => castTop (ef_ini1_2 m a1 a2) k
  obtain ⟨cl_a2_4_1, Ar_a2_4_1, -, S_a2_4_1, N_a2_4_1, -, -⟩ := id V_a2
  obtain ⟨_, _, ⟨T2, L2, k2, n2⟩, -, X2, ⟨Lc2, hQ2, l2, y2, z2⟩, st2⟩ := X0.specialBack hx (y := (⟨"java/lang/String", "<init>", "([CIILjava/lang/Void;)V"⟩ : MethodName)) rfl hown (mvT hZ (hw _ (List.mem_of_getElem? (i := 12) rfl))) (mvT hZ (hw _ (List.mem_of_getElem? (i := 13) rfl))) (mvT hZ (hw _ (List.mem_of_getElem? (i := 15) rfl))) (by decide) (backOf (W := 0) (rm_ini4_2 l Z a0 hw [] a1 a2 ka c0 c1 w_COMPACT_STRINGS u_coder_a1 u_value_a1 h0 n0 (Nat.le_trans Z0 (Keep.refl h0 [a1]).1) V_a2 S_COMPACT_STRINGS E_a1 F_coder_a1 g_a1 F_value_a1 (hch0 : ¬ ((255 : Int32) < c0)) (hch1 : ¬ ((255 : Int32) < c1)) (hCS : ¬ (w_COMPACT_STRINGS = (0 : Int32)))) hZ (hw _ (List.mem_of_getElem? (i := 15) rfl)) (hw _ (List.mem_of_getElem? (i := 7) rfl)) (by decide) (by decide)) (g := (mkF m 6 #[.val (.ref a1), .val (.ref a2)] [.null, (.int (2 : Int32)), (.int (0 : Int32)), (.ref a2), (.ref a1)])) rfl (by rw [hml]; rfl) (Steps.refl _) (a := a1) (argsL := [(.ref a2), (.int (0 : Int32)), (.int (2 : Int32)), .null]) (rest := []) (lenOf pd0 rfl) rfl (by show 2 * 0 + _ ≤ _; exact Nat.le_of_eq rfl) (hb hby d2_6) (fun _ _ => ⟨rfl, e0, (by decide : 0 + 1 ≤ _), (by decide : 0 + 2 ≤ _)⟩)
  dsimp only [Pt.U, Pt.locs, Pt.cells, Pt.slots] at X2 l2 y2 z2 st2 hQ2
  subst l2 y2 z2
  obtain ⟨b1_3_2, k1_3_2, rfl, N2q, K2, s2_b1_3, f2_0, f2_1, f2_2, f2_3⟩ := hQ2
  have N2 := Fr.app N0 N2q
  have sz_b1_3_2 : h0.size ≤ b1_3_2 := Nat.le_trans (Keep.refl h0 [a1]).1 s2_b1_3
  have g_b1_3_2 : n0 ≤ b1_3_2 := Nat.le_trans Z0 sz_b1_3_2
  have KK2 : Keep h0 T2.heap [a1] := (Keep.refl h0 [a1]).trans K2 (allS (Or.inl (List.mem_of_getElem? (i := 0) rfl)) all0)
  obtain ⟨fs, hr, hrun, hended, hW, hsame⟩ := X2.leave (v := none) (fun _ => rfl)
  refine ⟨_, _, pre0 _ ?_, hrun, hended, _, _, rfl, ?_, ⟨_, rfl⟩, hW, hsame.mono (by decide) (by decide)⟩
  · show Steps p.tables e below (s₁.setTop (mkF m 0 #[.val (.ref a1), .val (.ref a2)] [])) _
    refine XS.aloadN X0.here hx rfl (hb hby d2_0) rfl rfl ?_
    refine XS.aloadN X0.here hx rfl (hb hby d2_1) rfl rfl ?_
    refine XS.iconst X0.here hx rfl (hb hby d2_2) ?_
    show Steps p.tables e below (s₁.setTop (mkF m 3 #[.val (.ref a1), .val (.ref a2)] [(.int (0 : Int32)), (.ref a2), (.ref a1)])) _
    refine XS.aloadN X0.here hx rfl (hb hby d2_3) rfl rfl ?_
    refine X0.arraylength hx (by rw [e0]; exact Ar_a2_4_1.1) (State.isArrayOf_alike hZ.alike Ar_a2_4_1.2.1) (g := (mkF m 4 #[.val (.ref a1), .val (.ref a2)] [(.ref a2), (.int (0 : Int32)), (.ref a2), (.ref a1)])) rfl rfl (hb hby d2_4) _ ?_
    rw [len_of S_a2_4_1 N_a2_4_1]
    show Steps p.tables e below (s₁.setTop (mkF m 5 #[.val (.ref a1), .val (.ref a2)] [(.int (2 : Int32)), (.int (0 : Int32)), (.ref a2), (.ref a1)])) _
    refine XS.aconstNull X0.here hx rfl (hb hby d2_5) ?_
    show Steps p.tables e below (s₁.setTop (mkF m 6 #[.val (.ref a1), .val (.ref a2)] [.null, (.int (2 : Int32)), (.int (0 : Int32)), (.ref a2), (.ref a1)])) _
    refine st2.trans ?_
    show Steps p.tables e below (T2.setTop (mkF m 9 #[.val (.ref a1), .val (.ref a2)] [])) _
    exact X2.returnOut hx Bd.returns (hb hby d2_9) hr
  · show Q_ini1_2 Z a1 a2 ka c0 c1 w_COMPACT_STRINGS u_coder_a1 u_value_a1 h0 n0 _ T2.heap _
    exact ⟨b1_3_2, k1_3_2, rfl, N2, KK2, sz_b1_3_2, (E_a1.keep K2), f2_1, f2_2, f2_3⟩
theorem d1_0 : decode method_3_code 0 = .ok (.iload_n 0, 1) := by decide +kernel
theorem d1_1 : decode method_3_code 1 = .ok (.ifCond .ne 14, 3) := by decide +kernel
theorem d1_4 : decode method_3_code 4 = .ok (.new 55, 3) := by decide +kernel
theorem d1_7 : decode method_3_code 7 = .ok (.dup, 1) := by decide +kernel
theorem d1_8 : decode method_3_code 8 = .ok (.iconst 0, 1) := by decide +kernel
theorem d1_9 : decode method_3_code 9 = .ok (.newarray .char, 2) := by decide +kernel
theorem d1_11 : decode method_3_code 11 = .ok (.invokespecial 57, 3) := by decide +kernel
theorem d1_14 : decode method_3_code 14 = .ok (.areturn, 1) := by decide +kernel
theorem pd4 : parseMethodDescriptor "([C)V" = some ⟨[(.array .char)], none⟩ := by decide +kernel
theorem pn2 : plainName "com/example/cantrip/cantrip/TokenIsPinLaw" = true := by first | (simp [plainName, overriddenIn]; done) | decide +kernel
theorem ef_str_0 (m : MethodId) (p1 : Int32) (p2 : Int32) : entryFrame m #[(.int (0 : Int32)), (.int p1), (.int p2)] 3 = (mkF m 0 #[.val (.int (0 : Int32)), .val (.int p1), .val (.int p2)] []) := by first | (simp [entryFrame, mkF, argsToLocals, Value.category]; done) | rfl
def Q_str_0 (Z : State) (p1 : Int32) (p2 : Int32) (h0 : Heap) (n0 : Nat) (v : Option Value) (h : Heap) (L : List Loc) : Prop := ∃ (b1 : Addr) (c2_2_3 : Addr) (k2_2_3 : ClassId), v = some (.ref b1) ∧ Fr n0 L ∧ Keep h0 h [] ∧ h0.size ≤ b1 ∧ Exa Z h b1 "java/lang/String" ∧ Fld Z h b1 "java/lang/String" "value" "[B" (.ref c2_2_3) ∧ Fld Z h b1 "java/lang/String" "coder" "B" (.int (0 : Int32)) ∧ Arv Z h c2_2_3 k2_2_3 .byte (0 : Int32) [] (.int (0 : Int32))
set_option maxRecDepth 65536 in
set_option maxHeartbeats 40000000 in
theorem rm_str_0 (l : Launch) (Z : State) (a0 : Array Value) (hw : ∀ d ∈ tables_1, d.before a0 Z = true) (ws : List Jvm.Cond) (p1 : Int32) (p2 : Int32) (h0 : Heap) (n0 : Nat) (Z0 : n0 ≤ h0.size) (hEL : EW Z a0 EL1) :
    MetFree l (⟨"com/example/cantrip/cantrip/TokenIsPinLaw", "str", "(ICC)Ljava/lang/String;"⟩ : MethodName) (head1 (Jvm.Cond.code (⟨"com/example/cantrip/cantrip/TokenIsPinLaw", "str", "(ICC)Ljava/lang/String;"⟩ : MethodName) method_3_code 3 (some (.object "java/lang/String")) :: ws) ({ frames := 3, cells := 4, slots := 8, locals := 43 } : Room)) (fun a U => a = #[(.int (0 : Int32)), (.int p1), (.int p2)] ∧ Z.Warmed39 U.vm ∧ U.heap = h0 ∧ CHv Z EL1 U.vm h0) (fun _ _ _ _ _ => True) (fun _ U o U' => ∃ v L, o = .returned v ∧ Q_str_0 Z p1 p2 h0 n0 v U'.heap L ∧ CHr Z EL1 U.vm U.heap U'.vm U'.heap ∧ ReturnedEndW U o U' L ({ frames := 3, cells := 4, slots := 8, locals := 43 } : Room).cells ({ frames := 3, cells := 4, slots := 8, locals := 43 } : Room).slots) := by
  refine MetFree.of_bodySF (plainFor_of_name pn2) hisR ?_
  intro p e s m args below meth c s₁ Bd hml0 hP hK
  obtain ⟨rfl, hZ, hh, HC⟩ := hP
  have hx := Bd.exec
  have hby := Bd.bytes
  have hml : c.maxLocals = 3 := hml0
  have hown : s.vm.findClass "com/example/cantrip/cantrip/TokenIsPinLaw" = some m.cls := findClass_of_methodNamed Bd.named
  have hnm := (name_of_methodNamed Bd.named Bd.method).1
  have X0 : Stand p l e ({ frames := 3, cells := 4, slots := 8, locals := 43 } : Room) (s.setVm s.vm) m #[(.int (0 : Int32)), (.int p1), (.int p2)] below meth c s₁ [] 0 0 := by rw [State.setVm_self]; exact Stand.of_body Bd
  have hS0 : s.Since s.vm 0 := (State.WarmedH.refl s).since 0
  have CR0 : CHr Z EL1 s.vm h0 s.vm h0 := CHr.refl HC
  have hZ : Z.Warmed39 (s.setVm s.vm).vm := hZ
  have hown : (s.setVm s.vm).vm.findClass "com/example/cantrip/cantrip/TokenIsPinLaw" = some m.cls := hown
  have e0 : s₁.heap = h0 := by rw [← hh, Bd.state]; rfl
  have N0 := Fr.nil n0
  have pre0 : ∀ t, Steps p.tables e below (s₁.setTop (mkF m 0 #[.val (.int (0 : Int32)), .val (.int p1), .val (.int p2)] [])) t → Steps p.tables e below (s₁.setTop (entryFrame m #[(.int (0 : Int32)), (.int p1), (.int p2)] 3)) t := fun t k => castTop (ef_str_0 m p1 p2) k
  obtain ⟨T1, h1, X1, e1, E1, A1, D1, -, st1⟩ := newO X0 hx hZ hown (hw _ (List.mem_of_getElem? (i := 5) rfl)) (hw _ (List.mem_of_getElem? (i := 6) rfl)) (hw _ (List.mem_of_getElem? (i := 7) rfl)) e0 (g := (mkF m 4 #[.val (.int (0 : Int32)), .val (.int p1), .val (.int p2)] [])) rfl (hb hby d1_4) (by decide) (by decide)
  obtain ⟨b1, g1⟩ : ∃ z, z = h0.size := ⟨_, rfl⟩
  rw [← g1] at A1 D1 st1
  have sz_b1 : h0.size ≤ b1 := Nat.le_trans (Keep.refl h0 []).1 (Nat.le_of_eq g1.symm)
  have g_b1 : n0 ≤ b1 := Nat.le_trans Z0 sz_b1
  have K1 : Keep h0 h1 [] := (Keep.refl h0 []).ext E1
  have hk_1 := Nat.le_trans (Nat.zero_le _) E1.1
  have CR1 := CHr.trans CR0 (CHr.ext E1 CR0.1)
  have F_coder_b1 : Fld Z h1 b1 "java/lang/String" "coder" "B" (.int (0 : Int32)) := D1 (Or.inr (hw _ (List.mem_of_getElem? (i := 32) rfl))) (ty := .byte) (by decide)
  have F_value_b1 : Fld Z h1 b1 "java/lang/String" "value" "[B" .null := D1 (Or.inr (hw _ (List.mem_of_getElem? (i := 34) rfl))) (ty := (.array .byte)) (by decide)
  obtain ⟨T2, h2, k2, X2, e2, E2, A2, st2⟩ := newP X1 hx hZ (hw _ (List.mem_of_getElem? (i := 8) rfl)) e1 (g := (mkF m 9 #[.val (.int (0 : Int32)), .val (.int p1), .val (.int p2)] [(.int (0 : Int32)), (.ref b1), (.ref b1)])) rfl (hb hby d1_9) rfl (by decide) (cap := 0) (by decide) (by decide) (by decide) (by decide)
  obtain ⟨b2, g2⟩ : ∃ z, z = h1.size := ⟨_, rfl⟩
  rw [← g2] at A2 st2
  have sz_b2 : h0.size ≤ b2 := Nat.le_trans K1.1 (Nat.le_of_eq g2.symm)
  have g_b2 : n0 ≤ b2 := Nat.le_trans Z0 sz_b2
  have K2 : Keep h0 h2 [] := K1.ext E2
  have hk_2 := Nat.le_trans hk_1 E2.1
  have CR2 := CHr.trans CR1 (CHr.ext E2 CR1.1)
  have V_b2 : Arv Z h2 b2 k2 .char (0 : Int32) [] (.int (0 : Int32)) := (Arv.new A2 (by decide)).pad (pad_rep [] (.int (0 : Int32)) 0)
  have pre4 : ∀ t, Steps p.tables e below (T2.setTop (mkF m 11 #[.val (.int (0 : Int32)), .val (.int p1), .val (.int p2)] [(.ref b2), (.ref b1), (.ref b1)])) t → Steps p.tables e below (s₁.setTop (entryFrame m #[(.int (0 : Int32)), (.int p1), (.int p2)] 3)) t := by
    intro t kt
    refine pre0 _ ?_
    show Steps p.tables e below (s₁.setTop (mkF m 0 #[.val (.int (0 : Int32)), .val (.int p1), .val (.int p2)] [])) _
    refine XS.iloadN X0.here hx rfl (hb hby d1_0) rfl ?_
    refine XS.ifNo X0.here hx rfl (hb hby d1_1) rfl ((if0 _ _).trans (teq (by decide : (0 : Int32) = (0 : Int32))).2) ?_
    show Steps p.tables e below (s₁.setTop (mkF m 4 #[.val (.int (0 : Int32)), .val (.int p1), .val (.int p2)] [])) _
    refine st1 _ ?_
    show Steps p.tables e below (T1.setTop (mkF m 7 #[.val (.int (0 : Int32)), .val (.int p1), .val (.int p2)] [(.ref b1)])) _
    refine XS.dup X1.here hx rfl (hb hby d1_7) rfl rfl ?_
    show Steps p.tables e below (T1.setTop (mkF m 8 #[.val (.int (0 : Int32)), .val (.int p1), .val (.int p2)] [(.ref b1), (.ref b1)])) _
    refine XS.iconst X1.here hx rfl (hb hby d1_8) ?_
    show Steps p.tables e below (T1.setTop (mkF m 9 #[.val (.int (0 : Int32)), .val (.int p1), .val (.int p2)] [(.int (0 : Int32)), (.ref b1), (.ref b1)])) _
    refine st2 _ ?_
    exact kt
  obtain ⟨_, _, ⟨T3, L3, k3, n3⟩, -, XX3, hSS3, hgr3, ⟨Lc3, hQ3, l3, y3, z3, hC3⟩, st3⟩ := X2.specialBackS hx (y := (⟨"java/lang/String", "<init>", "([C)V"⟩ : MethodName)) rfl hown (mvT hZ (hw _ (List.mem_of_getElem? (i := 9) rfl))) (mvT hZ (hw _ (List.mem_of_getElem? (i := 10) rfl))) (mvT hZ (hw _ (List.mem_of_getElem? (i := 11) rfl))) (by decide) (backOfSH (W := 1) (rm_ini1_0 l Z a0 hw [] b1 b2 k2 h2 n0 (Nat.le_trans Z0 K2.1) V_b2 (A1.ext E2) (F_value_b1.ext E2) (F_coder_b1.ext E2) g_b1  hEL) hZ (hw _ (List.mem_of_getElem? (i := 11) rfl)) (hw _ (List.mem_of_getElem? (i := 7) rfl)) (by decide) (by decide) hEL CR2.1) (g := (mkF m 11 #[.val (.int (0 : Int32)), .val (.int p1), .val (.int p2)] [(.ref b2), (.ref b1), (.ref b1)])) rfl (by rw [hml]; rfl) (Steps.refl _) (a := b1) (argsL := [(.ref b2)]) (rest := [(.ref b1)]) (lenOf pd4 rfl) rfl (by show 2 * 0 + _ ≤ _; exact Nat.le_of_eq rfl) (hb hby d1_11) (fun _ _ => ⟨rfl, e2, (by decide : 2 + 2 ≤ _), (by decide : 4 + 4 ≤ _)⟩)
  dsimp only [Pt.U, Pt.locs, Pt.cells, Pt.slots] at XX3 hSS3 hgr3 l3 y3 z3 st3 hQ3 hC3
  subst l3 y3 z3
  obtain ⟨X3, hS3, hZ, hown⟩ := rebS hS0 (Nat.le_trans hk_2 (Nat.le_of_eq (congrArg Array.size e2.symm))) XX3 hSS3 hgr3 hZ hown
  have CR3 := CHr.trans CR2 hC3
  obtain ⟨c2_2_3, k2_2_3, rfl, N3q, K3, f3_0, f3_1, f3_2, f3_3⟩ := hQ3
  have N3 := Fr.app N0 N3q
  have KK3 : Keep h0 T3.heap [] := K2.trans K3 (allS (Or.inr sz_b1) all0)
  obtain ⟨fs, hr, hrun, hended, hRW⟩ := X3.leaveW hS3 (Nat.le_trans (Nat.le_refl _) (Nat.le_of_eq (congrArg Array.size (rfl : T3.heap = T3.heap).symm))) (v := some (.ref b1)) (fun h => by rw [Bd.returns] at h; cases h)
  have hCC : CHr Z EL1 s.vm s.heap T3.vm T3.heap := by rw [hh]; exact CHr.trans CR3 (CHv.at X3 hZ hEL CR3.1)
  refine ⟨_, _, pre4 _ ?_, hrun, hended, _, _, rfl, ?_, hCC, hRW.1, hRW.2.1, hRW.2.2.1, hRW.2.2.2.mono (by decide) (by decide)⟩
  · show Steps p.tables e below (T2.setTop (mkF m 11 #[.val (.int (0 : Int32)), .val (.int p1), .val (.int p2)] [(.ref b2), (.ref b1), (.ref b1)])) _
    refine st3.trans ?_
    show Steps p.tables e below (T3.setTop (mkF m 14 #[.val (.int (0 : Int32)), .val (.int p1), .val (.int p2)] [(.ref b1)])) _
    exact retOut X3 hx Bd.returns rfl (Or.inr (Or.inr (Or.inr (Or.inr ⟨rfl, rfl, rfl⟩)))) (hb hby d1_14) hr
  · show Q_str_0 Z p1 p2 h0 n0 _ T3.heap _
    exact ⟨b1, c2_2_3, k2_2_3, rfl, N3, KK3, sz_b1, ((A1.ext E2).keep K3), f3_1, f3_2, f3_3⟩
theorem d1_15 : decode method_3_code 15 = .ok (.iload_n 0, 1) := by decide +kernel
theorem d1_16 : decode method_3_code 16 = .ok (.iconst 1, 1) := by decide +kernel
theorem d1_17 : decode method_3_code 17 = .ok (.if_icmp .ne 18, 3) := by decide +kernel
theorem d1_20 : decode method_3_code 20 = .ok (.new 55, 3) := by decide +kernel
theorem d1_23 : decode method_3_code 23 = .ok (.dup, 1) := by decide +kernel
theorem d1_24 : decode method_3_code 24 = .ok (.iconst 1, 1) := by decide +kernel
theorem d1_25 : decode method_3_code 25 = .ok (.newarray .char, 2) := by decide +kernel
theorem d1_27 : decode method_3_code 27 = .ok (.dup, 1) := by decide +kernel
theorem d1_28 : decode method_3_code 28 = .ok (.iconst 0, 1) := by decide +kernel
theorem d1_29 : decode method_3_code 29 = .ok (.iload_n 1, 1) := by decide +kernel
theorem d1_30 : decode method_3_code 30 = .ok (.castore, 1) := by decide +kernel
theorem d1_31 : decode method_3_code 31 = .ok (.invokespecial 57, 3) := by decide +kernel
theorem d1_34 : decode method_3_code 34 = .ok (.areturn, 1) := by decide +kernel
theorem ef_str_1 (m : MethodId) (p1 : Int32) (p2 : Int32) : entryFrame m #[(.int (1 : Int32)), (.int p1), (.int p2)] 3 = (mkF m 0 #[.val (.int (1 : Int32)), .val (.int p1), .val (.int p2)] []) := by first | (simp [entryFrame, mkF, argsToLocals, Value.category]; done) | rfl
def Q_str_1 (Z : State) (p1 : Int32) (p2 : Int32) (w_COMPACT_STRINGS : Int32) (h0 : Heap) (n0 : Nat) (v : Option Value) (h : Heap) (L : List Loc) : Prop := ∃ (b1 : Addr) (b1_3_2_5 : Addr) (k1_3_2_5 : ClassId), v = some (.ref b1) ∧ Fr n0 L ∧ Keep h0 h [] ∧ h0.size ≤ b1 ∧ h0.size ≤ b1_3_2_5 ∧ Exa Z h b1 "java/lang/String" ∧ Fld Z h b1 "java/lang/String" "coder" "B" (.int (0 : Int32)) ∧ Fld Z h b1 "java/lang/String" "value" "[B" (.ref b1_3_2_5) ∧ Arv Z h b1_3_2_5 k1_3_2_5 .byte (1 : Int32) [(.int (nar .byte ((nar .char p1).toInt8.toInt32)))] (.int (0 : Int32))
set_option maxRecDepth 65536 in
set_option maxHeartbeats 40000000 in
theorem rm_str_1 (l : Launch) (Z : State) (a0 : Array Value) (hw : ∀ d ∈ tables_1, d.before a0 Z = true) (ws : List Jvm.Cond) (p1 : Int32) (p2 : Int32) (w_COMPACT_STRINGS : Int32) (h0 : Heap) (n0 : Nat) (Z0 : n0 ≤ h0.size) (S_COMPACT_STRINGS : Sta Z h0 "java/lang/String" "COMPACT_STRINGS" "Z" (.int w_COMPACT_STRINGS)) (hCS : ¬ (w_COMPACT_STRINGS = (0 : Int32))) (hc0 : ¬ ((255 : Int32) < (nar .char p1))) :
    MetFree l (⟨"com/example/cantrip/cantrip/TokenIsPinLaw", "str", "(ICC)Ljava/lang/String;"⟩ : MethodName) (head1 (Jvm.Cond.code (⟨"com/example/cantrip/cantrip/TokenIsPinLaw", "str", "(ICC)Ljava/lang/String;"⟩ : MethodName) method_3_code 3 (some (.object "java/lang/String")) :: ws) ({ frames := 4, cells := 3, slots := 6, locals := 66 } : Room)) (fun a U => a = #[(.int (1 : Int32)), (.int p1), (.int p2)] ∧ Z.Warmed39 U.vm ∧ U.heap = h0) (fun _ _ _ _ _ => True) (fun _ U o U' => ∃ v L, o = .returned v ∧ Q_str_1 Z p1 p2 w_COMPACT_STRINGS h0 n0 v U'.heap L ∧ FrameEnd U o U' L ({ frames := 4, cells := 3, slots := 6, locals := 66 } : Room).cells ({ frames := 4, cells := 3, slots := 6, locals := 66 } : Room).slots) := by
  refine MetFree.of_bodySF (plainFor_of_name pn2) hisR ?_
  intro p e s m args below meth c s₁ Bd hml0 hP hK
  obtain ⟨rfl, hZ, hh⟩ := hP
  have hx := Bd.exec
  have hby := Bd.bytes
  have hml : c.maxLocals = 3 := hml0
  have hown : s.vm.findClass "com/example/cantrip/cantrip/TokenIsPinLaw" = some m.cls := findClass_of_methodNamed Bd.named
  have hnm := (name_of_methodNamed Bd.named Bd.method).1
  have X0 : Stand p l e ({ frames := 4, cells := 3, slots := 6, locals := 66 } : Room) s m #[(.int (1 : Int32)), (.int p1), (.int p2)] below meth c s₁ [] 0 0 := Stand.of_body Bd
  have e0 : s₁.heap = h0 := by rw [← hh, Bd.state]; rfl
  have N0 := Fr.nil n0
  have pre0 : ∀ t, Steps p.tables e below (s₁.setTop (mkF m 0 #[.val (.int (1 : Int32)), .val (.int p1), .val (.int p2)] [])) t → Steps p.tables e below (s₁.setTop (entryFrame m #[(.int (1 : Int32)), (.int p1), (.int p2)] 3)) t := fun t k => castTop (ef_str_1 m p1 p2) k
  obtain ⟨T1, h1, X1, e1, E1, A1, D1, -, st1⟩ := newO X0 hx hZ hown (hw _ (List.mem_of_getElem? (i := 5) rfl)) (hw _ (List.mem_of_getElem? (i := 6) rfl)) (hw _ (List.mem_of_getElem? (i := 7) rfl)) e0 (g := (mkF m 20 #[.val (.int (1 : Int32)), .val (.int p1), .val (.int p2)] [])) rfl (hb hby d1_20) (by decide) (by decide)
  obtain ⟨b1, g1⟩ : ∃ z, z = h0.size := ⟨_, rfl⟩
  rw [← g1] at A1 D1 st1
  have sz_b1 : h0.size ≤ b1 := Nat.le_trans (Keep.refl h0 []).1 (Nat.le_of_eq g1.symm)
  have g_b1 : n0 ≤ b1 := Nat.le_trans Z0 sz_b1
  have K1 : Keep h0 h1 [] := (Keep.refl h0 []).ext E1
  have F_coder_b1 : Fld Z h1 b1 "java/lang/String" "coder" "B" (.int (0 : Int32)) := D1 (Or.inr (hw _ (List.mem_of_getElem? (i := 32) rfl))) (ty := .byte) (by decide)
  have F_value_b1 : Fld Z h1 b1 "java/lang/String" "value" "[B" .null := D1 (Or.inr (hw _ (List.mem_of_getElem? (i := 34) rfl))) (ty := (.array .byte)) (by decide)
  obtain ⟨T2, h2, k2, X2, e2, E2, A2, st2⟩ := newP X1 hx hZ (hw _ (List.mem_of_getElem? (i := 8) rfl)) e1 (g := (mkF m 25 #[.val (.int (1 : Int32)), .val (.int p1), .val (.int p2)] [(.int (1 : Int32)), (.ref b1), (.ref b1)])) rfl (hb hby d1_25) rfl (by decide) (cap := 1) (by decide) (by decide) (by decide) (by decide)
  obtain ⟨b2, g2⟩ : ∃ z, z = h1.size := ⟨_, rfl⟩
  rw [← g2] at A2 st2
  have sz_b2 : h0.size ≤ b2 := Nat.le_trans K1.1 (Nat.le_of_eq g2.symm)
  have g_b2 : n0 ≤ b2 := Nat.le_trans Z0 sz_b2
  have K2 : Keep h0 h2 [] := K1.ext E2
  have V_b2 : Arv Z h2 b2 k2 .char (1 : Int32) [(.int (0 : Int32))] (.int (0 : Int32)) := (Arv.new A2 (by decide)).pad (pad_rep [] (.int (0 : Int32)) 1)
  obtain ⟨cl_b2_30_3, Ar_b2_30_3, q_b2_30_3, S_b2_30_3, N_b2_30_3, H_b2_30_3, G_b2_30_3⟩ := id V_b2
  have hin_b2_30_3 : ¬ ((0 : Int32) < 0 ∨ cl_b2_30_3.slots.size ≤ ((0 : Int32) : Int32).toNatClampNeg) := inb_of S_b2_30_3 ⟨by decide, by decide⟩
  obtain ⟨T4, h4, X4, e4, W4, st4⟩ := stC X2 hx hZ e2 Ar_b2_30_3 (j := (0 : Int32)) hin_b2_30_3 (g := (mkF m 30 #[.val (.int (1 : Int32)), .val (.int p1), .val (.int p2)] [(.int p1), (.int (0 : Int32)), (.ref b2), (.ref b2), (.ref b1), (.ref b1)])) rfl rfl (hb hby d1_30)
  have V_b2_30_3 : Arv Z h4 b2 k2 .char (1 : Int32) [(.int (nar .char p1))] (.int (0 : Int32)) := Arv.set Ar_b2_30_3 q_b2_30_3 S_b2_30_3 N_b2_30_3 H_b2_30_3 G_b2_30_3 (fits_nar_char _) W4 0 rfl (Nat.le_of_ble_eq_true rfl)
  have K4 : Keep h0 h4 [] := K2.wr W4 (Or.inr sz_b2)
  have N4 := Fr.snoc X4 N0 g_b2
  obtain ⟨_, _, ⟨T5, L5, k5, n5⟩, -, X5, ⟨Lc5, hQ5, l5, y5, z5⟩, st5⟩ := X4.specialBack hx (y := (⟨"java/lang/String", "<init>", "([C)V"⟩ : MethodName)) rfl hown (mvT hZ (hw _ (List.mem_of_getElem? (i := 9) rfl))) (mvT hZ (hw _ (List.mem_of_getElem? (i := 10) rfl))) (mvT hZ (hw _ (List.mem_of_getElem? (i := 11) rfl))) (by decide) (backOf (W := 1) (rm_ini1_1 l Z a0 hw [] b1 b2 k2 (nar .char p1) w_COMPACT_STRINGS (.int (0 : Int32)) .null h4 n0 (Nat.le_trans Z0 K4.1) V_b2_30_3 (((S_COMPACT_STRINGS.ext E1).ext E2).wr W4) ((A1.ext E2).wr W4) ((F_coder_b1.ext E2).other W4 (Or.inl (Nat.ne_of_lt (Nat.lt_of_lt_of_le A1.lt (Nat.le_of_eq g2.symm))))) g_b1 ((F_value_b1.ext E2).other W4 (Or.inl (Nat.ne_of_lt (Nat.lt_of_lt_of_le A1.lt (Nat.le_of_eq g2.symm))))) (hc0 : ¬ ((255 : Int32) < (nar .char p1))) (hCS : ¬ (w_COMPACT_STRINGS = (0 : Int32)))) hZ (hw _ (List.mem_of_getElem? (i := 11) rfl)) (hw _ (List.mem_of_getElem? (i := 7) rfl)) (by decide) (by decide)) (g := (mkF m 31 #[.val (.int (1 : Int32)), .val (.int p1), .val (.int p2)] [(.ref b2), (.ref b1), (.ref b1)])) rfl (by rw [hml]; rfl) (Steps.refl _) (a := b1) (argsL := [(.ref b2)]) (rest := [(.ref b1)]) (lenOf pd4 rfl) rfl (by show 2 * 0 + _ ≤ _; exact Nat.le_of_eq rfl) (hb hby d1_31) (fun _ _ => ⟨rfl, e4, (by decide : 2 + 1 ≤ _), (by decide : 5 + 1 ≤ _)⟩)
  dsimp only [Pt.U, Pt.locs, Pt.cells, Pt.slots] at X5 l5 y5 z5 st5 hQ5
  subst l5 y5 z5
  obtain ⟨b1_3_2_5, k1_3_2_5, rfl, N5q, K5, s5_b1_3_2, f5_0, f5_1, f5_2, f5_3⟩ := hQ5
  have N5 := Fr.app N4 N5q
  have sz_b1_3_2_5 : h0.size ≤ b1_3_2_5 := Nat.le_trans K4.1 s5_b1_3_2
  have g_b1_3_2_5 : n0 ≤ b1_3_2_5 := Nat.le_trans Z0 sz_b1_3_2_5
  have KK5 : Keep h0 T5.heap [] := K4.trans K5 (allS (Or.inr sz_b1) all0)
  obtain ⟨fs, hr, hrun, hended, hW, hsame⟩ := X5.leave (v := some (.ref b1)) (fun h => by rw [Bd.returns] at h; cases h)
  refine ⟨_, _, pre0 _ ?_, hrun, hended, _, _, rfl, ?_, ⟨_, rfl⟩, hW, hsame.mono (by decide) (by decide)⟩
  · show Steps p.tables e below (s₁.setTop (mkF m 0 #[.val (.int (1 : Int32)), .val (.int p1), .val (.int p2)] [])) _
    refine XS.iloadN X0.here hx rfl (hb hby d1_0) rfl ?_
    refine XS.ifYes X0.here hx rfl (pc0 := 1) (pc' := 15) rfl (hb hby d1_1) rfl ((if0 _ _).trans (feq (by decide : ¬ ((1 : Int32) = (0 : Int32)))).2) (by decide) (by decide) ?_
    refine XS.iloadN X0.here hx rfl (hb hby d1_15) rfl ?_
    show Steps p.tables e below (s₁.setTop (mkF m 16 #[.val (.int (1 : Int32)), .val (.int p1), .val (.int p2)] [(.int (1 : Int32))])) _
    refine XS.iconst X0.here hx rfl (hb hby d1_16) ?_
    refine XS.icmpNo X0.here hx rfl (hb hby d1_17) rfl (teq (by decide : (1 : Int32) = (1 : Int32))).2 ?_
    show Steps p.tables e below (s₁.setTop (mkF m 20 #[.val (.int (1 : Int32)), .val (.int p1), .val (.int p2)] [])) _
    refine st1 _ ?_
    show Steps p.tables e below (T1.setTop (mkF m 23 #[.val (.int (1 : Int32)), .val (.int p1), .val (.int p2)] [(.ref b1)])) _
    refine XS.dup X1.here hx rfl (hb hby d1_23) rfl rfl ?_
    show Steps p.tables e below (T1.setTop (mkF m 24 #[.val (.int (1 : Int32)), .val (.int p1), .val (.int p2)] [(.ref b1), (.ref b1)])) _
    refine XS.iconst X1.here hx rfl (hb hby d1_24) ?_
    show Steps p.tables e below (T1.setTop (mkF m 25 #[.val (.int (1 : Int32)), .val (.int p1), .val (.int p2)] [(.int (1 : Int32)), (.ref b1), (.ref b1)])) _
    refine st2 _ ?_
    show Steps p.tables e below (T2.setTop (mkF m 27 #[.val (.int (1 : Int32)), .val (.int p1), .val (.int p2)] [(.ref b2), (.ref b1), (.ref b1)])) _
    refine XS.dup X2.here hx rfl (hb hby d1_27) rfl rfl ?_
    refine XS.iconst X2.here hx rfl (hb hby d1_28) ?_
    show Steps p.tables e below (T2.setTop (mkF m 29 #[.val (.int (1 : Int32)), .val (.int p1), .val (.int p2)] [(.int (0 : Int32)), (.ref b2), (.ref b2), (.ref b1), (.ref b1)])) _
    refine XS.iloadN X2.here hx rfl (hb hby d1_29) rfl ?_
    show Steps p.tables e below (T2.setTop (mkF m 30 #[.val (.int (1 : Int32)), .val (.int p1), .val (.int p2)] [(.int p1), (.int (0 : Int32)), (.ref b2), (.ref b2), (.ref b1), (.ref b1)])) _
    refine st4 _ ?_
    show Steps p.tables e below (T4.setTop (mkF m 31 #[.val (.int (1 : Int32)), .val (.int p1), .val (.int p2)] [(.ref b2), (.ref b1), (.ref b1)])) _
    refine st5.trans ?_
    show Steps p.tables e below (T5.setTop (mkF m 34 #[.val (.int (1 : Int32)), .val (.int p1), .val (.int p2)] [(.ref b1)])) _
    exact retOut X5 hx Bd.returns rfl (Or.inr (Or.inr (Or.inr (Or.inr ⟨rfl, rfl, rfl⟩)))) (hb hby d1_34) hr
  · show Q_str_1 Z p1 p2 w_COMPACT_STRINGS h0 n0 _ T5.heap _
    exact ⟨b1, b1_3_2_5, k1_3_2_5, rfl, N5, KK5, sz_b1, sz_b1_3_2_5, (((A1.ext E2).wr W4).keep K5), f5_1, f5_2, f5_3⟩
theorem d1_35 : decode method_3_code 35 = .ok (.new 55, 3) := by decide +kernel
theorem d1_38 : decode method_3_code 38 = .ok (.dup, 1) := by decide +kernel
theorem d1_39 : decode method_3_code 39 = .ok (.iconst 2, 1) := by decide +kernel
theorem d1_40 : decode method_3_code 40 = .ok (.newarray .char, 2) := by decide +kernel
theorem d1_42 : decode method_3_code 42 = .ok (.dup, 1) := by decide +kernel
theorem d1_43 : decode method_3_code 43 = .ok (.iconst 0, 1) := by decide +kernel
theorem d1_44 : decode method_3_code 44 = .ok (.iload_n 1, 1) := by decide +kernel
theorem d1_45 : decode method_3_code 45 = .ok (.castore, 1) := by decide +kernel
theorem d1_46 : decode method_3_code 46 = .ok (.dup, 1) := by decide +kernel
theorem d1_47 : decode method_3_code 47 = .ok (.iconst 1, 1) := by decide +kernel
theorem d1_48 : decode method_3_code 48 = .ok (.iload_n 2, 1) := by decide +kernel
theorem d1_49 : decode method_3_code 49 = .ok (.castore, 1) := by decide +kernel
theorem d1_50 : decode method_3_code 50 = .ok (.invokespecial 57, 3) := by decide +kernel
theorem d1_53 : decode method_3_code 53 = .ok (.areturn, 1) := by decide +kernel
theorem ef_str_2 (m : MethodId) (p1 : Int32) (p2 : Int32) : entryFrame m #[(.int (2 : Int32)), (.int p1), (.int p2)] 3 = (mkF m 0 #[.val (.int (2 : Int32)), .val (.int p1), .val (.int p2)] []) := by first | (simp [entryFrame, mkF, argsToLocals, Value.category]; done) | rfl
def Q_str_2 (Z : State) (p1 : Int32) (p2 : Int32) (w_COMPACT_STRINGS : Int32) (h0 : Heap) (n0 : Nat) (v : Option Value) (h : Heap) (L : List Loc) : Prop := ∃ (b1 : Addr) (b1_3_2_7 : Addr) (k1_3_2_7 : ClassId), v = some (.ref b1) ∧ Fr n0 L ∧ Keep h0 h [] ∧ h0.size ≤ b1 ∧ h0.size ≤ b1_3_2_7 ∧ Exa Z h b1 "java/lang/String" ∧ Fld Z h b1 "java/lang/String" "coder" "B" (.int (0 : Int32)) ∧ Fld Z h b1 "java/lang/String" "value" "[B" (.ref b1_3_2_7) ∧ Arv Z h b1_3_2_7 k1_3_2_7 .byte (2 : Int32) [(.int (nar .byte ((nar .char p1).toInt8.toInt32))), (.int (nar .byte ((nar .char p2).toInt8.toInt32)))] (.int (0 : Int32))
set_option maxRecDepth 65536 in
set_option maxHeartbeats 40000000 in
theorem rm_str_2 (l : Launch) (Z : State) (a0 : Array Value) (hw : ∀ d ∈ tables_1, d.before a0 Z = true) (ws : List Jvm.Cond) (p1 : Int32) (p2 : Int32) (w_COMPACT_STRINGS : Int32) (h0 : Heap) (n0 : Nat) (Z0 : n0 ≤ h0.size) (S_COMPACT_STRINGS : Sta Z h0 "java/lang/String" "COMPACT_STRINGS" "Z" (.int w_COMPACT_STRINGS)) (hCS : ¬ (w_COMPACT_STRINGS = (0 : Int32))) (hc0 : ¬ ((255 : Int32) < (nar .char p1))) (hc1 : ¬ ((255 : Int32) < (nar .char p2))) :
    MetFree l (⟨"com/example/cantrip/cantrip/TokenIsPinLaw", "str", "(ICC)Ljava/lang/String;"⟩ : MethodName) (head1 (Jvm.Cond.code (⟨"com/example/cantrip/cantrip/TokenIsPinLaw", "str", "(ICC)Ljava/lang/String;"⟩ : MethodName) method_3_code 3 (some (.object "java/lang/String")) :: ws) ({ frames := 4, cells := 3, slots := 8, locals := 66 } : Room)) (fun a U => a = #[(.int (2 : Int32)), (.int p1), (.int p2)] ∧ Z.Warmed39 U.vm ∧ U.heap = h0) (fun _ _ _ _ _ => True) (fun _ U o U' => ∃ v L, o = .returned v ∧ Q_str_2 Z p1 p2 w_COMPACT_STRINGS h0 n0 v U'.heap L ∧ FrameEnd U o U' L ({ frames := 4, cells := 3, slots := 8, locals := 66 } : Room).cells ({ frames := 4, cells := 3, slots := 8, locals := 66 } : Room).slots) := by
  refine MetFree.of_bodySF (plainFor_of_name pn2) hisR ?_
  intro p e s m args below meth c s₁ Bd hml0 hP hK
  obtain ⟨rfl, hZ, hh⟩ := hP
  have hx := Bd.exec
  have hby := Bd.bytes
  have hml : c.maxLocals = 3 := hml0
  have hown : s.vm.findClass "com/example/cantrip/cantrip/TokenIsPinLaw" = some m.cls := findClass_of_methodNamed Bd.named
  have hnm := (name_of_methodNamed Bd.named Bd.method).1
  have X0 : Stand p l e ({ frames := 4, cells := 3, slots := 8, locals := 66 } : Room) s m #[(.int (2 : Int32)), (.int p1), (.int p2)] below meth c s₁ [] 0 0 := Stand.of_body Bd
  have e0 : s₁.heap = h0 := by rw [← hh, Bd.state]; rfl
  have N0 := Fr.nil n0
  have pre0 : ∀ t, Steps p.tables e below (s₁.setTop (mkF m 0 #[.val (.int (2 : Int32)), .val (.int p1), .val (.int p2)] [])) t → Steps p.tables e below (s₁.setTop (entryFrame m #[(.int (2 : Int32)), (.int p1), (.int p2)] 3)) t := fun t k => castTop (ef_str_2 m p1 p2) k
  obtain ⟨T1, h1, X1, e1, E1, A1, D1, -, st1⟩ := newO X0 hx hZ hown (hw _ (List.mem_of_getElem? (i := 5) rfl)) (hw _ (List.mem_of_getElem? (i := 6) rfl)) (hw _ (List.mem_of_getElem? (i := 7) rfl)) e0 (g := (mkF m 35 #[.val (.int (2 : Int32)), .val (.int p1), .val (.int p2)] [])) rfl (hb hby d1_35) (by decide) (by decide)
  obtain ⟨b1, g1⟩ : ∃ z, z = h0.size := ⟨_, rfl⟩
  rw [← g1] at A1 D1 st1
  have sz_b1 : h0.size ≤ b1 := Nat.le_trans (Keep.refl h0 []).1 (Nat.le_of_eq g1.symm)
  have g_b1 : n0 ≤ b1 := Nat.le_trans Z0 sz_b1
  have K1 : Keep h0 h1 [] := (Keep.refl h0 []).ext E1
  have F_coder_b1 : Fld Z h1 b1 "java/lang/String" "coder" "B" (.int (0 : Int32)) := D1 (Or.inr (hw _ (List.mem_of_getElem? (i := 32) rfl))) (ty := .byte) (by decide)
  have F_value_b1 : Fld Z h1 b1 "java/lang/String" "value" "[B" .null := D1 (Or.inr (hw _ (List.mem_of_getElem? (i := 34) rfl))) (ty := (.array .byte)) (by decide)
  obtain ⟨T2, h2, k2, X2, e2, E2, A2, st2⟩ := newP X1 hx hZ (hw _ (List.mem_of_getElem? (i := 8) rfl)) e1 (g := (mkF m 40 #[.val (.int (2 : Int32)), .val (.int p1), .val (.int p2)] [(.int (2 : Int32)), (.ref b1), (.ref b1)])) rfl (hb hby d1_40) rfl (by decide) (cap := 2) (by decide) (by decide) (by decide) (by decide)
  obtain ⟨b2, g2⟩ : ∃ z, z = h1.size := ⟨_, rfl⟩
  rw [← g2] at A2 st2
  have sz_b2 : h0.size ≤ b2 := Nat.le_trans K1.1 (Nat.le_of_eq g2.symm)
  have g_b2 : n0 ≤ b2 := Nat.le_trans Z0 sz_b2
  have K2 : Keep h0 h2 [] := K1.ext E2
  have V_b2 : Arv Z h2 b2 k2 .char (2 : Int32) [(.int (0 : Int32)), (.int (0 : Int32))] (.int (0 : Int32)) := (Arv.new A2 (by decide)).pad (pad_rep [] (.int (0 : Int32)) 2)
  obtain ⟨cl_b2_45_3, Ar_b2_45_3, q_b2_45_3, S_b2_45_3, N_b2_45_3, H_b2_45_3, G_b2_45_3⟩ := id V_b2
  have hin_b2_45_3 : ¬ ((0 : Int32) < 0 ∨ cl_b2_45_3.slots.size ≤ ((0 : Int32) : Int32).toNatClampNeg) := inb_of S_b2_45_3 ⟨by decide, by decide⟩
  obtain ⟨T4, h4, X4, e4, W4, st4⟩ := stC X2 hx hZ e2 Ar_b2_45_3 (j := (0 : Int32)) hin_b2_45_3 (g := (mkF m 45 #[.val (.int (2 : Int32)), .val (.int p1), .val (.int p2)] [(.int p1), (.int (0 : Int32)), (.ref b2), (.ref b2), (.ref b1), (.ref b1)])) rfl rfl (hb hby d1_45)
  have V_b2_45_3 : Arv Z h4 b2 k2 .char (2 : Int32) [(.int (nar .char p1)), (.int (0 : Int32))] (.int (0 : Int32)) := Arv.set Ar_b2_45_3 q_b2_45_3 S_b2_45_3 N_b2_45_3 H_b2_45_3 G_b2_45_3 (fits_nar_char _) W4 0 rfl (Nat.le_of_ble_eq_true rfl)
  have K4 : Keep h0 h4 [] := K2.wr W4 (Or.inr sz_b2)
  have N4 := Fr.snoc X4 N0 g_b2
  obtain ⟨cl_b2_49_5, Ar_b2_49_5, q_b2_49_5, S_b2_49_5, N_b2_49_5, H_b2_49_5, G_b2_49_5⟩ := id V_b2_45_3
  have hin_b2_49_5 : ¬ ((1 : Int32) < 0 ∨ cl_b2_49_5.slots.size ≤ ((1 : Int32) : Int32).toNatClampNeg) := inb_of S_b2_49_5 ⟨by decide, by decide⟩
  obtain ⟨T6, h6, X6, e6, W6, st6⟩ := stC X4 hx hZ e4 Ar_b2_49_5 (j := (1 : Int32)) hin_b2_49_5 (g := (mkF m 49 #[.val (.int (2 : Int32)), .val (.int p1), .val (.int p2)] [(.int p2), (.int (1 : Int32)), (.ref b2), (.ref b2), (.ref b1), (.ref b1)])) rfl rfl (hb hby d1_49)
  have V_b2_49_5 : Arv Z h6 b2 k2 .char (2 : Int32) [(.int (nar .char p1)), (.int (nar .char p2))] (.int (0 : Int32)) := Arv.set Ar_b2_49_5 q_b2_49_5 S_b2_49_5 N_b2_49_5 H_b2_49_5 G_b2_49_5 (fits_nar_char _) W6 1 rfl (Nat.le_of_ble_eq_true rfl)
  have K6 : Keep h0 h6 [] := K4.wr W6 (Or.inr sz_b2)
  have N6 := Fr.snoc X6 N4 g_b2
  obtain ⟨_, _, ⟨T7, L7, k7, n7⟩, -, X7, ⟨Lc7, hQ7, l7, y7, z7⟩, st7⟩ := X6.specialBack hx (y := (⟨"java/lang/String", "<init>", "([C)V"⟩ : MethodName)) rfl hown (mvT hZ (hw _ (List.mem_of_getElem? (i := 9) rfl))) (mvT hZ (hw _ (List.mem_of_getElem? (i := 10) rfl))) (mvT hZ (hw _ (List.mem_of_getElem? (i := 11) rfl))) (by decide) (backOf (W := 1) (rm_ini1_2 l Z a0 hw [] b1 b2 k2 (nar .char p1) (nar .char p2) w_COMPACT_STRINGS (.int (0 : Int32)) .null h6 n0 (Nat.le_trans Z0 K6.1) V_b2_49_5 ((((S_COMPACT_STRINGS.ext E1).ext E2).wr W4).wr W6) (((A1.ext E2).wr W4).wr W6) (((F_coder_b1.ext E2).other W4 (Or.inl (Nat.ne_of_lt (Nat.lt_of_lt_of_le A1.lt (Nat.le_of_eq g2.symm))))).other W6 (Or.inl (Nat.ne_of_lt (Nat.lt_of_lt_of_le A1.lt (Nat.le_of_eq g2.symm))))) g_b1 (((F_value_b1.ext E2).other W4 (Or.inl (Nat.ne_of_lt (Nat.lt_of_lt_of_le A1.lt (Nat.le_of_eq g2.symm))))).other W6 (Or.inl (Nat.ne_of_lt (Nat.lt_of_lt_of_le A1.lt (Nat.le_of_eq g2.symm))))) (hc0 : ¬ ((255 : Int32) < (nar .char p1))) (hc1 : ¬ ((255 : Int32) < (nar .char p2))) (hCS : ¬ (w_COMPACT_STRINGS = (0 : Int32)))) hZ (hw _ (List.mem_of_getElem? (i := 11) rfl)) (hw _ (List.mem_of_getElem? (i := 7) rfl)) (by decide) (by decide)) (g := (mkF m 50 #[.val (.int (2 : Int32)), .val (.int p1), .val (.int p2)] [(.ref b2), (.ref b1), (.ref b1)])) rfl (by rw [hml]; rfl) (Steps.refl _) (a := b1) (argsL := [(.ref b2)]) (rest := [(.ref b1)]) (lenOf pd4 rfl) rfl (by show 2 * 0 + _ ≤ _; exact Nat.le_of_eq rfl) (hb hby d1_50) (fun _ _ => ⟨rfl, e6, (by decide : 2 + 1 ≤ _), (by decide : 6 + 2 ≤ _)⟩)
  dsimp only [Pt.U, Pt.locs, Pt.cells, Pt.slots] at X7 l7 y7 z7 st7 hQ7
  subst l7 y7 z7
  obtain ⟨b1_3_2_7, k1_3_2_7, rfl, N7q, K7, s7_b1_3_2, f7_0, f7_1, f7_2, f7_3⟩ := hQ7
  have N7 := Fr.app N6 N7q
  have sz_b1_3_2_7 : h0.size ≤ b1_3_2_7 := Nat.le_trans K6.1 s7_b1_3_2
  have g_b1_3_2_7 : n0 ≤ b1_3_2_7 := Nat.le_trans Z0 sz_b1_3_2_7
  have KK7 : Keep h0 T7.heap [] := K6.trans K7 (allS (Or.inr sz_b1) all0)
  obtain ⟨fs, hr, hrun, hended, hW, hsame⟩ := X7.leave (v := some (.ref b1)) (fun h => by rw [Bd.returns] at h; cases h)
  refine ⟨_, _, pre0 _ ?_, hrun, hended, _, _, rfl, ?_, ⟨_, rfl⟩, hW, hsame.mono (by decide) (by decide)⟩
  · show Steps p.tables e below (s₁.setTop (mkF m 0 #[.val (.int (2 : Int32)), .val (.int p1), .val (.int p2)] [])) _
    refine XS.iloadN X0.here hx rfl (hb hby d1_0) rfl ?_
    refine XS.ifYes X0.here hx rfl (pc0 := 1) (pc' := 15) rfl (hb hby d1_1) rfl ((if0 _ _).trans (feq (by decide : ¬ ((2 : Int32) = (0 : Int32)))).2) (by decide) (by decide) ?_
    refine XS.iloadN X0.here hx rfl (hb hby d1_15) rfl ?_
    show Steps p.tables e below (s₁.setTop (mkF m 16 #[.val (.int (2 : Int32)), .val (.int p1), .val (.int p2)] [(.int (2 : Int32))])) _
    refine XS.iconst X0.here hx rfl (hb hby d1_16) ?_
    refine XS.icmpYes X0.here hx rfl (pc0 := 17) (pc' := 35) rfl (hb hby d1_17) rfl (feq (by decide : ¬ ((2 : Int32) = (1 : Int32)))).2 (by decide) (by decide) ?_
    show Steps p.tables e below (s₁.setTop (mkF m 35 #[.val (.int (2 : Int32)), .val (.int p1), .val (.int p2)] [])) _
    refine st1 _ ?_
    show Steps p.tables e below (T1.setTop (mkF m 38 #[.val (.int (2 : Int32)), .val (.int p1), .val (.int p2)] [(.ref b1)])) _
    refine XS.dup X1.here hx rfl (hb hby d1_38) rfl rfl ?_
    show Steps p.tables e below (T1.setTop (mkF m 39 #[.val (.int (2 : Int32)), .val (.int p1), .val (.int p2)] [(.ref b1), (.ref b1)])) _
    refine XS.iconst X1.here hx rfl (hb hby d1_39) ?_
    show Steps p.tables e below (T1.setTop (mkF m 40 #[.val (.int (2 : Int32)), .val (.int p1), .val (.int p2)] [(.int (2 : Int32)), (.ref b1), (.ref b1)])) _
    refine st2 _ ?_
    show Steps p.tables e below (T2.setTop (mkF m 42 #[.val (.int (2 : Int32)), .val (.int p1), .val (.int p2)] [(.ref b2), (.ref b1), (.ref b1)])) _
    refine XS.dup X2.here hx rfl (hb hby d1_42) rfl rfl ?_
    refine XS.iconst X2.here hx rfl (hb hby d1_43) ?_
    show Steps p.tables e below (T2.setTop (mkF m 44 #[.val (.int (2 : Int32)), .val (.int p1), .val (.int p2)] [(.int (0 : Int32)), (.ref b2), (.ref b2), (.ref b1), (.ref b1)])) _
    refine XS.iloadN X2.here hx rfl (hb hby d1_44) rfl ?_
    show Steps p.tables e below (T2.setTop (mkF m 45 #[.val (.int (2 : Int32)), .val (.int p1), .val (.int p2)] [(.int p1), (.int (0 : Int32)), (.ref b2), (.ref b2), (.ref b1), (.ref b1)])) _
    refine st4 _ ?_
    show Steps p.tables e below (T4.setTop (mkF m 46 #[.val (.int (2 : Int32)), .val (.int p1), .val (.int p2)] [(.ref b2), (.ref b1), (.ref b1)])) _
    refine XS.dup X4.here hx rfl (hb hby d1_46) rfl rfl ?_
    refine XS.iconst X4.here hx rfl (hb hby d1_47) ?_
    show Steps p.tables e below (T4.setTop (mkF m 48 #[.val (.int (2 : Int32)), .val (.int p1), .val (.int p2)] [(.int (1 : Int32)), (.ref b2), (.ref b2), (.ref b1), (.ref b1)])) _
    refine XS.iloadN X4.here hx rfl (hb hby d1_48) rfl ?_
    show Steps p.tables e below (T4.setTop (mkF m 49 #[.val (.int (2 : Int32)), .val (.int p1), .val (.int p2)] [(.int p2), (.int (1 : Int32)), (.ref b2), (.ref b2), (.ref b1), (.ref b1)])) _
    refine st6 _ ?_
    show Steps p.tables e below (T6.setTop (mkF m 50 #[.val (.int (2 : Int32)), .val (.int p1), .val (.int p2)] [(.ref b2), (.ref b1), (.ref b1)])) _
    refine st7.trans ?_
    show Steps p.tables e below (T7.setTop (mkF m 53 #[.val (.int (2 : Int32)), .val (.int p1), .val (.int p2)] [(.ref b1)])) _
    exact retOut X7 hx Bd.returns rfl (Or.inr (Or.inr (Or.inr (Or.inr ⟨rfl, rfl, rfl⟩)))) (hb hby d1_53) hr
  · show Q_str_2 Z p1 p2 w_COMPACT_STRINGS h0 n0 _ T7.heap _
    exact ⟨b1, b1_3_2_7, k1_3_2_7, rfl, N7, KK7, sz_b1, sz_b1_3_2_7, ((((A1.ext E2).wr W4).wr W6).keep K7), f7_1, f7_2, f7_3⟩
theorem d10_0 : decode jdk_30_method_1_code 0 = .ok (.aload_n 0, 1) := by decide +kernel
theorem d10_1 : decode jdk_30_method_1_code 1 = .ok (.invokespecial 1, 3) := by decide +kernel
theorem d10_4 : decode jdk_30_method_1_code 4 = .ok (.return_, 1) := by decide +kernel
theorem pn3 : plainName "java/lang/Record" = true := by first | (simp [plainName, overriddenIn]; done) | decide +kernel
theorem ef10 (m : MethodId) (a1 : Addr) : entryFrame m #[(.ref a1)] 1 = (mkF m 0 #[.val (.ref a1)] []) := by first | (simp [entryFrame, mkF, argsToLocals, Value.category]; done) | rfl
def Q10 (Z : State) (a1 : Addr) (h0 : Heap) (n0 : Nat) (v : Option Value) (h : Heap) (L : List Loc) : Prop := v = none ∧ L = [] ∧ h = h0
set_option maxRecDepth 65536 in
set_option maxHeartbeats 40000000 in
theorem rm10 (l : Launch) (Z : State) (a0 : Array Value) (hw : ∀ d ∈ tables_1, d.before a0 Z = true) (ws : List Jvm.Cond) (a1 : Addr) (h0 : Heap) (n0 : Nat) (Z0 : n0 ≤ h0.size) :
    MetFree l (⟨"java/lang/Record", "<init>", "()V"⟩ : MethodName) (head1 (Jvm.Cond.code (⟨"java/lang/Record", "<init>", "()V"⟩ : MethodName) jdk_30_method_1_code 1 none :: ws) ({ frames := 1, cells := 0, slots := 0, locals := 12 } : Room)) (fun a U => a = #[(.ref a1)] ∧ Z.Warmed39 U.vm ∧ U.heap = h0) (fun _ _ _ _ _ => True) (fun _ U o U' => ∃ v L, o = .returned v ∧ Q10 Z a1 h0 n0 v U'.heap L ∧ FrameEnd U o U' L ({ frames := 1, cells := 0, slots := 0, locals := 12 } : Room).cells ({ frames := 1, cells := 0, slots := 0, locals := 12 } : Room).slots) := by
  refine MetFree.of_bodySF (plainFor_of_name pn3) hisR ?_
  intro p e s m args below meth c s₁ Bd hml0 hP hK
  obtain ⟨rfl, hZ, hh⟩ := hP
  have hx := Bd.exec
  have hby := Bd.bytes
  have hml : c.maxLocals = 1 := hml0
  have hown : s.vm.findClass "java/lang/Record" = some m.cls := findClass_of_methodNamed Bd.named
  have hnm := (name_of_methodNamed Bd.named Bd.method).1
  have X0 : Stand p l e ({ frames := 1, cells := 0, slots := 0, locals := 12 } : Room) s m #[(.ref a1)] below meth c s₁ [] 0 0 := Stand.of_body Bd
  have e0 : s₁.heap = h0 := by rw [← hh, Bd.state]; rfl
  have N0 := Fr.nil n0
  have pre0 : ∀ t, Steps p.tables e below (s₁.setTop (mkF m 0 #[.val (.ref a1)] [])) t → Steps p.tables e below (s₁.setTop (entryFrame m #[(.ref a1)] 1)) t := fun t k => castTop (ef10 m a1) k
  obtain ⟨T1, X1, e1, st1⟩ := initO X0 hx hZ hown (hw _ (List.mem_of_getElem? (i := 55) rfl)) (hw _ (List.mem_of_getElem? (i := 17) rfl)) (hw _ (List.mem_of_getElem? (i := 18) rfl)) e0 (g := (mkF m 1 #[.val (.ref a1)] [(.ref a1)])) rfl (by rw [hml]; rfl) rfl (hb hby d10_1) (by decide) (W := 0) (by show 2 * 0 + _ ≤ _; exact Nat.le_of_eq rfl) (by decide)
  obtain ⟨fs, hr, hrun, hended, hW, hsame⟩ := X1.leave (v := none) (fun _ => rfl)
  refine ⟨_, _, pre0 _ ?_, hrun, hended, _, _, rfl, ?_, ⟨_, rfl⟩, hW, hsame.mono (by decide) (by decide)⟩
  · show Steps p.tables e below (s₁.setTop (mkF m 0 #[.val (.ref a1)] [])) _
    refine XS.aloadN X0.here hx rfl (hb hby d10_0) rfl rfl ?_
    show Steps p.tables e below (s₁.setTop (mkF m 1 #[.val (.ref a1)] [(.ref a1)])) _
    refine st1 _ ?_
    show Steps p.tables e below (T1.setTop (mkF m 4 #[.val (.ref a1)] [])) _
    exact X1.returnOut hx Bd.returns (hb hby d10_4) hr
  · show Q10 Z a1 h0 n0 _ T1.heap _
    rw [e1]
    exact ⟨rfl, rfl, rfl⟩
theorem d9_0 : decode prog_3_method_1_code 0 = .ok (.aload_n 0, 1) := by decide +kernel
theorem d9_1 : decode prog_3_method_1_code 1 = .ok (.invokespecial 1, 3) := by decide +kernel
theorem d9_4 : decode prog_3_method_1_code 4 = .ok (.aload_n 0, 1) := by decide +kernel
theorem d9_5 : decode prog_3_method_1_code 5 = .ok (.aload_n 1, 1) := by decide +kernel
theorem d9_6 : decode prog_3_method_1_code 6 = .ok (.putfield 7, 3) := by decide +kernel
theorem d9_9 : decode prog_3_method_1_code 9 = .ok (.aload_n 0, 1) := by decide +kernel
theorem d9_10 : decode prog_3_method_1_code 10 = .ok (.aload_n 2, 1) := by decide +kernel
theorem d9_11 : decode prog_3_method_1_code 11 = .ok (.putfield 13, 3) := by decide +kernel
theorem d9_14 : decode prog_3_method_1_code 14 = .ok (.aload_n 0, 1) := by decide +kernel
theorem d9_15 : decode prog_3_method_1_code 15 = .ok (.iload_n 3, 1) := by decide +kernel
theorem d9_16 : decode prog_3_method_1_code 16 = .ok (.putfield 17, 3) := by decide +kernel
theorem d9_19 : decode prog_3_method_1_code 19 = .ok (.return_, 1) := by decide +kernel
theorem pd5 : parseMethodDescriptor "()V" = some ⟨[], none⟩ := by decide +kernel
theorem pn4 : plainName "com/example/cantrip/cantrip/Token" = true := by first | (simp [plainName, overriddenIn]; done) | decide +kernel
theorem ef9 (m : MethodId) (a1 : Addr) (a2 : Addr) (a3 : Addr) (p4 : Int32) : entryFrame m #[(.ref a1), (.ref a2), (.ref a3), (.int p4)] 4 = (mkF m 0 #[.val (.ref a1), .val (.ref a2), .val (.ref a3), .val (.int p4)] []) := by first | (simp [entryFrame, mkF, argsToLocals, Value.category]; done) | rfl
def Q9 (Z : State) (a1 : Addr) (a2 : Addr) (a3 : Addr) (p4 : Int32) (u_kind_a1 : Value) (u_text_a1 : Value) (u_offset_a1 : Value) (h0 : Heap) (n0 : Nat) (v : Option Value) (h : Heap) (L : List Loc) : Prop := v = none ∧ Fr n0 L ∧ Keep h0 h [a1] ∧ Exa Z h a1 "com/example/cantrip/cantrip/Token" ∧ Fld Z h a1 "com/example/cantrip/cantrip/Token" "kind" "Lcom/example/cantrip/cantrip/Token$Kind;" (.ref a2) ∧ Fld Z h a1 "com/example/cantrip/cantrip/Token" "text" "Ljava/lang/String;" (.ref a3) ∧ Fld Z h a1 "com/example/cantrip/cantrip/Token" "offset" "I" (.int p4)
set_option maxRecDepth 65536 in
set_option maxHeartbeats 40000000 in
theorem rm9 (l : Launch) (Z : State) (a0 : Array Value) (hw : ∀ d ∈ tables_1, d.before a0 Z = true) (ws : List Jvm.Cond) (a1 : Addr) (a2 : Addr) (a3 : Addr) (p4 : Int32) (u_kind_a1 : Value) (u_text_a1 : Value) (u_offset_a1 : Value) (h0 : Heap) (n0 : Nat) (Z0 : n0 ≤ h0.size) (E_a1 : Exa Z h0 a1 "com/example/cantrip/cantrip/Token") (F_kind_a1 : Fld Z h0 a1 "com/example/cantrip/cantrip/Token" "kind" "Lcom/example/cantrip/cantrip/Token$Kind;" u_kind_a1) (g_a1 : n0 ≤ a1) (F_text_a1 : Fld Z h0 a1 "com/example/cantrip/cantrip/Token" "text" "Ljava/lang/String;" u_text_a1) (F_offset_a1 : Fld Z h0 a1 "com/example/cantrip/cantrip/Token" "offset" "I" u_offset_a1) :
    MetFree l (⟨"com/example/cantrip/cantrip/Token", "<init>", "(Lcom/example/cantrip/cantrip/Token$Kind;Ljava/lang/String;I)V"⟩ : MethodName) (head1 (Jvm.Cond.code (⟨"com/example/cantrip/cantrip/Token", "<init>", "(Lcom/example/cantrip/cantrip/Token$Kind;Ljava/lang/String;I)V"⟩ : MethodName) prog_3_method_1_code 4 none :: ws) ({ frames := 2, cells := 0, slots := 0, locals := 24 } : Room)) (fun a U => a = #[(.ref a1), (.ref a2), (.ref a3), (.int p4)] ∧ Z.Warmed39 U.vm ∧ U.heap = h0) (fun _ _ _ _ _ => True) (fun _ U o U' => ∃ v L, o = .returned v ∧ Q9 Z a1 a2 a3 p4 u_kind_a1 u_text_a1 u_offset_a1 h0 n0 v U'.heap L ∧ FrameEnd U o U' L ({ frames := 2, cells := 0, slots := 0, locals := 24 } : Room).cells ({ frames := 2, cells := 0, slots := 0, locals := 24 } : Room).slots) := by
  refine MetFree.of_bodySF (plainFor_of_name pn4) hisR ?_
  intro p e s m args below meth c s₁ Bd hml0 hP hK
  obtain ⟨rfl, hZ, hh⟩ := hP
  have hx := Bd.exec
  have hby := Bd.bytes
  have hml : c.maxLocals = 4 := hml0
  have hown : s.vm.findClass "com/example/cantrip/cantrip/Token" = some m.cls := findClass_of_methodNamed Bd.named
  have hnm := (name_of_methodNamed Bd.named Bd.method).1
  have X0 : Stand p l e ({ frames := 2, cells := 0, slots := 0, locals := 24 } : Room) s m #[(.ref a1), (.ref a2), (.ref a3), (.int p4)] below meth c s₁ [] 0 0 := Stand.of_body Bd
  have e0 : s₁.heap = h0 := by rw [← hh, Bd.state]; rfl
  have N0 := Fr.nil n0
  have pre0 : ∀ t, Steps p.tables e below (s₁.setTop (mkF m 0 #[.val (.ref a1), .val (.ref a2), .val (.ref a3), .val (.int p4)] [])) t → Steps p.tables e below (s₁.setTop (entryFrame m #[(.ref a1), (.ref a2), (.ref a3), (.int p4)] 4)) t := fun t k => castTop (ef9 m a1 a2 a3 p4) k
  obtain ⟨_, _, ⟨T1, L1, k1, n1⟩, -, X1, ⟨Lc1, hQ1, l1, y1, z1⟩, st1⟩ := X0.specialBack hx (y := (⟨"java/lang/Record", "<init>", "()V"⟩ : MethodName)) rfl hown (mvT hZ (hw _ (List.mem_of_getElem? (i := 50) rfl))) (mvT hZ (hw _ (List.mem_of_getElem? (i := 51) rfl))) (mvT hZ (hw _ (List.mem_of_getElem? (i := 54) rfl))) (by decide) (backOf (W := 0) (rm10 l Z a0 hw [] a1  h0 n0 (Nat.le_trans Z0 (Keep.refl h0 [a1]).1)  ) hZ (hw _ (List.mem_of_getElem? (i := 54) rfl)) (hw _ (List.mem_of_getElem? (i := 53) rfl)) (by decide) (by decide)) (g := (mkF m 1 #[.val (.ref a1), .val (.ref a2), .val (.ref a3), .val (.int p4)] [(.ref a1)])) rfl (by rw [hml]; rfl) (Steps.refl _) (a := a1) (argsL := []) (rest := []) (lenOf pd5 rfl) rfl (by show 2 * 0 + _ ≤ _; exact Nat.le_of_eq rfl) (hb hby d9_1) (fun _ _ => ⟨rfl, e0, (by decide : 0 + 0 ≤ _), (by decide : 0 + 0 ≤ _)⟩)
  dsimp only [Pt.U, Pt.locs, Pt.cells, Pt.slots] at X1 l1 y1 z1 st1 hQ1
  subst l1 y1 z1
  obtain ⟨rfl, rfl, e1⟩ := hQ1
  have N1 := Fr.app N0 (Fr.nil n0)
  obtain ⟨T2, h2, X2, e2, W2, st2⟩ := putF X1 hx hZ hown (host := "") (Or.inl (hw _ (List.mem_of_getElem? (i := 56) rfl))) Via.refl e1 F_kind_a1 E_a1 (Or.inr ⟨(hw _ (List.mem_of_getElem? (i := 57) rfl)), rfl, hnm⟩) (hw _ (List.mem_of_getElem? (i := 39) rfl)) (ty := (.object "com/example/cantrip/cantrip/Token$Kind")) (by decide) rfl rfl (g := (mkF m 6 #[.val (.ref a1), .val (.ref a2), .val (.ref a3), .val (.int p4)] [(.ref a2), (.ref a1)])) rfl rfl (hb hby d9_6)
  have Fw2 := F_kind_a1.same W2
  have K2 : Keep h0 h2 [a1] := (Keep.refl h0 [a1]).wr W2 (Or.inl (List.mem_of_getElem? (i := 0) rfl))
  have N2 := Fr.snoc X2 N1 g_a1
  obtain ⟨T3, h3, X3, e3, W3, st3⟩ := putF X2 hx hZ hown (host := "") (Or.inl (hw _ (List.mem_of_getElem? (i := 58) rfl))) Via.refl e2 (F_text_a1.other W2 (Or.inr (slot_ne (Or.inr (hw _ (List.mem_of_getElem? (i := 59) rfl))) (Or.inr (hw _ (List.mem_of_getElem? (i := 57) rfl))) (by decide) (t := (.object "java/lang/String")) (t' := (.object "com/example/cantrip/cantrip/Token$Kind")) (by decide) (by decide)))) (E_a1.wr W2) (Or.inr ⟨(hw _ (List.mem_of_getElem? (i := 59) rfl)), rfl, hnm⟩) (hw _ (List.mem_of_getElem? (i := 39) rfl)) (ty := (.object "java/lang/String")) (by decide) rfl rfl (g := (mkF m 11 #[.val (.ref a1), .val (.ref a2), .val (.ref a3), .val (.int p4)] [(.ref a3), (.ref a1)])) rfl rfl (hb hby d9_11)
  have Fw3 := (F_text_a1.other W2 (Or.inr (slot_ne (Or.inr (hw _ (List.mem_of_getElem? (i := 59) rfl))) (Or.inr (hw _ (List.mem_of_getElem? (i := 57) rfl))) (by decide) (t := (.object "java/lang/String")) (t' := (.object "com/example/cantrip/cantrip/Token$Kind")) (by decide) (by decide)))).same W3
  have K3 : Keep h0 h3 [a1] := K2.wr W3 (Or.inl (List.mem_of_getElem? (i := 0) rfl))
  have N3 := Fr.snoc X3 N2 g_a1
  obtain ⟨T4, h4, X4, e4, W4, st4⟩ := putF X3 hx hZ hown (host := "") (Or.inl (hw _ (List.mem_of_getElem? (i := 60) rfl))) Via.refl e3 ((F_offset_a1.other W2 (Or.inr (slot_ne (Or.inr (hw _ (List.mem_of_getElem? (i := 61) rfl))) (Or.inr (hw _ (List.mem_of_getElem? (i := 57) rfl))) (by decide) (t := .int) (t' := (.object "com/example/cantrip/cantrip/Token$Kind")) (by decide) (by decide)))).other W3 (Or.inr (slot_ne (Or.inr (hw _ (List.mem_of_getElem? (i := 61) rfl))) (Or.inr (hw _ (List.mem_of_getElem? (i := 59) rfl))) (by decide) (t := .int) (t' := (.object "java/lang/String")) (by decide) (by decide)))) ((E_a1.wr W2).wr W3) (Or.inr ⟨(hw _ (List.mem_of_getElem? (i := 61) rfl)), rfl, hnm⟩) (hw _ (List.mem_of_getElem? (i := 39) rfl)) (ty := .int) (by decide) rfl rfl (g := (mkF m 16 #[.val (.ref a1), .val (.ref a2), .val (.ref a3), .val (.int p4)] [(.int p4), (.ref a1)])) rfl rfl (hb hby d9_16)
  have Fw4 := ((F_offset_a1.other W2 (Or.inr (slot_ne (Or.inr (hw _ (List.mem_of_getElem? (i := 61) rfl))) (Or.inr (hw _ (List.mem_of_getElem? (i := 57) rfl))) (by decide) (t := .int) (t' := (.object "com/example/cantrip/cantrip/Token$Kind")) (by decide) (by decide)))).other W3 (Or.inr (slot_ne (Or.inr (hw _ (List.mem_of_getElem? (i := 61) rfl))) (Or.inr (hw _ (List.mem_of_getElem? (i := 59) rfl))) (by decide) (t := .int) (t' := (.object "java/lang/String")) (by decide) (by decide)))).same W4
  have K4 : Keep h0 h4 [a1] := K3.wr W4 (Or.inl (List.mem_of_getElem? (i := 0) rfl))
  have N4 := Fr.snoc X4 N3 g_a1
  obtain ⟨fs, hr, hrun, hended, hW, hsame⟩ := X4.leave (v := none) (fun _ => rfl)
  refine ⟨_, _, pre0 _ ?_, hrun, hended, _, _, rfl, ?_, ⟨_, rfl⟩, hW, hsame.mono (by decide) (by decide)⟩
  · show Steps p.tables e below (s₁.setTop (mkF m 0 #[.val (.ref a1), .val (.ref a2), .val (.ref a3), .val (.int p4)] [])) _
    refine XS.aloadN X0.here hx rfl (hb hby d9_0) rfl rfl ?_
    show Steps p.tables e below (s₁.setTop (mkF m 1 #[.val (.ref a1), .val (.ref a2), .val (.ref a3), .val (.int p4)] [(.ref a1)])) _
    refine st1.trans ?_
    show Steps p.tables e below (T1.setTop (mkF m 4 #[.val (.ref a1), .val (.ref a2), .val (.ref a3), .val (.int p4)] [])) _
    refine XS.aloadN X1.here hx rfl (hb hby d9_4) rfl rfl ?_
    refine XS.aloadN X1.here hx rfl (hb hby d9_5) rfl rfl ?_
    show Steps p.tables e below (T1.setTop (mkF m 6 #[.val (.ref a1), .val (.ref a2), .val (.ref a3), .val (.int p4)] [(.ref a2), (.ref a1)])) _
    refine st2 _ ?_
    show Steps p.tables e below (T2.setTop (mkF m 9 #[.val (.ref a1), .val (.ref a2), .val (.ref a3), .val (.int p4)] [])) _
    refine XS.aloadN X2.here hx rfl (hb hby d9_9) rfl rfl ?_
    refine XS.aloadN X2.here hx rfl (hb hby d9_10) rfl rfl ?_
    show Steps p.tables e below (T2.setTop (mkF m 11 #[.val (.ref a1), .val (.ref a2), .val (.ref a3), .val (.int p4)] [(.ref a3), (.ref a1)])) _
    refine st3 _ ?_
    show Steps p.tables e below (T3.setTop (mkF m 14 #[.val (.ref a1), .val (.ref a2), .val (.ref a3), .val (.int p4)] [])) _
    refine XS.aloadN X3.here hx rfl (hb hby d9_14) rfl rfl ?_
    show Steps p.tables e below (T3.setTop (mkF m 15 #[.val (.ref a1), .val (.ref a2), .val (.ref a3), .val (.int p4)] [(.ref a1)])) _
    refine XS.iloadN X3.here hx rfl (hb hby d9_15) rfl ?_
    show Steps p.tables e below (T3.setTop (mkF m 16 #[.val (.ref a1), .val (.ref a2), .val (.ref a3), .val (.int p4)] [(.int p4), (.ref a1)])) _
    refine st4 _ ?_
    show Steps p.tables e below (T4.setTop (mkF m 19 #[.val (.ref a1), .val (.ref a2), .val (.ref a3), .val (.int p4)] [])) _
    exact X4.returnOut hx Bd.returns (hb hby d9_19) hr
  · show Q9 Z a1 a2 a3 p4 u_kind_a1 u_text_a1 u_offset_a1 h0 n0 _ T4.heap _
    rw [e4]
    exact ⟨rfl, N4, K4, (((E_a1.wr W2).wr W3).wr W4), ((Fw2.other W3 (Or.inr (slot_ne (Or.inr (hw _ (List.mem_of_getElem? (i := 57) rfl))) (Or.inr (hw _ (List.mem_of_getElem? (i := 59) rfl))) (by decide) (t := (.object "com/example/cantrip/cantrip/Token$Kind")) (t' := (.object "java/lang/String")) (by decide) (by decide)))).other W4 (Or.inr (slot_ne (Or.inr (hw _ (List.mem_of_getElem? (i := 57) rfl))) (Or.inr (hw _ (List.mem_of_getElem? (i := 61) rfl))) (by decide) (t := (.object "com/example/cantrip/cantrip/Token$Kind")) (t' := .int) (by decide) (by decide)))), (Fw3.other W4 (Or.inr (slot_ne (Or.inr (hw _ (List.mem_of_getElem? (i := 59) rfl))) (Or.inr (hw _ (List.mem_of_getElem? (i := 61) rfl))) (by decide) (t := (.object "java/lang/String")) (t' := .int) (by decide) (by decide)))), Fw4⟩
theorem d8_0 : decode method_2_code 0 = .ok (.iload_n 0, 1) := by decide +kernel
theorem d8_1 : decode method_2_code 1 = .ok (.ifCond .ne 7, 3) := by decide +kernel
theorem d8_4 : decode method_2_code 4 = .ok (.getstatic 7, 3) := by decide +kernel
theorem d8_7 : decode method_2_code 7 = .ok (.areturn, 1) := by decide +kernel
theorem d8_8 : decode method_2_code 8 = .ok (.iload_n 0, 1) := by decide +kernel
theorem d8_9 : decode method_2_code 9 = .ok (.iconst 1, 1) := by decide +kernel
theorem d8_10 : decode method_2_code 10 = .ok (.if_icmp .ne 7, 3) := by decide +kernel
theorem d8_13 : decode method_2_code 13 = .ok (.getstatic 13, 3) := by decide +kernel
theorem d8_16 : decode method_2_code 16 = .ok (.areturn, 1) := by decide +kernel
theorem d8_17 : decode method_2_code 17 = .ok (.iload_n 0, 1) := by decide +kernel
theorem d8_18 : decode method_2_code 18 = .ok (.iconst 2, 1) := by decide +kernel
theorem d8_19 : decode method_2_code 19 = .ok (.if_icmp .ne 7, 3) := by decide +kernel
theorem d8_22 : decode method_2_code 22 = .ok (.getstatic 16, 3) := by decide +kernel
theorem d8_25 : decode method_2_code 25 = .ok (.areturn, 1) := by decide +kernel
theorem d8_26 : decode method_2_code 26 = .ok (.iload_n 0, 1) := by decide +kernel
theorem d8_27 : decode method_2_code 27 = .ok (.iconst 3, 1) := by decide +kernel
theorem d8_28 : decode method_2_code 28 = .ok (.if_icmp .ne 7, 3) := by decide +kernel
theorem d8_31 : decode method_2_code 31 = .ok (.getstatic 19, 3) := by decide +kernel
theorem d8_34 : decode method_2_code 34 = .ok (.areturn, 1) := by decide +kernel
theorem d8_35 : decode method_2_code 35 = .ok (.iload_n 0, 1) := by decide +kernel
theorem d8_36 : decode method_2_code 36 = .ok (.iconst 4, 1) := by decide +kernel
theorem d8_37 : decode method_2_code 37 = .ok (.if_icmp .ne 7, 3) := by decide +kernel
theorem d8_40 : decode method_2_code 40 = .ok (.getstatic 22, 3) := by decide +kernel
theorem d8_43 : decode method_2_code 43 = .ok (.areturn, 1) := by decide +kernel
theorem d8_44 : decode method_2_code 44 = .ok (.iload_n 0, 1) := by decide +kernel
theorem d8_45 : decode method_2_code 45 = .ok (.iconst 5, 1) := by decide +kernel
theorem d8_46 : decode method_2_code 46 = .ok (.if_icmp .ne 7, 3) := by decide +kernel
theorem d8_49 : decode method_2_code 49 = .ok (.getstatic 25, 3) := by decide +kernel
theorem d8_52 : decode method_2_code 52 = .ok (.areturn, 1) := by decide +kernel
theorem d8_53 : decode method_2_code 53 = .ok (.iload_n 0, 1) := by decide +kernel
theorem d8_54 : decode method_2_code 54 = .ok (.bipush 6, 2) := by decide +kernel
theorem d8_56 : decode method_2_code 56 = .ok (.if_icmp .ne 7, 3) := by decide +kernel
theorem d8_59 : decode method_2_code 59 = .ok (.getstatic 28, 3) := by decide +kernel
theorem d8_62 : decode method_2_code 62 = .ok (.areturn, 1) := by decide +kernel
theorem d8_63 : decode method_2_code 63 = .ok (.iload_n 0, 1) := by decide +kernel
theorem d8_64 : decode method_2_code 64 = .ok (.bipush 7, 2) := by decide +kernel
theorem d8_66 : decode method_2_code 66 = .ok (.if_icmp .ne 7, 3) := by decide +kernel
theorem d8_69 : decode method_2_code 69 = .ok (.getstatic 31, 3) := by decide +kernel
theorem d8_72 : decode method_2_code 72 = .ok (.areturn, 1) := by decide +kernel
theorem d8_73 : decode method_2_code 73 = .ok (.iload_n 0, 1) := by decide +kernel
theorem d8_74 : decode method_2_code 74 = .ok (.bipush 8, 2) := by decide +kernel
theorem d8_76 : decode method_2_code 76 = .ok (.if_icmp .ne 7, 3) := by decide +kernel
theorem d8_79 : decode method_2_code 79 = .ok (.getstatic 34, 3) := by decide +kernel
theorem d8_82 : decode method_2_code 82 = .ok (.areturn, 1) := by decide +kernel
theorem d8_83 : decode method_2_code 83 = .ok (.iload_n 0, 1) := by decide +kernel
theorem d8_84 : decode method_2_code 84 = .ok (.bipush 9, 2) := by decide +kernel
theorem d8_86 : decode method_2_code 86 = .ok (.if_icmp .ne 7, 3) := by decide +kernel
theorem d8_89 : decode method_2_code 89 = .ok (.getstatic 37, 3) := by decide +kernel
theorem d8_92 : decode method_2_code 92 = .ok (.areturn, 1) := by decide +kernel
theorem d8_93 : decode method_2_code 93 = .ok (.iload_n 0, 1) := by decide +kernel
theorem d8_94 : decode method_2_code 94 = .ok (.bipush 10, 2) := by decide +kernel
theorem d8_96 : decode method_2_code 96 = .ok (.if_icmp .ne 7, 3) := by decide +kernel
theorem d8_99 : decode method_2_code 99 = .ok (.getstatic 40, 3) := by decide +kernel
theorem d8_102 : decode method_2_code 102 = .ok (.areturn, 1) := by decide +kernel
theorem d8_103 : decode method_2_code 103 = .ok (.iload_n 0, 1) := by decide +kernel
theorem d8_104 : decode method_2_code 104 = .ok (.bipush 11, 2) := by decide +kernel
theorem d8_106 : decode method_2_code 106 = .ok (.if_icmp .ne 7, 3) := by decide +kernel
theorem d8_109 : decode method_2_code 109 = .ok (.getstatic 43, 3) := by decide +kernel
theorem d8_112 : decode method_2_code 112 = .ok (.areturn, 1) := by decide +kernel
theorem d8_113 : decode method_2_code 113 = .ok (.iload_n 0, 1) := by decide +kernel
theorem d8_114 : decode method_2_code 114 = .ok (.bipush 12, 2) := by decide +kernel
theorem d8_116 : decode method_2_code 116 = .ok (.if_icmp .ne 7, 3) := by decide +kernel
theorem d8_119 : decode method_2_code 119 = .ok (.getstatic 46, 3) := by decide +kernel
theorem d8_122 : decode method_2_code 122 = .ok (.areturn, 1) := by decide +kernel
theorem d8_123 : decode method_2_code 123 = .ok (.iload_n 0, 1) := by decide +kernel
theorem d8_124 : decode method_2_code 124 = .ok (.bipush 13, 2) := by decide +kernel
theorem d8_126 : decode method_2_code 126 = .ok (.if_icmp .ne 7, 3) := by decide +kernel
theorem d8_129 : decode method_2_code 129 = .ok (.getstatic 49, 3) := by decide +kernel
theorem d8_132 : decode method_2_code 132 = .ok (.areturn, 1) := by decide +kernel
theorem d8_133 : decode method_2_code 133 = .ok (.getstatic 52, 3) := by decide +kernel
theorem d8_136 : decode method_2_code 136 = .ok (.areturn, 1) := by decide +kernel
def res8 (p1 : Int32) (w_IRI : Addr) (w_PNAME_NS : Addr) (w_PNAME_LN : Addr) (w_BLANK_NODE_LABEL : Addr) (w_VAR : Addr) (w_STRING : Addr) (w_LANGTAG : Addr) (w_INTEGER : Addr) (w_DECIMAL : Addr) (w_DOUBLE : Addr) (w_NIL : Addr) (w_ANON : Addr) (w_WORD : Addr) (w_PUNCT : Addr) (w_EOF : Addr) : Addr := if p1 = (0 : Int32) then w_IRI else if p1 = (1 : Int32) then w_PNAME_NS else if p1 = (2 : Int32) then w_PNAME_LN else if p1 = (3 : Int32) then w_BLANK_NODE_LABEL else if p1 = (4 : Int32) then w_VAR else if p1 = (5 : Int32) then w_STRING else if p1 = (6 : Int32) then w_LANGTAG else if p1 = (7 : Int32) then w_INTEGER else if p1 = (8 : Int32) then w_DECIMAL else if p1 = (9 : Int32) then w_DOUBLE else if p1 = (10 : Int32) then w_NIL else if p1 = (11 : Int32) then w_ANON else if p1 = (12 : Int32) then w_WORD else if p1 = (13 : Int32) then w_PUNCT else w_EOF
theorem ef8 (m : MethodId) (p1 : Int32) : entryFrame m #[(.int p1)] 1 = (mkF m 0 #[.val (.int p1)] []) := by first | (simp [entryFrame, mkF, argsToLocals, Value.category]; done) | rfl
def Q8 (Z : State) (p1 : Int32) (w_IRI : Addr) (w_PNAME_NS : Addr) (w_PNAME_LN : Addr) (w_BLANK_NODE_LABEL : Addr) (w_VAR : Addr) (w_STRING : Addr) (w_LANGTAG : Addr) (w_INTEGER : Addr) (w_DECIMAL : Addr) (w_DOUBLE : Addr) (w_NIL : Addr) (w_ANON : Addr) (w_WORD : Addr) (w_PUNCT : Addr) (w_EOF : Addr) (h0 : Heap) (n0 : Nat) (v : Option Value) (h : Heap) (L : List Loc) : Prop := v = some (.ref (res8 p1 w_IRI w_PNAME_NS w_PNAME_LN w_BLANK_NODE_LABEL w_VAR w_STRING w_LANGTAG w_INTEGER w_DECIMAL w_DOUBLE w_NIL w_ANON w_WORD w_PUNCT w_EOF)) ∧ L = [] ∧ h = h0
set_option maxRecDepth 65536 in
set_option maxHeartbeats 40000000 in
theorem rm8 (l : Launch) (Z : State) (a0 : Array Value) (hw : ∀ d ∈ tables_1, d.before a0 Z = true) (ws : List Jvm.Cond) (p1 : Int32) (w_IRI : Addr) (w_PNAME_NS : Addr) (w_PNAME_LN : Addr) (w_BLANK_NODE_LABEL : Addr) (w_VAR : Addr) (w_STRING : Addr) (w_LANGTAG : Addr) (w_INTEGER : Addr) (w_DECIMAL : Addr) (w_DOUBLE : Addr) (w_NIL : Addr) (w_ANON : Addr) (w_WORD : Addr) (w_PUNCT : Addr) (w_EOF : Addr) (h0 : Heap) (n0 : Nat) (Z0 : n0 ≤ h0.size) (S_IRI : Sta Z h0 "com/example/cantrip/cantrip/Token$Kind" "IRI" "Lcom/example/cantrip/cantrip/Token$Kind;" (.ref w_IRI)) (S_PNAME_NS : Sta Z h0 "com/example/cantrip/cantrip/Token$Kind" "PNAME_NS" "Lcom/example/cantrip/cantrip/Token$Kind;" (.ref w_PNAME_NS)) (S_PNAME_LN : Sta Z h0 "com/example/cantrip/cantrip/Token$Kind" "PNAME_LN" "Lcom/example/cantrip/cantrip/Token$Kind;" (.ref w_PNAME_LN)) (S_BLANK_NODE_LABEL : Sta Z h0 "com/example/cantrip/cantrip/Token$Kind" "BLANK_NODE_LABEL" "Lcom/example/cantrip/cantrip/Token$Kind;" (.ref w_BLANK_NODE_LABEL)) (S_VAR : Sta Z h0 "com/example/cantrip/cantrip/Token$Kind" "VAR" "Lcom/example/cantrip/cantrip/Token$Kind;" (.ref w_VAR)) (S_STRING : Sta Z h0 "com/example/cantrip/cantrip/Token$Kind" "STRING" "Lcom/example/cantrip/cantrip/Token$Kind;" (.ref w_STRING)) (S_LANGTAG : Sta Z h0 "com/example/cantrip/cantrip/Token$Kind" "LANGTAG" "Lcom/example/cantrip/cantrip/Token$Kind;" (.ref w_LANGTAG)) (S_INTEGER : Sta Z h0 "com/example/cantrip/cantrip/Token$Kind" "INTEGER" "Lcom/example/cantrip/cantrip/Token$Kind;" (.ref w_INTEGER)) (S_DECIMAL : Sta Z h0 "com/example/cantrip/cantrip/Token$Kind" "DECIMAL" "Lcom/example/cantrip/cantrip/Token$Kind;" (.ref w_DECIMAL)) (S_DOUBLE : Sta Z h0 "com/example/cantrip/cantrip/Token$Kind" "DOUBLE" "Lcom/example/cantrip/cantrip/Token$Kind;" (.ref w_DOUBLE)) (S_NIL : Sta Z h0 "com/example/cantrip/cantrip/Token$Kind" "NIL" "Lcom/example/cantrip/cantrip/Token$Kind;" (.ref w_NIL)) (S_ANON : Sta Z h0 "com/example/cantrip/cantrip/Token$Kind" "ANON" "Lcom/example/cantrip/cantrip/Token$Kind;" (.ref w_ANON)) (S_WORD : Sta Z h0 "com/example/cantrip/cantrip/Token$Kind" "WORD" "Lcom/example/cantrip/cantrip/Token$Kind;" (.ref w_WORD)) (S_PUNCT : Sta Z h0 "com/example/cantrip/cantrip/Token$Kind" "PUNCT" "Lcom/example/cantrip/cantrip/Token$Kind;" (.ref w_PUNCT)) (S_EOF : Sta Z h0 "com/example/cantrip/cantrip/Token$Kind" "EOF" "Lcom/example/cantrip/cantrip/Token$Kind;" (.ref w_EOF)) :
    MetFree l (⟨"com/example/cantrip/cantrip/TokenIsPinLaw", "kindOf", "(I)Lcom/example/cantrip/cantrip/Token$Kind;"⟩ : MethodName) (head1 (Jvm.Cond.code (⟨"com/example/cantrip/cantrip/TokenIsPinLaw", "kindOf", "(I)Lcom/example/cantrip/cantrip/Token$Kind;"⟩ : MethodName) method_2_code 1 (some (.object "com/example/cantrip/cantrip/Token$Kind")) :: ws) ({ frames := 0, cells := 0, slots := 0, locals := 0 } : Room)) (fun a U => a = #[(.int p1)] ∧ Z.Warmed39 U.vm ∧ U.heap = h0) (fun _ _ _ _ _ => True) (fun _ U o U' => ∃ v L, o = .returned v ∧ Q8 Z p1 w_IRI w_PNAME_NS w_PNAME_LN w_BLANK_NODE_LABEL w_VAR w_STRING w_LANGTAG w_INTEGER w_DECIMAL w_DOUBLE w_NIL w_ANON w_WORD w_PUNCT w_EOF h0 n0 v U'.heap L ∧ FrameEnd U o U' L ({ frames := 0, cells := 0, slots := 0, locals := 0 } : Room).cells ({ frames := 0, cells := 0, slots := 0, locals := 0 } : Room).slots) := by
  refine MetFree.of_bodySF (plainFor_of_name pn2) hisR ?_
  intro p e s m args below meth c s₁ Bd hml0 hP hK
  obtain ⟨rfl, hZ, hh⟩ := hP
  have hx := Bd.exec
  have hby := Bd.bytes
  have hml : c.maxLocals = 1 := hml0
  have hown : s.vm.findClass "com/example/cantrip/cantrip/TokenIsPinLaw" = some m.cls := findClass_of_methodNamed Bd.named
  have hnm := (name_of_methodNamed Bd.named Bd.method).1
  have X0 : Stand p l e ({ frames := 0, cells := 0, slots := 0, locals := 0 } : Room) s m #[(.int p1)] below meth c s₁ [] 0 0 := Stand.of_body Bd
  have e0 : s₁.heap = h0 := by rw [← hh, Bd.state]; rfl
  have N0 := Fr.nil n0
  have pre0 : ∀ t, Steps p.tables e below (s₁.setTop (mkF m 0 #[.val (.int p1)] [])) t → Steps p.tables e below (s₁.setTop (entryFrame m #[(.int p1)] 1)) t := fun t k => castTop (ef8 m p1) k
  have pre1 : ∀ t, Steps p.tables e below (s₁.setTop (mkF m 1 #[.val (.int p1)] [(.int p1)])) t → Steps p.tables e below (s₁.setTop (entryFrame m #[(.int p1)] 1)) t := by
    intro t kt
    refine pre0 _ ?_
    show Steps p.tables e below (s₁.setTop (mkF m 0 #[.val (.int p1)] [])) _
    refine XS.iloadN X0.here hx rfl (hb hby d8_0) rfl ?_
    exact kt
  by_cases hc1_2 : p1 = (0 : Int32)
  · obtain ⟨T3, X3, e3, st3⟩ := getS2 X0 hx hZ hown (host := "") (Or.inl (hw _ (List.mem_of_getElem? (i := 44) rfl))) Via.refl e0 S_IRI (g := (mkF m 4 #[.val (.int p1)] [])) rfl (hb hby d8_4)
    obtain ⟨fs, hr, hrun, hended, hW, hsame⟩ := X3.leave (v := some (.ref w_IRI)) (fun h => by rw [Bd.returns] at h; cases h)
    refine ⟨_, _, pre1 _ ?_, hrun, hended, _, _, rfl, ?_, ⟨_, rfl⟩, hW, hsame.mono (by decide) (by decide)⟩
    · show Steps p.tables e below (s₁.setTop (mkF m 1 #[.val (.int p1)] [(.int p1)])) _
      refine XS.ifNo X0.here hx rfl (hb hby d8_1) rfl ((if0 _ _).trans (teq hc1_2).2) ?_
      show Steps p.tables e below (s₁.setTop (mkF m 4 #[.val (.int p1)] [])) _
      refine st3 _ ?_
      show Steps p.tables e below (T3.setTop (mkF m 7 #[.val (.int p1)] [(.ref w_IRI)])) _
      exact retOut X3 hx Bd.returns rfl (Or.inr (Or.inr (Or.inr (Or.inr ⟨rfl, rfl, rfl⟩)))) (hb hby d8_7) hr
    · show Q8 Z p1 w_IRI w_PNAME_NS w_PNAME_LN w_BLANK_NODE_LABEL w_VAR w_STRING w_LANGTAG w_INTEGER w_DECIMAL w_DOUBLE w_NIL w_ANON w_WORD w_PUNCT w_EOF h0 n0 _ T3.heap _
      rw [e3]
      exact ⟨by rw [res8, if_pos hc1_2], rfl, rfl⟩
  · have pre4 : ∀ t, Steps p.tables e below (s₁.setTop (mkF m 10 #[.val (.int p1)] [(.int (1 : Int32)), (.int p1)])) t → Steps p.tables e below (s₁.setTop (entryFrame m #[(.int p1)] 1)) t := by
      intro t kt
      refine pre1 _ ?_
      show Steps p.tables e below (s₁.setTop (mkF m 1 #[.val (.int p1)] [(.int p1)])) _
      refine XS.ifYes X0.here hx rfl (pc0 := 1) (pc' := 8) rfl (hb hby d8_1) rfl ((if0 _ _).trans (feq hc1_2).2) (by decide) (by decide) ?_
      refine XS.iloadN X0.here hx rfl (hb hby d8_8) rfl ?_
      show Steps p.tables e below (s₁.setTop (mkF m 9 #[.val (.int p1)] [(.int p1)])) _
      refine XS.iconst X0.here hx rfl (hb hby d8_9) ?_
      exact kt
    by_cases hc10_5 : p1 = (1 : Int32)
    · obtain ⟨T6, X6, e6, st6⟩ := getS2 X0 hx hZ hown (host := "") (Or.inl (hw _ (List.mem_of_getElem? (i := 73) rfl))) Via.refl e0 S_PNAME_NS (g := (mkF m 13 #[.val (.int p1)] [])) rfl (hb hby d8_13)
      obtain ⟨fs, hr, hrun, hended, hW, hsame⟩ := X6.leave (v := some (.ref w_PNAME_NS)) (fun h => by rw [Bd.returns] at h; cases h)
      refine ⟨_, _, pre4 _ ?_, hrun, hended, _, _, rfl, ?_, ⟨_, rfl⟩, hW, hsame.mono (by decide) (by decide)⟩
      · show Steps p.tables e below (s₁.setTop (mkF m 10 #[.val (.int p1)] [(.int (1 : Int32)), (.int p1)])) _
        refine XS.icmpNo X0.here hx rfl (hb hby d8_10) rfl (teq hc10_5).2 ?_
        show Steps p.tables e below (s₁.setTop (mkF m 13 #[.val (.int p1)] [])) _
        refine st6 _ ?_
        show Steps p.tables e below (T6.setTop (mkF m 16 #[.val (.int p1)] [(.ref w_PNAME_NS)])) _
        exact retOut X6 hx Bd.returns rfl (Or.inr (Or.inr (Or.inr (Or.inr ⟨rfl, rfl, rfl⟩)))) (hb hby d8_16) hr
      · show Q8 Z p1 w_IRI w_PNAME_NS w_PNAME_LN w_BLANK_NODE_LABEL w_VAR w_STRING w_LANGTAG w_INTEGER w_DECIMAL w_DOUBLE w_NIL w_ANON w_WORD w_PUNCT w_EOF h0 n0 _ T6.heap _
        rw [e6]
        exact ⟨by rw [res8, if_neg hc1_2, if_pos hc10_5], rfl, rfl⟩
    · have pre7 : ∀ t, Steps p.tables e below (s₁.setTop (mkF m 19 #[.val (.int p1)] [(.int (2 : Int32)), (.int p1)])) t → Steps p.tables e below (s₁.setTop (entryFrame m #[(.int p1)] 1)) t := by
        intro t kt
        refine pre4 _ ?_
        show Steps p.tables e below (s₁.setTop (mkF m 10 #[.val (.int p1)] [(.int (1 : Int32)), (.int p1)])) _
        refine XS.icmpYes X0.here hx rfl (pc0 := 10) (pc' := 17) rfl (hb hby d8_10) rfl (feq hc10_5).2 (by decide) (by decide) ?_
        refine XS.iloadN X0.here hx rfl (hb hby d8_17) rfl ?_
        show Steps p.tables e below (s₁.setTop (mkF m 18 #[.val (.int p1)] [(.int p1)])) _
        refine XS.iconst X0.here hx rfl (hb hby d8_18) ?_
        exact kt
      by_cases hc19_8 : p1 = (2 : Int32)
      · obtain ⟨T9, X9, e9, st9⟩ := getS2 X0 hx hZ hown (host := "") (Or.inl (hw _ (List.mem_of_getElem? (i := 83) rfl))) Via.refl e0 S_PNAME_LN (g := (mkF m 22 #[.val (.int p1)] [])) rfl (hb hby d8_22)
        obtain ⟨fs, hr, hrun, hended, hW, hsame⟩ := X9.leave (v := some (.ref w_PNAME_LN)) (fun h => by rw [Bd.returns] at h; cases h)
        refine ⟨_, _, pre7 _ ?_, hrun, hended, _, _, rfl, ?_, ⟨_, rfl⟩, hW, hsame.mono (by decide) (by decide)⟩
        · show Steps p.tables e below (s₁.setTop (mkF m 19 #[.val (.int p1)] [(.int (2 : Int32)), (.int p1)])) _
          refine XS.icmpNo X0.here hx rfl (hb hby d8_19) rfl (teq hc19_8).2 ?_
          show Steps p.tables e below (s₁.setTop (mkF m 22 #[.val (.int p1)] [])) _
          refine st9 _ ?_
          show Steps p.tables e below (T9.setTop (mkF m 25 #[.val (.int p1)] [(.ref w_PNAME_LN)])) _
          exact retOut X9 hx Bd.returns rfl (Or.inr (Or.inr (Or.inr (Or.inr ⟨rfl, rfl, rfl⟩)))) (hb hby d8_25) hr
        · show Q8 Z p1 w_IRI w_PNAME_NS w_PNAME_LN w_BLANK_NODE_LABEL w_VAR w_STRING w_LANGTAG w_INTEGER w_DECIMAL w_DOUBLE w_NIL w_ANON w_WORD w_PUNCT w_EOF h0 n0 _ T9.heap _
          rw [e9]
          exact ⟨by rw [res8, if_neg hc1_2, if_neg hc10_5, if_pos hc19_8], rfl, rfl⟩
      · have pre10 : ∀ t, Steps p.tables e below (s₁.setTop (mkF m 28 #[.val (.int p1)] [(.int (3 : Int32)), (.int p1)])) t → Steps p.tables e below (s₁.setTop (entryFrame m #[(.int p1)] 1)) t := by
          intro t kt
          refine pre7 _ ?_
          show Steps p.tables e below (s₁.setTop (mkF m 19 #[.val (.int p1)] [(.int (2 : Int32)), (.int p1)])) _
          refine XS.icmpYes X0.here hx rfl (pc0 := 19) (pc' := 26) rfl (hb hby d8_19) rfl (feq hc19_8).2 (by decide) (by decide) ?_
          refine XS.iloadN X0.here hx rfl (hb hby d8_26) rfl ?_
          show Steps p.tables e below (s₁.setTop (mkF m 27 #[.val (.int p1)] [(.int p1)])) _
          refine XS.iconst X0.here hx rfl (hb hby d8_27) ?_
          exact kt
        by_cases hc28_11 : p1 = (3 : Int32)
        · obtain ⟨T12, X12, e12, st12⟩ := getS2 X0 hx hZ hown (host := "") (Or.inl (hw _ (List.mem_of_getElem? (i := 75) rfl))) Via.refl e0 S_BLANK_NODE_LABEL (g := (mkF m 31 #[.val (.int p1)] [])) rfl (hb hby d8_31)
          obtain ⟨fs, hr, hrun, hended, hW, hsame⟩ := X12.leave (v := some (.ref w_BLANK_NODE_LABEL)) (fun h => by rw [Bd.returns] at h; cases h)
          refine ⟨_, _, pre10 _ ?_, hrun, hended, _, _, rfl, ?_, ⟨_, rfl⟩, hW, hsame.mono (by decide) (by decide)⟩
          · show Steps p.tables e below (s₁.setTop (mkF m 28 #[.val (.int p1)] [(.int (3 : Int32)), (.int p1)])) _
            refine XS.icmpNo X0.here hx rfl (hb hby d8_28) rfl (teq hc28_11).2 ?_
            show Steps p.tables e below (s₁.setTop (mkF m 31 #[.val (.int p1)] [])) _
            refine st12 _ ?_
            show Steps p.tables e below (T12.setTop (mkF m 34 #[.val (.int p1)] [(.ref w_BLANK_NODE_LABEL)])) _
            exact retOut X12 hx Bd.returns rfl (Or.inr (Or.inr (Or.inr (Or.inr ⟨rfl, rfl, rfl⟩)))) (hb hby d8_34) hr
          · show Q8 Z p1 w_IRI w_PNAME_NS w_PNAME_LN w_BLANK_NODE_LABEL w_VAR w_STRING w_LANGTAG w_INTEGER w_DECIMAL w_DOUBLE w_NIL w_ANON w_WORD w_PUNCT w_EOF h0 n0 _ T12.heap _
            rw [e12]
            exact ⟨by rw [res8, if_neg hc1_2, if_neg hc10_5, if_neg hc19_8, if_pos hc28_11], rfl, rfl⟩
        · have pre13 : ∀ t, Steps p.tables e below (s₁.setTop (mkF m 37 #[.val (.int p1)] [(.int (4 : Int32)), (.int p1)])) t → Steps p.tables e below (s₁.setTop (entryFrame m #[(.int p1)] 1)) t := by
            intro t kt
            refine pre10 _ ?_
            show Steps p.tables e below (s₁.setTop (mkF m 28 #[.val (.int p1)] [(.int (3 : Int32)), (.int p1)])) _
            refine XS.icmpYes X0.here hx rfl (pc0 := 28) (pc' := 35) rfl (hb hby d8_28) rfl (feq hc28_11).2 (by decide) (by decide) ?_
            refine XS.iloadN X0.here hx rfl (hb hby d8_35) rfl ?_
            show Steps p.tables e below (s₁.setTop (mkF m 36 #[.val (.int p1)] [(.int p1)])) _
            refine XS.iconst X0.here hx rfl (hb hby d8_36) ?_
            exact kt
          by_cases hc37_14 : p1 = (4 : Int32)
          · obtain ⟨T15, X15, e15, st15⟩ := getS2 X0 hx hZ hown (host := "") (Or.inl (hw _ (List.mem_of_getElem? (i := 71) rfl))) Via.refl e0 S_VAR (g := (mkF m 40 #[.val (.int p1)] [])) rfl (hb hby d8_40)
            obtain ⟨fs, hr, hrun, hended, hW, hsame⟩ := X15.leave (v := some (.ref w_VAR)) (fun h => by rw [Bd.returns] at h; cases h)
            refine ⟨_, _, pre13 _ ?_, hrun, hended, _, _, rfl, ?_, ⟨_, rfl⟩, hW, hsame.mono (by decide) (by decide)⟩
            · show Steps p.tables e below (s₁.setTop (mkF m 37 #[.val (.int p1)] [(.int (4 : Int32)), (.int p1)])) _
              refine XS.icmpNo X0.here hx rfl (hb hby d8_37) rfl (teq hc37_14).2 ?_
              show Steps p.tables e below (s₁.setTop (mkF m 40 #[.val (.int p1)] [])) _
              refine st15 _ ?_
              show Steps p.tables e below (T15.setTop (mkF m 43 #[.val (.int p1)] [(.ref w_VAR)])) _
              exact retOut X15 hx Bd.returns rfl (Or.inr (Or.inr (Or.inr (Or.inr ⟨rfl, rfl, rfl⟩)))) (hb hby d8_43) hr
            · show Q8 Z p1 w_IRI w_PNAME_NS w_PNAME_LN w_BLANK_NODE_LABEL w_VAR w_STRING w_LANGTAG w_INTEGER w_DECIMAL w_DOUBLE w_NIL w_ANON w_WORD w_PUNCT w_EOF h0 n0 _ T15.heap _
              rw [e15]
              exact ⟨by rw [res8, if_neg hc1_2, if_neg hc10_5, if_neg hc19_8, if_neg hc28_11, if_pos hc37_14], rfl, rfl⟩
          · have pre16 : ∀ t, Steps p.tables e below (s₁.setTop (mkF m 46 #[.val (.int p1)] [(.int (5 : Int32)), (.int p1)])) t → Steps p.tables e below (s₁.setTop (entryFrame m #[(.int p1)] 1)) t := by
              intro t kt
              refine pre13 _ ?_
              show Steps p.tables e below (s₁.setTop (mkF m 37 #[.val (.int p1)] [(.int (4 : Int32)), (.int p1)])) _
              refine XS.icmpYes X0.here hx rfl (pc0 := 37) (pc' := 44) rfl (hb hby d8_37) rfl (feq hc37_14).2 (by decide) (by decide) ?_
              refine XS.iloadN X0.here hx rfl (hb hby d8_44) rfl ?_
              show Steps p.tables e below (s₁.setTop (mkF m 45 #[.val (.int p1)] [(.int p1)])) _
              refine XS.iconst X0.here hx rfl (hb hby d8_45) ?_
              exact kt
            by_cases hc46_17 : p1 = (5 : Int32)
            · obtain ⟨T18, X18, e18, st18⟩ := getS2 X0 hx hZ hown (host := "") (Or.inl (hw _ (List.mem_of_getElem? (i := 100) rfl))) Via.refl e0 S_STRING (g := (mkF m 49 #[.val (.int p1)] [])) rfl (hb hby d8_49)
              obtain ⟨fs, hr, hrun, hended, hW, hsame⟩ := X18.leave (v := some (.ref w_STRING)) (fun h => by rw [Bd.returns] at h; cases h)
              refine ⟨_, _, pre16 _ ?_, hrun, hended, _, _, rfl, ?_, ⟨_, rfl⟩, hW, hsame.mono (by decide) (by decide)⟩
              · show Steps p.tables e below (s₁.setTop (mkF m 46 #[.val (.int p1)] [(.int (5 : Int32)), (.int p1)])) _
                refine XS.icmpNo X0.here hx rfl (hb hby d8_46) rfl (teq hc46_17).2 ?_
                show Steps p.tables e below (s₁.setTop (mkF m 49 #[.val (.int p1)] [])) _
                refine st18 _ ?_
                show Steps p.tables e below (T18.setTop (mkF m 52 #[.val (.int p1)] [(.ref w_STRING)])) _
                exact retOut X18 hx Bd.returns rfl (Or.inr (Or.inr (Or.inr (Or.inr ⟨rfl, rfl, rfl⟩)))) (hb hby d8_52) hr
              · show Q8 Z p1 w_IRI w_PNAME_NS w_PNAME_LN w_BLANK_NODE_LABEL w_VAR w_STRING w_LANGTAG w_INTEGER w_DECIMAL w_DOUBLE w_NIL w_ANON w_WORD w_PUNCT w_EOF h0 n0 _ T18.heap _
                rw [e18]
                exact ⟨by rw [res8, if_neg hc1_2, if_neg hc10_5, if_neg hc19_8, if_neg hc28_11, if_neg hc37_14, if_pos hc46_17], rfl, rfl⟩
            · have pre19 : ∀ t, Steps p.tables e below (s₁.setTop (mkF m 56 #[.val (.int p1)] [(.int (6 : Int32)), (.int p1)])) t → Steps p.tables e below (s₁.setTop (entryFrame m #[(.int p1)] 1)) t := by
                intro t kt
                refine pre16 _ ?_
                show Steps p.tables e below (s₁.setTop (mkF m 46 #[.val (.int p1)] [(.int (5 : Int32)), (.int p1)])) _
                refine XS.icmpYes X0.here hx rfl (pc0 := 46) (pc' := 53) rfl (hb hby d8_46) rfl (feq hc46_17).2 (by decide) (by decide) ?_
                refine XS.iloadN X0.here hx rfl (hb hby d8_53) rfl ?_
                show Steps p.tables e below (s₁.setTop (mkF m 54 #[.val (.int p1)] [(.int p1)])) _
                refine XS.bipush X0.here hx rfl (hb hby d8_54) ?_
                exact kt
              by_cases hc56_20 : p1 = (6 : Int32)
              · obtain ⟨T21, X21, e21, st21⟩ := getS2 X0 hx hZ hown (host := "") (Or.inl (hw _ (List.mem_of_getElem? (i := 79) rfl))) Via.refl e0 S_LANGTAG (g := (mkF m 59 #[.val (.int p1)] [])) rfl (hb hby d8_59)
                obtain ⟨fs, hr, hrun, hended, hW, hsame⟩ := X21.leave (v := some (.ref w_LANGTAG)) (fun h => by rw [Bd.returns] at h; cases h)
                refine ⟨_, _, pre19 _ ?_, hrun, hended, _, _, rfl, ?_, ⟨_, rfl⟩, hW, hsame.mono (by decide) (by decide)⟩
                · show Steps p.tables e below (s₁.setTop (mkF m 56 #[.val (.int p1)] [(.int (6 : Int32)), (.int p1)])) _
                  refine XS.icmpNo X0.here hx rfl (hb hby d8_56) rfl (teq hc56_20).2 ?_
                  show Steps p.tables e below (s₁.setTop (mkF m 59 #[.val (.int p1)] [])) _
                  refine st21 _ ?_
                  show Steps p.tables e below (T21.setTop (mkF m 62 #[.val (.int p1)] [(.ref w_LANGTAG)])) _
                  exact retOut X21 hx Bd.returns rfl (Or.inr (Or.inr (Or.inr (Or.inr ⟨rfl, rfl, rfl⟩)))) (hb hby d8_62) hr
                · show Q8 Z p1 w_IRI w_PNAME_NS w_PNAME_LN w_BLANK_NODE_LABEL w_VAR w_STRING w_LANGTAG w_INTEGER w_DECIMAL w_DOUBLE w_NIL w_ANON w_WORD w_PUNCT w_EOF h0 n0 _ T21.heap _
                  rw [e21]
                  exact ⟨by rw [res8, if_neg hc1_2, if_neg hc10_5, if_neg hc19_8, if_neg hc28_11, if_neg hc37_14, if_neg hc46_17, if_pos hc56_20], rfl, rfl⟩
              · have pre22 : ∀ t, Steps p.tables e below (s₁.setTop (mkF m 66 #[.val (.int p1)] [(.int (7 : Int32)), (.int p1)])) t → Steps p.tables e below (s₁.setTop (entryFrame m #[(.int p1)] 1)) t := by
                  intro t kt
                  refine pre19 _ ?_
                  show Steps p.tables e below (s₁.setTop (mkF m 56 #[.val (.int p1)] [(.int (6 : Int32)), (.int p1)])) _
                  refine XS.icmpYes X0.here hx rfl (pc0 := 56) (pc' := 63) rfl (hb hby d8_56) rfl (feq hc56_20).2 (by decide) (by decide) ?_
                  refine XS.iloadN X0.here hx rfl (hb hby d8_63) rfl ?_
                  show Steps p.tables e below (s₁.setTop (mkF m 64 #[.val (.int p1)] [(.int p1)])) _
                  refine XS.bipush X0.here hx rfl (hb hby d8_64) ?_
                  exact kt
                by_cases hc66_23 : p1 = (7 : Int32)
                · obtain ⟨T24, X24, e24, st24⟩ := getS2 X0 hx hZ hown (host := "") (Or.inl (hw _ (List.mem_of_getElem? (i := 96) rfl))) Via.refl e0 S_INTEGER (g := (mkF m 69 #[.val (.int p1)] [])) rfl (hb hby d8_69)
                  obtain ⟨fs, hr, hrun, hended, hW, hsame⟩ := X24.leave (v := some (.ref w_INTEGER)) (fun h => by rw [Bd.returns] at h; cases h)
                  refine ⟨_, _, pre22 _ ?_, hrun, hended, _, _, rfl, ?_, ⟨_, rfl⟩, hW, hsame.mono (by decide) (by decide)⟩
                  · show Steps p.tables e below (s₁.setTop (mkF m 66 #[.val (.int p1)] [(.int (7 : Int32)), (.int p1)])) _
                    refine XS.icmpNo X0.here hx rfl (hb hby d8_66) rfl (teq hc66_23).2 ?_
                    show Steps p.tables e below (s₁.setTop (mkF m 69 #[.val (.int p1)] [])) _
                    refine st24 _ ?_
                    show Steps p.tables e below (T24.setTop (mkF m 72 #[.val (.int p1)] [(.ref w_INTEGER)])) _
                    exact retOut X24 hx Bd.returns rfl (Or.inr (Or.inr (Or.inr (Or.inr ⟨rfl, rfl, rfl⟩)))) (hb hby d8_72) hr
                  · show Q8 Z p1 w_IRI w_PNAME_NS w_PNAME_LN w_BLANK_NODE_LABEL w_VAR w_STRING w_LANGTAG w_INTEGER w_DECIMAL w_DOUBLE w_NIL w_ANON w_WORD w_PUNCT w_EOF h0 n0 _ T24.heap _
                    rw [e24]
                    exact ⟨by rw [res8, if_neg hc1_2, if_neg hc10_5, if_neg hc19_8, if_neg hc28_11, if_neg hc37_14, if_neg hc46_17, if_neg hc56_20, if_pos hc66_23], rfl, rfl⟩
                · have pre25 : ∀ t, Steps p.tables e below (s₁.setTop (mkF m 76 #[.val (.int p1)] [(.int (8 : Int32)), (.int p1)])) t → Steps p.tables e below (s₁.setTop (entryFrame m #[(.int p1)] 1)) t := by
                    intro t kt
                    refine pre22 _ ?_
                    show Steps p.tables e below (s₁.setTop (mkF m 66 #[.val (.int p1)] [(.int (7 : Int32)), (.int p1)])) _
                    refine XS.icmpYes X0.here hx rfl (pc0 := 66) (pc' := 73) rfl (hb hby d8_66) rfl (feq hc66_23).2 (by decide) (by decide) ?_
                    refine XS.iloadN X0.here hx rfl (hb hby d8_73) rfl ?_
                    show Steps p.tables e below (s₁.setTop (mkF m 74 #[.val (.int p1)] [(.int p1)])) _
                    refine XS.bipush X0.here hx rfl (hb hby d8_74) ?_
                    exact kt
                  by_cases hc76_26 : p1 = (8 : Int32)
                  · obtain ⟨T27, X27, e27, st27⟩ := getS2 X0 hx hZ hown (host := "") (Or.inl (hw _ (List.mem_of_getElem? (i := 81) rfl))) Via.refl e0 S_DECIMAL (g := (mkF m 79 #[.val (.int p1)] [])) rfl (hb hby d8_79)
                    obtain ⟨fs, hr, hrun, hended, hW, hsame⟩ := X27.leave (v := some (.ref w_DECIMAL)) (fun h => by rw [Bd.returns] at h; cases h)
                    refine ⟨_, _, pre25 _ ?_, hrun, hended, _, _, rfl, ?_, ⟨_, rfl⟩, hW, hsame.mono (by decide) (by decide)⟩
                    · show Steps p.tables e below (s₁.setTop (mkF m 76 #[.val (.int p1)] [(.int (8 : Int32)), (.int p1)])) _
                      refine XS.icmpNo X0.here hx rfl (hb hby d8_76) rfl (teq hc76_26).2 ?_
                      show Steps p.tables e below (s₁.setTop (mkF m 79 #[.val (.int p1)] [])) _
                      refine st27 _ ?_
                      show Steps p.tables e below (T27.setTop (mkF m 82 #[.val (.int p1)] [(.ref w_DECIMAL)])) _
                      exact retOut X27 hx Bd.returns rfl (Or.inr (Or.inr (Or.inr (Or.inr ⟨rfl, rfl, rfl⟩)))) (hb hby d8_82) hr
                    · show Q8 Z p1 w_IRI w_PNAME_NS w_PNAME_LN w_BLANK_NODE_LABEL w_VAR w_STRING w_LANGTAG w_INTEGER w_DECIMAL w_DOUBLE w_NIL w_ANON w_WORD w_PUNCT w_EOF h0 n0 _ T27.heap _
                      rw [e27]
                      exact ⟨by rw [res8, if_neg hc1_2, if_neg hc10_5, if_neg hc19_8, if_neg hc28_11, if_neg hc37_14, if_neg hc46_17, if_neg hc56_20, if_neg hc66_23, if_pos hc76_26], rfl, rfl⟩
                  · have pre28 : ∀ t, Steps p.tables e below (s₁.setTop (mkF m 86 #[.val (.int p1)] [(.int (9 : Int32)), (.int p1)])) t → Steps p.tables e below (s₁.setTop (entryFrame m #[(.int p1)] 1)) t := by
                      intro t kt
                      refine pre25 _ ?_
                      show Steps p.tables e below (s₁.setTop (mkF m 76 #[.val (.int p1)] [(.int (8 : Int32)), (.int p1)])) _
                      refine XS.icmpYes X0.here hx rfl (pc0 := 76) (pc' := 83) rfl (hb hby d8_76) rfl (feq hc76_26).2 (by decide) (by decide) ?_
                      refine XS.iloadN X0.here hx rfl (hb hby d8_83) rfl ?_
                      show Steps p.tables e below (s₁.setTop (mkF m 84 #[.val (.int p1)] [(.int p1)])) _
                      refine XS.bipush X0.here hx rfl (hb hby d8_84) ?_
                      exact kt
                    by_cases hc86_29 : p1 = (9 : Int32)
                    · obtain ⟨T30, X30, e30, st30⟩ := getS2 X0 hx hZ hown (host := "") (Or.inl (hw _ (List.mem_of_getElem? (i := 102) rfl))) Via.refl e0 S_DOUBLE (g := (mkF m 89 #[.val (.int p1)] [])) rfl (hb hby d8_89)
                      obtain ⟨fs, hr, hrun, hended, hW, hsame⟩ := X30.leave (v := some (.ref w_DOUBLE)) (fun h => by rw [Bd.returns] at h; cases h)
                      refine ⟨_, _, pre28 _ ?_, hrun, hended, _, _, rfl, ?_, ⟨_, rfl⟩, hW, hsame.mono (by decide) (by decide)⟩
                      · show Steps p.tables e below (s₁.setTop (mkF m 86 #[.val (.int p1)] [(.int (9 : Int32)), (.int p1)])) _
                        refine XS.icmpNo X0.here hx rfl (hb hby d8_86) rfl (teq hc86_29).2 ?_
                        show Steps p.tables e below (s₁.setTop (mkF m 89 #[.val (.int p1)] [])) _
                        refine st30 _ ?_
                        show Steps p.tables e below (T30.setTop (mkF m 92 #[.val (.int p1)] [(.ref w_DOUBLE)])) _
                        exact retOut X30 hx Bd.returns rfl (Or.inr (Or.inr (Or.inr (Or.inr ⟨rfl, rfl, rfl⟩)))) (hb hby d8_92) hr
                      · show Q8 Z p1 w_IRI w_PNAME_NS w_PNAME_LN w_BLANK_NODE_LABEL w_VAR w_STRING w_LANGTAG w_INTEGER w_DECIMAL w_DOUBLE w_NIL w_ANON w_WORD w_PUNCT w_EOF h0 n0 _ T30.heap _
                        rw [e30]
                        exact ⟨by rw [res8, if_neg hc1_2, if_neg hc10_5, if_neg hc19_8, if_neg hc28_11, if_neg hc37_14, if_neg hc46_17, if_neg hc56_20, if_neg hc66_23, if_neg hc76_26, if_pos hc86_29], rfl, rfl⟩
                    · have pre31 : ∀ t, Steps p.tables e below (s₁.setTop (mkF m 96 #[.val (.int p1)] [(.int (10 : Int32)), (.int p1)])) t → Steps p.tables e below (s₁.setTop (entryFrame m #[(.int p1)] 1)) t := by
                        intro t kt
                        refine pre28 _ ?_
                        show Steps p.tables e below (s₁.setTop (mkF m 86 #[.val (.int p1)] [(.int (9 : Int32)), (.int p1)])) _
                        refine XS.icmpYes X0.here hx rfl (pc0 := 86) (pc' := 93) rfl (hb hby d8_86) rfl (feq hc86_29).2 (by decide) (by decide) ?_
                        refine XS.iloadN X0.here hx rfl (hb hby d8_93) rfl ?_
                        show Steps p.tables e below (s₁.setTop (mkF m 94 #[.val (.int p1)] [(.int p1)])) _
                        refine XS.bipush X0.here hx rfl (hb hby d8_94) ?_
                        exact kt
                      by_cases hc96_32 : p1 = (10 : Int32)
                      · obtain ⟨T33, X33, e33, st33⟩ := getS2 X0 hx hZ hown (host := "") (Or.inl (hw _ (List.mem_of_getElem? (i := 98) rfl))) Via.refl e0 S_NIL (g := (mkF m 99 #[.val (.int p1)] [])) rfl (hb hby d8_99)
                        obtain ⟨fs, hr, hrun, hended, hW, hsame⟩ := X33.leave (v := some (.ref w_NIL)) (fun h => by rw [Bd.returns] at h; cases h)
                        refine ⟨_, _, pre31 _ ?_, hrun, hended, _, _, rfl, ?_, ⟨_, rfl⟩, hW, hsame.mono (by decide) (by decide)⟩
                        · show Steps p.tables e below (s₁.setTop (mkF m 96 #[.val (.int p1)] [(.int (10 : Int32)), (.int p1)])) _
                          refine XS.icmpNo X0.here hx rfl (hb hby d8_96) rfl (teq hc96_32).2 ?_
                          show Steps p.tables e below (s₁.setTop (mkF m 99 #[.val (.int p1)] [])) _
                          refine st33 _ ?_
                          show Steps p.tables e below (T33.setTop (mkF m 102 #[.val (.int p1)] [(.ref w_NIL)])) _
                          exact retOut X33 hx Bd.returns rfl (Or.inr (Or.inr (Or.inr (Or.inr ⟨rfl, rfl, rfl⟩)))) (hb hby d8_102) hr
                        · show Q8 Z p1 w_IRI w_PNAME_NS w_PNAME_LN w_BLANK_NODE_LABEL w_VAR w_STRING w_LANGTAG w_INTEGER w_DECIMAL w_DOUBLE w_NIL w_ANON w_WORD w_PUNCT w_EOF h0 n0 _ T33.heap _
                          rw [e33]
                          exact ⟨by rw [res8, if_neg hc1_2, if_neg hc10_5, if_neg hc19_8, if_neg hc28_11, if_neg hc37_14, if_neg hc46_17, if_neg hc56_20, if_neg hc66_23, if_neg hc76_26, if_neg hc86_29, if_pos hc96_32], rfl, rfl⟩
                      · have pre34 : ∀ t, Steps p.tables e below (s₁.setTop (mkF m 106 #[.val (.int p1)] [(.int (11 : Int32)), (.int p1)])) t → Steps p.tables e below (s₁.setTop (entryFrame m #[(.int p1)] 1)) t := by
                          intro t kt
                          refine pre31 _ ?_
                          show Steps p.tables e below (s₁.setTop (mkF m 96 #[.val (.int p1)] [(.int (10 : Int32)), (.int p1)])) _
                          refine XS.icmpYes X0.here hx rfl (pc0 := 96) (pc' := 103) rfl (hb hby d8_96) rfl (feq hc96_32).2 (by decide) (by decide) ?_
                          refine XS.iloadN X0.here hx rfl (hb hby d8_103) rfl ?_
                          show Steps p.tables e below (s₁.setTop (mkF m 104 #[.val (.int p1)] [(.int p1)])) _
                          refine XS.bipush X0.here hx rfl (hb hby d8_104) ?_
                          exact kt
                        by_cases hc106_35 : p1 = (11 : Int32)
                        · obtain ⟨T36, X36, e36, st36⟩ := getS2 X0 hx hZ hown (host := "") (Or.inl (hw _ (List.mem_of_getElem? (i := 104) rfl))) Via.refl e0 S_ANON (g := (mkF m 109 #[.val (.int p1)] [])) rfl (hb hby d8_109)
                          obtain ⟨fs, hr, hrun, hended, hW, hsame⟩ := X36.leave (v := some (.ref w_ANON)) (fun h => by rw [Bd.returns] at h; cases h)
                          refine ⟨_, _, pre34 _ ?_, hrun, hended, _, _, rfl, ?_, ⟨_, rfl⟩, hW, hsame.mono (by decide) (by decide)⟩
                          · show Steps p.tables e below (s₁.setTop (mkF m 106 #[.val (.int p1)] [(.int (11 : Int32)), (.int p1)])) _
                            refine XS.icmpNo X0.here hx rfl (hb hby d8_106) rfl (teq hc106_35).2 ?_
                            show Steps p.tables e below (s₁.setTop (mkF m 109 #[.val (.int p1)] [])) _
                            refine st36 _ ?_
                            show Steps p.tables e below (T36.setTop (mkF m 112 #[.val (.int p1)] [(.ref w_ANON)])) _
                            exact retOut X36 hx Bd.returns rfl (Or.inr (Or.inr (Or.inr (Or.inr ⟨rfl, rfl, rfl⟩)))) (hb hby d8_112) hr
                          · show Q8 Z p1 w_IRI w_PNAME_NS w_PNAME_LN w_BLANK_NODE_LABEL w_VAR w_STRING w_LANGTAG w_INTEGER w_DECIMAL w_DOUBLE w_NIL w_ANON w_WORD w_PUNCT w_EOF h0 n0 _ T36.heap _
                            rw [e36]
                            exact ⟨by rw [res8, if_neg hc1_2, if_neg hc10_5, if_neg hc19_8, if_neg hc28_11, if_neg hc37_14, if_neg hc46_17, if_neg hc56_20, if_neg hc66_23, if_neg hc76_26, if_neg hc86_29, if_neg hc96_32, if_pos hc106_35], rfl, rfl⟩
                        · have pre37 : ∀ t, Steps p.tables e below (s₁.setTop (mkF m 116 #[.val (.int p1)] [(.int (12 : Int32)), (.int p1)])) t → Steps p.tables e below (s₁.setTop (entryFrame m #[(.int p1)] 1)) t := by
                            intro t kt
                            refine pre34 _ ?_
                            show Steps p.tables e below (s₁.setTop (mkF m 106 #[.val (.int p1)] [(.int (11 : Int32)), (.int p1)])) _
                            refine XS.icmpYes X0.here hx rfl (pc0 := 106) (pc' := 113) rfl (hb hby d8_106) rfl (feq hc106_35).2 (by decide) (by decide) ?_
                            refine XS.iloadN X0.here hx rfl (hb hby d8_113) rfl ?_
                            show Steps p.tables e below (s₁.setTop (mkF m 114 #[.val (.int p1)] [(.int p1)])) _
                            refine XS.bipush X0.here hx rfl (hb hby d8_114) ?_
                            exact kt
                          by_cases hc116_38 : p1 = (12 : Int32)
                          · obtain ⟨T39, X39, e39, st39⟩ := getS2 X0 hx hZ hown (host := "") (Or.inl (hw _ (List.mem_of_getElem? (i := 69) rfl))) Via.refl e0 S_WORD (g := (mkF m 119 #[.val (.int p1)] [])) rfl (hb hby d8_119)
                            obtain ⟨fs, hr, hrun, hended, hW, hsame⟩ := X39.leave (v := some (.ref w_WORD)) (fun h => by rw [Bd.returns] at h; cases h)
                            refine ⟨_, _, pre37 _ ?_, hrun, hended, _, _, rfl, ?_, ⟨_, rfl⟩, hW, hsame.mono (by decide) (by decide)⟩
                            · show Steps p.tables e below (s₁.setTop (mkF m 116 #[.val (.int p1)] [(.int (12 : Int32)), (.int p1)])) _
                              refine XS.icmpNo X0.here hx rfl (hb hby d8_116) rfl (teq hc116_38).2 ?_
                              show Steps p.tables e below (s₁.setTop (mkF m 119 #[.val (.int p1)] [])) _
                              refine st39 _ ?_
                              show Steps p.tables e below (T39.setTop (mkF m 122 #[.val (.int p1)] [(.ref w_WORD)])) _
                              exact retOut X39 hx Bd.returns rfl (Or.inr (Or.inr (Or.inr (Or.inr ⟨rfl, rfl, rfl⟩)))) (hb hby d8_122) hr
                            · show Q8 Z p1 w_IRI w_PNAME_NS w_PNAME_LN w_BLANK_NODE_LABEL w_VAR w_STRING w_LANGTAG w_INTEGER w_DECIMAL w_DOUBLE w_NIL w_ANON w_WORD w_PUNCT w_EOF h0 n0 _ T39.heap _
                              rw [e39]
                              exact ⟨by rw [res8, if_neg hc1_2, if_neg hc10_5, if_neg hc19_8, if_neg hc28_11, if_neg hc37_14, if_neg hc46_17, if_neg hc56_20, if_neg hc66_23, if_neg hc76_26, if_neg hc86_29, if_neg hc96_32, if_neg hc106_35, if_pos hc116_38], rfl, rfl⟩
                          · have pre40 : ∀ t, Steps p.tables e below (s₁.setTop (mkF m 126 #[.val (.int p1)] [(.int (13 : Int32)), (.int p1)])) t → Steps p.tables e below (s₁.setTop (entryFrame m #[(.int p1)] 1)) t := by
                              intro t kt
                              refine pre37 _ ?_
                              show Steps p.tables e below (s₁.setTop (mkF m 116 #[.val (.int p1)] [(.int (12 : Int32)), (.int p1)])) _
                              refine XS.icmpYes X0.here hx rfl (pc0 := 116) (pc' := 123) rfl (hb hby d8_116) rfl (feq hc116_38).2 (by decide) (by decide) ?_
                              refine XS.iloadN X0.here hx rfl (hb hby d8_123) rfl ?_
                              show Steps p.tables e below (s₁.setTop (mkF m 124 #[.val (.int p1)] [(.int p1)])) _
                              refine XS.bipush X0.here hx rfl (hb hby d8_124) ?_
                              exact kt
                            by_cases hc126_41 : p1 = (13 : Int32)
                            · obtain ⟨T42, X42, e42, st42⟩ := getS2 X0 hx hZ hown (host := "") (Or.inl (hw _ (List.mem_of_getElem? (i := 85) rfl))) Via.refl e0 S_PUNCT (g := (mkF m 129 #[.val (.int p1)] [])) rfl (hb hby d8_129)
                              obtain ⟨fs, hr, hrun, hended, hW, hsame⟩ := X42.leave (v := some (.ref w_PUNCT)) (fun h => by rw [Bd.returns] at h; cases h)
                              refine ⟨_, _, pre40 _ ?_, hrun, hended, _, _, rfl, ?_, ⟨_, rfl⟩, hW, hsame.mono (by decide) (by decide)⟩
                              · show Steps p.tables e below (s₁.setTop (mkF m 126 #[.val (.int p1)] [(.int (13 : Int32)), (.int p1)])) _
                                refine XS.icmpNo X0.here hx rfl (hb hby d8_126) rfl (teq hc126_41).2 ?_
                                show Steps p.tables e below (s₁.setTop (mkF m 129 #[.val (.int p1)] [])) _
                                refine st42 _ ?_
                                show Steps p.tables e below (T42.setTop (mkF m 132 #[.val (.int p1)] [(.ref w_PUNCT)])) _
                                exact retOut X42 hx Bd.returns rfl (Or.inr (Or.inr (Or.inr (Or.inr ⟨rfl, rfl, rfl⟩)))) (hb hby d8_132) hr
                              · show Q8 Z p1 w_IRI w_PNAME_NS w_PNAME_LN w_BLANK_NODE_LABEL w_VAR w_STRING w_LANGTAG w_INTEGER w_DECIMAL w_DOUBLE w_NIL w_ANON w_WORD w_PUNCT w_EOF h0 n0 _ T42.heap _
                                rw [e42]
                                exact ⟨by rw [res8, if_neg hc1_2, if_neg hc10_5, if_neg hc19_8, if_neg hc28_11, if_neg hc37_14, if_neg hc46_17, if_neg hc56_20, if_neg hc66_23, if_neg hc76_26, if_neg hc86_29, if_neg hc96_32, if_neg hc106_35, if_neg hc116_38, if_pos hc126_41], rfl, rfl⟩
                            · obtain ⟨T43, X43, e43, st43⟩ := getS2 X0 hx hZ hown (host := "") (Or.inl (hw _ (List.mem_of_getElem? (i := 77) rfl))) Via.refl e0 S_EOF (g := (mkF m 133 #[.val (.int p1)] [])) rfl (hb hby d8_133)
                              obtain ⟨fs, hr, hrun, hended, hW, hsame⟩ := X43.leave (v := some (.ref w_EOF)) (fun h => by rw [Bd.returns] at h; cases h)
                              refine ⟨_, _, pre40 _ ?_, hrun, hended, _, _, rfl, ?_, ⟨_, rfl⟩, hW, hsame.mono (by decide) (by decide)⟩
                              · show Steps p.tables e below (s₁.setTop (mkF m 126 #[.val (.int p1)] [(.int (13 : Int32)), (.int p1)])) _
                                refine XS.icmpYes X0.here hx rfl (pc0 := 126) (pc' := 133) rfl (hb hby d8_126) rfl (feq hc126_41).2 (by decide) (by decide) ?_
                                show Steps p.tables e below (s₁.setTop (mkF m 133 #[.val (.int p1)] [])) _
                                refine st43 _ ?_
                                show Steps p.tables e below (T43.setTop (mkF m 136 #[.val (.int p1)] [(.ref w_EOF)])) _
                                exact retOut X43 hx Bd.returns rfl (Or.inr (Or.inr (Or.inr (Or.inr ⟨rfl, rfl, rfl⟩)))) (hb hby d8_136) hr
                              · show Q8 Z p1 w_IRI w_PNAME_NS w_PNAME_LN w_BLANK_NODE_LABEL w_VAR w_STRING w_LANGTAG w_INTEGER w_DECIMAL w_DOUBLE w_NIL w_ANON w_WORD w_PUNCT w_EOF h0 n0 _ T43.heap _
                                rw [e43]
                                exact ⟨by rw [res8, if_neg hc1_2, if_neg hc10_5, if_neg hc19_8, if_neg hc28_11, if_neg hc37_14, if_neg hc46_17, if_neg hc56_20, if_neg hc66_23, if_neg hc76_26, if_neg hc86_29, if_neg hc96_32, if_neg hc106_35, if_neg hc116_38, if_neg hc126_41], rfl, rfl⟩
theorem d13_0 : decode jdk_43_method_13_code 0 = .ok (.aload_n 0, 1) := by decide +kernel
theorem d13_1 : decode jdk_43_method_13_code 1 = .ok (.arraylength, 1) := by decide +kernel
theorem d13_2 : decode jdk_43_method_13_code 2 = .ok (.aload_n 1, 1) := by decide +kernel
theorem d13_3 : decode jdk_43_method_13_code 3 = .ok (.arraylength, 1) := by decide +kernel
theorem d13_4 : decode jdk_43_method_13_code 4 = .ok (.if_icmp .ne 30, 3) := by decide +kernel
theorem d13_7 : decode jdk_43_method_13_code 7 = .ok (.iconst 0, 1) := by decide +kernel
theorem d13_8 : decode jdk_43_method_13_code 8 = .ok (.istore_n 2, 1) := by decide +kernel
theorem d13_9 : decode jdk_43_method_13_code 9 = .ok (.iload_n 2, 1) := by decide +kernel
theorem d13_10 : decode jdk_43_method_13_code 10 = .ok (.aload_n 0, 1) := by decide +kernel
theorem d13_11 : decode jdk_43_method_13_code 11 = .ok (.arraylength, 1) := by decide +kernel
theorem d13_12 : decode jdk_43_method_13_code 12 = .ok (.if_icmp .ge 20, 3) := by decide +kernel
theorem d13_32 : decode jdk_43_method_13_code 32 = .ok (.iconst 1, 1) := by decide +kernel
theorem d13_33 : decode jdk_43_method_13_code 33 = .ok (.ireturn, 1) := by decide +kernel
theorem pn5 : plainName "java/lang/StringLatin1" = true := by first | (simp [plainName, overriddenIn]; done) | decide +kernel
theorem ef_leq_0_0 (m : MethodId) (a1 : Addr) (a2 : Addr) : entryFrame m #[(.ref a1), (.ref a2)] 3 = (mkF m 0 #[.val (.ref a1), .val (.ref a2), .unset] []) := by first | (simp [entryFrame, mkF, argsToLocals, Value.category]; done) | rfl
def Q_leq_0_0 (Z : State) (a1 : Addr) (a2 : Addr) (ka : ClassId) (kb : ClassId) (h0 : Heap) (n0 : Nat) (v : Option Value) (h : Heap) (L : List Loc) : Prop := v = some (.int (1 : Int32)) ∧ L = [] ∧ h = h0
set_option maxRecDepth 65536 in
set_option maxHeartbeats 40000000 in
theorem rm_leq_0_0 (l : Launch) (Z : State) (a0 : Array Value) (hw : ∀ d ∈ tables_1, d.before a0 Z = true) (ws : List Jvm.Cond) (a1 : Addr) (a2 : Addr) (ka : ClassId) (kb : ClassId) (h0 : Heap) (n0 : Nat) (Z0 : n0 ≤ h0.size) (V_a1 : Arv Z h0 a1 ka .byte (0 : Int32) [] (.int (0 : Int32))) (V_a2 : Arv Z h0 a2 kb .byte (0 : Int32) [] (.int (0 : Int32))) :
    MetFree l (⟨"java/lang/StringLatin1", "equals", "([B[B)Z"⟩ : MethodName) (head1 (Jvm.Cond.code (⟨"java/lang/StringLatin1", "equals", "([B[B)Z"⟩ : MethodName) jdk_43_method_13_code 3 (some .boolean) :: ws) ({ frames := 0, cells := 0, slots := 0, locals := 0 } : Room)) (fun a U => a = #[(.ref a1), (.ref a2)] ∧ Z.Warmed39 U.vm ∧ U.heap = h0) (fun _ _ _ _ _ => True) (fun _ U o U' => ∃ v L, o = .returned v ∧ Q_leq_0_0 Z a1 a2 ka kb h0 n0 v U'.heap L ∧ FrameEnd U o U' L ({ frames := 0, cells := 0, slots := 0, locals := 0 } : Room).cells ({ frames := 0, cells := 0, slots := 0, locals := 0 } : Room).slots) := by
  refine MetFree.of_bodySF (plainFor_of_name pn5) hisR ?_
  intro p e s m args below meth c s₁ Bd hml0 hP hK
  obtain ⟨rfl, hZ, hh⟩ := hP
  have hx := Bd.exec
  have hby := Bd.bytes
  have hml : c.maxLocals = 3 := hml0
  have hown : s.vm.findClass "java/lang/StringLatin1" = some m.cls := findClass_of_methodNamed Bd.named
  have hnm := (name_of_methodNamed Bd.named Bd.method).1
  have X0 : Stand p l e ({ frames := 0, cells := 0, slots := 0, locals := 0 } : Room) s m #[(.ref a1), (.ref a2)] below meth c s₁ [] 0 0 := Stand.of_body Bd
  have e0 : s₁.heap = h0 := by rw [← hh, Bd.state]; rfl
  have N0 := Fr.nil n0
  have pre0 : ∀ t, Steps p.tables e below (s₁.setTop (mkF m 0 #[.val (.ref a1), .val (.ref a2), .unset] [])) t → Steps p.tables e below (s₁.setTop (entryFrame m #[(.ref a1), (.ref a2)] 3)) t := fun t k => castTop (ef_leq_0_0 m a1 a2) k
  obtain ⟨cl_a1_1_1, Ar_a1_1_1, -, S_a1_1_1, N_a1_1_1, -, -⟩ := id V_a1
  obtain ⟨cl_a2_3_2, Ar_a2_3_2, -, S_a2_3_2, N_a2_3_2, -, -⟩ := id V_a2
  obtain ⟨cl_a1_11_3, Ar_a1_11_3, -, S_a1_11_3, N_a1_11_3, -, -⟩ := id V_a1
  obtain ⟨fs, hr, hrun, hended, hW, hsame⟩ := X0.leave (v := some (.int (1 : Int32))) (fun h => by rw [Bd.returns] at h; cases h)
  refine ⟨_, _, pre0 _ ?_, hrun, hended, _, _, rfl, ?_, ⟨_, rfl⟩, hW, hsame.mono (by decide) (by decide)⟩
  · show Steps p.tables e below (s₁.setTop (mkF m 0 #[.val (.ref a1), .val (.ref a2), .unset] [])) _
    refine XS.aloadN X0.here hx rfl (hb hby d13_0) rfl rfl ?_
    refine X0.arraylength hx (by rw [e0]; exact Ar_a1_1_1.1) (State.isArrayOf_alike hZ.alike Ar_a1_1_1.2.1) (g := (mkF m 1 #[.val (.ref a1), .val (.ref a2), .unset] [(.ref a1)])) rfl rfl (hb hby d13_1) _ ?_
    rw [len_of S_a1_1_1 N_a1_1_1]
    show Steps p.tables e below (s₁.setTop (mkF m 2 #[.val (.ref a1), .val (.ref a2), .unset] [(.int (0 : Int32))])) _
    refine XS.aloadN X0.here hx rfl (hb hby d13_2) rfl rfl ?_
    show Steps p.tables e below (s₁.setTop (mkF m 3 #[.val (.ref a1), .val (.ref a2), .unset] [(.ref a2), (.int (0 : Int32))])) _
    refine X0.arraylength hx (by rw [e0]; exact Ar_a2_3_2.1) (State.isArrayOf_alike hZ.alike Ar_a2_3_2.2.1) (g := (mkF m 3 #[.val (.ref a1), .val (.ref a2), .unset] [(.ref a2), (.int (0 : Int32))])) rfl rfl (hb hby d13_3) _ ?_
    rw [len_of S_a2_3_2 N_a2_3_2]
    show Steps p.tables e below (s₁.setTop (mkF m 4 #[.val (.ref a1), .val (.ref a2), .unset] [(.int (0 : Int32)), (.int (0 : Int32))])) _
    refine XS.icmpNo X0.here hx rfl (hb hby d13_4) rfl (teq (by decide : (0 : Int32) = (0 : Int32))).2 ?_
    refine XS.iconst X0.here hx rfl (hb hby d13_7) ?_
    show Steps p.tables e below (s₁.setTop (mkF m 8 #[.val (.ref a1), .val (.ref a2), .unset] [(.int (0 : Int32))])) _
    refine XS.istoreN X0.here hx rfl (hb hby d13_8) rfl (l' := #[.val (.ref a1), .val (.ref a2), .val (.int (0 : Int32))]) rfl ?_
    refine XS.iloadN X0.here hx rfl (hb hby d13_9) rfl ?_
    refine XS.aloadN X0.here hx rfl (hb hby d13_10) rfl rfl ?_
    show Steps p.tables e below (s₁.setTop (mkF m 11 #[.val (.ref a1), .val (.ref a2), .val (.int (0 : Int32))] [(.ref a1), (.int (0 : Int32))])) _
    refine X0.arraylength hx (by rw [e0]; exact Ar_a1_11_3.1) (State.isArrayOf_alike hZ.alike Ar_a1_11_3.2.1) (g := (mkF m 11 #[.val (.ref a1), .val (.ref a2), .val (.int (0 : Int32))] [(.ref a1), (.int (0 : Int32))])) rfl rfl (hb hby d13_11) _ ?_
    rw [len_of S_a1_11_3 N_a1_11_3]
    show Steps p.tables e below (s₁.setTop (mkF m 12 #[.val (.ref a1), .val (.ref a2), .val (.int (0 : Int32))] [(.int (0 : Int32)), (.int (0 : Int32))])) _
    refine XS.icmpYes X0.here hx rfl (pc0 := 12) (pc' := 32) rfl (hb hby d13_12) rfl (flt (by decide : ¬ ((0 : Int32) < (0 : Int32)))).2.1 (by decide) (by decide) ?_
    refine XS.iconst X0.here hx rfl (hb hby d13_32) ?_
    show Steps p.tables e below (s₁.setTop (mkF m 33 #[.val (.ref a1), .val (.ref a2), .val (.int (0 : Int32))] [(.int (1 : Int32))])) _
    exact retN X0 hx (t := .boolean) Bd.returns (by simp) (hb hby d13_33) hr
  · show Q_leq_0_0 Z a1 a2 ka kb h0 n0 _ s₁.heap _
    rw [e0]
    exact ⟨rfl, rfl, rfl⟩
theorem d12_0 : decode jdk_42_method_66_code 0 = .ok (.aload_n 0, 1) := by decide +kernel
theorem d12_1 : decode jdk_42_method_66_code 1 = .ok (.aload_n 1, 1) := by decide +kernel
theorem d12_2 : decode jdk_42_method_66_code 2 = .ok (.if_acmp .ne 5, 3) := by decide +kernel
theorem d12_7 : decode jdk_42_method_66_code 7 = .ok (.aload_n 1, 1) := by decide +kernel
theorem d12_8 : decode jdk_42_method_66_code 8 = .ok (.instanceof 10, 3) := by decide +kernel
theorem d12_11 : decode jdk_42_method_66_code 11 = .ok (.ifCond .eq 43, 3) := by decide +kernel
theorem d12_14 : decode jdk_42_method_66_code 14 = .ok (.aload_n 1, 1) := by decide +kernel
theorem d12_15 : decode jdk_42_method_66_code 15 = .ok (.checkcast 10, 3) := by decide +kernel
theorem d12_18 : decode jdk_42_method_66_code 18 = .ok (.astore_n 2, 1) := by decide +kernel
theorem d12_19 : decode jdk_42_method_66_code 19 = .ok (.getstatic 38, 3) := by decide +kernel
theorem d12_22 : decode jdk_42_method_66_code 22 = .ok (.ifCond .eq 14, 3) := by decide +kernel
theorem d12_25 : decode jdk_42_method_66_code 25 = .ok (.aload_n 0, 1) := by decide +kernel
theorem d12_26 : decode jdk_42_method_66_code 26 = .ok (.getfield 15, 3) := by decide +kernel
theorem d12_29 : decode jdk_42_method_66_code 29 = .ok (.aload_n 2, 1) := by decide +kernel
theorem d12_30 : decode jdk_42_method_66_code 30 = .ok (.getfield 15, 3) := by decide +kernel
theorem d12_33 : decode jdk_42_method_66_code 33 = .ok (.if_icmp .ne 21, 3) := by decide +kernel
theorem d12_36 : decode jdk_42_method_66_code 36 = .ok (.aload_n 0, 1) := by decide +kernel
theorem d12_37 : decode jdk_42_method_66_code 37 = .ok (.getfield 9, 3) := by decide +kernel
theorem d12_40 : decode jdk_42_method_66_code 40 = .ok (.aload_n 2, 1) := by decide +kernel
theorem d12_41 : decode jdk_42_method_66_code 41 = .ok (.getfield 9, 3) := by decide +kernel
theorem d12_44 : decode jdk_42_method_66_code 44 = .ok (.invokestatic 541, 3) := by decide +kernel
theorem d12_47 : decode jdk_42_method_66_code 47 = .ok (.ifCond .eq 7, 3) := by decide +kernel
theorem d12_50 : decode jdk_42_method_66_code 50 = .ok (.iconst 1, 1) := by decide +kernel
theorem d12_51 : decode jdk_42_method_66_code 51 = .ok (.goto 4, 3) := by decide +kernel
theorem d12_55 : decode jdk_42_method_66_code 55 = .ok (.ireturn, 1) := by decide +kernel
theorem pd6 : parseMethodDescriptor "([B[B)Z" = some ⟨[(.array .byte), (.array .byte)], some .boolean⟩ := by decide +kernel
theorem ef_eq_0_0 (m : MethodId) (a1 : Addr) (a2 : Addr) : entryFrame m #[(.ref a1), (.ref a2)] 3 = (mkF m 0 #[.val (.ref a1), .val (.ref a2), .unset] []) := by first | (simp [entryFrame, mkF, argsToLocals, Value.category]; done) | rfl
def Q_eq_0_0 (Z : State) (a1 : Addr) (a2 : Addr) (w_value_a1 : Addr) (ka : ClassId) (w_value_a2 : Addr) (kb : ClassId) (w_COMPACT_STRINGS : Int32) (h0 : Heap) (n0 : Nat) (v : Option Value) (h : Heap) (L : List Loc) : Prop := v = some (.int (1 : Int32)) ∧ L = [] ∧ h = h0
set_option maxRecDepth 65536 in
set_option maxHeartbeats 40000000 in
theorem rm_eq_0_0 (l : Launch) (Z : State) (a0 : Array Value) (hw : ∀ d ∈ tables_1, d.before a0 Z = true) (ws : List Jvm.Cond) (a1 : Addr) (a2 : Addr) (w_value_a1 : Addr) (ka : ClassId) (w_value_a2 : Addr) (kb : ClassId) (w_COMPACT_STRINGS : Int32) (h0 : Heap) (n0 : Nat) (Z0 : n0 ≤ h0.size) (E_a1 : Exa Z h0 a1 "java/lang/String") (F_coder_a1 : Fld Z h0 a1 "java/lang/String" "coder" "B" (.int (0 : Int32))) (F_value_a1 : Fld Z h0 a1 "java/lang/String" "value" "[B" (.ref w_value_a1)) (V_w_value_a1 : Arv Z h0 w_value_a1 ka .byte (0 : Int32) [] (.int (0 : Int32))) (E_a2 : Exa Z h0 a2 "java/lang/String") (F_coder_a2 : Fld Z h0 a2 "java/lang/String" "coder" "B" (.int (0 : Int32))) (F_value_a2 : Fld Z h0 a2 "java/lang/String" "value" "[B" (.ref w_value_a2)) (V_w_value_a2 : Arv Z h0 w_value_a2 kb .byte (0 : Int32) [] (.int (0 : Int32))) (S_COMPACT_STRINGS : Sta Z h0 "java/lang/String" "COMPACT_STRINGS" "Z" (.int w_COMPACT_STRINGS)) (hne_12 : a1 ≠ a2) (hCS : ¬ (w_COMPACT_STRINGS = (0 : Int32))) :
    MetFree l (⟨"java/lang/String", "equals", "(Ljava/lang/Object;)Z"⟩ : MethodName) (head1 (Jvm.Cond.code (⟨"java/lang/String", "equals", "(Ljava/lang/Object;)Z"⟩ : MethodName) jdk_42_method_66_code 3 (some .boolean) :: ws) ({ frames := 1, cells := 0, slots := 0, locals := 14 } : Room)) (fun a U => a = #[(.ref a1), (.ref a2)] ∧ Z.Warmed39 U.vm ∧ U.heap = h0) (fun _ _ _ _ _ => True) (fun _ U o U' => ∃ v L, o = .returned v ∧ Q_eq_0_0 Z a1 a2 w_value_a1 ka w_value_a2 kb w_COMPACT_STRINGS h0 n0 v U'.heap L ∧ FrameEnd U o U' L ({ frames := 1, cells := 0, slots := 0, locals := 14 } : Room).cells ({ frames := 1, cells := 0, slots := 0, locals := 14 } : Room).slots) := by
  refine MetFree.of_bodySF (plainFor_of_name pn0) hisR ?_
  intro p e s m args below meth c s₁ Bd hml0 hP hK
  obtain ⟨rfl, hZ, hh⟩ := hP
  have hx := Bd.exec
  have hby := Bd.bytes
  have hml : c.maxLocals = 3 := hml0
  have hown : s.vm.findClass "java/lang/String" = some m.cls := findClass_of_methodNamed Bd.named
  have hnm := (name_of_methodNamed Bd.named Bd.method).1
  have X0 : Stand p l e ({ frames := 1, cells := 0, slots := 0, locals := 14 } : Room) s m #[(.ref a1), (.ref a2)] below meth c s₁ [] 0 0 := Stand.of_body Bd
  have e0 : s₁.heap = h0 := by rw [← hh, Bd.state]; rfl
  have N0 := Fr.nil n0
  have pre0 : ∀ t, Steps p.tables e below (s₁.setTop (mkF m 0 #[.val (.ref a1), .val (.ref a2), .unset] [])) t → Steps p.tables e below (s₁.setTop (entryFrame m #[(.ref a1), (.ref a2)] 3)) t := fun t k => castTop (ef_eq_0_0 m a1 a2) k
  obtain ⟨T1, X1, e1, st1⟩ := instY X0 hx hZ hown (hw _ (List.mem_of_getElem? (i := 91) rfl)) e0 (Ins.self E_a2) (g := (mkF m 8 #[.val (.ref a1), .val (.ref a2), .unset] [(.ref a2)])) rfl rfl (hb hby d12_8)
  obtain ⟨T2, X2, e2, st2⟩ := castY X1 hx hZ hown (hw _ (List.mem_of_getElem? (i := 91) rfl)) e1 (Ins.self E_a2) (g := (mkF m 15 #[.val (.ref a1), .val (.ref a2), .unset] [(.ref a2)])) rfl rfl (hb hby d12_15)
  obtain ⟨T3, X3, e3, st3⟩ := getS2 X2 hx hZ hown (host := "") (Or.inl (hw _ (List.mem_of_getElem? (i := 19) rfl))) Via.refl e2 S_COMPACT_STRINGS (g := (mkF m 19 #[.val (.ref a1), .val (.ref a2), .val (.ref a2)] [])) rfl (hb hby d12_19)
  obtain ⟨T4, X4, e4, st4⟩ := getF X3 hx hZ hown (host := "") (Or.inl (hw _ (List.mem_of_getElem? (i := 31) rfl))) Via.refl e3 F_coder_a1 (g := (mkF m 26 #[.val (.ref a1), .val (.ref a2), .val (.ref a2)] [(.ref a1)])) rfl rfl (hb hby d12_26)
  obtain ⟨T5, X5, e5, st5⟩ := getF X4 hx hZ hown (host := "") (Or.inl (hw _ (List.mem_of_getElem? (i := 31) rfl))) Via.refl e4 F_coder_a2 (g := (mkF m 30 #[.val (.ref a1), .val (.ref a2), .val (.ref a2)] [(.ref a2), (.int (0 : Int32))])) rfl rfl (hb hby d12_30)
  obtain ⟨T6, X6, e6, st6⟩ := getF X5 hx hZ hown (host := "") (Or.inl (hw _ (List.mem_of_getElem? (i := 33) rfl))) Via.refl e5 F_value_a1 (g := (mkF m 37 #[.val (.ref a1), .val (.ref a2), .val (.ref a2)] [(.ref a1)])) rfl rfl (hb hby d12_37)
  obtain ⟨T7, X7, e7, st7⟩ := getF X6 hx hZ hown (host := "") (Or.inl (hw _ (List.mem_of_getElem? (i := 33) rfl))) Via.refl e6 F_value_a2 (g := (mkF m 41 #[.val (.ref a1), .val (.ref a2), .val (.ref a2)] [(.ref a2), (.ref w_value_a1)])) rfl rfl (hb hby d12_41)
  obtain ⟨_, _, ⟨T8, L8, k8, n8⟩, -, X8, ⟨Lc8, hQ8, l8, y8, z8⟩, st8⟩ := Jvm.LawKit.callS X7 hx (y := (⟨"java/lang/StringLatin1", "equals", "([B[B)Z"⟩ : MethodName)) hown (mvT hZ (hw _ (List.mem_of_getElem? (i := 92) rfl))) (mvT hZ (hw _ (List.mem_of_getElem? (i := 93) rfl))) (mvT hZ (hw _ (List.mem_of_getElem? (i := 94) rfl))) (mvT hZ (hw _ (List.mem_of_getElem? (i := 95) rfl))) (by decide) (backOf (W := 0) (rm_leq_0_0 l Z a0 hw [] w_value_a1 w_value_a2 ka kb h0 n0 (Nat.le_trans Z0 (Keep.refl h0 []).1) V_w_value_a1 V_w_value_a2 ) hZ (hw _ (List.mem_of_getElem? (i := 95) rfl)) (hw _ (List.mem_of_getElem? (i := 94) rfl)) (by decide) (by decide)) (g := (mkF m 44 #[.val (.ref a1), .val (.ref a2), .val (.ref a2)] [(.ref w_value_a2), (.ref w_value_a1)])) rfl (by rw [hml]; rfl) (argsL := [(.ref w_value_a1), (.ref w_value_a2)]) (rest := []) (lenOf pd6 rfl) rfl (by show 2 * 0 + _ ≤ _; exact Nat.le_of_eq rfl) (hb hby d12_44) (fun _ _ => ⟨rfl, e7, (by decide : 0 + 0 ≤ _), (by decide : 0 + 0 ≤ _)⟩)
  dsimp only [Pt.U, Pt.locs, Pt.cells, Pt.slots] at X8 l8 y8 z8 st8 hQ8
  subst l8 y8 z8
  obtain ⟨rfl, rfl, e8⟩ := hQ8
  have N8 := Fr.app N0 (Fr.nil n0)
  obtain ⟨fs, hr, hrun, hended, hW, hsame⟩ := X8.leave (v := some (.int (1 : Int32))) (fun h => by rw [Bd.returns] at h; cases h)
  refine ⟨_, _, pre0 _ ?_, hrun, hended, _, _, rfl, ?_, ⟨_, rfl⟩, hW, hsame.mono (by decide) (by decide)⟩
  · show Steps p.tables e below (s₁.setTop (mkF m 0 #[.val (.ref a1), .val (.ref a2), .unset] [])) _
    refine XS.aloadN X0.here hx rfl (hb hby d12_0) rfl rfl ?_
    refine XS.aloadN X0.here hx rfl (hb hby d12_1) rfl rfl ?_
    refine Jvm.RoadKit.acmp (g := (mkF m 2 #[.val (.ref a1), .val (.ref a2), .unset] [(.ref a2), (.ref a1)])) X0 hx rfl rfl rfl (pc0 := 2) (pc' := 7) (same := false) rfl (hb hby d12_2) rfl (decide_eq_false fun q => hne_12 (Value.ref.inj q)) (by decide) (by decide) ?_
    show Steps p.tables e below (s₁.setTop (mkF m 7 #[.val (.ref a1), .val (.ref a2), .unset] [])) _
    refine XS.aloadN X0.here hx rfl (hb hby d12_7) rfl rfl ?_
    show Steps p.tables e below (s₁.setTop (mkF m 8 #[.val (.ref a1), .val (.ref a2), .unset] [(.ref a2)])) _
    refine st1 _ ?_
    show Steps p.tables e below (T1.setTop (mkF m 11 #[.val (.ref a1), .val (.ref a2), .unset] [(.int (1 : Int32))])) _
    refine XS.ifNo X1.here hx rfl (hb hby d12_11) rfl ((if0 _ _).trans (feq (by decide : ¬ ((1 : Int32) = (0 : Int32)))).1) ?_
    refine XS.aloadN X1.here hx rfl (hb hby d12_14) rfl rfl ?_
    show Steps p.tables e below (T1.setTop (mkF m 15 #[.val (.ref a1), .val (.ref a2), .unset] [(.ref a2)])) _
    refine st2 _ ?_
    show Steps p.tables e below (T2.setTop (mkF m 18 #[.val (.ref a1), .val (.ref a2), .unset] [(.ref a2)])) _
    refine XS.astoreN X2.here hx rfl (hb hby d12_18) rfl rfl (l' := #[.val (.ref a1), .val (.ref a2), .val (.ref a2)]) rfl ?_
    show Steps p.tables e below (T2.setTop (mkF m 19 #[.val (.ref a1), .val (.ref a2), .val (.ref a2)] [])) _
    refine st3 _ ?_
    show Steps p.tables e below (T3.setTop (mkF m 22 #[.val (.ref a1), .val (.ref a2), .val (.ref a2)] [(.int w_COMPACT_STRINGS)])) _
    refine XS.ifNo X3.here hx rfl (hb hby d12_22) rfl ((if0 _ _).trans (feq (hCS : ¬ (w_COMPACT_STRINGS = (0 : Int32)))).1) ?_
    refine XS.aloadN X3.here hx rfl (hb hby d12_25) rfl rfl ?_
    show Steps p.tables e below (T3.setTop (mkF m 26 #[.val (.ref a1), .val (.ref a2), .val (.ref a2)] [(.ref a1)])) _
    refine st4 _ ?_
    show Steps p.tables e below (T4.setTop (mkF m 29 #[.val (.ref a1), .val (.ref a2), .val (.ref a2)] [(.int (0 : Int32))])) _
    refine XS.aloadN X4.here hx rfl (hb hby d12_29) rfl rfl ?_
    show Steps p.tables e below (T4.setTop (mkF m 30 #[.val (.ref a1), .val (.ref a2), .val (.ref a2)] [(.ref a2), (.int (0 : Int32))])) _
    refine st5 _ ?_
    show Steps p.tables e below (T5.setTop (mkF m 33 #[.val (.ref a1), .val (.ref a2), .val (.ref a2)] [(.int (0 : Int32)), (.int (0 : Int32))])) _
    refine XS.icmpNo X5.here hx rfl (hb hby d12_33) rfl (teq (by decide : (0 : Int32) = (0 : Int32))).2 ?_
    refine XS.aloadN X5.here hx rfl (hb hby d12_36) rfl rfl ?_
    show Steps p.tables e below (T5.setTop (mkF m 37 #[.val (.ref a1), .val (.ref a2), .val (.ref a2)] [(.ref a1)])) _
    refine st6 _ ?_
    show Steps p.tables e below (T6.setTop (mkF m 40 #[.val (.ref a1), .val (.ref a2), .val (.ref a2)] [(.ref w_value_a1)])) _
    refine XS.aloadN X6.here hx rfl (hb hby d12_40) rfl rfl ?_
    show Steps p.tables e below (T6.setTop (mkF m 41 #[.val (.ref a1), .val (.ref a2), .val (.ref a2)] [(.ref a2), (.ref w_value_a1)])) _
    refine st7 _ ?_
    show Steps p.tables e below (T7.setTop (mkF m 44 #[.val (.ref a1), .val (.ref a2), .val (.ref a2)] [(.ref w_value_a2), (.ref w_value_a1)])) _
    refine st8 _ ?_
    show Steps p.tables e below (T8.setTop (mkF m 47 #[.val (.ref a1), .val (.ref a2), .val (.ref a2)] [(.int (1 : Int32))])) _
    refine XS.ifNo X8.here hx rfl (hb hby d12_47) rfl ((if0 _ _).trans (feq (by decide : ¬ ((1 : Int32) = (0 : Int32)))).1) ?_
    refine XS.iconst X8.here hx rfl (hb hby d12_50) ?_
    show Steps p.tables e below (T8.setTop (mkF m 51 #[.val (.ref a1), .val (.ref a2), .val (.ref a2)] [(.int (1 : Int32))])) _
    refine XS.goto X8.here hx rfl (pc0 := 51) (pc' := 55) rfl (hb hby d12_51) (by decide) (by decide) ?_
    show Steps p.tables e below (T8.setTop (mkF m 55 #[.val (.ref a1), .val (.ref a2), .val (.ref a2)] [(.int (1 : Int32))])) _
    exact retN X8 hx (t := .boolean) Bd.returns (by simp) (hb hby d12_55) hr
  · show Q_eq_0_0 Z a1 a2 w_value_a1 ka w_value_a2 kb w_COMPACT_STRINGS h0 n0 _ T8.heap _
    rw [e8]
    exact ⟨rfl, rfl, rfl⟩
theorem d11_0 : decode prog_3_method_2_code 0 = .ok (.aload_n 0, 1) := by decide +kernel
theorem d11_1 : decode prog_3_method_2_code 1 = .ok (.getfield 7, 3) := by decide +kernel
theorem d11_4 : decode prog_3_method_2_code 4 = .ok (.getstatic 21, 3) := by decide +kernel
theorem d11_7 : decode prog_3_method_2_code 7 = .ok (.if_acmp .ne 18, 3) := by decide +kernel
theorem d11_10 : decode prog_3_method_2_code 10 = .ok (.aload_n 0, 1) := by decide +kernel
theorem d11_11 : decode prog_3_method_2_code 11 = .ok (.getfield 13, 3) := by decide +kernel
theorem d11_14 : decode prog_3_method_2_code 14 = .ok (.aload_n 1, 1) := by decide +kernel
theorem d11_15 : decode prog_3_method_2_code 15 = .ok (.invokevirtual 26, 3) := by decide +kernel
theorem d11_18 : decode prog_3_method_2_code 18 = .ok (.ifCond .eq 7, 3) := by decide +kernel
theorem d11_21 : decode prog_3_method_2_code 21 = .ok (.iconst 1, 1) := by decide +kernel
theorem d11_22 : decode prog_3_method_2_code 22 = .ok (.goto 4, 3) := by decide +kernel
theorem d11_25 : decode prog_3_method_2_code 25 = .ok (.iconst 0, 1) := by decide +kernel
theorem d11_26 : decode prog_3_method_2_code 26 = .ok (.ireturn, 1) := by decide +kernel
def res_is_0_0 (w_kind_a1 : Addr) (w_PUNCT : Addr) : Int32 := if w_kind_a1 = w_PUNCT then (1 : Int32) else (0 : Int32)
theorem pd7 : parseMethodDescriptor "(Ljava/lang/Object;)Z" = some ⟨[(.object "java/lang/Object")], some .boolean⟩ := by decide +kernel
theorem ef_is_0_0 (m : MethodId) (a1 : Addr) (a2 : Addr) : entryFrame m #[(.ref a1), (.ref a2)] 2 = (mkF m 0 #[.val (.ref a1), .val (.ref a2)] []) := by first | (simp [entryFrame, mkF, argsToLocals, Value.category]; done) | rfl
def Q_is_0_0 (Z : State) (a1 : Addr) (a2 : Addr) (w_value_a2 : Addr) (kb : ClassId) (w_text_a1 : Addr) (w_value_w_text_a1 : Addr) (ka : ClassId) (w_kind_a1 : Addr) (w_PUNCT : Addr) (w_COMPACT_STRINGS : Int32) (h0 : Heap) (n0 : Nat) (v : Option Value) (h : Heap) (L : List Loc) : Prop := v = some (.int (res_is_0_0 w_kind_a1 w_PUNCT)) ∧ L = [] ∧ h = h0
set_option maxRecDepth 65536 in
set_option maxHeartbeats 40000000 in
theorem rm_is_0_0 (l : Launch) (Z : State) (a0 : Array Value) (hw : ∀ d ∈ tables_1, d.before a0 Z = true) (ws : List Jvm.Cond) (a1 : Addr) (a2 : Addr) (w_value_a2 : Addr) (kb : ClassId) (w_text_a1 : Addr) (w_value_w_text_a1 : Addr) (ka : ClassId) (w_kind_a1 : Addr) (w_PUNCT : Addr) (w_COMPACT_STRINGS : Int32) (h0 : Heap) (n0 : Nat) (Z0 : n0 ≤ h0.size) (E_a2 : Exa Z h0 a2 "java/lang/String") (F_coder_a2 : Fld Z h0 a2 "java/lang/String" "coder" "B" (.int (0 : Int32))) (F_value_a2 : Fld Z h0 a2 "java/lang/String" "value" "[B" (.ref w_value_a2)) (V_w_value_a2 : Arv Z h0 w_value_a2 kb .byte (0 : Int32) [] (.int (0 : Int32))) (F_text_a1 : Fld Z h0 a1 "com/example/cantrip/cantrip/Token" "text" "Ljava/lang/String;" (.ref w_text_a1)) (E_w_text_a1 : Exa Z h0 w_text_a1 "java/lang/String") (F_coder_w_text_a1 : Fld Z h0 w_text_a1 "java/lang/String" "coder" "B" (.int (0 : Int32))) (F_value_w_text_a1 : Fld Z h0 w_text_a1 "java/lang/String" "value" "[B" (.ref w_value_w_text_a1)) (V_w_value_w_text_a1 : Arv Z h0 w_value_w_text_a1 ka .byte (0 : Int32) [] (.int (0 : Int32))) (F_kind_a1 : Fld Z h0 a1 "com/example/cantrip/cantrip/Token" "kind" "Lcom/example/cantrip/cantrip/Token$Kind;" (.ref w_kind_a1)) (S_PUNCT : Sta Z h0 "com/example/cantrip/cantrip/Token$Kind" "PUNCT" "Lcom/example/cantrip/cantrip/Token$Kind;" (.ref w_PUNCT)) (S_COMPACT_STRINGS : Sta Z h0 "java/lang/String" "COMPACT_STRINGS" "Z" (.int w_COMPACT_STRINGS)) (hne_t : w_text_a1 ≠ a2) (hCS : ¬ (w_COMPACT_STRINGS = (0 : Int32))) :
    MetFree l (⟨"com/example/cantrip/cantrip/Token", "is", "(Ljava/lang/String;)Z"⟩ : MethodName) (head1 (Jvm.Cond.code (⟨"com/example/cantrip/cantrip/Token", "is", "(Ljava/lang/String;)Z"⟩ : MethodName) prog_3_method_2_code 2 (some .boolean) :: ws) ({ frames := 2, cells := 0, slots := 0, locals := 28 } : Room)) (fun a U => a = #[(.ref a1), (.ref a2)] ∧ Z.Warmed39 U.vm ∧ U.heap = h0) (fun _ _ _ _ _ => True) (fun _ U o U' => ∃ v L, o = .returned v ∧ Q_is_0_0 Z a1 a2 w_value_a2 kb w_text_a1 w_value_w_text_a1 ka w_kind_a1 w_PUNCT w_COMPACT_STRINGS h0 n0 v U'.heap L ∧ FrameEnd U o U' L ({ frames := 2, cells := 0, slots := 0, locals := 28 } : Room).cells ({ frames := 2, cells := 0, slots := 0, locals := 28 } : Room).slots) := by
  refine MetFree.of_bodySF (plainFor_of_name pn4) hisR ?_
  intro p e s m args below meth c s₁ Bd hml0 hP hK
  obtain ⟨rfl, hZ, hh⟩ := hP
  have hx := Bd.exec
  have hby := Bd.bytes
  have hml : c.maxLocals = 2 := hml0
  have hown : s.vm.findClass "com/example/cantrip/cantrip/Token" = some m.cls := findClass_of_methodNamed Bd.named
  have hnm := (name_of_methodNamed Bd.named Bd.method).1
  have X0 : Stand p l e ({ frames := 2, cells := 0, slots := 0, locals := 28 } : Room) s m #[(.ref a1), (.ref a2)] below meth c s₁ [] 0 0 := Stand.of_body Bd
  have e0 : s₁.heap = h0 := by rw [← hh, Bd.state]; rfl
  have N0 := Fr.nil n0
  have pre0 : ∀ t, Steps p.tables e below (s₁.setTop (mkF m 0 #[.val (.ref a1), .val (.ref a2)] [])) t → Steps p.tables e below (s₁.setTop (entryFrame m #[(.ref a1), (.ref a2)] 2)) t := fun t k => castTop (ef_is_0_0 m a1 a2) k
  obtain ⟨T1, X1, e1, st1⟩ := getF X0 hx hZ hown (host := "") (Or.inl (hw _ (List.mem_of_getElem? (i := 56) rfl))) Via.refl e0 F_kind_a1 (g := (mkF m 1 #[.val (.ref a1), .val (.ref a2)] [(.ref a1)])) rfl rfl (hb hby d11_1)
  obtain ⟨T2, X2, e2, st2⟩ := getS2 X1 hx hZ hown (host := "") (Or.inl (hw _ (List.mem_of_getElem? (i := 67) rfl))) Via.refl e1 S_PUNCT (g := (mkF m 4 #[.val (.ref a1), .val (.ref a2)] [(.ref w_kind_a1)])) rfl (hb hby d11_4)
  have pre3 : ∀ t, Steps p.tables e below (T2.setTop (mkF m 7 #[.val (.ref a1), .val (.ref a2)] [(.ref w_PUNCT), (.ref w_kind_a1)])) t → Steps p.tables e below (s₁.setTop (entryFrame m #[(.ref a1), (.ref a2)] 2)) t := by
    intro t kt
    refine pre0 _ ?_
    show Steps p.tables e below (s₁.setTop (mkF m 0 #[.val (.ref a1), .val (.ref a2)] [])) _
    refine XS.aloadN X0.here hx rfl (hb hby d11_0) rfl rfl ?_
    show Steps p.tables e below (s₁.setTop (mkF m 1 #[.val (.ref a1), .val (.ref a2)] [(.ref a1)])) _
    refine st1 _ ?_
    show Steps p.tables e below (T1.setTop (mkF m 4 #[.val (.ref a1), .val (.ref a2)] [(.ref w_kind_a1)])) _
    refine st2 _ ?_
    exact kt
  by_cases hc7_4 : w_kind_a1 = w_PUNCT
  · obtain ⟨T5, X5, e5, st5⟩ := getF X2 hx hZ hown (host := "") (Or.inl (hw _ (List.mem_of_getElem? (i := 58) rfl))) Via.refl e2 F_text_a1 (g := (mkF m 11 #[.val (.ref a1), .val (.ref a2)] [(.ref a1)])) rfl rfl (hb hby d11_11)
    obtain ⟨cq6, kq6, q6a, q6b, q6c⟩ := isOf hZ e5 E_w_text_a1
    obtain ⟨_, _, ⟨T6, L6, k6, n6⟩, -, X6, ⟨Lc6, hQ6, l6, y6, z6⟩, st6⟩ := X5.virtualBack hx (y := (⟨"java/lang/String", "equals", "(Ljava/lang/Object;)Z"⟩ : MethodName)) (z := (⟨"java/lang/String", "equals", "(Ljava/lang/Object;)Z"⟩ : MethodName)) hown (mvT hZ (hw _ (List.mem_of_getElem? (i := 86) rfl))) (mvT hZ (hw _ (List.mem_of_getElem? (i := 87) rfl))) (notFace_of_selects (args := #[]) (mvT hZ (hw _ (List.mem_of_getElem? (i := 89) rfl)))) (mvT hZ (hw _ (List.mem_of_getElem? (i := 89) rfl))) (mvT hZ (hw _ (List.mem_of_getElem? (i := 88) rfl))) (by decide) (backOf (W := 0) (rm_eq_0_0 l Z a0 hw [] w_text_a1 a2 w_value_w_text_a1 ka w_value_a2 kb w_COMPACT_STRINGS h0 n0 (Nat.le_trans Z0 (Keep.refl h0 []).1) E_w_text_a1 F_coder_w_text_a1 F_value_w_text_a1 V_w_value_w_text_a1 E_a2 F_coder_a2 F_value_a2 V_w_value_a2 S_COMPACT_STRINGS (hne_t : w_text_a1 ≠ a2) (hCS : ¬ (w_COMPACT_STRINGS = (0 : Int32)))) hZ (hw _ (List.mem_of_getElem? (i := 90) rfl)) (hw _ (List.mem_of_getElem? (i := 7) rfl)) (by decide) (by decide)) q6a q6c (g := (mkF m 15 #[.val (.ref a1), .val (.ref a2)] [(.ref a2), (.ref w_text_a1)])) rfl (by rw [hml]; rfl) (Steps.refl _) (argsL := [(.ref a2)]) (rest := []) (lenOf pd7 rfl) rfl (by show 2 * 0 + _ ≤ _; exact Nat.le_of_eq rfl) (hb hby d11_15) (fun _ _ => ⟨rfl, e5, (by decide : 0 + 0 ≤ _), (by decide : 0 + 0 ≤ _)⟩)
    dsimp only [Pt.U, Pt.locs, Pt.cells, Pt.slots] at X6 l6 y6 z6 st6 hQ6
    subst l6 y6 z6
    obtain ⟨rfl, rfl, e6⟩ := hQ6
    have N6 := Fr.app N0 (Fr.nil n0)
    obtain ⟨fs, hr, hrun, hended, hW, hsame⟩ := X6.leave (v := some (.int (1 : Int32))) (fun h => by rw [Bd.returns] at h; cases h)
    refine ⟨_, _, pre3 _ ?_, hrun, hended, _, _, rfl, ?_, ⟨_, rfl⟩, hW, hsame.mono (by decide) (by decide)⟩
    · show Steps p.tables e below (T2.setTop (mkF m 7 #[.val (.ref a1), .val (.ref a2)] [(.ref w_PUNCT), (.ref w_kind_a1)])) _
      refine Jvm.RoadKit.acmp (g := (mkF m 7 #[.val (.ref a1), .val (.ref a2)] [(.ref w_PUNCT), (.ref w_kind_a1)])) X2 hx rfl rfl rfl (pc0 := 7) (pc' := 10) (same := true) rfl (hb hby d11_7) rfl (decide_eq_true (congrArg Value.ref hc7_4)) (by decide) (by decide) ?_
      show Steps p.tables e below (T2.setTop (mkF m 10 #[.val (.ref a1), .val (.ref a2)] [])) _
      refine XS.aloadN X2.here hx rfl (hb hby d11_10) rfl rfl ?_
      show Steps p.tables e below (T2.setTop (mkF m 11 #[.val (.ref a1), .val (.ref a2)] [(.ref a1)])) _
      refine st5 _ ?_
      show Steps p.tables e below (T5.setTop (mkF m 14 #[.val (.ref a1), .val (.ref a2)] [(.ref w_text_a1)])) _
      refine XS.aloadN X5.here hx rfl (hb hby d11_14) rfl rfl ?_
      show Steps p.tables e below (T5.setTop (mkF m 15 #[.val (.ref a1), .val (.ref a2)] [(.ref a2), (.ref w_text_a1)])) _
      refine st6.trans ?_
      show Steps p.tables e below (T6.setTop (mkF m 18 #[.val (.ref a1), .val (.ref a2)] [(.int (1 : Int32))])) _
      refine XS.ifNo X6.here hx rfl (hb hby d11_18) rfl ((if0 _ _).trans (feq (by decide : ¬ ((1 : Int32) = (0 : Int32)))).1) ?_
      refine XS.iconst X6.here hx rfl (hb hby d11_21) ?_
      show Steps p.tables e below (T6.setTop (mkF m 22 #[.val (.ref a1), .val (.ref a2)] [(.int (1 : Int32))])) _
      refine XS.goto X6.here hx rfl (pc0 := 22) (pc' := 26) rfl (hb hby d11_22) (by decide) (by decide) ?_
      show Steps p.tables e below (T6.setTop (mkF m 26 #[.val (.ref a1), .val (.ref a2)] [(.int (1 : Int32))])) _
      exact retN X6 hx (t := .boolean) Bd.returns (by simp) (hb hby d11_26) hr
    · show Q_is_0_0 Z a1 a2 w_value_a2 kb w_text_a1 w_value_w_text_a1 ka w_kind_a1 w_PUNCT w_COMPACT_STRINGS h0 n0 _ T6.heap _
      rw [e6]
      exact ⟨by rw [res_is_0_0, if_pos hc7_4], rfl, rfl⟩
  · obtain ⟨fs, hr, hrun, hended, hW, hsame⟩ := X2.leave (v := some (.int (0 : Int32))) (fun h => by rw [Bd.returns] at h; cases h)
    refine ⟨_, _, pre3 _ ?_, hrun, hended, _, _, rfl, ?_, ⟨_, rfl⟩, hW, hsame.mono (by decide) (by decide)⟩
    · show Steps p.tables e below (T2.setTop (mkF m 7 #[.val (.ref a1), .val (.ref a2)] [(.ref w_PUNCT), (.ref w_kind_a1)])) _
      refine Jvm.RoadKit.acmp (g := (mkF m 7 #[.val (.ref a1), .val (.ref a2)] [(.ref w_PUNCT), (.ref w_kind_a1)])) X2 hx rfl rfl rfl (pc0 := 7) (pc' := 25) (same := false) rfl (hb hby d11_7) rfl (decide_eq_false fun q => hc7_4 (Value.ref.inj q)) (by decide) (by decide) ?_
      show Steps p.tables e below (T2.setTop (mkF m 25 #[.val (.ref a1), .val (.ref a2)] [])) _
      refine XS.iconst X2.here hx rfl (hb hby d11_25) ?_
      show Steps p.tables e below (T2.setTop (mkF m 26 #[.val (.ref a1), .val (.ref a2)] [(.int (0 : Int32))])) _
      exact retN X2 hx (t := .boolean) Bd.returns (by simp) (hb hby d11_26) hr
    · show Q_is_0_0 Z a1 a2 w_value_a2 kb w_text_a1 w_value_w_text_a1 ka w_kind_a1 w_PUNCT w_COMPACT_STRINGS h0 n0 _ T2.heap _
      rw [e2]
      exact ⟨by rw [res_is_0_0, if_neg hc7_4], rfl, rfl⟩
theorem d13_34 : decode jdk_43_method_13_code 34 = .ok (.iconst 0, 1) := by decide +kernel
theorem d13_35 : decode jdk_43_method_13_code 35 = .ok (.ireturn, 1) := by decide +kernel
theorem ef_leq_0_1 (m : MethodId) (a1 : Addr) (a2 : Addr) : entryFrame m #[(.ref a1), (.ref a2)] 3 = (mkF m 0 #[.val (.ref a1), .val (.ref a2), .unset] []) := by first | (simp [entryFrame, mkF, argsToLocals, Value.category]; done) | rfl
def Q_leq_0_1 (Z : State) (a1 : Addr) (a2 : Addr) (ka : ClassId) (kb : ClassId) (y0 : Int32) (h0 : Heap) (n0 : Nat) (v : Option Value) (h : Heap) (L : List Loc) : Prop := v = some (.int (0 : Int32)) ∧ L = [] ∧ h = h0
set_option maxRecDepth 65536 in
set_option maxHeartbeats 40000000 in
theorem rm_leq_0_1 (l : Launch) (Z : State) (a0 : Array Value) (hw : ∀ d ∈ tables_1, d.before a0 Z = true) (ws : List Jvm.Cond) (a1 : Addr) (a2 : Addr) (ka : ClassId) (kb : ClassId) (y0 : Int32) (h0 : Heap) (n0 : Nat) (Z0 : n0 ≤ h0.size) (V_a1 : Arv Z h0 a1 ka .byte (0 : Int32) [] (.int (0 : Int32))) (V_a2 : Arv Z h0 a2 kb .byte (1 : Int32) [(.int y0)] (.int (0 : Int32))) :
    MetFree l (⟨"java/lang/StringLatin1", "equals", "([B[B)Z"⟩ : MethodName) (head1 (Jvm.Cond.code (⟨"java/lang/StringLatin1", "equals", "([B[B)Z"⟩ : MethodName) jdk_43_method_13_code 3 (some .boolean) :: ws) ({ frames := 0, cells := 0, slots := 0, locals := 0 } : Room)) (fun a U => a = #[(.ref a1), (.ref a2)] ∧ Z.Warmed39 U.vm ∧ U.heap = h0) (fun _ _ _ _ _ => True) (fun _ U o U' => ∃ v L, o = .returned v ∧ Q_leq_0_1 Z a1 a2 ka kb y0 h0 n0 v U'.heap L ∧ FrameEnd U o U' L ({ frames := 0, cells := 0, slots := 0, locals := 0 } : Room).cells ({ frames := 0, cells := 0, slots := 0, locals := 0 } : Room).slots) := by
  refine MetFree.of_bodySF (plainFor_of_name pn5) hisR ?_
  intro p e s m args below meth c s₁ Bd hml0 hP hK
  obtain ⟨rfl, hZ, hh⟩ := hP
  have hx := Bd.exec
  have hby := Bd.bytes
  have hml : c.maxLocals = 3 := hml0
  have hown : s.vm.findClass "java/lang/StringLatin1" = some m.cls := findClass_of_methodNamed Bd.named
  have hnm := (name_of_methodNamed Bd.named Bd.method).1
  have X0 : Stand p l e ({ frames := 0, cells := 0, slots := 0, locals := 0 } : Room) s m #[(.ref a1), (.ref a2)] below meth c s₁ [] 0 0 := Stand.of_body Bd
  have e0 : s₁.heap = h0 := by rw [← hh, Bd.state]; rfl
  have N0 := Fr.nil n0
  have pre0 : ∀ t, Steps p.tables e below (s₁.setTop (mkF m 0 #[.val (.ref a1), .val (.ref a2), .unset] [])) t → Steps p.tables e below (s₁.setTop (entryFrame m #[(.ref a1), (.ref a2)] 3)) t := fun t k => castTop (ef_leq_0_1 m a1 a2) k
  obtain ⟨cl_a1_1_1, Ar_a1_1_1, -, S_a1_1_1, N_a1_1_1, -, -⟩ := id V_a1
  obtain ⟨cl_a2_3_2, Ar_a2_3_2, -, S_a2_3_2, N_a2_3_2, -, -⟩ := id V_a2
  obtain ⟨fs, hr, hrun, hended, hW, hsame⟩ := X0.leave (v := some (.int (0 : Int32))) (fun h => by rw [Bd.returns] at h; cases h)
  refine ⟨_, _, pre0 _ ?_, hrun, hended, _, _, rfl, ?_, ⟨_, rfl⟩, hW, hsame.mono (by decide) (by decide)⟩
  · show Steps p.tables e below (s₁.setTop (mkF m 0 #[.val (.ref a1), .val (.ref a2), .unset] [])) _
    refine XS.aloadN X0.here hx rfl (hb hby d13_0) rfl rfl ?_
    refine X0.arraylength hx (by rw [e0]; exact Ar_a1_1_1.1) (State.isArrayOf_alike hZ.alike Ar_a1_1_1.2.1) (g := (mkF m 1 #[.val (.ref a1), .val (.ref a2), .unset] [(.ref a1)])) rfl rfl (hb hby d13_1) _ ?_
    rw [len_of S_a1_1_1 N_a1_1_1]
    show Steps p.tables e below (s₁.setTop (mkF m 2 #[.val (.ref a1), .val (.ref a2), .unset] [(.int (0 : Int32))])) _
    refine XS.aloadN X0.here hx rfl (hb hby d13_2) rfl rfl ?_
    show Steps p.tables e below (s₁.setTop (mkF m 3 #[.val (.ref a1), .val (.ref a2), .unset] [(.ref a2), (.int (0 : Int32))])) _
    refine X0.arraylength hx (by rw [e0]; exact Ar_a2_3_2.1) (State.isArrayOf_alike hZ.alike Ar_a2_3_2.2.1) (g := (mkF m 3 #[.val (.ref a1), .val (.ref a2), .unset] [(.ref a2), (.int (0 : Int32))])) rfl rfl (hb hby d13_3) _ ?_
    rw [len_of S_a2_3_2 N_a2_3_2]
    show Steps p.tables e below (s₁.setTop (mkF m 4 #[.val (.ref a1), .val (.ref a2), .unset] [(.int (1 : Int32)), (.int (0 : Int32))])) _
    refine XS.icmpYes X0.here hx rfl (pc0 := 4) (pc' := 34) rfl (hb hby d13_4) rfl (feq (by decide : ¬ ((0 : Int32) = (1 : Int32)))).2 (by decide) (by decide) ?_
    refine XS.iconst X0.here hx rfl (hb hby d13_34) ?_
    show Steps p.tables e below (s₁.setTop (mkF m 35 #[.val (.ref a1), .val (.ref a2), .unset] [(.int (0 : Int32))])) _
    exact retN X0 hx (t := .boolean) Bd.returns (by simp) (hb hby d13_35) hr
  · show Q_leq_0_1 Z a1 a2 ka kb y0 h0 n0 _ s₁.heap _
    rw [e0]
    exact ⟨rfl, rfl, rfl⟩
theorem d12_54 : decode jdk_42_method_66_code 54 = .ok (.iconst 0, 1) := by decide +kernel
theorem ef_eq_0_1 (m : MethodId) (a1 : Addr) (a2 : Addr) : entryFrame m #[(.ref a1), (.ref a2)] 3 = (mkF m 0 #[.val (.ref a1), .val (.ref a2), .unset] []) := by first | (simp [entryFrame, mkF, argsToLocals, Value.category]; done) | rfl
def Q_eq_0_1 (Z : State) (a1 : Addr) (a2 : Addr) (w_value_a1 : Addr) (ka : ClassId) (w_value_a2 : Addr) (kb : ClassId) (y0 : Int32) (w_COMPACT_STRINGS : Int32) (h0 : Heap) (n0 : Nat) (v : Option Value) (h : Heap) (L : List Loc) : Prop := v = some (.int (0 : Int32)) ∧ L = [] ∧ h = h0
set_option maxRecDepth 65536 in
set_option maxHeartbeats 40000000 in
theorem rm_eq_0_1 (l : Launch) (Z : State) (a0 : Array Value) (hw : ∀ d ∈ tables_1, d.before a0 Z = true) (ws : List Jvm.Cond) (a1 : Addr) (a2 : Addr) (w_value_a1 : Addr) (ka : ClassId) (w_value_a2 : Addr) (kb : ClassId) (y0 : Int32) (w_COMPACT_STRINGS : Int32) (h0 : Heap) (n0 : Nat) (Z0 : n0 ≤ h0.size) (E_a1 : Exa Z h0 a1 "java/lang/String") (F_coder_a1 : Fld Z h0 a1 "java/lang/String" "coder" "B" (.int (0 : Int32))) (F_value_a1 : Fld Z h0 a1 "java/lang/String" "value" "[B" (.ref w_value_a1)) (V_w_value_a1 : Arv Z h0 w_value_a1 ka .byte (0 : Int32) [] (.int (0 : Int32))) (E_a2 : Exa Z h0 a2 "java/lang/String") (F_coder_a2 : Fld Z h0 a2 "java/lang/String" "coder" "B" (.int (0 : Int32))) (F_value_a2 : Fld Z h0 a2 "java/lang/String" "value" "[B" (.ref w_value_a2)) (V_w_value_a2 : Arv Z h0 w_value_a2 kb .byte (1 : Int32) [(.int y0)] (.int (0 : Int32))) (S_COMPACT_STRINGS : Sta Z h0 "java/lang/String" "COMPACT_STRINGS" "Z" (.int w_COMPACT_STRINGS)) (hne_12 : a1 ≠ a2) (hCS : ¬ (w_COMPACT_STRINGS = (0 : Int32))) :
    MetFree l (⟨"java/lang/String", "equals", "(Ljava/lang/Object;)Z"⟩ : MethodName) (head1 (Jvm.Cond.code (⟨"java/lang/String", "equals", "(Ljava/lang/Object;)Z"⟩ : MethodName) jdk_42_method_66_code 3 (some .boolean) :: ws) ({ frames := 1, cells := 0, slots := 0, locals := 14 } : Room)) (fun a U => a = #[(.ref a1), (.ref a2)] ∧ Z.Warmed39 U.vm ∧ U.heap = h0) (fun _ _ _ _ _ => True) (fun _ U o U' => ∃ v L, o = .returned v ∧ Q_eq_0_1 Z a1 a2 w_value_a1 ka w_value_a2 kb y0 w_COMPACT_STRINGS h0 n0 v U'.heap L ∧ FrameEnd U o U' L ({ frames := 1, cells := 0, slots := 0, locals := 14 } : Room).cells ({ frames := 1, cells := 0, slots := 0, locals := 14 } : Room).slots) := by
  refine MetFree.of_bodySF (plainFor_of_name pn0) hisR ?_
  intro p e s m args below meth c s₁ Bd hml0 hP hK
  obtain ⟨rfl, hZ, hh⟩ := hP
  have hx := Bd.exec
  have hby := Bd.bytes
  have hml : c.maxLocals = 3 := hml0
  have hown : s.vm.findClass "java/lang/String" = some m.cls := findClass_of_methodNamed Bd.named
  have hnm := (name_of_methodNamed Bd.named Bd.method).1
  have X0 : Stand p l e ({ frames := 1, cells := 0, slots := 0, locals := 14 } : Room) s m #[(.ref a1), (.ref a2)] below meth c s₁ [] 0 0 := Stand.of_body Bd
  have e0 : s₁.heap = h0 := by rw [← hh, Bd.state]; rfl
  have N0 := Fr.nil n0
  have pre0 : ∀ t, Steps p.tables e below (s₁.setTop (mkF m 0 #[.val (.ref a1), .val (.ref a2), .unset] [])) t → Steps p.tables e below (s₁.setTop (entryFrame m #[(.ref a1), (.ref a2)] 3)) t := fun t k => castTop (ef_eq_0_1 m a1 a2) k
  obtain ⟨T1, X1, e1, st1⟩ := instY X0 hx hZ hown (hw _ (List.mem_of_getElem? (i := 91) rfl)) e0 (Ins.self E_a2) (g := (mkF m 8 #[.val (.ref a1), .val (.ref a2), .unset] [(.ref a2)])) rfl rfl (hb hby d12_8)
  obtain ⟨T2, X2, e2, st2⟩ := castY X1 hx hZ hown (hw _ (List.mem_of_getElem? (i := 91) rfl)) e1 (Ins.self E_a2) (g := (mkF m 15 #[.val (.ref a1), .val (.ref a2), .unset] [(.ref a2)])) rfl rfl (hb hby d12_15)
  obtain ⟨T3, X3, e3, st3⟩ := getS2 X2 hx hZ hown (host := "") (Or.inl (hw _ (List.mem_of_getElem? (i := 19) rfl))) Via.refl e2 S_COMPACT_STRINGS (g := (mkF m 19 #[.val (.ref a1), .val (.ref a2), .val (.ref a2)] [])) rfl (hb hby d12_19)
  obtain ⟨T4, X4, e4, st4⟩ := getF X3 hx hZ hown (host := "") (Or.inl (hw _ (List.mem_of_getElem? (i := 31) rfl))) Via.refl e3 F_coder_a1 (g := (mkF m 26 #[.val (.ref a1), .val (.ref a2), .val (.ref a2)] [(.ref a1)])) rfl rfl (hb hby d12_26)
  obtain ⟨T5, X5, e5, st5⟩ := getF X4 hx hZ hown (host := "") (Or.inl (hw _ (List.mem_of_getElem? (i := 31) rfl))) Via.refl e4 F_coder_a2 (g := (mkF m 30 #[.val (.ref a1), .val (.ref a2), .val (.ref a2)] [(.ref a2), (.int (0 : Int32))])) rfl rfl (hb hby d12_30)
  obtain ⟨T6, X6, e6, st6⟩ := getF X5 hx hZ hown (host := "") (Or.inl (hw _ (List.mem_of_getElem? (i := 33) rfl))) Via.refl e5 F_value_a1 (g := (mkF m 37 #[.val (.ref a1), .val (.ref a2), .val (.ref a2)] [(.ref a1)])) rfl rfl (hb hby d12_37)
  obtain ⟨T7, X7, e7, st7⟩ := getF X6 hx hZ hown (host := "") (Or.inl (hw _ (List.mem_of_getElem? (i := 33) rfl))) Via.refl e6 F_value_a2 (g := (mkF m 41 #[.val (.ref a1), .val (.ref a2), .val (.ref a2)] [(.ref a2), (.ref w_value_a1)])) rfl rfl (hb hby d12_41)
  obtain ⟨_, _, ⟨T8, L8, k8, n8⟩, -, X8, ⟨Lc8, hQ8, l8, y8, z8⟩, st8⟩ := Jvm.LawKit.callS X7 hx (y := (⟨"java/lang/StringLatin1", "equals", "([B[B)Z"⟩ : MethodName)) hown (mvT hZ (hw _ (List.mem_of_getElem? (i := 92) rfl))) (mvT hZ (hw _ (List.mem_of_getElem? (i := 93) rfl))) (mvT hZ (hw _ (List.mem_of_getElem? (i := 94) rfl))) (mvT hZ (hw _ (List.mem_of_getElem? (i := 95) rfl))) (by decide) (backOf (W := 0) (rm_leq_0_1 l Z a0 hw [] w_value_a1 w_value_a2 ka kb y0 h0 n0 (Nat.le_trans Z0 (Keep.refl h0 []).1) V_w_value_a1 V_w_value_a2 ) hZ (hw _ (List.mem_of_getElem? (i := 95) rfl)) (hw _ (List.mem_of_getElem? (i := 94) rfl)) (by decide) (by decide)) (g := (mkF m 44 #[.val (.ref a1), .val (.ref a2), .val (.ref a2)] [(.ref w_value_a2), (.ref w_value_a1)])) rfl (by rw [hml]; rfl) (argsL := [(.ref w_value_a1), (.ref w_value_a2)]) (rest := []) (lenOf pd6 rfl) rfl (by show 2 * 0 + _ ≤ _; exact Nat.le_of_eq rfl) (hb hby d12_44) (fun _ _ => ⟨rfl, e7, (by decide : 0 + 0 ≤ _), (by decide : 0 + 0 ≤ _)⟩)
  dsimp only [Pt.U, Pt.locs, Pt.cells, Pt.slots] at X8 l8 y8 z8 st8 hQ8
  subst l8 y8 z8
  obtain ⟨rfl, rfl, e8⟩ := hQ8
  have N8 := Fr.app N0 (Fr.nil n0)
  obtain ⟨fs, hr, hrun, hended, hW, hsame⟩ := X8.leave (v := some (.int (0 : Int32))) (fun h => by rw [Bd.returns] at h; cases h)
  refine ⟨_, _, pre0 _ ?_, hrun, hended, _, _, rfl, ?_, ⟨_, rfl⟩, hW, hsame.mono (by decide) (by decide)⟩
  · show Steps p.tables e below (s₁.setTop (mkF m 0 #[.val (.ref a1), .val (.ref a2), .unset] [])) _
    refine XS.aloadN X0.here hx rfl (hb hby d12_0) rfl rfl ?_
    refine XS.aloadN X0.here hx rfl (hb hby d12_1) rfl rfl ?_
    refine Jvm.RoadKit.acmp (g := (mkF m 2 #[.val (.ref a1), .val (.ref a2), .unset] [(.ref a2), (.ref a1)])) X0 hx rfl rfl rfl (pc0 := 2) (pc' := 7) (same := false) rfl (hb hby d12_2) rfl (decide_eq_false fun q => hne_12 (Value.ref.inj q)) (by decide) (by decide) ?_
    show Steps p.tables e below (s₁.setTop (mkF m 7 #[.val (.ref a1), .val (.ref a2), .unset] [])) _
    refine XS.aloadN X0.here hx rfl (hb hby d12_7) rfl rfl ?_
    show Steps p.tables e below (s₁.setTop (mkF m 8 #[.val (.ref a1), .val (.ref a2), .unset] [(.ref a2)])) _
    refine st1 _ ?_
    show Steps p.tables e below (T1.setTop (mkF m 11 #[.val (.ref a1), .val (.ref a2), .unset] [(.int (1 : Int32))])) _
    refine XS.ifNo X1.here hx rfl (hb hby d12_11) rfl ((if0 _ _).trans (feq (by decide : ¬ ((1 : Int32) = (0 : Int32)))).1) ?_
    refine XS.aloadN X1.here hx rfl (hb hby d12_14) rfl rfl ?_
    show Steps p.tables e below (T1.setTop (mkF m 15 #[.val (.ref a1), .val (.ref a2), .unset] [(.ref a2)])) _
    refine st2 _ ?_
    show Steps p.tables e below (T2.setTop (mkF m 18 #[.val (.ref a1), .val (.ref a2), .unset] [(.ref a2)])) _
    refine XS.astoreN X2.here hx rfl (hb hby d12_18) rfl rfl (l' := #[.val (.ref a1), .val (.ref a2), .val (.ref a2)]) rfl ?_
    show Steps p.tables e below (T2.setTop (mkF m 19 #[.val (.ref a1), .val (.ref a2), .val (.ref a2)] [])) _
    refine st3 _ ?_
    show Steps p.tables e below (T3.setTop (mkF m 22 #[.val (.ref a1), .val (.ref a2), .val (.ref a2)] [(.int w_COMPACT_STRINGS)])) _
    refine XS.ifNo X3.here hx rfl (hb hby d12_22) rfl ((if0 _ _).trans (feq (hCS : ¬ (w_COMPACT_STRINGS = (0 : Int32)))).1) ?_
    refine XS.aloadN X3.here hx rfl (hb hby d12_25) rfl rfl ?_
    show Steps p.tables e below (T3.setTop (mkF m 26 #[.val (.ref a1), .val (.ref a2), .val (.ref a2)] [(.ref a1)])) _
    refine st4 _ ?_
    show Steps p.tables e below (T4.setTop (mkF m 29 #[.val (.ref a1), .val (.ref a2), .val (.ref a2)] [(.int (0 : Int32))])) _
    refine XS.aloadN X4.here hx rfl (hb hby d12_29) rfl rfl ?_
    show Steps p.tables e below (T4.setTop (mkF m 30 #[.val (.ref a1), .val (.ref a2), .val (.ref a2)] [(.ref a2), (.int (0 : Int32))])) _
    refine st5 _ ?_
    show Steps p.tables e below (T5.setTop (mkF m 33 #[.val (.ref a1), .val (.ref a2), .val (.ref a2)] [(.int (0 : Int32)), (.int (0 : Int32))])) _
    refine XS.icmpNo X5.here hx rfl (hb hby d12_33) rfl (teq (by decide : (0 : Int32) = (0 : Int32))).2 ?_
    refine XS.aloadN X5.here hx rfl (hb hby d12_36) rfl rfl ?_
    show Steps p.tables e below (T5.setTop (mkF m 37 #[.val (.ref a1), .val (.ref a2), .val (.ref a2)] [(.ref a1)])) _
    refine st6 _ ?_
    show Steps p.tables e below (T6.setTop (mkF m 40 #[.val (.ref a1), .val (.ref a2), .val (.ref a2)] [(.ref w_value_a1)])) _
    refine XS.aloadN X6.here hx rfl (hb hby d12_40) rfl rfl ?_
    show Steps p.tables e below (T6.setTop (mkF m 41 #[.val (.ref a1), .val (.ref a2), .val (.ref a2)] [(.ref a2), (.ref w_value_a1)])) _
    refine st7 _ ?_
    show Steps p.tables e below (T7.setTop (mkF m 44 #[.val (.ref a1), .val (.ref a2), .val (.ref a2)] [(.ref w_value_a2), (.ref w_value_a1)])) _
    refine st8 _ ?_
    show Steps p.tables e below (T8.setTop (mkF m 47 #[.val (.ref a1), .val (.ref a2), .val (.ref a2)] [(.int (0 : Int32))])) _
    refine XS.ifYes X8.here hx rfl (pc0 := 47) (pc' := 54) rfl (hb hby d12_47) rfl ((if0 _ _).trans (teq (by decide : (0 : Int32) = (0 : Int32))).1) (by decide) (by decide) ?_
    refine XS.iconst X8.here hx rfl (hb hby d12_54) ?_
    show Steps p.tables e below (T8.setTop (mkF m 55 #[.val (.ref a1), .val (.ref a2), .val (.ref a2)] [(.int (0 : Int32))])) _
    exact retN X8 hx (t := .boolean) Bd.returns (by simp) (hb hby d12_55) hr
  · show Q_eq_0_1 Z a1 a2 w_value_a1 ka w_value_a2 kb y0 w_COMPACT_STRINGS h0 n0 _ T8.heap _
    rw [e8]
    exact ⟨rfl, rfl, rfl⟩
def res_is_0_1 (w_kind_a1 : Addr) (w_PUNCT : Addr) : Int32 := if w_kind_a1 = w_PUNCT then (0 : Int32) else (0 : Int32)
theorem ef_is_0_1 (m : MethodId) (a1 : Addr) (a2 : Addr) : entryFrame m #[(.ref a1), (.ref a2)] 2 = (mkF m 0 #[.val (.ref a1), .val (.ref a2)] []) := by first | (simp [entryFrame, mkF, argsToLocals, Value.category]; done) | rfl
def Q_is_0_1 (Z : State) (a1 : Addr) (a2 : Addr) (w_value_a2 : Addr) (kb : ClassId) (y0 : Int32) (w_text_a1 : Addr) (w_value_w_text_a1 : Addr) (ka : ClassId) (w_kind_a1 : Addr) (w_PUNCT : Addr) (w_COMPACT_STRINGS : Int32) (h0 : Heap) (n0 : Nat) (v : Option Value) (h : Heap) (L : List Loc) : Prop := v = some (.int (res_is_0_1 w_kind_a1 w_PUNCT)) ∧ L = [] ∧ h = h0
set_option maxRecDepth 65536 in
set_option maxHeartbeats 40000000 in
theorem rm_is_0_1 (l : Launch) (Z : State) (a0 : Array Value) (hw : ∀ d ∈ tables_1, d.before a0 Z = true) (ws : List Jvm.Cond) (a1 : Addr) (a2 : Addr) (w_value_a2 : Addr) (kb : ClassId) (y0 : Int32) (w_text_a1 : Addr) (w_value_w_text_a1 : Addr) (ka : ClassId) (w_kind_a1 : Addr) (w_PUNCT : Addr) (w_COMPACT_STRINGS : Int32) (h0 : Heap) (n0 : Nat) (Z0 : n0 ≤ h0.size) (E_a2 : Exa Z h0 a2 "java/lang/String") (F_coder_a2 : Fld Z h0 a2 "java/lang/String" "coder" "B" (.int (0 : Int32))) (F_value_a2 : Fld Z h0 a2 "java/lang/String" "value" "[B" (.ref w_value_a2)) (V_w_value_a2 : Arv Z h0 w_value_a2 kb .byte (1 : Int32) [(.int y0)] (.int (0 : Int32))) (F_text_a1 : Fld Z h0 a1 "com/example/cantrip/cantrip/Token" "text" "Ljava/lang/String;" (.ref w_text_a1)) (E_w_text_a1 : Exa Z h0 w_text_a1 "java/lang/String") (F_coder_w_text_a1 : Fld Z h0 w_text_a1 "java/lang/String" "coder" "B" (.int (0 : Int32))) (F_value_w_text_a1 : Fld Z h0 w_text_a1 "java/lang/String" "value" "[B" (.ref w_value_w_text_a1)) (V_w_value_w_text_a1 : Arv Z h0 w_value_w_text_a1 ka .byte (0 : Int32) [] (.int (0 : Int32))) (F_kind_a1 : Fld Z h0 a1 "com/example/cantrip/cantrip/Token" "kind" "Lcom/example/cantrip/cantrip/Token$Kind;" (.ref w_kind_a1)) (S_PUNCT : Sta Z h0 "com/example/cantrip/cantrip/Token$Kind" "PUNCT" "Lcom/example/cantrip/cantrip/Token$Kind;" (.ref w_PUNCT)) (S_COMPACT_STRINGS : Sta Z h0 "java/lang/String" "COMPACT_STRINGS" "Z" (.int w_COMPACT_STRINGS)) (hne_t : w_text_a1 ≠ a2) (hCS : ¬ (w_COMPACT_STRINGS = (0 : Int32))) :
    MetFree l (⟨"com/example/cantrip/cantrip/Token", "is", "(Ljava/lang/String;)Z"⟩ : MethodName) (head1 (Jvm.Cond.code (⟨"com/example/cantrip/cantrip/Token", "is", "(Ljava/lang/String;)Z"⟩ : MethodName) prog_3_method_2_code 2 (some .boolean) :: ws) ({ frames := 2, cells := 0, slots := 0, locals := 28 } : Room)) (fun a U => a = #[(.ref a1), (.ref a2)] ∧ Z.Warmed39 U.vm ∧ U.heap = h0) (fun _ _ _ _ _ => True) (fun _ U o U' => ∃ v L, o = .returned v ∧ Q_is_0_1 Z a1 a2 w_value_a2 kb y0 w_text_a1 w_value_w_text_a1 ka w_kind_a1 w_PUNCT w_COMPACT_STRINGS h0 n0 v U'.heap L ∧ FrameEnd U o U' L ({ frames := 2, cells := 0, slots := 0, locals := 28 } : Room).cells ({ frames := 2, cells := 0, slots := 0, locals := 28 } : Room).slots) := by
  refine MetFree.of_bodySF (plainFor_of_name pn4) hisR ?_
  intro p e s m args below meth c s₁ Bd hml0 hP hK
  obtain ⟨rfl, hZ, hh⟩ := hP
  have hx := Bd.exec
  have hby := Bd.bytes
  have hml : c.maxLocals = 2 := hml0
  have hown : s.vm.findClass "com/example/cantrip/cantrip/Token" = some m.cls := findClass_of_methodNamed Bd.named
  have hnm := (name_of_methodNamed Bd.named Bd.method).1
  have X0 : Stand p l e ({ frames := 2, cells := 0, slots := 0, locals := 28 } : Room) s m #[(.ref a1), (.ref a2)] below meth c s₁ [] 0 0 := Stand.of_body Bd
  have e0 : s₁.heap = h0 := by rw [← hh, Bd.state]; rfl
  have N0 := Fr.nil n0
  have pre0 : ∀ t, Steps p.tables e below (s₁.setTop (mkF m 0 #[.val (.ref a1), .val (.ref a2)] [])) t → Steps p.tables e below (s₁.setTop (entryFrame m #[(.ref a1), (.ref a2)] 2)) t := fun t k => castTop (ef_is_0_1 m a1 a2) k
  obtain ⟨T1, X1, e1, st1⟩ := getF X0 hx hZ hown (host := "") (Or.inl (hw _ (List.mem_of_getElem? (i := 56) rfl))) Via.refl e0 F_kind_a1 (g := (mkF m 1 #[.val (.ref a1), .val (.ref a2)] [(.ref a1)])) rfl rfl (hb hby d11_1)
  obtain ⟨T2, X2, e2, st2⟩ := getS2 X1 hx hZ hown (host := "") (Or.inl (hw _ (List.mem_of_getElem? (i := 67) rfl))) Via.refl e1 S_PUNCT (g := (mkF m 4 #[.val (.ref a1), .val (.ref a2)] [(.ref w_kind_a1)])) rfl (hb hby d11_4)
  have pre3 : ∀ t, Steps p.tables e below (T2.setTop (mkF m 7 #[.val (.ref a1), .val (.ref a2)] [(.ref w_PUNCT), (.ref w_kind_a1)])) t → Steps p.tables e below (s₁.setTop (entryFrame m #[(.ref a1), (.ref a2)] 2)) t := by
    intro t kt
    refine pre0 _ ?_
    show Steps p.tables e below (s₁.setTop (mkF m 0 #[.val (.ref a1), .val (.ref a2)] [])) _
    refine XS.aloadN X0.here hx rfl (hb hby d11_0) rfl rfl ?_
    show Steps p.tables e below (s₁.setTop (mkF m 1 #[.val (.ref a1), .val (.ref a2)] [(.ref a1)])) _
    refine st1 _ ?_
    show Steps p.tables e below (T1.setTop (mkF m 4 #[.val (.ref a1), .val (.ref a2)] [(.ref w_kind_a1)])) _
    refine st2 _ ?_
    exact kt
  by_cases hc7_4 : w_kind_a1 = w_PUNCT
  · obtain ⟨T5, X5, e5, st5⟩ := getF X2 hx hZ hown (host := "") (Or.inl (hw _ (List.mem_of_getElem? (i := 58) rfl))) Via.refl e2 F_text_a1 (g := (mkF m 11 #[.val (.ref a1), .val (.ref a2)] [(.ref a1)])) rfl rfl (hb hby d11_11)
    obtain ⟨cq6, kq6, q6a, q6b, q6c⟩ := isOf hZ e5 E_w_text_a1
    obtain ⟨_, _, ⟨T6, L6, k6, n6⟩, -, X6, ⟨Lc6, hQ6, l6, y6, z6⟩, st6⟩ := X5.virtualBack hx (y := (⟨"java/lang/String", "equals", "(Ljava/lang/Object;)Z"⟩ : MethodName)) (z := (⟨"java/lang/String", "equals", "(Ljava/lang/Object;)Z"⟩ : MethodName)) hown (mvT hZ (hw _ (List.mem_of_getElem? (i := 86) rfl))) (mvT hZ (hw _ (List.mem_of_getElem? (i := 87) rfl))) (notFace_of_selects (args := #[]) (mvT hZ (hw _ (List.mem_of_getElem? (i := 89) rfl)))) (mvT hZ (hw _ (List.mem_of_getElem? (i := 89) rfl))) (mvT hZ (hw _ (List.mem_of_getElem? (i := 88) rfl))) (by decide) (backOf (W := 0) (rm_eq_0_1 l Z a0 hw [] w_text_a1 a2 w_value_w_text_a1 ka w_value_a2 kb y0 w_COMPACT_STRINGS h0 n0 (Nat.le_trans Z0 (Keep.refl h0 []).1) E_w_text_a1 F_coder_w_text_a1 F_value_w_text_a1 V_w_value_w_text_a1 E_a2 F_coder_a2 F_value_a2 V_w_value_a2 S_COMPACT_STRINGS (hne_t : w_text_a1 ≠ a2) (hCS : ¬ (w_COMPACT_STRINGS = (0 : Int32)))) hZ (hw _ (List.mem_of_getElem? (i := 90) rfl)) (hw _ (List.mem_of_getElem? (i := 7) rfl)) (by decide) (by decide)) q6a q6c (g := (mkF m 15 #[.val (.ref a1), .val (.ref a2)] [(.ref a2), (.ref w_text_a1)])) rfl (by rw [hml]; rfl) (Steps.refl _) (argsL := [(.ref a2)]) (rest := []) (lenOf pd7 rfl) rfl (by show 2 * 0 + _ ≤ _; exact Nat.le_of_eq rfl) (hb hby d11_15) (fun _ _ => ⟨rfl, e5, (by decide : 0 + 0 ≤ _), (by decide : 0 + 0 ≤ _)⟩)
    dsimp only [Pt.U, Pt.locs, Pt.cells, Pt.slots] at X6 l6 y6 z6 st6 hQ6
    subst l6 y6 z6
    obtain ⟨rfl, rfl, e6⟩ := hQ6
    have N6 := Fr.app N0 (Fr.nil n0)
    obtain ⟨fs, hr, hrun, hended, hW, hsame⟩ := X6.leave (v := some (.int (0 : Int32))) (fun h => by rw [Bd.returns] at h; cases h)
    refine ⟨_, _, pre3 _ ?_, hrun, hended, _, _, rfl, ?_, ⟨_, rfl⟩, hW, hsame.mono (by decide) (by decide)⟩
    · show Steps p.tables e below (T2.setTop (mkF m 7 #[.val (.ref a1), .val (.ref a2)] [(.ref w_PUNCT), (.ref w_kind_a1)])) _
      refine Jvm.RoadKit.acmp (g := (mkF m 7 #[.val (.ref a1), .val (.ref a2)] [(.ref w_PUNCT), (.ref w_kind_a1)])) X2 hx rfl rfl rfl (pc0 := 7) (pc' := 10) (same := true) rfl (hb hby d11_7) rfl (decide_eq_true (congrArg Value.ref hc7_4)) (by decide) (by decide) ?_
      show Steps p.tables e below (T2.setTop (mkF m 10 #[.val (.ref a1), .val (.ref a2)] [])) _
      refine XS.aloadN X2.here hx rfl (hb hby d11_10) rfl rfl ?_
      show Steps p.tables e below (T2.setTop (mkF m 11 #[.val (.ref a1), .val (.ref a2)] [(.ref a1)])) _
      refine st5 _ ?_
      show Steps p.tables e below (T5.setTop (mkF m 14 #[.val (.ref a1), .val (.ref a2)] [(.ref w_text_a1)])) _
      refine XS.aloadN X5.here hx rfl (hb hby d11_14) rfl rfl ?_
      show Steps p.tables e below (T5.setTop (mkF m 15 #[.val (.ref a1), .val (.ref a2)] [(.ref a2), (.ref w_text_a1)])) _
      refine st6.trans ?_
      show Steps p.tables e below (T6.setTop (mkF m 18 #[.val (.ref a1), .val (.ref a2)] [(.int (0 : Int32))])) _
      refine XS.ifYes X6.here hx rfl (pc0 := 18) (pc' := 25) rfl (hb hby d11_18) rfl ((if0 _ _).trans (teq (by decide : (0 : Int32) = (0 : Int32))).1) (by decide) (by decide) ?_
      refine XS.iconst X6.here hx rfl (hb hby d11_25) ?_
      show Steps p.tables e below (T6.setTop (mkF m 26 #[.val (.ref a1), .val (.ref a2)] [(.int (0 : Int32))])) _
      exact retN X6 hx (t := .boolean) Bd.returns (by simp) (hb hby d11_26) hr
    · show Q_is_0_1 Z a1 a2 w_value_a2 kb y0 w_text_a1 w_value_w_text_a1 ka w_kind_a1 w_PUNCT w_COMPACT_STRINGS h0 n0 _ T6.heap _
      rw [e6]
      exact ⟨by rw [res_is_0_1, if_pos hc7_4], rfl, rfl⟩
  · obtain ⟨fs, hr, hrun, hended, hW, hsame⟩ := X2.leave (v := some (.int (0 : Int32))) (fun h => by rw [Bd.returns] at h; cases h)
    refine ⟨_, _, pre3 _ ?_, hrun, hended, _, _, rfl, ?_, ⟨_, rfl⟩, hW, hsame.mono (by decide) (by decide)⟩
    · show Steps p.tables e below (T2.setTop (mkF m 7 #[.val (.ref a1), .val (.ref a2)] [(.ref w_PUNCT), (.ref w_kind_a1)])) _
      refine Jvm.RoadKit.acmp (g := (mkF m 7 #[.val (.ref a1), .val (.ref a2)] [(.ref w_PUNCT), (.ref w_kind_a1)])) X2 hx rfl rfl rfl (pc0 := 7) (pc' := 25) (same := false) rfl (hb hby d11_7) rfl (decide_eq_false fun q => hc7_4 (Value.ref.inj q)) (by decide) (by decide) ?_
      show Steps p.tables e below (T2.setTop (mkF m 25 #[.val (.ref a1), .val (.ref a2)] [])) _
      refine XS.iconst X2.here hx rfl (hb hby d11_25) ?_
      show Steps p.tables e below (T2.setTop (mkF m 26 #[.val (.ref a1), .val (.ref a2)] [(.int (0 : Int32))])) _
      exact retN X2 hx (t := .boolean) Bd.returns (by simp) (hb hby d11_26) hr
    · show Q_is_0_1 Z a1 a2 w_value_a2 kb y0 w_text_a1 w_value_w_text_a1 ka w_kind_a1 w_PUNCT w_COMPACT_STRINGS h0 n0 _ T2.heap _
      rw [e2]
      exact ⟨by rw [res_is_0_1, if_neg hc7_4], rfl, rfl⟩
theorem ef_leq_0_2 (m : MethodId) (a1 : Addr) (a2 : Addr) : entryFrame m #[(.ref a1), (.ref a2)] 3 = (mkF m 0 #[.val (.ref a1), .val (.ref a2), .unset] []) := by first | (simp [entryFrame, mkF, argsToLocals, Value.category]; done) | rfl
def Q_leq_0_2 (Z : State) (a1 : Addr) (a2 : Addr) (ka : ClassId) (kb : ClassId) (y0 : Int32) (y1 : Int32) (h0 : Heap) (n0 : Nat) (v : Option Value) (h : Heap) (L : List Loc) : Prop := v = some (.int (0 : Int32)) ∧ L = [] ∧ h = h0
set_option maxRecDepth 65536 in
set_option maxHeartbeats 40000000 in
theorem rm_leq_0_2 (l : Launch) (Z : State) (a0 : Array Value) (hw : ∀ d ∈ tables_1, d.before a0 Z = true) (ws : List Jvm.Cond) (a1 : Addr) (a2 : Addr) (ka : ClassId) (kb : ClassId) (y0 : Int32) (y1 : Int32) (h0 : Heap) (n0 : Nat) (Z0 : n0 ≤ h0.size) (V_a1 : Arv Z h0 a1 ka .byte (0 : Int32) [] (.int (0 : Int32))) (V_a2 : Arv Z h0 a2 kb .byte (2 : Int32) [(.int y0), (.int y1)] (.int (0 : Int32))) :
    MetFree l (⟨"java/lang/StringLatin1", "equals", "([B[B)Z"⟩ : MethodName) (head1 (Jvm.Cond.code (⟨"java/lang/StringLatin1", "equals", "([B[B)Z"⟩ : MethodName) jdk_43_method_13_code 3 (some .boolean) :: ws) ({ frames := 0, cells := 0, slots := 0, locals := 0 } : Room)) (fun a U => a = #[(.ref a1), (.ref a2)] ∧ Z.Warmed39 U.vm ∧ U.heap = h0) (fun _ _ _ _ _ => True) (fun _ U o U' => ∃ v L, o = .returned v ∧ Q_leq_0_2 Z a1 a2 ka kb y0 y1 h0 n0 v U'.heap L ∧ FrameEnd U o U' L ({ frames := 0, cells := 0, slots := 0, locals := 0 } : Room).cells ({ frames := 0, cells := 0, slots := 0, locals := 0 } : Room).slots) := by
  refine MetFree.of_bodySF (plainFor_of_name pn5) hisR ?_
  intro p e s m args below meth c s₁ Bd hml0 hP hK
  obtain ⟨rfl, hZ, hh⟩ := hP
  have hx := Bd.exec
  have hby := Bd.bytes
  have hml : c.maxLocals = 3 := hml0
  have hown : s.vm.findClass "java/lang/StringLatin1" = some m.cls := findClass_of_methodNamed Bd.named
  have hnm := (name_of_methodNamed Bd.named Bd.method).1
  have X0 : Stand p l e ({ frames := 0, cells := 0, slots := 0, locals := 0 } : Room) s m #[(.ref a1), (.ref a2)] below meth c s₁ [] 0 0 := Stand.of_body Bd
  have e0 : s₁.heap = h0 := by rw [← hh, Bd.state]; rfl
  have N0 := Fr.nil n0
  have pre0 : ∀ t, Steps p.tables e below (s₁.setTop (mkF m 0 #[.val (.ref a1), .val (.ref a2), .unset] [])) t → Steps p.tables e below (s₁.setTop (entryFrame m #[(.ref a1), (.ref a2)] 3)) t := fun t k => castTop (ef_leq_0_2 m a1 a2) k
  obtain ⟨cl_a1_1_1, Ar_a1_1_1, -, S_a1_1_1, N_a1_1_1, -, -⟩ := id V_a1
  obtain ⟨cl_a2_3_2, Ar_a2_3_2, -, S_a2_3_2, N_a2_3_2, -, -⟩ := id V_a2
  obtain ⟨fs, hr, hrun, hended, hW, hsame⟩ := X0.leave (v := some (.int (0 : Int32))) (fun h => by rw [Bd.returns] at h; cases h)
  refine ⟨_, _, pre0 _ ?_, hrun, hended, _, _, rfl, ?_, ⟨_, rfl⟩, hW, hsame.mono (by decide) (by decide)⟩
  · show Steps p.tables e below (s₁.setTop (mkF m 0 #[.val (.ref a1), .val (.ref a2), .unset] [])) _
    refine XS.aloadN X0.here hx rfl (hb hby d13_0) rfl rfl ?_
    refine X0.arraylength hx (by rw [e0]; exact Ar_a1_1_1.1) (State.isArrayOf_alike hZ.alike Ar_a1_1_1.2.1) (g := (mkF m 1 #[.val (.ref a1), .val (.ref a2), .unset] [(.ref a1)])) rfl rfl (hb hby d13_1) _ ?_
    rw [len_of S_a1_1_1 N_a1_1_1]
    show Steps p.tables e below (s₁.setTop (mkF m 2 #[.val (.ref a1), .val (.ref a2), .unset] [(.int (0 : Int32))])) _
    refine XS.aloadN X0.here hx rfl (hb hby d13_2) rfl rfl ?_
    show Steps p.tables e below (s₁.setTop (mkF m 3 #[.val (.ref a1), .val (.ref a2), .unset] [(.ref a2), (.int (0 : Int32))])) _
    refine X0.arraylength hx (by rw [e0]; exact Ar_a2_3_2.1) (State.isArrayOf_alike hZ.alike Ar_a2_3_2.2.1) (g := (mkF m 3 #[.val (.ref a1), .val (.ref a2), .unset] [(.ref a2), (.int (0 : Int32))])) rfl rfl (hb hby d13_3) _ ?_
    rw [len_of S_a2_3_2 N_a2_3_2]
    show Steps p.tables e below (s₁.setTop (mkF m 4 #[.val (.ref a1), .val (.ref a2), .unset] [(.int (2 : Int32)), (.int (0 : Int32))])) _
    refine XS.icmpYes X0.here hx rfl (pc0 := 4) (pc' := 34) rfl (hb hby d13_4) rfl (feq (by decide : ¬ ((0 : Int32) = (2 : Int32)))).2 (by decide) (by decide) ?_
    refine XS.iconst X0.here hx rfl (hb hby d13_34) ?_
    show Steps p.tables e below (s₁.setTop (mkF m 35 #[.val (.ref a1), .val (.ref a2), .unset] [(.int (0 : Int32))])) _
    exact retN X0 hx (t := .boolean) Bd.returns (by simp) (hb hby d13_35) hr
  · show Q_leq_0_2 Z a1 a2 ka kb y0 y1 h0 n0 _ s₁.heap _
    rw [e0]
    exact ⟨rfl, rfl, rfl⟩
theorem ef_eq_0_2 (m : MethodId) (a1 : Addr) (a2 : Addr) : entryFrame m #[(.ref a1), (.ref a2)] 3 = (mkF m 0 #[.val (.ref a1), .val (.ref a2), .unset] []) := by first | (simp [entryFrame, mkF, argsToLocals, Value.category]; done) | rfl
def Q_eq_0_2 (Z : State) (a1 : Addr) (a2 : Addr) (w_value_a1 : Addr) (ka : ClassId) (w_value_a2 : Addr) (kb : ClassId) (y0 : Int32) (y1 : Int32) (w_COMPACT_STRINGS : Int32) (h0 : Heap) (n0 : Nat) (v : Option Value) (h : Heap) (L : List Loc) : Prop := v = some (.int (0 : Int32)) ∧ L = [] ∧ h = h0
set_option maxRecDepth 65536 in
set_option maxHeartbeats 40000000 in
theorem rm_eq_0_2 (l : Launch) (Z : State) (a0 : Array Value) (hw : ∀ d ∈ tables_1, d.before a0 Z = true) (ws : List Jvm.Cond) (a1 : Addr) (a2 : Addr) (w_value_a1 : Addr) (ka : ClassId) (w_value_a2 : Addr) (kb : ClassId) (y0 : Int32) (y1 : Int32) (w_COMPACT_STRINGS : Int32) (h0 : Heap) (n0 : Nat) (Z0 : n0 ≤ h0.size) (E_a1 : Exa Z h0 a1 "java/lang/String") (F_coder_a1 : Fld Z h0 a1 "java/lang/String" "coder" "B" (.int (0 : Int32))) (F_value_a1 : Fld Z h0 a1 "java/lang/String" "value" "[B" (.ref w_value_a1)) (V_w_value_a1 : Arv Z h0 w_value_a1 ka .byte (0 : Int32) [] (.int (0 : Int32))) (E_a2 : Exa Z h0 a2 "java/lang/String") (F_coder_a2 : Fld Z h0 a2 "java/lang/String" "coder" "B" (.int (0 : Int32))) (F_value_a2 : Fld Z h0 a2 "java/lang/String" "value" "[B" (.ref w_value_a2)) (V_w_value_a2 : Arv Z h0 w_value_a2 kb .byte (2 : Int32) [(.int y0), (.int y1)] (.int (0 : Int32))) (S_COMPACT_STRINGS : Sta Z h0 "java/lang/String" "COMPACT_STRINGS" "Z" (.int w_COMPACT_STRINGS)) (hne_12 : a1 ≠ a2) (hCS : ¬ (w_COMPACT_STRINGS = (0 : Int32))) :
    MetFree l (⟨"java/lang/String", "equals", "(Ljava/lang/Object;)Z"⟩ : MethodName) (head1 (Jvm.Cond.code (⟨"java/lang/String", "equals", "(Ljava/lang/Object;)Z"⟩ : MethodName) jdk_42_method_66_code 3 (some .boolean) :: ws) ({ frames := 1, cells := 0, slots := 0, locals := 14 } : Room)) (fun a U => a = #[(.ref a1), (.ref a2)] ∧ Z.Warmed39 U.vm ∧ U.heap = h0) (fun _ _ _ _ _ => True) (fun _ U o U' => ∃ v L, o = .returned v ∧ Q_eq_0_2 Z a1 a2 w_value_a1 ka w_value_a2 kb y0 y1 w_COMPACT_STRINGS h0 n0 v U'.heap L ∧ FrameEnd U o U' L ({ frames := 1, cells := 0, slots := 0, locals := 14 } : Room).cells ({ frames := 1, cells := 0, slots := 0, locals := 14 } : Room).slots) := by
  refine MetFree.of_bodySF (plainFor_of_name pn0) hisR ?_
  intro p e s m args below meth c s₁ Bd hml0 hP hK
  obtain ⟨rfl, hZ, hh⟩ := hP
  have hx := Bd.exec
  have hby := Bd.bytes
  have hml : c.maxLocals = 3 := hml0
  have hown : s.vm.findClass "java/lang/String" = some m.cls := findClass_of_methodNamed Bd.named
  have hnm := (name_of_methodNamed Bd.named Bd.method).1
  have X0 : Stand p l e ({ frames := 1, cells := 0, slots := 0, locals := 14 } : Room) s m #[(.ref a1), (.ref a2)] below meth c s₁ [] 0 0 := Stand.of_body Bd
  have e0 : s₁.heap = h0 := by rw [← hh, Bd.state]; rfl
  have N0 := Fr.nil n0
  have pre0 : ∀ t, Steps p.tables e below (s₁.setTop (mkF m 0 #[.val (.ref a1), .val (.ref a2), .unset] [])) t → Steps p.tables e below (s₁.setTop (entryFrame m #[(.ref a1), (.ref a2)] 3)) t := fun t k => castTop (ef_eq_0_2 m a1 a2) k
  obtain ⟨T1, X1, e1, st1⟩ := instY X0 hx hZ hown (hw _ (List.mem_of_getElem? (i := 91) rfl)) e0 (Ins.self E_a2) (g := (mkF m 8 #[.val (.ref a1), .val (.ref a2), .unset] [(.ref a2)])) rfl rfl (hb hby d12_8)
  obtain ⟨T2, X2, e2, st2⟩ := castY X1 hx hZ hown (hw _ (List.mem_of_getElem? (i := 91) rfl)) e1 (Ins.self E_a2) (g := (mkF m 15 #[.val (.ref a1), .val (.ref a2), .unset] [(.ref a2)])) rfl rfl (hb hby d12_15)
  obtain ⟨T3, X3, e3, st3⟩ := getS2 X2 hx hZ hown (host := "") (Or.inl (hw _ (List.mem_of_getElem? (i := 19) rfl))) Via.refl e2 S_COMPACT_STRINGS (g := (mkF m 19 #[.val (.ref a1), .val (.ref a2), .val (.ref a2)] [])) rfl (hb hby d12_19)
  obtain ⟨T4, X4, e4, st4⟩ := getF X3 hx hZ hown (host := "") (Or.inl (hw _ (List.mem_of_getElem? (i := 31) rfl))) Via.refl e3 F_coder_a1 (g := (mkF m 26 #[.val (.ref a1), .val (.ref a2), .val (.ref a2)] [(.ref a1)])) rfl rfl (hb hby d12_26)
  obtain ⟨T5, X5, e5, st5⟩ := getF X4 hx hZ hown (host := "") (Or.inl (hw _ (List.mem_of_getElem? (i := 31) rfl))) Via.refl e4 F_coder_a2 (g := (mkF m 30 #[.val (.ref a1), .val (.ref a2), .val (.ref a2)] [(.ref a2), (.int (0 : Int32))])) rfl rfl (hb hby d12_30)
  obtain ⟨T6, X6, e6, st6⟩ := getF X5 hx hZ hown (host := "") (Or.inl (hw _ (List.mem_of_getElem? (i := 33) rfl))) Via.refl e5 F_value_a1 (g := (mkF m 37 #[.val (.ref a1), .val (.ref a2), .val (.ref a2)] [(.ref a1)])) rfl rfl (hb hby d12_37)
  obtain ⟨T7, X7, e7, st7⟩ := getF X6 hx hZ hown (host := "") (Or.inl (hw _ (List.mem_of_getElem? (i := 33) rfl))) Via.refl e6 F_value_a2 (g := (mkF m 41 #[.val (.ref a1), .val (.ref a2), .val (.ref a2)] [(.ref a2), (.ref w_value_a1)])) rfl rfl (hb hby d12_41)
  obtain ⟨_, _, ⟨T8, L8, k8, n8⟩, -, X8, ⟨Lc8, hQ8, l8, y8, z8⟩, st8⟩ := Jvm.LawKit.callS X7 hx (y := (⟨"java/lang/StringLatin1", "equals", "([B[B)Z"⟩ : MethodName)) hown (mvT hZ (hw _ (List.mem_of_getElem? (i := 92) rfl))) (mvT hZ (hw _ (List.mem_of_getElem? (i := 93) rfl))) (mvT hZ (hw _ (List.mem_of_getElem? (i := 94) rfl))) (mvT hZ (hw _ (List.mem_of_getElem? (i := 95) rfl))) (by decide) (backOf (W := 0) (rm_leq_0_2 l Z a0 hw [] w_value_a1 w_value_a2 ka kb y0 y1 h0 n0 (Nat.le_trans Z0 (Keep.refl h0 []).1) V_w_value_a1 V_w_value_a2 ) hZ (hw _ (List.mem_of_getElem? (i := 95) rfl)) (hw _ (List.mem_of_getElem? (i := 94) rfl)) (by decide) (by decide)) (g := (mkF m 44 #[.val (.ref a1), .val (.ref a2), .val (.ref a2)] [(.ref w_value_a2), (.ref w_value_a1)])) rfl (by rw [hml]; rfl) (argsL := [(.ref w_value_a1), (.ref w_value_a2)]) (rest := []) (lenOf pd6 rfl) rfl (by show 2 * 0 + _ ≤ _; exact Nat.le_of_eq rfl) (hb hby d12_44) (fun _ _ => ⟨rfl, e7, (by decide : 0 + 0 ≤ _), (by decide : 0 + 0 ≤ _)⟩)
  dsimp only [Pt.U, Pt.locs, Pt.cells, Pt.slots] at X8 l8 y8 z8 st8 hQ8
  subst l8 y8 z8
  obtain ⟨rfl, rfl, e8⟩ := hQ8
  have N8 := Fr.app N0 (Fr.nil n0)
  obtain ⟨fs, hr, hrun, hended, hW, hsame⟩ := X8.leave (v := some (.int (0 : Int32))) (fun h => by rw [Bd.returns] at h; cases h)
  refine ⟨_, _, pre0 _ ?_, hrun, hended, _, _, rfl, ?_, ⟨_, rfl⟩, hW, hsame.mono (by decide) (by decide)⟩
  · show Steps p.tables e below (s₁.setTop (mkF m 0 #[.val (.ref a1), .val (.ref a2), .unset] [])) _
    refine XS.aloadN X0.here hx rfl (hb hby d12_0) rfl rfl ?_
    refine XS.aloadN X0.here hx rfl (hb hby d12_1) rfl rfl ?_
    refine Jvm.RoadKit.acmp (g := (mkF m 2 #[.val (.ref a1), .val (.ref a2), .unset] [(.ref a2), (.ref a1)])) X0 hx rfl rfl rfl (pc0 := 2) (pc' := 7) (same := false) rfl (hb hby d12_2) rfl (decide_eq_false fun q => hne_12 (Value.ref.inj q)) (by decide) (by decide) ?_
    show Steps p.tables e below (s₁.setTop (mkF m 7 #[.val (.ref a1), .val (.ref a2), .unset] [])) _
    refine XS.aloadN X0.here hx rfl (hb hby d12_7) rfl rfl ?_
    show Steps p.tables e below (s₁.setTop (mkF m 8 #[.val (.ref a1), .val (.ref a2), .unset] [(.ref a2)])) _
    refine st1 _ ?_
    show Steps p.tables e below (T1.setTop (mkF m 11 #[.val (.ref a1), .val (.ref a2), .unset] [(.int (1 : Int32))])) _
    refine XS.ifNo X1.here hx rfl (hb hby d12_11) rfl ((if0 _ _).trans (feq (by decide : ¬ ((1 : Int32) = (0 : Int32)))).1) ?_
    refine XS.aloadN X1.here hx rfl (hb hby d12_14) rfl rfl ?_
    show Steps p.tables e below (T1.setTop (mkF m 15 #[.val (.ref a1), .val (.ref a2), .unset] [(.ref a2)])) _
    refine st2 _ ?_
    show Steps p.tables e below (T2.setTop (mkF m 18 #[.val (.ref a1), .val (.ref a2), .unset] [(.ref a2)])) _
    refine XS.astoreN X2.here hx rfl (hb hby d12_18) rfl rfl (l' := #[.val (.ref a1), .val (.ref a2), .val (.ref a2)]) rfl ?_
    show Steps p.tables e below (T2.setTop (mkF m 19 #[.val (.ref a1), .val (.ref a2), .val (.ref a2)] [])) _
    refine st3 _ ?_
    show Steps p.tables e below (T3.setTop (mkF m 22 #[.val (.ref a1), .val (.ref a2), .val (.ref a2)] [(.int w_COMPACT_STRINGS)])) _
    refine XS.ifNo X3.here hx rfl (hb hby d12_22) rfl ((if0 _ _).trans (feq (hCS : ¬ (w_COMPACT_STRINGS = (0 : Int32)))).1) ?_
    refine XS.aloadN X3.here hx rfl (hb hby d12_25) rfl rfl ?_
    show Steps p.tables e below (T3.setTop (mkF m 26 #[.val (.ref a1), .val (.ref a2), .val (.ref a2)] [(.ref a1)])) _
    refine st4 _ ?_
    show Steps p.tables e below (T4.setTop (mkF m 29 #[.val (.ref a1), .val (.ref a2), .val (.ref a2)] [(.int (0 : Int32))])) _
    refine XS.aloadN X4.here hx rfl (hb hby d12_29) rfl rfl ?_
    show Steps p.tables e below (T4.setTop (mkF m 30 #[.val (.ref a1), .val (.ref a2), .val (.ref a2)] [(.ref a2), (.int (0 : Int32))])) _
    refine st5 _ ?_
    show Steps p.tables e below (T5.setTop (mkF m 33 #[.val (.ref a1), .val (.ref a2), .val (.ref a2)] [(.int (0 : Int32)), (.int (0 : Int32))])) _
    refine XS.icmpNo X5.here hx rfl (hb hby d12_33) rfl (teq (by decide : (0 : Int32) = (0 : Int32))).2 ?_
    refine XS.aloadN X5.here hx rfl (hb hby d12_36) rfl rfl ?_
    show Steps p.tables e below (T5.setTop (mkF m 37 #[.val (.ref a1), .val (.ref a2), .val (.ref a2)] [(.ref a1)])) _
    refine st6 _ ?_
    show Steps p.tables e below (T6.setTop (mkF m 40 #[.val (.ref a1), .val (.ref a2), .val (.ref a2)] [(.ref w_value_a1)])) _
    refine XS.aloadN X6.here hx rfl (hb hby d12_40) rfl rfl ?_
    show Steps p.tables e below (T6.setTop (mkF m 41 #[.val (.ref a1), .val (.ref a2), .val (.ref a2)] [(.ref a2), (.ref w_value_a1)])) _
    refine st7 _ ?_
    show Steps p.tables e below (T7.setTop (mkF m 44 #[.val (.ref a1), .val (.ref a2), .val (.ref a2)] [(.ref w_value_a2), (.ref w_value_a1)])) _
    refine st8 _ ?_
    show Steps p.tables e below (T8.setTop (mkF m 47 #[.val (.ref a1), .val (.ref a2), .val (.ref a2)] [(.int (0 : Int32))])) _
    refine XS.ifYes X8.here hx rfl (pc0 := 47) (pc' := 54) rfl (hb hby d12_47) rfl ((if0 _ _).trans (teq (by decide : (0 : Int32) = (0 : Int32))).1) (by decide) (by decide) ?_
    refine XS.iconst X8.here hx rfl (hb hby d12_54) ?_
    show Steps p.tables e below (T8.setTop (mkF m 55 #[.val (.ref a1), .val (.ref a2), .val (.ref a2)] [(.int (0 : Int32))])) _
    exact retN X8 hx (t := .boolean) Bd.returns (by simp) (hb hby d12_55) hr
  · show Q_eq_0_2 Z a1 a2 w_value_a1 ka w_value_a2 kb y0 y1 w_COMPACT_STRINGS h0 n0 _ T8.heap _
    rw [e8]
    exact ⟨rfl, rfl, rfl⟩
def res_is_0_2 (w_kind_a1 : Addr) (w_PUNCT : Addr) : Int32 := if w_kind_a1 = w_PUNCT then (0 : Int32) else (0 : Int32)
theorem ef_is_0_2 (m : MethodId) (a1 : Addr) (a2 : Addr) : entryFrame m #[(.ref a1), (.ref a2)] 2 = (mkF m 0 #[.val (.ref a1), .val (.ref a2)] []) := by first | (simp [entryFrame, mkF, argsToLocals, Value.category]; done) | rfl
def Q_is_0_2 (Z : State) (a1 : Addr) (a2 : Addr) (w_value_a2 : Addr) (kb : ClassId) (y0 : Int32) (y1 : Int32) (w_text_a1 : Addr) (w_value_w_text_a1 : Addr) (ka : ClassId) (w_kind_a1 : Addr) (w_PUNCT : Addr) (w_COMPACT_STRINGS : Int32) (h0 : Heap) (n0 : Nat) (v : Option Value) (h : Heap) (L : List Loc) : Prop := v = some (.int (res_is_0_2 w_kind_a1 w_PUNCT)) ∧ L = [] ∧ h = h0
set_option maxRecDepth 65536 in
set_option maxHeartbeats 40000000 in
theorem rm_is_0_2 (l : Launch) (Z : State) (a0 : Array Value) (hw : ∀ d ∈ tables_1, d.before a0 Z = true) (ws : List Jvm.Cond) (a1 : Addr) (a2 : Addr) (w_value_a2 : Addr) (kb : ClassId) (y0 : Int32) (y1 : Int32) (w_text_a1 : Addr) (w_value_w_text_a1 : Addr) (ka : ClassId) (w_kind_a1 : Addr) (w_PUNCT : Addr) (w_COMPACT_STRINGS : Int32) (h0 : Heap) (n0 : Nat) (Z0 : n0 ≤ h0.size) (E_a2 : Exa Z h0 a2 "java/lang/String") (F_coder_a2 : Fld Z h0 a2 "java/lang/String" "coder" "B" (.int (0 : Int32))) (F_value_a2 : Fld Z h0 a2 "java/lang/String" "value" "[B" (.ref w_value_a2)) (V_w_value_a2 : Arv Z h0 w_value_a2 kb .byte (2 : Int32) [(.int y0), (.int y1)] (.int (0 : Int32))) (F_text_a1 : Fld Z h0 a1 "com/example/cantrip/cantrip/Token" "text" "Ljava/lang/String;" (.ref w_text_a1)) (E_w_text_a1 : Exa Z h0 w_text_a1 "java/lang/String") (F_coder_w_text_a1 : Fld Z h0 w_text_a1 "java/lang/String" "coder" "B" (.int (0 : Int32))) (F_value_w_text_a1 : Fld Z h0 w_text_a1 "java/lang/String" "value" "[B" (.ref w_value_w_text_a1)) (V_w_value_w_text_a1 : Arv Z h0 w_value_w_text_a1 ka .byte (0 : Int32) [] (.int (0 : Int32))) (F_kind_a1 : Fld Z h0 a1 "com/example/cantrip/cantrip/Token" "kind" "Lcom/example/cantrip/cantrip/Token$Kind;" (.ref w_kind_a1)) (S_PUNCT : Sta Z h0 "com/example/cantrip/cantrip/Token$Kind" "PUNCT" "Lcom/example/cantrip/cantrip/Token$Kind;" (.ref w_PUNCT)) (S_COMPACT_STRINGS : Sta Z h0 "java/lang/String" "COMPACT_STRINGS" "Z" (.int w_COMPACT_STRINGS)) (hne_t : w_text_a1 ≠ a2) (hCS : ¬ (w_COMPACT_STRINGS = (0 : Int32))) :
    MetFree l (⟨"com/example/cantrip/cantrip/Token", "is", "(Ljava/lang/String;)Z"⟩ : MethodName) (head1 (Jvm.Cond.code (⟨"com/example/cantrip/cantrip/Token", "is", "(Ljava/lang/String;)Z"⟩ : MethodName) prog_3_method_2_code 2 (some .boolean) :: ws) ({ frames := 2, cells := 0, slots := 0, locals := 28 } : Room)) (fun a U => a = #[(.ref a1), (.ref a2)] ∧ Z.Warmed39 U.vm ∧ U.heap = h0) (fun _ _ _ _ _ => True) (fun _ U o U' => ∃ v L, o = .returned v ∧ Q_is_0_2 Z a1 a2 w_value_a2 kb y0 y1 w_text_a1 w_value_w_text_a1 ka w_kind_a1 w_PUNCT w_COMPACT_STRINGS h0 n0 v U'.heap L ∧ FrameEnd U o U' L ({ frames := 2, cells := 0, slots := 0, locals := 28 } : Room).cells ({ frames := 2, cells := 0, slots := 0, locals := 28 } : Room).slots) := by
  refine MetFree.of_bodySF (plainFor_of_name pn4) hisR ?_
  intro p e s m args below meth c s₁ Bd hml0 hP hK
  obtain ⟨rfl, hZ, hh⟩ := hP
  have hx := Bd.exec
  have hby := Bd.bytes
  have hml : c.maxLocals = 2 := hml0
  have hown : s.vm.findClass "com/example/cantrip/cantrip/Token" = some m.cls := findClass_of_methodNamed Bd.named
  have hnm := (name_of_methodNamed Bd.named Bd.method).1
  have X0 : Stand p l e ({ frames := 2, cells := 0, slots := 0, locals := 28 } : Room) s m #[(.ref a1), (.ref a2)] below meth c s₁ [] 0 0 := Stand.of_body Bd
  have e0 : s₁.heap = h0 := by rw [← hh, Bd.state]; rfl
  have N0 := Fr.nil n0
  have pre0 : ∀ t, Steps p.tables e below (s₁.setTop (mkF m 0 #[.val (.ref a1), .val (.ref a2)] [])) t → Steps p.tables e below (s₁.setTop (entryFrame m #[(.ref a1), (.ref a2)] 2)) t := fun t k => castTop (ef_is_0_2 m a1 a2) k
  obtain ⟨T1, X1, e1, st1⟩ := getF X0 hx hZ hown (host := "") (Or.inl (hw _ (List.mem_of_getElem? (i := 56) rfl))) Via.refl e0 F_kind_a1 (g := (mkF m 1 #[.val (.ref a1), .val (.ref a2)] [(.ref a1)])) rfl rfl (hb hby d11_1)
  obtain ⟨T2, X2, e2, st2⟩ := getS2 X1 hx hZ hown (host := "") (Or.inl (hw _ (List.mem_of_getElem? (i := 67) rfl))) Via.refl e1 S_PUNCT (g := (mkF m 4 #[.val (.ref a1), .val (.ref a2)] [(.ref w_kind_a1)])) rfl (hb hby d11_4)
  have pre3 : ∀ t, Steps p.tables e below (T2.setTop (mkF m 7 #[.val (.ref a1), .val (.ref a2)] [(.ref w_PUNCT), (.ref w_kind_a1)])) t → Steps p.tables e below (s₁.setTop (entryFrame m #[(.ref a1), (.ref a2)] 2)) t := by
    intro t kt
    refine pre0 _ ?_
    show Steps p.tables e below (s₁.setTop (mkF m 0 #[.val (.ref a1), .val (.ref a2)] [])) _
    refine XS.aloadN X0.here hx rfl (hb hby d11_0) rfl rfl ?_
    show Steps p.tables e below (s₁.setTop (mkF m 1 #[.val (.ref a1), .val (.ref a2)] [(.ref a1)])) _
    refine st1 _ ?_
    show Steps p.tables e below (T1.setTop (mkF m 4 #[.val (.ref a1), .val (.ref a2)] [(.ref w_kind_a1)])) _
    refine st2 _ ?_
    exact kt
  by_cases hc7_4 : w_kind_a1 = w_PUNCT
  · obtain ⟨T5, X5, e5, st5⟩ := getF X2 hx hZ hown (host := "") (Or.inl (hw _ (List.mem_of_getElem? (i := 58) rfl))) Via.refl e2 F_text_a1 (g := (mkF m 11 #[.val (.ref a1), .val (.ref a2)] [(.ref a1)])) rfl rfl (hb hby d11_11)
    obtain ⟨cq6, kq6, q6a, q6b, q6c⟩ := isOf hZ e5 E_w_text_a1
    obtain ⟨_, _, ⟨T6, L6, k6, n6⟩, -, X6, ⟨Lc6, hQ6, l6, y6, z6⟩, st6⟩ := X5.virtualBack hx (y := (⟨"java/lang/String", "equals", "(Ljava/lang/Object;)Z"⟩ : MethodName)) (z := (⟨"java/lang/String", "equals", "(Ljava/lang/Object;)Z"⟩ : MethodName)) hown (mvT hZ (hw _ (List.mem_of_getElem? (i := 86) rfl))) (mvT hZ (hw _ (List.mem_of_getElem? (i := 87) rfl))) (notFace_of_selects (args := #[]) (mvT hZ (hw _ (List.mem_of_getElem? (i := 89) rfl)))) (mvT hZ (hw _ (List.mem_of_getElem? (i := 89) rfl))) (mvT hZ (hw _ (List.mem_of_getElem? (i := 88) rfl))) (by decide) (backOf (W := 0) (rm_eq_0_2 l Z a0 hw [] w_text_a1 a2 w_value_w_text_a1 ka w_value_a2 kb y0 y1 w_COMPACT_STRINGS h0 n0 (Nat.le_trans Z0 (Keep.refl h0 []).1) E_w_text_a1 F_coder_w_text_a1 F_value_w_text_a1 V_w_value_w_text_a1 E_a2 F_coder_a2 F_value_a2 V_w_value_a2 S_COMPACT_STRINGS (hne_t : w_text_a1 ≠ a2) (hCS : ¬ (w_COMPACT_STRINGS = (0 : Int32)))) hZ (hw _ (List.mem_of_getElem? (i := 90) rfl)) (hw _ (List.mem_of_getElem? (i := 7) rfl)) (by decide) (by decide)) q6a q6c (g := (mkF m 15 #[.val (.ref a1), .val (.ref a2)] [(.ref a2), (.ref w_text_a1)])) rfl (by rw [hml]; rfl) (Steps.refl _) (argsL := [(.ref a2)]) (rest := []) (lenOf pd7 rfl) rfl (by show 2 * 0 + _ ≤ _; exact Nat.le_of_eq rfl) (hb hby d11_15) (fun _ _ => ⟨rfl, e5, (by decide : 0 + 0 ≤ _), (by decide : 0 + 0 ≤ _)⟩)
    dsimp only [Pt.U, Pt.locs, Pt.cells, Pt.slots] at X6 l6 y6 z6 st6 hQ6
    subst l6 y6 z6
    obtain ⟨rfl, rfl, e6⟩ := hQ6
    have N6 := Fr.app N0 (Fr.nil n0)
    obtain ⟨fs, hr, hrun, hended, hW, hsame⟩ := X6.leave (v := some (.int (0 : Int32))) (fun h => by rw [Bd.returns] at h; cases h)
    refine ⟨_, _, pre3 _ ?_, hrun, hended, _, _, rfl, ?_, ⟨_, rfl⟩, hW, hsame.mono (by decide) (by decide)⟩
    · show Steps p.tables e below (T2.setTop (mkF m 7 #[.val (.ref a1), .val (.ref a2)] [(.ref w_PUNCT), (.ref w_kind_a1)])) _
      refine Jvm.RoadKit.acmp (g := (mkF m 7 #[.val (.ref a1), .val (.ref a2)] [(.ref w_PUNCT), (.ref w_kind_a1)])) X2 hx rfl rfl rfl (pc0 := 7) (pc' := 10) (same := true) rfl (hb hby d11_7) rfl (decide_eq_true (congrArg Value.ref hc7_4)) (by decide) (by decide) ?_
      show Steps p.tables e below (T2.setTop (mkF m 10 #[.val (.ref a1), .val (.ref a2)] [])) _
      refine XS.aloadN X2.here hx rfl (hb hby d11_10) rfl rfl ?_
      show Steps p.tables e below (T2.setTop (mkF m 11 #[.val (.ref a1), .val (.ref a2)] [(.ref a1)])) _
      refine st5 _ ?_
      show Steps p.tables e below (T5.setTop (mkF m 14 #[.val (.ref a1), .val (.ref a2)] [(.ref w_text_a1)])) _
      refine XS.aloadN X5.here hx rfl (hb hby d11_14) rfl rfl ?_
      show Steps p.tables e below (T5.setTop (mkF m 15 #[.val (.ref a1), .val (.ref a2)] [(.ref a2), (.ref w_text_a1)])) _
      refine st6.trans ?_
      show Steps p.tables e below (T6.setTop (mkF m 18 #[.val (.ref a1), .val (.ref a2)] [(.int (0 : Int32))])) _
      refine XS.ifYes X6.here hx rfl (pc0 := 18) (pc' := 25) rfl (hb hby d11_18) rfl ((if0 _ _).trans (teq (by decide : (0 : Int32) = (0 : Int32))).1) (by decide) (by decide) ?_
      refine XS.iconst X6.here hx rfl (hb hby d11_25) ?_
      show Steps p.tables e below (T6.setTop (mkF m 26 #[.val (.ref a1), .val (.ref a2)] [(.int (0 : Int32))])) _
      exact retN X6 hx (t := .boolean) Bd.returns (by simp) (hb hby d11_26) hr
    · show Q_is_0_2 Z a1 a2 w_value_a2 kb y0 y1 w_text_a1 w_value_w_text_a1 ka w_kind_a1 w_PUNCT w_COMPACT_STRINGS h0 n0 _ T6.heap _
      rw [e6]
      exact ⟨by rw [res_is_0_2, if_pos hc7_4], rfl, rfl⟩
  · obtain ⟨fs, hr, hrun, hended, hW, hsame⟩ := X2.leave (v := some (.int (0 : Int32))) (fun h => by rw [Bd.returns] at h; cases h)
    refine ⟨_, _, pre3 _ ?_, hrun, hended, _, _, rfl, ?_, ⟨_, rfl⟩, hW, hsame.mono (by decide) (by decide)⟩
    · show Steps p.tables e below (T2.setTop (mkF m 7 #[.val (.ref a1), .val (.ref a2)] [(.ref w_PUNCT), (.ref w_kind_a1)])) _
      refine Jvm.RoadKit.acmp (g := (mkF m 7 #[.val (.ref a1), .val (.ref a2)] [(.ref w_PUNCT), (.ref w_kind_a1)])) X2 hx rfl rfl rfl (pc0 := 7) (pc' := 25) (same := false) rfl (hb hby d11_7) rfl (decide_eq_false fun q => hc7_4 (Value.ref.inj q)) (by decide) (by decide) ?_
      show Steps p.tables e below (T2.setTop (mkF m 25 #[.val (.ref a1), .val (.ref a2)] [])) _
      refine XS.iconst X2.here hx rfl (hb hby d11_25) ?_
      show Steps p.tables e below (T2.setTop (mkF m 26 #[.val (.ref a1), .val (.ref a2)] [(.int (0 : Int32))])) _
      exact retN X2 hx (t := .boolean) Bd.returns (by simp) (hb hby d11_26) hr
    · show Q_is_0_2 Z a1 a2 w_value_a2 kb y0 y1 w_text_a1 w_value_w_text_a1 ka w_kind_a1 w_PUNCT w_COMPACT_STRINGS h0 n0 _ T2.heap _
      rw [e2]
      exact ⟨by rw [res_is_0_2, if_neg hc7_4], rfl, rfl⟩
theorem ef_leq_1_0 (m : MethodId) (a1 : Addr) (a2 : Addr) : entryFrame m #[(.ref a1), (.ref a2)] 3 = (mkF m 0 #[.val (.ref a1), .val (.ref a2), .unset] []) := by first | (simp [entryFrame, mkF, argsToLocals, Value.category]; done) | rfl
def Q_leq_1_0 (Z : State) (a1 : Addr) (a2 : Addr) (ka : ClassId) (x0 : Int32) (kb : ClassId) (h0 : Heap) (n0 : Nat) (v : Option Value) (h : Heap) (L : List Loc) : Prop := v = some (.int (0 : Int32)) ∧ L = [] ∧ h = h0
set_option maxRecDepth 65536 in
set_option maxHeartbeats 40000000 in
theorem rm_leq_1_0 (l : Launch) (Z : State) (a0 : Array Value) (hw : ∀ d ∈ tables_1, d.before a0 Z = true) (ws : List Jvm.Cond) (a1 : Addr) (a2 : Addr) (ka : ClassId) (x0 : Int32) (kb : ClassId) (h0 : Heap) (n0 : Nat) (Z0 : n0 ≤ h0.size) (V_a1 : Arv Z h0 a1 ka .byte (1 : Int32) [(.int x0)] (.int (0 : Int32))) (V_a2 : Arv Z h0 a2 kb .byte (0 : Int32) [] (.int (0 : Int32))) :
    MetFree l (⟨"java/lang/StringLatin1", "equals", "([B[B)Z"⟩ : MethodName) (head1 (Jvm.Cond.code (⟨"java/lang/StringLatin1", "equals", "([B[B)Z"⟩ : MethodName) jdk_43_method_13_code 3 (some .boolean) :: ws) ({ frames := 0, cells := 0, slots := 0, locals := 0 } : Room)) (fun a U => a = #[(.ref a1), (.ref a2)] ∧ Z.Warmed39 U.vm ∧ U.heap = h0) (fun _ _ _ _ _ => True) (fun _ U o U' => ∃ v L, o = .returned v ∧ Q_leq_1_0 Z a1 a2 ka x0 kb h0 n0 v U'.heap L ∧ FrameEnd U o U' L ({ frames := 0, cells := 0, slots := 0, locals := 0 } : Room).cells ({ frames := 0, cells := 0, slots := 0, locals := 0 } : Room).slots) := by
  refine MetFree.of_bodySF (plainFor_of_name pn5) hisR ?_
  intro p e s m args below meth c s₁ Bd hml0 hP hK
  obtain ⟨rfl, hZ, hh⟩ := hP
  have hx := Bd.exec
  have hby := Bd.bytes
  have hml : c.maxLocals = 3 := hml0
  have hown : s.vm.findClass "java/lang/StringLatin1" = some m.cls := findClass_of_methodNamed Bd.named
  have hnm := (name_of_methodNamed Bd.named Bd.method).1
  have X0 : Stand p l e ({ frames := 0, cells := 0, slots := 0, locals := 0 } : Room) s m #[(.ref a1), (.ref a2)] below meth c s₁ [] 0 0 := Stand.of_body Bd
  have e0 : s₁.heap = h0 := by rw [← hh, Bd.state]; rfl
  have N0 := Fr.nil n0
  have pre0 : ∀ t, Steps p.tables e below (s₁.setTop (mkF m 0 #[.val (.ref a1), .val (.ref a2), .unset] [])) t → Steps p.tables e below (s₁.setTop (entryFrame m #[(.ref a1), (.ref a2)] 3)) t := fun t k => castTop (ef_leq_1_0 m a1 a2) k
  obtain ⟨cl_a1_1_1, Ar_a1_1_1, -, S_a1_1_1, N_a1_1_1, -, -⟩ := id V_a1
  obtain ⟨cl_a2_3_2, Ar_a2_3_2, -, S_a2_3_2, N_a2_3_2, -, -⟩ := id V_a2
  obtain ⟨fs, hr, hrun, hended, hW, hsame⟩ := X0.leave (v := some (.int (0 : Int32))) (fun h => by rw [Bd.returns] at h; cases h)
  refine ⟨_, _, pre0 _ ?_, hrun, hended, _, _, rfl, ?_, ⟨_, rfl⟩, hW, hsame.mono (by decide) (by decide)⟩
  · show Steps p.tables e below (s₁.setTop (mkF m 0 #[.val (.ref a1), .val (.ref a2), .unset] [])) _
    refine XS.aloadN X0.here hx rfl (hb hby d13_0) rfl rfl ?_
    refine X0.arraylength hx (by rw [e0]; exact Ar_a1_1_1.1) (State.isArrayOf_alike hZ.alike Ar_a1_1_1.2.1) (g := (mkF m 1 #[.val (.ref a1), .val (.ref a2), .unset] [(.ref a1)])) rfl rfl (hb hby d13_1) _ ?_
    rw [len_of S_a1_1_1 N_a1_1_1]
    show Steps p.tables e below (s₁.setTop (mkF m 2 #[.val (.ref a1), .val (.ref a2), .unset] [(.int (1 : Int32))])) _
    refine XS.aloadN X0.here hx rfl (hb hby d13_2) rfl rfl ?_
    show Steps p.tables e below (s₁.setTop (mkF m 3 #[.val (.ref a1), .val (.ref a2), .unset] [(.ref a2), (.int (1 : Int32))])) _
    refine X0.arraylength hx (by rw [e0]; exact Ar_a2_3_2.1) (State.isArrayOf_alike hZ.alike Ar_a2_3_2.2.1) (g := (mkF m 3 #[.val (.ref a1), .val (.ref a2), .unset] [(.ref a2), (.int (1 : Int32))])) rfl rfl (hb hby d13_3) _ ?_
    rw [len_of S_a2_3_2 N_a2_3_2]
    show Steps p.tables e below (s₁.setTop (mkF m 4 #[.val (.ref a1), .val (.ref a2), .unset] [(.int (0 : Int32)), (.int (1 : Int32))])) _
    refine XS.icmpYes X0.here hx rfl (pc0 := 4) (pc' := 34) rfl (hb hby d13_4) rfl (feq (by decide : ¬ ((1 : Int32) = (0 : Int32)))).2 (by decide) (by decide) ?_
    refine XS.iconst X0.here hx rfl (hb hby d13_34) ?_
    show Steps p.tables e below (s₁.setTop (mkF m 35 #[.val (.ref a1), .val (.ref a2), .unset] [(.int (0 : Int32))])) _
    exact retN X0 hx (t := .boolean) Bd.returns (by simp) (hb hby d13_35) hr
  · show Q_leq_1_0 Z a1 a2 ka x0 kb h0 n0 _ s₁.heap _
    rw [e0]
    exact ⟨rfl, rfl, rfl⟩
theorem ef_eq_1_0 (m : MethodId) (a1 : Addr) (a2 : Addr) : entryFrame m #[(.ref a1), (.ref a2)] 3 = (mkF m 0 #[.val (.ref a1), .val (.ref a2), .unset] []) := by first | (simp [entryFrame, mkF, argsToLocals, Value.category]; done) | rfl
def Q_eq_1_0 (Z : State) (a1 : Addr) (a2 : Addr) (w_value_a1 : Addr) (ka : ClassId) (x0 : Int32) (w_value_a2 : Addr) (kb : ClassId) (w_COMPACT_STRINGS : Int32) (h0 : Heap) (n0 : Nat) (v : Option Value) (h : Heap) (L : List Loc) : Prop := v = some (.int (0 : Int32)) ∧ L = [] ∧ h = h0
set_option maxRecDepth 65536 in
set_option maxHeartbeats 40000000 in
theorem rm_eq_1_0 (l : Launch) (Z : State) (a0 : Array Value) (hw : ∀ d ∈ tables_1, d.before a0 Z = true) (ws : List Jvm.Cond) (a1 : Addr) (a2 : Addr) (w_value_a1 : Addr) (ka : ClassId) (x0 : Int32) (w_value_a2 : Addr) (kb : ClassId) (w_COMPACT_STRINGS : Int32) (h0 : Heap) (n0 : Nat) (Z0 : n0 ≤ h0.size) (E_a1 : Exa Z h0 a1 "java/lang/String") (F_coder_a1 : Fld Z h0 a1 "java/lang/String" "coder" "B" (.int (0 : Int32))) (F_value_a1 : Fld Z h0 a1 "java/lang/String" "value" "[B" (.ref w_value_a1)) (V_w_value_a1 : Arv Z h0 w_value_a1 ka .byte (1 : Int32) [(.int x0)] (.int (0 : Int32))) (E_a2 : Exa Z h0 a2 "java/lang/String") (F_coder_a2 : Fld Z h0 a2 "java/lang/String" "coder" "B" (.int (0 : Int32))) (F_value_a2 : Fld Z h0 a2 "java/lang/String" "value" "[B" (.ref w_value_a2)) (V_w_value_a2 : Arv Z h0 w_value_a2 kb .byte (0 : Int32) [] (.int (0 : Int32))) (S_COMPACT_STRINGS : Sta Z h0 "java/lang/String" "COMPACT_STRINGS" "Z" (.int w_COMPACT_STRINGS)) (hne_12 : a1 ≠ a2) (hCS : ¬ (w_COMPACT_STRINGS = (0 : Int32))) :
    MetFree l (⟨"java/lang/String", "equals", "(Ljava/lang/Object;)Z"⟩ : MethodName) (head1 (Jvm.Cond.code (⟨"java/lang/String", "equals", "(Ljava/lang/Object;)Z"⟩ : MethodName) jdk_42_method_66_code 3 (some .boolean) :: ws) ({ frames := 1, cells := 0, slots := 0, locals := 14 } : Room)) (fun a U => a = #[(.ref a1), (.ref a2)] ∧ Z.Warmed39 U.vm ∧ U.heap = h0) (fun _ _ _ _ _ => True) (fun _ U o U' => ∃ v L, o = .returned v ∧ Q_eq_1_0 Z a1 a2 w_value_a1 ka x0 w_value_a2 kb w_COMPACT_STRINGS h0 n0 v U'.heap L ∧ FrameEnd U o U' L ({ frames := 1, cells := 0, slots := 0, locals := 14 } : Room).cells ({ frames := 1, cells := 0, slots := 0, locals := 14 } : Room).slots) := by
  refine MetFree.of_bodySF (plainFor_of_name pn0) hisR ?_
  intro p e s m args below meth c s₁ Bd hml0 hP hK
  obtain ⟨rfl, hZ, hh⟩ := hP
  have hx := Bd.exec
  have hby := Bd.bytes
  have hml : c.maxLocals = 3 := hml0
  have hown : s.vm.findClass "java/lang/String" = some m.cls := findClass_of_methodNamed Bd.named
  have hnm := (name_of_methodNamed Bd.named Bd.method).1
  have X0 : Stand p l e ({ frames := 1, cells := 0, slots := 0, locals := 14 } : Room) s m #[(.ref a1), (.ref a2)] below meth c s₁ [] 0 0 := Stand.of_body Bd
  have e0 : s₁.heap = h0 := by rw [← hh, Bd.state]; rfl
  have N0 := Fr.nil n0
  have pre0 : ∀ t, Steps p.tables e below (s₁.setTop (mkF m 0 #[.val (.ref a1), .val (.ref a2), .unset] [])) t → Steps p.tables e below (s₁.setTop (entryFrame m #[(.ref a1), (.ref a2)] 3)) t := fun t k => castTop (ef_eq_1_0 m a1 a2) k
  obtain ⟨T1, X1, e1, st1⟩ := instY X0 hx hZ hown (hw _ (List.mem_of_getElem? (i := 91) rfl)) e0 (Ins.self E_a2) (g := (mkF m 8 #[.val (.ref a1), .val (.ref a2), .unset] [(.ref a2)])) rfl rfl (hb hby d12_8)
  obtain ⟨T2, X2, e2, st2⟩ := castY X1 hx hZ hown (hw _ (List.mem_of_getElem? (i := 91) rfl)) e1 (Ins.self E_a2) (g := (mkF m 15 #[.val (.ref a1), .val (.ref a2), .unset] [(.ref a2)])) rfl rfl (hb hby d12_15)
  obtain ⟨T3, X3, e3, st3⟩ := getS2 X2 hx hZ hown (host := "") (Or.inl (hw _ (List.mem_of_getElem? (i := 19) rfl))) Via.refl e2 S_COMPACT_STRINGS (g := (mkF m 19 #[.val (.ref a1), .val (.ref a2), .val (.ref a2)] [])) rfl (hb hby d12_19)
  obtain ⟨T4, X4, e4, st4⟩ := getF X3 hx hZ hown (host := "") (Or.inl (hw _ (List.mem_of_getElem? (i := 31) rfl))) Via.refl e3 F_coder_a1 (g := (mkF m 26 #[.val (.ref a1), .val (.ref a2), .val (.ref a2)] [(.ref a1)])) rfl rfl (hb hby d12_26)
  obtain ⟨T5, X5, e5, st5⟩ := getF X4 hx hZ hown (host := "") (Or.inl (hw _ (List.mem_of_getElem? (i := 31) rfl))) Via.refl e4 F_coder_a2 (g := (mkF m 30 #[.val (.ref a1), .val (.ref a2), .val (.ref a2)] [(.ref a2), (.int (0 : Int32))])) rfl rfl (hb hby d12_30)
  obtain ⟨T6, X6, e6, st6⟩ := getF X5 hx hZ hown (host := "") (Or.inl (hw _ (List.mem_of_getElem? (i := 33) rfl))) Via.refl e5 F_value_a1 (g := (mkF m 37 #[.val (.ref a1), .val (.ref a2), .val (.ref a2)] [(.ref a1)])) rfl rfl (hb hby d12_37)
  obtain ⟨T7, X7, e7, st7⟩ := getF X6 hx hZ hown (host := "") (Or.inl (hw _ (List.mem_of_getElem? (i := 33) rfl))) Via.refl e6 F_value_a2 (g := (mkF m 41 #[.val (.ref a1), .val (.ref a2), .val (.ref a2)] [(.ref a2), (.ref w_value_a1)])) rfl rfl (hb hby d12_41)
  obtain ⟨_, _, ⟨T8, L8, k8, n8⟩, -, X8, ⟨Lc8, hQ8, l8, y8, z8⟩, st8⟩ := Jvm.LawKit.callS X7 hx (y := (⟨"java/lang/StringLatin1", "equals", "([B[B)Z"⟩ : MethodName)) hown (mvT hZ (hw _ (List.mem_of_getElem? (i := 92) rfl))) (mvT hZ (hw _ (List.mem_of_getElem? (i := 93) rfl))) (mvT hZ (hw _ (List.mem_of_getElem? (i := 94) rfl))) (mvT hZ (hw _ (List.mem_of_getElem? (i := 95) rfl))) (by decide) (backOf (W := 0) (rm_leq_1_0 l Z a0 hw [] w_value_a1 w_value_a2 ka x0 kb h0 n0 (Nat.le_trans Z0 (Keep.refl h0 []).1) V_w_value_a1 V_w_value_a2 ) hZ (hw _ (List.mem_of_getElem? (i := 95) rfl)) (hw _ (List.mem_of_getElem? (i := 94) rfl)) (by decide) (by decide)) (g := (mkF m 44 #[.val (.ref a1), .val (.ref a2), .val (.ref a2)] [(.ref w_value_a2), (.ref w_value_a1)])) rfl (by rw [hml]; rfl) (argsL := [(.ref w_value_a1), (.ref w_value_a2)]) (rest := []) (lenOf pd6 rfl) rfl (by show 2 * 0 + _ ≤ _; exact Nat.le_of_eq rfl) (hb hby d12_44) (fun _ _ => ⟨rfl, e7, (by decide : 0 + 0 ≤ _), (by decide : 0 + 0 ≤ _)⟩)
  dsimp only [Pt.U, Pt.locs, Pt.cells, Pt.slots] at X8 l8 y8 z8 st8 hQ8
  subst l8 y8 z8
  obtain ⟨rfl, rfl, e8⟩ := hQ8
  have N8 := Fr.app N0 (Fr.nil n0)
  obtain ⟨fs, hr, hrun, hended, hW, hsame⟩ := X8.leave (v := some (.int (0 : Int32))) (fun h => by rw [Bd.returns] at h; cases h)
  refine ⟨_, _, pre0 _ ?_, hrun, hended, _, _, rfl, ?_, ⟨_, rfl⟩, hW, hsame.mono (by decide) (by decide)⟩
  · show Steps p.tables e below (s₁.setTop (mkF m 0 #[.val (.ref a1), .val (.ref a2), .unset] [])) _
    refine XS.aloadN X0.here hx rfl (hb hby d12_0) rfl rfl ?_
    refine XS.aloadN X0.here hx rfl (hb hby d12_1) rfl rfl ?_
    refine Jvm.RoadKit.acmp (g := (mkF m 2 #[.val (.ref a1), .val (.ref a2), .unset] [(.ref a2), (.ref a1)])) X0 hx rfl rfl rfl (pc0 := 2) (pc' := 7) (same := false) rfl (hb hby d12_2) rfl (decide_eq_false fun q => hne_12 (Value.ref.inj q)) (by decide) (by decide) ?_
    show Steps p.tables e below (s₁.setTop (mkF m 7 #[.val (.ref a1), .val (.ref a2), .unset] [])) _
    refine XS.aloadN X0.here hx rfl (hb hby d12_7) rfl rfl ?_
    show Steps p.tables e below (s₁.setTop (mkF m 8 #[.val (.ref a1), .val (.ref a2), .unset] [(.ref a2)])) _
    refine st1 _ ?_
    show Steps p.tables e below (T1.setTop (mkF m 11 #[.val (.ref a1), .val (.ref a2), .unset] [(.int (1 : Int32))])) _
    refine XS.ifNo X1.here hx rfl (hb hby d12_11) rfl ((if0 _ _).trans (feq (by decide : ¬ ((1 : Int32) = (0 : Int32)))).1) ?_
    refine XS.aloadN X1.here hx rfl (hb hby d12_14) rfl rfl ?_
    show Steps p.tables e below (T1.setTop (mkF m 15 #[.val (.ref a1), .val (.ref a2), .unset] [(.ref a2)])) _
    refine st2 _ ?_
    show Steps p.tables e below (T2.setTop (mkF m 18 #[.val (.ref a1), .val (.ref a2), .unset] [(.ref a2)])) _
    refine XS.astoreN X2.here hx rfl (hb hby d12_18) rfl rfl (l' := #[.val (.ref a1), .val (.ref a2), .val (.ref a2)]) rfl ?_
    show Steps p.tables e below (T2.setTop (mkF m 19 #[.val (.ref a1), .val (.ref a2), .val (.ref a2)] [])) _
    refine st3 _ ?_
    show Steps p.tables e below (T3.setTop (mkF m 22 #[.val (.ref a1), .val (.ref a2), .val (.ref a2)] [(.int w_COMPACT_STRINGS)])) _
    refine XS.ifNo X3.here hx rfl (hb hby d12_22) rfl ((if0 _ _).trans (feq (hCS : ¬ (w_COMPACT_STRINGS = (0 : Int32)))).1) ?_
    refine XS.aloadN X3.here hx rfl (hb hby d12_25) rfl rfl ?_
    show Steps p.tables e below (T3.setTop (mkF m 26 #[.val (.ref a1), .val (.ref a2), .val (.ref a2)] [(.ref a1)])) _
    refine st4 _ ?_
    show Steps p.tables e below (T4.setTop (mkF m 29 #[.val (.ref a1), .val (.ref a2), .val (.ref a2)] [(.int (0 : Int32))])) _
    refine XS.aloadN X4.here hx rfl (hb hby d12_29) rfl rfl ?_
    show Steps p.tables e below (T4.setTop (mkF m 30 #[.val (.ref a1), .val (.ref a2), .val (.ref a2)] [(.ref a2), (.int (0 : Int32))])) _
    refine st5 _ ?_
    show Steps p.tables e below (T5.setTop (mkF m 33 #[.val (.ref a1), .val (.ref a2), .val (.ref a2)] [(.int (0 : Int32)), (.int (0 : Int32))])) _
    refine XS.icmpNo X5.here hx rfl (hb hby d12_33) rfl (teq (by decide : (0 : Int32) = (0 : Int32))).2 ?_
    refine XS.aloadN X5.here hx rfl (hb hby d12_36) rfl rfl ?_
    show Steps p.tables e below (T5.setTop (mkF m 37 #[.val (.ref a1), .val (.ref a2), .val (.ref a2)] [(.ref a1)])) _
    refine st6 _ ?_
    show Steps p.tables e below (T6.setTop (mkF m 40 #[.val (.ref a1), .val (.ref a2), .val (.ref a2)] [(.ref w_value_a1)])) _
    refine XS.aloadN X6.here hx rfl (hb hby d12_40) rfl rfl ?_
    show Steps p.tables e below (T6.setTop (mkF m 41 #[.val (.ref a1), .val (.ref a2), .val (.ref a2)] [(.ref a2), (.ref w_value_a1)])) _
    refine st7 _ ?_
    show Steps p.tables e below (T7.setTop (mkF m 44 #[.val (.ref a1), .val (.ref a2), .val (.ref a2)] [(.ref w_value_a2), (.ref w_value_a1)])) _
    refine st8 _ ?_
    show Steps p.tables e below (T8.setTop (mkF m 47 #[.val (.ref a1), .val (.ref a2), .val (.ref a2)] [(.int (0 : Int32))])) _
    refine XS.ifYes X8.here hx rfl (pc0 := 47) (pc' := 54) rfl (hb hby d12_47) rfl ((if0 _ _).trans (teq (by decide : (0 : Int32) = (0 : Int32))).1) (by decide) (by decide) ?_
    refine XS.iconst X8.here hx rfl (hb hby d12_54) ?_
    show Steps p.tables e below (T8.setTop (mkF m 55 #[.val (.ref a1), .val (.ref a2), .val (.ref a2)] [(.int (0 : Int32))])) _
    exact retN X8 hx (t := .boolean) Bd.returns (by simp) (hb hby d12_55) hr
  · show Q_eq_1_0 Z a1 a2 w_value_a1 ka x0 w_value_a2 kb w_COMPACT_STRINGS h0 n0 _ T8.heap _
    rw [e8]
    exact ⟨rfl, rfl, rfl⟩
def res_is_1_0 (w_kind_a1 : Addr) (w_PUNCT : Addr) : Int32 := if w_kind_a1 = w_PUNCT then (0 : Int32) else (0 : Int32)
theorem ef_is_1_0 (m : MethodId) (a1 : Addr) (a2 : Addr) : entryFrame m #[(.ref a1), (.ref a2)] 2 = (mkF m 0 #[.val (.ref a1), .val (.ref a2)] []) := by first | (simp [entryFrame, mkF, argsToLocals, Value.category]; done) | rfl
def Q_is_1_0 (Z : State) (a1 : Addr) (a2 : Addr) (w_value_a2 : Addr) (kb : ClassId) (w_text_a1 : Addr) (w_value_w_text_a1 : Addr) (ka : ClassId) (x0 : Int32) (w_kind_a1 : Addr) (w_PUNCT : Addr) (w_COMPACT_STRINGS : Int32) (h0 : Heap) (n0 : Nat) (v : Option Value) (h : Heap) (L : List Loc) : Prop := v = some (.int (res_is_1_0 w_kind_a1 w_PUNCT)) ∧ L = [] ∧ h = h0
set_option maxRecDepth 65536 in
set_option maxHeartbeats 40000000 in
theorem rm_is_1_0 (l : Launch) (Z : State) (a0 : Array Value) (hw : ∀ d ∈ tables_1, d.before a0 Z = true) (ws : List Jvm.Cond) (a1 : Addr) (a2 : Addr) (w_value_a2 : Addr) (kb : ClassId) (w_text_a1 : Addr) (w_value_w_text_a1 : Addr) (ka : ClassId) (x0 : Int32) (w_kind_a1 : Addr) (w_PUNCT : Addr) (w_COMPACT_STRINGS : Int32) (h0 : Heap) (n0 : Nat) (Z0 : n0 ≤ h0.size) (E_a2 : Exa Z h0 a2 "java/lang/String") (F_coder_a2 : Fld Z h0 a2 "java/lang/String" "coder" "B" (.int (0 : Int32))) (F_value_a2 : Fld Z h0 a2 "java/lang/String" "value" "[B" (.ref w_value_a2)) (V_w_value_a2 : Arv Z h0 w_value_a2 kb .byte (0 : Int32) [] (.int (0 : Int32))) (F_text_a1 : Fld Z h0 a1 "com/example/cantrip/cantrip/Token" "text" "Ljava/lang/String;" (.ref w_text_a1)) (E_w_text_a1 : Exa Z h0 w_text_a1 "java/lang/String") (F_coder_w_text_a1 : Fld Z h0 w_text_a1 "java/lang/String" "coder" "B" (.int (0 : Int32))) (F_value_w_text_a1 : Fld Z h0 w_text_a1 "java/lang/String" "value" "[B" (.ref w_value_w_text_a1)) (V_w_value_w_text_a1 : Arv Z h0 w_value_w_text_a1 ka .byte (1 : Int32) [(.int x0)] (.int (0 : Int32))) (F_kind_a1 : Fld Z h0 a1 "com/example/cantrip/cantrip/Token" "kind" "Lcom/example/cantrip/cantrip/Token$Kind;" (.ref w_kind_a1)) (S_PUNCT : Sta Z h0 "com/example/cantrip/cantrip/Token$Kind" "PUNCT" "Lcom/example/cantrip/cantrip/Token$Kind;" (.ref w_PUNCT)) (S_COMPACT_STRINGS : Sta Z h0 "java/lang/String" "COMPACT_STRINGS" "Z" (.int w_COMPACT_STRINGS)) (hne_t : w_text_a1 ≠ a2) (hCS : ¬ (w_COMPACT_STRINGS = (0 : Int32))) :
    MetFree l (⟨"com/example/cantrip/cantrip/Token", "is", "(Ljava/lang/String;)Z"⟩ : MethodName) (head1 (Jvm.Cond.code (⟨"com/example/cantrip/cantrip/Token", "is", "(Ljava/lang/String;)Z"⟩ : MethodName) prog_3_method_2_code 2 (some .boolean) :: ws) ({ frames := 2, cells := 0, slots := 0, locals := 28 } : Room)) (fun a U => a = #[(.ref a1), (.ref a2)] ∧ Z.Warmed39 U.vm ∧ U.heap = h0) (fun _ _ _ _ _ => True) (fun _ U o U' => ∃ v L, o = .returned v ∧ Q_is_1_0 Z a1 a2 w_value_a2 kb w_text_a1 w_value_w_text_a1 ka x0 w_kind_a1 w_PUNCT w_COMPACT_STRINGS h0 n0 v U'.heap L ∧ FrameEnd U o U' L ({ frames := 2, cells := 0, slots := 0, locals := 28 } : Room).cells ({ frames := 2, cells := 0, slots := 0, locals := 28 } : Room).slots) := by
  refine MetFree.of_bodySF (plainFor_of_name pn4) hisR ?_
  intro p e s m args below meth c s₁ Bd hml0 hP hK
  obtain ⟨rfl, hZ, hh⟩ := hP
  have hx := Bd.exec
  have hby := Bd.bytes
  have hml : c.maxLocals = 2 := hml0
  have hown : s.vm.findClass "com/example/cantrip/cantrip/Token" = some m.cls := findClass_of_methodNamed Bd.named
  have hnm := (name_of_methodNamed Bd.named Bd.method).1
  have X0 : Stand p l e ({ frames := 2, cells := 0, slots := 0, locals := 28 } : Room) s m #[(.ref a1), (.ref a2)] below meth c s₁ [] 0 0 := Stand.of_body Bd
  have e0 : s₁.heap = h0 := by rw [← hh, Bd.state]; rfl
  have N0 := Fr.nil n0
  have pre0 : ∀ t, Steps p.tables e below (s₁.setTop (mkF m 0 #[.val (.ref a1), .val (.ref a2)] [])) t → Steps p.tables e below (s₁.setTop (entryFrame m #[(.ref a1), (.ref a2)] 2)) t := fun t k => castTop (ef_is_1_0 m a1 a2) k
  obtain ⟨T1, X1, e1, st1⟩ := getF X0 hx hZ hown (host := "") (Or.inl (hw _ (List.mem_of_getElem? (i := 56) rfl))) Via.refl e0 F_kind_a1 (g := (mkF m 1 #[.val (.ref a1), .val (.ref a2)] [(.ref a1)])) rfl rfl (hb hby d11_1)
  obtain ⟨T2, X2, e2, st2⟩ := getS2 X1 hx hZ hown (host := "") (Or.inl (hw _ (List.mem_of_getElem? (i := 67) rfl))) Via.refl e1 S_PUNCT (g := (mkF m 4 #[.val (.ref a1), .val (.ref a2)] [(.ref w_kind_a1)])) rfl (hb hby d11_4)
  have pre3 : ∀ t, Steps p.tables e below (T2.setTop (mkF m 7 #[.val (.ref a1), .val (.ref a2)] [(.ref w_PUNCT), (.ref w_kind_a1)])) t → Steps p.tables e below (s₁.setTop (entryFrame m #[(.ref a1), (.ref a2)] 2)) t := by
    intro t kt
    refine pre0 _ ?_
    show Steps p.tables e below (s₁.setTop (mkF m 0 #[.val (.ref a1), .val (.ref a2)] [])) _
    refine XS.aloadN X0.here hx rfl (hb hby d11_0) rfl rfl ?_
    show Steps p.tables e below (s₁.setTop (mkF m 1 #[.val (.ref a1), .val (.ref a2)] [(.ref a1)])) _
    refine st1 _ ?_
    show Steps p.tables e below (T1.setTop (mkF m 4 #[.val (.ref a1), .val (.ref a2)] [(.ref w_kind_a1)])) _
    refine st2 _ ?_
    exact kt
  by_cases hc7_4 : w_kind_a1 = w_PUNCT
  · obtain ⟨T5, X5, e5, st5⟩ := getF X2 hx hZ hown (host := "") (Or.inl (hw _ (List.mem_of_getElem? (i := 58) rfl))) Via.refl e2 F_text_a1 (g := (mkF m 11 #[.val (.ref a1), .val (.ref a2)] [(.ref a1)])) rfl rfl (hb hby d11_11)
    obtain ⟨cq6, kq6, q6a, q6b, q6c⟩ := isOf hZ e5 E_w_text_a1
    obtain ⟨_, _, ⟨T6, L6, k6, n6⟩, -, X6, ⟨Lc6, hQ6, l6, y6, z6⟩, st6⟩ := X5.virtualBack hx (y := (⟨"java/lang/String", "equals", "(Ljava/lang/Object;)Z"⟩ : MethodName)) (z := (⟨"java/lang/String", "equals", "(Ljava/lang/Object;)Z"⟩ : MethodName)) hown (mvT hZ (hw _ (List.mem_of_getElem? (i := 86) rfl))) (mvT hZ (hw _ (List.mem_of_getElem? (i := 87) rfl))) (notFace_of_selects (args := #[]) (mvT hZ (hw _ (List.mem_of_getElem? (i := 89) rfl)))) (mvT hZ (hw _ (List.mem_of_getElem? (i := 89) rfl))) (mvT hZ (hw _ (List.mem_of_getElem? (i := 88) rfl))) (by decide) (backOf (W := 0) (rm_eq_1_0 l Z a0 hw [] w_text_a1 a2 w_value_w_text_a1 ka x0 w_value_a2 kb w_COMPACT_STRINGS h0 n0 (Nat.le_trans Z0 (Keep.refl h0 []).1) E_w_text_a1 F_coder_w_text_a1 F_value_w_text_a1 V_w_value_w_text_a1 E_a2 F_coder_a2 F_value_a2 V_w_value_a2 S_COMPACT_STRINGS (hne_t : w_text_a1 ≠ a2) (hCS : ¬ (w_COMPACT_STRINGS = (0 : Int32)))) hZ (hw _ (List.mem_of_getElem? (i := 90) rfl)) (hw _ (List.mem_of_getElem? (i := 7) rfl)) (by decide) (by decide)) q6a q6c (g := (mkF m 15 #[.val (.ref a1), .val (.ref a2)] [(.ref a2), (.ref w_text_a1)])) rfl (by rw [hml]; rfl) (Steps.refl _) (argsL := [(.ref a2)]) (rest := []) (lenOf pd7 rfl) rfl (by show 2 * 0 + _ ≤ _; exact Nat.le_of_eq rfl) (hb hby d11_15) (fun _ _ => ⟨rfl, e5, (by decide : 0 + 0 ≤ _), (by decide : 0 + 0 ≤ _)⟩)
    dsimp only [Pt.U, Pt.locs, Pt.cells, Pt.slots] at X6 l6 y6 z6 st6 hQ6
    subst l6 y6 z6
    obtain ⟨rfl, rfl, e6⟩ := hQ6
    have N6 := Fr.app N0 (Fr.nil n0)
    obtain ⟨fs, hr, hrun, hended, hW, hsame⟩ := X6.leave (v := some (.int (0 : Int32))) (fun h => by rw [Bd.returns] at h; cases h)
    refine ⟨_, _, pre3 _ ?_, hrun, hended, _, _, rfl, ?_, ⟨_, rfl⟩, hW, hsame.mono (by decide) (by decide)⟩
    · show Steps p.tables e below (T2.setTop (mkF m 7 #[.val (.ref a1), .val (.ref a2)] [(.ref w_PUNCT), (.ref w_kind_a1)])) _
      refine Jvm.RoadKit.acmp (g := (mkF m 7 #[.val (.ref a1), .val (.ref a2)] [(.ref w_PUNCT), (.ref w_kind_a1)])) X2 hx rfl rfl rfl (pc0 := 7) (pc' := 10) (same := true) rfl (hb hby d11_7) rfl (decide_eq_true (congrArg Value.ref hc7_4)) (by decide) (by decide) ?_
      show Steps p.tables e below (T2.setTop (mkF m 10 #[.val (.ref a1), .val (.ref a2)] [])) _
      refine XS.aloadN X2.here hx rfl (hb hby d11_10) rfl rfl ?_
      show Steps p.tables e below (T2.setTop (mkF m 11 #[.val (.ref a1), .val (.ref a2)] [(.ref a1)])) _
      refine st5 _ ?_
      show Steps p.tables e below (T5.setTop (mkF m 14 #[.val (.ref a1), .val (.ref a2)] [(.ref w_text_a1)])) _
      refine XS.aloadN X5.here hx rfl (hb hby d11_14) rfl rfl ?_
      show Steps p.tables e below (T5.setTop (mkF m 15 #[.val (.ref a1), .val (.ref a2)] [(.ref a2), (.ref w_text_a1)])) _
      refine st6.trans ?_
      show Steps p.tables e below (T6.setTop (mkF m 18 #[.val (.ref a1), .val (.ref a2)] [(.int (0 : Int32))])) _
      refine XS.ifYes X6.here hx rfl (pc0 := 18) (pc' := 25) rfl (hb hby d11_18) rfl ((if0 _ _).trans (teq (by decide : (0 : Int32) = (0 : Int32))).1) (by decide) (by decide) ?_
      refine XS.iconst X6.here hx rfl (hb hby d11_25) ?_
      show Steps p.tables e below (T6.setTop (mkF m 26 #[.val (.ref a1), .val (.ref a2)] [(.int (0 : Int32))])) _
      exact retN X6 hx (t := .boolean) Bd.returns (by simp) (hb hby d11_26) hr
    · show Q_is_1_0 Z a1 a2 w_value_a2 kb w_text_a1 w_value_w_text_a1 ka x0 w_kind_a1 w_PUNCT w_COMPACT_STRINGS h0 n0 _ T6.heap _
      rw [e6]
      exact ⟨by rw [res_is_1_0, if_pos hc7_4], rfl, rfl⟩
  · obtain ⟨fs, hr, hrun, hended, hW, hsame⟩ := X2.leave (v := some (.int (0 : Int32))) (fun h => by rw [Bd.returns] at h; cases h)
    refine ⟨_, _, pre3 _ ?_, hrun, hended, _, _, rfl, ?_, ⟨_, rfl⟩, hW, hsame.mono (by decide) (by decide)⟩
    · show Steps p.tables e below (T2.setTop (mkF m 7 #[.val (.ref a1), .val (.ref a2)] [(.ref w_PUNCT), (.ref w_kind_a1)])) _
      refine Jvm.RoadKit.acmp (g := (mkF m 7 #[.val (.ref a1), .val (.ref a2)] [(.ref w_PUNCT), (.ref w_kind_a1)])) X2 hx rfl rfl rfl (pc0 := 7) (pc' := 25) (same := false) rfl (hb hby d11_7) rfl (decide_eq_false fun q => hc7_4 (Value.ref.inj q)) (by decide) (by decide) ?_
      show Steps p.tables e below (T2.setTop (mkF m 25 #[.val (.ref a1), .val (.ref a2)] [])) _
      refine XS.iconst X2.here hx rfl (hb hby d11_25) ?_
      show Steps p.tables e below (T2.setTop (mkF m 26 #[.val (.ref a1), .val (.ref a2)] [(.int (0 : Int32))])) _
      exact retN X2 hx (t := .boolean) Bd.returns (by simp) (hb hby d11_26) hr
    · show Q_is_1_0 Z a1 a2 w_value_a2 kb w_text_a1 w_value_w_text_a1 ka x0 w_kind_a1 w_PUNCT w_COMPACT_STRINGS h0 n0 _ T2.heap _
      rw [e2]
      exact ⟨by rw [res_is_1_0, if_neg hc7_4], rfl, rfl⟩
theorem d13_15 : decode jdk_43_method_13_code 15 = .ok (.aload_n 0, 1) := by decide +kernel
theorem d13_16 : decode jdk_43_method_13_code 16 = .ok (.iload_n 2, 1) := by decide +kernel
theorem d13_17 : decode jdk_43_method_13_code 17 = .ok (.baload, 1) := by decide +kernel
theorem d13_18 : decode jdk_43_method_13_code 18 = .ok (.aload_n 1, 1) := by decide +kernel
theorem d13_19 : decode jdk_43_method_13_code 19 = .ok (.iload_n 2, 1) := by decide +kernel
theorem d13_20 : decode jdk_43_method_13_code 20 = .ok (.baload, 1) := by decide +kernel
theorem d13_21 : decode jdk_43_method_13_code 21 = .ok (.if_icmp .eq 5, 3) := by decide +kernel
theorem d13_24 : decode jdk_43_method_13_code 24 = .ok (.iconst 0, 1) := by decide +kernel
theorem d13_25 : decode jdk_43_method_13_code 25 = .ok (.ireturn, 1) := by decide +kernel
theorem d13_26 : decode jdk_43_method_13_code 26 = .ok (.iinc 2 1, 3) := by decide +kernel
theorem d13_29 : decode jdk_43_method_13_code 29 = .ok (.goto (-20), 3) := by decide +kernel
def res_leq_1_1 (x0 : Int32) (y0 : Int32) : Int32 := if x0 = y0 then (1 : Int32) else (0 : Int32)
theorem ef_leq_1_1 (m : MethodId) (a1 : Addr) (a2 : Addr) : entryFrame m #[(.ref a1), (.ref a2)] 3 = (mkF m 0 #[.val (.ref a1), .val (.ref a2), .unset] []) := by first | (simp [entryFrame, mkF, argsToLocals, Value.category]; done) | rfl
def Q_leq_1_1 (Z : State) (a1 : Addr) (a2 : Addr) (ka : ClassId) (x0 : Int32) (kb : ClassId) (y0 : Int32) (h0 : Heap) (n0 : Nat) (v : Option Value) (h : Heap) (L : List Loc) : Prop := v = some (.int (res_leq_1_1 x0 y0)) ∧ L = [] ∧ h = h0
set_option maxRecDepth 65536 in
set_option maxHeartbeats 40000000 in
theorem rm_leq_1_1 (l : Launch) (Z : State) (a0 : Array Value) (hw : ∀ d ∈ tables_1, d.before a0 Z = true) (ws : List Jvm.Cond) (a1 : Addr) (a2 : Addr) (ka : ClassId) (x0 : Int32) (kb : ClassId) (y0 : Int32) (h0 : Heap) (n0 : Nat) (Z0 : n0 ≤ h0.size) (V_a1 : Arv Z h0 a1 ka .byte (1 : Int32) [(.int x0)] (.int (0 : Int32))) (V_a2 : Arv Z h0 a2 kb .byte (1 : Int32) [(.int y0)] (.int (0 : Int32))) :
    MetFree l (⟨"java/lang/StringLatin1", "equals", "([B[B)Z"⟩ : MethodName) (head1 (Jvm.Cond.code (⟨"java/lang/StringLatin1", "equals", "([B[B)Z"⟩ : MethodName) jdk_43_method_13_code 3 (some .boolean) :: ws) ({ frames := 0, cells := 0, slots := 0, locals := 0 } : Room)) (fun a U => a = #[(.ref a1), (.ref a2)] ∧ Z.Warmed39 U.vm ∧ U.heap = h0) (fun _ _ _ _ _ => True) (fun _ U o U' => ∃ v L, o = .returned v ∧ Q_leq_1_1 Z a1 a2 ka x0 kb y0 h0 n0 v U'.heap L ∧ FrameEnd U o U' L ({ frames := 0, cells := 0, slots := 0, locals := 0 } : Room).cells ({ frames := 0, cells := 0, slots := 0, locals := 0 } : Room).slots) := by
  refine MetFree.of_bodySF (plainFor_of_name pn5) hisR ?_
  intro p e s m args below meth c s₁ Bd hml0 hP hK
  obtain ⟨rfl, hZ, hh⟩ := hP
  have hx := Bd.exec
  have hby := Bd.bytes
  have hml : c.maxLocals = 3 := hml0
  have hown : s.vm.findClass "java/lang/StringLatin1" = some m.cls := findClass_of_methodNamed Bd.named
  have hnm := (name_of_methodNamed Bd.named Bd.method).1
  have X0 : Stand p l e ({ frames := 0, cells := 0, slots := 0, locals := 0 } : Room) s m #[(.ref a1), (.ref a2)] below meth c s₁ [] 0 0 := Stand.of_body Bd
  have e0 : s₁.heap = h0 := by rw [← hh, Bd.state]; rfl
  have N0 := Fr.nil n0
  have pre0 : ∀ t, Steps p.tables e below (s₁.setTop (mkF m 0 #[.val (.ref a1), .val (.ref a2), .unset] [])) t → Steps p.tables e below (s₁.setTop (entryFrame m #[(.ref a1), (.ref a2)] 3)) t := fun t k => castTop (ef_leq_1_1 m a1 a2) k
  obtain ⟨cl_a1_1_1, Ar_a1_1_1, -, S_a1_1_1, N_a1_1_1, -, -⟩ := id V_a1
  obtain ⟨cl_a2_3_2, Ar_a2_3_2, -, S_a2_3_2, N_a2_3_2, -, -⟩ := id V_a2
  obtain ⟨cl_a1_11_3, Ar_a1_11_3, -, S_a1_11_3, N_a1_11_3, -, -⟩ := id V_a1
  obtain ⟨cl_a1_17_4, Ar_a1_17_4, q_a1_17_4, S_a1_17_4, N_a1_17_4, H_a1_17_4, G_a1_17_4⟩ := id V_a1
  have hin_a1_17_4 : ¬ ((0 : Int32) < 0 ∨ cl_a1_17_4.slots.size ≤ ((0 : Int32) : Int32).toNatClampNeg) := inb_of S_a1_17_4 ⟨by decide, by decide⟩
  obtain ⟨cl_a2_20_5, Ar_a2_20_5, q_a2_20_5, S_a2_20_5, N_a2_20_5, H_a2_20_5, G_a2_20_5⟩ := id V_a2
  have hin_a2_20_5 : ¬ ((0 : Int32) < 0 ∨ cl_a2_20_5.slots.size ≤ ((0 : Int32) : Int32).toNatClampNeg) := inb_of S_a2_20_5 ⟨by decide, by decide⟩
  have pre6 : ∀ t, Steps p.tables e below (s₁.setTop (mkF m 21 #[.val (.ref a1), .val (.ref a2), .val (.int (0 : Int32))] [(.int y0), (.int x0)])) t → Steps p.tables e below (s₁.setTop (entryFrame m #[(.ref a1), (.ref a2)] 3)) t := by
    intro t kt
    refine pre0 _ ?_
    show Steps p.tables e below (s₁.setTop (mkF m 0 #[.val (.ref a1), .val (.ref a2), .unset] [])) _
    refine XS.aloadN X0.here hx rfl (hb hby d13_0) rfl rfl ?_
    refine X0.arraylength hx (by rw [e0]; exact Ar_a1_1_1.1) (State.isArrayOf_alike hZ.alike Ar_a1_1_1.2.1) (g := (mkF m 1 #[.val (.ref a1), .val (.ref a2), .unset] [(.ref a1)])) rfl rfl (hb hby d13_1) _ ?_
    rw [len_of S_a1_1_1 N_a1_1_1]
    show Steps p.tables e below (s₁.setTop (mkF m 2 #[.val (.ref a1), .val (.ref a2), .unset] [(.int (1 : Int32))])) _
    refine XS.aloadN X0.here hx rfl (hb hby d13_2) rfl rfl ?_
    show Steps p.tables e below (s₁.setTop (mkF m 3 #[.val (.ref a1), .val (.ref a2), .unset] [(.ref a2), (.int (1 : Int32))])) _
    refine X0.arraylength hx (by rw [e0]; exact Ar_a2_3_2.1) (State.isArrayOf_alike hZ.alike Ar_a2_3_2.2.1) (g := (mkF m 3 #[.val (.ref a1), .val (.ref a2), .unset] [(.ref a2), (.int (1 : Int32))])) rfl rfl (hb hby d13_3) _ ?_
    rw [len_of S_a2_3_2 N_a2_3_2]
    show Steps p.tables e below (s₁.setTop (mkF m 4 #[.val (.ref a1), .val (.ref a2), .unset] [(.int (1 : Int32)), (.int (1 : Int32))])) _
    refine XS.icmpNo X0.here hx rfl (hb hby d13_4) rfl (teq (by decide : (1 : Int32) = (1 : Int32))).2 ?_
    refine XS.iconst X0.here hx rfl (hb hby d13_7) ?_
    show Steps p.tables e below (s₁.setTop (mkF m 8 #[.val (.ref a1), .val (.ref a2), .unset] [(.int (0 : Int32))])) _
    refine XS.istoreN X0.here hx rfl (hb hby d13_8) rfl (l' := #[.val (.ref a1), .val (.ref a2), .val (.int (0 : Int32))]) rfl ?_
    refine XS.iloadN X0.here hx rfl (hb hby d13_9) rfl ?_
    refine XS.aloadN X0.here hx rfl (hb hby d13_10) rfl rfl ?_
    show Steps p.tables e below (s₁.setTop (mkF m 11 #[.val (.ref a1), .val (.ref a2), .val (.int (0 : Int32))] [(.ref a1), (.int (0 : Int32))])) _
    refine X0.arraylength hx (by rw [e0]; exact Ar_a1_11_3.1) (State.isArrayOf_alike hZ.alike Ar_a1_11_3.2.1) (g := (mkF m 11 #[.val (.ref a1), .val (.ref a2), .val (.int (0 : Int32))] [(.ref a1), (.int (0 : Int32))])) rfl rfl (hb hby d13_11) _ ?_
    rw [len_of S_a1_11_3 N_a1_11_3]
    show Steps p.tables e below (s₁.setTop (mkF m 12 #[.val (.ref a1), .val (.ref a2), .val (.int (0 : Int32))] [(.int (1 : Int32)), (.int (0 : Int32))])) _
    refine XS.icmpNo X0.here hx rfl (hb hby d13_12) rfl (tlt (by decide : (0 : Int32) < (1 : Int32))).2.1 ?_
    refine XS.aloadN X0.here hx rfl (hb hby d13_15) rfl rfl ?_
    show Steps p.tables e below (s₁.setTop (mkF m 16 #[.val (.ref a1), .val (.ref a2), .val (.int (0 : Int32))] [(.ref a1)])) _
    refine XS.iloadN X0.here hx rfl (hb hby d13_16) rfl ?_
    refine X0.baloadBytes hx (j := (0 : Int32)) (v := (.int x0)) (by rw [e0]; exact Ar_a1_17_4.1) (State.isArrayOf_alike hZ.alike Ar_a1_17_4.2.1) Ar_a1_17_4.2.2 hin_a1_17_4 (H_a1_17_4.at hin_a1_17_4 rfl) (g := (mkF m 17 #[.val (.ref a1), .val (.ref a2), .val (.int (0 : Int32))] [(.int (0 : Int32)), (.ref a1)])) rfl rfl (hb hby d13_17) _ ?_
    show Steps p.tables e below (s₁.setTop (mkF m 18 #[.val (.ref a1), .val (.ref a2), .val (.int (0 : Int32))] [(.int x0)])) _
    refine XS.aloadN X0.here hx rfl (hb hby d13_18) rfl rfl ?_
    show Steps p.tables e below (s₁.setTop (mkF m 19 #[.val (.ref a1), .val (.ref a2), .val (.int (0 : Int32))] [(.ref a2), (.int x0)])) _
    refine XS.iloadN X0.here hx rfl (hb hby d13_19) rfl ?_
    refine X0.baloadBytes hx (j := (0 : Int32)) (v := (.int y0)) (by rw [e0]; exact Ar_a2_20_5.1) (State.isArrayOf_alike hZ.alike Ar_a2_20_5.2.1) Ar_a2_20_5.2.2 hin_a2_20_5 (H_a2_20_5.at hin_a2_20_5 rfl) (g := (mkF m 20 #[.val (.ref a1), .val (.ref a2), .val (.int (0 : Int32))] [(.int (0 : Int32)), (.ref a2), (.int x0)])) rfl rfl (hb hby d13_20) _ ?_
    exact kt
  by_cases hc21_7 : x0 = y0
  · obtain ⟨cl_a1_11_8, Ar_a1_11_8, -, S_a1_11_8, N_a1_11_8, -, -⟩ := id V_a1
    obtain ⟨fs, hr, hrun, hended, hW, hsame⟩ := X0.leave (v := some (.int (1 : Int32))) (fun h => by rw [Bd.returns] at h; cases h)
    refine ⟨_, _, pre6 _ ?_, hrun, hended, _, _, rfl, ?_, ⟨_, rfl⟩, hW, hsame.mono (by decide) (by decide)⟩
    · show Steps p.tables e below (s₁.setTop (mkF m 21 #[.val (.ref a1), .val (.ref a2), .val (.int (0 : Int32))] [(.int y0), (.int x0)])) _
      refine XS.icmpYes X0.here hx rfl (pc0 := 21) (pc' := 26) rfl (hb hby d13_21) rfl (teq hc21_7).1 (by decide) (by decide) ?_
      show Steps p.tables e below (s₁.setTop (mkF m 26 #[.val (.ref a1), .val (.ref a2), .val (.int (0 : Int32))] [])) _
      refine XS.iinc X0.here hx rfl (hb hby d13_26) rfl (l' := #[.val (.ref a1), .val (.ref a2), .val (.int (1 : Int32))]) rfl ?_
      refine XS.goto X0.here hx rfl (pc0 := 29) (pc' := 9) rfl (hb hby d13_29) (by decide) (by decide) ?_
      refine XS.iloadN X0.here hx rfl (hb hby d13_9) rfl ?_
      show Steps p.tables e below (s₁.setTop (mkF m 10 #[.val (.ref a1), .val (.ref a2), .val (.int (1 : Int32))] [(.int (1 : Int32))])) _
      refine XS.aloadN X0.here hx rfl (hb hby d13_10) rfl rfl ?_
      refine X0.arraylength hx (by rw [e0]; exact Ar_a1_11_8.1) (State.isArrayOf_alike hZ.alike Ar_a1_11_8.2.1) (g := (mkF m 11 #[.val (.ref a1), .val (.ref a2), .val (.int (1 : Int32))] [(.ref a1), (.int (1 : Int32))])) rfl rfl (hb hby d13_11) _ ?_
      rw [len_of S_a1_11_8 N_a1_11_8]
      show Steps p.tables e below (s₁.setTop (mkF m 12 #[.val (.ref a1), .val (.ref a2), .val (.int (1 : Int32))] [(.int (1 : Int32)), (.int (1 : Int32))])) _
      refine XS.icmpYes X0.here hx rfl (pc0 := 12) (pc' := 32) rfl (hb hby d13_12) rfl (flt (by decide : ¬ ((1 : Int32) < (1 : Int32)))).2.1 (by decide) (by decide) ?_
      show Steps p.tables e below (s₁.setTop (mkF m 32 #[.val (.ref a1), .val (.ref a2), .val (.int (1 : Int32))] [])) _
      refine XS.iconst X0.here hx rfl (hb hby d13_32) ?_
      show Steps p.tables e below (s₁.setTop (mkF m 33 #[.val (.ref a1), .val (.ref a2), .val (.int (1 : Int32))] [(.int (1 : Int32))])) _
      exact retN X0 hx (t := .boolean) Bd.returns (by simp) (hb hby d13_33) hr
    · show Q_leq_1_1 Z a1 a2 ka x0 kb y0 h0 n0 _ s₁.heap _
      rw [e0]
      exact ⟨by rw [res_leq_1_1, if_pos hc21_7], rfl, rfl⟩
  · obtain ⟨fs, hr, hrun, hended, hW, hsame⟩ := X0.leave (v := some (.int (0 : Int32))) (fun h => by rw [Bd.returns] at h; cases h)
    refine ⟨_, _, pre6 _ ?_, hrun, hended, _, _, rfl, ?_, ⟨_, rfl⟩, hW, hsame.mono (by decide) (by decide)⟩
    · show Steps p.tables e below (s₁.setTop (mkF m 21 #[.val (.ref a1), .val (.ref a2), .val (.int (0 : Int32))] [(.int y0), (.int x0)])) _
      refine XS.icmpNo X0.here hx rfl (hb hby d13_21) rfl (feq hc21_7).1 ?_
      show Steps p.tables e below (s₁.setTop (mkF m 24 #[.val (.ref a1), .val (.ref a2), .val (.int (0 : Int32))] [])) _
      refine XS.iconst X0.here hx rfl (hb hby d13_24) ?_
      show Steps p.tables e below (s₁.setTop (mkF m 25 #[.val (.ref a1), .val (.ref a2), .val (.int (0 : Int32))] [(.int (0 : Int32))])) _
      exact retN X0 hx (t := .boolean) Bd.returns (by simp) (hb hby d13_25) hr
    · show Q_leq_1_1 Z a1 a2 ka x0 kb y0 h0 n0 _ s₁.heap _
      rw [e0]
      exact ⟨by rw [res_leq_1_1, if_neg hc21_7], rfl, rfl⟩
def res_eq_1_1 (x0 : Int32) (y0 : Int32) : Int32 := if (res_leq_1_1 x0 y0) = (0 : Int32) then (0 : Int32) else (1 : Int32)
theorem ef_eq_1_1 (m : MethodId) (a1 : Addr) (a2 : Addr) : entryFrame m #[(.ref a1), (.ref a2)] 3 = (mkF m 0 #[.val (.ref a1), .val (.ref a2), .unset] []) := by first | (simp [entryFrame, mkF, argsToLocals, Value.category]; done) | rfl
def Q_eq_1_1 (Z : State) (a1 : Addr) (a2 : Addr) (w_value_a1 : Addr) (ka : ClassId) (x0 : Int32) (w_value_a2 : Addr) (kb : ClassId) (y0 : Int32) (w_COMPACT_STRINGS : Int32) (h0 : Heap) (n0 : Nat) (v : Option Value) (h : Heap) (L : List Loc) : Prop := v = some (.int (res_eq_1_1 x0 y0)) ∧ L = [] ∧ h = h0
set_option maxRecDepth 65536 in
set_option maxHeartbeats 40000000 in
theorem rm_eq_1_1 (l : Launch) (Z : State) (a0 : Array Value) (hw : ∀ d ∈ tables_1, d.before a0 Z = true) (ws : List Jvm.Cond) (a1 : Addr) (a2 : Addr) (w_value_a1 : Addr) (ka : ClassId) (x0 : Int32) (w_value_a2 : Addr) (kb : ClassId) (y0 : Int32) (w_COMPACT_STRINGS : Int32) (h0 : Heap) (n0 : Nat) (Z0 : n0 ≤ h0.size) (E_a1 : Exa Z h0 a1 "java/lang/String") (F_coder_a1 : Fld Z h0 a1 "java/lang/String" "coder" "B" (.int (0 : Int32))) (F_value_a1 : Fld Z h0 a1 "java/lang/String" "value" "[B" (.ref w_value_a1)) (V_w_value_a1 : Arv Z h0 w_value_a1 ka .byte (1 : Int32) [(.int x0)] (.int (0 : Int32))) (E_a2 : Exa Z h0 a2 "java/lang/String") (F_coder_a2 : Fld Z h0 a2 "java/lang/String" "coder" "B" (.int (0 : Int32))) (F_value_a2 : Fld Z h0 a2 "java/lang/String" "value" "[B" (.ref w_value_a2)) (V_w_value_a2 : Arv Z h0 w_value_a2 kb .byte (1 : Int32) [(.int y0)] (.int (0 : Int32))) (S_COMPACT_STRINGS : Sta Z h0 "java/lang/String" "COMPACT_STRINGS" "Z" (.int w_COMPACT_STRINGS)) (hne_12 : a1 ≠ a2) (hCS : ¬ (w_COMPACT_STRINGS = (0 : Int32))) :
    MetFree l (⟨"java/lang/String", "equals", "(Ljava/lang/Object;)Z"⟩ : MethodName) (head1 (Jvm.Cond.code (⟨"java/lang/String", "equals", "(Ljava/lang/Object;)Z"⟩ : MethodName) jdk_42_method_66_code 3 (some .boolean) :: ws) ({ frames := 1, cells := 0, slots := 0, locals := 14 } : Room)) (fun a U => a = #[(.ref a1), (.ref a2)] ∧ Z.Warmed39 U.vm ∧ U.heap = h0) (fun _ _ _ _ _ => True) (fun _ U o U' => ∃ v L, o = .returned v ∧ Q_eq_1_1 Z a1 a2 w_value_a1 ka x0 w_value_a2 kb y0 w_COMPACT_STRINGS h0 n0 v U'.heap L ∧ FrameEnd U o U' L ({ frames := 1, cells := 0, slots := 0, locals := 14 } : Room).cells ({ frames := 1, cells := 0, slots := 0, locals := 14 } : Room).slots) := by
  refine MetFree.of_bodySF (plainFor_of_name pn0) hisR ?_
  intro p e s m args below meth c s₁ Bd hml0 hP hK
  obtain ⟨rfl, hZ, hh⟩ := hP
  have hx := Bd.exec
  have hby := Bd.bytes
  have hml : c.maxLocals = 3 := hml0
  have hown : s.vm.findClass "java/lang/String" = some m.cls := findClass_of_methodNamed Bd.named
  have hnm := (name_of_methodNamed Bd.named Bd.method).1
  have X0 : Stand p l e ({ frames := 1, cells := 0, slots := 0, locals := 14 } : Room) s m #[(.ref a1), (.ref a2)] below meth c s₁ [] 0 0 := Stand.of_body Bd
  have e0 : s₁.heap = h0 := by rw [← hh, Bd.state]; rfl
  have N0 := Fr.nil n0
  have pre0 : ∀ t, Steps p.tables e below (s₁.setTop (mkF m 0 #[.val (.ref a1), .val (.ref a2), .unset] [])) t → Steps p.tables e below (s₁.setTop (entryFrame m #[(.ref a1), (.ref a2)] 3)) t := fun t k => castTop (ef_eq_1_1 m a1 a2) k
  obtain ⟨T1, X1, e1, st1⟩ := instY X0 hx hZ hown (hw _ (List.mem_of_getElem? (i := 91) rfl)) e0 (Ins.self E_a2) (g := (mkF m 8 #[.val (.ref a1), .val (.ref a2), .unset] [(.ref a2)])) rfl rfl (hb hby d12_8)
  obtain ⟨T2, X2, e2, st2⟩ := castY X1 hx hZ hown (hw _ (List.mem_of_getElem? (i := 91) rfl)) e1 (Ins.self E_a2) (g := (mkF m 15 #[.val (.ref a1), .val (.ref a2), .unset] [(.ref a2)])) rfl rfl (hb hby d12_15)
  obtain ⟨T3, X3, e3, st3⟩ := getS2 X2 hx hZ hown (host := "") (Or.inl (hw _ (List.mem_of_getElem? (i := 19) rfl))) Via.refl e2 S_COMPACT_STRINGS (g := (mkF m 19 #[.val (.ref a1), .val (.ref a2), .val (.ref a2)] [])) rfl (hb hby d12_19)
  obtain ⟨T4, X4, e4, st4⟩ := getF X3 hx hZ hown (host := "") (Or.inl (hw _ (List.mem_of_getElem? (i := 31) rfl))) Via.refl e3 F_coder_a1 (g := (mkF m 26 #[.val (.ref a1), .val (.ref a2), .val (.ref a2)] [(.ref a1)])) rfl rfl (hb hby d12_26)
  obtain ⟨T5, X5, e5, st5⟩ := getF X4 hx hZ hown (host := "") (Or.inl (hw _ (List.mem_of_getElem? (i := 31) rfl))) Via.refl e4 F_coder_a2 (g := (mkF m 30 #[.val (.ref a1), .val (.ref a2), .val (.ref a2)] [(.ref a2), (.int (0 : Int32))])) rfl rfl (hb hby d12_30)
  obtain ⟨T6, X6, e6, st6⟩ := getF X5 hx hZ hown (host := "") (Or.inl (hw _ (List.mem_of_getElem? (i := 33) rfl))) Via.refl e5 F_value_a1 (g := (mkF m 37 #[.val (.ref a1), .val (.ref a2), .val (.ref a2)] [(.ref a1)])) rfl rfl (hb hby d12_37)
  obtain ⟨T7, X7, e7, st7⟩ := getF X6 hx hZ hown (host := "") (Or.inl (hw _ (List.mem_of_getElem? (i := 33) rfl))) Via.refl e6 F_value_a2 (g := (mkF m 41 #[.val (.ref a1), .val (.ref a2), .val (.ref a2)] [(.ref a2), (.ref w_value_a1)])) rfl rfl (hb hby d12_41)
  obtain ⟨_, _, ⟨T8, L8, k8, n8⟩, -, X8, ⟨Lc8, hQ8, l8, y8, z8⟩, st8⟩ := Jvm.LawKit.callS X7 hx (y := (⟨"java/lang/StringLatin1", "equals", "([B[B)Z"⟩ : MethodName)) hown (mvT hZ (hw _ (List.mem_of_getElem? (i := 92) rfl))) (mvT hZ (hw _ (List.mem_of_getElem? (i := 93) rfl))) (mvT hZ (hw _ (List.mem_of_getElem? (i := 94) rfl))) (mvT hZ (hw _ (List.mem_of_getElem? (i := 95) rfl))) (by decide) (backOf (W := 0) (rm_leq_1_1 l Z a0 hw [] w_value_a1 w_value_a2 ka x0 kb y0 h0 n0 (Nat.le_trans Z0 (Keep.refl h0 []).1) V_w_value_a1 V_w_value_a2 ) hZ (hw _ (List.mem_of_getElem? (i := 95) rfl)) (hw _ (List.mem_of_getElem? (i := 94) rfl)) (by decide) (by decide)) (g := (mkF m 44 #[.val (.ref a1), .val (.ref a2), .val (.ref a2)] [(.ref w_value_a2), (.ref w_value_a1)])) rfl (by rw [hml]; rfl) (argsL := [(.ref w_value_a1), (.ref w_value_a2)]) (rest := []) (lenOf pd6 rfl) rfl (by show 2 * 0 + _ ≤ _; exact Nat.le_of_eq rfl) (hb hby d12_44) (fun _ _ => ⟨rfl, e7, (by decide : 0 + 0 ≤ _), (by decide : 0 + 0 ≤ _)⟩)
  dsimp only [Pt.U, Pt.locs, Pt.cells, Pt.slots] at X8 l8 y8 z8 st8 hQ8
  subst l8 y8 z8
  obtain ⟨rfl, rfl, e8⟩ := hQ8
  have N8 := Fr.app N0 (Fr.nil n0)
  have pre9 : ∀ t, Steps p.tables e below (T8.setTop (mkF m 47 #[.val (.ref a1), .val (.ref a2), .val (.ref a2)] [(.int (res_leq_1_1 x0 y0))])) t → Steps p.tables e below (s₁.setTop (entryFrame m #[(.ref a1), (.ref a2)] 3)) t := by
    intro t kt
    refine pre0 _ ?_
    show Steps p.tables e below (s₁.setTop (mkF m 0 #[.val (.ref a1), .val (.ref a2), .unset] [])) _
    refine XS.aloadN X0.here hx rfl (hb hby d12_0) rfl rfl ?_
    refine XS.aloadN X0.here hx rfl (hb hby d12_1) rfl rfl ?_
    refine Jvm.RoadKit.acmp (g := (mkF m 2 #[.val (.ref a1), .val (.ref a2), .unset] [(.ref a2), (.ref a1)])) X0 hx rfl rfl rfl (pc0 := 2) (pc' := 7) (same := false) rfl (hb hby d12_2) rfl (decide_eq_false fun q => hne_12 (Value.ref.inj q)) (by decide) (by decide) ?_
    show Steps p.tables e below (s₁.setTop (mkF m 7 #[.val (.ref a1), .val (.ref a2), .unset] [])) _
    refine XS.aloadN X0.here hx rfl (hb hby d12_7) rfl rfl ?_
    show Steps p.tables e below (s₁.setTop (mkF m 8 #[.val (.ref a1), .val (.ref a2), .unset] [(.ref a2)])) _
    refine st1 _ ?_
    show Steps p.tables e below (T1.setTop (mkF m 11 #[.val (.ref a1), .val (.ref a2), .unset] [(.int (1 : Int32))])) _
    refine XS.ifNo X1.here hx rfl (hb hby d12_11) rfl ((if0 _ _).trans (feq (by decide : ¬ ((1 : Int32) = (0 : Int32)))).1) ?_
    refine XS.aloadN X1.here hx rfl (hb hby d12_14) rfl rfl ?_
    show Steps p.tables e below (T1.setTop (mkF m 15 #[.val (.ref a1), .val (.ref a2), .unset] [(.ref a2)])) _
    refine st2 _ ?_
    show Steps p.tables e below (T2.setTop (mkF m 18 #[.val (.ref a1), .val (.ref a2), .unset] [(.ref a2)])) _
    refine XS.astoreN X2.here hx rfl (hb hby d12_18) rfl rfl (l' := #[.val (.ref a1), .val (.ref a2), .val (.ref a2)]) rfl ?_
    show Steps p.tables e below (T2.setTop (mkF m 19 #[.val (.ref a1), .val (.ref a2), .val (.ref a2)] [])) _
    refine st3 _ ?_
    show Steps p.tables e below (T3.setTop (mkF m 22 #[.val (.ref a1), .val (.ref a2), .val (.ref a2)] [(.int w_COMPACT_STRINGS)])) _
    refine XS.ifNo X3.here hx rfl (hb hby d12_22) rfl ((if0 _ _).trans (feq (hCS : ¬ (w_COMPACT_STRINGS = (0 : Int32)))).1) ?_
    refine XS.aloadN X3.here hx rfl (hb hby d12_25) rfl rfl ?_
    show Steps p.tables e below (T3.setTop (mkF m 26 #[.val (.ref a1), .val (.ref a2), .val (.ref a2)] [(.ref a1)])) _
    refine st4 _ ?_
    show Steps p.tables e below (T4.setTop (mkF m 29 #[.val (.ref a1), .val (.ref a2), .val (.ref a2)] [(.int (0 : Int32))])) _
    refine XS.aloadN X4.here hx rfl (hb hby d12_29) rfl rfl ?_
    show Steps p.tables e below (T4.setTop (mkF m 30 #[.val (.ref a1), .val (.ref a2), .val (.ref a2)] [(.ref a2), (.int (0 : Int32))])) _
    refine st5 _ ?_
    show Steps p.tables e below (T5.setTop (mkF m 33 #[.val (.ref a1), .val (.ref a2), .val (.ref a2)] [(.int (0 : Int32)), (.int (0 : Int32))])) _
    refine XS.icmpNo X5.here hx rfl (hb hby d12_33) rfl (teq (by decide : (0 : Int32) = (0 : Int32))).2 ?_
    refine XS.aloadN X5.here hx rfl (hb hby d12_36) rfl rfl ?_
    show Steps p.tables e below (T5.setTop (mkF m 37 #[.val (.ref a1), .val (.ref a2), .val (.ref a2)] [(.ref a1)])) _
    refine st6 _ ?_
    show Steps p.tables e below (T6.setTop (mkF m 40 #[.val (.ref a1), .val (.ref a2), .val (.ref a2)] [(.ref w_value_a1)])) _
    refine XS.aloadN X6.here hx rfl (hb hby d12_40) rfl rfl ?_
    show Steps p.tables e below (T6.setTop (mkF m 41 #[.val (.ref a1), .val (.ref a2), .val (.ref a2)] [(.ref a2), (.ref w_value_a1)])) _
    refine st7 _ ?_
    show Steps p.tables e below (T7.setTop (mkF m 44 #[.val (.ref a1), .val (.ref a2), .val (.ref a2)] [(.ref w_value_a2), (.ref w_value_a1)])) _
    refine st8 _ ?_
    exact kt
  by_cases hc47_10 : (res_leq_1_1 x0 y0) = (0 : Int32)
  · obtain ⟨fs, hr, hrun, hended, hW, hsame⟩ := X8.leave (v := some (.int (0 : Int32))) (fun h => by rw [Bd.returns] at h; cases h)
    refine ⟨_, _, pre9 _ ?_, hrun, hended, _, _, rfl, ?_, ⟨_, rfl⟩, hW, hsame.mono (by decide) (by decide)⟩
    · show Steps p.tables e below (T8.setTop (mkF m 47 #[.val (.ref a1), .val (.ref a2), .val (.ref a2)] [(.int (res_leq_1_1 x0 y0))])) _
      refine XS.ifYes X8.here hx rfl (pc0 := 47) (pc' := 54) rfl (hb hby d12_47) rfl ((if0 _ _).trans (teq hc47_10).1) (by decide) (by decide) ?_
      refine XS.iconst X8.here hx rfl (hb hby d12_54) ?_
      show Steps p.tables e below (T8.setTop (mkF m 55 #[.val (.ref a1), .val (.ref a2), .val (.ref a2)] [(.int (0 : Int32))])) _
      exact retN X8 hx (t := .boolean) Bd.returns (by simp) (hb hby d12_55) hr
    · show Q_eq_1_1 Z a1 a2 w_value_a1 ka x0 w_value_a2 kb y0 w_COMPACT_STRINGS h0 n0 _ T8.heap _
      rw [e8]
      exact ⟨by rw [res_eq_1_1, if_pos hc47_10], rfl, rfl⟩
  · obtain ⟨fs, hr, hrun, hended, hW, hsame⟩ := X8.leave (v := some (.int (1 : Int32))) (fun h => by rw [Bd.returns] at h; cases h)
    refine ⟨_, _, pre9 _ ?_, hrun, hended, _, _, rfl, ?_, ⟨_, rfl⟩, hW, hsame.mono (by decide) (by decide)⟩
    · show Steps p.tables e below (T8.setTop (mkF m 47 #[.val (.ref a1), .val (.ref a2), .val (.ref a2)] [(.int (res_leq_1_1 x0 y0))])) _
      refine XS.ifNo X8.here hx rfl (hb hby d12_47) rfl ((if0 _ _).trans (feq hc47_10).1) ?_
      refine XS.iconst X8.here hx rfl (hb hby d12_50) ?_
      show Steps p.tables e below (T8.setTop (mkF m 51 #[.val (.ref a1), .val (.ref a2), .val (.ref a2)] [(.int (1 : Int32))])) _
      refine XS.goto X8.here hx rfl (pc0 := 51) (pc' := 55) rfl (hb hby d12_51) (by decide) (by decide) ?_
      show Steps p.tables e below (T8.setTop (mkF m 55 #[.val (.ref a1), .val (.ref a2), .val (.ref a2)] [(.int (1 : Int32))])) _
      exact retN X8 hx (t := .boolean) Bd.returns (by simp) (hb hby d12_55) hr
    · show Q_eq_1_1 Z a1 a2 w_value_a1 ka x0 w_value_a2 kb y0 w_COMPACT_STRINGS h0 n0 _ T8.heap _
      rw [e8]
      exact ⟨by rw [res_eq_1_1, if_neg hc47_10], rfl, rfl⟩
def res_is_1_1 (y0 : Int32) (x0 : Int32) (w_kind_a1 : Addr) (w_PUNCT : Addr) : Int32 := if w_kind_a1 = w_PUNCT then (if (res_eq_1_1 x0 y0) = (0 : Int32) then (0 : Int32) else (1 : Int32)) else (0 : Int32)
theorem ef_is_1_1 (m : MethodId) (a1 : Addr) (a2 : Addr) : entryFrame m #[(.ref a1), (.ref a2)] 2 = (mkF m 0 #[.val (.ref a1), .val (.ref a2)] []) := by first | (simp [entryFrame, mkF, argsToLocals, Value.category]; done) | rfl
def Q_is_1_1 (Z : State) (a1 : Addr) (a2 : Addr) (w_value_a2 : Addr) (kb : ClassId) (y0 : Int32) (w_text_a1 : Addr) (w_value_w_text_a1 : Addr) (ka : ClassId) (x0 : Int32) (w_kind_a1 : Addr) (w_PUNCT : Addr) (w_COMPACT_STRINGS : Int32) (h0 : Heap) (n0 : Nat) (v : Option Value) (h : Heap) (L : List Loc) : Prop := v = some (.int (res_is_1_1 y0 x0 w_kind_a1 w_PUNCT)) ∧ L = [] ∧ h = h0
set_option maxRecDepth 65536 in
set_option maxHeartbeats 40000000 in
theorem rm_is_1_1 (l : Launch) (Z : State) (a0 : Array Value) (hw : ∀ d ∈ tables_1, d.before a0 Z = true) (ws : List Jvm.Cond) (a1 : Addr) (a2 : Addr) (w_value_a2 : Addr) (kb : ClassId) (y0 : Int32) (w_text_a1 : Addr) (w_value_w_text_a1 : Addr) (ka : ClassId) (x0 : Int32) (w_kind_a1 : Addr) (w_PUNCT : Addr) (w_COMPACT_STRINGS : Int32) (h0 : Heap) (n0 : Nat) (Z0 : n0 ≤ h0.size) (E_a2 : Exa Z h0 a2 "java/lang/String") (F_coder_a2 : Fld Z h0 a2 "java/lang/String" "coder" "B" (.int (0 : Int32))) (F_value_a2 : Fld Z h0 a2 "java/lang/String" "value" "[B" (.ref w_value_a2)) (V_w_value_a2 : Arv Z h0 w_value_a2 kb .byte (1 : Int32) [(.int y0)] (.int (0 : Int32))) (F_text_a1 : Fld Z h0 a1 "com/example/cantrip/cantrip/Token" "text" "Ljava/lang/String;" (.ref w_text_a1)) (E_w_text_a1 : Exa Z h0 w_text_a1 "java/lang/String") (F_coder_w_text_a1 : Fld Z h0 w_text_a1 "java/lang/String" "coder" "B" (.int (0 : Int32))) (F_value_w_text_a1 : Fld Z h0 w_text_a1 "java/lang/String" "value" "[B" (.ref w_value_w_text_a1)) (V_w_value_w_text_a1 : Arv Z h0 w_value_w_text_a1 ka .byte (1 : Int32) [(.int x0)] (.int (0 : Int32))) (F_kind_a1 : Fld Z h0 a1 "com/example/cantrip/cantrip/Token" "kind" "Lcom/example/cantrip/cantrip/Token$Kind;" (.ref w_kind_a1)) (S_PUNCT : Sta Z h0 "com/example/cantrip/cantrip/Token$Kind" "PUNCT" "Lcom/example/cantrip/cantrip/Token$Kind;" (.ref w_PUNCT)) (S_COMPACT_STRINGS : Sta Z h0 "java/lang/String" "COMPACT_STRINGS" "Z" (.int w_COMPACT_STRINGS)) (hne_t : w_text_a1 ≠ a2) (hCS : ¬ (w_COMPACT_STRINGS = (0 : Int32))) :
    MetFree l (⟨"com/example/cantrip/cantrip/Token", "is", "(Ljava/lang/String;)Z"⟩ : MethodName) (head1 (Jvm.Cond.code (⟨"com/example/cantrip/cantrip/Token", "is", "(Ljava/lang/String;)Z"⟩ : MethodName) prog_3_method_2_code 2 (some .boolean) :: ws) ({ frames := 2, cells := 0, slots := 0, locals := 28 } : Room)) (fun a U => a = #[(.ref a1), (.ref a2)] ∧ Z.Warmed39 U.vm ∧ U.heap = h0) (fun _ _ _ _ _ => True) (fun _ U o U' => ∃ v L, o = .returned v ∧ Q_is_1_1 Z a1 a2 w_value_a2 kb y0 w_text_a1 w_value_w_text_a1 ka x0 w_kind_a1 w_PUNCT w_COMPACT_STRINGS h0 n0 v U'.heap L ∧ FrameEnd U o U' L ({ frames := 2, cells := 0, slots := 0, locals := 28 } : Room).cells ({ frames := 2, cells := 0, slots := 0, locals := 28 } : Room).slots) := by
  refine MetFree.of_bodySF (plainFor_of_name pn4) hisR ?_
  intro p e s m args below meth c s₁ Bd hml0 hP hK
  obtain ⟨rfl, hZ, hh⟩ := hP
  have hx := Bd.exec
  have hby := Bd.bytes
  have hml : c.maxLocals = 2 := hml0
  have hown : s.vm.findClass "com/example/cantrip/cantrip/Token" = some m.cls := findClass_of_methodNamed Bd.named
  have hnm := (name_of_methodNamed Bd.named Bd.method).1
  have X0 : Stand p l e ({ frames := 2, cells := 0, slots := 0, locals := 28 } : Room) s m #[(.ref a1), (.ref a2)] below meth c s₁ [] 0 0 := Stand.of_body Bd
  have e0 : s₁.heap = h0 := by rw [← hh, Bd.state]; rfl
  have N0 := Fr.nil n0
  have pre0 : ∀ t, Steps p.tables e below (s₁.setTop (mkF m 0 #[.val (.ref a1), .val (.ref a2)] [])) t → Steps p.tables e below (s₁.setTop (entryFrame m #[(.ref a1), (.ref a2)] 2)) t := fun t k => castTop (ef_is_1_1 m a1 a2) k
  obtain ⟨T1, X1, e1, st1⟩ := getF X0 hx hZ hown (host := "") (Or.inl (hw _ (List.mem_of_getElem? (i := 56) rfl))) Via.refl e0 F_kind_a1 (g := (mkF m 1 #[.val (.ref a1), .val (.ref a2)] [(.ref a1)])) rfl rfl (hb hby d11_1)
  obtain ⟨T2, X2, e2, st2⟩ := getS2 X1 hx hZ hown (host := "") (Or.inl (hw _ (List.mem_of_getElem? (i := 67) rfl))) Via.refl e1 S_PUNCT (g := (mkF m 4 #[.val (.ref a1), .val (.ref a2)] [(.ref w_kind_a1)])) rfl (hb hby d11_4)
  have pre3 : ∀ t, Steps p.tables e below (T2.setTop (mkF m 7 #[.val (.ref a1), .val (.ref a2)] [(.ref w_PUNCT), (.ref w_kind_a1)])) t → Steps p.tables e below (s₁.setTop (entryFrame m #[(.ref a1), (.ref a2)] 2)) t := by
    intro t kt
    refine pre0 _ ?_
    show Steps p.tables e below (s₁.setTop (mkF m 0 #[.val (.ref a1), .val (.ref a2)] [])) _
    refine XS.aloadN X0.here hx rfl (hb hby d11_0) rfl rfl ?_
    show Steps p.tables e below (s₁.setTop (mkF m 1 #[.val (.ref a1), .val (.ref a2)] [(.ref a1)])) _
    refine st1 _ ?_
    show Steps p.tables e below (T1.setTop (mkF m 4 #[.val (.ref a1), .val (.ref a2)] [(.ref w_kind_a1)])) _
    refine st2 _ ?_
    exact kt
  by_cases hc7_4 : w_kind_a1 = w_PUNCT
  · obtain ⟨T5, X5, e5, st5⟩ := getF X2 hx hZ hown (host := "") (Or.inl (hw _ (List.mem_of_getElem? (i := 58) rfl))) Via.refl e2 F_text_a1 (g := (mkF m 11 #[.val (.ref a1), .val (.ref a2)] [(.ref a1)])) rfl rfl (hb hby d11_11)
    obtain ⟨cq6, kq6, q6a, q6b, q6c⟩ := isOf hZ e5 E_w_text_a1
    obtain ⟨_, _, ⟨T6, L6, k6, n6⟩, -, X6, ⟨Lc6, hQ6, l6, y6, z6⟩, st6⟩ := X5.virtualBack hx (y := (⟨"java/lang/String", "equals", "(Ljava/lang/Object;)Z"⟩ : MethodName)) (z := (⟨"java/lang/String", "equals", "(Ljava/lang/Object;)Z"⟩ : MethodName)) hown (mvT hZ (hw _ (List.mem_of_getElem? (i := 86) rfl))) (mvT hZ (hw _ (List.mem_of_getElem? (i := 87) rfl))) (notFace_of_selects (args := #[]) (mvT hZ (hw _ (List.mem_of_getElem? (i := 89) rfl)))) (mvT hZ (hw _ (List.mem_of_getElem? (i := 89) rfl))) (mvT hZ (hw _ (List.mem_of_getElem? (i := 88) rfl))) (by decide) (backOf (W := 0) (rm_eq_1_1 l Z a0 hw [] w_text_a1 a2 w_value_w_text_a1 ka x0 w_value_a2 kb y0 w_COMPACT_STRINGS h0 n0 (Nat.le_trans Z0 (Keep.refl h0 []).1) E_w_text_a1 F_coder_w_text_a1 F_value_w_text_a1 V_w_value_w_text_a1 E_a2 F_coder_a2 F_value_a2 V_w_value_a2 S_COMPACT_STRINGS (hne_t : w_text_a1 ≠ a2) (hCS : ¬ (w_COMPACT_STRINGS = (0 : Int32)))) hZ (hw _ (List.mem_of_getElem? (i := 90) rfl)) (hw _ (List.mem_of_getElem? (i := 7) rfl)) (by decide) (by decide)) q6a q6c (g := (mkF m 15 #[.val (.ref a1), .val (.ref a2)] [(.ref a2), (.ref w_text_a1)])) rfl (by rw [hml]; rfl) (Steps.refl _) (argsL := [(.ref a2)]) (rest := []) (lenOf pd7 rfl) rfl (by show 2 * 0 + _ ≤ _; exact Nat.le_of_eq rfl) (hb hby d11_15) (fun _ _ => ⟨rfl, e5, (by decide : 0 + 0 ≤ _), (by decide : 0 + 0 ≤ _)⟩)
    dsimp only [Pt.U, Pt.locs, Pt.cells, Pt.slots] at X6 l6 y6 z6 st6 hQ6
    subst l6 y6 z6
    obtain ⟨rfl, rfl, e6⟩ := hQ6
    have N6 := Fr.app N0 (Fr.nil n0)
    have pre7 : ∀ t, Steps p.tables e below (T6.setTop (mkF m 18 #[.val (.ref a1), .val (.ref a2)] [(.int (res_eq_1_1 x0 y0))])) t → Steps p.tables e below (s₁.setTop (entryFrame m #[(.ref a1), (.ref a2)] 2)) t := by
      intro t kt
      refine pre3 _ ?_
      show Steps p.tables e below (T2.setTop (mkF m 7 #[.val (.ref a1), .val (.ref a2)] [(.ref w_PUNCT), (.ref w_kind_a1)])) _
      refine Jvm.RoadKit.acmp (g := (mkF m 7 #[.val (.ref a1), .val (.ref a2)] [(.ref w_PUNCT), (.ref w_kind_a1)])) X2 hx rfl rfl rfl (pc0 := 7) (pc' := 10) (same := true) rfl (hb hby d11_7) rfl (decide_eq_true (congrArg Value.ref hc7_4)) (by decide) (by decide) ?_
      show Steps p.tables e below (T2.setTop (mkF m 10 #[.val (.ref a1), .val (.ref a2)] [])) _
      refine XS.aloadN X2.here hx rfl (hb hby d11_10) rfl rfl ?_
      show Steps p.tables e below (T2.setTop (mkF m 11 #[.val (.ref a1), .val (.ref a2)] [(.ref a1)])) _
      refine st5 _ ?_
      show Steps p.tables e below (T5.setTop (mkF m 14 #[.val (.ref a1), .val (.ref a2)] [(.ref w_text_a1)])) _
      refine XS.aloadN X5.here hx rfl (hb hby d11_14) rfl rfl ?_
      show Steps p.tables e below (T5.setTop (mkF m 15 #[.val (.ref a1), .val (.ref a2)] [(.ref a2), (.ref w_text_a1)])) _
      refine st6.trans ?_
      exact kt
    by_cases hc18_8 : (res_eq_1_1 x0 y0) = (0 : Int32)
    · obtain ⟨fs, hr, hrun, hended, hW, hsame⟩ := X6.leave (v := some (.int (0 : Int32))) (fun h => by rw [Bd.returns] at h; cases h)
      refine ⟨_, _, pre7 _ ?_, hrun, hended, _, _, rfl, ?_, ⟨_, rfl⟩, hW, hsame.mono (by decide) (by decide)⟩
      · show Steps p.tables e below (T6.setTop (mkF m 18 #[.val (.ref a1), .val (.ref a2)] [(.int (res_eq_1_1 x0 y0))])) _
        refine XS.ifYes X6.here hx rfl (pc0 := 18) (pc' := 25) rfl (hb hby d11_18) rfl ((if0 _ _).trans (teq hc18_8).1) (by decide) (by decide) ?_
        refine XS.iconst X6.here hx rfl (hb hby d11_25) ?_
        show Steps p.tables e below (T6.setTop (mkF m 26 #[.val (.ref a1), .val (.ref a2)] [(.int (0 : Int32))])) _
        exact retN X6 hx (t := .boolean) Bd.returns (by simp) (hb hby d11_26) hr
      · show Q_is_1_1 Z a1 a2 w_value_a2 kb y0 w_text_a1 w_value_w_text_a1 ka x0 w_kind_a1 w_PUNCT w_COMPACT_STRINGS h0 n0 _ T6.heap _
        rw [e6]
        exact ⟨by rw [res_is_1_1, if_pos hc7_4, if_pos hc18_8], rfl, rfl⟩
    · obtain ⟨fs, hr, hrun, hended, hW, hsame⟩ := X6.leave (v := some (.int (1 : Int32))) (fun h => by rw [Bd.returns] at h; cases h)
      refine ⟨_, _, pre7 _ ?_, hrun, hended, _, _, rfl, ?_, ⟨_, rfl⟩, hW, hsame.mono (by decide) (by decide)⟩
      · show Steps p.tables e below (T6.setTop (mkF m 18 #[.val (.ref a1), .val (.ref a2)] [(.int (res_eq_1_1 x0 y0))])) _
        refine XS.ifNo X6.here hx rfl (hb hby d11_18) rfl ((if0 _ _).trans (feq hc18_8).1) ?_
        refine XS.iconst X6.here hx rfl (hb hby d11_21) ?_
        show Steps p.tables e below (T6.setTop (mkF m 22 #[.val (.ref a1), .val (.ref a2)] [(.int (1 : Int32))])) _
        refine XS.goto X6.here hx rfl (pc0 := 22) (pc' := 26) rfl (hb hby d11_22) (by decide) (by decide) ?_
        show Steps p.tables e below (T6.setTop (mkF m 26 #[.val (.ref a1), .val (.ref a2)] [(.int (1 : Int32))])) _
        exact retN X6 hx (t := .boolean) Bd.returns (by simp) (hb hby d11_26) hr
      · show Q_is_1_1 Z a1 a2 w_value_a2 kb y0 w_text_a1 w_value_w_text_a1 ka x0 w_kind_a1 w_PUNCT w_COMPACT_STRINGS h0 n0 _ T6.heap _
        rw [e6]
        exact ⟨by rw [res_is_1_1, if_pos hc7_4, if_neg hc18_8], rfl, rfl⟩
  · obtain ⟨fs, hr, hrun, hended, hW, hsame⟩ := X2.leave (v := some (.int (0 : Int32))) (fun h => by rw [Bd.returns] at h; cases h)
    refine ⟨_, _, pre3 _ ?_, hrun, hended, _, _, rfl, ?_, ⟨_, rfl⟩, hW, hsame.mono (by decide) (by decide)⟩
    · show Steps p.tables e below (T2.setTop (mkF m 7 #[.val (.ref a1), .val (.ref a2)] [(.ref w_PUNCT), (.ref w_kind_a1)])) _
      refine Jvm.RoadKit.acmp (g := (mkF m 7 #[.val (.ref a1), .val (.ref a2)] [(.ref w_PUNCT), (.ref w_kind_a1)])) X2 hx rfl rfl rfl (pc0 := 7) (pc' := 25) (same := false) rfl (hb hby d11_7) rfl (decide_eq_false fun q => hc7_4 (Value.ref.inj q)) (by decide) (by decide) ?_
      show Steps p.tables e below (T2.setTop (mkF m 25 #[.val (.ref a1), .val (.ref a2)] [])) _
      refine XS.iconst X2.here hx rfl (hb hby d11_25) ?_
      show Steps p.tables e below (T2.setTop (mkF m 26 #[.val (.ref a1), .val (.ref a2)] [(.int (0 : Int32))])) _
      exact retN X2 hx (t := .boolean) Bd.returns (by simp) (hb hby d11_26) hr
    · show Q_is_1_1 Z a1 a2 w_value_a2 kb y0 w_text_a1 w_value_w_text_a1 ka x0 w_kind_a1 w_PUNCT w_COMPACT_STRINGS h0 n0 _ T2.heap _
      rw [e2]
      exact ⟨by rw [res_is_1_1, if_neg hc7_4], rfl, rfl⟩
theorem ef_leq_1_2 (m : MethodId) (a1 : Addr) (a2 : Addr) : entryFrame m #[(.ref a1), (.ref a2)] 3 = (mkF m 0 #[.val (.ref a1), .val (.ref a2), .unset] []) := by first | (simp [entryFrame, mkF, argsToLocals, Value.category]; done) | rfl
def Q_leq_1_2 (Z : State) (a1 : Addr) (a2 : Addr) (ka : ClassId) (x0 : Int32) (kb : ClassId) (y0 : Int32) (y1 : Int32) (h0 : Heap) (n0 : Nat) (v : Option Value) (h : Heap) (L : List Loc) : Prop := v = some (.int (0 : Int32)) ∧ L = [] ∧ h = h0
set_option maxRecDepth 65536 in
set_option maxHeartbeats 40000000 in
theorem rm_leq_1_2 (l : Launch) (Z : State) (a0 : Array Value) (hw : ∀ d ∈ tables_1, d.before a0 Z = true) (ws : List Jvm.Cond) (a1 : Addr) (a2 : Addr) (ka : ClassId) (x0 : Int32) (kb : ClassId) (y0 : Int32) (y1 : Int32) (h0 : Heap) (n0 : Nat) (Z0 : n0 ≤ h0.size) (V_a1 : Arv Z h0 a1 ka .byte (1 : Int32) [(.int x0)] (.int (0 : Int32))) (V_a2 : Arv Z h0 a2 kb .byte (2 : Int32) [(.int y0), (.int y1)] (.int (0 : Int32))) :
    MetFree l (⟨"java/lang/StringLatin1", "equals", "([B[B)Z"⟩ : MethodName) (head1 (Jvm.Cond.code (⟨"java/lang/StringLatin1", "equals", "([B[B)Z"⟩ : MethodName) jdk_43_method_13_code 3 (some .boolean) :: ws) ({ frames := 0, cells := 0, slots := 0, locals := 0 } : Room)) (fun a U => a = #[(.ref a1), (.ref a2)] ∧ Z.Warmed39 U.vm ∧ U.heap = h0) (fun _ _ _ _ _ => True) (fun _ U o U' => ∃ v L, o = .returned v ∧ Q_leq_1_2 Z a1 a2 ka x0 kb y0 y1 h0 n0 v U'.heap L ∧ FrameEnd U o U' L ({ frames := 0, cells := 0, slots := 0, locals := 0 } : Room).cells ({ frames := 0, cells := 0, slots := 0, locals := 0 } : Room).slots) := by
  refine MetFree.of_bodySF (plainFor_of_name pn5) hisR ?_
  intro p e s m args below meth c s₁ Bd hml0 hP hK
  obtain ⟨rfl, hZ, hh⟩ := hP
  have hx := Bd.exec
  have hby := Bd.bytes
  have hml : c.maxLocals = 3 := hml0
  have hown : s.vm.findClass "java/lang/StringLatin1" = some m.cls := findClass_of_methodNamed Bd.named
  have hnm := (name_of_methodNamed Bd.named Bd.method).1
  have X0 : Stand p l e ({ frames := 0, cells := 0, slots := 0, locals := 0 } : Room) s m #[(.ref a1), (.ref a2)] below meth c s₁ [] 0 0 := Stand.of_body Bd
  have e0 : s₁.heap = h0 := by rw [← hh, Bd.state]; rfl
  have N0 := Fr.nil n0
  have pre0 : ∀ t, Steps p.tables e below (s₁.setTop (mkF m 0 #[.val (.ref a1), .val (.ref a2), .unset] [])) t → Steps p.tables e below (s₁.setTop (entryFrame m #[(.ref a1), (.ref a2)] 3)) t := fun t k => castTop (ef_leq_1_2 m a1 a2) k
  obtain ⟨cl_a1_1_1, Ar_a1_1_1, -, S_a1_1_1, N_a1_1_1, -, -⟩ := id V_a1
  obtain ⟨cl_a2_3_2, Ar_a2_3_2, -, S_a2_3_2, N_a2_3_2, -, -⟩ := id V_a2
  obtain ⟨fs, hr, hrun, hended, hW, hsame⟩ := X0.leave (v := some (.int (0 : Int32))) (fun h => by rw [Bd.returns] at h; cases h)
  refine ⟨_, _, pre0 _ ?_, hrun, hended, _, _, rfl, ?_, ⟨_, rfl⟩, hW, hsame.mono (by decide) (by decide)⟩
  · show Steps p.tables e below (s₁.setTop (mkF m 0 #[.val (.ref a1), .val (.ref a2), .unset] [])) _
    refine XS.aloadN X0.here hx rfl (hb hby d13_0) rfl rfl ?_
    refine X0.arraylength hx (by rw [e0]; exact Ar_a1_1_1.1) (State.isArrayOf_alike hZ.alike Ar_a1_1_1.2.1) (g := (mkF m 1 #[.val (.ref a1), .val (.ref a2), .unset] [(.ref a1)])) rfl rfl (hb hby d13_1) _ ?_
    rw [len_of S_a1_1_1 N_a1_1_1]
    show Steps p.tables e below (s₁.setTop (mkF m 2 #[.val (.ref a1), .val (.ref a2), .unset] [(.int (1 : Int32))])) _
    refine XS.aloadN X0.here hx rfl (hb hby d13_2) rfl rfl ?_
    show Steps p.tables e below (s₁.setTop (mkF m 3 #[.val (.ref a1), .val (.ref a2), .unset] [(.ref a2), (.int (1 : Int32))])) _
    refine X0.arraylength hx (by rw [e0]; exact Ar_a2_3_2.1) (State.isArrayOf_alike hZ.alike Ar_a2_3_2.2.1) (g := (mkF m 3 #[.val (.ref a1), .val (.ref a2), .unset] [(.ref a2), (.int (1 : Int32))])) rfl rfl (hb hby d13_3) _ ?_
    rw [len_of S_a2_3_2 N_a2_3_2]
    show Steps p.tables e below (s₁.setTop (mkF m 4 #[.val (.ref a1), .val (.ref a2), .unset] [(.int (2 : Int32)), (.int (1 : Int32))])) _
    refine XS.icmpYes X0.here hx rfl (pc0 := 4) (pc' := 34) rfl (hb hby d13_4) rfl (feq (by decide : ¬ ((1 : Int32) = (2 : Int32)))).2 (by decide) (by decide) ?_
    refine XS.iconst X0.here hx rfl (hb hby d13_34) ?_
    show Steps p.tables e below (s₁.setTop (mkF m 35 #[.val (.ref a1), .val (.ref a2), .unset] [(.int (0 : Int32))])) _
    exact retN X0 hx (t := .boolean) Bd.returns (by simp) (hb hby d13_35) hr
  · show Q_leq_1_2 Z a1 a2 ka x0 kb y0 y1 h0 n0 _ s₁.heap _
    rw [e0]
    exact ⟨rfl, rfl, rfl⟩
theorem ef_eq_1_2 (m : MethodId) (a1 : Addr) (a2 : Addr) : entryFrame m #[(.ref a1), (.ref a2)] 3 = (mkF m 0 #[.val (.ref a1), .val (.ref a2), .unset] []) := by first | (simp [entryFrame, mkF, argsToLocals, Value.category]; done) | rfl
def Q_eq_1_2 (Z : State) (a1 : Addr) (a2 : Addr) (w_value_a1 : Addr) (ka : ClassId) (x0 : Int32) (w_value_a2 : Addr) (kb : ClassId) (y0 : Int32) (y1 : Int32) (w_COMPACT_STRINGS : Int32) (h0 : Heap) (n0 : Nat) (v : Option Value) (h : Heap) (L : List Loc) : Prop := v = some (.int (0 : Int32)) ∧ L = [] ∧ h = h0
set_option maxRecDepth 65536 in
set_option maxHeartbeats 40000000 in
theorem rm_eq_1_2 (l : Launch) (Z : State) (a0 : Array Value) (hw : ∀ d ∈ tables_1, d.before a0 Z = true) (ws : List Jvm.Cond) (a1 : Addr) (a2 : Addr) (w_value_a1 : Addr) (ka : ClassId) (x0 : Int32) (w_value_a2 : Addr) (kb : ClassId) (y0 : Int32) (y1 : Int32) (w_COMPACT_STRINGS : Int32) (h0 : Heap) (n0 : Nat) (Z0 : n0 ≤ h0.size) (E_a1 : Exa Z h0 a1 "java/lang/String") (F_coder_a1 : Fld Z h0 a1 "java/lang/String" "coder" "B" (.int (0 : Int32))) (F_value_a1 : Fld Z h0 a1 "java/lang/String" "value" "[B" (.ref w_value_a1)) (V_w_value_a1 : Arv Z h0 w_value_a1 ka .byte (1 : Int32) [(.int x0)] (.int (0 : Int32))) (E_a2 : Exa Z h0 a2 "java/lang/String") (F_coder_a2 : Fld Z h0 a2 "java/lang/String" "coder" "B" (.int (0 : Int32))) (F_value_a2 : Fld Z h0 a2 "java/lang/String" "value" "[B" (.ref w_value_a2)) (V_w_value_a2 : Arv Z h0 w_value_a2 kb .byte (2 : Int32) [(.int y0), (.int y1)] (.int (0 : Int32))) (S_COMPACT_STRINGS : Sta Z h0 "java/lang/String" "COMPACT_STRINGS" "Z" (.int w_COMPACT_STRINGS)) (hne_12 : a1 ≠ a2) (hCS : ¬ (w_COMPACT_STRINGS = (0 : Int32))) :
    MetFree l (⟨"java/lang/String", "equals", "(Ljava/lang/Object;)Z"⟩ : MethodName) (head1 (Jvm.Cond.code (⟨"java/lang/String", "equals", "(Ljava/lang/Object;)Z"⟩ : MethodName) jdk_42_method_66_code 3 (some .boolean) :: ws) ({ frames := 1, cells := 0, slots := 0, locals := 14 } : Room)) (fun a U => a = #[(.ref a1), (.ref a2)] ∧ Z.Warmed39 U.vm ∧ U.heap = h0) (fun _ _ _ _ _ => True) (fun _ U o U' => ∃ v L, o = .returned v ∧ Q_eq_1_2 Z a1 a2 w_value_a1 ka x0 w_value_a2 kb y0 y1 w_COMPACT_STRINGS h0 n0 v U'.heap L ∧ FrameEnd U o U' L ({ frames := 1, cells := 0, slots := 0, locals := 14 } : Room).cells ({ frames := 1, cells := 0, slots := 0, locals := 14 } : Room).slots) := by
  refine MetFree.of_bodySF (plainFor_of_name pn0) hisR ?_
  intro p e s m args below meth c s₁ Bd hml0 hP hK
  obtain ⟨rfl, hZ, hh⟩ := hP
  have hx := Bd.exec
  have hby := Bd.bytes
  have hml : c.maxLocals = 3 := hml0
  have hown : s.vm.findClass "java/lang/String" = some m.cls := findClass_of_methodNamed Bd.named
  have hnm := (name_of_methodNamed Bd.named Bd.method).1
  have X0 : Stand p l e ({ frames := 1, cells := 0, slots := 0, locals := 14 } : Room) s m #[(.ref a1), (.ref a2)] below meth c s₁ [] 0 0 := Stand.of_body Bd
  have e0 : s₁.heap = h0 := by rw [← hh, Bd.state]; rfl
  have N0 := Fr.nil n0
  have pre0 : ∀ t, Steps p.tables e below (s₁.setTop (mkF m 0 #[.val (.ref a1), .val (.ref a2), .unset] [])) t → Steps p.tables e below (s₁.setTop (entryFrame m #[(.ref a1), (.ref a2)] 3)) t := fun t k => castTop (ef_eq_1_2 m a1 a2) k
  obtain ⟨T1, X1, e1, st1⟩ := instY X0 hx hZ hown (hw _ (List.mem_of_getElem? (i := 91) rfl)) e0 (Ins.self E_a2) (g := (mkF m 8 #[.val (.ref a1), .val (.ref a2), .unset] [(.ref a2)])) rfl rfl (hb hby d12_8)
  obtain ⟨T2, X2, e2, st2⟩ := castY X1 hx hZ hown (hw _ (List.mem_of_getElem? (i := 91) rfl)) e1 (Ins.self E_a2) (g := (mkF m 15 #[.val (.ref a1), .val (.ref a2), .unset] [(.ref a2)])) rfl rfl (hb hby d12_15)
  obtain ⟨T3, X3, e3, st3⟩ := getS2 X2 hx hZ hown (host := "") (Or.inl (hw _ (List.mem_of_getElem? (i := 19) rfl))) Via.refl e2 S_COMPACT_STRINGS (g := (mkF m 19 #[.val (.ref a1), .val (.ref a2), .val (.ref a2)] [])) rfl (hb hby d12_19)
  obtain ⟨T4, X4, e4, st4⟩ := getF X3 hx hZ hown (host := "") (Or.inl (hw _ (List.mem_of_getElem? (i := 31) rfl))) Via.refl e3 F_coder_a1 (g := (mkF m 26 #[.val (.ref a1), .val (.ref a2), .val (.ref a2)] [(.ref a1)])) rfl rfl (hb hby d12_26)
  obtain ⟨T5, X5, e5, st5⟩ := getF X4 hx hZ hown (host := "") (Or.inl (hw _ (List.mem_of_getElem? (i := 31) rfl))) Via.refl e4 F_coder_a2 (g := (mkF m 30 #[.val (.ref a1), .val (.ref a2), .val (.ref a2)] [(.ref a2), (.int (0 : Int32))])) rfl rfl (hb hby d12_30)
  obtain ⟨T6, X6, e6, st6⟩ := getF X5 hx hZ hown (host := "") (Or.inl (hw _ (List.mem_of_getElem? (i := 33) rfl))) Via.refl e5 F_value_a1 (g := (mkF m 37 #[.val (.ref a1), .val (.ref a2), .val (.ref a2)] [(.ref a1)])) rfl rfl (hb hby d12_37)
  obtain ⟨T7, X7, e7, st7⟩ := getF X6 hx hZ hown (host := "") (Or.inl (hw _ (List.mem_of_getElem? (i := 33) rfl))) Via.refl e6 F_value_a2 (g := (mkF m 41 #[.val (.ref a1), .val (.ref a2), .val (.ref a2)] [(.ref a2), (.ref w_value_a1)])) rfl rfl (hb hby d12_41)
  obtain ⟨_, _, ⟨T8, L8, k8, n8⟩, -, X8, ⟨Lc8, hQ8, l8, y8, z8⟩, st8⟩ := Jvm.LawKit.callS X7 hx (y := (⟨"java/lang/StringLatin1", "equals", "([B[B)Z"⟩ : MethodName)) hown (mvT hZ (hw _ (List.mem_of_getElem? (i := 92) rfl))) (mvT hZ (hw _ (List.mem_of_getElem? (i := 93) rfl))) (mvT hZ (hw _ (List.mem_of_getElem? (i := 94) rfl))) (mvT hZ (hw _ (List.mem_of_getElem? (i := 95) rfl))) (by decide) (backOf (W := 0) (rm_leq_1_2 l Z a0 hw [] w_value_a1 w_value_a2 ka x0 kb y0 y1 h0 n0 (Nat.le_trans Z0 (Keep.refl h0 []).1) V_w_value_a1 V_w_value_a2 ) hZ (hw _ (List.mem_of_getElem? (i := 95) rfl)) (hw _ (List.mem_of_getElem? (i := 94) rfl)) (by decide) (by decide)) (g := (mkF m 44 #[.val (.ref a1), .val (.ref a2), .val (.ref a2)] [(.ref w_value_a2), (.ref w_value_a1)])) rfl (by rw [hml]; rfl) (argsL := [(.ref w_value_a1), (.ref w_value_a2)]) (rest := []) (lenOf pd6 rfl) rfl (by show 2 * 0 + _ ≤ _; exact Nat.le_of_eq rfl) (hb hby d12_44) (fun _ _ => ⟨rfl, e7, (by decide : 0 + 0 ≤ _), (by decide : 0 + 0 ≤ _)⟩)
  dsimp only [Pt.U, Pt.locs, Pt.cells, Pt.slots] at X8 l8 y8 z8 st8 hQ8
  subst l8 y8 z8
  obtain ⟨rfl, rfl, e8⟩ := hQ8
  have N8 := Fr.app N0 (Fr.nil n0)
  obtain ⟨fs, hr, hrun, hended, hW, hsame⟩ := X8.leave (v := some (.int (0 : Int32))) (fun h => by rw [Bd.returns] at h; cases h)
  refine ⟨_, _, pre0 _ ?_, hrun, hended, _, _, rfl, ?_, ⟨_, rfl⟩, hW, hsame.mono (by decide) (by decide)⟩
  · show Steps p.tables e below (s₁.setTop (mkF m 0 #[.val (.ref a1), .val (.ref a2), .unset] [])) _
    refine XS.aloadN X0.here hx rfl (hb hby d12_0) rfl rfl ?_
    refine XS.aloadN X0.here hx rfl (hb hby d12_1) rfl rfl ?_
    refine Jvm.RoadKit.acmp (g := (mkF m 2 #[.val (.ref a1), .val (.ref a2), .unset] [(.ref a2), (.ref a1)])) X0 hx rfl rfl rfl (pc0 := 2) (pc' := 7) (same := false) rfl (hb hby d12_2) rfl (decide_eq_false fun q => hne_12 (Value.ref.inj q)) (by decide) (by decide) ?_
    show Steps p.tables e below (s₁.setTop (mkF m 7 #[.val (.ref a1), .val (.ref a2), .unset] [])) _
    refine XS.aloadN X0.here hx rfl (hb hby d12_7) rfl rfl ?_
    show Steps p.tables e below (s₁.setTop (mkF m 8 #[.val (.ref a1), .val (.ref a2), .unset] [(.ref a2)])) _
    refine st1 _ ?_
    show Steps p.tables e below (T1.setTop (mkF m 11 #[.val (.ref a1), .val (.ref a2), .unset] [(.int (1 : Int32))])) _
    refine XS.ifNo X1.here hx rfl (hb hby d12_11) rfl ((if0 _ _).trans (feq (by decide : ¬ ((1 : Int32) = (0 : Int32)))).1) ?_
    refine XS.aloadN X1.here hx rfl (hb hby d12_14) rfl rfl ?_
    show Steps p.tables e below (T1.setTop (mkF m 15 #[.val (.ref a1), .val (.ref a2), .unset] [(.ref a2)])) _
    refine st2 _ ?_
    show Steps p.tables e below (T2.setTop (mkF m 18 #[.val (.ref a1), .val (.ref a2), .unset] [(.ref a2)])) _
    refine XS.astoreN X2.here hx rfl (hb hby d12_18) rfl rfl (l' := #[.val (.ref a1), .val (.ref a2), .val (.ref a2)]) rfl ?_
    show Steps p.tables e below (T2.setTop (mkF m 19 #[.val (.ref a1), .val (.ref a2), .val (.ref a2)] [])) _
    refine st3 _ ?_
    show Steps p.tables e below (T3.setTop (mkF m 22 #[.val (.ref a1), .val (.ref a2), .val (.ref a2)] [(.int w_COMPACT_STRINGS)])) _
    refine XS.ifNo X3.here hx rfl (hb hby d12_22) rfl ((if0 _ _).trans (feq (hCS : ¬ (w_COMPACT_STRINGS = (0 : Int32)))).1) ?_
    refine XS.aloadN X3.here hx rfl (hb hby d12_25) rfl rfl ?_
    show Steps p.tables e below (T3.setTop (mkF m 26 #[.val (.ref a1), .val (.ref a2), .val (.ref a2)] [(.ref a1)])) _
    refine st4 _ ?_
    show Steps p.tables e below (T4.setTop (mkF m 29 #[.val (.ref a1), .val (.ref a2), .val (.ref a2)] [(.int (0 : Int32))])) _
    refine XS.aloadN X4.here hx rfl (hb hby d12_29) rfl rfl ?_
    show Steps p.tables e below (T4.setTop (mkF m 30 #[.val (.ref a1), .val (.ref a2), .val (.ref a2)] [(.ref a2), (.int (0 : Int32))])) _
    refine st5 _ ?_
    show Steps p.tables e below (T5.setTop (mkF m 33 #[.val (.ref a1), .val (.ref a2), .val (.ref a2)] [(.int (0 : Int32)), (.int (0 : Int32))])) _
    refine XS.icmpNo X5.here hx rfl (hb hby d12_33) rfl (teq (by decide : (0 : Int32) = (0 : Int32))).2 ?_
    refine XS.aloadN X5.here hx rfl (hb hby d12_36) rfl rfl ?_
    show Steps p.tables e below (T5.setTop (mkF m 37 #[.val (.ref a1), .val (.ref a2), .val (.ref a2)] [(.ref a1)])) _
    refine st6 _ ?_
    show Steps p.tables e below (T6.setTop (mkF m 40 #[.val (.ref a1), .val (.ref a2), .val (.ref a2)] [(.ref w_value_a1)])) _
    refine XS.aloadN X6.here hx rfl (hb hby d12_40) rfl rfl ?_
    show Steps p.tables e below (T6.setTop (mkF m 41 #[.val (.ref a1), .val (.ref a2), .val (.ref a2)] [(.ref a2), (.ref w_value_a1)])) _
    refine st7 _ ?_
    show Steps p.tables e below (T7.setTop (mkF m 44 #[.val (.ref a1), .val (.ref a2), .val (.ref a2)] [(.ref w_value_a2), (.ref w_value_a1)])) _
    refine st8 _ ?_
    show Steps p.tables e below (T8.setTop (mkF m 47 #[.val (.ref a1), .val (.ref a2), .val (.ref a2)] [(.int (0 : Int32))])) _
    refine XS.ifYes X8.here hx rfl (pc0 := 47) (pc' := 54) rfl (hb hby d12_47) rfl ((if0 _ _).trans (teq (by decide : (0 : Int32) = (0 : Int32))).1) (by decide) (by decide) ?_
    refine XS.iconst X8.here hx rfl (hb hby d12_54) ?_
    show Steps p.tables e below (T8.setTop (mkF m 55 #[.val (.ref a1), .val (.ref a2), .val (.ref a2)] [(.int (0 : Int32))])) _
    exact retN X8 hx (t := .boolean) Bd.returns (by simp) (hb hby d12_55) hr
  · show Q_eq_1_2 Z a1 a2 w_value_a1 ka x0 w_value_a2 kb y0 y1 w_COMPACT_STRINGS h0 n0 _ T8.heap _
    rw [e8]
    exact ⟨rfl, rfl, rfl⟩
def res_is_1_2 (w_kind_a1 : Addr) (w_PUNCT : Addr) : Int32 := if w_kind_a1 = w_PUNCT then (0 : Int32) else (0 : Int32)
theorem ef_is_1_2 (m : MethodId) (a1 : Addr) (a2 : Addr) : entryFrame m #[(.ref a1), (.ref a2)] 2 = (mkF m 0 #[.val (.ref a1), .val (.ref a2)] []) := by first | (simp [entryFrame, mkF, argsToLocals, Value.category]; done) | rfl
def Q_is_1_2 (Z : State) (a1 : Addr) (a2 : Addr) (w_value_a2 : Addr) (kb : ClassId) (y0 : Int32) (y1 : Int32) (w_text_a1 : Addr) (w_value_w_text_a1 : Addr) (ka : ClassId) (x0 : Int32) (w_kind_a1 : Addr) (w_PUNCT : Addr) (w_COMPACT_STRINGS : Int32) (h0 : Heap) (n0 : Nat) (v : Option Value) (h : Heap) (L : List Loc) : Prop := v = some (.int (res_is_1_2 w_kind_a1 w_PUNCT)) ∧ L = [] ∧ h = h0
set_option maxRecDepth 65536 in
set_option maxHeartbeats 40000000 in
theorem rm_is_1_2 (l : Launch) (Z : State) (a0 : Array Value) (hw : ∀ d ∈ tables_1, d.before a0 Z = true) (ws : List Jvm.Cond) (a1 : Addr) (a2 : Addr) (w_value_a2 : Addr) (kb : ClassId) (y0 : Int32) (y1 : Int32) (w_text_a1 : Addr) (w_value_w_text_a1 : Addr) (ka : ClassId) (x0 : Int32) (w_kind_a1 : Addr) (w_PUNCT : Addr) (w_COMPACT_STRINGS : Int32) (h0 : Heap) (n0 : Nat) (Z0 : n0 ≤ h0.size) (E_a2 : Exa Z h0 a2 "java/lang/String") (F_coder_a2 : Fld Z h0 a2 "java/lang/String" "coder" "B" (.int (0 : Int32))) (F_value_a2 : Fld Z h0 a2 "java/lang/String" "value" "[B" (.ref w_value_a2)) (V_w_value_a2 : Arv Z h0 w_value_a2 kb .byte (2 : Int32) [(.int y0), (.int y1)] (.int (0 : Int32))) (F_text_a1 : Fld Z h0 a1 "com/example/cantrip/cantrip/Token" "text" "Ljava/lang/String;" (.ref w_text_a1)) (E_w_text_a1 : Exa Z h0 w_text_a1 "java/lang/String") (F_coder_w_text_a1 : Fld Z h0 w_text_a1 "java/lang/String" "coder" "B" (.int (0 : Int32))) (F_value_w_text_a1 : Fld Z h0 w_text_a1 "java/lang/String" "value" "[B" (.ref w_value_w_text_a1)) (V_w_value_w_text_a1 : Arv Z h0 w_value_w_text_a1 ka .byte (1 : Int32) [(.int x0)] (.int (0 : Int32))) (F_kind_a1 : Fld Z h0 a1 "com/example/cantrip/cantrip/Token" "kind" "Lcom/example/cantrip/cantrip/Token$Kind;" (.ref w_kind_a1)) (S_PUNCT : Sta Z h0 "com/example/cantrip/cantrip/Token$Kind" "PUNCT" "Lcom/example/cantrip/cantrip/Token$Kind;" (.ref w_PUNCT)) (S_COMPACT_STRINGS : Sta Z h0 "java/lang/String" "COMPACT_STRINGS" "Z" (.int w_COMPACT_STRINGS)) (hne_t : w_text_a1 ≠ a2) (hCS : ¬ (w_COMPACT_STRINGS = (0 : Int32))) :
    MetFree l (⟨"com/example/cantrip/cantrip/Token", "is", "(Ljava/lang/String;)Z"⟩ : MethodName) (head1 (Jvm.Cond.code (⟨"com/example/cantrip/cantrip/Token", "is", "(Ljava/lang/String;)Z"⟩ : MethodName) prog_3_method_2_code 2 (some .boolean) :: ws) ({ frames := 2, cells := 0, slots := 0, locals := 28 } : Room)) (fun a U => a = #[(.ref a1), (.ref a2)] ∧ Z.Warmed39 U.vm ∧ U.heap = h0) (fun _ _ _ _ _ => True) (fun _ U o U' => ∃ v L, o = .returned v ∧ Q_is_1_2 Z a1 a2 w_value_a2 kb y0 y1 w_text_a1 w_value_w_text_a1 ka x0 w_kind_a1 w_PUNCT w_COMPACT_STRINGS h0 n0 v U'.heap L ∧ FrameEnd U o U' L ({ frames := 2, cells := 0, slots := 0, locals := 28 } : Room).cells ({ frames := 2, cells := 0, slots := 0, locals := 28 } : Room).slots) := by
  refine MetFree.of_bodySF (plainFor_of_name pn4) hisR ?_
  intro p e s m args below meth c s₁ Bd hml0 hP hK
  obtain ⟨rfl, hZ, hh⟩ := hP
  have hx := Bd.exec
  have hby := Bd.bytes
  have hml : c.maxLocals = 2 := hml0
  have hown : s.vm.findClass "com/example/cantrip/cantrip/Token" = some m.cls := findClass_of_methodNamed Bd.named
  have hnm := (name_of_methodNamed Bd.named Bd.method).1
  have X0 : Stand p l e ({ frames := 2, cells := 0, slots := 0, locals := 28 } : Room) s m #[(.ref a1), (.ref a2)] below meth c s₁ [] 0 0 := Stand.of_body Bd
  have e0 : s₁.heap = h0 := by rw [← hh, Bd.state]; rfl
  have N0 := Fr.nil n0
  have pre0 : ∀ t, Steps p.tables e below (s₁.setTop (mkF m 0 #[.val (.ref a1), .val (.ref a2)] [])) t → Steps p.tables e below (s₁.setTop (entryFrame m #[(.ref a1), (.ref a2)] 2)) t := fun t k => castTop (ef_is_1_2 m a1 a2) k
  obtain ⟨T1, X1, e1, st1⟩ := getF X0 hx hZ hown (host := "") (Or.inl (hw _ (List.mem_of_getElem? (i := 56) rfl))) Via.refl e0 F_kind_a1 (g := (mkF m 1 #[.val (.ref a1), .val (.ref a2)] [(.ref a1)])) rfl rfl (hb hby d11_1)
  obtain ⟨T2, X2, e2, st2⟩ := getS2 X1 hx hZ hown (host := "") (Or.inl (hw _ (List.mem_of_getElem? (i := 67) rfl))) Via.refl e1 S_PUNCT (g := (mkF m 4 #[.val (.ref a1), .val (.ref a2)] [(.ref w_kind_a1)])) rfl (hb hby d11_4)
  have pre3 : ∀ t, Steps p.tables e below (T2.setTop (mkF m 7 #[.val (.ref a1), .val (.ref a2)] [(.ref w_PUNCT), (.ref w_kind_a1)])) t → Steps p.tables e below (s₁.setTop (entryFrame m #[(.ref a1), (.ref a2)] 2)) t := by
    intro t kt
    refine pre0 _ ?_
    show Steps p.tables e below (s₁.setTop (mkF m 0 #[.val (.ref a1), .val (.ref a2)] [])) _
    refine XS.aloadN X0.here hx rfl (hb hby d11_0) rfl rfl ?_
    show Steps p.tables e below (s₁.setTop (mkF m 1 #[.val (.ref a1), .val (.ref a2)] [(.ref a1)])) _
    refine st1 _ ?_
    show Steps p.tables e below (T1.setTop (mkF m 4 #[.val (.ref a1), .val (.ref a2)] [(.ref w_kind_a1)])) _
    refine st2 _ ?_
    exact kt
  by_cases hc7_4 : w_kind_a1 = w_PUNCT
  · obtain ⟨T5, X5, e5, st5⟩ := getF X2 hx hZ hown (host := "") (Or.inl (hw _ (List.mem_of_getElem? (i := 58) rfl))) Via.refl e2 F_text_a1 (g := (mkF m 11 #[.val (.ref a1), .val (.ref a2)] [(.ref a1)])) rfl rfl (hb hby d11_11)
    obtain ⟨cq6, kq6, q6a, q6b, q6c⟩ := isOf hZ e5 E_w_text_a1
    obtain ⟨_, _, ⟨T6, L6, k6, n6⟩, -, X6, ⟨Lc6, hQ6, l6, y6, z6⟩, st6⟩ := X5.virtualBack hx (y := (⟨"java/lang/String", "equals", "(Ljava/lang/Object;)Z"⟩ : MethodName)) (z := (⟨"java/lang/String", "equals", "(Ljava/lang/Object;)Z"⟩ : MethodName)) hown (mvT hZ (hw _ (List.mem_of_getElem? (i := 86) rfl))) (mvT hZ (hw _ (List.mem_of_getElem? (i := 87) rfl))) (notFace_of_selects (args := #[]) (mvT hZ (hw _ (List.mem_of_getElem? (i := 89) rfl)))) (mvT hZ (hw _ (List.mem_of_getElem? (i := 89) rfl))) (mvT hZ (hw _ (List.mem_of_getElem? (i := 88) rfl))) (by decide) (backOf (W := 0) (rm_eq_1_2 l Z a0 hw [] w_text_a1 a2 w_value_w_text_a1 ka x0 w_value_a2 kb y0 y1 w_COMPACT_STRINGS h0 n0 (Nat.le_trans Z0 (Keep.refl h0 []).1) E_w_text_a1 F_coder_w_text_a1 F_value_w_text_a1 V_w_value_w_text_a1 E_a2 F_coder_a2 F_value_a2 V_w_value_a2 S_COMPACT_STRINGS (hne_t : w_text_a1 ≠ a2) (hCS : ¬ (w_COMPACT_STRINGS = (0 : Int32)))) hZ (hw _ (List.mem_of_getElem? (i := 90) rfl)) (hw _ (List.mem_of_getElem? (i := 7) rfl)) (by decide) (by decide)) q6a q6c (g := (mkF m 15 #[.val (.ref a1), .val (.ref a2)] [(.ref a2), (.ref w_text_a1)])) rfl (by rw [hml]; rfl) (Steps.refl _) (argsL := [(.ref a2)]) (rest := []) (lenOf pd7 rfl) rfl (by show 2 * 0 + _ ≤ _; exact Nat.le_of_eq rfl) (hb hby d11_15) (fun _ _ => ⟨rfl, e5, (by decide : 0 + 0 ≤ _), (by decide : 0 + 0 ≤ _)⟩)
    dsimp only [Pt.U, Pt.locs, Pt.cells, Pt.slots] at X6 l6 y6 z6 st6 hQ6
    subst l6 y6 z6
    obtain ⟨rfl, rfl, e6⟩ := hQ6
    have N6 := Fr.app N0 (Fr.nil n0)
    obtain ⟨fs, hr, hrun, hended, hW, hsame⟩ := X6.leave (v := some (.int (0 : Int32))) (fun h => by rw [Bd.returns] at h; cases h)
    refine ⟨_, _, pre3 _ ?_, hrun, hended, _, _, rfl, ?_, ⟨_, rfl⟩, hW, hsame.mono (by decide) (by decide)⟩
    · show Steps p.tables e below (T2.setTop (mkF m 7 #[.val (.ref a1), .val (.ref a2)] [(.ref w_PUNCT), (.ref w_kind_a1)])) _
      refine Jvm.RoadKit.acmp (g := (mkF m 7 #[.val (.ref a1), .val (.ref a2)] [(.ref w_PUNCT), (.ref w_kind_a1)])) X2 hx rfl rfl rfl (pc0 := 7) (pc' := 10) (same := true) rfl (hb hby d11_7) rfl (decide_eq_true (congrArg Value.ref hc7_4)) (by decide) (by decide) ?_
      show Steps p.tables e below (T2.setTop (mkF m 10 #[.val (.ref a1), .val (.ref a2)] [])) _
      refine XS.aloadN X2.here hx rfl (hb hby d11_10) rfl rfl ?_
      show Steps p.tables e below (T2.setTop (mkF m 11 #[.val (.ref a1), .val (.ref a2)] [(.ref a1)])) _
      refine st5 _ ?_
      show Steps p.tables e below (T5.setTop (mkF m 14 #[.val (.ref a1), .val (.ref a2)] [(.ref w_text_a1)])) _
      refine XS.aloadN X5.here hx rfl (hb hby d11_14) rfl rfl ?_
      show Steps p.tables e below (T5.setTop (mkF m 15 #[.val (.ref a1), .val (.ref a2)] [(.ref a2), (.ref w_text_a1)])) _
      refine st6.trans ?_
      show Steps p.tables e below (T6.setTop (mkF m 18 #[.val (.ref a1), .val (.ref a2)] [(.int (0 : Int32))])) _
      refine XS.ifYes X6.here hx rfl (pc0 := 18) (pc' := 25) rfl (hb hby d11_18) rfl ((if0 _ _).trans (teq (by decide : (0 : Int32) = (0 : Int32))).1) (by decide) (by decide) ?_
      refine XS.iconst X6.here hx rfl (hb hby d11_25) ?_
      show Steps p.tables e below (T6.setTop (mkF m 26 #[.val (.ref a1), .val (.ref a2)] [(.int (0 : Int32))])) _
      exact retN X6 hx (t := .boolean) Bd.returns (by simp) (hb hby d11_26) hr
    · show Q_is_1_2 Z a1 a2 w_value_a2 kb y0 y1 w_text_a1 w_value_w_text_a1 ka x0 w_kind_a1 w_PUNCT w_COMPACT_STRINGS h0 n0 _ T6.heap _
      rw [e6]
      exact ⟨by rw [res_is_1_2, if_pos hc7_4], rfl, rfl⟩
  · obtain ⟨fs, hr, hrun, hended, hW, hsame⟩ := X2.leave (v := some (.int (0 : Int32))) (fun h => by rw [Bd.returns] at h; cases h)
    refine ⟨_, _, pre3 _ ?_, hrun, hended, _, _, rfl, ?_, ⟨_, rfl⟩, hW, hsame.mono (by decide) (by decide)⟩
    · show Steps p.tables e below (T2.setTop (mkF m 7 #[.val (.ref a1), .val (.ref a2)] [(.ref w_PUNCT), (.ref w_kind_a1)])) _
      refine Jvm.RoadKit.acmp (g := (mkF m 7 #[.val (.ref a1), .val (.ref a2)] [(.ref w_PUNCT), (.ref w_kind_a1)])) X2 hx rfl rfl rfl (pc0 := 7) (pc' := 25) (same := false) rfl (hb hby d11_7) rfl (decide_eq_false fun q => hc7_4 (Value.ref.inj q)) (by decide) (by decide) ?_
      show Steps p.tables e below (T2.setTop (mkF m 25 #[.val (.ref a1), .val (.ref a2)] [])) _
      refine XS.iconst X2.here hx rfl (hb hby d11_25) ?_
      show Steps p.tables e below (T2.setTop (mkF m 26 #[.val (.ref a1), .val (.ref a2)] [(.int (0 : Int32))])) _
      exact retN X2 hx (t := .boolean) Bd.returns (by simp) (hb hby d11_26) hr
    · show Q_is_1_2 Z a1 a2 w_value_a2 kb y0 y1 w_text_a1 w_value_w_text_a1 ka x0 w_kind_a1 w_PUNCT w_COMPACT_STRINGS h0 n0 _ T2.heap _
      rw [e2]
      exact ⟨by rw [res_is_1_2, if_neg hc7_4], rfl, rfl⟩
theorem ef_leq_2_0 (m : MethodId) (a1 : Addr) (a2 : Addr) : entryFrame m #[(.ref a1), (.ref a2)] 3 = (mkF m 0 #[.val (.ref a1), .val (.ref a2), .unset] []) := by first | (simp [entryFrame, mkF, argsToLocals, Value.category]; done) | rfl
def Q_leq_2_0 (Z : State) (a1 : Addr) (a2 : Addr) (ka : ClassId) (x0 : Int32) (x1 : Int32) (kb : ClassId) (h0 : Heap) (n0 : Nat) (v : Option Value) (h : Heap) (L : List Loc) : Prop := v = some (.int (0 : Int32)) ∧ L = [] ∧ h = h0
set_option maxRecDepth 65536 in
set_option maxHeartbeats 40000000 in
theorem rm_leq_2_0 (l : Launch) (Z : State) (a0 : Array Value) (hw : ∀ d ∈ tables_1, d.before a0 Z = true) (ws : List Jvm.Cond) (a1 : Addr) (a2 : Addr) (ka : ClassId) (x0 : Int32) (x1 : Int32) (kb : ClassId) (h0 : Heap) (n0 : Nat) (Z0 : n0 ≤ h0.size) (V_a1 : Arv Z h0 a1 ka .byte (2 : Int32) [(.int x0), (.int x1)] (.int (0 : Int32))) (V_a2 : Arv Z h0 a2 kb .byte (0 : Int32) [] (.int (0 : Int32))) :
    MetFree l (⟨"java/lang/StringLatin1", "equals", "([B[B)Z"⟩ : MethodName) (head1 (Jvm.Cond.code (⟨"java/lang/StringLatin1", "equals", "([B[B)Z"⟩ : MethodName) jdk_43_method_13_code 3 (some .boolean) :: ws) ({ frames := 0, cells := 0, slots := 0, locals := 0 } : Room)) (fun a U => a = #[(.ref a1), (.ref a2)] ∧ Z.Warmed39 U.vm ∧ U.heap = h0) (fun _ _ _ _ _ => True) (fun _ U o U' => ∃ v L, o = .returned v ∧ Q_leq_2_0 Z a1 a2 ka x0 x1 kb h0 n0 v U'.heap L ∧ FrameEnd U o U' L ({ frames := 0, cells := 0, slots := 0, locals := 0 } : Room).cells ({ frames := 0, cells := 0, slots := 0, locals := 0 } : Room).slots) := by
  refine MetFree.of_bodySF (plainFor_of_name pn5) hisR ?_
  intro p e s m args below meth c s₁ Bd hml0 hP hK
  obtain ⟨rfl, hZ, hh⟩ := hP
  have hx := Bd.exec
  have hby := Bd.bytes
  have hml : c.maxLocals = 3 := hml0
  have hown : s.vm.findClass "java/lang/StringLatin1" = some m.cls := findClass_of_methodNamed Bd.named
  have hnm := (name_of_methodNamed Bd.named Bd.method).1
  have X0 : Stand p l e ({ frames := 0, cells := 0, slots := 0, locals := 0 } : Room) s m #[(.ref a1), (.ref a2)] below meth c s₁ [] 0 0 := Stand.of_body Bd
  have e0 : s₁.heap = h0 := by rw [← hh, Bd.state]; rfl
  have N0 := Fr.nil n0
  have pre0 : ∀ t, Steps p.tables e below (s₁.setTop (mkF m 0 #[.val (.ref a1), .val (.ref a2), .unset] [])) t → Steps p.tables e below (s₁.setTop (entryFrame m #[(.ref a1), (.ref a2)] 3)) t := fun t k => castTop (ef_leq_2_0 m a1 a2) k
  obtain ⟨cl_a1_1_1, Ar_a1_1_1, -, S_a1_1_1, N_a1_1_1, -, -⟩ := id V_a1
  obtain ⟨cl_a2_3_2, Ar_a2_3_2, -, S_a2_3_2, N_a2_3_2, -, -⟩ := id V_a2
  obtain ⟨fs, hr, hrun, hended, hW, hsame⟩ := X0.leave (v := some (.int (0 : Int32))) (fun h => by rw [Bd.returns] at h; cases h)
  refine ⟨_, _, pre0 _ ?_, hrun, hended, _, _, rfl, ?_, ⟨_, rfl⟩, hW, hsame.mono (by decide) (by decide)⟩
  · show Steps p.tables e below (s₁.setTop (mkF m 0 #[.val (.ref a1), .val (.ref a2), .unset] [])) _
    refine XS.aloadN X0.here hx rfl (hb hby d13_0) rfl rfl ?_
    refine X0.arraylength hx (by rw [e0]; exact Ar_a1_1_1.1) (State.isArrayOf_alike hZ.alike Ar_a1_1_1.2.1) (g := (mkF m 1 #[.val (.ref a1), .val (.ref a2), .unset] [(.ref a1)])) rfl rfl (hb hby d13_1) _ ?_
    rw [len_of S_a1_1_1 N_a1_1_1]
    show Steps p.tables e below (s₁.setTop (mkF m 2 #[.val (.ref a1), .val (.ref a2), .unset] [(.int (2 : Int32))])) _
    refine XS.aloadN X0.here hx rfl (hb hby d13_2) rfl rfl ?_
    show Steps p.tables e below (s₁.setTop (mkF m 3 #[.val (.ref a1), .val (.ref a2), .unset] [(.ref a2), (.int (2 : Int32))])) _
    refine X0.arraylength hx (by rw [e0]; exact Ar_a2_3_2.1) (State.isArrayOf_alike hZ.alike Ar_a2_3_2.2.1) (g := (mkF m 3 #[.val (.ref a1), .val (.ref a2), .unset] [(.ref a2), (.int (2 : Int32))])) rfl rfl (hb hby d13_3) _ ?_
    rw [len_of S_a2_3_2 N_a2_3_2]
    show Steps p.tables e below (s₁.setTop (mkF m 4 #[.val (.ref a1), .val (.ref a2), .unset] [(.int (0 : Int32)), (.int (2 : Int32))])) _
    refine XS.icmpYes X0.here hx rfl (pc0 := 4) (pc' := 34) rfl (hb hby d13_4) rfl (feq (by decide : ¬ ((2 : Int32) = (0 : Int32)))).2 (by decide) (by decide) ?_
    refine XS.iconst X0.here hx rfl (hb hby d13_34) ?_
    show Steps p.tables e below (s₁.setTop (mkF m 35 #[.val (.ref a1), .val (.ref a2), .unset] [(.int (0 : Int32))])) _
    exact retN X0 hx (t := .boolean) Bd.returns (by simp) (hb hby d13_35) hr
  · show Q_leq_2_0 Z a1 a2 ka x0 x1 kb h0 n0 _ s₁.heap _
    rw [e0]
    exact ⟨rfl, rfl, rfl⟩
theorem ef_eq_2_0 (m : MethodId) (a1 : Addr) (a2 : Addr) : entryFrame m #[(.ref a1), (.ref a2)] 3 = (mkF m 0 #[.val (.ref a1), .val (.ref a2), .unset] []) := by first | (simp [entryFrame, mkF, argsToLocals, Value.category]; done) | rfl
def Q_eq_2_0 (Z : State) (a1 : Addr) (a2 : Addr) (w_value_a1 : Addr) (ka : ClassId) (x0 : Int32) (x1 : Int32) (w_value_a2 : Addr) (kb : ClassId) (w_COMPACT_STRINGS : Int32) (h0 : Heap) (n0 : Nat) (v : Option Value) (h : Heap) (L : List Loc) : Prop := v = some (.int (0 : Int32)) ∧ L = [] ∧ h = h0
set_option maxRecDepth 65536 in
set_option maxHeartbeats 40000000 in
theorem rm_eq_2_0 (l : Launch) (Z : State) (a0 : Array Value) (hw : ∀ d ∈ tables_1, d.before a0 Z = true) (ws : List Jvm.Cond) (a1 : Addr) (a2 : Addr) (w_value_a1 : Addr) (ka : ClassId) (x0 : Int32) (x1 : Int32) (w_value_a2 : Addr) (kb : ClassId) (w_COMPACT_STRINGS : Int32) (h0 : Heap) (n0 : Nat) (Z0 : n0 ≤ h0.size) (E_a1 : Exa Z h0 a1 "java/lang/String") (F_coder_a1 : Fld Z h0 a1 "java/lang/String" "coder" "B" (.int (0 : Int32))) (F_value_a1 : Fld Z h0 a1 "java/lang/String" "value" "[B" (.ref w_value_a1)) (V_w_value_a1 : Arv Z h0 w_value_a1 ka .byte (2 : Int32) [(.int x0), (.int x1)] (.int (0 : Int32))) (E_a2 : Exa Z h0 a2 "java/lang/String") (F_coder_a2 : Fld Z h0 a2 "java/lang/String" "coder" "B" (.int (0 : Int32))) (F_value_a2 : Fld Z h0 a2 "java/lang/String" "value" "[B" (.ref w_value_a2)) (V_w_value_a2 : Arv Z h0 w_value_a2 kb .byte (0 : Int32) [] (.int (0 : Int32))) (S_COMPACT_STRINGS : Sta Z h0 "java/lang/String" "COMPACT_STRINGS" "Z" (.int w_COMPACT_STRINGS)) (hne_12 : a1 ≠ a2) (hCS : ¬ (w_COMPACT_STRINGS = (0 : Int32))) :
    MetFree l (⟨"java/lang/String", "equals", "(Ljava/lang/Object;)Z"⟩ : MethodName) (head1 (Jvm.Cond.code (⟨"java/lang/String", "equals", "(Ljava/lang/Object;)Z"⟩ : MethodName) jdk_42_method_66_code 3 (some .boolean) :: ws) ({ frames := 1, cells := 0, slots := 0, locals := 14 } : Room)) (fun a U => a = #[(.ref a1), (.ref a2)] ∧ Z.Warmed39 U.vm ∧ U.heap = h0) (fun _ _ _ _ _ => True) (fun _ U o U' => ∃ v L, o = .returned v ∧ Q_eq_2_0 Z a1 a2 w_value_a1 ka x0 x1 w_value_a2 kb w_COMPACT_STRINGS h0 n0 v U'.heap L ∧ FrameEnd U o U' L ({ frames := 1, cells := 0, slots := 0, locals := 14 } : Room).cells ({ frames := 1, cells := 0, slots := 0, locals := 14 } : Room).slots) := by
  refine MetFree.of_bodySF (plainFor_of_name pn0) hisR ?_
  intro p e s m args below meth c s₁ Bd hml0 hP hK
  obtain ⟨rfl, hZ, hh⟩ := hP
  have hx := Bd.exec
  have hby := Bd.bytes
  have hml : c.maxLocals = 3 := hml0
  have hown : s.vm.findClass "java/lang/String" = some m.cls := findClass_of_methodNamed Bd.named
  have hnm := (name_of_methodNamed Bd.named Bd.method).1
  have X0 : Stand p l e ({ frames := 1, cells := 0, slots := 0, locals := 14 } : Room) s m #[(.ref a1), (.ref a2)] below meth c s₁ [] 0 0 := Stand.of_body Bd
  have e0 : s₁.heap = h0 := by rw [← hh, Bd.state]; rfl
  have N0 := Fr.nil n0
  have pre0 : ∀ t, Steps p.tables e below (s₁.setTop (mkF m 0 #[.val (.ref a1), .val (.ref a2), .unset] [])) t → Steps p.tables e below (s₁.setTop (entryFrame m #[(.ref a1), (.ref a2)] 3)) t := fun t k => castTop (ef_eq_2_0 m a1 a2) k
  obtain ⟨T1, X1, e1, st1⟩ := instY X0 hx hZ hown (hw _ (List.mem_of_getElem? (i := 91) rfl)) e0 (Ins.self E_a2) (g := (mkF m 8 #[.val (.ref a1), .val (.ref a2), .unset] [(.ref a2)])) rfl rfl (hb hby d12_8)
  obtain ⟨T2, X2, e2, st2⟩ := castY X1 hx hZ hown (hw _ (List.mem_of_getElem? (i := 91) rfl)) e1 (Ins.self E_a2) (g := (mkF m 15 #[.val (.ref a1), .val (.ref a2), .unset] [(.ref a2)])) rfl rfl (hb hby d12_15)
  obtain ⟨T3, X3, e3, st3⟩ := getS2 X2 hx hZ hown (host := "") (Or.inl (hw _ (List.mem_of_getElem? (i := 19) rfl))) Via.refl e2 S_COMPACT_STRINGS (g := (mkF m 19 #[.val (.ref a1), .val (.ref a2), .val (.ref a2)] [])) rfl (hb hby d12_19)
  obtain ⟨T4, X4, e4, st4⟩ := getF X3 hx hZ hown (host := "") (Or.inl (hw _ (List.mem_of_getElem? (i := 31) rfl))) Via.refl e3 F_coder_a1 (g := (mkF m 26 #[.val (.ref a1), .val (.ref a2), .val (.ref a2)] [(.ref a1)])) rfl rfl (hb hby d12_26)
  obtain ⟨T5, X5, e5, st5⟩ := getF X4 hx hZ hown (host := "") (Or.inl (hw _ (List.mem_of_getElem? (i := 31) rfl))) Via.refl e4 F_coder_a2 (g := (mkF m 30 #[.val (.ref a1), .val (.ref a2), .val (.ref a2)] [(.ref a2), (.int (0 : Int32))])) rfl rfl (hb hby d12_30)
  obtain ⟨T6, X6, e6, st6⟩ := getF X5 hx hZ hown (host := "") (Or.inl (hw _ (List.mem_of_getElem? (i := 33) rfl))) Via.refl e5 F_value_a1 (g := (mkF m 37 #[.val (.ref a1), .val (.ref a2), .val (.ref a2)] [(.ref a1)])) rfl rfl (hb hby d12_37)
  obtain ⟨T7, X7, e7, st7⟩ := getF X6 hx hZ hown (host := "") (Or.inl (hw _ (List.mem_of_getElem? (i := 33) rfl))) Via.refl e6 F_value_a2 (g := (mkF m 41 #[.val (.ref a1), .val (.ref a2), .val (.ref a2)] [(.ref a2), (.ref w_value_a1)])) rfl rfl (hb hby d12_41)
  obtain ⟨_, _, ⟨T8, L8, k8, n8⟩, -, X8, ⟨Lc8, hQ8, l8, y8, z8⟩, st8⟩ := Jvm.LawKit.callS X7 hx (y := (⟨"java/lang/StringLatin1", "equals", "([B[B)Z"⟩ : MethodName)) hown (mvT hZ (hw _ (List.mem_of_getElem? (i := 92) rfl))) (mvT hZ (hw _ (List.mem_of_getElem? (i := 93) rfl))) (mvT hZ (hw _ (List.mem_of_getElem? (i := 94) rfl))) (mvT hZ (hw _ (List.mem_of_getElem? (i := 95) rfl))) (by decide) (backOf (W := 0) (rm_leq_2_0 l Z a0 hw [] w_value_a1 w_value_a2 ka x0 x1 kb h0 n0 (Nat.le_trans Z0 (Keep.refl h0 []).1) V_w_value_a1 V_w_value_a2 ) hZ (hw _ (List.mem_of_getElem? (i := 95) rfl)) (hw _ (List.mem_of_getElem? (i := 94) rfl)) (by decide) (by decide)) (g := (mkF m 44 #[.val (.ref a1), .val (.ref a2), .val (.ref a2)] [(.ref w_value_a2), (.ref w_value_a1)])) rfl (by rw [hml]; rfl) (argsL := [(.ref w_value_a1), (.ref w_value_a2)]) (rest := []) (lenOf pd6 rfl) rfl (by show 2 * 0 + _ ≤ _; exact Nat.le_of_eq rfl) (hb hby d12_44) (fun _ _ => ⟨rfl, e7, (by decide : 0 + 0 ≤ _), (by decide : 0 + 0 ≤ _)⟩)
  dsimp only [Pt.U, Pt.locs, Pt.cells, Pt.slots] at X8 l8 y8 z8 st8 hQ8
  subst l8 y8 z8
  obtain ⟨rfl, rfl, e8⟩ := hQ8
  have N8 := Fr.app N0 (Fr.nil n0)
  obtain ⟨fs, hr, hrun, hended, hW, hsame⟩ := X8.leave (v := some (.int (0 : Int32))) (fun h => by rw [Bd.returns] at h; cases h)
  refine ⟨_, _, pre0 _ ?_, hrun, hended, _, _, rfl, ?_, ⟨_, rfl⟩, hW, hsame.mono (by decide) (by decide)⟩
  · show Steps p.tables e below (s₁.setTop (mkF m 0 #[.val (.ref a1), .val (.ref a2), .unset] [])) _
    refine XS.aloadN X0.here hx rfl (hb hby d12_0) rfl rfl ?_
    refine XS.aloadN X0.here hx rfl (hb hby d12_1) rfl rfl ?_
    refine Jvm.RoadKit.acmp (g := (mkF m 2 #[.val (.ref a1), .val (.ref a2), .unset] [(.ref a2), (.ref a1)])) X0 hx rfl rfl rfl (pc0 := 2) (pc' := 7) (same := false) rfl (hb hby d12_2) rfl (decide_eq_false fun q => hne_12 (Value.ref.inj q)) (by decide) (by decide) ?_
    show Steps p.tables e below (s₁.setTop (mkF m 7 #[.val (.ref a1), .val (.ref a2), .unset] [])) _
    refine XS.aloadN X0.here hx rfl (hb hby d12_7) rfl rfl ?_
    show Steps p.tables e below (s₁.setTop (mkF m 8 #[.val (.ref a1), .val (.ref a2), .unset] [(.ref a2)])) _
    refine st1 _ ?_
    show Steps p.tables e below (T1.setTop (mkF m 11 #[.val (.ref a1), .val (.ref a2), .unset] [(.int (1 : Int32))])) _
    refine XS.ifNo X1.here hx rfl (hb hby d12_11) rfl ((if0 _ _).trans (feq (by decide : ¬ ((1 : Int32) = (0 : Int32)))).1) ?_
    refine XS.aloadN X1.here hx rfl (hb hby d12_14) rfl rfl ?_
    show Steps p.tables e below (T1.setTop (mkF m 15 #[.val (.ref a1), .val (.ref a2), .unset] [(.ref a2)])) _
    refine st2 _ ?_
    show Steps p.tables e below (T2.setTop (mkF m 18 #[.val (.ref a1), .val (.ref a2), .unset] [(.ref a2)])) _
    refine XS.astoreN X2.here hx rfl (hb hby d12_18) rfl rfl (l' := #[.val (.ref a1), .val (.ref a2), .val (.ref a2)]) rfl ?_
    show Steps p.tables e below (T2.setTop (mkF m 19 #[.val (.ref a1), .val (.ref a2), .val (.ref a2)] [])) _
    refine st3 _ ?_
    show Steps p.tables e below (T3.setTop (mkF m 22 #[.val (.ref a1), .val (.ref a2), .val (.ref a2)] [(.int w_COMPACT_STRINGS)])) _
    refine XS.ifNo X3.here hx rfl (hb hby d12_22) rfl ((if0 _ _).trans (feq (hCS : ¬ (w_COMPACT_STRINGS = (0 : Int32)))).1) ?_
    refine XS.aloadN X3.here hx rfl (hb hby d12_25) rfl rfl ?_
    show Steps p.tables e below (T3.setTop (mkF m 26 #[.val (.ref a1), .val (.ref a2), .val (.ref a2)] [(.ref a1)])) _
    refine st4 _ ?_
    show Steps p.tables e below (T4.setTop (mkF m 29 #[.val (.ref a1), .val (.ref a2), .val (.ref a2)] [(.int (0 : Int32))])) _
    refine XS.aloadN X4.here hx rfl (hb hby d12_29) rfl rfl ?_
    show Steps p.tables e below (T4.setTop (mkF m 30 #[.val (.ref a1), .val (.ref a2), .val (.ref a2)] [(.ref a2), (.int (0 : Int32))])) _
    refine st5 _ ?_
    show Steps p.tables e below (T5.setTop (mkF m 33 #[.val (.ref a1), .val (.ref a2), .val (.ref a2)] [(.int (0 : Int32)), (.int (0 : Int32))])) _
    refine XS.icmpNo X5.here hx rfl (hb hby d12_33) rfl (teq (by decide : (0 : Int32) = (0 : Int32))).2 ?_
    refine XS.aloadN X5.here hx rfl (hb hby d12_36) rfl rfl ?_
    show Steps p.tables e below (T5.setTop (mkF m 37 #[.val (.ref a1), .val (.ref a2), .val (.ref a2)] [(.ref a1)])) _
    refine st6 _ ?_
    show Steps p.tables e below (T6.setTop (mkF m 40 #[.val (.ref a1), .val (.ref a2), .val (.ref a2)] [(.ref w_value_a1)])) _
    refine XS.aloadN X6.here hx rfl (hb hby d12_40) rfl rfl ?_
    show Steps p.tables e below (T6.setTop (mkF m 41 #[.val (.ref a1), .val (.ref a2), .val (.ref a2)] [(.ref a2), (.ref w_value_a1)])) _
    refine st7 _ ?_
    show Steps p.tables e below (T7.setTop (mkF m 44 #[.val (.ref a1), .val (.ref a2), .val (.ref a2)] [(.ref w_value_a2), (.ref w_value_a1)])) _
    refine st8 _ ?_
    show Steps p.tables e below (T8.setTop (mkF m 47 #[.val (.ref a1), .val (.ref a2), .val (.ref a2)] [(.int (0 : Int32))])) _
    refine XS.ifYes X8.here hx rfl (pc0 := 47) (pc' := 54) rfl (hb hby d12_47) rfl ((if0 _ _).trans (teq (by decide : (0 : Int32) = (0 : Int32))).1) (by decide) (by decide) ?_
    refine XS.iconst X8.here hx rfl (hb hby d12_54) ?_
    show Steps p.tables e below (T8.setTop (mkF m 55 #[.val (.ref a1), .val (.ref a2), .val (.ref a2)] [(.int (0 : Int32))])) _
    exact retN X8 hx (t := .boolean) Bd.returns (by simp) (hb hby d12_55) hr
  · show Q_eq_2_0 Z a1 a2 w_value_a1 ka x0 x1 w_value_a2 kb w_COMPACT_STRINGS h0 n0 _ T8.heap _
    rw [e8]
    exact ⟨rfl, rfl, rfl⟩
def res_is_2_0 (w_kind_a1 : Addr) (w_PUNCT : Addr) : Int32 := if w_kind_a1 = w_PUNCT then (0 : Int32) else (0 : Int32)
theorem ef_is_2_0 (m : MethodId) (a1 : Addr) (a2 : Addr) : entryFrame m #[(.ref a1), (.ref a2)] 2 = (mkF m 0 #[.val (.ref a1), .val (.ref a2)] []) := by first | (simp [entryFrame, mkF, argsToLocals, Value.category]; done) | rfl
def Q_is_2_0 (Z : State) (a1 : Addr) (a2 : Addr) (w_value_a2 : Addr) (kb : ClassId) (w_text_a1 : Addr) (w_value_w_text_a1 : Addr) (ka : ClassId) (x0 : Int32) (x1 : Int32) (w_kind_a1 : Addr) (w_PUNCT : Addr) (w_COMPACT_STRINGS : Int32) (h0 : Heap) (n0 : Nat) (v : Option Value) (h : Heap) (L : List Loc) : Prop := v = some (.int (res_is_2_0 w_kind_a1 w_PUNCT)) ∧ L = [] ∧ h = h0
set_option maxRecDepth 65536 in
set_option maxHeartbeats 40000000 in
theorem rm_is_2_0 (l : Launch) (Z : State) (a0 : Array Value) (hw : ∀ d ∈ tables_1, d.before a0 Z = true) (ws : List Jvm.Cond) (a1 : Addr) (a2 : Addr) (w_value_a2 : Addr) (kb : ClassId) (w_text_a1 : Addr) (w_value_w_text_a1 : Addr) (ka : ClassId) (x0 : Int32) (x1 : Int32) (w_kind_a1 : Addr) (w_PUNCT : Addr) (w_COMPACT_STRINGS : Int32) (h0 : Heap) (n0 : Nat) (Z0 : n0 ≤ h0.size) (E_a2 : Exa Z h0 a2 "java/lang/String") (F_coder_a2 : Fld Z h0 a2 "java/lang/String" "coder" "B" (.int (0 : Int32))) (F_value_a2 : Fld Z h0 a2 "java/lang/String" "value" "[B" (.ref w_value_a2)) (V_w_value_a2 : Arv Z h0 w_value_a2 kb .byte (0 : Int32) [] (.int (0 : Int32))) (F_text_a1 : Fld Z h0 a1 "com/example/cantrip/cantrip/Token" "text" "Ljava/lang/String;" (.ref w_text_a1)) (E_w_text_a1 : Exa Z h0 w_text_a1 "java/lang/String") (F_coder_w_text_a1 : Fld Z h0 w_text_a1 "java/lang/String" "coder" "B" (.int (0 : Int32))) (F_value_w_text_a1 : Fld Z h0 w_text_a1 "java/lang/String" "value" "[B" (.ref w_value_w_text_a1)) (V_w_value_w_text_a1 : Arv Z h0 w_value_w_text_a1 ka .byte (2 : Int32) [(.int x0), (.int x1)] (.int (0 : Int32))) (F_kind_a1 : Fld Z h0 a1 "com/example/cantrip/cantrip/Token" "kind" "Lcom/example/cantrip/cantrip/Token$Kind;" (.ref w_kind_a1)) (S_PUNCT : Sta Z h0 "com/example/cantrip/cantrip/Token$Kind" "PUNCT" "Lcom/example/cantrip/cantrip/Token$Kind;" (.ref w_PUNCT)) (S_COMPACT_STRINGS : Sta Z h0 "java/lang/String" "COMPACT_STRINGS" "Z" (.int w_COMPACT_STRINGS)) (hne_t : w_text_a1 ≠ a2) (hCS : ¬ (w_COMPACT_STRINGS = (0 : Int32))) :
    MetFree l (⟨"com/example/cantrip/cantrip/Token", "is", "(Ljava/lang/String;)Z"⟩ : MethodName) (head1 (Jvm.Cond.code (⟨"com/example/cantrip/cantrip/Token", "is", "(Ljava/lang/String;)Z"⟩ : MethodName) prog_3_method_2_code 2 (some .boolean) :: ws) ({ frames := 2, cells := 0, slots := 0, locals := 28 } : Room)) (fun a U => a = #[(.ref a1), (.ref a2)] ∧ Z.Warmed39 U.vm ∧ U.heap = h0) (fun _ _ _ _ _ => True) (fun _ U o U' => ∃ v L, o = .returned v ∧ Q_is_2_0 Z a1 a2 w_value_a2 kb w_text_a1 w_value_w_text_a1 ka x0 x1 w_kind_a1 w_PUNCT w_COMPACT_STRINGS h0 n0 v U'.heap L ∧ FrameEnd U o U' L ({ frames := 2, cells := 0, slots := 0, locals := 28 } : Room).cells ({ frames := 2, cells := 0, slots := 0, locals := 28 } : Room).slots) := by
  refine MetFree.of_bodySF (plainFor_of_name pn4) hisR ?_
  intro p e s m args below meth c s₁ Bd hml0 hP hK
  obtain ⟨rfl, hZ, hh⟩ := hP
  have hx := Bd.exec
  have hby := Bd.bytes
  have hml : c.maxLocals = 2 := hml0
  have hown : s.vm.findClass "com/example/cantrip/cantrip/Token" = some m.cls := findClass_of_methodNamed Bd.named
  have hnm := (name_of_methodNamed Bd.named Bd.method).1
  have X0 : Stand p l e ({ frames := 2, cells := 0, slots := 0, locals := 28 } : Room) s m #[(.ref a1), (.ref a2)] below meth c s₁ [] 0 0 := Stand.of_body Bd
  have e0 : s₁.heap = h0 := by rw [← hh, Bd.state]; rfl
  have N0 := Fr.nil n0
  have pre0 : ∀ t, Steps p.tables e below (s₁.setTop (mkF m 0 #[.val (.ref a1), .val (.ref a2)] [])) t → Steps p.tables e below (s₁.setTop (entryFrame m #[(.ref a1), (.ref a2)] 2)) t := fun t k => castTop (ef_is_2_0 m a1 a2) k
  obtain ⟨T1, X1, e1, st1⟩ := getF X0 hx hZ hown (host := "") (Or.inl (hw _ (List.mem_of_getElem? (i := 56) rfl))) Via.refl e0 F_kind_a1 (g := (mkF m 1 #[.val (.ref a1), .val (.ref a2)] [(.ref a1)])) rfl rfl (hb hby d11_1)
  obtain ⟨T2, X2, e2, st2⟩ := getS2 X1 hx hZ hown (host := "") (Or.inl (hw _ (List.mem_of_getElem? (i := 67) rfl))) Via.refl e1 S_PUNCT (g := (mkF m 4 #[.val (.ref a1), .val (.ref a2)] [(.ref w_kind_a1)])) rfl (hb hby d11_4)
  have pre3 : ∀ t, Steps p.tables e below (T2.setTop (mkF m 7 #[.val (.ref a1), .val (.ref a2)] [(.ref w_PUNCT), (.ref w_kind_a1)])) t → Steps p.tables e below (s₁.setTop (entryFrame m #[(.ref a1), (.ref a2)] 2)) t := by
    intro t kt
    refine pre0 _ ?_
    show Steps p.tables e below (s₁.setTop (mkF m 0 #[.val (.ref a1), .val (.ref a2)] [])) _
    refine XS.aloadN X0.here hx rfl (hb hby d11_0) rfl rfl ?_
    show Steps p.tables e below (s₁.setTop (mkF m 1 #[.val (.ref a1), .val (.ref a2)] [(.ref a1)])) _
    refine st1 _ ?_
    show Steps p.tables e below (T1.setTop (mkF m 4 #[.val (.ref a1), .val (.ref a2)] [(.ref w_kind_a1)])) _
    refine st2 _ ?_
    exact kt
  by_cases hc7_4 : w_kind_a1 = w_PUNCT
  · obtain ⟨T5, X5, e5, st5⟩ := getF X2 hx hZ hown (host := "") (Or.inl (hw _ (List.mem_of_getElem? (i := 58) rfl))) Via.refl e2 F_text_a1 (g := (mkF m 11 #[.val (.ref a1), .val (.ref a2)] [(.ref a1)])) rfl rfl (hb hby d11_11)
    obtain ⟨cq6, kq6, q6a, q6b, q6c⟩ := isOf hZ e5 E_w_text_a1
    obtain ⟨_, _, ⟨T6, L6, k6, n6⟩, -, X6, ⟨Lc6, hQ6, l6, y6, z6⟩, st6⟩ := X5.virtualBack hx (y := (⟨"java/lang/String", "equals", "(Ljava/lang/Object;)Z"⟩ : MethodName)) (z := (⟨"java/lang/String", "equals", "(Ljava/lang/Object;)Z"⟩ : MethodName)) hown (mvT hZ (hw _ (List.mem_of_getElem? (i := 86) rfl))) (mvT hZ (hw _ (List.mem_of_getElem? (i := 87) rfl))) (notFace_of_selects (args := #[]) (mvT hZ (hw _ (List.mem_of_getElem? (i := 89) rfl)))) (mvT hZ (hw _ (List.mem_of_getElem? (i := 89) rfl))) (mvT hZ (hw _ (List.mem_of_getElem? (i := 88) rfl))) (by decide) (backOf (W := 0) (rm_eq_2_0 l Z a0 hw [] w_text_a1 a2 w_value_w_text_a1 ka x0 x1 w_value_a2 kb w_COMPACT_STRINGS h0 n0 (Nat.le_trans Z0 (Keep.refl h0 []).1) E_w_text_a1 F_coder_w_text_a1 F_value_w_text_a1 V_w_value_w_text_a1 E_a2 F_coder_a2 F_value_a2 V_w_value_a2 S_COMPACT_STRINGS (hne_t : w_text_a1 ≠ a2) (hCS : ¬ (w_COMPACT_STRINGS = (0 : Int32)))) hZ (hw _ (List.mem_of_getElem? (i := 90) rfl)) (hw _ (List.mem_of_getElem? (i := 7) rfl)) (by decide) (by decide)) q6a q6c (g := (mkF m 15 #[.val (.ref a1), .val (.ref a2)] [(.ref a2), (.ref w_text_a1)])) rfl (by rw [hml]; rfl) (Steps.refl _) (argsL := [(.ref a2)]) (rest := []) (lenOf pd7 rfl) rfl (by show 2 * 0 + _ ≤ _; exact Nat.le_of_eq rfl) (hb hby d11_15) (fun _ _ => ⟨rfl, e5, (by decide : 0 + 0 ≤ _), (by decide : 0 + 0 ≤ _)⟩)
    dsimp only [Pt.U, Pt.locs, Pt.cells, Pt.slots] at X6 l6 y6 z6 st6 hQ6
    subst l6 y6 z6
    obtain ⟨rfl, rfl, e6⟩ := hQ6
    have N6 := Fr.app N0 (Fr.nil n0)
    obtain ⟨fs, hr, hrun, hended, hW, hsame⟩ := X6.leave (v := some (.int (0 : Int32))) (fun h => by rw [Bd.returns] at h; cases h)
    refine ⟨_, _, pre3 _ ?_, hrun, hended, _, _, rfl, ?_, ⟨_, rfl⟩, hW, hsame.mono (by decide) (by decide)⟩
    · show Steps p.tables e below (T2.setTop (mkF m 7 #[.val (.ref a1), .val (.ref a2)] [(.ref w_PUNCT), (.ref w_kind_a1)])) _
      refine Jvm.RoadKit.acmp (g := (mkF m 7 #[.val (.ref a1), .val (.ref a2)] [(.ref w_PUNCT), (.ref w_kind_a1)])) X2 hx rfl rfl rfl (pc0 := 7) (pc' := 10) (same := true) rfl (hb hby d11_7) rfl (decide_eq_true (congrArg Value.ref hc7_4)) (by decide) (by decide) ?_
      show Steps p.tables e below (T2.setTop (mkF m 10 #[.val (.ref a1), .val (.ref a2)] [])) _
      refine XS.aloadN X2.here hx rfl (hb hby d11_10) rfl rfl ?_
      show Steps p.tables e below (T2.setTop (mkF m 11 #[.val (.ref a1), .val (.ref a2)] [(.ref a1)])) _
      refine st5 _ ?_
      show Steps p.tables e below (T5.setTop (mkF m 14 #[.val (.ref a1), .val (.ref a2)] [(.ref w_text_a1)])) _
      refine XS.aloadN X5.here hx rfl (hb hby d11_14) rfl rfl ?_
      show Steps p.tables e below (T5.setTop (mkF m 15 #[.val (.ref a1), .val (.ref a2)] [(.ref a2), (.ref w_text_a1)])) _
      refine st6.trans ?_
      show Steps p.tables e below (T6.setTop (mkF m 18 #[.val (.ref a1), .val (.ref a2)] [(.int (0 : Int32))])) _
      refine XS.ifYes X6.here hx rfl (pc0 := 18) (pc' := 25) rfl (hb hby d11_18) rfl ((if0 _ _).trans (teq (by decide : (0 : Int32) = (0 : Int32))).1) (by decide) (by decide) ?_
      refine XS.iconst X6.here hx rfl (hb hby d11_25) ?_
      show Steps p.tables e below (T6.setTop (mkF m 26 #[.val (.ref a1), .val (.ref a2)] [(.int (0 : Int32))])) _
      exact retN X6 hx (t := .boolean) Bd.returns (by simp) (hb hby d11_26) hr
    · show Q_is_2_0 Z a1 a2 w_value_a2 kb w_text_a1 w_value_w_text_a1 ka x0 x1 w_kind_a1 w_PUNCT w_COMPACT_STRINGS h0 n0 _ T6.heap _
      rw [e6]
      exact ⟨by rw [res_is_2_0, if_pos hc7_4], rfl, rfl⟩
  · obtain ⟨fs, hr, hrun, hended, hW, hsame⟩ := X2.leave (v := some (.int (0 : Int32))) (fun h => by rw [Bd.returns] at h; cases h)
    refine ⟨_, _, pre3 _ ?_, hrun, hended, _, _, rfl, ?_, ⟨_, rfl⟩, hW, hsame.mono (by decide) (by decide)⟩
    · show Steps p.tables e below (T2.setTop (mkF m 7 #[.val (.ref a1), .val (.ref a2)] [(.ref w_PUNCT), (.ref w_kind_a1)])) _
      refine Jvm.RoadKit.acmp (g := (mkF m 7 #[.val (.ref a1), .val (.ref a2)] [(.ref w_PUNCT), (.ref w_kind_a1)])) X2 hx rfl rfl rfl (pc0 := 7) (pc' := 25) (same := false) rfl (hb hby d11_7) rfl (decide_eq_false fun q => hc7_4 (Value.ref.inj q)) (by decide) (by decide) ?_
      show Steps p.tables e below (T2.setTop (mkF m 25 #[.val (.ref a1), .val (.ref a2)] [])) _
      refine XS.iconst X2.here hx rfl (hb hby d11_25) ?_
      show Steps p.tables e below (T2.setTop (mkF m 26 #[.val (.ref a1), .val (.ref a2)] [(.int (0 : Int32))])) _
      exact retN X2 hx (t := .boolean) Bd.returns (by simp) (hb hby d11_26) hr
    · show Q_is_2_0 Z a1 a2 w_value_a2 kb w_text_a1 w_value_w_text_a1 ka x0 x1 w_kind_a1 w_PUNCT w_COMPACT_STRINGS h0 n0 _ T2.heap _
      rw [e2]
      exact ⟨by rw [res_is_2_0, if_neg hc7_4], rfl, rfl⟩
theorem ef_leq_2_1 (m : MethodId) (a1 : Addr) (a2 : Addr) : entryFrame m #[(.ref a1), (.ref a2)] 3 = (mkF m 0 #[.val (.ref a1), .val (.ref a2), .unset] []) := by first | (simp [entryFrame, mkF, argsToLocals, Value.category]; done) | rfl
def Q_leq_2_1 (Z : State) (a1 : Addr) (a2 : Addr) (ka : ClassId) (x0 : Int32) (x1 : Int32) (kb : ClassId) (y0 : Int32) (h0 : Heap) (n0 : Nat) (v : Option Value) (h : Heap) (L : List Loc) : Prop := v = some (.int (0 : Int32)) ∧ L = [] ∧ h = h0
set_option maxRecDepth 65536 in
set_option maxHeartbeats 40000000 in
theorem rm_leq_2_1 (l : Launch) (Z : State) (a0 : Array Value) (hw : ∀ d ∈ tables_1, d.before a0 Z = true) (ws : List Jvm.Cond) (a1 : Addr) (a2 : Addr) (ka : ClassId) (x0 : Int32) (x1 : Int32) (kb : ClassId) (y0 : Int32) (h0 : Heap) (n0 : Nat) (Z0 : n0 ≤ h0.size) (V_a1 : Arv Z h0 a1 ka .byte (2 : Int32) [(.int x0), (.int x1)] (.int (0 : Int32))) (V_a2 : Arv Z h0 a2 kb .byte (1 : Int32) [(.int y0)] (.int (0 : Int32))) :
    MetFree l (⟨"java/lang/StringLatin1", "equals", "([B[B)Z"⟩ : MethodName) (head1 (Jvm.Cond.code (⟨"java/lang/StringLatin1", "equals", "([B[B)Z"⟩ : MethodName) jdk_43_method_13_code 3 (some .boolean) :: ws) ({ frames := 0, cells := 0, slots := 0, locals := 0 } : Room)) (fun a U => a = #[(.ref a1), (.ref a2)] ∧ Z.Warmed39 U.vm ∧ U.heap = h0) (fun _ _ _ _ _ => True) (fun _ U o U' => ∃ v L, o = .returned v ∧ Q_leq_2_1 Z a1 a2 ka x0 x1 kb y0 h0 n0 v U'.heap L ∧ FrameEnd U o U' L ({ frames := 0, cells := 0, slots := 0, locals := 0 } : Room).cells ({ frames := 0, cells := 0, slots := 0, locals := 0 } : Room).slots) := by
  refine MetFree.of_bodySF (plainFor_of_name pn5) hisR ?_
  intro p e s m args below meth c s₁ Bd hml0 hP hK
  obtain ⟨rfl, hZ, hh⟩ := hP
  have hx := Bd.exec
  have hby := Bd.bytes
  have hml : c.maxLocals = 3 := hml0
  have hown : s.vm.findClass "java/lang/StringLatin1" = some m.cls := findClass_of_methodNamed Bd.named
  have hnm := (name_of_methodNamed Bd.named Bd.method).1
  have X0 : Stand p l e ({ frames := 0, cells := 0, slots := 0, locals := 0 } : Room) s m #[(.ref a1), (.ref a2)] below meth c s₁ [] 0 0 := Stand.of_body Bd
  have e0 : s₁.heap = h0 := by rw [← hh, Bd.state]; rfl
  have N0 := Fr.nil n0
  have pre0 : ∀ t, Steps p.tables e below (s₁.setTop (mkF m 0 #[.val (.ref a1), .val (.ref a2), .unset] [])) t → Steps p.tables e below (s₁.setTop (entryFrame m #[(.ref a1), (.ref a2)] 3)) t := fun t k => castTop (ef_leq_2_1 m a1 a2) k
  obtain ⟨cl_a1_1_1, Ar_a1_1_1, -, S_a1_1_1, N_a1_1_1, -, -⟩ := id V_a1
  obtain ⟨cl_a2_3_2, Ar_a2_3_2, -, S_a2_3_2, N_a2_3_2, -, -⟩ := id V_a2
  obtain ⟨fs, hr, hrun, hended, hW, hsame⟩ := X0.leave (v := some (.int (0 : Int32))) (fun h => by rw [Bd.returns] at h; cases h)
  refine ⟨_, _, pre0 _ ?_, hrun, hended, _, _, rfl, ?_, ⟨_, rfl⟩, hW, hsame.mono (by decide) (by decide)⟩
  · show Steps p.tables e below (s₁.setTop (mkF m 0 #[.val (.ref a1), .val (.ref a2), .unset] [])) _
    refine XS.aloadN X0.here hx rfl (hb hby d13_0) rfl rfl ?_
    refine X0.arraylength hx (by rw [e0]; exact Ar_a1_1_1.1) (State.isArrayOf_alike hZ.alike Ar_a1_1_1.2.1) (g := (mkF m 1 #[.val (.ref a1), .val (.ref a2), .unset] [(.ref a1)])) rfl rfl (hb hby d13_1) _ ?_
    rw [len_of S_a1_1_1 N_a1_1_1]
    show Steps p.tables e below (s₁.setTop (mkF m 2 #[.val (.ref a1), .val (.ref a2), .unset] [(.int (2 : Int32))])) _
    refine XS.aloadN X0.here hx rfl (hb hby d13_2) rfl rfl ?_
    show Steps p.tables e below (s₁.setTop (mkF m 3 #[.val (.ref a1), .val (.ref a2), .unset] [(.ref a2), (.int (2 : Int32))])) _
    refine X0.arraylength hx (by rw [e0]; exact Ar_a2_3_2.1) (State.isArrayOf_alike hZ.alike Ar_a2_3_2.2.1) (g := (mkF m 3 #[.val (.ref a1), .val (.ref a2), .unset] [(.ref a2), (.int (2 : Int32))])) rfl rfl (hb hby d13_3) _ ?_
    rw [len_of S_a2_3_2 N_a2_3_2]
    show Steps p.tables e below (s₁.setTop (mkF m 4 #[.val (.ref a1), .val (.ref a2), .unset] [(.int (1 : Int32)), (.int (2 : Int32))])) _
    refine XS.icmpYes X0.here hx rfl (pc0 := 4) (pc' := 34) rfl (hb hby d13_4) rfl (feq (by decide : ¬ ((2 : Int32) = (1 : Int32)))).2 (by decide) (by decide) ?_
    refine XS.iconst X0.here hx rfl (hb hby d13_34) ?_
    show Steps p.tables e below (s₁.setTop (mkF m 35 #[.val (.ref a1), .val (.ref a2), .unset] [(.int (0 : Int32))])) _
    exact retN X0 hx (t := .boolean) Bd.returns (by simp) (hb hby d13_35) hr
  · show Q_leq_2_1 Z a1 a2 ka x0 x1 kb y0 h0 n0 _ s₁.heap _
    rw [e0]
    exact ⟨rfl, rfl, rfl⟩
theorem ef_eq_2_1 (m : MethodId) (a1 : Addr) (a2 : Addr) : entryFrame m #[(.ref a1), (.ref a2)] 3 = (mkF m 0 #[.val (.ref a1), .val (.ref a2), .unset] []) := by first | (simp [entryFrame, mkF, argsToLocals, Value.category]; done) | rfl
def Q_eq_2_1 (Z : State) (a1 : Addr) (a2 : Addr) (w_value_a1 : Addr) (ka : ClassId) (x0 : Int32) (x1 : Int32) (w_value_a2 : Addr) (kb : ClassId) (y0 : Int32) (w_COMPACT_STRINGS : Int32) (h0 : Heap) (n0 : Nat) (v : Option Value) (h : Heap) (L : List Loc) : Prop := v = some (.int (0 : Int32)) ∧ L = [] ∧ h = h0
set_option maxRecDepth 65536 in
set_option maxHeartbeats 40000000 in
theorem rm_eq_2_1 (l : Launch) (Z : State) (a0 : Array Value) (hw : ∀ d ∈ tables_1, d.before a0 Z = true) (ws : List Jvm.Cond) (a1 : Addr) (a2 : Addr) (w_value_a1 : Addr) (ka : ClassId) (x0 : Int32) (x1 : Int32) (w_value_a2 : Addr) (kb : ClassId) (y0 : Int32) (w_COMPACT_STRINGS : Int32) (h0 : Heap) (n0 : Nat) (Z0 : n0 ≤ h0.size) (E_a1 : Exa Z h0 a1 "java/lang/String") (F_coder_a1 : Fld Z h0 a1 "java/lang/String" "coder" "B" (.int (0 : Int32))) (F_value_a1 : Fld Z h0 a1 "java/lang/String" "value" "[B" (.ref w_value_a1)) (V_w_value_a1 : Arv Z h0 w_value_a1 ka .byte (2 : Int32) [(.int x0), (.int x1)] (.int (0 : Int32))) (E_a2 : Exa Z h0 a2 "java/lang/String") (F_coder_a2 : Fld Z h0 a2 "java/lang/String" "coder" "B" (.int (0 : Int32))) (F_value_a2 : Fld Z h0 a2 "java/lang/String" "value" "[B" (.ref w_value_a2)) (V_w_value_a2 : Arv Z h0 w_value_a2 kb .byte (1 : Int32) [(.int y0)] (.int (0 : Int32))) (S_COMPACT_STRINGS : Sta Z h0 "java/lang/String" "COMPACT_STRINGS" "Z" (.int w_COMPACT_STRINGS)) (hne_12 : a1 ≠ a2) (hCS : ¬ (w_COMPACT_STRINGS = (0 : Int32))) :
    MetFree l (⟨"java/lang/String", "equals", "(Ljava/lang/Object;)Z"⟩ : MethodName) (head1 (Jvm.Cond.code (⟨"java/lang/String", "equals", "(Ljava/lang/Object;)Z"⟩ : MethodName) jdk_42_method_66_code 3 (some .boolean) :: ws) ({ frames := 1, cells := 0, slots := 0, locals := 14 } : Room)) (fun a U => a = #[(.ref a1), (.ref a2)] ∧ Z.Warmed39 U.vm ∧ U.heap = h0) (fun _ _ _ _ _ => True) (fun _ U o U' => ∃ v L, o = .returned v ∧ Q_eq_2_1 Z a1 a2 w_value_a1 ka x0 x1 w_value_a2 kb y0 w_COMPACT_STRINGS h0 n0 v U'.heap L ∧ FrameEnd U o U' L ({ frames := 1, cells := 0, slots := 0, locals := 14 } : Room).cells ({ frames := 1, cells := 0, slots := 0, locals := 14 } : Room).slots) := by
  refine MetFree.of_bodySF (plainFor_of_name pn0) hisR ?_
  intro p e s m args below meth c s₁ Bd hml0 hP hK
  obtain ⟨rfl, hZ, hh⟩ := hP
  have hx := Bd.exec
  have hby := Bd.bytes
  have hml : c.maxLocals = 3 := hml0
  have hown : s.vm.findClass "java/lang/String" = some m.cls := findClass_of_methodNamed Bd.named
  have hnm := (name_of_methodNamed Bd.named Bd.method).1
  have X0 : Stand p l e ({ frames := 1, cells := 0, slots := 0, locals := 14 } : Room) s m #[(.ref a1), (.ref a2)] below meth c s₁ [] 0 0 := Stand.of_body Bd
  have e0 : s₁.heap = h0 := by rw [← hh, Bd.state]; rfl
  have N0 := Fr.nil n0
  have pre0 : ∀ t, Steps p.tables e below (s₁.setTop (mkF m 0 #[.val (.ref a1), .val (.ref a2), .unset] [])) t → Steps p.tables e below (s₁.setTop (entryFrame m #[(.ref a1), (.ref a2)] 3)) t := fun t k => castTop (ef_eq_2_1 m a1 a2) k
  obtain ⟨T1, X1, e1, st1⟩ := instY X0 hx hZ hown (hw _ (List.mem_of_getElem? (i := 91) rfl)) e0 (Ins.self E_a2) (g := (mkF m 8 #[.val (.ref a1), .val (.ref a2), .unset] [(.ref a2)])) rfl rfl (hb hby d12_8)
  obtain ⟨T2, X2, e2, st2⟩ := castY X1 hx hZ hown (hw _ (List.mem_of_getElem? (i := 91) rfl)) e1 (Ins.self E_a2) (g := (mkF m 15 #[.val (.ref a1), .val (.ref a2), .unset] [(.ref a2)])) rfl rfl (hb hby d12_15)
  obtain ⟨T3, X3, e3, st3⟩ := getS2 X2 hx hZ hown (host := "") (Or.inl (hw _ (List.mem_of_getElem? (i := 19) rfl))) Via.refl e2 S_COMPACT_STRINGS (g := (mkF m 19 #[.val (.ref a1), .val (.ref a2), .val (.ref a2)] [])) rfl (hb hby d12_19)
  obtain ⟨T4, X4, e4, st4⟩ := getF X3 hx hZ hown (host := "") (Or.inl (hw _ (List.mem_of_getElem? (i := 31) rfl))) Via.refl e3 F_coder_a1 (g := (mkF m 26 #[.val (.ref a1), .val (.ref a2), .val (.ref a2)] [(.ref a1)])) rfl rfl (hb hby d12_26)
  obtain ⟨T5, X5, e5, st5⟩ := getF X4 hx hZ hown (host := "") (Or.inl (hw _ (List.mem_of_getElem? (i := 31) rfl))) Via.refl e4 F_coder_a2 (g := (mkF m 30 #[.val (.ref a1), .val (.ref a2), .val (.ref a2)] [(.ref a2), (.int (0 : Int32))])) rfl rfl (hb hby d12_30)
  obtain ⟨T6, X6, e6, st6⟩ := getF X5 hx hZ hown (host := "") (Or.inl (hw _ (List.mem_of_getElem? (i := 33) rfl))) Via.refl e5 F_value_a1 (g := (mkF m 37 #[.val (.ref a1), .val (.ref a2), .val (.ref a2)] [(.ref a1)])) rfl rfl (hb hby d12_37)
  obtain ⟨T7, X7, e7, st7⟩ := getF X6 hx hZ hown (host := "") (Or.inl (hw _ (List.mem_of_getElem? (i := 33) rfl))) Via.refl e6 F_value_a2 (g := (mkF m 41 #[.val (.ref a1), .val (.ref a2), .val (.ref a2)] [(.ref a2), (.ref w_value_a1)])) rfl rfl (hb hby d12_41)
  obtain ⟨_, _, ⟨T8, L8, k8, n8⟩, -, X8, ⟨Lc8, hQ8, l8, y8, z8⟩, st8⟩ := Jvm.LawKit.callS X7 hx (y := (⟨"java/lang/StringLatin1", "equals", "([B[B)Z"⟩ : MethodName)) hown (mvT hZ (hw _ (List.mem_of_getElem? (i := 92) rfl))) (mvT hZ (hw _ (List.mem_of_getElem? (i := 93) rfl))) (mvT hZ (hw _ (List.mem_of_getElem? (i := 94) rfl))) (mvT hZ (hw _ (List.mem_of_getElem? (i := 95) rfl))) (by decide) (backOf (W := 0) (rm_leq_2_1 l Z a0 hw [] w_value_a1 w_value_a2 ka x0 x1 kb y0 h0 n0 (Nat.le_trans Z0 (Keep.refl h0 []).1) V_w_value_a1 V_w_value_a2 ) hZ (hw _ (List.mem_of_getElem? (i := 95) rfl)) (hw _ (List.mem_of_getElem? (i := 94) rfl)) (by decide) (by decide)) (g := (mkF m 44 #[.val (.ref a1), .val (.ref a2), .val (.ref a2)] [(.ref w_value_a2), (.ref w_value_a1)])) rfl (by rw [hml]; rfl) (argsL := [(.ref w_value_a1), (.ref w_value_a2)]) (rest := []) (lenOf pd6 rfl) rfl (by show 2 * 0 + _ ≤ _; exact Nat.le_of_eq rfl) (hb hby d12_44) (fun _ _ => ⟨rfl, e7, (by decide : 0 + 0 ≤ _), (by decide : 0 + 0 ≤ _)⟩)
  dsimp only [Pt.U, Pt.locs, Pt.cells, Pt.slots] at X8 l8 y8 z8 st8 hQ8
  subst l8 y8 z8
  obtain ⟨rfl, rfl, e8⟩ := hQ8
  have N8 := Fr.app N0 (Fr.nil n0)
  obtain ⟨fs, hr, hrun, hended, hW, hsame⟩ := X8.leave (v := some (.int (0 : Int32))) (fun h => by rw [Bd.returns] at h; cases h)
  refine ⟨_, _, pre0 _ ?_, hrun, hended, _, _, rfl, ?_, ⟨_, rfl⟩, hW, hsame.mono (by decide) (by decide)⟩
  · show Steps p.tables e below (s₁.setTop (mkF m 0 #[.val (.ref a1), .val (.ref a2), .unset] [])) _
    refine XS.aloadN X0.here hx rfl (hb hby d12_0) rfl rfl ?_
    refine XS.aloadN X0.here hx rfl (hb hby d12_1) rfl rfl ?_
    refine Jvm.RoadKit.acmp (g := (mkF m 2 #[.val (.ref a1), .val (.ref a2), .unset] [(.ref a2), (.ref a1)])) X0 hx rfl rfl rfl (pc0 := 2) (pc' := 7) (same := false) rfl (hb hby d12_2) rfl (decide_eq_false fun q => hne_12 (Value.ref.inj q)) (by decide) (by decide) ?_
    show Steps p.tables e below (s₁.setTop (mkF m 7 #[.val (.ref a1), .val (.ref a2), .unset] [])) _
    refine XS.aloadN X0.here hx rfl (hb hby d12_7) rfl rfl ?_
    show Steps p.tables e below (s₁.setTop (mkF m 8 #[.val (.ref a1), .val (.ref a2), .unset] [(.ref a2)])) _
    refine st1 _ ?_
    show Steps p.tables e below (T1.setTop (mkF m 11 #[.val (.ref a1), .val (.ref a2), .unset] [(.int (1 : Int32))])) _
    refine XS.ifNo X1.here hx rfl (hb hby d12_11) rfl ((if0 _ _).trans (feq (by decide : ¬ ((1 : Int32) = (0 : Int32)))).1) ?_
    refine XS.aloadN X1.here hx rfl (hb hby d12_14) rfl rfl ?_
    show Steps p.tables e below (T1.setTop (mkF m 15 #[.val (.ref a1), .val (.ref a2), .unset] [(.ref a2)])) _
    refine st2 _ ?_
    show Steps p.tables e below (T2.setTop (mkF m 18 #[.val (.ref a1), .val (.ref a2), .unset] [(.ref a2)])) _
    refine XS.astoreN X2.here hx rfl (hb hby d12_18) rfl rfl (l' := #[.val (.ref a1), .val (.ref a2), .val (.ref a2)]) rfl ?_
    show Steps p.tables e below (T2.setTop (mkF m 19 #[.val (.ref a1), .val (.ref a2), .val (.ref a2)] [])) _
    refine st3 _ ?_
    show Steps p.tables e below (T3.setTop (mkF m 22 #[.val (.ref a1), .val (.ref a2), .val (.ref a2)] [(.int w_COMPACT_STRINGS)])) _
    refine XS.ifNo X3.here hx rfl (hb hby d12_22) rfl ((if0 _ _).trans (feq (hCS : ¬ (w_COMPACT_STRINGS = (0 : Int32)))).1) ?_
    refine XS.aloadN X3.here hx rfl (hb hby d12_25) rfl rfl ?_
    show Steps p.tables e below (T3.setTop (mkF m 26 #[.val (.ref a1), .val (.ref a2), .val (.ref a2)] [(.ref a1)])) _
    refine st4 _ ?_
    show Steps p.tables e below (T4.setTop (mkF m 29 #[.val (.ref a1), .val (.ref a2), .val (.ref a2)] [(.int (0 : Int32))])) _
    refine XS.aloadN X4.here hx rfl (hb hby d12_29) rfl rfl ?_
    show Steps p.tables e below (T4.setTop (mkF m 30 #[.val (.ref a1), .val (.ref a2), .val (.ref a2)] [(.ref a2), (.int (0 : Int32))])) _
    refine st5 _ ?_
    show Steps p.tables e below (T5.setTop (mkF m 33 #[.val (.ref a1), .val (.ref a2), .val (.ref a2)] [(.int (0 : Int32)), (.int (0 : Int32))])) _
    refine XS.icmpNo X5.here hx rfl (hb hby d12_33) rfl (teq (by decide : (0 : Int32) = (0 : Int32))).2 ?_
    refine XS.aloadN X5.here hx rfl (hb hby d12_36) rfl rfl ?_
    show Steps p.tables e below (T5.setTop (mkF m 37 #[.val (.ref a1), .val (.ref a2), .val (.ref a2)] [(.ref a1)])) _
    refine st6 _ ?_
    show Steps p.tables e below (T6.setTop (mkF m 40 #[.val (.ref a1), .val (.ref a2), .val (.ref a2)] [(.ref w_value_a1)])) _
    refine XS.aloadN X6.here hx rfl (hb hby d12_40) rfl rfl ?_
    show Steps p.tables e below (T6.setTop (mkF m 41 #[.val (.ref a1), .val (.ref a2), .val (.ref a2)] [(.ref a2), (.ref w_value_a1)])) _
    refine st7 _ ?_
    show Steps p.tables e below (T7.setTop (mkF m 44 #[.val (.ref a1), .val (.ref a2), .val (.ref a2)] [(.ref w_value_a2), (.ref w_value_a1)])) _
    refine st8 _ ?_
    show Steps p.tables e below (T8.setTop (mkF m 47 #[.val (.ref a1), .val (.ref a2), .val (.ref a2)] [(.int (0 : Int32))])) _
    refine XS.ifYes X8.here hx rfl (pc0 := 47) (pc' := 54) rfl (hb hby d12_47) rfl ((if0 _ _).trans (teq (by decide : (0 : Int32) = (0 : Int32))).1) (by decide) (by decide) ?_
    refine XS.iconst X8.here hx rfl (hb hby d12_54) ?_
    show Steps p.tables e below (T8.setTop (mkF m 55 #[.val (.ref a1), .val (.ref a2), .val (.ref a2)] [(.int (0 : Int32))])) _
    exact retN X8 hx (t := .boolean) Bd.returns (by simp) (hb hby d12_55) hr
  · show Q_eq_2_1 Z a1 a2 w_value_a1 ka x0 x1 w_value_a2 kb y0 w_COMPACT_STRINGS h0 n0 _ T8.heap _
    rw [e8]
    exact ⟨rfl, rfl, rfl⟩
def res_is_2_1 (w_kind_a1 : Addr) (w_PUNCT : Addr) : Int32 := if w_kind_a1 = w_PUNCT then (0 : Int32) else (0 : Int32)
theorem ef_is_2_1 (m : MethodId) (a1 : Addr) (a2 : Addr) : entryFrame m #[(.ref a1), (.ref a2)] 2 = (mkF m 0 #[.val (.ref a1), .val (.ref a2)] []) := by first | (simp [entryFrame, mkF, argsToLocals, Value.category]; done) | rfl
def Q_is_2_1 (Z : State) (a1 : Addr) (a2 : Addr) (w_value_a2 : Addr) (kb : ClassId) (y0 : Int32) (w_text_a1 : Addr) (w_value_w_text_a1 : Addr) (ka : ClassId) (x0 : Int32) (x1 : Int32) (w_kind_a1 : Addr) (w_PUNCT : Addr) (w_COMPACT_STRINGS : Int32) (h0 : Heap) (n0 : Nat) (v : Option Value) (h : Heap) (L : List Loc) : Prop := v = some (.int (res_is_2_1 w_kind_a1 w_PUNCT)) ∧ L = [] ∧ h = h0
set_option maxRecDepth 65536 in
set_option maxHeartbeats 40000000 in
theorem rm_is_2_1 (l : Launch) (Z : State) (a0 : Array Value) (hw : ∀ d ∈ tables_1, d.before a0 Z = true) (ws : List Jvm.Cond) (a1 : Addr) (a2 : Addr) (w_value_a2 : Addr) (kb : ClassId) (y0 : Int32) (w_text_a1 : Addr) (w_value_w_text_a1 : Addr) (ka : ClassId) (x0 : Int32) (x1 : Int32) (w_kind_a1 : Addr) (w_PUNCT : Addr) (w_COMPACT_STRINGS : Int32) (h0 : Heap) (n0 : Nat) (Z0 : n0 ≤ h0.size) (E_a2 : Exa Z h0 a2 "java/lang/String") (F_coder_a2 : Fld Z h0 a2 "java/lang/String" "coder" "B" (.int (0 : Int32))) (F_value_a2 : Fld Z h0 a2 "java/lang/String" "value" "[B" (.ref w_value_a2)) (V_w_value_a2 : Arv Z h0 w_value_a2 kb .byte (1 : Int32) [(.int y0)] (.int (0 : Int32))) (F_text_a1 : Fld Z h0 a1 "com/example/cantrip/cantrip/Token" "text" "Ljava/lang/String;" (.ref w_text_a1)) (E_w_text_a1 : Exa Z h0 w_text_a1 "java/lang/String") (F_coder_w_text_a1 : Fld Z h0 w_text_a1 "java/lang/String" "coder" "B" (.int (0 : Int32))) (F_value_w_text_a1 : Fld Z h0 w_text_a1 "java/lang/String" "value" "[B" (.ref w_value_w_text_a1)) (V_w_value_w_text_a1 : Arv Z h0 w_value_w_text_a1 ka .byte (2 : Int32) [(.int x0), (.int x1)] (.int (0 : Int32))) (F_kind_a1 : Fld Z h0 a1 "com/example/cantrip/cantrip/Token" "kind" "Lcom/example/cantrip/cantrip/Token$Kind;" (.ref w_kind_a1)) (S_PUNCT : Sta Z h0 "com/example/cantrip/cantrip/Token$Kind" "PUNCT" "Lcom/example/cantrip/cantrip/Token$Kind;" (.ref w_PUNCT)) (S_COMPACT_STRINGS : Sta Z h0 "java/lang/String" "COMPACT_STRINGS" "Z" (.int w_COMPACT_STRINGS)) (hne_t : w_text_a1 ≠ a2) (hCS : ¬ (w_COMPACT_STRINGS = (0 : Int32))) :
    MetFree l (⟨"com/example/cantrip/cantrip/Token", "is", "(Ljava/lang/String;)Z"⟩ : MethodName) (head1 (Jvm.Cond.code (⟨"com/example/cantrip/cantrip/Token", "is", "(Ljava/lang/String;)Z"⟩ : MethodName) prog_3_method_2_code 2 (some .boolean) :: ws) ({ frames := 2, cells := 0, slots := 0, locals := 28 } : Room)) (fun a U => a = #[(.ref a1), (.ref a2)] ∧ Z.Warmed39 U.vm ∧ U.heap = h0) (fun _ _ _ _ _ => True) (fun _ U o U' => ∃ v L, o = .returned v ∧ Q_is_2_1 Z a1 a2 w_value_a2 kb y0 w_text_a1 w_value_w_text_a1 ka x0 x1 w_kind_a1 w_PUNCT w_COMPACT_STRINGS h0 n0 v U'.heap L ∧ FrameEnd U o U' L ({ frames := 2, cells := 0, slots := 0, locals := 28 } : Room).cells ({ frames := 2, cells := 0, slots := 0, locals := 28 } : Room).slots) := by
  refine MetFree.of_bodySF (plainFor_of_name pn4) hisR ?_
  intro p e s m args below meth c s₁ Bd hml0 hP hK
  obtain ⟨rfl, hZ, hh⟩ := hP
  have hx := Bd.exec
  have hby := Bd.bytes
  have hml : c.maxLocals = 2 := hml0
  have hown : s.vm.findClass "com/example/cantrip/cantrip/Token" = some m.cls := findClass_of_methodNamed Bd.named
  have hnm := (name_of_methodNamed Bd.named Bd.method).1
  have X0 : Stand p l e ({ frames := 2, cells := 0, slots := 0, locals := 28 } : Room) s m #[(.ref a1), (.ref a2)] below meth c s₁ [] 0 0 := Stand.of_body Bd
  have e0 : s₁.heap = h0 := by rw [← hh, Bd.state]; rfl
  have N0 := Fr.nil n0
  have pre0 : ∀ t, Steps p.tables e below (s₁.setTop (mkF m 0 #[.val (.ref a1), .val (.ref a2)] [])) t → Steps p.tables e below (s₁.setTop (entryFrame m #[(.ref a1), (.ref a2)] 2)) t := fun t k => castTop (ef_is_2_1 m a1 a2) k
  obtain ⟨T1, X1, e1, st1⟩ := getF X0 hx hZ hown (host := "") (Or.inl (hw _ (List.mem_of_getElem? (i := 56) rfl))) Via.refl e0 F_kind_a1 (g := (mkF m 1 #[.val (.ref a1), .val (.ref a2)] [(.ref a1)])) rfl rfl (hb hby d11_1)
  obtain ⟨T2, X2, e2, st2⟩ := getS2 X1 hx hZ hown (host := "") (Or.inl (hw _ (List.mem_of_getElem? (i := 67) rfl))) Via.refl e1 S_PUNCT (g := (mkF m 4 #[.val (.ref a1), .val (.ref a2)] [(.ref w_kind_a1)])) rfl (hb hby d11_4)
  have pre3 : ∀ t, Steps p.tables e below (T2.setTop (mkF m 7 #[.val (.ref a1), .val (.ref a2)] [(.ref w_PUNCT), (.ref w_kind_a1)])) t → Steps p.tables e below (s₁.setTop (entryFrame m #[(.ref a1), (.ref a2)] 2)) t := by
    intro t kt
    refine pre0 _ ?_
    show Steps p.tables e below (s₁.setTop (mkF m 0 #[.val (.ref a1), .val (.ref a2)] [])) _
    refine XS.aloadN X0.here hx rfl (hb hby d11_0) rfl rfl ?_
    show Steps p.tables e below (s₁.setTop (mkF m 1 #[.val (.ref a1), .val (.ref a2)] [(.ref a1)])) _
    refine st1 _ ?_
    show Steps p.tables e below (T1.setTop (mkF m 4 #[.val (.ref a1), .val (.ref a2)] [(.ref w_kind_a1)])) _
    refine st2 _ ?_
    exact kt
  by_cases hc7_4 : w_kind_a1 = w_PUNCT
  · obtain ⟨T5, X5, e5, st5⟩ := getF X2 hx hZ hown (host := "") (Or.inl (hw _ (List.mem_of_getElem? (i := 58) rfl))) Via.refl e2 F_text_a1 (g := (mkF m 11 #[.val (.ref a1), .val (.ref a2)] [(.ref a1)])) rfl rfl (hb hby d11_11)
    obtain ⟨cq6, kq6, q6a, q6b, q6c⟩ := isOf hZ e5 E_w_text_a1
    obtain ⟨_, _, ⟨T6, L6, k6, n6⟩, -, X6, ⟨Lc6, hQ6, l6, y6, z6⟩, st6⟩ := X5.virtualBack hx (y := (⟨"java/lang/String", "equals", "(Ljava/lang/Object;)Z"⟩ : MethodName)) (z := (⟨"java/lang/String", "equals", "(Ljava/lang/Object;)Z"⟩ : MethodName)) hown (mvT hZ (hw _ (List.mem_of_getElem? (i := 86) rfl))) (mvT hZ (hw _ (List.mem_of_getElem? (i := 87) rfl))) (notFace_of_selects (args := #[]) (mvT hZ (hw _ (List.mem_of_getElem? (i := 89) rfl)))) (mvT hZ (hw _ (List.mem_of_getElem? (i := 89) rfl))) (mvT hZ (hw _ (List.mem_of_getElem? (i := 88) rfl))) (by decide) (backOf (W := 0) (rm_eq_2_1 l Z a0 hw [] w_text_a1 a2 w_value_w_text_a1 ka x0 x1 w_value_a2 kb y0 w_COMPACT_STRINGS h0 n0 (Nat.le_trans Z0 (Keep.refl h0 []).1) E_w_text_a1 F_coder_w_text_a1 F_value_w_text_a1 V_w_value_w_text_a1 E_a2 F_coder_a2 F_value_a2 V_w_value_a2 S_COMPACT_STRINGS (hne_t : w_text_a1 ≠ a2) (hCS : ¬ (w_COMPACT_STRINGS = (0 : Int32)))) hZ (hw _ (List.mem_of_getElem? (i := 90) rfl)) (hw _ (List.mem_of_getElem? (i := 7) rfl)) (by decide) (by decide)) q6a q6c (g := (mkF m 15 #[.val (.ref a1), .val (.ref a2)] [(.ref a2), (.ref w_text_a1)])) rfl (by rw [hml]; rfl) (Steps.refl _) (argsL := [(.ref a2)]) (rest := []) (lenOf pd7 rfl) rfl (by show 2 * 0 + _ ≤ _; exact Nat.le_of_eq rfl) (hb hby d11_15) (fun _ _ => ⟨rfl, e5, (by decide : 0 + 0 ≤ _), (by decide : 0 + 0 ≤ _)⟩)
    dsimp only [Pt.U, Pt.locs, Pt.cells, Pt.slots] at X6 l6 y6 z6 st6 hQ6
    subst l6 y6 z6
    obtain ⟨rfl, rfl, e6⟩ := hQ6
    have N6 := Fr.app N0 (Fr.nil n0)
    obtain ⟨fs, hr, hrun, hended, hW, hsame⟩ := X6.leave (v := some (.int (0 : Int32))) (fun h => by rw [Bd.returns] at h; cases h)
    refine ⟨_, _, pre3 _ ?_, hrun, hended, _, _, rfl, ?_, ⟨_, rfl⟩, hW, hsame.mono (by decide) (by decide)⟩
    · show Steps p.tables e below (T2.setTop (mkF m 7 #[.val (.ref a1), .val (.ref a2)] [(.ref w_PUNCT), (.ref w_kind_a1)])) _
      refine Jvm.RoadKit.acmp (g := (mkF m 7 #[.val (.ref a1), .val (.ref a2)] [(.ref w_PUNCT), (.ref w_kind_a1)])) X2 hx rfl rfl rfl (pc0 := 7) (pc' := 10) (same := true) rfl (hb hby d11_7) rfl (decide_eq_true (congrArg Value.ref hc7_4)) (by decide) (by decide) ?_
      show Steps p.tables e below (T2.setTop (mkF m 10 #[.val (.ref a1), .val (.ref a2)] [])) _
      refine XS.aloadN X2.here hx rfl (hb hby d11_10) rfl rfl ?_
      show Steps p.tables e below (T2.setTop (mkF m 11 #[.val (.ref a1), .val (.ref a2)] [(.ref a1)])) _
      refine st5 _ ?_
      show Steps p.tables e below (T5.setTop (mkF m 14 #[.val (.ref a1), .val (.ref a2)] [(.ref w_text_a1)])) _
      refine XS.aloadN X5.here hx rfl (hb hby d11_14) rfl rfl ?_
      show Steps p.tables e below (T5.setTop (mkF m 15 #[.val (.ref a1), .val (.ref a2)] [(.ref a2), (.ref w_text_a1)])) _
      refine st6.trans ?_
      show Steps p.tables e below (T6.setTop (mkF m 18 #[.val (.ref a1), .val (.ref a2)] [(.int (0 : Int32))])) _
      refine XS.ifYes X6.here hx rfl (pc0 := 18) (pc' := 25) rfl (hb hby d11_18) rfl ((if0 _ _).trans (teq (by decide : (0 : Int32) = (0 : Int32))).1) (by decide) (by decide) ?_
      refine XS.iconst X6.here hx rfl (hb hby d11_25) ?_
      show Steps p.tables e below (T6.setTop (mkF m 26 #[.val (.ref a1), .val (.ref a2)] [(.int (0 : Int32))])) _
      exact retN X6 hx (t := .boolean) Bd.returns (by simp) (hb hby d11_26) hr
    · show Q_is_2_1 Z a1 a2 w_value_a2 kb y0 w_text_a1 w_value_w_text_a1 ka x0 x1 w_kind_a1 w_PUNCT w_COMPACT_STRINGS h0 n0 _ T6.heap _
      rw [e6]
      exact ⟨by rw [res_is_2_1, if_pos hc7_4], rfl, rfl⟩
  · obtain ⟨fs, hr, hrun, hended, hW, hsame⟩ := X2.leave (v := some (.int (0 : Int32))) (fun h => by rw [Bd.returns] at h; cases h)
    refine ⟨_, _, pre3 _ ?_, hrun, hended, _, _, rfl, ?_, ⟨_, rfl⟩, hW, hsame.mono (by decide) (by decide)⟩
    · show Steps p.tables e below (T2.setTop (mkF m 7 #[.val (.ref a1), .val (.ref a2)] [(.ref w_PUNCT), (.ref w_kind_a1)])) _
      refine Jvm.RoadKit.acmp (g := (mkF m 7 #[.val (.ref a1), .val (.ref a2)] [(.ref w_PUNCT), (.ref w_kind_a1)])) X2 hx rfl rfl rfl (pc0 := 7) (pc' := 25) (same := false) rfl (hb hby d11_7) rfl (decide_eq_false fun q => hc7_4 (Value.ref.inj q)) (by decide) (by decide) ?_
      show Steps p.tables e below (T2.setTop (mkF m 25 #[.val (.ref a1), .val (.ref a2)] [])) _
      refine XS.iconst X2.here hx rfl (hb hby d11_25) ?_
      show Steps p.tables e below (T2.setTop (mkF m 26 #[.val (.ref a1), .val (.ref a2)] [(.int (0 : Int32))])) _
      exact retN X2 hx (t := .boolean) Bd.returns (by simp) (hb hby d11_26) hr
    · show Q_is_2_1 Z a1 a2 w_value_a2 kb y0 w_text_a1 w_value_w_text_a1 ka x0 x1 w_kind_a1 w_PUNCT w_COMPACT_STRINGS h0 n0 _ T2.heap _
      rw [e2]
      exact ⟨by rw [res_is_2_1, if_neg hc7_4], rfl, rfl⟩
def res_leq_2_2 (x0 : Int32) (x1 : Int32) (y0 : Int32) (y1 : Int32) : Int32 := if x0 = y0 then (if x1 = y1 then (1 : Int32) else (0 : Int32)) else (0 : Int32)
theorem ef_leq_2_2 (m : MethodId) (a1 : Addr) (a2 : Addr) : entryFrame m #[(.ref a1), (.ref a2)] 3 = (mkF m 0 #[.val (.ref a1), .val (.ref a2), .unset] []) := by first | (simp [entryFrame, mkF, argsToLocals, Value.category]; done) | rfl
def Q_leq_2_2 (Z : State) (a1 : Addr) (a2 : Addr) (ka : ClassId) (x0 : Int32) (x1 : Int32) (kb : ClassId) (y0 : Int32) (y1 : Int32) (h0 : Heap) (n0 : Nat) (v : Option Value) (h : Heap) (L : List Loc) : Prop := v = some (.int (res_leq_2_2 x0 x1 y0 y1)) ∧ L = [] ∧ h = h0
set_option maxRecDepth 65536 in
set_option maxHeartbeats 40000000 in
theorem rm_leq_2_2 (l : Launch) (Z : State) (a0 : Array Value) (hw : ∀ d ∈ tables_1, d.before a0 Z = true) (ws : List Jvm.Cond) (a1 : Addr) (a2 : Addr) (ka : ClassId) (x0 : Int32) (x1 : Int32) (kb : ClassId) (y0 : Int32) (y1 : Int32) (h0 : Heap) (n0 : Nat) (Z0 : n0 ≤ h0.size) (V_a1 : Arv Z h0 a1 ka .byte (2 : Int32) [(.int x0), (.int x1)] (.int (0 : Int32))) (V_a2 : Arv Z h0 a2 kb .byte (2 : Int32) [(.int y0), (.int y1)] (.int (0 : Int32))) :
    MetFree l (⟨"java/lang/StringLatin1", "equals", "([B[B)Z"⟩ : MethodName) (head1 (Jvm.Cond.code (⟨"java/lang/StringLatin1", "equals", "([B[B)Z"⟩ : MethodName) jdk_43_method_13_code 3 (some .boolean) :: ws) ({ frames := 0, cells := 0, slots := 0, locals := 0 } : Room)) (fun a U => a = #[(.ref a1), (.ref a2)] ∧ Z.Warmed39 U.vm ∧ U.heap = h0) (fun _ _ _ _ _ => True) (fun _ U o U' => ∃ v L, o = .returned v ∧ Q_leq_2_2 Z a1 a2 ka x0 x1 kb y0 y1 h0 n0 v U'.heap L ∧ FrameEnd U o U' L ({ frames := 0, cells := 0, slots := 0, locals := 0 } : Room).cells ({ frames := 0, cells := 0, slots := 0, locals := 0 } : Room).slots) := by
  refine MetFree.of_bodySF (plainFor_of_name pn5) hisR ?_
  intro p e s m args below meth c s₁ Bd hml0 hP hK
  obtain ⟨rfl, hZ, hh⟩ := hP
  have hx := Bd.exec
  have hby := Bd.bytes
  have hml : c.maxLocals = 3 := hml0
  have hown : s.vm.findClass "java/lang/StringLatin1" = some m.cls := findClass_of_methodNamed Bd.named
  have hnm := (name_of_methodNamed Bd.named Bd.method).1
  have X0 : Stand p l e ({ frames := 0, cells := 0, slots := 0, locals := 0 } : Room) s m #[(.ref a1), (.ref a2)] below meth c s₁ [] 0 0 := Stand.of_body Bd
  have e0 : s₁.heap = h0 := by rw [← hh, Bd.state]; rfl
  have N0 := Fr.nil n0
  have pre0 : ∀ t, Steps p.tables e below (s₁.setTop (mkF m 0 #[.val (.ref a1), .val (.ref a2), .unset] [])) t → Steps p.tables e below (s₁.setTop (entryFrame m #[(.ref a1), (.ref a2)] 3)) t := fun t k => castTop (ef_leq_2_2 m a1 a2) k
  obtain ⟨cl_a1_1_1, Ar_a1_1_1, -, S_a1_1_1, N_a1_1_1, -, -⟩ := id V_a1
  obtain ⟨cl_a2_3_2, Ar_a2_3_2, -, S_a2_3_2, N_a2_3_2, -, -⟩ := id V_a2
  obtain ⟨cl_a1_11_3, Ar_a1_11_3, -, S_a1_11_3, N_a1_11_3, -, -⟩ := id V_a1
  obtain ⟨cl_a1_17_4, Ar_a1_17_4, q_a1_17_4, S_a1_17_4, N_a1_17_4, H_a1_17_4, G_a1_17_4⟩ := id V_a1
  have hin_a1_17_4 : ¬ ((0 : Int32) < 0 ∨ cl_a1_17_4.slots.size ≤ ((0 : Int32) : Int32).toNatClampNeg) := inb_of S_a1_17_4 ⟨by decide, by decide⟩
  obtain ⟨cl_a2_20_5, Ar_a2_20_5, q_a2_20_5, S_a2_20_5, N_a2_20_5, H_a2_20_5, G_a2_20_5⟩ := id V_a2
  have hin_a2_20_5 : ¬ ((0 : Int32) < 0 ∨ cl_a2_20_5.slots.size ≤ ((0 : Int32) : Int32).toNatClampNeg) := inb_of S_a2_20_5 ⟨by decide, by decide⟩
  have pre6 : ∀ t, Steps p.tables e below (s₁.setTop (mkF m 21 #[.val (.ref a1), .val (.ref a2), .val (.int (0 : Int32))] [(.int y0), (.int x0)])) t → Steps p.tables e below (s₁.setTop (entryFrame m #[(.ref a1), (.ref a2)] 3)) t := by
    intro t kt
    refine pre0 _ ?_
    show Steps p.tables e below (s₁.setTop (mkF m 0 #[.val (.ref a1), .val (.ref a2), .unset] [])) _
    refine XS.aloadN X0.here hx rfl (hb hby d13_0) rfl rfl ?_
    refine X0.arraylength hx (by rw [e0]; exact Ar_a1_1_1.1) (State.isArrayOf_alike hZ.alike Ar_a1_1_1.2.1) (g := (mkF m 1 #[.val (.ref a1), .val (.ref a2), .unset] [(.ref a1)])) rfl rfl (hb hby d13_1) _ ?_
    rw [len_of S_a1_1_1 N_a1_1_1]
    show Steps p.tables e below (s₁.setTop (mkF m 2 #[.val (.ref a1), .val (.ref a2), .unset] [(.int (2 : Int32))])) _
    refine XS.aloadN X0.here hx rfl (hb hby d13_2) rfl rfl ?_
    show Steps p.tables e below (s₁.setTop (mkF m 3 #[.val (.ref a1), .val (.ref a2), .unset] [(.ref a2), (.int (2 : Int32))])) _
    refine X0.arraylength hx (by rw [e0]; exact Ar_a2_3_2.1) (State.isArrayOf_alike hZ.alike Ar_a2_3_2.2.1) (g := (mkF m 3 #[.val (.ref a1), .val (.ref a2), .unset] [(.ref a2), (.int (2 : Int32))])) rfl rfl (hb hby d13_3) _ ?_
    rw [len_of S_a2_3_2 N_a2_3_2]
    show Steps p.tables e below (s₁.setTop (mkF m 4 #[.val (.ref a1), .val (.ref a2), .unset] [(.int (2 : Int32)), (.int (2 : Int32))])) _
    refine XS.icmpNo X0.here hx rfl (hb hby d13_4) rfl (teq (by decide : (2 : Int32) = (2 : Int32))).2 ?_
    refine XS.iconst X0.here hx rfl (hb hby d13_7) ?_
    show Steps p.tables e below (s₁.setTop (mkF m 8 #[.val (.ref a1), .val (.ref a2), .unset] [(.int (0 : Int32))])) _
    refine XS.istoreN X0.here hx rfl (hb hby d13_8) rfl (l' := #[.val (.ref a1), .val (.ref a2), .val (.int (0 : Int32))]) rfl ?_
    refine XS.iloadN X0.here hx rfl (hb hby d13_9) rfl ?_
    refine XS.aloadN X0.here hx rfl (hb hby d13_10) rfl rfl ?_
    show Steps p.tables e below (s₁.setTop (mkF m 11 #[.val (.ref a1), .val (.ref a2), .val (.int (0 : Int32))] [(.ref a1), (.int (0 : Int32))])) _
    refine X0.arraylength hx (by rw [e0]; exact Ar_a1_11_3.1) (State.isArrayOf_alike hZ.alike Ar_a1_11_3.2.1) (g := (mkF m 11 #[.val (.ref a1), .val (.ref a2), .val (.int (0 : Int32))] [(.ref a1), (.int (0 : Int32))])) rfl rfl (hb hby d13_11) _ ?_
    rw [len_of S_a1_11_3 N_a1_11_3]
    show Steps p.tables e below (s₁.setTop (mkF m 12 #[.val (.ref a1), .val (.ref a2), .val (.int (0 : Int32))] [(.int (2 : Int32)), (.int (0 : Int32))])) _
    refine XS.icmpNo X0.here hx rfl (hb hby d13_12) rfl (tlt (by decide : (0 : Int32) < (2 : Int32))).2.1 ?_
    refine XS.aloadN X0.here hx rfl (hb hby d13_15) rfl rfl ?_
    show Steps p.tables e below (s₁.setTop (mkF m 16 #[.val (.ref a1), .val (.ref a2), .val (.int (0 : Int32))] [(.ref a1)])) _
    refine XS.iloadN X0.here hx rfl (hb hby d13_16) rfl ?_
    refine X0.baloadBytes hx (j := (0 : Int32)) (v := (.int x0)) (by rw [e0]; exact Ar_a1_17_4.1) (State.isArrayOf_alike hZ.alike Ar_a1_17_4.2.1) Ar_a1_17_4.2.2 hin_a1_17_4 (H_a1_17_4.at hin_a1_17_4 rfl) (g := (mkF m 17 #[.val (.ref a1), .val (.ref a2), .val (.int (0 : Int32))] [(.int (0 : Int32)), (.ref a1)])) rfl rfl (hb hby d13_17) _ ?_
    show Steps p.tables e below (s₁.setTop (mkF m 18 #[.val (.ref a1), .val (.ref a2), .val (.int (0 : Int32))] [(.int x0)])) _
    refine XS.aloadN X0.here hx rfl (hb hby d13_18) rfl rfl ?_
    show Steps p.tables e below (s₁.setTop (mkF m 19 #[.val (.ref a1), .val (.ref a2), .val (.int (0 : Int32))] [(.ref a2), (.int x0)])) _
    refine XS.iloadN X0.here hx rfl (hb hby d13_19) rfl ?_
    refine X0.baloadBytes hx (j := (0 : Int32)) (v := (.int y0)) (by rw [e0]; exact Ar_a2_20_5.1) (State.isArrayOf_alike hZ.alike Ar_a2_20_5.2.1) Ar_a2_20_5.2.2 hin_a2_20_5 (H_a2_20_5.at hin_a2_20_5 rfl) (g := (mkF m 20 #[.val (.ref a1), .val (.ref a2), .val (.int (0 : Int32))] [(.int (0 : Int32)), (.ref a2), (.int x0)])) rfl rfl (hb hby d13_20) _ ?_
    exact kt
  by_cases hc21_7 : x0 = y0
  · obtain ⟨cl_a1_11_8, Ar_a1_11_8, -, S_a1_11_8, N_a1_11_8, -, -⟩ := id V_a1
    obtain ⟨cl_a1_17_9, Ar_a1_17_9, q_a1_17_9, S_a1_17_9, N_a1_17_9, H_a1_17_9, G_a1_17_9⟩ := id V_a1
    have hin_a1_17_9 : ¬ ((1 : Int32) < 0 ∨ cl_a1_17_9.slots.size ≤ ((1 : Int32) : Int32).toNatClampNeg) := inb_of S_a1_17_9 ⟨by decide, by decide⟩
    obtain ⟨cl_a2_20_10, Ar_a2_20_10, q_a2_20_10, S_a2_20_10, N_a2_20_10, H_a2_20_10, G_a2_20_10⟩ := id V_a2
    have hin_a2_20_10 : ¬ ((1 : Int32) < 0 ∨ cl_a2_20_10.slots.size ≤ ((1 : Int32) : Int32).toNatClampNeg) := inb_of S_a2_20_10 ⟨by decide, by decide⟩
    have pre11 : ∀ t, Steps p.tables e below (s₁.setTop (mkF m 21 #[.val (.ref a1), .val (.ref a2), .val (.int (1 : Int32))] [(.int y1), (.int x1)])) t → Steps p.tables e below (s₁.setTop (entryFrame m #[(.ref a1), (.ref a2)] 3)) t := by
      intro t kt
      refine pre6 _ ?_
      show Steps p.tables e below (s₁.setTop (mkF m 21 #[.val (.ref a1), .val (.ref a2), .val (.int (0 : Int32))] [(.int y0), (.int x0)])) _
      refine XS.icmpYes X0.here hx rfl (pc0 := 21) (pc' := 26) rfl (hb hby d13_21) rfl (teq hc21_7).1 (by decide) (by decide) ?_
      show Steps p.tables e below (s₁.setTop (mkF m 26 #[.val (.ref a1), .val (.ref a2), .val (.int (0 : Int32))] [])) _
      refine XS.iinc X0.here hx rfl (hb hby d13_26) rfl (l' := #[.val (.ref a1), .val (.ref a2), .val (.int (1 : Int32))]) rfl ?_
      refine XS.goto X0.here hx rfl (pc0 := 29) (pc' := 9) rfl (hb hby d13_29) (by decide) (by decide) ?_
      refine XS.iloadN X0.here hx rfl (hb hby d13_9) rfl ?_
      show Steps p.tables e below (s₁.setTop (mkF m 10 #[.val (.ref a1), .val (.ref a2), .val (.int (1 : Int32))] [(.int (1 : Int32))])) _
      refine XS.aloadN X0.here hx rfl (hb hby d13_10) rfl rfl ?_
      refine X0.arraylength hx (by rw [e0]; exact Ar_a1_11_8.1) (State.isArrayOf_alike hZ.alike Ar_a1_11_8.2.1) (g := (mkF m 11 #[.val (.ref a1), .val (.ref a2), .val (.int (1 : Int32))] [(.ref a1), (.int (1 : Int32))])) rfl rfl (hb hby d13_11) _ ?_
      rw [len_of S_a1_11_8 N_a1_11_8]
      show Steps p.tables e below (s₁.setTop (mkF m 12 #[.val (.ref a1), .val (.ref a2), .val (.int (1 : Int32))] [(.int (2 : Int32)), (.int (1 : Int32))])) _
      refine XS.icmpNo X0.here hx rfl (hb hby d13_12) rfl (tlt (by decide : (1 : Int32) < (2 : Int32))).2.1 ?_
      show Steps p.tables e below (s₁.setTop (mkF m 15 #[.val (.ref a1), .val (.ref a2), .val (.int (1 : Int32))] [])) _
      refine XS.aloadN X0.here hx rfl (hb hby d13_15) rfl rfl ?_
      refine XS.iloadN X0.here hx rfl (hb hby d13_16) rfl ?_
      refine X0.baloadBytes hx (j := (1 : Int32)) (v := (.int x1)) (by rw [e0]; exact Ar_a1_17_9.1) (State.isArrayOf_alike hZ.alike Ar_a1_17_9.2.1) Ar_a1_17_9.2.2 hin_a1_17_9 (H_a1_17_9.at hin_a1_17_9 rfl) (g := (mkF m 17 #[.val (.ref a1), .val (.ref a2), .val (.int (1 : Int32))] [(.int (1 : Int32)), (.ref a1)])) rfl rfl (hb hby d13_17) _ ?_
      show Steps p.tables e below (s₁.setTop (mkF m 18 #[.val (.ref a1), .val (.ref a2), .val (.int (1 : Int32))] [(.int x1)])) _
      refine XS.aloadN X0.here hx rfl (hb hby d13_18) rfl rfl ?_
      refine XS.iloadN X0.here hx rfl (hb hby d13_19) rfl ?_
      refine X0.baloadBytes hx (j := (1 : Int32)) (v := (.int y1)) (by rw [e0]; exact Ar_a2_20_10.1) (State.isArrayOf_alike hZ.alike Ar_a2_20_10.2.1) Ar_a2_20_10.2.2 hin_a2_20_10 (H_a2_20_10.at hin_a2_20_10 rfl) (g := (mkF m 20 #[.val (.ref a1), .val (.ref a2), .val (.int (1 : Int32))] [(.int (1 : Int32)), (.ref a2), (.int x1)])) rfl rfl (hb hby d13_20) _ ?_
      exact kt
    by_cases hc21_12 : x1 = y1
    · obtain ⟨cl_a1_11_13, Ar_a1_11_13, -, S_a1_11_13, N_a1_11_13, -, -⟩ := id V_a1
      obtain ⟨fs, hr, hrun, hended, hW, hsame⟩ := X0.leave (v := some (.int (1 : Int32))) (fun h => by rw [Bd.returns] at h; cases h)
      refine ⟨_, _, pre11 _ ?_, hrun, hended, _, _, rfl, ?_, ⟨_, rfl⟩, hW, hsame.mono (by decide) (by decide)⟩
      · show Steps p.tables e below (s₁.setTop (mkF m 21 #[.val (.ref a1), .val (.ref a2), .val (.int (1 : Int32))] [(.int y1), (.int x1)])) _
        refine XS.icmpYes X0.here hx rfl (pc0 := 21) (pc' := 26) rfl (hb hby d13_21) rfl (teq hc21_12).1 (by decide) (by decide) ?_
        refine XS.iinc X0.here hx rfl (hb hby d13_26) rfl (l' := #[.val (.ref a1), .val (.ref a2), .val (.int (2 : Int32))]) rfl ?_
        refine XS.goto X0.here hx rfl (pc0 := 29) (pc' := 9) rfl (hb hby d13_29) (by decide) (by decide) ?_
        show Steps p.tables e below (s₁.setTop (mkF m 9 #[.val (.ref a1), .val (.ref a2), .val (.int (2 : Int32))] [])) _
        refine XS.iloadN X0.here hx rfl (hb hby d13_9) rfl ?_
        refine XS.aloadN X0.here hx rfl (hb hby d13_10) rfl rfl ?_
        refine X0.arraylength hx (by rw [e0]; exact Ar_a1_11_13.1) (State.isArrayOf_alike hZ.alike Ar_a1_11_13.2.1) (g := (mkF m 11 #[.val (.ref a1), .val (.ref a2), .val (.int (2 : Int32))] [(.ref a1), (.int (2 : Int32))])) rfl rfl (hb hby d13_11) _ ?_
        rw [len_of S_a1_11_13 N_a1_11_13]
        show Steps p.tables e below (s₁.setTop (mkF m 12 #[.val (.ref a1), .val (.ref a2), .val (.int (2 : Int32))] [(.int (2 : Int32)), (.int (2 : Int32))])) _
        refine XS.icmpYes X0.here hx rfl (pc0 := 12) (pc' := 32) rfl (hb hby d13_12) rfl (flt (by decide : ¬ ((2 : Int32) < (2 : Int32)))).2.1 (by decide) (by decide) ?_
        refine XS.iconst X0.here hx rfl (hb hby d13_32) ?_
        show Steps p.tables e below (s₁.setTop (mkF m 33 #[.val (.ref a1), .val (.ref a2), .val (.int (2 : Int32))] [(.int (1 : Int32))])) _
        exact retN X0 hx (t := .boolean) Bd.returns (by simp) (hb hby d13_33) hr
      · show Q_leq_2_2 Z a1 a2 ka x0 x1 kb y0 y1 h0 n0 _ s₁.heap _
        rw [e0]
        exact ⟨by rw [res_leq_2_2, if_pos hc21_7, if_pos hc21_12], rfl, rfl⟩
    · obtain ⟨fs, hr, hrun, hended, hW, hsame⟩ := X0.leave (v := some (.int (0 : Int32))) (fun h => by rw [Bd.returns] at h; cases h)
      refine ⟨_, _, pre11 _ ?_, hrun, hended, _, _, rfl, ?_, ⟨_, rfl⟩, hW, hsame.mono (by decide) (by decide)⟩
      · show Steps p.tables e below (s₁.setTop (mkF m 21 #[.val (.ref a1), .val (.ref a2), .val (.int (1 : Int32))] [(.int y1), (.int x1)])) _
        refine XS.icmpNo X0.here hx rfl (hb hby d13_21) rfl (feq hc21_12).1 ?_
        refine XS.iconst X0.here hx rfl (hb hby d13_24) ?_
        show Steps p.tables e below (s₁.setTop (mkF m 25 #[.val (.ref a1), .val (.ref a2), .val (.int (1 : Int32))] [(.int (0 : Int32))])) _
        exact retN X0 hx (t := .boolean) Bd.returns (by simp) (hb hby d13_25) hr
      · show Q_leq_2_2 Z a1 a2 ka x0 x1 kb y0 y1 h0 n0 _ s₁.heap _
        rw [e0]
        exact ⟨by rw [res_leq_2_2, if_pos hc21_7, if_neg hc21_12], rfl, rfl⟩
  · obtain ⟨fs, hr, hrun, hended, hW, hsame⟩ := X0.leave (v := some (.int (0 : Int32))) (fun h => by rw [Bd.returns] at h; cases h)
    refine ⟨_, _, pre6 _ ?_, hrun, hended, _, _, rfl, ?_, ⟨_, rfl⟩, hW, hsame.mono (by decide) (by decide)⟩
    · show Steps p.tables e below (s₁.setTop (mkF m 21 #[.val (.ref a1), .val (.ref a2), .val (.int (0 : Int32))] [(.int y0), (.int x0)])) _
      refine XS.icmpNo X0.here hx rfl (hb hby d13_21) rfl (feq hc21_7).1 ?_
      show Steps p.tables e below (s₁.setTop (mkF m 24 #[.val (.ref a1), .val (.ref a2), .val (.int (0 : Int32))] [])) _
      refine XS.iconst X0.here hx rfl (hb hby d13_24) ?_
      show Steps p.tables e below (s₁.setTop (mkF m 25 #[.val (.ref a1), .val (.ref a2), .val (.int (0 : Int32))] [(.int (0 : Int32))])) _
      exact retN X0 hx (t := .boolean) Bd.returns (by simp) (hb hby d13_25) hr
    · show Q_leq_2_2 Z a1 a2 ka x0 x1 kb y0 y1 h0 n0 _ s₁.heap _
      rw [e0]
      exact ⟨by rw [res_leq_2_2, if_neg hc21_7], rfl, rfl⟩
def res_eq_2_2 (x0 : Int32) (x1 : Int32) (y0 : Int32) (y1 : Int32) : Int32 := if (res_leq_2_2 x0 x1 y0 y1) = (0 : Int32) then (0 : Int32) else (1 : Int32)
theorem ef_eq_2_2 (m : MethodId) (a1 : Addr) (a2 : Addr) : entryFrame m #[(.ref a1), (.ref a2)] 3 = (mkF m 0 #[.val (.ref a1), .val (.ref a2), .unset] []) := by first | (simp [entryFrame, mkF, argsToLocals, Value.category]; done) | rfl
def Q_eq_2_2 (Z : State) (a1 : Addr) (a2 : Addr) (w_value_a1 : Addr) (ka : ClassId) (x0 : Int32) (x1 : Int32) (w_value_a2 : Addr) (kb : ClassId) (y0 : Int32) (y1 : Int32) (w_COMPACT_STRINGS : Int32) (h0 : Heap) (n0 : Nat) (v : Option Value) (h : Heap) (L : List Loc) : Prop := v = some (.int (res_eq_2_2 x0 x1 y0 y1)) ∧ L = [] ∧ h = h0
set_option maxRecDepth 65536 in
set_option maxHeartbeats 40000000 in
theorem rm_eq_2_2 (l : Launch) (Z : State) (a0 : Array Value) (hw : ∀ d ∈ tables_1, d.before a0 Z = true) (ws : List Jvm.Cond) (a1 : Addr) (a2 : Addr) (w_value_a1 : Addr) (ka : ClassId) (x0 : Int32) (x1 : Int32) (w_value_a2 : Addr) (kb : ClassId) (y0 : Int32) (y1 : Int32) (w_COMPACT_STRINGS : Int32) (h0 : Heap) (n0 : Nat) (Z0 : n0 ≤ h0.size) (E_a1 : Exa Z h0 a1 "java/lang/String") (F_coder_a1 : Fld Z h0 a1 "java/lang/String" "coder" "B" (.int (0 : Int32))) (F_value_a1 : Fld Z h0 a1 "java/lang/String" "value" "[B" (.ref w_value_a1)) (V_w_value_a1 : Arv Z h0 w_value_a1 ka .byte (2 : Int32) [(.int x0), (.int x1)] (.int (0 : Int32))) (E_a2 : Exa Z h0 a2 "java/lang/String") (F_coder_a2 : Fld Z h0 a2 "java/lang/String" "coder" "B" (.int (0 : Int32))) (F_value_a2 : Fld Z h0 a2 "java/lang/String" "value" "[B" (.ref w_value_a2)) (V_w_value_a2 : Arv Z h0 w_value_a2 kb .byte (2 : Int32) [(.int y0), (.int y1)] (.int (0 : Int32))) (S_COMPACT_STRINGS : Sta Z h0 "java/lang/String" "COMPACT_STRINGS" "Z" (.int w_COMPACT_STRINGS)) (hne_12 : a1 ≠ a2) (hCS : ¬ (w_COMPACT_STRINGS = (0 : Int32))) :
    MetFree l (⟨"java/lang/String", "equals", "(Ljava/lang/Object;)Z"⟩ : MethodName) (head1 (Jvm.Cond.code (⟨"java/lang/String", "equals", "(Ljava/lang/Object;)Z"⟩ : MethodName) jdk_42_method_66_code 3 (some .boolean) :: ws) ({ frames := 1, cells := 0, slots := 0, locals := 14 } : Room)) (fun a U => a = #[(.ref a1), (.ref a2)] ∧ Z.Warmed39 U.vm ∧ U.heap = h0) (fun _ _ _ _ _ => True) (fun _ U o U' => ∃ v L, o = .returned v ∧ Q_eq_2_2 Z a1 a2 w_value_a1 ka x0 x1 w_value_a2 kb y0 y1 w_COMPACT_STRINGS h0 n0 v U'.heap L ∧ FrameEnd U o U' L ({ frames := 1, cells := 0, slots := 0, locals := 14 } : Room).cells ({ frames := 1, cells := 0, slots := 0, locals := 14 } : Room).slots) := by
  refine MetFree.of_bodySF (plainFor_of_name pn0) hisR ?_
  intro p e s m args below meth c s₁ Bd hml0 hP hK
  obtain ⟨rfl, hZ, hh⟩ := hP
  have hx := Bd.exec
  have hby := Bd.bytes
  have hml : c.maxLocals = 3 := hml0
  have hown : s.vm.findClass "java/lang/String" = some m.cls := findClass_of_methodNamed Bd.named
  have hnm := (name_of_methodNamed Bd.named Bd.method).1
  have X0 : Stand p l e ({ frames := 1, cells := 0, slots := 0, locals := 14 } : Room) s m #[(.ref a1), (.ref a2)] below meth c s₁ [] 0 0 := Stand.of_body Bd
  have e0 : s₁.heap = h0 := by rw [← hh, Bd.state]; rfl
  have N0 := Fr.nil n0
  have pre0 : ∀ t, Steps p.tables e below (s₁.setTop (mkF m 0 #[.val (.ref a1), .val (.ref a2), .unset] [])) t → Steps p.tables e below (s₁.setTop (entryFrame m #[(.ref a1), (.ref a2)] 3)) t := fun t k => castTop (ef_eq_2_2 m a1 a2) k
  obtain ⟨T1, X1, e1, st1⟩ := instY X0 hx hZ hown (hw _ (List.mem_of_getElem? (i := 91) rfl)) e0 (Ins.self E_a2) (g := (mkF m 8 #[.val (.ref a1), .val (.ref a2), .unset] [(.ref a2)])) rfl rfl (hb hby d12_8)
  obtain ⟨T2, X2, e2, st2⟩ := castY X1 hx hZ hown (hw _ (List.mem_of_getElem? (i := 91) rfl)) e1 (Ins.self E_a2) (g := (mkF m 15 #[.val (.ref a1), .val (.ref a2), .unset] [(.ref a2)])) rfl rfl (hb hby d12_15)
  obtain ⟨T3, X3, e3, st3⟩ := getS2 X2 hx hZ hown (host := "") (Or.inl (hw _ (List.mem_of_getElem? (i := 19) rfl))) Via.refl e2 S_COMPACT_STRINGS (g := (mkF m 19 #[.val (.ref a1), .val (.ref a2), .val (.ref a2)] [])) rfl (hb hby d12_19)
  obtain ⟨T4, X4, e4, st4⟩ := getF X3 hx hZ hown (host := "") (Or.inl (hw _ (List.mem_of_getElem? (i := 31) rfl))) Via.refl e3 F_coder_a1 (g := (mkF m 26 #[.val (.ref a1), .val (.ref a2), .val (.ref a2)] [(.ref a1)])) rfl rfl (hb hby d12_26)
  obtain ⟨T5, X5, e5, st5⟩ := getF X4 hx hZ hown (host := "") (Or.inl (hw _ (List.mem_of_getElem? (i := 31) rfl))) Via.refl e4 F_coder_a2 (g := (mkF m 30 #[.val (.ref a1), .val (.ref a2), .val (.ref a2)] [(.ref a2), (.int (0 : Int32))])) rfl rfl (hb hby d12_30)
  obtain ⟨T6, X6, e6, st6⟩ := getF X5 hx hZ hown (host := "") (Or.inl (hw _ (List.mem_of_getElem? (i := 33) rfl))) Via.refl e5 F_value_a1 (g := (mkF m 37 #[.val (.ref a1), .val (.ref a2), .val (.ref a2)] [(.ref a1)])) rfl rfl (hb hby d12_37)
  obtain ⟨T7, X7, e7, st7⟩ := getF X6 hx hZ hown (host := "") (Or.inl (hw _ (List.mem_of_getElem? (i := 33) rfl))) Via.refl e6 F_value_a2 (g := (mkF m 41 #[.val (.ref a1), .val (.ref a2), .val (.ref a2)] [(.ref a2), (.ref w_value_a1)])) rfl rfl (hb hby d12_41)
  obtain ⟨_, _, ⟨T8, L8, k8, n8⟩, -, X8, ⟨Lc8, hQ8, l8, y8, z8⟩, st8⟩ := Jvm.LawKit.callS X7 hx (y := (⟨"java/lang/StringLatin1", "equals", "([B[B)Z"⟩ : MethodName)) hown (mvT hZ (hw _ (List.mem_of_getElem? (i := 92) rfl))) (mvT hZ (hw _ (List.mem_of_getElem? (i := 93) rfl))) (mvT hZ (hw _ (List.mem_of_getElem? (i := 94) rfl))) (mvT hZ (hw _ (List.mem_of_getElem? (i := 95) rfl))) (by decide) (backOf (W := 0) (rm_leq_2_2 l Z a0 hw [] w_value_a1 w_value_a2 ka x0 x1 kb y0 y1 h0 n0 (Nat.le_trans Z0 (Keep.refl h0 []).1) V_w_value_a1 V_w_value_a2 ) hZ (hw _ (List.mem_of_getElem? (i := 95) rfl)) (hw _ (List.mem_of_getElem? (i := 94) rfl)) (by decide) (by decide)) (g := (mkF m 44 #[.val (.ref a1), .val (.ref a2), .val (.ref a2)] [(.ref w_value_a2), (.ref w_value_a1)])) rfl (by rw [hml]; rfl) (argsL := [(.ref w_value_a1), (.ref w_value_a2)]) (rest := []) (lenOf pd6 rfl) rfl (by show 2 * 0 + _ ≤ _; exact Nat.le_of_eq rfl) (hb hby d12_44) (fun _ _ => ⟨rfl, e7, (by decide : 0 + 0 ≤ _), (by decide : 0 + 0 ≤ _)⟩)
  dsimp only [Pt.U, Pt.locs, Pt.cells, Pt.slots] at X8 l8 y8 z8 st8 hQ8
  subst l8 y8 z8
  obtain ⟨rfl, rfl, e8⟩ := hQ8
  have N8 := Fr.app N0 (Fr.nil n0)
  have pre9 : ∀ t, Steps p.tables e below (T8.setTop (mkF m 47 #[.val (.ref a1), .val (.ref a2), .val (.ref a2)] [(.int (res_leq_2_2 x0 x1 y0 y1))])) t → Steps p.tables e below (s₁.setTop (entryFrame m #[(.ref a1), (.ref a2)] 3)) t := by
    intro t kt
    refine pre0 _ ?_
    show Steps p.tables e below (s₁.setTop (mkF m 0 #[.val (.ref a1), .val (.ref a2), .unset] [])) _
    refine XS.aloadN X0.here hx rfl (hb hby d12_0) rfl rfl ?_
    refine XS.aloadN X0.here hx rfl (hb hby d12_1) rfl rfl ?_
    refine Jvm.RoadKit.acmp (g := (mkF m 2 #[.val (.ref a1), .val (.ref a2), .unset] [(.ref a2), (.ref a1)])) X0 hx rfl rfl rfl (pc0 := 2) (pc' := 7) (same := false) rfl (hb hby d12_2) rfl (decide_eq_false fun q => hne_12 (Value.ref.inj q)) (by decide) (by decide) ?_
    show Steps p.tables e below (s₁.setTop (mkF m 7 #[.val (.ref a1), .val (.ref a2), .unset] [])) _
    refine XS.aloadN X0.here hx rfl (hb hby d12_7) rfl rfl ?_
    show Steps p.tables e below (s₁.setTop (mkF m 8 #[.val (.ref a1), .val (.ref a2), .unset] [(.ref a2)])) _
    refine st1 _ ?_
    show Steps p.tables e below (T1.setTop (mkF m 11 #[.val (.ref a1), .val (.ref a2), .unset] [(.int (1 : Int32))])) _
    refine XS.ifNo X1.here hx rfl (hb hby d12_11) rfl ((if0 _ _).trans (feq (by decide : ¬ ((1 : Int32) = (0 : Int32)))).1) ?_
    refine XS.aloadN X1.here hx rfl (hb hby d12_14) rfl rfl ?_
    show Steps p.tables e below (T1.setTop (mkF m 15 #[.val (.ref a1), .val (.ref a2), .unset] [(.ref a2)])) _
    refine st2 _ ?_
    show Steps p.tables e below (T2.setTop (mkF m 18 #[.val (.ref a1), .val (.ref a2), .unset] [(.ref a2)])) _
    refine XS.astoreN X2.here hx rfl (hb hby d12_18) rfl rfl (l' := #[.val (.ref a1), .val (.ref a2), .val (.ref a2)]) rfl ?_
    show Steps p.tables e below (T2.setTop (mkF m 19 #[.val (.ref a1), .val (.ref a2), .val (.ref a2)] [])) _
    refine st3 _ ?_
    show Steps p.tables e below (T3.setTop (mkF m 22 #[.val (.ref a1), .val (.ref a2), .val (.ref a2)] [(.int w_COMPACT_STRINGS)])) _
    refine XS.ifNo X3.here hx rfl (hb hby d12_22) rfl ((if0 _ _).trans (feq (hCS : ¬ (w_COMPACT_STRINGS = (0 : Int32)))).1) ?_
    refine XS.aloadN X3.here hx rfl (hb hby d12_25) rfl rfl ?_
    show Steps p.tables e below (T3.setTop (mkF m 26 #[.val (.ref a1), .val (.ref a2), .val (.ref a2)] [(.ref a1)])) _
    refine st4 _ ?_
    show Steps p.tables e below (T4.setTop (mkF m 29 #[.val (.ref a1), .val (.ref a2), .val (.ref a2)] [(.int (0 : Int32))])) _
    refine XS.aloadN X4.here hx rfl (hb hby d12_29) rfl rfl ?_
    show Steps p.tables e below (T4.setTop (mkF m 30 #[.val (.ref a1), .val (.ref a2), .val (.ref a2)] [(.ref a2), (.int (0 : Int32))])) _
    refine st5 _ ?_
    show Steps p.tables e below (T5.setTop (mkF m 33 #[.val (.ref a1), .val (.ref a2), .val (.ref a2)] [(.int (0 : Int32)), (.int (0 : Int32))])) _
    refine XS.icmpNo X5.here hx rfl (hb hby d12_33) rfl (teq (by decide : (0 : Int32) = (0 : Int32))).2 ?_
    refine XS.aloadN X5.here hx rfl (hb hby d12_36) rfl rfl ?_
    show Steps p.tables e below (T5.setTop (mkF m 37 #[.val (.ref a1), .val (.ref a2), .val (.ref a2)] [(.ref a1)])) _
    refine st6 _ ?_
    show Steps p.tables e below (T6.setTop (mkF m 40 #[.val (.ref a1), .val (.ref a2), .val (.ref a2)] [(.ref w_value_a1)])) _
    refine XS.aloadN X6.here hx rfl (hb hby d12_40) rfl rfl ?_
    show Steps p.tables e below (T6.setTop (mkF m 41 #[.val (.ref a1), .val (.ref a2), .val (.ref a2)] [(.ref a2), (.ref w_value_a1)])) _
    refine st7 _ ?_
    show Steps p.tables e below (T7.setTop (mkF m 44 #[.val (.ref a1), .val (.ref a2), .val (.ref a2)] [(.ref w_value_a2), (.ref w_value_a1)])) _
    refine st8 _ ?_
    exact kt
  by_cases hc47_10 : (res_leq_2_2 x0 x1 y0 y1) = (0 : Int32)
  · obtain ⟨fs, hr, hrun, hended, hW, hsame⟩ := X8.leave (v := some (.int (0 : Int32))) (fun h => by rw [Bd.returns] at h; cases h)
    refine ⟨_, _, pre9 _ ?_, hrun, hended, _, _, rfl, ?_, ⟨_, rfl⟩, hW, hsame.mono (by decide) (by decide)⟩
    · show Steps p.tables e below (T8.setTop (mkF m 47 #[.val (.ref a1), .val (.ref a2), .val (.ref a2)] [(.int (res_leq_2_2 x0 x1 y0 y1))])) _
      refine XS.ifYes X8.here hx rfl (pc0 := 47) (pc' := 54) rfl (hb hby d12_47) rfl ((if0 _ _).trans (teq hc47_10).1) (by decide) (by decide) ?_
      refine XS.iconst X8.here hx rfl (hb hby d12_54) ?_
      show Steps p.tables e below (T8.setTop (mkF m 55 #[.val (.ref a1), .val (.ref a2), .val (.ref a2)] [(.int (0 : Int32))])) _
      exact retN X8 hx (t := .boolean) Bd.returns (by simp) (hb hby d12_55) hr
    · show Q_eq_2_2 Z a1 a2 w_value_a1 ka x0 x1 w_value_a2 kb y0 y1 w_COMPACT_STRINGS h0 n0 _ T8.heap _
      rw [e8]
      exact ⟨by rw [res_eq_2_2, if_pos hc47_10], rfl, rfl⟩
  · obtain ⟨fs, hr, hrun, hended, hW, hsame⟩ := X8.leave (v := some (.int (1 : Int32))) (fun h => by rw [Bd.returns] at h; cases h)
    refine ⟨_, _, pre9 _ ?_, hrun, hended, _, _, rfl, ?_, ⟨_, rfl⟩, hW, hsame.mono (by decide) (by decide)⟩
    · show Steps p.tables e below (T8.setTop (mkF m 47 #[.val (.ref a1), .val (.ref a2), .val (.ref a2)] [(.int (res_leq_2_2 x0 x1 y0 y1))])) _
      refine XS.ifNo X8.here hx rfl (hb hby d12_47) rfl ((if0 _ _).trans (feq hc47_10).1) ?_
      refine XS.iconst X8.here hx rfl (hb hby d12_50) ?_
      show Steps p.tables e below (T8.setTop (mkF m 51 #[.val (.ref a1), .val (.ref a2), .val (.ref a2)] [(.int (1 : Int32))])) _
      refine XS.goto X8.here hx rfl (pc0 := 51) (pc' := 55) rfl (hb hby d12_51) (by decide) (by decide) ?_
      show Steps p.tables e below (T8.setTop (mkF m 55 #[.val (.ref a1), .val (.ref a2), .val (.ref a2)] [(.int (1 : Int32))])) _
      exact retN X8 hx (t := .boolean) Bd.returns (by simp) (hb hby d12_55) hr
    · show Q_eq_2_2 Z a1 a2 w_value_a1 ka x0 x1 w_value_a2 kb y0 y1 w_COMPACT_STRINGS h0 n0 _ T8.heap _
      rw [e8]
      exact ⟨by rw [res_eq_2_2, if_neg hc47_10], rfl, rfl⟩
def res_is_2_2 (y0 : Int32) (y1 : Int32) (x0 : Int32) (x1 : Int32) (w_kind_a1 : Addr) (w_PUNCT : Addr) : Int32 := if w_kind_a1 = w_PUNCT then (if (res_eq_2_2 x0 x1 y0 y1) = (0 : Int32) then (0 : Int32) else (1 : Int32)) else (0 : Int32)
theorem ef_is_2_2 (m : MethodId) (a1 : Addr) (a2 : Addr) : entryFrame m #[(.ref a1), (.ref a2)] 2 = (mkF m 0 #[.val (.ref a1), .val (.ref a2)] []) := by first | (simp [entryFrame, mkF, argsToLocals, Value.category]; done) | rfl
def Q_is_2_2 (Z : State) (a1 : Addr) (a2 : Addr) (w_value_a2 : Addr) (kb : ClassId) (y0 : Int32) (y1 : Int32) (w_text_a1 : Addr) (w_value_w_text_a1 : Addr) (ka : ClassId) (x0 : Int32) (x1 : Int32) (w_kind_a1 : Addr) (w_PUNCT : Addr) (w_COMPACT_STRINGS : Int32) (h0 : Heap) (n0 : Nat) (v : Option Value) (h : Heap) (L : List Loc) : Prop := v = some (.int (res_is_2_2 y0 y1 x0 x1 w_kind_a1 w_PUNCT)) ∧ L = [] ∧ h = h0
set_option maxRecDepth 65536 in
set_option maxHeartbeats 40000000 in
theorem rm_is_2_2 (l : Launch) (Z : State) (a0 : Array Value) (hw : ∀ d ∈ tables_1, d.before a0 Z = true) (ws : List Jvm.Cond) (a1 : Addr) (a2 : Addr) (w_value_a2 : Addr) (kb : ClassId) (y0 : Int32) (y1 : Int32) (w_text_a1 : Addr) (w_value_w_text_a1 : Addr) (ka : ClassId) (x0 : Int32) (x1 : Int32) (w_kind_a1 : Addr) (w_PUNCT : Addr) (w_COMPACT_STRINGS : Int32) (h0 : Heap) (n0 : Nat) (Z0 : n0 ≤ h0.size) (E_a2 : Exa Z h0 a2 "java/lang/String") (F_coder_a2 : Fld Z h0 a2 "java/lang/String" "coder" "B" (.int (0 : Int32))) (F_value_a2 : Fld Z h0 a2 "java/lang/String" "value" "[B" (.ref w_value_a2)) (V_w_value_a2 : Arv Z h0 w_value_a2 kb .byte (2 : Int32) [(.int y0), (.int y1)] (.int (0 : Int32))) (F_text_a1 : Fld Z h0 a1 "com/example/cantrip/cantrip/Token" "text" "Ljava/lang/String;" (.ref w_text_a1)) (E_w_text_a1 : Exa Z h0 w_text_a1 "java/lang/String") (F_coder_w_text_a1 : Fld Z h0 w_text_a1 "java/lang/String" "coder" "B" (.int (0 : Int32))) (F_value_w_text_a1 : Fld Z h0 w_text_a1 "java/lang/String" "value" "[B" (.ref w_value_w_text_a1)) (V_w_value_w_text_a1 : Arv Z h0 w_value_w_text_a1 ka .byte (2 : Int32) [(.int x0), (.int x1)] (.int (0 : Int32))) (F_kind_a1 : Fld Z h0 a1 "com/example/cantrip/cantrip/Token" "kind" "Lcom/example/cantrip/cantrip/Token$Kind;" (.ref w_kind_a1)) (S_PUNCT : Sta Z h0 "com/example/cantrip/cantrip/Token$Kind" "PUNCT" "Lcom/example/cantrip/cantrip/Token$Kind;" (.ref w_PUNCT)) (S_COMPACT_STRINGS : Sta Z h0 "java/lang/String" "COMPACT_STRINGS" "Z" (.int w_COMPACT_STRINGS)) (hne_t : w_text_a1 ≠ a2) (hCS : ¬ (w_COMPACT_STRINGS = (0 : Int32))) :
    MetFree l (⟨"com/example/cantrip/cantrip/Token", "is", "(Ljava/lang/String;)Z"⟩ : MethodName) (head1 (Jvm.Cond.code (⟨"com/example/cantrip/cantrip/Token", "is", "(Ljava/lang/String;)Z"⟩ : MethodName) prog_3_method_2_code 2 (some .boolean) :: ws) ({ frames := 2, cells := 0, slots := 0, locals := 28 } : Room)) (fun a U => a = #[(.ref a1), (.ref a2)] ∧ Z.Warmed39 U.vm ∧ U.heap = h0) (fun _ _ _ _ _ => True) (fun _ U o U' => ∃ v L, o = .returned v ∧ Q_is_2_2 Z a1 a2 w_value_a2 kb y0 y1 w_text_a1 w_value_w_text_a1 ka x0 x1 w_kind_a1 w_PUNCT w_COMPACT_STRINGS h0 n0 v U'.heap L ∧ FrameEnd U o U' L ({ frames := 2, cells := 0, slots := 0, locals := 28 } : Room).cells ({ frames := 2, cells := 0, slots := 0, locals := 28 } : Room).slots) := by
  refine MetFree.of_bodySF (plainFor_of_name pn4) hisR ?_
  intro p e s m args below meth c s₁ Bd hml0 hP hK
  obtain ⟨rfl, hZ, hh⟩ := hP
  have hx := Bd.exec
  have hby := Bd.bytes
  have hml : c.maxLocals = 2 := hml0
  have hown : s.vm.findClass "com/example/cantrip/cantrip/Token" = some m.cls := findClass_of_methodNamed Bd.named
  have hnm := (name_of_methodNamed Bd.named Bd.method).1
  have X0 : Stand p l e ({ frames := 2, cells := 0, slots := 0, locals := 28 } : Room) s m #[(.ref a1), (.ref a2)] below meth c s₁ [] 0 0 := Stand.of_body Bd
  have e0 : s₁.heap = h0 := by rw [← hh, Bd.state]; rfl
  have N0 := Fr.nil n0
  have pre0 : ∀ t, Steps p.tables e below (s₁.setTop (mkF m 0 #[.val (.ref a1), .val (.ref a2)] [])) t → Steps p.tables e below (s₁.setTop (entryFrame m #[(.ref a1), (.ref a2)] 2)) t := fun t k => castTop (ef_is_2_2 m a1 a2) k
  obtain ⟨T1, X1, e1, st1⟩ := getF X0 hx hZ hown (host := "") (Or.inl (hw _ (List.mem_of_getElem? (i := 56) rfl))) Via.refl e0 F_kind_a1 (g := (mkF m 1 #[.val (.ref a1), .val (.ref a2)] [(.ref a1)])) rfl rfl (hb hby d11_1)
  obtain ⟨T2, X2, e2, st2⟩ := getS2 X1 hx hZ hown (host := "") (Or.inl (hw _ (List.mem_of_getElem? (i := 67) rfl))) Via.refl e1 S_PUNCT (g := (mkF m 4 #[.val (.ref a1), .val (.ref a2)] [(.ref w_kind_a1)])) rfl (hb hby d11_4)
  have pre3 : ∀ t, Steps p.tables e below (T2.setTop (mkF m 7 #[.val (.ref a1), .val (.ref a2)] [(.ref w_PUNCT), (.ref w_kind_a1)])) t → Steps p.tables e below (s₁.setTop (entryFrame m #[(.ref a1), (.ref a2)] 2)) t := by
    intro t kt
    refine pre0 _ ?_
    show Steps p.tables e below (s₁.setTop (mkF m 0 #[.val (.ref a1), .val (.ref a2)] [])) _
    refine XS.aloadN X0.here hx rfl (hb hby d11_0) rfl rfl ?_
    show Steps p.tables e below (s₁.setTop (mkF m 1 #[.val (.ref a1), .val (.ref a2)] [(.ref a1)])) _
    refine st1 _ ?_
    show Steps p.tables e below (T1.setTop (mkF m 4 #[.val (.ref a1), .val (.ref a2)] [(.ref w_kind_a1)])) _
    refine st2 _ ?_
    exact kt
  by_cases hc7_4 : w_kind_a1 = w_PUNCT
  · obtain ⟨T5, X5, e5, st5⟩ := getF X2 hx hZ hown (host := "") (Or.inl (hw _ (List.mem_of_getElem? (i := 58) rfl))) Via.refl e2 F_text_a1 (g := (mkF m 11 #[.val (.ref a1), .val (.ref a2)] [(.ref a1)])) rfl rfl (hb hby d11_11)
    obtain ⟨cq6, kq6, q6a, q6b, q6c⟩ := isOf hZ e5 E_w_text_a1
    obtain ⟨_, _, ⟨T6, L6, k6, n6⟩, -, X6, ⟨Lc6, hQ6, l6, y6, z6⟩, st6⟩ := X5.virtualBack hx (y := (⟨"java/lang/String", "equals", "(Ljava/lang/Object;)Z"⟩ : MethodName)) (z := (⟨"java/lang/String", "equals", "(Ljava/lang/Object;)Z"⟩ : MethodName)) hown (mvT hZ (hw _ (List.mem_of_getElem? (i := 86) rfl))) (mvT hZ (hw _ (List.mem_of_getElem? (i := 87) rfl))) (notFace_of_selects (args := #[]) (mvT hZ (hw _ (List.mem_of_getElem? (i := 89) rfl)))) (mvT hZ (hw _ (List.mem_of_getElem? (i := 89) rfl))) (mvT hZ (hw _ (List.mem_of_getElem? (i := 88) rfl))) (by decide) (backOf (W := 0) (rm_eq_2_2 l Z a0 hw [] w_text_a1 a2 w_value_w_text_a1 ka x0 x1 w_value_a2 kb y0 y1 w_COMPACT_STRINGS h0 n0 (Nat.le_trans Z0 (Keep.refl h0 []).1) E_w_text_a1 F_coder_w_text_a1 F_value_w_text_a1 V_w_value_w_text_a1 E_a2 F_coder_a2 F_value_a2 V_w_value_a2 S_COMPACT_STRINGS (hne_t : w_text_a1 ≠ a2) (hCS : ¬ (w_COMPACT_STRINGS = (0 : Int32)))) hZ (hw _ (List.mem_of_getElem? (i := 90) rfl)) (hw _ (List.mem_of_getElem? (i := 7) rfl)) (by decide) (by decide)) q6a q6c (g := (mkF m 15 #[.val (.ref a1), .val (.ref a2)] [(.ref a2), (.ref w_text_a1)])) rfl (by rw [hml]; rfl) (Steps.refl _) (argsL := [(.ref a2)]) (rest := []) (lenOf pd7 rfl) rfl (by show 2 * 0 + _ ≤ _; exact Nat.le_of_eq rfl) (hb hby d11_15) (fun _ _ => ⟨rfl, e5, (by decide : 0 + 0 ≤ _), (by decide : 0 + 0 ≤ _)⟩)
    dsimp only [Pt.U, Pt.locs, Pt.cells, Pt.slots] at X6 l6 y6 z6 st6 hQ6
    subst l6 y6 z6
    obtain ⟨rfl, rfl, e6⟩ := hQ6
    have N6 := Fr.app N0 (Fr.nil n0)
    have pre7 : ∀ t, Steps p.tables e below (T6.setTop (mkF m 18 #[.val (.ref a1), .val (.ref a2)] [(.int (res_eq_2_2 x0 x1 y0 y1))])) t → Steps p.tables e below (s₁.setTop (entryFrame m #[(.ref a1), (.ref a2)] 2)) t := by
      intro t kt
      refine pre3 _ ?_
      show Steps p.tables e below (T2.setTop (mkF m 7 #[.val (.ref a1), .val (.ref a2)] [(.ref w_PUNCT), (.ref w_kind_a1)])) _
      refine Jvm.RoadKit.acmp (g := (mkF m 7 #[.val (.ref a1), .val (.ref a2)] [(.ref w_PUNCT), (.ref w_kind_a1)])) X2 hx rfl rfl rfl (pc0 := 7) (pc' := 10) (same := true) rfl (hb hby d11_7) rfl (decide_eq_true (congrArg Value.ref hc7_4)) (by decide) (by decide) ?_
      show Steps p.tables e below (T2.setTop (mkF m 10 #[.val (.ref a1), .val (.ref a2)] [])) _
      refine XS.aloadN X2.here hx rfl (hb hby d11_10) rfl rfl ?_
      show Steps p.tables e below (T2.setTop (mkF m 11 #[.val (.ref a1), .val (.ref a2)] [(.ref a1)])) _
      refine st5 _ ?_
      show Steps p.tables e below (T5.setTop (mkF m 14 #[.val (.ref a1), .val (.ref a2)] [(.ref w_text_a1)])) _
      refine XS.aloadN X5.here hx rfl (hb hby d11_14) rfl rfl ?_
      show Steps p.tables e below (T5.setTop (mkF m 15 #[.val (.ref a1), .val (.ref a2)] [(.ref a2), (.ref w_text_a1)])) _
      refine st6.trans ?_
      exact kt
    by_cases hc18_8 : (res_eq_2_2 x0 x1 y0 y1) = (0 : Int32)
    · obtain ⟨fs, hr, hrun, hended, hW, hsame⟩ := X6.leave (v := some (.int (0 : Int32))) (fun h => by rw [Bd.returns] at h; cases h)
      refine ⟨_, _, pre7 _ ?_, hrun, hended, _, _, rfl, ?_, ⟨_, rfl⟩, hW, hsame.mono (by decide) (by decide)⟩
      · show Steps p.tables e below (T6.setTop (mkF m 18 #[.val (.ref a1), .val (.ref a2)] [(.int (res_eq_2_2 x0 x1 y0 y1))])) _
        refine XS.ifYes X6.here hx rfl (pc0 := 18) (pc' := 25) rfl (hb hby d11_18) rfl ((if0 _ _).trans (teq hc18_8).1) (by decide) (by decide) ?_
        refine XS.iconst X6.here hx rfl (hb hby d11_25) ?_
        show Steps p.tables e below (T6.setTop (mkF m 26 #[.val (.ref a1), .val (.ref a2)] [(.int (0 : Int32))])) _
        exact retN X6 hx (t := .boolean) Bd.returns (by simp) (hb hby d11_26) hr
      · show Q_is_2_2 Z a1 a2 w_value_a2 kb y0 y1 w_text_a1 w_value_w_text_a1 ka x0 x1 w_kind_a1 w_PUNCT w_COMPACT_STRINGS h0 n0 _ T6.heap _
        rw [e6]
        exact ⟨by rw [res_is_2_2, if_pos hc7_4, if_pos hc18_8], rfl, rfl⟩
    · obtain ⟨fs, hr, hrun, hended, hW, hsame⟩ := X6.leave (v := some (.int (1 : Int32))) (fun h => by rw [Bd.returns] at h; cases h)
      refine ⟨_, _, pre7 _ ?_, hrun, hended, _, _, rfl, ?_, ⟨_, rfl⟩, hW, hsame.mono (by decide) (by decide)⟩
      · show Steps p.tables e below (T6.setTop (mkF m 18 #[.val (.ref a1), .val (.ref a2)] [(.int (res_eq_2_2 x0 x1 y0 y1))])) _
        refine XS.ifNo X6.here hx rfl (hb hby d11_18) rfl ((if0 _ _).trans (feq hc18_8).1) ?_
        refine XS.iconst X6.here hx rfl (hb hby d11_21) ?_
        show Steps p.tables e below (T6.setTop (mkF m 22 #[.val (.ref a1), .val (.ref a2)] [(.int (1 : Int32))])) _
        refine XS.goto X6.here hx rfl (pc0 := 22) (pc' := 26) rfl (hb hby d11_22) (by decide) (by decide) ?_
        show Steps p.tables e below (T6.setTop (mkF m 26 #[.val (.ref a1), .val (.ref a2)] [(.int (1 : Int32))])) _
        exact retN X6 hx (t := .boolean) Bd.returns (by simp) (hb hby d11_26) hr
      · show Q_is_2_2 Z a1 a2 w_value_a2 kb y0 y1 w_text_a1 w_value_w_text_a1 ka x0 x1 w_kind_a1 w_PUNCT w_COMPACT_STRINGS h0 n0 _ T6.heap _
        rw [e6]
        exact ⟨by rw [res_is_2_2, if_pos hc7_4, if_neg hc18_8], rfl, rfl⟩
  · obtain ⟨fs, hr, hrun, hended, hW, hsame⟩ := X2.leave (v := some (.int (0 : Int32))) (fun h => by rw [Bd.returns] at h; cases h)
    refine ⟨_, _, pre3 _ ?_, hrun, hended, _, _, rfl, ?_, ⟨_, rfl⟩, hW, hsame.mono (by decide) (by decide)⟩
    · show Steps p.tables e below (T2.setTop (mkF m 7 #[.val (.ref a1), .val (.ref a2)] [(.ref w_PUNCT), (.ref w_kind_a1)])) _
      refine Jvm.RoadKit.acmp (g := (mkF m 7 #[.val (.ref a1), .val (.ref a2)] [(.ref w_PUNCT), (.ref w_kind_a1)])) X2 hx rfl rfl rfl (pc0 := 7) (pc' := 25) (same := false) rfl (hb hby d11_7) rfl (decide_eq_false fun q => hc7_4 (Value.ref.inj q)) (by decide) (by decide) ?_
      show Steps p.tables e below (T2.setTop (mkF m 25 #[.val (.ref a1), .val (.ref a2)] [])) _
      refine XS.iconst X2.here hx rfl (hb hby d11_25) ?_
      show Steps p.tables e below (T2.setTop (mkF m 26 #[.val (.ref a1), .val (.ref a2)] [(.int (0 : Int32))])) _
      exact retN X2 hx (t := .boolean) Bd.returns (by simp) (hb hby d11_26) hr
    · show Q_is_2_2 Z a1 a2 w_value_a2 kb y0 y1 w_text_a1 w_value_w_text_a1 ka x0 x1 w_kind_a1 w_PUNCT w_COMPACT_STRINGS h0 n0 _ T2.heap _
      rw [e2]
      exact ⟨by rw [res_is_2_2, if_neg hc7_4], rfl, rfl⟩
def R8 (t : Int32) : Prop := 0 ≤ t.toInt ∧ t.toInt < 256
theorem own_R8 (x : Int32) : R8 ((x &&& (255 : Int32)).toUInt32.toUInt16.toUInt32.toInt32) := by
  have e : (x &&& (255 : Int32)).toInt = x.toInt % (2 ^ 8 : Nat) := c_mask x _ 8 (by decide) (by decide)
  rw [i2c_mask]
  unfold R8
  omega
theorem own_narc {t : Int32} (h : R8 t) : nar .char t = t := by
  have c := c_i2c t
  unfold R8 at h
  apply Int32.toInt_inj.mp
  show (t.toUInt32.toUInt16.toUInt32.toInt32).toInt = t.toInt
  omega
theorem own_nc {t : Int32} (h : R8 t) : ¬ ((255 : Int32) < (nar .char t)) := by
  rw [own_narc h, Int32.lt_iff_toInt_lt]
  have e : (255 : Int32).toInt = 255 := by decide
  unfold R8 at h
  omega
theorem own_narb (x : Int32) : nar .byte (x.toInt8.toInt32) = x.toInt8.toInt32 := by
  show x.toInt8.toInt32.toInt8.toInt32 = x.toInt8.toInt32
  simp
theorem own_byteq {t m : Int32} (ht : R8 t) (hm : R8 m) : ((nar .byte ((nar .char t).toInt8.toInt32)) = (nar .byte ((nar .char m).toInt8.toInt32))) ↔ t = m := by
  rw [own_narc ht, own_narc hm, own_narb, own_narb]
  constructor
  · intro h
    have a := c_i2b t
    have b := c_i2b m
    have e := congrArg Int32.toInt h
    unfold R8 at ht hm
    apply Int32.toInt_inj.mp
    omega
  · intro h; rw [h]
theorem own_range_15 {i : Int32} (h0 : 0 ≤ i.toInt) (h1 : i.toInt < 15) : i = (0 : Int32) ∨ i = (1 : Int32) ∨ i = (2 : Int32) ∨ i = (3 : Int32) ∨ i = (4 : Int32) ∨ i = (5 : Int32) ∨ i = (6 : Int32) ∨ i = (7 : Int32) ∨ i = (8 : Int32) ∨ i = (9 : Int32) ∨ i = (10 : Int32) ∨ i = (11 : Int32) ∨ i = (12 : Int32) ∨ i = (13 : Int32) ∨ i = (14 : Int32) := by
  have h : i.toInt = 0 ∨ i.toInt = 1 ∨ i.toInt = 2 ∨ i.toInt = 3 ∨ i.toInt = 4 ∨ i.toInt = 5 ∨ i.toInt = 6 ∨ i.toInt = 7 ∨ i.toInt = 8 ∨ i.toInt = 9 ∨ i.toInt = 10 ∨ i.toInt = 11 ∨ i.toInt = 12 ∨ i.toInt = 13 ∨ i.toInt = 14 := by omega
  rcases h with h | h | h | h | h | h | h | h | h | h | h | h | h | h | h
  · exact Or.inl (Int32.toInt_inj.mp (h.trans (by decide)))
  · exact Or.inr (Or.inl (Int32.toInt_inj.mp (h.trans (by decide))))
  · exact Or.inr (Or.inr (Or.inl (Int32.toInt_inj.mp (h.trans (by decide)))))
  · exact Or.inr (Or.inr (Or.inr (Or.inl (Int32.toInt_inj.mp (h.trans (by decide))))))
  · exact Or.inr (Or.inr (Or.inr (Or.inr (Or.inl (Int32.toInt_inj.mp (h.trans (by decide)))))))
  · exact Or.inr (Or.inr (Or.inr (Or.inr (Or.inr (Or.inl (Int32.toInt_inj.mp (h.trans (by decide))))))))
  · exact Or.inr (Or.inr (Or.inr (Or.inr (Or.inr (Or.inr (Or.inl (Int32.toInt_inj.mp (h.trans (by decide)))))))))
  · exact Or.inr (Or.inr (Or.inr (Or.inr (Or.inr (Or.inr (Or.inr (Or.inl (Int32.toInt_inj.mp (h.trans (by decide))))))))))
  · exact Or.inr (Or.inr (Or.inr (Or.inr (Or.inr (Or.inr (Or.inr (Or.inr (Or.inl (Int32.toInt_inj.mp (h.trans (by decide)))))))))))
  · exact Or.inr (Or.inr (Or.inr (Or.inr (Or.inr (Or.inr (Or.inr (Or.inr (Or.inr (Or.inl (Int32.toInt_inj.mp (h.trans (by decide))))))))))))
  · exact Or.inr (Or.inr (Or.inr (Or.inr (Or.inr (Or.inr (Or.inr (Or.inr (Or.inr (Or.inr (Or.inl (Int32.toInt_inj.mp (h.trans (by decide)))))))))))))
  · exact Or.inr (Or.inr (Or.inr (Or.inr (Or.inr (Or.inr (Or.inr (Or.inr (Or.inr (Or.inr (Or.inr (Or.inl (Int32.toInt_inj.mp (h.trans (by decide))))))))))))))
  · exact Or.inr (Or.inr (Or.inr (Or.inr (Or.inr (Or.inr (Or.inr (Or.inr (Or.inr (Or.inr (Or.inr (Or.inr (Or.inl (Int32.toInt_inj.mp (h.trans (by decide)))))))))))))))
  · exact Or.inr (Or.inr (Or.inr (Or.inr (Or.inr (Or.inr (Or.inr (Or.inr (Or.inr (Or.inr (Or.inr (Or.inr (Or.inr (Or.inl (Int32.toInt_inj.mp (h.trans (by decide))))))))))))))))
  · exact Or.inr (Or.inr (Or.inr (Or.inr (Or.inr (Or.inr (Or.inr (Or.inr (Or.inr (Or.inr (Or.inr (Or.inr (Or.inr (Or.inr ((Int32.toInt_inj.mp (h.trans (by decide)))))))))))))))))
def Dis (w_IRI w_PNAME_NS w_PNAME_LN w_BLANK_NODE_LABEL w_VAR w_STRING w_LANGTAG w_INTEGER w_DECIMAL w_DOUBLE w_NIL w_ANON w_WORD w_PUNCT w_EOF : Addr) : Prop := w_IRI ≠ w_PUNCT ∧ w_PNAME_NS ≠ w_PUNCT ∧ w_PNAME_LN ≠ w_PUNCT ∧ w_BLANK_NODE_LABEL ≠ w_PUNCT ∧ w_VAR ≠ w_PUNCT ∧ w_STRING ≠ w_PUNCT ∧ w_LANGTAG ≠ w_PUNCT ∧ w_INTEGER ≠ w_PUNCT ∧ w_DECIMAL ≠ w_PUNCT ∧ w_DOUBLE ≠ w_PUNCT ∧ w_NIL ≠ w_PUNCT ∧ w_ANON ≠ w_PUNCT ∧ w_WORD ≠ w_PUNCT ∧ w_EOF ≠ w_PUNCT
theorem own_rng (p1 : Int32) : 0 ≤ (((p1 &&& (2147483647 : Int32)) % (15 : Int32))).toInt ∧ (((p1 &&& (2147483647 : Int32)) % (15 : Int32))).toInt < 15 := by
  have e1 : (p1 &&& (2147483647 : Int32)).toInt = p1.toInt % (2 ^ 31 : Nat) := c_mask p1 _ 31 (by decide) (by decide)
  have e2 := (c_irem (p1 &&& (2147483647 : Int32)) 15 15 (by decide)).1 (by omega)
  omega
theorem own_range_3 {i : Int32} (h0 : 0 ≤ i.toInt) (h1 : i.toInt < 3) : i = (0 : Int32) ∨ i = (1 : Int32) ∨ i = (2 : Int32) := by
  have h : i.toInt = 0 ∨ i.toInt = 1 ∨ i.toInt = 2 := by omega
  rcases h with h | h | h
  · exact Or.inl (Int32.toInt_inj.mp (h.trans (by decide)))
  · exact Or.inr (Or.inl (Int32.toInt_inj.mp (h.trans (by decide))))
  · exact Or.inr (Or.inr ((Int32.toInt_inj.mp (h.trans (by decide)))))
theorem own_l3 (x : Int32) : ((x &&& (3 : Int32)) % (3 : Int32)) = (0 : Int32) ∨ ((x &&& (3 : Int32)) % (3 : Int32)) = (1 : Int32) ∨ ((x &&& (3 : Int32)) % (3 : Int32)) = (2 : Int32) := by
  have e1 : (x &&& (3 : Int32)).toInt = x.toInt % (2 ^ 2 : Nat) := c_mask x _ 2 (by decide) (by decide)
  have e2 := (c_irem (x &&& (3 : Int32)) 3 3 (by decide)).1 (by omega)
  exact own_range_3 (by omega) (by omega)
theorem own_x32 : ∀ i : Fin 256, 0 ≤ (((Int32.ofNat i.1) ^^^ (32 : Int32)).toUInt32.toUInt16.toUInt32.toInt32).toInt ∧ (((Int32.ofNat i.1) ^^^ (32 : Int32)).toUInt32.toUInt16.toUInt32.toInt32).toInt < 256 := by decide +kernel
theorem own_x0 : ∀ i : Fin 256, 0 ≤ (((Int32.ofNat i.1) ^^^ (0 : Int32)).toUInt32.toUInt16.toUInt32.toInt32).toInt ∧ (((Int32.ofNat i.1) ^^^ (0 : Int32)).toUInt32.toUInt16.toUInt32.toInt32).toInt < 256 := by decide +kernel
theorem own_fin256 {t : Int32} (h : R8 t) : ∃ i : Fin 256, t = Int32.ofNat i.1 := by
  unfold R8 at h
  refine ⟨⟨t.toInt.toNat, by omega⟩, ?_⟩
  apply Int32.toInt_inj.mp
  rw [show (Int32.ofNat (t.toInt.toNat)).toInt = (t.toInt.toNat : Int) from Int32.toInt_ofNat_small (by omega)]
  omega
def mg0_50_s0 (p4 : Int32) : Int32 := if (((p4.toUInt32 >>> ((6 : Int32) &&& 31).toUInt32).toInt32) &&& (1 : Int32)) = (0 : Int32) then (0 : Int32) else (32 : Int32)
def mg0_66_s0 (p2 : Int32) (p3 : Int32) (p4 : Int32) : Int32 := if (((p4.toUInt32 >>> ((4 : Int32) &&& 31).toUInt32).toInt32) &&& (1 : Int32)) = (0 : Int32) then ((p3 &&& (255 : Int32)).toUInt32.toUInt16.toUInt32.toInt32) else ((((p2 &&& (255 : Int32)).toUInt32.toUInt16.toUInt32.toInt32) ^^^ (mg0_50_s0 p4)).toUInt32.toUInt16.toUInt32.toInt32)
def mg0_91_s0 (p2 : Int32) (p3 : Int32) (p4 : Int32) : Int32 := if (((p4.toUInt32 >>> ((5 : Int32) &&& 31).toUInt32).toInt32) &&& (1 : Int32)) = (0 : Int32) then ((((p3.toUInt32 >>> ((8 : Int32) &&& 31).toUInt32).toInt32) &&& (255 : Int32)).toUInt32.toUInt16.toUInt32.toInt32) else ((((p2.toUInt32 >>> ((8 : Int32) &&& 31).toUInt32).toInt32) &&& (255 : Int32)).toUInt32.toUInt16.toUInt32.toInt32)
def mg0_155_s0 (sv : Int32) : Int32 := if sv = (13 : Int32) then (1 : Int32) else (0 : Int32)
def mg0_155_s0' (sv : Int32) (m0 : Int32) (t0 : Int32) : Int32 := if sv = (13 : Int32) then (if t0 = m0 then (1 : Int32) else (0 : Int32)) else (0 : Int32)
def mg0_155_s0'' (sv : Int32) (m0 : Int32) (m1 : Int32) (t0 : Int32) (t1 : Int32) : Int32 := if sv = (13 : Int32) then (if t0 = m0 then (if t1 = m1 then (1 : Int32) else (0 : Int32)) else (0 : Int32)) else (0 : Int32)
theorem own_m0 (a b c : Int32) : R8 (mg0_66_s0 a b c) := by
  unfold mg0_66_s0
  split
  · exact own_R8 _
  · obtain ⟨i, hi⟩ := own_fin256 (own_R8 a)
    rw [hi]
    unfold mg0_50_s0
    split
    · exact own_x0 i
    · exact own_x32 i
theorem own_m1 (a b c : Int32) : R8 (mg0_91_s0 a b c) := by
  unfold mg0_91_s0
  split <;> exact own_R8 _
theorem own_kind {sv : Int32} (w_IRI w_PNAME_NS w_PNAME_LN w_BLANK_NODE_LABEL w_VAR w_STRING w_LANGTAG w_INTEGER w_DECIMAL w_DOUBLE w_NIL w_ANON w_WORD w_PUNCT w_EOF : Addr) (rs : 0 ≤ sv.toInt ∧ sv.toInt < 15) (hD : Dis w_IRI w_PNAME_NS w_PNAME_LN w_BLANK_NODE_LABEL w_VAR w_STRING w_LANGTAG w_INTEGER w_DECIMAL w_DOUBLE w_NIL w_ANON w_WORD w_PUNCT w_EOF) : ((res8 sv w_IRI w_PNAME_NS w_PNAME_LN w_BLANK_NODE_LABEL w_VAR w_STRING w_LANGTAG w_INTEGER w_DECIMAL w_DOUBLE w_NIL w_ANON w_WORD w_PUNCT w_EOF) = w_PUNCT) ↔ sv = (13 : Int32) := by
  unfold Dis at hD
  rcases own_range_15 rs.1 rs.2 with rfl | rfl | rfl | rfl | rfl | rfl | rfl | rfl | rfl | rfl | rfl | rfl | rfl | rfl | rfl <;> simp [res8, hD]
theorem own_eq_0_0 {sv t0 t1 m0 m1 : Int32} (w_IRI w_PNAME_NS w_PNAME_LN w_BLANK_NODE_LABEL w_VAR w_STRING w_LANGTAG w_INTEGER w_DECIMAL w_DOUBLE w_NIL w_ANON w_WORD w_PUNCT w_EOF : Addr) (rs : 0 ≤ sv.toInt ∧ sv.toInt < 15) (r_t0 : R8 t0) (r_t1 : R8 t1) (r_m0 : R8 m0) (r_m1 : R8 m1) (hD : Dis w_IRI w_PNAME_NS w_PNAME_LN w_BLANK_NODE_LABEL w_VAR w_STRING w_LANGTAG w_INTEGER w_DECIMAL w_DOUBLE w_NIL w_ANON w_WORD w_PUNCT w_EOF) : (res_is_0_0 (res8 sv w_IRI w_PNAME_NS w_PNAME_LN w_BLANK_NODE_LABEL w_VAR w_STRING w_LANGTAG w_INTEGER w_DECIMAL w_DOUBLE w_NIL w_ANON w_WORD w_PUNCT w_EOF) w_PUNCT) = (mg0_155_s0 sv) := by
  have hk := own_kind w_IRI w_PNAME_NS w_PNAME_LN w_BLANK_NODE_LABEL w_VAR w_STRING w_LANGTAG w_INTEGER w_DECIMAL w_DOUBLE w_NIL w_ANON w_WORD w_PUNCT w_EOF rs hD
  have h0 := own_byteq r_t0 r_m0
  have h1 := own_byteq r_t1 r_m1
  unfold res_is_0_0 mg0_155_s0
  simp only [ hk, h0, h1]
  all_goals (by_cases a : sv = (13 : Int32) <;> by_cases b : t0 = m0 <;> by_cases c : t1 = m1 <;> simp [a, b, c])
theorem own_eq_0_1 {sv t0 t1 m0 m1 : Int32} (w_IRI w_PNAME_NS w_PNAME_LN w_BLANK_NODE_LABEL w_VAR w_STRING w_LANGTAG w_INTEGER w_DECIMAL w_DOUBLE w_NIL w_ANON w_WORD w_PUNCT w_EOF : Addr) (rs : 0 ≤ sv.toInt ∧ sv.toInt < 15) (r_t0 : R8 t0) (r_t1 : R8 t1) (r_m0 : R8 m0) (r_m1 : R8 m1) (hD : Dis w_IRI w_PNAME_NS w_PNAME_LN w_BLANK_NODE_LABEL w_VAR w_STRING w_LANGTAG w_INTEGER w_DECIMAL w_DOUBLE w_NIL w_ANON w_WORD w_PUNCT w_EOF) : (res_is_0_1 (res8 sv w_IRI w_PNAME_NS w_PNAME_LN w_BLANK_NODE_LABEL w_VAR w_STRING w_LANGTAG w_INTEGER w_DECIMAL w_DOUBLE w_NIL w_ANON w_WORD w_PUNCT w_EOF) w_PUNCT) = (0 : Int32) := by
  have hk := own_kind w_IRI w_PNAME_NS w_PNAME_LN w_BLANK_NODE_LABEL w_VAR w_STRING w_LANGTAG w_INTEGER w_DECIMAL w_DOUBLE w_NIL w_ANON w_WORD w_PUNCT w_EOF rs hD
  have h0 := own_byteq r_t0 r_m0
  have h1 := own_byteq r_t1 r_m1
  unfold res_is_0_1
  simp only [ hk, h0, h1]
  all_goals (by_cases a : sv = (13 : Int32) <;> by_cases b : t0 = m0 <;> by_cases c : t1 = m1 <;> simp [a, b, c])
theorem own_eq_0_2 {sv t0 t1 m0 m1 : Int32} (w_IRI w_PNAME_NS w_PNAME_LN w_BLANK_NODE_LABEL w_VAR w_STRING w_LANGTAG w_INTEGER w_DECIMAL w_DOUBLE w_NIL w_ANON w_WORD w_PUNCT w_EOF : Addr) (rs : 0 ≤ sv.toInt ∧ sv.toInt < 15) (r_t0 : R8 t0) (r_t1 : R8 t1) (r_m0 : R8 m0) (r_m1 : R8 m1) (hD : Dis w_IRI w_PNAME_NS w_PNAME_LN w_BLANK_NODE_LABEL w_VAR w_STRING w_LANGTAG w_INTEGER w_DECIMAL w_DOUBLE w_NIL w_ANON w_WORD w_PUNCT w_EOF) : (res_is_0_2 (res8 sv w_IRI w_PNAME_NS w_PNAME_LN w_BLANK_NODE_LABEL w_VAR w_STRING w_LANGTAG w_INTEGER w_DECIMAL w_DOUBLE w_NIL w_ANON w_WORD w_PUNCT w_EOF) w_PUNCT) = (0 : Int32) := by
  have hk := own_kind w_IRI w_PNAME_NS w_PNAME_LN w_BLANK_NODE_LABEL w_VAR w_STRING w_LANGTAG w_INTEGER w_DECIMAL w_DOUBLE w_NIL w_ANON w_WORD w_PUNCT w_EOF rs hD
  have h0 := own_byteq r_t0 r_m0
  have h1 := own_byteq r_t1 r_m1
  unfold res_is_0_2
  simp only [ hk, h0, h1]
  all_goals (by_cases a : sv = (13 : Int32) <;> by_cases b : t0 = m0 <;> by_cases c : t1 = m1 <;> simp [a, b, c])
theorem own_eq_1_0 {sv t0 t1 m0 m1 : Int32} (w_IRI w_PNAME_NS w_PNAME_LN w_BLANK_NODE_LABEL w_VAR w_STRING w_LANGTAG w_INTEGER w_DECIMAL w_DOUBLE w_NIL w_ANON w_WORD w_PUNCT w_EOF : Addr) (rs : 0 ≤ sv.toInt ∧ sv.toInt < 15) (r_t0 : R8 t0) (r_t1 : R8 t1) (r_m0 : R8 m0) (r_m1 : R8 m1) (hD : Dis w_IRI w_PNAME_NS w_PNAME_LN w_BLANK_NODE_LABEL w_VAR w_STRING w_LANGTAG w_INTEGER w_DECIMAL w_DOUBLE w_NIL w_ANON w_WORD w_PUNCT w_EOF) : (res_is_1_0 (res8 sv w_IRI w_PNAME_NS w_PNAME_LN w_BLANK_NODE_LABEL w_VAR w_STRING w_LANGTAG w_INTEGER w_DECIMAL w_DOUBLE w_NIL w_ANON w_WORD w_PUNCT w_EOF) w_PUNCT) = (0 : Int32) := by
  have hk := own_kind w_IRI w_PNAME_NS w_PNAME_LN w_BLANK_NODE_LABEL w_VAR w_STRING w_LANGTAG w_INTEGER w_DECIMAL w_DOUBLE w_NIL w_ANON w_WORD w_PUNCT w_EOF rs hD
  have h0 := own_byteq r_t0 r_m0
  have h1 := own_byteq r_t1 r_m1
  unfold res_is_1_0
  simp only [ hk, h0, h1]
  all_goals (by_cases a : sv = (13 : Int32) <;> by_cases b : t0 = m0 <;> by_cases c : t1 = m1 <;> simp [a, b, c])
theorem own_eq_1_1 {sv t0 t1 m0 m1 : Int32} (w_IRI w_PNAME_NS w_PNAME_LN w_BLANK_NODE_LABEL w_VAR w_STRING w_LANGTAG w_INTEGER w_DECIMAL w_DOUBLE w_NIL w_ANON w_WORD w_PUNCT w_EOF : Addr) (rs : 0 ≤ sv.toInt ∧ sv.toInt < 15) (r_t0 : R8 t0) (r_t1 : R8 t1) (r_m0 : R8 m0) (r_m1 : R8 m1) (hD : Dis w_IRI w_PNAME_NS w_PNAME_LN w_BLANK_NODE_LABEL w_VAR w_STRING w_LANGTAG w_INTEGER w_DECIMAL w_DOUBLE w_NIL w_ANON w_WORD w_PUNCT w_EOF) : (res_is_1_1 (nar .byte ((nar .char m0).toInt8.toInt32)) (nar .byte ((nar .char t0).toInt8.toInt32)) (res8 sv w_IRI w_PNAME_NS w_PNAME_LN w_BLANK_NODE_LABEL w_VAR w_STRING w_LANGTAG w_INTEGER w_DECIMAL w_DOUBLE w_NIL w_ANON w_WORD w_PUNCT w_EOF) w_PUNCT) = (mg0_155_s0' sv m0 t0) := by
  have hk := own_kind w_IRI w_PNAME_NS w_PNAME_LN w_BLANK_NODE_LABEL w_VAR w_STRING w_LANGTAG w_INTEGER w_DECIMAL w_DOUBLE w_NIL w_ANON w_WORD w_PUNCT w_EOF rs hD
  have h0 := own_byteq r_t0 r_m0
  have h1 := own_byteq r_t1 r_m1
  unfold res_is_1_1 mg0_155_s0'
  simp only [res_eq_1_1, res_leq_1_1, hk, h0, h1]
  all_goals (by_cases a : sv = (13 : Int32) <;> by_cases b : t0 = m0 <;> by_cases c : t1 = m1 <;> simp [a, b, c])
theorem own_eq_1_2 {sv t0 t1 m0 m1 : Int32} (w_IRI w_PNAME_NS w_PNAME_LN w_BLANK_NODE_LABEL w_VAR w_STRING w_LANGTAG w_INTEGER w_DECIMAL w_DOUBLE w_NIL w_ANON w_WORD w_PUNCT w_EOF : Addr) (rs : 0 ≤ sv.toInt ∧ sv.toInt < 15) (r_t0 : R8 t0) (r_t1 : R8 t1) (r_m0 : R8 m0) (r_m1 : R8 m1) (hD : Dis w_IRI w_PNAME_NS w_PNAME_LN w_BLANK_NODE_LABEL w_VAR w_STRING w_LANGTAG w_INTEGER w_DECIMAL w_DOUBLE w_NIL w_ANON w_WORD w_PUNCT w_EOF) : (res_is_1_2 (res8 sv w_IRI w_PNAME_NS w_PNAME_LN w_BLANK_NODE_LABEL w_VAR w_STRING w_LANGTAG w_INTEGER w_DECIMAL w_DOUBLE w_NIL w_ANON w_WORD w_PUNCT w_EOF) w_PUNCT) = (0 : Int32) := by
  have hk := own_kind w_IRI w_PNAME_NS w_PNAME_LN w_BLANK_NODE_LABEL w_VAR w_STRING w_LANGTAG w_INTEGER w_DECIMAL w_DOUBLE w_NIL w_ANON w_WORD w_PUNCT w_EOF rs hD
  have h0 := own_byteq r_t0 r_m0
  have h1 := own_byteq r_t1 r_m1
  unfold res_is_1_2
  simp only [ hk, h0, h1]
  all_goals (by_cases a : sv = (13 : Int32) <;> by_cases b : t0 = m0 <;> by_cases c : t1 = m1 <;> simp [a, b, c])
theorem own_eq_2_0 {sv t0 t1 m0 m1 : Int32} (w_IRI w_PNAME_NS w_PNAME_LN w_BLANK_NODE_LABEL w_VAR w_STRING w_LANGTAG w_INTEGER w_DECIMAL w_DOUBLE w_NIL w_ANON w_WORD w_PUNCT w_EOF : Addr) (rs : 0 ≤ sv.toInt ∧ sv.toInt < 15) (r_t0 : R8 t0) (r_t1 : R8 t1) (r_m0 : R8 m0) (r_m1 : R8 m1) (hD : Dis w_IRI w_PNAME_NS w_PNAME_LN w_BLANK_NODE_LABEL w_VAR w_STRING w_LANGTAG w_INTEGER w_DECIMAL w_DOUBLE w_NIL w_ANON w_WORD w_PUNCT w_EOF) : (res_is_2_0 (res8 sv w_IRI w_PNAME_NS w_PNAME_LN w_BLANK_NODE_LABEL w_VAR w_STRING w_LANGTAG w_INTEGER w_DECIMAL w_DOUBLE w_NIL w_ANON w_WORD w_PUNCT w_EOF) w_PUNCT) = (0 : Int32) := by
  have hk := own_kind w_IRI w_PNAME_NS w_PNAME_LN w_BLANK_NODE_LABEL w_VAR w_STRING w_LANGTAG w_INTEGER w_DECIMAL w_DOUBLE w_NIL w_ANON w_WORD w_PUNCT w_EOF rs hD
  have h0 := own_byteq r_t0 r_m0
  have h1 := own_byteq r_t1 r_m1
  unfold res_is_2_0
  simp only [ hk, h0, h1]
  all_goals (by_cases a : sv = (13 : Int32) <;> by_cases b : t0 = m0 <;> by_cases c : t1 = m1 <;> simp [a, b, c])
theorem own_eq_2_1 {sv t0 t1 m0 m1 : Int32} (w_IRI w_PNAME_NS w_PNAME_LN w_BLANK_NODE_LABEL w_VAR w_STRING w_LANGTAG w_INTEGER w_DECIMAL w_DOUBLE w_NIL w_ANON w_WORD w_PUNCT w_EOF : Addr) (rs : 0 ≤ sv.toInt ∧ sv.toInt < 15) (r_t0 : R8 t0) (r_t1 : R8 t1) (r_m0 : R8 m0) (r_m1 : R8 m1) (hD : Dis w_IRI w_PNAME_NS w_PNAME_LN w_BLANK_NODE_LABEL w_VAR w_STRING w_LANGTAG w_INTEGER w_DECIMAL w_DOUBLE w_NIL w_ANON w_WORD w_PUNCT w_EOF) : (res_is_2_1 (res8 sv w_IRI w_PNAME_NS w_PNAME_LN w_BLANK_NODE_LABEL w_VAR w_STRING w_LANGTAG w_INTEGER w_DECIMAL w_DOUBLE w_NIL w_ANON w_WORD w_PUNCT w_EOF) w_PUNCT) = (0 : Int32) := by
  have hk := own_kind w_IRI w_PNAME_NS w_PNAME_LN w_BLANK_NODE_LABEL w_VAR w_STRING w_LANGTAG w_INTEGER w_DECIMAL w_DOUBLE w_NIL w_ANON w_WORD w_PUNCT w_EOF rs hD
  have h0 := own_byteq r_t0 r_m0
  have h1 := own_byteq r_t1 r_m1
  unfold res_is_2_1
  simp only [ hk, h0, h1]
  all_goals (by_cases a : sv = (13 : Int32) <;> by_cases b : t0 = m0 <;> by_cases c : t1 = m1 <;> simp [a, b, c])
theorem own_eq_2_2 {sv t0 t1 m0 m1 : Int32} (w_IRI w_PNAME_NS w_PNAME_LN w_BLANK_NODE_LABEL w_VAR w_STRING w_LANGTAG w_INTEGER w_DECIMAL w_DOUBLE w_NIL w_ANON w_WORD w_PUNCT w_EOF : Addr) (rs : 0 ≤ sv.toInt ∧ sv.toInt < 15) (r_t0 : R8 t0) (r_t1 : R8 t1) (r_m0 : R8 m0) (r_m1 : R8 m1) (hD : Dis w_IRI w_PNAME_NS w_PNAME_LN w_BLANK_NODE_LABEL w_VAR w_STRING w_LANGTAG w_INTEGER w_DECIMAL w_DOUBLE w_NIL w_ANON w_WORD w_PUNCT w_EOF) : (res_is_2_2 (nar .byte ((nar .char m0).toInt8.toInt32)) (nar .byte ((nar .char m1).toInt8.toInt32)) (nar .byte ((nar .char t0).toInt8.toInt32)) (nar .byte ((nar .char t1).toInt8.toInt32)) (res8 sv w_IRI w_PNAME_NS w_PNAME_LN w_BLANK_NODE_LABEL w_VAR w_STRING w_LANGTAG w_INTEGER w_DECIMAL w_DOUBLE w_NIL w_ANON w_WORD w_PUNCT w_EOF) w_PUNCT) = (mg0_155_s0'' sv m0 m1 t0 t1) := by
  have hk := own_kind w_IRI w_PNAME_NS w_PNAME_LN w_BLANK_NODE_LABEL w_VAR w_STRING w_LANGTAG w_INTEGER w_DECIMAL w_DOUBLE w_NIL w_ANON w_WORD w_PUNCT w_EOF rs hD
  have h0 := own_byteq r_t0 r_m0
  have h1 := own_byteq r_t1 r_m1
  unfold res_is_2_2 mg0_155_s0''
  simp only [res_eq_2_2, res_leq_2_2, hk, h0, h1]
  all_goals (by_cases a : sv = (13 : Int32) <;> by_cases b : t0 = m0 <;> by_cases c : t1 = m1 <;> simp [a, b, c])
theorem pd8 : parseMethodDescriptor "(ICC)Ljava/lang/String;" = some ⟨[.int, .char, .char], some (.object "java/lang/String")⟩ := by decide +kernel
theorem pd9 : parseMethodDescriptor "(I)Lcom/example/cantrip/cantrip/Token$Kind;" = some ⟨[.int], some (.object "com/example/cantrip/cantrip/Token$Kind")⟩ := by decide +kernel
theorem pd10 : parseMethodDescriptor "(Lcom/example/cantrip/cantrip/Token$Kind;Ljava/lang/String;I)V" = some ⟨[(.object "com/example/cantrip/cantrip/Token$Kind"), (.object "java/lang/String"), .int], none⟩ := by decide +kernel
theorem pd11 : parseMethodDescriptor "(Ljava/lang/String;)Z" = some ⟨[(.object "java/lang/String")], some .boolean⟩ := by decide +kernel
theorem ef0 (m : MethodId) (p1 : Int32) (p2 : Int32) (p3 : Int32) (p4 : Int32) : entryFrame m #[(.int p1), (.int p2), (.int p3), (.int p4)] maxLocals = (mkF m 0 #[.val (.int p1), .val (.int p2), .val (.int p3), .val (.int p4), .unset, .unset, .unset, .unset, .unset, .unset, .unset, .unset, .unset, .unset, .unset, .unset] []) := by first | (simp [entryFrame, mkF, argsToLocals, Value.category, maxLocals]; done) | rfl
def Q0 (Z : State) (p1 : Int32) (p2 : Int32) (p3 : Int32) (p4 : Int32) (w_IRI : Addr) (w_PNAME_NS : Addr) (w_PNAME_LN : Addr) (w_BLANK_NODE_LABEL : Addr) (w_VAR : Addr) (w_STRING : Addr) (w_LANGTAG : Addr) (w_INTEGER : Addr) (w_DECIMAL : Addr) (w_DOUBLE : Addr) (w_NIL : Addr) (w_ANON : Addr) (w_WORD : Addr) (w_PUNCT : Addr) (w_EOF : Addr) (w_COMPACT_STRINGS : Int32) (h0 : Heap) (n0 : Nat) (v : Option Value) (h : Heap) (L : List Loc) : Prop := v = some (.int (1 : Int32)) ∧ Fr n0 L
set_option maxRecDepth 65536 in
set_option maxHeartbeats 40000000 in
theorem rm0 (l : Launch) (Z : State) (a0 : Array Value) (hw : ∀ d ∈ tables_1, d.before a0 Z = true) (ws : List Jvm.Cond) (p1 : Int32) (p2 : Int32) (p3 : Int32) (p4 : Int32) (w_IRI : Addr) (w_PNAME_NS : Addr) (w_PNAME_LN : Addr) (w_BLANK_NODE_LABEL : Addr) (w_VAR : Addr) (w_STRING : Addr) (w_LANGTAG : Addr) (w_INTEGER : Addr) (w_DECIMAL : Addr) (w_DOUBLE : Addr) (w_NIL : Addr) (w_ANON : Addr) (w_WORD : Addr) (w_PUNCT : Addr) (w_EOF : Addr) (w_COMPACT_STRINGS : Int32) (h0 : Heap) (n0 : Nat) (Z0 : n0 ≤ h0.size) (S_IRI : Sta Z h0 "com/example/cantrip/cantrip/Token$Kind" "IRI" "Lcom/example/cantrip/cantrip/Token$Kind;" (.ref w_IRI)) (E_w_IRI : Exa Z h0 w_IRI "com/example/cantrip/cantrip/Token$Kind") (S_PNAME_NS : Sta Z h0 "com/example/cantrip/cantrip/Token$Kind" "PNAME_NS" "Lcom/example/cantrip/cantrip/Token$Kind;" (.ref w_PNAME_NS)) (E_w_PNAME_NS : Exa Z h0 w_PNAME_NS "com/example/cantrip/cantrip/Token$Kind") (S_PNAME_LN : Sta Z h0 "com/example/cantrip/cantrip/Token$Kind" "PNAME_LN" "Lcom/example/cantrip/cantrip/Token$Kind;" (.ref w_PNAME_LN)) (E_w_PNAME_LN : Exa Z h0 w_PNAME_LN "com/example/cantrip/cantrip/Token$Kind") (S_BLANK_NODE_LABEL : Sta Z h0 "com/example/cantrip/cantrip/Token$Kind" "BLANK_NODE_LABEL" "Lcom/example/cantrip/cantrip/Token$Kind;" (.ref w_BLANK_NODE_LABEL)) (E_w_BLANK_NODE_LABEL : Exa Z h0 w_BLANK_NODE_LABEL "com/example/cantrip/cantrip/Token$Kind") (S_VAR : Sta Z h0 "com/example/cantrip/cantrip/Token$Kind" "VAR" "Lcom/example/cantrip/cantrip/Token$Kind;" (.ref w_VAR)) (E_w_VAR : Exa Z h0 w_VAR "com/example/cantrip/cantrip/Token$Kind") (S_STRING : Sta Z h0 "com/example/cantrip/cantrip/Token$Kind" "STRING" "Lcom/example/cantrip/cantrip/Token$Kind;" (.ref w_STRING)) (E_w_STRING : Exa Z h0 w_STRING "com/example/cantrip/cantrip/Token$Kind") (S_LANGTAG : Sta Z h0 "com/example/cantrip/cantrip/Token$Kind" "LANGTAG" "Lcom/example/cantrip/cantrip/Token$Kind;" (.ref w_LANGTAG)) (E_w_LANGTAG : Exa Z h0 w_LANGTAG "com/example/cantrip/cantrip/Token$Kind") (S_INTEGER : Sta Z h0 "com/example/cantrip/cantrip/Token$Kind" "INTEGER" "Lcom/example/cantrip/cantrip/Token$Kind;" (.ref w_INTEGER)) (E_w_INTEGER : Exa Z h0 w_INTEGER "com/example/cantrip/cantrip/Token$Kind") (S_DECIMAL : Sta Z h0 "com/example/cantrip/cantrip/Token$Kind" "DECIMAL" "Lcom/example/cantrip/cantrip/Token$Kind;" (.ref w_DECIMAL)) (E_w_DECIMAL : Exa Z h0 w_DECIMAL "com/example/cantrip/cantrip/Token$Kind") (S_DOUBLE : Sta Z h0 "com/example/cantrip/cantrip/Token$Kind" "DOUBLE" "Lcom/example/cantrip/cantrip/Token$Kind;" (.ref w_DOUBLE)) (E_w_DOUBLE : Exa Z h0 w_DOUBLE "com/example/cantrip/cantrip/Token$Kind") (S_NIL : Sta Z h0 "com/example/cantrip/cantrip/Token$Kind" "NIL" "Lcom/example/cantrip/cantrip/Token$Kind;" (.ref w_NIL)) (E_w_NIL : Exa Z h0 w_NIL "com/example/cantrip/cantrip/Token$Kind") (S_ANON : Sta Z h0 "com/example/cantrip/cantrip/Token$Kind" "ANON" "Lcom/example/cantrip/cantrip/Token$Kind;" (.ref w_ANON)) (E_w_ANON : Exa Z h0 w_ANON "com/example/cantrip/cantrip/Token$Kind") (S_WORD : Sta Z h0 "com/example/cantrip/cantrip/Token$Kind" "WORD" "Lcom/example/cantrip/cantrip/Token$Kind;" (.ref w_WORD)) (E_w_WORD : Exa Z h0 w_WORD "com/example/cantrip/cantrip/Token$Kind") (S_PUNCT : Sta Z h0 "com/example/cantrip/cantrip/Token$Kind" "PUNCT" "Lcom/example/cantrip/cantrip/Token$Kind;" (.ref w_PUNCT)) (E_w_PUNCT : Exa Z h0 w_PUNCT "com/example/cantrip/cantrip/Token$Kind") (S_EOF : Sta Z h0 "com/example/cantrip/cantrip/Token$Kind" "EOF" "Lcom/example/cantrip/cantrip/Token$Kind;" (.ref w_EOF)) (E_w_EOF : Exa Z h0 w_EOF "com/example/cantrip/cantrip/Token$Kind") (S_COMPACT_STRINGS : Sta Z h0 "java/lang/String" "COMPACT_STRINGS" "Z" (.int w_COMPACT_STRINGS)) (hCS : ¬ (w_COMPACT_STRINGS = (0 : Int32))) (hD : Dis w_IRI w_PNAME_NS w_PNAME_LN w_BLANK_NODE_LABEL w_VAR w_STRING w_LANGTAG w_INTEGER w_DECIMAL w_DOUBLE w_NIL w_ANON w_WORD w_PUNCT w_EOF) (hEL : EW Z a0 EL1) :
    MetFree l x (head1 (Jvm.Cond.code x code maxLocals ret :: ws) room_1) (fun a U => a = #[(.int p1), (.int p2), (.int p3), (.int p4)] ∧ Z.Warmed39 U.vm ∧ U.heap = h0 ∧ CHv Z EL1 U.vm h0) (fun _ _ _ _ _ => True) (fun _ U o U' => ∃ v L, o = .returned v ∧ Q0 Z p1 p2 p3 p4 w_IRI w_PNAME_NS w_PNAME_LN w_BLANK_NODE_LABEL w_VAR w_STRING w_LANGTAG w_INTEGER w_DECIMAL w_DOUBLE w_NIL w_ANON w_WORD w_PUNCT w_EOF w_COMPACT_STRINGS h0 n0 v U'.heap L ∧ ReturnedEndW U o U' L room_1.cells room_1.slots) := by
  refine MetFree.of_bodySF (plainFor_of_name pn2) hisR ?_
  intro p e s m args below meth c s₁ Bd hml0 hP hK
  obtain ⟨rfl, hZ, hh, HC⟩ := hP
  have hx := Bd.exec
  have hby := Bd.bytes
  have hml : c.maxLocals = 16 := hml0
  have hown : s.vm.findClass "com/example/cantrip/cantrip/TokenIsPinLaw" = some m.cls := findClass_of_methodNamed Bd.named
  have hnm := (name_of_methodNamed Bd.named Bd.method).1
  have X0 : Stand p l e room_1 (s.setVm s.vm) m #[(.int p1), (.int p2), (.int p3), (.int p4)] below meth c s₁ [] 0 0 := by rw [State.setVm_self]; exact Stand.of_body Bd
  have hS0 : s.Since s.vm 0 := (State.WarmedH.refl s).since 0
  have CR0 : CHr Z EL1 s.vm h0 s.vm h0 := CHr.refl HC
  have hZ : Z.Warmed39 (s.setVm s.vm).vm := hZ
  have hown : (s.setVm s.vm).vm.findClass "com/example/cantrip/cantrip/TokenIsPinLaw" = some m.cls := hown
  have e0 : s₁.heap = h0 := by rw [← hh, Bd.state]; rfl
  have N0 := Fr.nil n0
  have pre0 : ∀ t, Steps p.tables e below (s₁.setTop (mkF m 0 #[.val (.int p1), .val (.int p2), .val (.int p3), .val (.int p4), .unset, .unset, .unset, .unset, .unset, .unset, .unset, .unset, .unset, .unset, .unset, .unset] [])) t → Steps p.tables e below (s₁.setTop (entryFrame m #[(.int p1), (.int p2), (.int p3), (.int p4)] maxLocals)) t := fun t k => castTop (ef0 m p1 p2 p3 p4) k
  have pre1 : ∀ t, Steps p.tables e below (s₁.setTop (mkF m 50 #[.val (.int p1), .val (.int p2), .val (.int p3), .val (.int p4), .val (.int ((p1 &&& (2147483647 : Int32)) % (15 : Int32))), .val (.int ((p4 &&& (3 : Int32)) % (3 : Int32))), .val (.int ((((p4.toUInt32 >>> ((2 : Int32) &&& 31).toUInt32).toInt32) &&& (3 : Int32)) % (3 : Int32))), .val (.int ((p2 &&& (255 : Int32)).toUInt32.toUInt16.toUInt32.toInt32)), .val (.int ((((p2.toUInt32 >>> ((8 : Int32) &&& 31).toUInt32).toInt32) &&& (255 : Int32)).toUInt32.toUInt16.toUInt32.toInt32)), .unset, .unset, .unset, .unset, .unset, .unset, .unset] [(.int (((p4.toUInt32 >>> ((6 : Int32) &&& 31).toUInt32).toInt32) &&& (1 : Int32)))])) t → Steps p.tables e below (s₁.setTop (entryFrame m #[(.int p1), (.int p2), (.int p3), (.int p4)] maxLocals)) t := by
    intro t kt
    refine pre0 _ ?_
    show Steps p.tables e below (s₁.setTop (mkF m 0 #[.val (.int p1), .val (.int p2), .val (.int p3), .val (.int p4), .unset, .unset, .unset, .unset, .unset, .unset, .unset, .unset, .unset, .unset, .unset, .unset] [])) _
    refine XS.iloadN X0.here hx rfl (hb hby at_0) rfl ?_
    refine X0.ldcInt hx hown (mvT hZ (hw _ (List.mem_of_getElem? (i := 0) rfl))) (g := (mkF m 1 #[.val (.int p1), .val (.int p2), .val (.int p3), .val (.int p4), .unset, .unset, .unset, .unset, .unset, .unset, .unset, .unset, .unset, .unset, .unset, .unset] [(.int p1)])) rfl (hb hby at_1) _ ?_
    show Steps p.tables e below (s₁.setTop (mkF m 3 #[.val (.int p1), .val (.int p2), .val (.int p3), .val (.int p4), .unset, .unset, .unset, .unset, .unset, .unset, .unset, .unset, .unset, .unset, .unset, .unset] [(.int (2147483647 : Int32)), (.int p1)])) _
    refine XS.iand X0.here hx rfl (hb hby at_3) rfl ?_
    show Steps p.tables e below (s₁.setTop (mkF m 4 #[.val (.int p1), .val (.int p2), .val (.int p3), .val (.int p4), .unset, .unset, .unset, .unset, .unset, .unset, .unset, .unset, .unset, .unset, .unset, .unset] [(.int (p1 &&& (2147483647 : Int32)))])) _
    refine XS.bipush X0.here hx rfl (hb hby at_4) ?_
    refine iremM (g := (mkF m 6 #[.val (.int p1), .val (.int p2), .val (.int p3), .val (.int p4), .unset, .unset, .unset, .unset, .unset, .unset, .unset, .unset, .unset, .unset, .unset, .unset] [(.int (15 : Int32)), (.int (p1 &&& (2147483647 : Int32)))])) X0 hx rfl (hb hby at_6) rfl (by decide) ?_
    show Steps p.tables e below (s₁.setTop (mkF m 7 #[.val (.int p1), .val (.int p2), .val (.int p3), .val (.int p4), .unset, .unset, .unset, .unset, .unset, .unset, .unset, .unset, .unset, .unset, .unset, .unset] [(.int ((p1 &&& (2147483647 : Int32)) % (15 : Int32)))])) _
    refine XS.istore X0.here hx rfl (hb hby at_7) rfl (l' := #[.val (.int p1), .val (.int p2), .val (.int p3), .val (.int p4), .val (.int ((p1 &&& (2147483647 : Int32)) % (15 : Int32))), .unset, .unset, .unset, .unset, .unset, .unset, .unset, .unset, .unset, .unset, .unset]) rfl ?_
    show Steps p.tables e below (s₁.setTop (mkF m 9 #[.val (.int p1), .val (.int p2), .val (.int p3), .val (.int p4), .val (.int ((p1 &&& (2147483647 : Int32)) % (15 : Int32))), .unset, .unset, .unset, .unset, .unset, .unset, .unset, .unset, .unset, .unset, .unset] [])) _
    refine XS.iloadN X0.here hx rfl (hb hby at_9) rfl ?_
    refine XS.iconst X0.here hx rfl (hb hby at_10) ?_
    refine XS.iand X0.here hx rfl (hb hby at_11) rfl ?_
    show Steps p.tables e below (s₁.setTop (mkF m 12 #[.val (.int p1), .val (.int p2), .val (.int p3), .val (.int p4), .val (.int ((p1 &&& (2147483647 : Int32)) % (15 : Int32))), .unset, .unset, .unset, .unset, .unset, .unset, .unset, .unset, .unset, .unset, .unset] [(.int (p4 &&& (3 : Int32)))])) _
    refine XS.iconst X0.here hx rfl (hb hby at_12) ?_
    refine iremM (g := (mkF m 13 #[.val (.int p1), .val (.int p2), .val (.int p3), .val (.int p4), .val (.int ((p1 &&& (2147483647 : Int32)) % (15 : Int32))), .unset, .unset, .unset, .unset, .unset, .unset, .unset, .unset, .unset, .unset, .unset] [(.int (3 : Int32)), (.int (p4 &&& (3 : Int32)))])) X0 hx rfl (hb hby at_13) rfl (by decide) ?_
    show Steps p.tables e below (s₁.setTop (mkF m 14 #[.val (.int p1), .val (.int p2), .val (.int p3), .val (.int p4), .val (.int ((p1 &&& (2147483647 : Int32)) % (15 : Int32))), .unset, .unset, .unset, .unset, .unset, .unset, .unset, .unset, .unset, .unset, .unset] [(.int ((p4 &&& (3 : Int32)) % (3 : Int32)))])) _
    refine XS.istore X0.here hx rfl (hb hby at_14) rfl (l' := #[.val (.int p1), .val (.int p2), .val (.int p3), .val (.int p4), .val (.int ((p1 &&& (2147483647 : Int32)) % (15 : Int32))), .val (.int ((p4 &&& (3 : Int32)) % (3 : Int32))), .unset, .unset, .unset, .unset, .unset, .unset, .unset, .unset, .unset, .unset]) rfl ?_
    show Steps p.tables e below (s₁.setTop (mkF m 16 #[.val (.int p1), .val (.int p2), .val (.int p3), .val (.int p4), .val (.int ((p1 &&& (2147483647 : Int32)) % (15 : Int32))), .val (.int ((p4 &&& (3 : Int32)) % (3 : Int32))), .unset, .unset, .unset, .unset, .unset, .unset, .unset, .unset, .unset, .unset] [])) _
    refine XS.iloadN X0.here hx rfl (hb hby at_16) rfl ?_
    refine XS.iconst X0.here hx rfl (hb hby at_17) ?_
    refine XS.iushr X0.here hx rfl (hb hby at_18) rfl ?_
    show Steps p.tables e below (s₁.setTop (mkF m 19 #[.val (.int p1), .val (.int p2), .val (.int p3), .val (.int p4), .val (.int ((p1 &&& (2147483647 : Int32)) % (15 : Int32))), .val (.int ((p4 &&& (3 : Int32)) % (3 : Int32))), .unset, .unset, .unset, .unset, .unset, .unset, .unset, .unset, .unset, .unset] [(.int ((p4.toUInt32 >>> ((2 : Int32) &&& 31).toUInt32).toInt32))])) _
    refine XS.iconst X0.here hx rfl (hb hby at_19) ?_
    refine XS.iand X0.here hx rfl (hb hby at_20) rfl ?_
    refine XS.iconst X0.here hx rfl (hb hby at_21) ?_
    show Steps p.tables e below (s₁.setTop (mkF m 22 #[.val (.int p1), .val (.int p2), .val (.int p3), .val (.int p4), .val (.int ((p1 &&& (2147483647 : Int32)) % (15 : Int32))), .val (.int ((p4 &&& (3 : Int32)) % (3 : Int32))), .unset, .unset, .unset, .unset, .unset, .unset, .unset, .unset, .unset, .unset] [(.int (3 : Int32)), (.int (((p4.toUInt32 >>> ((2 : Int32) &&& 31).toUInt32).toInt32) &&& (3 : Int32)))])) _
    refine iremM (g := (mkF m 22 #[.val (.int p1), .val (.int p2), .val (.int p3), .val (.int p4), .val (.int ((p1 &&& (2147483647 : Int32)) % (15 : Int32))), .val (.int ((p4 &&& (3 : Int32)) % (3 : Int32))), .unset, .unset, .unset, .unset, .unset, .unset, .unset, .unset, .unset, .unset] [(.int (3 : Int32)), (.int (((p4.toUInt32 >>> ((2 : Int32) &&& 31).toUInt32).toInt32) &&& (3 : Int32)))])) X0 hx rfl (hb hby at_22) rfl (by decide) ?_
    show Steps p.tables e below (s₁.setTop (mkF m 23 #[.val (.int p1), .val (.int p2), .val (.int p3), .val (.int p4), .val (.int ((p1 &&& (2147483647 : Int32)) % (15 : Int32))), .val (.int ((p4 &&& (3 : Int32)) % (3 : Int32))), .unset, .unset, .unset, .unset, .unset, .unset, .unset, .unset, .unset, .unset] [(.int ((((p4.toUInt32 >>> ((2 : Int32) &&& 31).toUInt32).toInt32) &&& (3 : Int32)) % (3 : Int32)))])) _
    refine XS.istore X0.here hx rfl (hb hby at_23) rfl (l' := #[.val (.int p1), .val (.int p2), .val (.int p3), .val (.int p4), .val (.int ((p1 &&& (2147483647 : Int32)) % (15 : Int32))), .val (.int ((p4 &&& (3 : Int32)) % (3 : Int32))), .val (.int ((((p4.toUInt32 >>> ((2 : Int32) &&& 31).toUInt32).toInt32) &&& (3 : Int32)) % (3 : Int32))), .unset, .unset, .unset, .unset, .unset, .unset, .unset, .unset, .unset]) rfl ?_
    refine XS.iloadN X0.here hx rfl (hb hby at_25) rfl ?_
    show Steps p.tables e below (s₁.setTop (mkF m 26 #[.val (.int p1), .val (.int p2), .val (.int p3), .val (.int p4), .val (.int ((p1 &&& (2147483647 : Int32)) % (15 : Int32))), .val (.int ((p4 &&& (3 : Int32)) % (3 : Int32))), .val (.int ((((p4.toUInt32 >>> ((2 : Int32) &&& 31).toUInt32).toInt32) &&& (3 : Int32)) % (3 : Int32))), .unset, .unset, .unset, .unset, .unset, .unset, .unset, .unset, .unset] [(.int p2)])) _
    refine XS.sipush X0.here hx rfl (hb hby at_26) ?_
    refine XS.iand X0.here hx rfl (hb hby at_29) rfl ?_
    refine XS.i2c X0.here hx rfl (hb hby at_30) rfl ?_
    show Steps p.tables e below (s₁.setTop (mkF m 31 #[.val (.int p1), .val (.int p2), .val (.int p3), .val (.int p4), .val (.int ((p1 &&& (2147483647 : Int32)) % (15 : Int32))), .val (.int ((p4 &&& (3 : Int32)) % (3 : Int32))), .val (.int ((((p4.toUInt32 >>> ((2 : Int32) &&& 31).toUInt32).toInt32) &&& (3 : Int32)) % (3 : Int32))), .unset, .unset, .unset, .unset, .unset, .unset, .unset, .unset, .unset] [(.int ((p2 &&& (255 : Int32)).toUInt32.toUInt16.toUInt32.toInt32))])) _
    refine XS.istore X0.here hx rfl (hb hby at_31) rfl (l' := #[.val (.int p1), .val (.int p2), .val (.int p3), .val (.int p4), .val (.int ((p1 &&& (2147483647 : Int32)) % (15 : Int32))), .val (.int ((p4 &&& (3 : Int32)) % (3 : Int32))), .val (.int ((((p4.toUInt32 >>> ((2 : Int32) &&& 31).toUInt32).toInt32) &&& (3 : Int32)) % (3 : Int32))), .val (.int ((p2 &&& (255 : Int32)).toUInt32.toUInt16.toUInt32.toInt32)), .unset, .unset, .unset, .unset, .unset, .unset, .unset, .unset]) rfl ?_
    refine XS.iloadN X0.here hx rfl (hb hby at_33) rfl ?_
    refine XS.bipush X0.here hx rfl (hb hby at_34) ?_
    show Steps p.tables e below (s₁.setTop (mkF m 36 #[.val (.int p1), .val (.int p2), .val (.int p3), .val (.int p4), .val (.int ((p1 &&& (2147483647 : Int32)) % (15 : Int32))), .val (.int ((p4 &&& (3 : Int32)) % (3 : Int32))), .val (.int ((((p4.toUInt32 >>> ((2 : Int32) &&& 31).toUInt32).toInt32) &&& (3 : Int32)) % (3 : Int32))), .val (.int ((p2 &&& (255 : Int32)).toUInt32.toUInt16.toUInt32.toInt32)), .unset, .unset, .unset, .unset, .unset, .unset, .unset, .unset] [(.int (8 : Int32)), (.int p2)])) _
    refine XS.iushr X0.here hx rfl (hb hby at_36) rfl ?_
    refine XS.sipush X0.here hx rfl (hb hby at_37) ?_
    refine XS.iand X0.here hx rfl (hb hby at_40) rfl ?_
    show Steps p.tables e below (s₁.setTop (mkF m 41 #[.val (.int p1), .val (.int p2), .val (.int p3), .val (.int p4), .val (.int ((p1 &&& (2147483647 : Int32)) % (15 : Int32))), .val (.int ((p4 &&& (3 : Int32)) % (3 : Int32))), .val (.int ((((p4.toUInt32 >>> ((2 : Int32) &&& 31).toUInt32).toInt32) &&& (3 : Int32)) % (3 : Int32))), .val (.int ((p2 &&& (255 : Int32)).toUInt32.toUInt16.toUInt32.toInt32)), .unset, .unset, .unset, .unset, .unset, .unset, .unset, .unset] [(.int (((p2.toUInt32 >>> ((8 : Int32) &&& 31).toUInt32).toInt32) &&& (255 : Int32)))])) _
    refine XS.i2c X0.here hx rfl (hb hby at_41) rfl ?_
    refine XS.istore X0.here hx rfl (hb hby at_42) rfl (l' := #[.val (.int p1), .val (.int p2), .val (.int p3), .val (.int p4), .val (.int ((p1 &&& (2147483647 : Int32)) % (15 : Int32))), .val (.int ((p4 &&& (3 : Int32)) % (3 : Int32))), .val (.int ((((p4.toUInt32 >>> ((2 : Int32) &&& 31).toUInt32).toInt32) &&& (3 : Int32)) % (3 : Int32))), .val (.int ((p2 &&& (255 : Int32)).toUInt32.toUInt16.toUInt32.toInt32)), .val (.int ((((p2.toUInt32 >>> ((8 : Int32) &&& 31).toUInt32).toInt32) &&& (255 : Int32)).toUInt32.toUInt16.toUInt32.toInt32)), .unset, .unset, .unset, .unset, .unset, .unset, .unset]) rfl ?_
    refine XS.iloadN X0.here hx rfl (hb hby at_44) rfl ?_
    show Steps p.tables e below (s₁.setTop (mkF m 45 #[.val (.int p1), .val (.int p2), .val (.int p3), .val (.int p4), .val (.int ((p1 &&& (2147483647 : Int32)) % (15 : Int32))), .val (.int ((p4 &&& (3 : Int32)) % (3 : Int32))), .val (.int ((((p4.toUInt32 >>> ((2 : Int32) &&& 31).toUInt32).toInt32) &&& (3 : Int32)) % (3 : Int32))), .val (.int ((p2 &&& (255 : Int32)).toUInt32.toUInt16.toUInt32.toInt32)), .val (.int ((((p2.toUInt32 >>> ((8 : Int32) &&& 31).toUInt32).toInt32) &&& (255 : Int32)).toUInt32.toUInt16.toUInt32.toInt32)), .unset, .unset, .unset, .unset, .unset, .unset, .unset] [(.int p4)])) _
    refine XS.bipush X0.here hx rfl (hb hby at_45) ?_
    refine XS.iushr X0.here hx rfl (hb hby at_47) rfl ?_
    refine XS.iconst X0.here hx rfl (hb hby at_48) ?_
    show Steps p.tables e below (s₁.setTop (mkF m 49 #[.val (.int p1), .val (.int p2), .val (.int p3), .val (.int p4), .val (.int ((p1 &&& (2147483647 : Int32)) % (15 : Int32))), .val (.int ((p4 &&& (3 : Int32)) % (3 : Int32))), .val (.int ((((p4.toUInt32 >>> ((2 : Int32) &&& 31).toUInt32).toInt32) &&& (3 : Int32)) % (3 : Int32))), .val (.int ((p2 &&& (255 : Int32)).toUInt32.toUInt16.toUInt32.toInt32)), .val (.int ((((p2.toUInt32 >>> ((8 : Int32) &&& 31).toUInt32).toInt32) &&& (255 : Int32)).toUInt32.toUInt16.toUInt32.toInt32)), .unset, .unset, .unset, .unset, .unset, .unset, .unset] [(.int (1 : Int32)), (.int ((p4.toUInt32 >>> ((6 : Int32) &&& 31).toUInt32).toInt32))])) _
    refine XS.iand X0.here hx rfl (hb hby at_49) rfl ?_
    exact kt
  have pre3 : ∀ t, Steps p.tables e below (s₁.setTop (mkF m 59 #[.val (.int p1), .val (.int p2), .val (.int p3), .val (.int p4), .val (.int ((p1 &&& (2147483647 : Int32)) % (15 : Int32))), .val (.int ((p4 &&& (3 : Int32)) % (3 : Int32))), .val (.int ((((p4.toUInt32 >>> ((2 : Int32) &&& 31).toUInt32).toInt32) &&& (3 : Int32)) % (3 : Int32))), .val (.int ((p2 &&& (255 : Int32)).toUInt32.toUInt16.toUInt32.toInt32)), .val (.int ((((p2.toUInt32 >>> ((8 : Int32) &&& 31).toUInt32).toInt32) &&& (255 : Int32)).toUInt32.toUInt16.toUInt32.toInt32)), .unset, .unset, .unset, .unset, .unset, .unset, .unset] [(.int (mg0_50_s0 p4))])) t → Steps p.tables e below (s₁.setTop (entryFrame m #[(.int p1), (.int p2), (.int p3), (.int p4)] maxLocals)) t := by
    intro t kt
    by_cases hc50_2 : (((p4.toUInt32 >>> ((6 : Int32) &&& 31).toUInt32).toInt32) &&& (1 : Int32)) = (0 : Int32)
    · rw [show (mg0_50_s0 p4) = (0 : Int32) from by rw [mg0_50_s0, if_pos hc50_2]] at kt
      refine pre1 _ ?_
      show Steps p.tables e below (s₁.setTop (mkF m 50 #[.val (.int p1), .val (.int p2), .val (.int p3), .val (.int p4), .val (.int ((p1 &&& (2147483647 : Int32)) % (15 : Int32))), .val (.int ((p4 &&& (3 : Int32)) % (3 : Int32))), .val (.int ((((p4.toUInt32 >>> ((2 : Int32) &&& 31).toUInt32).toInt32) &&& (3 : Int32)) % (3 : Int32))), .val (.int ((p2 &&& (255 : Int32)).toUInt32.toUInt16.toUInt32.toInt32)), .val (.int ((((p2.toUInt32 >>> ((8 : Int32) &&& 31).toUInt32).toInt32) &&& (255 : Int32)).toUInt32.toUInt16.toUInt32.toInt32)), .unset, .unset, .unset, .unset, .unset, .unset, .unset] [(.int (((p4.toUInt32 >>> ((6 : Int32) &&& 31).toUInt32).toInt32) &&& (1 : Int32)))])) _
      refine XS.ifYes X0.here hx rfl (pc0 := 50) (pc' := 58) rfl (hb hby at_50) rfl ((if0 _ _).trans (teq hc50_2).1) (by decide) (by decide) ?_
      refine XS.iconst X0.here hx rfl (hb hby at_58) ?_
      exact kt
    · rw [show (mg0_50_s0 p4) = (32 : Int32) from by rw [mg0_50_s0, if_neg hc50_2]] at kt
      refine pre1 _ ?_
      show Steps p.tables e below (s₁.setTop (mkF m 50 #[.val (.int p1), .val (.int p2), .val (.int p3), .val (.int p4), .val (.int ((p1 &&& (2147483647 : Int32)) % (15 : Int32))), .val (.int ((p4 &&& (3 : Int32)) % (3 : Int32))), .val (.int ((((p4.toUInt32 >>> ((2 : Int32) &&& 31).toUInt32).toInt32) &&& (3 : Int32)) % (3 : Int32))), .val (.int ((p2 &&& (255 : Int32)).toUInt32.toUInt16.toUInt32.toInt32)), .val (.int ((((p2.toUInt32 >>> ((8 : Int32) &&& 31).toUInt32).toInt32) &&& (255 : Int32)).toUInt32.toUInt16.toUInt32.toInt32)), .unset, .unset, .unset, .unset, .unset, .unset, .unset] [(.int (((p4.toUInt32 >>> ((6 : Int32) &&& 31).toUInt32).toInt32) &&& (1 : Int32)))])) _
      refine XS.ifNo X0.here hx rfl (hb hby at_50) rfl ((if0 _ _).trans (feq hc50_2).1) ?_
      refine XS.bipush X0.here hx rfl (hb hby at_53) ?_
      show Steps p.tables e below (s₁.setTop (mkF m 55 #[.val (.int p1), .val (.int p2), .val (.int p3), .val (.int p4), .val (.int ((p1 &&& (2147483647 : Int32)) % (15 : Int32))), .val (.int ((p4 &&& (3 : Int32)) % (3 : Int32))), .val (.int ((((p4.toUInt32 >>> ((2 : Int32) &&& 31).toUInt32).toInt32) &&& (3 : Int32)) % (3 : Int32))), .val (.int ((p2 &&& (255 : Int32)).toUInt32.toUInt16.toUInt32.toInt32)), .val (.int ((((p2.toUInt32 >>> ((8 : Int32) &&& 31).toUInt32).toInt32) &&& (255 : Int32)).toUInt32.toUInt16.toUInt32.toInt32)), .unset, .unset, .unset, .unset, .unset, .unset, .unset] [(.int (32 : Int32))])) _
      refine XS.goto X0.here hx rfl (pc0 := 55) (pc' := 59) rfl (hb hby at_55) (by decide) (by decide) ?_
      exact kt
  have pre4 : ∀ t, Steps p.tables e below (s₁.setTop (mkF m 66 #[.val (.int p1), .val (.int p2), .val (.int p3), .val (.int p4), .val (.int ((p1 &&& (2147483647 : Int32)) % (15 : Int32))), .val (.int ((p4 &&& (3 : Int32)) % (3 : Int32))), .val (.int ((((p4.toUInt32 >>> ((2 : Int32) &&& 31).toUInt32).toInt32) &&& (3 : Int32)) % (3 : Int32))), .val (.int ((p2 &&& (255 : Int32)).toUInt32.toUInt16.toUInt32.toInt32)), .val (.int ((((p2.toUInt32 >>> ((8 : Int32) &&& 31).toUInt32).toInt32) &&& (255 : Int32)).toUInt32.toUInt16.toUInt32.toInt32)), .val (.int (mg0_50_s0 p4)), .unset, .unset, .unset, .unset, .unset, .unset] [(.int (((p4.toUInt32 >>> ((4 : Int32) &&& 31).toUInt32).toInt32) &&& (1 : Int32)))])) t → Steps p.tables e below (s₁.setTop (entryFrame m #[(.int p1), (.int p2), (.int p3), (.int p4)] maxLocals)) t := by
    intro t kt
    refine pre3 _ ?_
    show Steps p.tables e below (s₁.setTop (mkF m 59 #[.val (.int p1), .val (.int p2), .val (.int p3), .val (.int p4), .val (.int ((p1 &&& (2147483647 : Int32)) % (15 : Int32))), .val (.int ((p4 &&& (3 : Int32)) % (3 : Int32))), .val (.int ((((p4.toUInt32 >>> ((2 : Int32) &&& 31).toUInt32).toInt32) &&& (3 : Int32)) % (3 : Int32))), .val (.int ((p2 &&& (255 : Int32)).toUInt32.toUInt16.toUInt32.toInt32)), .val (.int ((((p2.toUInt32 >>> ((8 : Int32) &&& 31).toUInt32).toInt32) &&& (255 : Int32)).toUInt32.toUInt16.toUInt32.toInt32)), .unset, .unset, .unset, .unset, .unset, .unset, .unset] [(.int (mg0_50_s0 p4))])) _
    refine XS.istore X0.here hx rfl (hb hby at_59) rfl (l' := #[.val (.int p1), .val (.int p2), .val (.int p3), .val (.int p4), .val (.int ((p1 &&& (2147483647 : Int32)) % (15 : Int32))), .val (.int ((p4 &&& (3 : Int32)) % (3 : Int32))), .val (.int ((((p4.toUInt32 >>> ((2 : Int32) &&& 31).toUInt32).toInt32) &&& (3 : Int32)) % (3 : Int32))), .val (.int ((p2 &&& (255 : Int32)).toUInt32.toUInt16.toUInt32.toInt32)), .val (.int ((((p2.toUInt32 >>> ((8 : Int32) &&& 31).toUInt32).toInt32) &&& (255 : Int32)).toUInt32.toUInt16.toUInt32.toInt32)), .val (.int (mg0_50_s0 p4)), .unset, .unset, .unset, .unset, .unset, .unset]) rfl ?_
    refine XS.iloadN X0.here hx rfl (hb hby at_61) rfl ?_
    show Steps p.tables e below (s₁.setTop (mkF m 62 #[.val (.int p1), .val (.int p2), .val (.int p3), .val (.int p4), .val (.int ((p1 &&& (2147483647 : Int32)) % (15 : Int32))), .val (.int ((p4 &&& (3 : Int32)) % (3 : Int32))), .val (.int ((((p4.toUInt32 >>> ((2 : Int32) &&& 31).toUInt32).toInt32) &&& (3 : Int32)) % (3 : Int32))), .val (.int ((p2 &&& (255 : Int32)).toUInt32.toUInt16.toUInt32.toInt32)), .val (.int ((((p2.toUInt32 >>> ((8 : Int32) &&& 31).toUInt32).toInt32) &&& (255 : Int32)).toUInt32.toUInt16.toUInt32.toInt32)), .val (.int (mg0_50_s0 p4)), .unset, .unset, .unset, .unset, .unset, .unset] [(.int p4)])) _
    refine XS.iconst X0.here hx rfl (hb hby at_62) ?_
    refine XS.iushr X0.here hx rfl (hb hby at_63) rfl ?_
    refine XS.iconst X0.here hx rfl (hb hby at_64) ?_
    show Steps p.tables e below (s₁.setTop (mkF m 65 #[.val (.int p1), .val (.int p2), .val (.int p3), .val (.int p4), .val (.int ((p1 &&& (2147483647 : Int32)) % (15 : Int32))), .val (.int ((p4 &&& (3 : Int32)) % (3 : Int32))), .val (.int ((((p4.toUInt32 >>> ((2 : Int32) &&& 31).toUInt32).toInt32) &&& (3 : Int32)) % (3 : Int32))), .val (.int ((p2 &&& (255 : Int32)).toUInt32.toUInt16.toUInt32.toInt32)), .val (.int ((((p2.toUInt32 >>> ((8 : Int32) &&& 31).toUInt32).toInt32) &&& (255 : Int32)).toUInt32.toUInt16.toUInt32.toInt32)), .val (.int (mg0_50_s0 p4)), .unset, .unset, .unset, .unset, .unset, .unset] [(.int (1 : Int32)), (.int ((p4.toUInt32 >>> ((4 : Int32) &&& 31).toUInt32).toInt32))])) _
    refine XS.iand X0.here hx rfl (hb hby at_65) rfl ?_
    exact kt
  have pre6 : ∀ t, Steps p.tables e below (s₁.setTop (mkF m 84 #[.val (.int p1), .val (.int p2), .val (.int p3), .val (.int p4), .val (.int ((p1 &&& (2147483647 : Int32)) % (15 : Int32))), .val (.int ((p4 &&& (3 : Int32)) % (3 : Int32))), .val (.int ((((p4.toUInt32 >>> ((2 : Int32) &&& 31).toUInt32).toInt32) &&& (3 : Int32)) % (3 : Int32))), .val (.int ((p2 &&& (255 : Int32)).toUInt32.toUInt16.toUInt32.toInt32)), .val (.int ((((p2.toUInt32 >>> ((8 : Int32) &&& 31).toUInt32).toInt32) &&& (255 : Int32)).toUInt32.toUInt16.toUInt32.toInt32)), .val (.int (mg0_50_s0 p4)), .unset, .unset, .unset, .unset, .unset, .unset] [(.int (mg0_66_s0 p2 p3 p4))])) t → Steps p.tables e below (s₁.setTop (entryFrame m #[(.int p1), (.int p2), (.int p3), (.int p4)] maxLocals)) t := by
    intro t kt
    by_cases hc66_5 : (((p4.toUInt32 >>> ((4 : Int32) &&& 31).toUInt32).toInt32) &&& (1 : Int32)) = (0 : Int32)
    · rw [show (mg0_66_s0 p2 p3 p4) = ((p3 &&& (255 : Int32)).toUInt32.toUInt16.toUInt32.toInt32) from by rw [mg0_66_s0, if_pos hc66_5]] at kt
      refine pre4 _ ?_
      show Steps p.tables e below (s₁.setTop (mkF m 66 #[.val (.int p1), .val (.int p2), .val (.int p3), .val (.int p4), .val (.int ((p1 &&& (2147483647 : Int32)) % (15 : Int32))), .val (.int ((p4 &&& (3 : Int32)) % (3 : Int32))), .val (.int ((((p4.toUInt32 >>> ((2 : Int32) &&& 31).toUInt32).toInt32) &&& (3 : Int32)) % (3 : Int32))), .val (.int ((p2 &&& (255 : Int32)).toUInt32.toUInt16.toUInt32.toInt32)), .val (.int ((((p2.toUInt32 >>> ((8 : Int32) &&& 31).toUInt32).toInt32) &&& (255 : Int32)).toUInt32.toUInt16.toUInt32.toInt32)), .val (.int (mg0_50_s0 p4)), .unset, .unset, .unset, .unset, .unset, .unset] [(.int (((p4.toUInt32 >>> ((4 : Int32) &&& 31).toUInt32).toInt32) &&& (1 : Int32)))])) _
      refine XS.ifYes X0.here hx rfl (pc0 := 66) (pc' := 78) rfl (hb hby at_66) rfl ((if0 _ _).trans (teq hc66_5).1) (by decide) (by decide) ?_
      refine XS.iloadN X0.here hx rfl (hb hby at_78) rfl ?_
      show Steps p.tables e below (s₁.setTop (mkF m 79 #[.val (.int p1), .val (.int p2), .val (.int p3), .val (.int p4), .val (.int ((p1 &&& (2147483647 : Int32)) % (15 : Int32))), .val (.int ((p4 &&& (3 : Int32)) % (3 : Int32))), .val (.int ((((p4.toUInt32 >>> ((2 : Int32) &&& 31).toUInt32).toInt32) &&& (3 : Int32)) % (3 : Int32))), .val (.int ((p2 &&& (255 : Int32)).toUInt32.toUInt16.toUInt32.toInt32)), .val (.int ((((p2.toUInt32 >>> ((8 : Int32) &&& 31).toUInt32).toInt32) &&& (255 : Int32)).toUInt32.toUInt16.toUInt32.toInt32)), .val (.int (mg0_50_s0 p4)), .unset, .unset, .unset, .unset, .unset, .unset] [(.int p3)])) _
      refine XS.sipush X0.here hx rfl (hb hby at_79) ?_
      refine XS.iand X0.here hx rfl (hb hby at_82) rfl ?_
      refine XS.i2c X0.here hx rfl (hb hby at_83) rfl ?_
      exact kt
    · rw [show (mg0_66_s0 p2 p3 p4) = ((((p2 &&& (255 : Int32)).toUInt32.toUInt16.toUInt32.toInt32) ^^^ (mg0_50_s0 p4)).toUInt32.toUInt16.toUInt32.toInt32) from by rw [mg0_66_s0, if_neg hc66_5]] at kt
      refine pre4 _ ?_
      show Steps p.tables e below (s₁.setTop (mkF m 66 #[.val (.int p1), .val (.int p2), .val (.int p3), .val (.int p4), .val (.int ((p1 &&& (2147483647 : Int32)) % (15 : Int32))), .val (.int ((p4 &&& (3 : Int32)) % (3 : Int32))), .val (.int ((((p4.toUInt32 >>> ((2 : Int32) &&& 31).toUInt32).toInt32) &&& (3 : Int32)) % (3 : Int32))), .val (.int ((p2 &&& (255 : Int32)).toUInt32.toUInt16.toUInt32.toInt32)), .val (.int ((((p2.toUInt32 >>> ((8 : Int32) &&& 31).toUInt32).toInt32) &&& (255 : Int32)).toUInt32.toUInt16.toUInt32.toInt32)), .val (.int (mg0_50_s0 p4)), .unset, .unset, .unset, .unset, .unset, .unset] [(.int (((p4.toUInt32 >>> ((4 : Int32) &&& 31).toUInt32).toInt32) &&& (1 : Int32)))])) _
      refine XS.ifNo X0.here hx rfl (hb hby at_66) rfl ((if0 _ _).trans (feq hc66_5).1) ?_
      refine XS.iload X0.here hx rfl (hb hby at_69) rfl ?_
      show Steps p.tables e below (s₁.setTop (mkF m 71 #[.val (.int p1), .val (.int p2), .val (.int p3), .val (.int p4), .val (.int ((p1 &&& (2147483647 : Int32)) % (15 : Int32))), .val (.int ((p4 &&& (3 : Int32)) % (3 : Int32))), .val (.int ((((p4.toUInt32 >>> ((2 : Int32) &&& 31).toUInt32).toInt32) &&& (3 : Int32)) % (3 : Int32))), .val (.int ((p2 &&& (255 : Int32)).toUInt32.toUInt16.toUInt32.toInt32)), .val (.int ((((p2.toUInt32 >>> ((8 : Int32) &&& 31).toUInt32).toInt32) &&& (255 : Int32)).toUInt32.toUInt16.toUInt32.toInt32)), .val (.int (mg0_50_s0 p4)), .unset, .unset, .unset, .unset, .unset, .unset] [(.int ((p2 &&& (255 : Int32)).toUInt32.toUInt16.toUInt32.toInt32))])) _
      refine XS.iload X0.here hx rfl (hb hby at_71) rfl ?_
      refine XS.ixor X0.here hx rfl (hb hby at_73) rfl ?_
      refine XS.i2c X0.here hx rfl (hb hby at_74) rfl ?_
      show Steps p.tables e below (s₁.setTop (mkF m 75 #[.val (.int p1), .val (.int p2), .val (.int p3), .val (.int p4), .val (.int ((p1 &&& (2147483647 : Int32)) % (15 : Int32))), .val (.int ((p4 &&& (3 : Int32)) % (3 : Int32))), .val (.int ((((p4.toUInt32 >>> ((2 : Int32) &&& 31).toUInt32).toInt32) &&& (3 : Int32)) % (3 : Int32))), .val (.int ((p2 &&& (255 : Int32)).toUInt32.toUInt16.toUInt32.toInt32)), .val (.int ((((p2.toUInt32 >>> ((8 : Int32) &&& 31).toUInt32).toInt32) &&& (255 : Int32)).toUInt32.toUInt16.toUInt32.toInt32)), .val (.int (mg0_50_s0 p4)), .unset, .unset, .unset, .unset, .unset, .unset] [(.int ((((p2 &&& (255 : Int32)).toUInt32.toUInt16.toUInt32.toInt32) ^^^ (mg0_50_s0 p4)).toUInt32.toUInt16.toUInt32.toInt32))])) _
      refine XS.goto X0.here hx rfl (pc0 := 75) (pc' := 84) rfl (hb hby at_75) (by decide) (by decide) ?_
      exact kt
  have pre7 : ∀ t, Steps p.tables e below (s₁.setTop (mkF m 91 #[.val (.int p1), .val (.int p2), .val (.int p3), .val (.int p4), .val (.int ((p1 &&& (2147483647 : Int32)) % (15 : Int32))), .val (.int ((p4 &&& (3 : Int32)) % (3 : Int32))), .val (.int ((((p4.toUInt32 >>> ((2 : Int32) &&& 31).toUInt32).toInt32) &&& (3 : Int32)) % (3 : Int32))), .val (.int ((p2 &&& (255 : Int32)).toUInt32.toUInt16.toUInt32.toInt32)), .val (.int ((((p2.toUInt32 >>> ((8 : Int32) &&& 31).toUInt32).toInt32) &&& (255 : Int32)).toUInt32.toUInt16.toUInt32.toInt32)), .val (.int (mg0_50_s0 p4)), .val (.int (mg0_66_s0 p2 p3 p4)), .unset, .unset, .unset, .unset, .unset] [(.int (((p4.toUInt32 >>> ((5 : Int32) &&& 31).toUInt32).toInt32) &&& (1 : Int32)))])) t → Steps p.tables e below (s₁.setTop (entryFrame m #[(.int p1), (.int p2), (.int p3), (.int p4)] maxLocals)) t := by
    intro t kt
    refine pre6 _ ?_
    show Steps p.tables e below (s₁.setTop (mkF m 84 #[.val (.int p1), .val (.int p2), .val (.int p3), .val (.int p4), .val (.int ((p1 &&& (2147483647 : Int32)) % (15 : Int32))), .val (.int ((p4 &&& (3 : Int32)) % (3 : Int32))), .val (.int ((((p4.toUInt32 >>> ((2 : Int32) &&& 31).toUInt32).toInt32) &&& (3 : Int32)) % (3 : Int32))), .val (.int ((p2 &&& (255 : Int32)).toUInt32.toUInt16.toUInt32.toInt32)), .val (.int ((((p2.toUInt32 >>> ((8 : Int32) &&& 31).toUInt32).toInt32) &&& (255 : Int32)).toUInt32.toUInt16.toUInt32.toInt32)), .val (.int (mg0_50_s0 p4)), .unset, .unset, .unset, .unset, .unset, .unset] [(.int (mg0_66_s0 p2 p3 p4))])) _
    refine XS.istore X0.here hx rfl (hb hby at_84) rfl (l' := #[.val (.int p1), .val (.int p2), .val (.int p3), .val (.int p4), .val (.int ((p1 &&& (2147483647 : Int32)) % (15 : Int32))), .val (.int ((p4 &&& (3 : Int32)) % (3 : Int32))), .val (.int ((((p4.toUInt32 >>> ((2 : Int32) &&& 31).toUInt32).toInt32) &&& (3 : Int32)) % (3 : Int32))), .val (.int ((p2 &&& (255 : Int32)).toUInt32.toUInt16.toUInt32.toInt32)), .val (.int ((((p2.toUInt32 >>> ((8 : Int32) &&& 31).toUInt32).toInt32) &&& (255 : Int32)).toUInt32.toUInt16.toUInt32.toInt32)), .val (.int (mg0_50_s0 p4)), .val (.int (mg0_66_s0 p2 p3 p4)), .unset, .unset, .unset, .unset, .unset]) rfl ?_
    refine XS.iloadN X0.here hx rfl (hb hby at_86) rfl ?_
    show Steps p.tables e below (s₁.setTop (mkF m 87 #[.val (.int p1), .val (.int p2), .val (.int p3), .val (.int p4), .val (.int ((p1 &&& (2147483647 : Int32)) % (15 : Int32))), .val (.int ((p4 &&& (3 : Int32)) % (3 : Int32))), .val (.int ((((p4.toUInt32 >>> ((2 : Int32) &&& 31).toUInt32).toInt32) &&& (3 : Int32)) % (3 : Int32))), .val (.int ((p2 &&& (255 : Int32)).toUInt32.toUInt16.toUInt32.toInt32)), .val (.int ((((p2.toUInt32 >>> ((8 : Int32) &&& 31).toUInt32).toInt32) &&& (255 : Int32)).toUInt32.toUInt16.toUInt32.toInt32)), .val (.int (mg0_50_s0 p4)), .val (.int (mg0_66_s0 p2 p3 p4)), .unset, .unset, .unset, .unset, .unset] [(.int p4)])) _
    refine XS.iconst X0.here hx rfl (hb hby at_87) ?_
    refine XS.iushr X0.here hx rfl (hb hby at_88) rfl ?_
    refine XS.iconst X0.here hx rfl (hb hby at_89) ?_
    show Steps p.tables e below (s₁.setTop (mkF m 90 #[.val (.int p1), .val (.int p2), .val (.int p3), .val (.int p4), .val (.int ((p1 &&& (2147483647 : Int32)) % (15 : Int32))), .val (.int ((p4 &&& (3 : Int32)) % (3 : Int32))), .val (.int ((((p4.toUInt32 >>> ((2 : Int32) &&& 31).toUInt32).toInt32) &&& (3 : Int32)) % (3 : Int32))), .val (.int ((p2 &&& (255 : Int32)).toUInt32.toUInt16.toUInt32.toInt32)), .val (.int ((((p2.toUInt32 >>> ((8 : Int32) &&& 31).toUInt32).toInt32) &&& (255 : Int32)).toUInt32.toUInt16.toUInt32.toInt32)), .val (.int (mg0_50_s0 p4)), .val (.int (mg0_66_s0 p2 p3 p4)), .unset, .unset, .unset, .unset, .unset] [(.int (1 : Int32)), (.int ((p4.toUInt32 >>> ((5 : Int32) &&& 31).toUInt32).toInt32))])) _
    refine XS.iand X0.here hx rfl (hb hby at_90) rfl ?_
    exact kt
  have pre9 : ∀ t, Steps p.tables e below (s₁.setTop (mkF m 108 #[.val (.int p1), .val (.int p2), .val (.int p3), .val (.int p4), .val (.int ((p1 &&& (2147483647 : Int32)) % (15 : Int32))), .val (.int ((p4 &&& (3 : Int32)) % (3 : Int32))), .val (.int ((((p4.toUInt32 >>> ((2 : Int32) &&& 31).toUInt32).toInt32) &&& (3 : Int32)) % (3 : Int32))), .val (.int ((p2 &&& (255 : Int32)).toUInt32.toUInt16.toUInt32.toInt32)), .val (.int ((((p2.toUInt32 >>> ((8 : Int32) &&& 31).toUInt32).toInt32) &&& (255 : Int32)).toUInt32.toUInt16.toUInt32.toInt32)), .val (.int (mg0_50_s0 p4)), .val (.int (mg0_66_s0 p2 p3 p4)), .unset, .unset, .unset, .unset, .unset] [(.int (mg0_91_s0 p2 p3 p4))])) t → Steps p.tables e below (s₁.setTop (entryFrame m #[(.int p1), (.int p2), (.int p3), (.int p4)] maxLocals)) t := by
    intro t kt
    by_cases hc91_8 : (((p4.toUInt32 >>> ((5 : Int32) &&& 31).toUInt32).toInt32) &&& (1 : Int32)) = (0 : Int32)
    · rw [show (mg0_91_s0 p2 p3 p4) = ((((p3.toUInt32 >>> ((8 : Int32) &&& 31).toUInt32).toInt32) &&& (255 : Int32)).toUInt32.toUInt16.toUInt32.toInt32) from by rw [mg0_91_s0, if_pos hc91_8]] at kt
      refine pre7 _ ?_
      show Steps p.tables e below (s₁.setTop (mkF m 91 #[.val (.int p1), .val (.int p2), .val (.int p3), .val (.int p4), .val (.int ((p1 &&& (2147483647 : Int32)) % (15 : Int32))), .val (.int ((p4 &&& (3 : Int32)) % (3 : Int32))), .val (.int ((((p4.toUInt32 >>> ((2 : Int32) &&& 31).toUInt32).toInt32) &&& (3 : Int32)) % (3 : Int32))), .val (.int ((p2 &&& (255 : Int32)).toUInt32.toUInt16.toUInt32.toInt32)), .val (.int ((((p2.toUInt32 >>> ((8 : Int32) &&& 31).toUInt32).toInt32) &&& (255 : Int32)).toUInt32.toUInt16.toUInt32.toInt32)), .val (.int (mg0_50_s0 p4)), .val (.int (mg0_66_s0 p2 p3 p4)), .unset, .unset, .unset, .unset, .unset] [(.int (((p4.toUInt32 >>> ((5 : Int32) &&& 31).toUInt32).toInt32) &&& (1 : Int32)))])) _
      refine XS.ifYes X0.here hx rfl (pc0 := 91) (pc' := 99) rfl (hb hby at_91) rfl ((if0 _ _).trans (teq hc91_8).1) (by decide) (by decide) ?_
      refine XS.iloadN X0.here hx rfl (hb hby at_99) rfl ?_
      show Steps p.tables e below (s₁.setTop (mkF m 100 #[.val (.int p1), .val (.int p2), .val (.int p3), .val (.int p4), .val (.int ((p1 &&& (2147483647 : Int32)) % (15 : Int32))), .val (.int ((p4 &&& (3 : Int32)) % (3 : Int32))), .val (.int ((((p4.toUInt32 >>> ((2 : Int32) &&& 31).toUInt32).toInt32) &&& (3 : Int32)) % (3 : Int32))), .val (.int ((p2 &&& (255 : Int32)).toUInt32.toUInt16.toUInt32.toInt32)), .val (.int ((((p2.toUInt32 >>> ((8 : Int32) &&& 31).toUInt32).toInt32) &&& (255 : Int32)).toUInt32.toUInt16.toUInt32.toInt32)), .val (.int (mg0_50_s0 p4)), .val (.int (mg0_66_s0 p2 p3 p4)), .unset, .unset, .unset, .unset, .unset] [(.int p3)])) _
      refine XS.bipush X0.here hx rfl (hb hby at_100) ?_
      refine XS.iushr X0.here hx rfl (hb hby at_102) rfl ?_
      refine XS.sipush X0.here hx rfl (hb hby at_103) ?_
      show Steps p.tables e below (s₁.setTop (mkF m 106 #[.val (.int p1), .val (.int p2), .val (.int p3), .val (.int p4), .val (.int ((p1 &&& (2147483647 : Int32)) % (15 : Int32))), .val (.int ((p4 &&& (3 : Int32)) % (3 : Int32))), .val (.int ((((p4.toUInt32 >>> ((2 : Int32) &&& 31).toUInt32).toInt32) &&& (3 : Int32)) % (3 : Int32))), .val (.int ((p2 &&& (255 : Int32)).toUInt32.toUInt16.toUInt32.toInt32)), .val (.int ((((p2.toUInt32 >>> ((8 : Int32) &&& 31).toUInt32).toInt32) &&& (255 : Int32)).toUInt32.toUInt16.toUInt32.toInt32)), .val (.int (mg0_50_s0 p4)), .val (.int (mg0_66_s0 p2 p3 p4)), .unset, .unset, .unset, .unset, .unset] [(.int (255 : Int32)), (.int ((p3.toUInt32 >>> ((8 : Int32) &&& 31).toUInt32).toInt32))])) _
      refine XS.iand X0.here hx rfl (hb hby at_106) rfl ?_
      refine XS.i2c X0.here hx rfl (hb hby at_107) rfl ?_
      exact kt
    · rw [show (mg0_91_s0 p2 p3 p4) = ((((p2.toUInt32 >>> ((8 : Int32) &&& 31).toUInt32).toInt32) &&& (255 : Int32)).toUInt32.toUInt16.toUInt32.toInt32) from by rw [mg0_91_s0, if_neg hc91_8]] at kt
      refine pre7 _ ?_
      show Steps p.tables e below (s₁.setTop (mkF m 91 #[.val (.int p1), .val (.int p2), .val (.int p3), .val (.int p4), .val (.int ((p1 &&& (2147483647 : Int32)) % (15 : Int32))), .val (.int ((p4 &&& (3 : Int32)) % (3 : Int32))), .val (.int ((((p4.toUInt32 >>> ((2 : Int32) &&& 31).toUInt32).toInt32) &&& (3 : Int32)) % (3 : Int32))), .val (.int ((p2 &&& (255 : Int32)).toUInt32.toUInt16.toUInt32.toInt32)), .val (.int ((((p2.toUInt32 >>> ((8 : Int32) &&& 31).toUInt32).toInt32) &&& (255 : Int32)).toUInt32.toUInt16.toUInt32.toInt32)), .val (.int (mg0_50_s0 p4)), .val (.int (mg0_66_s0 p2 p3 p4)), .unset, .unset, .unset, .unset, .unset] [(.int (((p4.toUInt32 >>> ((5 : Int32) &&& 31).toUInt32).toInt32) &&& (1 : Int32)))])) _
      refine XS.ifNo X0.here hx rfl (hb hby at_91) rfl ((if0 _ _).trans (feq hc91_8).1) ?_
      refine XS.iload X0.here hx rfl (hb hby at_94) rfl ?_
      show Steps p.tables e below (s₁.setTop (mkF m 96 #[.val (.int p1), .val (.int p2), .val (.int p3), .val (.int p4), .val (.int ((p1 &&& (2147483647 : Int32)) % (15 : Int32))), .val (.int ((p4 &&& (3 : Int32)) % (3 : Int32))), .val (.int ((((p4.toUInt32 >>> ((2 : Int32) &&& 31).toUInt32).toInt32) &&& (3 : Int32)) % (3 : Int32))), .val (.int ((p2 &&& (255 : Int32)).toUInt32.toUInt16.toUInt32.toInt32)), .val (.int ((((p2.toUInt32 >>> ((8 : Int32) &&& 31).toUInt32).toInt32) &&& (255 : Int32)).toUInt32.toUInt16.toUInt32.toInt32)), .val (.int (mg0_50_s0 p4)), .val (.int (mg0_66_s0 p2 p3 p4)), .unset, .unset, .unset, .unset, .unset] [(.int ((((p2.toUInt32 >>> ((8 : Int32) &&& 31).toUInt32).toInt32) &&& (255 : Int32)).toUInt32.toUInt16.toUInt32.toInt32))])) _
      refine XS.goto X0.here hx rfl (pc0 := 96) (pc' := 108) rfl (hb hby at_96) (by decide) (by decide) ?_
      exact kt
  have pre10 : ∀ t, Steps p.tables e below (s₁.setTop (mkF m 110 #[.val (.int p1), .val (.int p2), .val (.int p3), .val (.int p4), .val (.int ((p1 &&& (2147483647 : Int32)) % (15 : Int32))), .val (.int ((p4 &&& (3 : Int32)) % (3 : Int32))), .val (.int ((((p4.toUInt32 >>> ((2 : Int32) &&& 31).toUInt32).toInt32) &&& (3 : Int32)) % (3 : Int32))), .val (.int ((p2 &&& (255 : Int32)).toUInt32.toUInt16.toUInt32.toInt32)), .val (.int ((((p2.toUInt32 >>> ((8 : Int32) &&& 31).toUInt32).toInt32) &&& (255 : Int32)).toUInt32.toUInt16.toUInt32.toInt32)), .val (.int (mg0_50_s0 p4)), .val (.int (mg0_66_s0 p2 p3 p4)), .val (.int (mg0_91_s0 p2 p3 p4)), .unset, .unset, .unset, .unset] [])) t → Steps p.tables e below (s₁.setTop (entryFrame m #[(.int p1), (.int p2), (.int p3), (.int p4)] maxLocals)) t := by
    intro t kt
    refine pre9 _ ?_
    show Steps p.tables e below (s₁.setTop (mkF m 108 #[.val (.int p1), .val (.int p2), .val (.int p3), .val (.int p4), .val (.int ((p1 &&& (2147483647 : Int32)) % (15 : Int32))), .val (.int ((p4 &&& (3 : Int32)) % (3 : Int32))), .val (.int ((((p4.toUInt32 >>> ((2 : Int32) &&& 31).toUInt32).toInt32) &&& (3 : Int32)) % (3 : Int32))), .val (.int ((p2 &&& (255 : Int32)).toUInt32.toUInt16.toUInt32.toInt32)), .val (.int ((((p2.toUInt32 >>> ((8 : Int32) &&& 31).toUInt32).toInt32) &&& (255 : Int32)).toUInt32.toUInt16.toUInt32.toInt32)), .val (.int (mg0_50_s0 p4)), .val (.int (mg0_66_s0 p2 p3 p4)), .unset, .unset, .unset, .unset, .unset] [(.int (mg0_91_s0 p2 p3 p4))])) _
    refine XS.istore X0.here hx rfl (hb hby at_108) rfl (l' := #[.val (.int p1), .val (.int p2), .val (.int p3), .val (.int p4), .val (.int ((p1 &&& (2147483647 : Int32)) % (15 : Int32))), .val (.int ((p4 &&& (3 : Int32)) % (3 : Int32))), .val (.int ((((p4.toUInt32 >>> ((2 : Int32) &&& 31).toUInt32).toInt32) &&& (3 : Int32)) % (3 : Int32))), .val (.int ((p2 &&& (255 : Int32)).toUInt32.toUInt16.toUInt32.toInt32)), .val (.int ((((p2.toUInt32 >>> ((8 : Int32) &&& 31).toUInt32).toInt32) &&& (255 : Int32)).toUInt32.toUInt16.toUInt32.toInt32)), .val (.int (mg0_50_s0 p4)), .val (.int (mg0_66_s0 p2 p3 p4)), .val (.int (mg0_91_s0 p2 p3 p4)), .unset, .unset, .unset, .unset]) rfl ?_
    exact kt
  obtain ⟨sv, hsv⟩ : ∃ z, z = ((p1 &&& (2147483647 : Int32)) % (15 : Int32)) := ⟨_, rfl⟩
  rw [← hsv] at pre10
  obtain ⟨m0, hm0⟩ : ∃ z, z = (mg0_66_s0 p2 p3 p4) := ⟨_, rfl⟩
  rw [← hm0] at pre10
  obtain ⟨m1, hm1⟩ : ∃ z, z = (mg0_91_s0 p2 p3 p4) := ⟨_, rfl⟩
  rw [← hm1] at pre10
  obtain ⟨t0, ht0⟩ : ∃ z, z = ((p2 &&& (255 : Int32)).toUInt32.toUInt16.toUInt32.toInt32) := ⟨_, rfl⟩
  rw [← ht0] at pre10
  obtain ⟨t1, ht1⟩ : ∃ z, z = ((((p2.toUInt32 >>> ((8 : Int32) &&& 31).toUInt32).toInt32) &&& (255 : Int32)).toUInt32.toUInt16.toUInt32.toInt32) := ⟨_, rfl⟩
  rw [← ht1] at pre10
  have rs := own_rng p1
  rw [← hsv] at rs
  have r_t0 : R8 t0 := by rw [ht0]; exact own_R8 _
  have r_t1 : R8 t1 := by rw [ht1]; exact own_R8 _
  have r_m0 : R8 m0 := by rw [hm0]; exact own_m0 _ _ _
  have r_m1 : R8 m1 := by rw [hm1]; exact own_m1 _ _ _
  by_cases hv11 : ((p4 &&& (3 : Int32)) % (3 : Int32)) = (0 : Int32)
  · rw [hv11] at pre10
    by_cases hv12 : ((((p4.toUInt32 >>> ((2 : Int32) &&& 31).toUInt32).toInt32) &&& (3 : Int32)) % (3 : Int32)) = (0 : Int32)
    · rw [hv12] at pre10
      have pre14 : ∀ t, Steps p.tables e below (s₁.setTop (mkF m 116 #[.val (.int p1), .val (.int p2), .val (.int p3), .val (.int p4), .val (.int sv), .val (.int (0 : Int32)), .val (.int (0 : Int32)), .val (.int t0), .val (.int t1), .val (.int (mg0_50_s0 p4)), .val (.int m0), .val (.int m1), .unset, .unset, .unset, .unset] [(.int t1), (.int t0), (.int (0 : Int32))])) t → Steps p.tables e below (s₁.setTop (entryFrame m #[(.int p1), (.int p2), (.int p3), (.int p4)] maxLocals)) t := by
        intro t kt
        refine pre10 _ ?_
        show Steps p.tables e below (s₁.setTop (mkF m 110 #[.val (.int p1), .val (.int p2), .val (.int p3), .val (.int p4), .val (.int sv), .val (.int (0 : Int32)), .val (.int (0 : Int32)), .val (.int t0), .val (.int t1), .val (.int (mg0_50_s0 p4)), .val (.int m0), .val (.int m1), .unset, .unset, .unset, .unset] [])) _
        refine XS.iload X0.here hx rfl (hb hby at_110) rfl ?_
        show Steps p.tables e below (s₁.setTop (mkF m 112 #[.val (.int p1), .val (.int p2), .val (.int p3), .val (.int p4), .val (.int sv), .val (.int (0 : Int32)), .val (.int (0 : Int32)), .val (.int t0), .val (.int t1), .val (.int (mg0_50_s0 p4)), .val (.int m0), .val (.int m1), .unset, .unset, .unset, .unset] [(.int (0 : Int32))])) _
        refine XS.iload X0.here hx rfl (hb hby at_112) rfl ?_
        refine XS.iload X0.here hx rfl (hb hby at_114) rfl ?_
        exact kt
      obtain ⟨_, _, ⟨T13, L13, k13, n13⟩, -, XX13, hSS13, hgr13, ⟨Lc13, hQ13, l13, y13, z13, hC13⟩, st13⟩ := callSS X0 hx (y := (⟨"com/example/cantrip/cantrip/TokenIsPinLaw", "str", "(ICC)Ljava/lang/String;"⟩ : MethodName)) hown (mvT hZ (hw _ (List.mem_of_getElem? (i := 1) rfl))) (mvT hZ (hw _ (List.mem_of_getElem? (i := 2) rfl))) (mvT hZ (hw _ (List.mem_of_getElem? (i := 3) rfl))) (mvT hZ (hw _ (List.mem_of_getElem? (i := 4) rfl))) (by decide) (backOfSH (W := 0) (rm_str_0 l Z a0 hw [] t0 t1  h0 n0 (Nat.le_trans Z0 (Keep.refl h0 []).1)   hEL) hZ (hw _ (List.mem_of_getElem? (i := 4) rfl)) (hw _ (List.mem_of_getElem? (i := 3) rfl)) (by decide) (by decide) hEL CR0.1) (g := (mkF m 116 #[.val (.int p1), .val (.int p2), .val (.int p3), .val (.int p4), .val (.int sv), .val (.int (0 : Int32)), .val (.int (0 : Int32)), .val (.int t0), .val (.int t1), .val (.int (mg0_50_s0 p4)), .val (.int m0), .val (.int m1), .unset, .unset, .unset, .unset] [(.int t1), (.int t0), (.int (0 : Int32))])) rfl (by rw [hml]; rfl) (argsL := [(.int (0 : Int32)), (.int t0), (.int t1)]) (rest := []) (lenOf pd8 rfl) rfl (by show 2 * 0 + _ ≤ _; exact Nat.le_of_eq rfl) (hb hby at_116) (fun _ _ => ⟨rfl, e0, (by decide : 0 + 4 ≤ _), (by decide : 0 + 8 ≤ _)⟩)
      dsimp only [Pt.U, Pt.locs, Pt.cells, Pt.slots] at XX13 hSS13 hgr13 l13 y13 z13 st13 hQ13 hC13
      subst l13 y13 z13
      obtain ⟨X13, hS13, hZ, hown⟩ := rebS hS0 (Nat.le_trans (Nat.zero_le _) (Nat.le_of_eq (congrArg Array.size e0.symm))) XX13 hSS13 hgr13 hZ hown
      have CR13 := CHr.trans CR0 hC13
      obtain ⟨b1_13, c2_2_3_13, k2_2_3_13, rfl, N13q, K13, s13_b1, f13_0, f13_1, f13_2, f13_3⟩ := hQ13
      have N13 := Fr.app N0 N13q
      have sz_b1_13 : h0.size ≤ b1_13 := Nat.le_trans (Keep.refl h0 []).1 s13_b1
      have g_b1_13 : n0 ≤ b1_13 := Nat.le_trans Z0 sz_b1_13
      have KK13 : Keep h0 T13.heap [] := (Keep.refl h0 []).trans K13 all0
      have pre16 : ∀ t, Steps p.tables e below (T13.setTop (mkF m 127 #[.val (.int p1), .val (.int p2), .val (.int p3), .val (.int p4), .val (.int sv), .val (.int (0 : Int32)), .val (.int (0 : Int32)), .val (.int t0), .val (.int t1), .val (.int (mg0_50_s0 p4)), .val (.int m0), .val (.int m1), .val (.ref b1_13), .unset, .unset, .unset] [(.int m1), (.int m0), (.int (0 : Int32))])) t → Steps p.tables e below (s₁.setTop (entryFrame m #[(.int p1), (.int p2), (.int p3), (.int p4)] maxLocals)) t := by
        intro t kt
        refine pre14 _ ?_
        show Steps p.tables e below (s₁.setTop (mkF m 116 #[.val (.int p1), .val (.int p2), .val (.int p3), .val (.int p4), .val (.int sv), .val (.int (0 : Int32)), .val (.int (0 : Int32)), .val (.int t0), .val (.int t1), .val (.int (mg0_50_s0 p4)), .val (.int m0), .val (.int m1), .unset, .unset, .unset, .unset] [(.int t1), (.int t0), (.int (0 : Int32))])) _
        refine st13.trans ?_
        show Steps p.tables e below (T13.setTop (mkF m 119 #[.val (.int p1), .val (.int p2), .val (.int p3), .val (.int p4), .val (.int sv), .val (.int (0 : Int32)), .val (.int (0 : Int32)), .val (.int t0), .val (.int t1), .val (.int (mg0_50_s0 p4)), .val (.int m0), .val (.int m1), .unset, .unset, .unset, .unset] [(.ref b1_13)])) _
        refine XS.astore X13.here hx rfl (hb hby at_119) rfl rfl (l' := #[.val (.int p1), .val (.int p2), .val (.int p3), .val (.int p4), .val (.int sv), .val (.int (0 : Int32)), .val (.int (0 : Int32)), .val (.int t0), .val (.int t1), .val (.int (mg0_50_s0 p4)), .val (.int m0), .val (.int m1), .val (.ref b1_13), .unset, .unset, .unset]) rfl ?_
        show Steps p.tables e below (T13.setTop (mkF m 121 #[.val (.int p1), .val (.int p2), .val (.int p3), .val (.int p4), .val (.int sv), .val (.int (0 : Int32)), .val (.int (0 : Int32)), .val (.int t0), .val (.int t1), .val (.int (mg0_50_s0 p4)), .val (.int m0), .val (.int m1), .val (.ref b1_13), .unset, .unset, .unset] [])) _
        refine XS.iload X13.here hx rfl (hb hby at_121) rfl ?_
        refine XS.iload X13.here hx rfl (hb hby at_123) rfl ?_
        refine XS.iload X13.here hx rfl (hb hby at_125) rfl ?_
        exact kt
      obtain ⟨_, _, ⟨T15, L15, k15, n15⟩, -, XX15, hSS15, hgr15, ⟨Lc15, hQ15, l15, y15, z15, hC15⟩, st15⟩ := callSS X13 hx (y := (⟨"com/example/cantrip/cantrip/TokenIsPinLaw", "str", "(ICC)Ljava/lang/String;"⟩ : MethodName)) hown (mvT hZ (hw _ (List.mem_of_getElem? (i := 1) rfl))) (mvT hZ (hw _ (List.mem_of_getElem? (i := 2) rfl))) (mvT hZ (hw _ (List.mem_of_getElem? (i := 3) rfl))) (mvT hZ (hw _ (List.mem_of_getElem? (i := 4) rfl))) (by decide) (backOfSH (W := 0) (rm_str_0 l Z a0 hw [] m0 m1  T13.heap n0 (Nat.le_trans Z0 KK13.1)   hEL) hZ (hw _ (List.mem_of_getElem? (i := 4) rfl)) (hw _ (List.mem_of_getElem? (i := 3) rfl)) (by decide) (by decide) hEL CR13.1) (g := (mkF m 127 #[.val (.int p1), .val (.int p2), .val (.int p3), .val (.int p4), .val (.int sv), .val (.int (0 : Int32)), .val (.int (0 : Int32)), .val (.int t0), .val (.int t1), .val (.int (mg0_50_s0 p4)), .val (.int m0), .val (.int m1), .val (.ref b1_13), .unset, .unset, .unset] [(.int m1), (.int m0), (.int (0 : Int32))])) rfl (by rw [hml]; rfl) (argsL := [(.int (0 : Int32)), (.int m0), (.int m1)]) (rest := []) (lenOf pd8 rfl) rfl (by show 2 * 0 + _ ≤ _; exact Nat.le_of_eq rfl) (hb hby at_127) (fun _ _ => ⟨rfl, rfl, (by decide : 4 + 4 ≤ _), (by decide : 8 + 8 ≤ _)⟩)
      dsimp only [Pt.U, Pt.locs, Pt.cells, Pt.slots] at XX15 hSS15 hgr15 l15 y15 z15 st15 hQ15 hC15
      subst l15 y15 z15
      obtain ⟨X15, hS15, hZ, hown⟩ := rebS hS13 (Nat.le_trans (Nat.le_refl _) (Nat.le_of_eq (congrArg Array.size (rfl : T13.heap = T13.heap).symm))) XX15 hSS15 hgr15 hZ hown
      have CR15 := CHr.trans CR13 hC15
      obtain ⟨b1_15, c2_2_3_15, k2_2_3_15, rfl, N15q, K15, s15_b1, f15_0, f15_1, f15_2, f15_3⟩ := hQ15
      have N15 := Fr.app N13 N15q
      have sz_b1_15 : h0.size ≤ b1_15 := Nat.le_trans KK13.1 s15_b1
      have g_b1_15 : n0 ≤ b1_15 := Nat.le_trans Z0 sz_b1_15
      have KK15 : Keep h0 T15.heap [] := KK13.trans K15 all0
      obtain ⟨T17, h17, X17, e17, E17, A17, D17, -, st17⟩ := newO X15 hx hZ hown (hw _ (List.mem_of_getElem? (i := 38) rfl)) (hw _ (List.mem_of_getElem? (i := 39) rfl)) (hw _ (List.mem_of_getElem? (i := 40) rfl)) rfl (g := (mkF m 132 #[.val (.int p1), .val (.int p2), .val (.int p3), .val (.int p4), .val (.int sv), .val (.int (0 : Int32)), .val (.int (0 : Int32)), .val (.int t0), .val (.int t1), .val (.int (mg0_50_s0 p4)), .val (.int m0), .val (.int m1), .val (.ref b1_13), .val (.ref b1_15), .unset, .unset] [])) rfl (hb hby at_132) (by decide) (by decide)
      obtain ⟨b17, g17⟩ : ∃ z, z = T15.heap.size := ⟨_, rfl⟩
      rw [← g17] at A17 D17 st17
      have sz_b17 : h0.size ≤ b17 := Nat.le_trans KK15.1 (Nat.le_of_eq g17.symm)
      have g_b17 : n0 ≤ b17 := Nat.le_trans Z0 sz_b17
      have K17 : Keep h0 h17 [] := KK15.ext E17
      have hk_17 := Nat.le_trans (Nat.le_refl _) E17.1
      have F_kind_b17 : Fld Z h17 b17 "com/example/cantrip/cantrip/Token" "kind" "Lcom/example/cantrip/cantrip/Token$Kind;" .null := D17 (Or.inr (hw _ (List.mem_of_getElem? (i := 57) rfl))) (ty := (.object "com/example/cantrip/cantrip/Token$Kind")) (by decide)
      have F_text_b17 : Fld Z h17 b17 "com/example/cantrip/cantrip/Token" "text" "Ljava/lang/String;" .null := D17 (Or.inr (hw _ (List.mem_of_getElem? (i := 59) rfl))) (ty := (.object "java/lang/String")) (by decide)
      have F_offset_b17 : Fld Z h17 b17 "com/example/cantrip/cantrip/Token" "offset" "I" (.int (0 : Int32)) := D17 (Or.inr (hw _ (List.mem_of_getElem? (i := 61) rfl))) (ty := .int) (by decide)
      obtain ⟨_, _, ⟨T18, L18, k18, n18⟩, -, X18, ⟨Lc18, hQ18, l18, y18, z18⟩, st18⟩ := Jvm.LawKit.callS X17 hx (y := (⟨"com/example/cantrip/cantrip/TokenIsPinLaw", "kindOf", "(I)Lcom/example/cantrip/cantrip/Token$Kind;"⟩ : MethodName)) hown (mvT hZ (hw _ (List.mem_of_getElem? (i := 41) rfl))) (mvT hZ (hw _ (List.mem_of_getElem? (i := 42) rfl))) (mvT hZ (hw _ (List.mem_of_getElem? (i := 3) rfl))) (mvT hZ (hw _ (List.mem_of_getElem? (i := 43) rfl))) (by decide) (backOf (W := 2) (rm8 l Z a0 hw [] sv w_IRI w_PNAME_NS w_PNAME_LN w_BLANK_NODE_LABEL w_VAR w_STRING w_LANGTAG w_INTEGER w_DECIMAL w_DOUBLE w_NIL w_ANON w_WORD w_PUNCT w_EOF h17 n0 (Nat.le_trans Z0 K17.1) ((own_sta_keep (own_sta_keep S_IRI K13 all0) K15 all0).ext E17) ((own_sta_keep (own_sta_keep S_PNAME_NS K13 all0) K15 all0).ext E17) ((own_sta_keep (own_sta_keep S_PNAME_LN K13 all0) K15 all0).ext E17) ((own_sta_keep (own_sta_keep S_BLANK_NODE_LABEL K13 all0) K15 all0).ext E17) ((own_sta_keep (own_sta_keep S_VAR K13 all0) K15 all0).ext E17) ((own_sta_keep (own_sta_keep S_STRING K13 all0) K15 all0).ext E17) ((own_sta_keep (own_sta_keep S_LANGTAG K13 all0) K15 all0).ext E17) ((own_sta_keep (own_sta_keep S_INTEGER K13 all0) K15 all0).ext E17) ((own_sta_keep (own_sta_keep S_DECIMAL K13 all0) K15 all0).ext E17) ((own_sta_keep (own_sta_keep S_DOUBLE K13 all0) K15 all0).ext E17) ((own_sta_keep (own_sta_keep S_NIL K13 all0) K15 all0).ext E17) ((own_sta_keep (own_sta_keep S_ANON K13 all0) K15 all0).ext E17) ((own_sta_keep (own_sta_keep S_WORD K13 all0) K15 all0).ext E17) ((own_sta_keep (own_sta_keep S_PUNCT K13 all0) K15 all0).ext E17) ((own_sta_keep (own_sta_keep S_EOF K13 all0) K15 all0).ext E17) ) hZ (hw _ (List.mem_of_getElem? (i := 43) rfl)) (hw _ (List.mem_of_getElem? (i := 3) rfl)) (by decide) (by decide)) (g := (mkF m 138 #[.val (.int p1), .val (.int p2), .val (.int p3), .val (.int p4), .val (.int sv), .val (.int (0 : Int32)), .val (.int (0 : Int32)), .val (.int t0), .val (.int t1), .val (.int (mg0_50_s0 p4)), .val (.int m0), .val (.int m1), .val (.ref b1_13), .val (.ref b1_15), .unset, .unset] [(.int sv), (.ref b17), (.ref b17)])) rfl (by rw [hml]; rfl) (argsL := [(.int sv)]) (rest := [(.ref b17), (.ref b17)]) (lenOf pd9 rfl) rfl (by show 2 * 0 + _ ≤ _; exact Nat.le_of_eq rfl) (hb hby at_138) (fun _ _ => ⟨rfl, e17, (by decide : 9 + 0 ≤ _), (by decide : 19 + 0 ≤ _)⟩)
      dsimp only [Pt.U, Pt.locs, Pt.cells, Pt.slots] at X18 l18 y18 z18 st18 hQ18
      subst l18 y18 z18
      obtain ⟨rfl, rfl, e18⟩ := hQ18
      have N18 := Fr.app N15 (Fr.nil n0)
      obtain ⟨_, _, ⟨T19, L19, k19, n19⟩, -, X19, ⟨Lc19, hQ19, l19, y19, z19⟩, st19⟩ := X18.specialBack hx (y := (⟨"com/example/cantrip/cantrip/Token", "<init>", "(Lcom/example/cantrip/cantrip/Token$Kind;Ljava/lang/String;I)V"⟩ : MethodName)) rfl hown (mvT hZ (hw _ (List.mem_of_getElem? (i := 47) rfl))) (mvT hZ (hw _ (List.mem_of_getElem? (i := 48) rfl))) (mvT hZ (hw _ (List.mem_of_getElem? (i := 49) rfl))) (by decide) (backOf (W := 1) (rm9 l Z a0 hw [] b17 (res8 sv w_IRI w_PNAME_NS w_PNAME_LN w_BLANK_NODE_LABEL w_VAR w_STRING w_LANGTAG w_INTEGER w_DECIMAL w_DOUBLE w_NIL w_ANON w_WORD w_PUNCT w_EOF) b1_13 (p3 ^^^ p1) .null .null (.int (0 : Int32)) h17 n0 (Nat.le_trans Z0 K17.1) A17 F_kind_b17 g_b17 F_text_b17 F_offset_b17 ) hZ (hw _ (List.mem_of_getElem? (i := 49) rfl)) (hw _ (List.mem_of_getElem? (i := 40) rfl)) (by decide) (by decide)) (g := (mkF m 146 #[.val (.int p1), .val (.int p2), .val (.int p3), .val (.int p4), .val (.int sv), .val (.int (0 : Int32)), .val (.int (0 : Int32)), .val (.int t0), .val (.int t1), .val (.int (mg0_50_s0 p4)), .val (.int m0), .val (.int m1), .val (.ref b1_13), .val (.ref b1_15), .unset, .unset] [(.int (p3 ^^^ p1)), (.ref b1_13), (.ref (res8 sv w_IRI w_PNAME_NS w_PNAME_LN w_BLANK_NODE_LABEL w_VAR w_STRING w_LANGTAG w_INTEGER w_DECIMAL w_DOUBLE w_NIL w_ANON w_WORD w_PUNCT w_EOF)), (.ref b17), (.ref b17)])) rfl (by rw [hml]; rfl) (Steps.refl _) (a := b17) (argsL := [(.ref (res8 sv w_IRI w_PNAME_NS w_PNAME_LN w_BLANK_NODE_LABEL w_VAR w_STRING w_LANGTAG w_INTEGER w_DECIMAL w_DOUBLE w_NIL w_ANON w_WORD w_PUNCT w_EOF)), (.ref b1_13), (.int (p3 ^^^ p1))]) (rest := [(.ref b17)]) (lenOf pd10 rfl) rfl (by show 2 * 0 + _ ≤ _; exact Nat.le_of_eq rfl) (hb hby at_146) (fun _ _ => ⟨rfl, e18, (by decide : 9 + 0 ≤ _), (by decide : 19 + 0 ≤ _)⟩)
      dsimp only [Pt.U, Pt.locs, Pt.cells, Pt.slots] at X19 l19 y19 z19 st19 hQ19
      subst l19 y19 z19
      obtain ⟨rfl, N19q, K19, f19_0, f19_1, f19_2, f19_3⟩ := hQ19
      have N19 := Fr.app N18 N19q
      have KK19 : Keep h0 T19.heap [] := K17.trans K19 (allS (Or.inr sz_b17) all0)
      have hk_19 := Nat.le_trans hk_17 K19.1
      have pre20 : ∀ t, Steps p.tables e below (T19.setTop (mkF m 155 #[.val (.int p1), .val (.int p2), .val (.int p3), .val (.int p4), .val (.int sv), .val (.int (0 : Int32)), .val (.int (0 : Int32)), .val (.int t0), .val (.int t1), .val (.int (mg0_50_s0 p4)), .val (.int m0), .val (.int m1), .val (.ref b1_13), .val (.ref b1_15), .val (.ref b17), .unset] [(.int (13 : Int32)), (.int sv)])) t → Steps p.tables e below (s₁.setTop (entryFrame m #[(.int p1), (.int p2), (.int p3), (.int p4)] maxLocals)) t := by
        intro t kt
        refine pre16 _ ?_
        show Steps p.tables e below (T13.setTop (mkF m 127 #[.val (.int p1), .val (.int p2), .val (.int p3), .val (.int p4), .val (.int sv), .val (.int (0 : Int32)), .val (.int (0 : Int32)), .val (.int t0), .val (.int t1), .val (.int (mg0_50_s0 p4)), .val (.int m0), .val (.int m1), .val (.ref b1_13), .unset, .unset, .unset] [(.int m1), (.int m0), (.int (0 : Int32))])) _
        refine st15.trans ?_
        show Steps p.tables e below (T15.setTop (mkF m 130 #[.val (.int p1), .val (.int p2), .val (.int p3), .val (.int p4), .val (.int sv), .val (.int (0 : Int32)), .val (.int (0 : Int32)), .val (.int t0), .val (.int t1), .val (.int (mg0_50_s0 p4)), .val (.int m0), .val (.int m1), .val (.ref b1_13), .unset, .unset, .unset] [(.ref b1_15)])) _
        refine XS.astore X15.here hx rfl (hb hby at_130) rfl rfl (l' := #[.val (.int p1), .val (.int p2), .val (.int p3), .val (.int p4), .val (.int sv), .val (.int (0 : Int32)), .val (.int (0 : Int32)), .val (.int t0), .val (.int t1), .val (.int (mg0_50_s0 p4)), .val (.int m0), .val (.int m1), .val (.ref b1_13), .val (.ref b1_15), .unset, .unset]) rfl ?_
        show Steps p.tables e below (T15.setTop (mkF m 132 #[.val (.int p1), .val (.int p2), .val (.int p3), .val (.int p4), .val (.int sv), .val (.int (0 : Int32)), .val (.int (0 : Int32)), .val (.int t0), .val (.int t1), .val (.int (mg0_50_s0 p4)), .val (.int m0), .val (.int m1), .val (.ref b1_13), .val (.ref b1_15), .unset, .unset] [])) _
        refine st17 _ ?_
        show Steps p.tables e below (T17.setTop (mkF m 135 #[.val (.int p1), .val (.int p2), .val (.int p3), .val (.int p4), .val (.int sv), .val (.int (0 : Int32)), .val (.int (0 : Int32)), .val (.int t0), .val (.int t1), .val (.int (mg0_50_s0 p4)), .val (.int m0), .val (.int m1), .val (.ref b1_13), .val (.ref b1_15), .unset, .unset] [(.ref b17)])) _
        refine XS.dup X17.here hx rfl (hb hby at_135) rfl rfl ?_
        refine XS.iload X17.here hx rfl (hb hby at_136) rfl ?_
        show Steps p.tables e below (T17.setTop (mkF m 138 #[.val (.int p1), .val (.int p2), .val (.int p3), .val (.int p4), .val (.int sv), .val (.int (0 : Int32)), .val (.int (0 : Int32)), .val (.int t0), .val (.int t1), .val (.int (mg0_50_s0 p4)), .val (.int m0), .val (.int m1), .val (.ref b1_13), .val (.ref b1_15), .unset, .unset] [(.int sv), (.ref b17), (.ref b17)])) _
        refine st18 _ ?_
        show Steps p.tables e below (T18.setTop (mkF m 141 #[.val (.int p1), .val (.int p2), .val (.int p3), .val (.int p4), .val (.int sv), .val (.int (0 : Int32)), .val (.int (0 : Int32)), .val (.int t0), .val (.int t1), .val (.int (mg0_50_s0 p4)), .val (.int m0), .val (.int m1), .val (.ref b1_13), .val (.ref b1_15), .unset, .unset] [(.ref (res8 sv w_IRI w_PNAME_NS w_PNAME_LN w_BLANK_NODE_LABEL w_VAR w_STRING w_LANGTAG w_INTEGER w_DECIMAL w_DOUBLE w_NIL w_ANON w_WORD w_PUNCT w_EOF)), (.ref b17), (.ref b17)])) _
        refine XS.aload X18.here hx rfl (hb hby at_141) rfl rfl ?_
        refine XS.iloadN X18.here hx rfl (hb hby at_143) rfl ?_
        refine XS.iloadN X18.here hx rfl (hb hby at_144) rfl ?_
        show Steps p.tables e below (T18.setTop (mkF m 145 #[.val (.int p1), .val (.int p2), .val (.int p3), .val (.int p4), .val (.int sv), .val (.int (0 : Int32)), .val (.int (0 : Int32)), .val (.int t0), .val (.int t1), .val (.int (mg0_50_s0 p4)), .val (.int m0), .val (.int m1), .val (.ref b1_13), .val (.ref b1_15), .unset, .unset] [(.int p1), (.int p3), (.ref b1_13), (.ref (res8 sv w_IRI w_PNAME_NS w_PNAME_LN w_BLANK_NODE_LABEL w_VAR w_STRING w_LANGTAG w_INTEGER w_DECIMAL w_DOUBLE w_NIL w_ANON w_WORD w_PUNCT w_EOF)), (.ref b17), (.ref b17)])) _
        refine XS.ixor X18.here hx rfl (hb hby at_145) rfl ?_
        show Steps p.tables e below (T18.setTop (mkF m 146 #[.val (.int p1), .val (.int p2), .val (.int p3), .val (.int p4), .val (.int sv), .val (.int (0 : Int32)), .val (.int (0 : Int32)), .val (.int t0), .val (.int t1), .val (.int (mg0_50_s0 p4)), .val (.int m0), .val (.int m1), .val (.ref b1_13), .val (.ref b1_15), .unset, .unset] [(.int (p3 ^^^ p1)), (.ref b1_13), (.ref (res8 sv w_IRI w_PNAME_NS w_PNAME_LN w_BLANK_NODE_LABEL w_VAR w_STRING w_LANGTAG w_INTEGER w_DECIMAL w_DOUBLE w_NIL w_ANON w_WORD w_PUNCT w_EOF)), (.ref b17), (.ref b17)])) _
        refine st19.trans ?_
        show Steps p.tables e below (T19.setTop (mkF m 149 #[.val (.int p1), .val (.int p2), .val (.int p3), .val (.int p4), .val (.int sv), .val (.int (0 : Int32)), .val (.int (0 : Int32)), .val (.int t0), .val (.int t1), .val (.int (mg0_50_s0 p4)), .val (.int m0), .val (.int m1), .val (.ref b1_13), .val (.ref b1_15), .unset, .unset] [(.ref b17)])) _
        refine XS.astore X19.here hx rfl (hb hby at_149) rfl rfl (l' := #[.val (.int p1), .val (.int p2), .val (.int p3), .val (.int p4), .val (.int sv), .val (.int (0 : Int32)), .val (.int (0 : Int32)), .val (.int t0), .val (.int t1), .val (.int (mg0_50_s0 p4)), .val (.int m0), .val (.int m1), .val (.ref b1_13), .val (.ref b1_15), .val (.ref b17), .unset]) rfl ?_
        refine XS.iload X19.here hx rfl (hb hby at_151) rfl ?_
        show Steps p.tables e below (T19.setTop (mkF m 153 #[.val (.int p1), .val (.int p2), .val (.int p3), .val (.int p4), .val (.int sv), .val (.int (0 : Int32)), .val (.int (0 : Int32)), .val (.int t0), .val (.int t1), .val (.int (mg0_50_s0 p4)), .val (.int m0), .val (.int m1), .val (.ref b1_13), .val (.ref b1_15), .val (.ref b17), .unset] [(.int sv)])) _
        refine XS.bipush X19.here hx rfl (hb hby at_153) ?_
        exact kt
      have pre22 : ∀ t, Steps p.tables e below (T19.setTop (mkF m 196 #[.val (.int p1), .val (.int p2), .val (.int p3), .val (.int p4), .val (.int sv), .val (.int (0 : Int32)), .val (.int (0 : Int32)), .val (.int t0), .val (.int t1), .val (.int (mg0_50_s0 p4)), .val (.int m0), .val (.int m1), .val (.ref b1_13), .val (.ref b1_15), .val (.ref b17), .unset] [(.int (mg0_155_s0 sv))])) t → Steps p.tables e below (s₁.setTop (entryFrame m #[(.int p1), (.int p2), (.int p3), (.int p4)] maxLocals)) t := by
        intro t kt
        by_cases hc155_21 : sv = (13 : Int32)
        · rw [show (mg0_155_s0 sv) = (1 : Int32) from by rw [mg0_155_s0, if_pos hc155_21]] at kt
          refine pre20 _ ?_
          show Steps p.tables e below (T19.setTop (mkF m 155 #[.val (.int p1), .val (.int p2), .val (.int p3), .val (.int p4), .val (.int sv), .val (.int (0 : Int32)), .val (.int (0 : Int32)), .val (.int t0), .val (.int t1), .val (.int (mg0_50_s0 p4)), .val (.int m0), .val (.int m1), .val (.ref b1_13), .val (.ref b1_15), .val (.ref b17), .unset] [(.int (13 : Int32)), (.int sv)])) _
          refine XS.icmpNo X19.here hx rfl (hb hby at_155) rfl (teq hc155_21).2 ?_
          refine XS.iload X19.here hx rfl (hb hby at_158) rfl ?_
          show Steps p.tables e below (T19.setTop (mkF m 160 #[.val (.int p1), .val (.int p2), .val (.int p3), .val (.int p4), .val (.int sv), .val (.int (0 : Int32)), .val (.int (0 : Int32)), .val (.int t0), .val (.int t1), .val (.int (mg0_50_s0 p4)), .val (.int m0), .val (.int m1), .val (.ref b1_13), .val (.ref b1_15), .val (.ref b17), .unset] [(.int (0 : Int32))])) _
          refine XS.iload X19.here hx rfl (hb hby at_160) rfl ?_
          refine XS.icmpNo X19.here hx rfl (hb hby at_162) rfl (teq (by decide : (0 : Int32) = (0 : Int32))).2 ?_
          refine XS.iload X19.here hx rfl (hb hby at_165) rfl ?_
          show Steps p.tables e below (T19.setTop (mkF m 167 #[.val (.int p1), .val (.int p2), .val (.int p3), .val (.int p4), .val (.int sv), .val (.int (0 : Int32)), .val (.int (0 : Int32)), .val (.int t0), .val (.int t1), .val (.int (mg0_50_s0 p4)), .val (.int m0), .val (.int m1), .val (.ref b1_13), .val (.ref b1_15), .val (.ref b17), .unset] [(.int (0 : Int32))])) _
          refine XS.iconst X19.here hx rfl (hb hby at_167) ?_
          refine XS.icmpYes X19.here hx rfl (pc0 := 168) (pc' := 178) rfl (hb hby at_168) rfl (tlt (by decide : (0 : Int32) < (1 : Int32))).1 (by decide) (by decide) ?_
          refine XS.iload X19.here hx rfl (hb hby at_178) rfl ?_
          show Steps p.tables e below (T19.setTop (mkF m 180 #[.val (.int p1), .val (.int p2), .val (.int p3), .val (.int p4), .val (.int sv), .val (.int (0 : Int32)), .val (.int (0 : Int32)), .val (.int t0), .val (.int t1), .val (.int (mg0_50_s0 p4)), .val (.int m0), .val (.int m1), .val (.ref b1_13), .val (.ref b1_15), .val (.ref b17), .unset] [(.int (0 : Int32))])) _
          refine XS.iconst X19.here hx rfl (hb hby at_180) ?_
          refine XS.icmpYes X19.here hx rfl (pc0 := 181) (pc' := 191) rfl (hb hby at_181) rfl (tlt (by decide : (0 : Int32) < (2 : Int32))).1 (by decide) (by decide) ?_
          refine XS.iconst X19.here hx rfl (hb hby at_191) ?_
          show Steps p.tables e below (T19.setTop (mkF m 192 #[.val (.int p1), .val (.int p2), .val (.int p3), .val (.int p4), .val (.int sv), .val (.int (0 : Int32)), .val (.int (0 : Int32)), .val (.int t0), .val (.int t1), .val (.int (mg0_50_s0 p4)), .val (.int m0), .val (.int m1), .val (.ref b1_13), .val (.ref b1_15), .val (.ref b17), .unset] [(.int (1 : Int32))])) _
          refine XS.goto X19.here hx rfl (pc0 := 192) (pc' := 196) rfl (hb hby at_192) (by decide) (by decide) ?_
          exact kt
        · rw [show (mg0_155_s0 sv) = (0 : Int32) from by rw [mg0_155_s0, if_neg hc155_21]] at kt
          refine pre20 _ ?_
          show Steps p.tables e below (T19.setTop (mkF m 155 #[.val (.int p1), .val (.int p2), .val (.int p3), .val (.int p4), .val (.int sv), .val (.int (0 : Int32)), .val (.int (0 : Int32)), .val (.int t0), .val (.int t1), .val (.int (mg0_50_s0 p4)), .val (.int m0), .val (.int m1), .val (.ref b1_13), .val (.ref b1_15), .val (.ref b17), .unset] [(.int (13 : Int32)), (.int sv)])) _
          refine XS.icmpYes X19.here hx rfl (pc0 := 155) (pc' := 195) rfl (hb hby at_155) rfl (feq hc155_21).2 (by decide) (by decide) ?_
          refine XS.iconst X19.here hx rfl (hb hby at_195) ?_
          exact kt
      obtain ⟨cq23, kq23, q23a, q23b, q23c⟩ := isOf hZ rfl (A17.keep K19)
      obtain ⟨_, _, ⟨T23, L23, k23, n23⟩, -, X23, ⟨Lc23, hQ23, l23, y23, z23⟩, st23⟩ := X19.virtualBack hx (y := (⟨"com/example/cantrip/cantrip/Token", "is", "(Ljava/lang/String;)Z"⟩ : MethodName)) (z := (⟨"com/example/cantrip/cantrip/Token", "is", "(Ljava/lang/String;)Z"⟩ : MethodName)) hown (mvT hZ (hw _ (List.mem_of_getElem? (i := 62) rfl))) (mvT hZ (hw _ (List.mem_of_getElem? (i := 63) rfl))) (notFace_of_selects (args := #[]) (mvT hZ (hw _ (List.mem_of_getElem? (i := 65) rfl)))) (mvT hZ (hw _ (List.mem_of_getElem? (i := 65) rfl))) (mvT hZ (hw _ (List.mem_of_getElem? (i := 64) rfl))) (by decide) (backOf (W := 0) (rm_is_0_0 l Z a0 hw [] b17 b1_15 c2_2_3_15 k2_2_3_15 b1_13 c2_2_3_13 k2_2_3_13 (res8 sv w_IRI w_PNAME_NS w_PNAME_LN w_BLANK_NODE_LABEL w_VAR w_STRING w_LANGTAG w_INTEGER w_DECIMAL w_DOUBLE w_NIL w_ANON w_WORD w_PUNCT w_EOF) w_PUNCT w_COMPACT_STRINGS T19.heap n0 (Nat.le_trans Z0 KK19.1) ((f15_0.ext E17).keep K19) ((f15_2.ext E17).keep K19 (ninS (Nat.ne_of_lt (Nat.lt_of_lt_of_le f15_0.lt (Nat.le_of_eq g17.symm))) nin0)) ((f15_1.ext E17).keep K19 (ninS (Nat.ne_of_lt (Nat.lt_of_lt_of_le f15_0.lt (Nat.le_of_eq g17.symm))) nin0)) ((f15_3.ext E17).keep K19 (ninS (Nat.ne_of_lt (Nat.lt_of_lt_of_le f15_3.lt (Nat.le_of_eq g17.symm))) nin0)) f19_2 (((f13_0.keep K15).ext E17).keep K19) (((f13_2.keep K15 nin0).ext E17).keep K19 (ninS (Nat.ne_of_lt (Nat.lt_of_lt_of_le (f13_0.keep K15).lt (Nat.le_of_eq g17.symm))) nin0)) (((f13_1.keep K15 nin0).ext E17).keep K19 (ninS (Nat.ne_of_lt (Nat.lt_of_lt_of_le (f13_0.keep K15).lt (Nat.le_of_eq g17.symm))) nin0)) (((f13_3.keep K15 nin0).ext E17).keep K19 (ninS (Nat.ne_of_lt (Nat.lt_of_lt_of_le (f13_3.keep K15 nin0).lt (Nat.le_of_eq g17.symm))) nin0)) f19_1 (own_sta_keep ((own_sta_keep (own_sta_keep S_PUNCT K13 all0) K15 all0).ext E17) K19 (allS (own_exa_ns A17) all0)) (own_sta_keep ((own_sta_keep (own_sta_keep S_COMPACT_STRINGS K13 all0) K15 all0).ext E17) K19 (allS (own_exa_ns A17) all0)) ((Nat.ne_of_lt (Nat.lt_of_lt_of_le f13_0.lt s15_b1)) : b1_13 ≠ b1_15) (hCS : ¬ (w_COMPACT_STRINGS = (0 : Int32)))) hZ (hw _ (List.mem_of_getElem? (i := 66) rfl)) (hw _ (List.mem_of_getElem? (i := 40) rfl)) (by decide) (by decide)) q23a q23c (g := (mkF m 202 #[.val (.int p1), .val (.int p2), .val (.int p3), .val (.int p4), .val (.int sv), .val (.int (0 : Int32)), .val (.int (0 : Int32)), .val (.int t0), .val (.int t1), .val (.int (mg0_50_s0 p4)), .val (.int m0), .val (.int m1), .val (.ref b1_13), .val (.ref b1_15), .val (.ref b17), .val (.int (mg0_155_s0 sv))] [(.ref b1_15), (.ref b17)])) rfl (by rw [hml]; rfl) (Steps.refl _) (argsL := [(.ref b1_15)]) (rest := []) (lenOf pd11 rfl) rfl (by show 2 * 0 + _ ≤ _; exact Nat.le_of_eq rfl) (hb hby at_202) (fun _ _ => ⟨rfl, rfl, (by decide : 9 + 0 ≤ _), (by decide : 19 + 0 ≤ _)⟩)
      dsimp only [Pt.U, Pt.locs, Pt.cells, Pt.slots] at X23 l23 y23 z23 st23 hQ23
      subst l23 y23 z23
      obtain ⟨rfl, rfl, e23⟩ := hQ23
      have N23 := Fr.app N19 (Fr.nil n0)
      obtain ⟨fs, hr, hrun, hended, hRW⟩ := X23.leaveW hS15 (Nat.le_trans hk_19 (Nat.le_of_eq (congrArg Array.size e23.symm))) (v := some (.int (1 : Int32))) (fun h => by rw [Bd.returns] at h; cases h)
      refine ⟨_, _, pre22 _ ?_, hrun, hended, _, _, rfl, ?_, hRW.1, hRW.2.1, hRW.2.2.1, hRW.2.2.2.mono (by decide) (by decide)⟩
      · show Steps p.tables e below (T19.setTop (mkF m 196 #[.val (.int p1), .val (.int p2), .val (.int p3), .val (.int p4), .val (.int sv), .val (.int (0 : Int32)), .val (.int (0 : Int32)), .val (.int t0), .val (.int t1), .val (.int (mg0_50_s0 p4)), .val (.int m0), .val (.int m1), .val (.ref b1_13), .val (.ref b1_15), .val (.ref b17), .unset] [(.int (mg0_155_s0 sv))])) _
        refine XS.istore X19.here hx rfl (hb hby at_196) rfl (l' := #[.val (.int p1), .val (.int p2), .val (.int p3), .val (.int p4), .val (.int sv), .val (.int (0 : Int32)), .val (.int (0 : Int32)), .val (.int t0), .val (.int t1), .val (.int (mg0_50_s0 p4)), .val (.int m0), .val (.int m1), .val (.ref b1_13), .val (.ref b1_15), .val (.ref b17), .val (.int (mg0_155_s0 sv))]) rfl ?_
        refine XS.aload X19.here hx rfl (hb hby at_198) rfl rfl ?_
        show Steps p.tables e below (T19.setTop (mkF m 200 #[.val (.int p1), .val (.int p2), .val (.int p3), .val (.int p4), .val (.int sv), .val (.int (0 : Int32)), .val (.int (0 : Int32)), .val (.int t0), .val (.int t1), .val (.int (mg0_50_s0 p4)), .val (.int m0), .val (.int m1), .val (.ref b1_13), .val (.ref b1_15), .val (.ref b17), .val (.int (mg0_155_s0 sv))] [(.ref b17)])) _
        refine XS.aload X19.here hx rfl (hb hby at_200) rfl rfl ?_
        show Steps p.tables e below (T19.setTop (mkF m 202 #[.val (.int p1), .val (.int p2), .val (.int p3), .val (.int p4), .val (.int sv), .val (.int (0 : Int32)), .val (.int (0 : Int32)), .val (.int t0), .val (.int t1), .val (.int (mg0_50_s0 p4)), .val (.int m0), .val (.int m1), .val (.ref b1_13), .val (.ref b1_15), .val (.ref b17), .val (.int (mg0_155_s0 sv))] [(.ref b1_15), (.ref b17)])) _
        refine st23.trans ?_
        show Steps p.tables e below (T23.setTop (mkF m 205 #[.val (.int p1), .val (.int p2), .val (.int p3), .val (.int p4), .val (.int sv), .val (.int (0 : Int32)), .val (.int (0 : Int32)), .val (.int t0), .val (.int t1), .val (.int (mg0_50_s0 p4)), .val (.int m0), .val (.int m1), .val (.ref b1_13), .val (.ref b1_15), .val (.ref b17), .val (.int (mg0_155_s0 sv))] [(.int (res_is_0_0 (res8 sv w_IRI w_PNAME_NS w_PNAME_LN w_BLANK_NODE_LABEL w_VAR w_STRING w_LANGTAG w_INTEGER w_DECIMAL w_DOUBLE w_NIL w_ANON w_WORD w_PUNCT w_EOF) w_PUNCT))])) _
        refine XS.iload X23.here hx rfl (hb hby at_205) rfl ?_
        refine XS.icmpNo X23.here hx rfl (hb hby at_207) rfl (teq (own_eq_0_0 w_IRI w_PNAME_NS w_PNAME_LN w_BLANK_NODE_LABEL w_VAR w_STRING w_LANGTAG w_INTEGER w_DECIMAL w_DOUBLE w_NIL w_ANON w_WORD w_PUNCT w_EOF rs r_t0 r_t1 r_m0 r_m1 hD : (res_is_0_0 (res8 sv w_IRI w_PNAME_NS w_PNAME_LN w_BLANK_NODE_LABEL w_VAR w_STRING w_LANGTAG w_INTEGER w_DECIMAL w_DOUBLE w_NIL w_ANON w_WORD w_PUNCT w_EOF) w_PUNCT) = (mg0_155_s0 sv))).2 ?_
        show Steps p.tables e below (T23.setTop (mkF m 210 #[.val (.int p1), .val (.int p2), .val (.int p3), .val (.int p4), .val (.int sv), .val (.int (0 : Int32)), .val (.int (0 : Int32)), .val (.int t0), .val (.int t1), .val (.int (mg0_50_s0 p4)), .val (.int m0), .val (.int m1), .val (.ref b1_13), .val (.ref b1_15), .val (.ref b17), .val (.int (mg0_155_s0 sv))] [])) _
        refine XS.iconst X23.here hx rfl (hb hby at_210) ?_
        refine XS.goto X23.here hx rfl (pc0 := 211) (pc' := 215) rfl (hb hby at_211) (by decide) (by decide) ?_
        show Steps p.tables e below (T23.setTop (mkF m 215 #[.val (.int p1), .val (.int p2), .val (.int p3), .val (.int p4), .val (.int sv), .val (.int (0 : Int32)), .val (.int (0 : Int32)), .val (.int t0), .val (.int t1), .val (.int (mg0_50_s0 p4)), .val (.int m0), .val (.int m1), .val (.ref b1_13), .val (.ref b1_15), .val (.ref b17), .val (.int (mg0_155_s0 sv))] [(.int (1 : Int32))])) _
        exact retN X23 hx (t := .boolean) Bd.returns (by simp) (hb hby at_215) hr
      · show Q0 Z p1 p2 p3 p4 w_IRI w_PNAME_NS w_PNAME_LN w_BLANK_NODE_LABEL w_VAR w_STRING w_LANGTAG w_INTEGER w_DECIMAL w_DOUBLE w_NIL w_ANON w_WORD w_PUNCT w_EOF w_COMPACT_STRINGS h0 n0 _ T23.heap _
        rw [e23]
        exact ⟨rfl, N23⟩
    · by_cases hv24 : ((((p4.toUInt32 >>> ((2 : Int32) &&& 31).toUInt32).toInt32) &&& (3 : Int32)) % (3 : Int32)) = (1 : Int32)
      · rw [hv24] at pre10
        have pre26 : ∀ t, Steps p.tables e below (s₁.setTop (mkF m 116 #[.val (.int p1), .val (.int p2), .val (.int p3), .val (.int p4), .val (.int sv), .val (.int (0 : Int32)), .val (.int (1 : Int32)), .val (.int t0), .val (.int t1), .val (.int (mg0_50_s0 p4)), .val (.int m0), .val (.int m1), .unset, .unset, .unset, .unset] [(.int t1), (.int t0), (.int (0 : Int32))])) t → Steps p.tables e below (s₁.setTop (entryFrame m #[(.int p1), (.int p2), (.int p3), (.int p4)] maxLocals)) t := by
          intro t kt
          refine pre10 _ ?_
          show Steps p.tables e below (s₁.setTop (mkF m 110 #[.val (.int p1), .val (.int p2), .val (.int p3), .val (.int p4), .val (.int sv), .val (.int (0 : Int32)), .val (.int (1 : Int32)), .val (.int t0), .val (.int t1), .val (.int (mg0_50_s0 p4)), .val (.int m0), .val (.int m1), .unset, .unset, .unset, .unset] [])) _
          refine XS.iload X0.here hx rfl (hb hby at_110) rfl ?_
          show Steps p.tables e below (s₁.setTop (mkF m 112 #[.val (.int p1), .val (.int p2), .val (.int p3), .val (.int p4), .val (.int sv), .val (.int (0 : Int32)), .val (.int (1 : Int32)), .val (.int t0), .val (.int t1), .val (.int (mg0_50_s0 p4)), .val (.int m0), .val (.int m1), .unset, .unset, .unset, .unset] [(.int (0 : Int32))])) _
          refine XS.iload X0.here hx rfl (hb hby at_112) rfl ?_
          refine XS.iload X0.here hx rfl (hb hby at_114) rfl ?_
          exact kt
        obtain ⟨_, _, ⟨T25, L25, k25, n25⟩, -, XX25, hSS25, hgr25, ⟨Lc25, hQ25, l25, y25, z25, hC25⟩, st25⟩ := callSS X0 hx (y := (⟨"com/example/cantrip/cantrip/TokenIsPinLaw", "str", "(ICC)Ljava/lang/String;"⟩ : MethodName)) hown (mvT hZ (hw _ (List.mem_of_getElem? (i := 1) rfl))) (mvT hZ (hw _ (List.mem_of_getElem? (i := 2) rfl))) (mvT hZ (hw _ (List.mem_of_getElem? (i := 3) rfl))) (mvT hZ (hw _ (List.mem_of_getElem? (i := 4) rfl))) (by decide) (backOfSH (W := 0) (rm_str_0 l Z a0 hw [] t0 t1  h0 n0 (Nat.le_trans Z0 (Keep.refl h0 []).1)   hEL) hZ (hw _ (List.mem_of_getElem? (i := 4) rfl)) (hw _ (List.mem_of_getElem? (i := 3) rfl)) (by decide) (by decide) hEL CR0.1) (g := (mkF m 116 #[.val (.int p1), .val (.int p2), .val (.int p3), .val (.int p4), .val (.int sv), .val (.int (0 : Int32)), .val (.int (1 : Int32)), .val (.int t0), .val (.int t1), .val (.int (mg0_50_s0 p4)), .val (.int m0), .val (.int m1), .unset, .unset, .unset, .unset] [(.int t1), (.int t0), (.int (0 : Int32))])) rfl (by rw [hml]; rfl) (argsL := [(.int (0 : Int32)), (.int t0), (.int t1)]) (rest := []) (lenOf pd8 rfl) rfl (by show 2 * 0 + _ ≤ _; exact Nat.le_of_eq rfl) (hb hby at_116) (fun _ _ => ⟨rfl, e0, (by decide : 0 + 4 ≤ _), (by decide : 0 + 8 ≤ _)⟩)
        dsimp only [Pt.U, Pt.locs, Pt.cells, Pt.slots] at XX25 hSS25 hgr25 l25 y25 z25 st25 hQ25 hC25
        subst l25 y25 z25
        obtain ⟨X25, hS25, hZ, hown⟩ := rebS hS0 (Nat.le_trans (Nat.zero_le _) (Nat.le_of_eq (congrArg Array.size e0.symm))) XX25 hSS25 hgr25 hZ hown
        have CR25 := CHr.trans CR0 hC25
        obtain ⟨b1_25, c2_2_3_25, k2_2_3_25, rfl, N25q, K25, s25_b1, f25_0, f25_1, f25_2, f25_3⟩ := hQ25
        have N25 := Fr.app N0 N25q
        have sz_b1_25 : h0.size ≤ b1_25 := Nat.le_trans (Keep.refl h0 []).1 s25_b1
        have g_b1_25 : n0 ≤ b1_25 := Nat.le_trans Z0 sz_b1_25
        have KK25 : Keep h0 T25.heap [] := (Keep.refl h0 []).trans K25 all0
        obtain ⟨_, _, ⟨T27, L27, k27, n27⟩, -, X27, ⟨Lc27, hQ27, l27, y27, z27⟩, st27⟩ := Jvm.LawKit.callS X25 hx (y := (⟨"com/example/cantrip/cantrip/TokenIsPinLaw", "str", "(ICC)Ljava/lang/String;"⟩ : MethodName)) hown (mvT hZ (hw _ (List.mem_of_getElem? (i := 1) rfl))) (mvT hZ (hw _ (List.mem_of_getElem? (i := 2) rfl))) (mvT hZ (hw _ (List.mem_of_getElem? (i := 3) rfl))) (mvT hZ (hw _ (List.mem_of_getElem? (i := 4) rfl))) (by decide) (backOf (W := 0) (rm_str_1 l Z a0 hw [] m0 m1 w_COMPACT_STRINGS T25.heap n0 (Nat.le_trans Z0 KK25.1) (own_sta_keep S_COMPACT_STRINGS K25 all0) (hCS : ¬ (w_COMPACT_STRINGS = (0 : Int32))) (own_nc r_m0 : ¬ ((255 : Int32) < (nar .char m0)))) hZ (hw _ (List.mem_of_getElem? (i := 4) rfl)) (hw _ (List.mem_of_getElem? (i := 3) rfl)) (by decide) (by decide)) (g := (mkF m 127 #[.val (.int p1), .val (.int p2), .val (.int p3), .val (.int p4), .val (.int sv), .val (.int (0 : Int32)), .val (.int (1 : Int32)), .val (.int t0), .val (.int t1), .val (.int (mg0_50_s0 p4)), .val (.int m0), .val (.int m1), .val (.ref b1_25), .unset, .unset, .unset] [(.int m1), (.int m0), (.int (1 : Int32))])) rfl (by rw [hml]; rfl) (argsL := [(.int (1 : Int32)), (.int m0), (.int m1)]) (rest := []) (lenOf pd8 rfl) rfl (by show 2 * 0 + _ ≤ _; exact Nat.le_of_eq rfl) (hb hby at_127) (fun _ _ => ⟨rfl, rfl, (by decide : 4 + 3 ≤ _), (by decide : 8 + 6 ≤ _)⟩)
        dsimp only [Pt.U, Pt.locs, Pt.cells, Pt.slots] at X27 l27 y27 z27 st27 hQ27
        subst l27 y27 z27
        obtain ⟨b1_27, b1_3_2_5_27, k1_3_2_5_27, rfl, N27q, K27, s27_b1, s27_b1_3_2_5, f27_0, f27_1, f27_2, f27_3⟩ := hQ27
        have N27 := Fr.app N25 N27q
        have sz_b1_27 : h0.size ≤ b1_27 := Nat.le_trans KK25.1 s27_b1
        have g_b1_27 : n0 ≤ b1_27 := Nat.le_trans Z0 sz_b1_27
        have sz_b1_3_2_5_27 : h0.size ≤ b1_3_2_5_27 := Nat.le_trans KK25.1 s27_b1_3_2_5
        have g_b1_3_2_5_27 : n0 ≤ b1_3_2_5_27 := Nat.le_trans Z0 sz_b1_3_2_5_27
        have KK27 : Keep h0 T27.heap [] := KK25.trans K27 all0
        have hk_27 := Nat.le_trans (Nat.le_refl _) K27.1
        have CR27 := CHr.trans CR25 (CHr.keep K27 all0 CR25.1)
        obtain ⟨T28, h28, X28, e28, E28, A28, D28, -, st28⟩ := newO X27 hx hZ hown (hw _ (List.mem_of_getElem? (i := 38) rfl)) (hw _ (List.mem_of_getElem? (i := 39) rfl)) (hw _ (List.mem_of_getElem? (i := 40) rfl)) rfl (g := (mkF m 132 #[.val (.int p1), .val (.int p2), .val (.int p3), .val (.int p4), .val (.int sv), .val (.int (0 : Int32)), .val (.int (1 : Int32)), .val (.int t0), .val (.int t1), .val (.int (mg0_50_s0 p4)), .val (.int m0), .val (.int m1), .val (.ref b1_25), .val (.ref b1_27), .unset, .unset] [])) rfl (hb hby at_132) (by decide) (by decide)
        obtain ⟨b28, g28⟩ : ∃ z, z = T27.heap.size := ⟨_, rfl⟩
        rw [← g28] at A28 D28 st28
        have sz_b28 : h0.size ≤ b28 := Nat.le_trans KK27.1 (Nat.le_of_eq g28.symm)
        have g_b28 : n0 ≤ b28 := Nat.le_trans Z0 sz_b28
        have K28 : Keep h0 h28 [] := KK27.ext E28
        have hk_28 := Nat.le_trans hk_27 E28.1
        have F_kind_b28 : Fld Z h28 b28 "com/example/cantrip/cantrip/Token" "kind" "Lcom/example/cantrip/cantrip/Token$Kind;" .null := D28 (Or.inr (hw _ (List.mem_of_getElem? (i := 57) rfl))) (ty := (.object "com/example/cantrip/cantrip/Token$Kind")) (by decide)
        have F_text_b28 : Fld Z h28 b28 "com/example/cantrip/cantrip/Token" "text" "Ljava/lang/String;" .null := D28 (Or.inr (hw _ (List.mem_of_getElem? (i := 59) rfl))) (ty := (.object "java/lang/String")) (by decide)
        have F_offset_b28 : Fld Z h28 b28 "com/example/cantrip/cantrip/Token" "offset" "I" (.int (0 : Int32)) := D28 (Or.inr (hw _ (List.mem_of_getElem? (i := 61) rfl))) (ty := .int) (by decide)
        obtain ⟨_, _, ⟨T29, L29, k29, n29⟩, -, X29, ⟨Lc29, hQ29, l29, y29, z29⟩, st29⟩ := Jvm.LawKit.callS X28 hx (y := (⟨"com/example/cantrip/cantrip/TokenIsPinLaw", "kindOf", "(I)Lcom/example/cantrip/cantrip/Token$Kind;"⟩ : MethodName)) hown (mvT hZ (hw _ (List.mem_of_getElem? (i := 41) rfl))) (mvT hZ (hw _ (List.mem_of_getElem? (i := 42) rfl))) (mvT hZ (hw _ (List.mem_of_getElem? (i := 3) rfl))) (mvT hZ (hw _ (List.mem_of_getElem? (i := 43) rfl))) (by decide) (backOf (W := 2) (rm8 l Z a0 hw [] sv w_IRI w_PNAME_NS w_PNAME_LN w_BLANK_NODE_LABEL w_VAR w_STRING w_LANGTAG w_INTEGER w_DECIMAL w_DOUBLE w_NIL w_ANON w_WORD w_PUNCT w_EOF h28 n0 (Nat.le_trans Z0 K28.1) ((own_sta_keep (own_sta_keep S_IRI K25 all0) K27 all0).ext E28) ((own_sta_keep (own_sta_keep S_PNAME_NS K25 all0) K27 all0).ext E28) ((own_sta_keep (own_sta_keep S_PNAME_LN K25 all0) K27 all0).ext E28) ((own_sta_keep (own_sta_keep S_BLANK_NODE_LABEL K25 all0) K27 all0).ext E28) ((own_sta_keep (own_sta_keep S_VAR K25 all0) K27 all0).ext E28) ((own_sta_keep (own_sta_keep S_STRING K25 all0) K27 all0).ext E28) ((own_sta_keep (own_sta_keep S_LANGTAG K25 all0) K27 all0).ext E28) ((own_sta_keep (own_sta_keep S_INTEGER K25 all0) K27 all0).ext E28) ((own_sta_keep (own_sta_keep S_DECIMAL K25 all0) K27 all0).ext E28) ((own_sta_keep (own_sta_keep S_DOUBLE K25 all0) K27 all0).ext E28) ((own_sta_keep (own_sta_keep S_NIL K25 all0) K27 all0).ext E28) ((own_sta_keep (own_sta_keep S_ANON K25 all0) K27 all0).ext E28) ((own_sta_keep (own_sta_keep S_WORD K25 all0) K27 all0).ext E28) ((own_sta_keep (own_sta_keep S_PUNCT K25 all0) K27 all0).ext E28) ((own_sta_keep (own_sta_keep S_EOF K25 all0) K27 all0).ext E28) ) hZ (hw _ (List.mem_of_getElem? (i := 43) rfl)) (hw _ (List.mem_of_getElem? (i := 3) rfl)) (by decide) (by decide)) (g := (mkF m 138 #[.val (.int p1), .val (.int p2), .val (.int p3), .val (.int p4), .val (.int sv), .val (.int (0 : Int32)), .val (.int (1 : Int32)), .val (.int t0), .val (.int t1), .val (.int (mg0_50_s0 p4)), .val (.int m0), .val (.int m1), .val (.ref b1_25), .val (.ref b1_27), .unset, .unset] [(.int sv), (.ref b28), (.ref b28)])) rfl (by rw [hml]; rfl) (argsL := [(.int sv)]) (rest := [(.ref b28), (.ref b28)]) (lenOf pd9 rfl) rfl (by show 2 * 0 + _ ≤ _; exact Nat.le_of_eq rfl) (hb hby at_138) (fun _ _ => ⟨rfl, e28, (by decide : 8 + 0 ≤ _), (by decide : 17 + 0 ≤ _)⟩)
        dsimp only [Pt.U, Pt.locs, Pt.cells, Pt.slots] at X29 l29 y29 z29 st29 hQ29
        subst l29 y29 z29
        obtain ⟨rfl, rfl, e29⟩ := hQ29
        have N29 := Fr.app N27 (Fr.nil n0)
        obtain ⟨_, _, ⟨T30, L30, k30, n30⟩, -, X30, ⟨Lc30, hQ30, l30, y30, z30⟩, st30⟩ := X29.specialBack hx (y := (⟨"com/example/cantrip/cantrip/Token", "<init>", "(Lcom/example/cantrip/cantrip/Token$Kind;Ljava/lang/String;I)V"⟩ : MethodName)) rfl hown (mvT hZ (hw _ (List.mem_of_getElem? (i := 47) rfl))) (mvT hZ (hw _ (List.mem_of_getElem? (i := 48) rfl))) (mvT hZ (hw _ (List.mem_of_getElem? (i := 49) rfl))) (by decide) (backOf (W := 1) (rm9 l Z a0 hw [] b28 (res8 sv w_IRI w_PNAME_NS w_PNAME_LN w_BLANK_NODE_LABEL w_VAR w_STRING w_LANGTAG w_INTEGER w_DECIMAL w_DOUBLE w_NIL w_ANON w_WORD w_PUNCT w_EOF) b1_25 (p3 ^^^ p1) .null .null (.int (0 : Int32)) h28 n0 (Nat.le_trans Z0 K28.1) A28 F_kind_b28 g_b28 F_text_b28 F_offset_b28 ) hZ (hw _ (List.mem_of_getElem? (i := 49) rfl)) (hw _ (List.mem_of_getElem? (i := 40) rfl)) (by decide) (by decide)) (g := (mkF m 146 #[.val (.int p1), .val (.int p2), .val (.int p3), .val (.int p4), .val (.int sv), .val (.int (0 : Int32)), .val (.int (1 : Int32)), .val (.int t0), .val (.int t1), .val (.int (mg0_50_s0 p4)), .val (.int m0), .val (.int m1), .val (.ref b1_25), .val (.ref b1_27), .unset, .unset] [(.int (p3 ^^^ p1)), (.ref b1_25), (.ref (res8 sv w_IRI w_PNAME_NS w_PNAME_LN w_BLANK_NODE_LABEL w_VAR w_STRING w_LANGTAG w_INTEGER w_DECIMAL w_DOUBLE w_NIL w_ANON w_WORD w_PUNCT w_EOF)), (.ref b28), (.ref b28)])) rfl (by rw [hml]; rfl) (Steps.refl _) (a := b28) (argsL := [(.ref (res8 sv w_IRI w_PNAME_NS w_PNAME_LN w_BLANK_NODE_LABEL w_VAR w_STRING w_LANGTAG w_INTEGER w_DECIMAL w_DOUBLE w_NIL w_ANON w_WORD w_PUNCT w_EOF)), (.ref b1_25), (.int (p3 ^^^ p1))]) (rest := [(.ref b28)]) (lenOf pd10 rfl) rfl (by show 2 * 0 + _ ≤ _; exact Nat.le_of_eq rfl) (hb hby at_146) (fun _ _ => ⟨rfl, e29, (by decide : 8 + 0 ≤ _), (by decide : 17 + 0 ≤ _)⟩)
        dsimp only [Pt.U, Pt.locs, Pt.cells, Pt.slots] at X30 l30 y30 z30 st30 hQ30
        subst l30 y30 z30
        obtain ⟨rfl, N30q, K30, f30_0, f30_1, f30_2, f30_3⟩ := hQ30
        have N30 := Fr.app N29 N30q
        have KK30 : Keep h0 T30.heap [] := K28.trans K30 (allS (Or.inr sz_b28) all0)
        have hk_30 := Nat.le_trans hk_28 K30.1
        have pre31 : ∀ t, Steps p.tables e below (T30.setTop (mkF m 155 #[.val (.int p1), .val (.int p2), .val (.int p3), .val (.int p4), .val (.int sv), .val (.int (0 : Int32)), .val (.int (1 : Int32)), .val (.int t0), .val (.int t1), .val (.int (mg0_50_s0 p4)), .val (.int m0), .val (.int m1), .val (.ref b1_25), .val (.ref b1_27), .val (.ref b28), .unset] [(.int (13 : Int32)), (.int sv)])) t → Steps p.tables e below (s₁.setTop (entryFrame m #[(.int p1), (.int p2), (.int p3), (.int p4)] maxLocals)) t := by
          intro t kt
          refine pre26 _ ?_
          show Steps p.tables e below (s₁.setTop (mkF m 116 #[.val (.int p1), .val (.int p2), .val (.int p3), .val (.int p4), .val (.int sv), .val (.int (0 : Int32)), .val (.int (1 : Int32)), .val (.int t0), .val (.int t1), .val (.int (mg0_50_s0 p4)), .val (.int m0), .val (.int m1), .unset, .unset, .unset, .unset] [(.int t1), (.int t0), (.int (0 : Int32))])) _
          refine st25.trans ?_
          show Steps p.tables e below (T25.setTop (mkF m 119 #[.val (.int p1), .val (.int p2), .val (.int p3), .val (.int p4), .val (.int sv), .val (.int (0 : Int32)), .val (.int (1 : Int32)), .val (.int t0), .val (.int t1), .val (.int (mg0_50_s0 p4)), .val (.int m0), .val (.int m1), .unset, .unset, .unset, .unset] [(.ref b1_25)])) _
          refine XS.astore X25.here hx rfl (hb hby at_119) rfl rfl (l' := #[.val (.int p1), .val (.int p2), .val (.int p3), .val (.int p4), .val (.int sv), .val (.int (0 : Int32)), .val (.int (1 : Int32)), .val (.int t0), .val (.int t1), .val (.int (mg0_50_s0 p4)), .val (.int m0), .val (.int m1), .val (.ref b1_25), .unset, .unset, .unset]) rfl ?_
          show Steps p.tables e below (T25.setTop (mkF m 121 #[.val (.int p1), .val (.int p2), .val (.int p3), .val (.int p4), .val (.int sv), .val (.int (0 : Int32)), .val (.int (1 : Int32)), .val (.int t0), .val (.int t1), .val (.int (mg0_50_s0 p4)), .val (.int m0), .val (.int m1), .val (.ref b1_25), .unset, .unset, .unset] [])) _
          refine XS.iload X25.here hx rfl (hb hby at_121) rfl ?_
          refine XS.iload X25.here hx rfl (hb hby at_123) rfl ?_
          refine XS.iload X25.here hx rfl (hb hby at_125) rfl ?_
          show Steps p.tables e below (T25.setTop (mkF m 127 #[.val (.int p1), .val (.int p2), .val (.int p3), .val (.int p4), .val (.int sv), .val (.int (0 : Int32)), .val (.int (1 : Int32)), .val (.int t0), .val (.int t1), .val (.int (mg0_50_s0 p4)), .val (.int m0), .val (.int m1), .val (.ref b1_25), .unset, .unset, .unset] [(.int m1), (.int m0), (.int (1 : Int32))])) _
          refine st27 _ ?_
          show Steps p.tables e below (T27.setTop (mkF m 130 #[.val (.int p1), .val (.int p2), .val (.int p3), .val (.int p4), .val (.int sv), .val (.int (0 : Int32)), .val (.int (1 : Int32)), .val (.int t0), .val (.int t1), .val (.int (mg0_50_s0 p4)), .val (.int m0), .val (.int m1), .val (.ref b1_25), .unset, .unset, .unset] [(.ref b1_27)])) _
          refine XS.astore X27.here hx rfl (hb hby at_130) rfl rfl (l' := #[.val (.int p1), .val (.int p2), .val (.int p3), .val (.int p4), .val (.int sv), .val (.int (0 : Int32)), .val (.int (1 : Int32)), .val (.int t0), .val (.int t1), .val (.int (mg0_50_s0 p4)), .val (.int m0), .val (.int m1), .val (.ref b1_25), .val (.ref b1_27), .unset, .unset]) rfl ?_
          show Steps p.tables e below (T27.setTop (mkF m 132 #[.val (.int p1), .val (.int p2), .val (.int p3), .val (.int p4), .val (.int sv), .val (.int (0 : Int32)), .val (.int (1 : Int32)), .val (.int t0), .val (.int t1), .val (.int (mg0_50_s0 p4)), .val (.int m0), .val (.int m1), .val (.ref b1_25), .val (.ref b1_27), .unset, .unset] [])) _
          refine st28 _ ?_
          show Steps p.tables e below (T28.setTop (mkF m 135 #[.val (.int p1), .val (.int p2), .val (.int p3), .val (.int p4), .val (.int sv), .val (.int (0 : Int32)), .val (.int (1 : Int32)), .val (.int t0), .val (.int t1), .val (.int (mg0_50_s0 p4)), .val (.int m0), .val (.int m1), .val (.ref b1_25), .val (.ref b1_27), .unset, .unset] [(.ref b28)])) _
          refine XS.dup X28.here hx rfl (hb hby at_135) rfl rfl ?_
          refine XS.iload X28.here hx rfl (hb hby at_136) rfl ?_
          show Steps p.tables e below (T28.setTop (mkF m 138 #[.val (.int p1), .val (.int p2), .val (.int p3), .val (.int p4), .val (.int sv), .val (.int (0 : Int32)), .val (.int (1 : Int32)), .val (.int t0), .val (.int t1), .val (.int (mg0_50_s0 p4)), .val (.int m0), .val (.int m1), .val (.ref b1_25), .val (.ref b1_27), .unset, .unset] [(.int sv), (.ref b28), (.ref b28)])) _
          refine st29 _ ?_
          show Steps p.tables e below (T29.setTop (mkF m 141 #[.val (.int p1), .val (.int p2), .val (.int p3), .val (.int p4), .val (.int sv), .val (.int (0 : Int32)), .val (.int (1 : Int32)), .val (.int t0), .val (.int t1), .val (.int (mg0_50_s0 p4)), .val (.int m0), .val (.int m1), .val (.ref b1_25), .val (.ref b1_27), .unset, .unset] [(.ref (res8 sv w_IRI w_PNAME_NS w_PNAME_LN w_BLANK_NODE_LABEL w_VAR w_STRING w_LANGTAG w_INTEGER w_DECIMAL w_DOUBLE w_NIL w_ANON w_WORD w_PUNCT w_EOF)), (.ref b28), (.ref b28)])) _
          refine XS.aload X29.here hx rfl (hb hby at_141) rfl rfl ?_
          refine XS.iloadN X29.here hx rfl (hb hby at_143) rfl ?_
          refine XS.iloadN X29.here hx rfl (hb hby at_144) rfl ?_
          show Steps p.tables e below (T29.setTop (mkF m 145 #[.val (.int p1), .val (.int p2), .val (.int p3), .val (.int p4), .val (.int sv), .val (.int (0 : Int32)), .val (.int (1 : Int32)), .val (.int t0), .val (.int t1), .val (.int (mg0_50_s0 p4)), .val (.int m0), .val (.int m1), .val (.ref b1_25), .val (.ref b1_27), .unset, .unset] [(.int p1), (.int p3), (.ref b1_25), (.ref (res8 sv w_IRI w_PNAME_NS w_PNAME_LN w_BLANK_NODE_LABEL w_VAR w_STRING w_LANGTAG w_INTEGER w_DECIMAL w_DOUBLE w_NIL w_ANON w_WORD w_PUNCT w_EOF)), (.ref b28), (.ref b28)])) _
          refine XS.ixor X29.here hx rfl (hb hby at_145) rfl ?_
          show Steps p.tables e below (T29.setTop (mkF m 146 #[.val (.int p1), .val (.int p2), .val (.int p3), .val (.int p4), .val (.int sv), .val (.int (0 : Int32)), .val (.int (1 : Int32)), .val (.int t0), .val (.int t1), .val (.int (mg0_50_s0 p4)), .val (.int m0), .val (.int m1), .val (.ref b1_25), .val (.ref b1_27), .unset, .unset] [(.int (p3 ^^^ p1)), (.ref b1_25), (.ref (res8 sv w_IRI w_PNAME_NS w_PNAME_LN w_BLANK_NODE_LABEL w_VAR w_STRING w_LANGTAG w_INTEGER w_DECIMAL w_DOUBLE w_NIL w_ANON w_WORD w_PUNCT w_EOF)), (.ref b28), (.ref b28)])) _
          refine st30.trans ?_
          show Steps p.tables e below (T30.setTop (mkF m 149 #[.val (.int p1), .val (.int p2), .val (.int p3), .val (.int p4), .val (.int sv), .val (.int (0 : Int32)), .val (.int (1 : Int32)), .val (.int t0), .val (.int t1), .val (.int (mg0_50_s0 p4)), .val (.int m0), .val (.int m1), .val (.ref b1_25), .val (.ref b1_27), .unset, .unset] [(.ref b28)])) _
          refine XS.astore X30.here hx rfl (hb hby at_149) rfl rfl (l' := #[.val (.int p1), .val (.int p2), .val (.int p3), .val (.int p4), .val (.int sv), .val (.int (0 : Int32)), .val (.int (1 : Int32)), .val (.int t0), .val (.int t1), .val (.int (mg0_50_s0 p4)), .val (.int m0), .val (.int m1), .val (.ref b1_25), .val (.ref b1_27), .val (.ref b28), .unset]) rfl ?_
          refine XS.iload X30.here hx rfl (hb hby at_151) rfl ?_
          show Steps p.tables e below (T30.setTop (mkF m 153 #[.val (.int p1), .val (.int p2), .val (.int p3), .val (.int p4), .val (.int sv), .val (.int (0 : Int32)), .val (.int (1 : Int32)), .val (.int t0), .val (.int t1), .val (.int (mg0_50_s0 p4)), .val (.int m0), .val (.int m1), .val (.ref b1_25), .val (.ref b1_27), .val (.ref b28), .unset] [(.int sv)])) _
          refine XS.bipush X30.here hx rfl (hb hby at_153) ?_
          exact kt
        have pre33 : ∀ t, Steps p.tables e below (T30.setTop (mkF m 196 #[.val (.int p1), .val (.int p2), .val (.int p3), .val (.int p4), .val (.int sv), .val (.int (0 : Int32)), .val (.int (1 : Int32)), .val (.int t0), .val (.int t1), .val (.int (mg0_50_s0 p4)), .val (.int m0), .val (.int m1), .val (.ref b1_25), .val (.ref b1_27), .val (.ref b28), .unset] [(.int (0 : Int32))])) t → Steps p.tables e below (s₁.setTop (entryFrame m #[(.int p1), (.int p2), (.int p3), (.int p4)] maxLocals)) t := by
          intro t kt
          by_cases hc155_32 : sv = (13 : Int32)
          · skip
            refine pre31 _ ?_
            show Steps p.tables e below (T30.setTop (mkF m 155 #[.val (.int p1), .val (.int p2), .val (.int p3), .val (.int p4), .val (.int sv), .val (.int (0 : Int32)), .val (.int (1 : Int32)), .val (.int t0), .val (.int t1), .val (.int (mg0_50_s0 p4)), .val (.int m0), .val (.int m1), .val (.ref b1_25), .val (.ref b1_27), .val (.ref b28), .unset] [(.int (13 : Int32)), (.int sv)])) _
            refine XS.icmpNo X30.here hx rfl (hb hby at_155) rfl (teq hc155_32).2 ?_
            refine XS.iload X30.here hx rfl (hb hby at_158) rfl ?_
            show Steps p.tables e below (T30.setTop (mkF m 160 #[.val (.int p1), .val (.int p2), .val (.int p3), .val (.int p4), .val (.int sv), .val (.int (0 : Int32)), .val (.int (1 : Int32)), .val (.int t0), .val (.int t1), .val (.int (mg0_50_s0 p4)), .val (.int m0), .val (.int m1), .val (.ref b1_25), .val (.ref b1_27), .val (.ref b28), .unset] [(.int (0 : Int32))])) _
            refine XS.iload X30.here hx rfl (hb hby at_160) rfl ?_
            refine XS.icmpYes X30.here hx rfl (pc0 := 162) (pc' := 195) rfl (hb hby at_162) rfl (feq (by decide : ¬ ((0 : Int32) = (1 : Int32)))).2 (by decide) (by decide) ?_
            refine XS.iconst X30.here hx rfl (hb hby at_195) ?_
            exact kt
          · skip
            refine pre31 _ ?_
            show Steps p.tables e below (T30.setTop (mkF m 155 #[.val (.int p1), .val (.int p2), .val (.int p3), .val (.int p4), .val (.int sv), .val (.int (0 : Int32)), .val (.int (1 : Int32)), .val (.int t0), .val (.int t1), .val (.int (mg0_50_s0 p4)), .val (.int m0), .val (.int m1), .val (.ref b1_25), .val (.ref b1_27), .val (.ref b28), .unset] [(.int (13 : Int32)), (.int sv)])) _
            refine XS.icmpYes X30.here hx rfl (pc0 := 155) (pc' := 195) rfl (hb hby at_155) rfl (feq hc155_32).2 (by decide) (by decide) ?_
            refine XS.iconst X30.here hx rfl (hb hby at_195) ?_
            exact kt
        obtain ⟨cq34, kq34, q34a, q34b, q34c⟩ := isOf hZ rfl (A28.keep K30)
        obtain ⟨_, _, ⟨T34, L34, k34, n34⟩, -, X34, ⟨Lc34, hQ34, l34, y34, z34⟩, st34⟩ := X30.virtualBack hx (y := (⟨"com/example/cantrip/cantrip/Token", "is", "(Ljava/lang/String;)Z"⟩ : MethodName)) (z := (⟨"com/example/cantrip/cantrip/Token", "is", "(Ljava/lang/String;)Z"⟩ : MethodName)) hown (mvT hZ (hw _ (List.mem_of_getElem? (i := 62) rfl))) (mvT hZ (hw _ (List.mem_of_getElem? (i := 63) rfl))) (notFace_of_selects (args := #[]) (mvT hZ (hw _ (List.mem_of_getElem? (i := 65) rfl)))) (mvT hZ (hw _ (List.mem_of_getElem? (i := 65) rfl))) (mvT hZ (hw _ (List.mem_of_getElem? (i := 64) rfl))) (by decide) (backOf (W := 0) (rm_is_0_1 l Z a0 hw [] b28 b1_27 b1_3_2_5_27 k1_3_2_5_27 (nar .byte ((nar .char m0).toInt8.toInt32)) b1_25 c2_2_3_25 k2_2_3_25 (res8 sv w_IRI w_PNAME_NS w_PNAME_LN w_BLANK_NODE_LABEL w_VAR w_STRING w_LANGTAG w_INTEGER w_DECIMAL w_DOUBLE w_NIL w_ANON w_WORD w_PUNCT w_EOF) w_PUNCT w_COMPACT_STRINGS T30.heap n0 (Nat.le_trans Z0 KK30.1) ((f27_0.ext E28).keep K30) ((f27_1.ext E28).keep K30 (ninS (Nat.ne_of_lt (Nat.lt_of_lt_of_le f27_0.lt (Nat.le_of_eq g28.symm))) nin0)) ((f27_2.ext E28).keep K30 (ninS (Nat.ne_of_lt (Nat.lt_of_lt_of_le f27_0.lt (Nat.le_of_eq g28.symm))) nin0)) ((f27_3.ext E28).keep K30 (ninS (Nat.ne_of_lt (Nat.lt_of_lt_of_le f27_3.lt (Nat.le_of_eq g28.symm))) nin0)) f30_2 (((f25_0.keep K27).ext E28).keep K30) (((f25_2.keep K27 nin0).ext E28).keep K30 (ninS (Nat.ne_of_lt (Nat.lt_of_lt_of_le (f25_0.keep K27).lt (Nat.le_of_eq g28.symm))) nin0)) (((f25_1.keep K27 nin0).ext E28).keep K30 (ninS (Nat.ne_of_lt (Nat.lt_of_lt_of_le (f25_0.keep K27).lt (Nat.le_of_eq g28.symm))) nin0)) (((f25_3.keep K27 nin0).ext E28).keep K30 (ninS (Nat.ne_of_lt (Nat.lt_of_lt_of_le (f25_3.keep K27 nin0).lt (Nat.le_of_eq g28.symm))) nin0)) f30_1 (own_sta_keep ((own_sta_keep (own_sta_keep S_PUNCT K25 all0) K27 all0).ext E28) K30 (allS (own_exa_ns A28) all0)) (own_sta_keep ((own_sta_keep (own_sta_keep S_COMPACT_STRINGS K25 all0) K27 all0).ext E28) K30 (allS (own_exa_ns A28) all0)) ((Nat.ne_of_lt (Nat.lt_of_lt_of_le f25_0.lt s27_b1)) : b1_25 ≠ b1_27) (hCS : ¬ (w_COMPACT_STRINGS = (0 : Int32)))) hZ (hw _ (List.mem_of_getElem? (i := 66) rfl)) (hw _ (List.mem_of_getElem? (i := 40) rfl)) (by decide) (by decide)) q34a q34c (g := (mkF m 202 #[.val (.int p1), .val (.int p2), .val (.int p3), .val (.int p4), .val (.int sv), .val (.int (0 : Int32)), .val (.int (1 : Int32)), .val (.int t0), .val (.int t1), .val (.int (mg0_50_s0 p4)), .val (.int m0), .val (.int m1), .val (.ref b1_25), .val (.ref b1_27), .val (.ref b28), .val (.int (0 : Int32))] [(.ref b1_27), (.ref b28)])) rfl (by rw [hml]; rfl) (Steps.refl _) (argsL := [(.ref b1_27)]) (rest := []) (lenOf pd11 rfl) rfl (by show 2 * 0 + _ ≤ _; exact Nat.le_of_eq rfl) (hb hby at_202) (fun _ _ => ⟨rfl, rfl, (by decide : 8 + 0 ≤ _), (by decide : 17 + 0 ≤ _)⟩)
        dsimp only [Pt.U, Pt.locs, Pt.cells, Pt.slots] at X34 l34 y34 z34 st34 hQ34
        subst l34 y34 z34
        obtain ⟨rfl, rfl, e34⟩ := hQ34
        have N34 := Fr.app N30 (Fr.nil n0)
        obtain ⟨fs, hr, hrun, hended, hRW⟩ := X34.leaveW hS25 (Nat.le_trans hk_30 (Nat.le_of_eq (congrArg Array.size e34.symm))) (v := some (.int (1 : Int32))) (fun h => by rw [Bd.returns] at h; cases h)
        refine ⟨_, _, pre33 _ ?_, hrun, hended, _, _, rfl, ?_, hRW.1, hRW.2.1, hRW.2.2.1, hRW.2.2.2.mono (by decide) (by decide)⟩
        · show Steps p.tables e below (T30.setTop (mkF m 196 #[.val (.int p1), .val (.int p2), .val (.int p3), .val (.int p4), .val (.int sv), .val (.int (0 : Int32)), .val (.int (1 : Int32)), .val (.int t0), .val (.int t1), .val (.int (mg0_50_s0 p4)), .val (.int m0), .val (.int m1), .val (.ref b1_25), .val (.ref b1_27), .val (.ref b28), .unset] [(.int (0 : Int32))])) _
          refine XS.istore X30.here hx rfl (hb hby at_196) rfl (l' := #[.val (.int p1), .val (.int p2), .val (.int p3), .val (.int p4), .val (.int sv), .val (.int (0 : Int32)), .val (.int (1 : Int32)), .val (.int t0), .val (.int t1), .val (.int (mg0_50_s0 p4)), .val (.int m0), .val (.int m1), .val (.ref b1_25), .val (.ref b1_27), .val (.ref b28), .val (.int (0 : Int32))]) rfl ?_
          refine XS.aload X30.here hx rfl (hb hby at_198) rfl rfl ?_
          show Steps p.tables e below (T30.setTop (mkF m 200 #[.val (.int p1), .val (.int p2), .val (.int p3), .val (.int p4), .val (.int sv), .val (.int (0 : Int32)), .val (.int (1 : Int32)), .val (.int t0), .val (.int t1), .val (.int (mg0_50_s0 p4)), .val (.int m0), .val (.int m1), .val (.ref b1_25), .val (.ref b1_27), .val (.ref b28), .val (.int (0 : Int32))] [(.ref b28)])) _
          refine XS.aload X30.here hx rfl (hb hby at_200) rfl rfl ?_
          show Steps p.tables e below (T30.setTop (mkF m 202 #[.val (.int p1), .val (.int p2), .val (.int p3), .val (.int p4), .val (.int sv), .val (.int (0 : Int32)), .val (.int (1 : Int32)), .val (.int t0), .val (.int t1), .val (.int (mg0_50_s0 p4)), .val (.int m0), .val (.int m1), .val (.ref b1_25), .val (.ref b1_27), .val (.ref b28), .val (.int (0 : Int32))] [(.ref b1_27), (.ref b28)])) _
          refine st34.trans ?_
          show Steps p.tables e below (T34.setTop (mkF m 205 #[.val (.int p1), .val (.int p2), .val (.int p3), .val (.int p4), .val (.int sv), .val (.int (0 : Int32)), .val (.int (1 : Int32)), .val (.int t0), .val (.int t1), .val (.int (mg0_50_s0 p4)), .val (.int m0), .val (.int m1), .val (.ref b1_25), .val (.ref b1_27), .val (.ref b28), .val (.int (0 : Int32))] [(.int (res_is_0_1 (res8 sv w_IRI w_PNAME_NS w_PNAME_LN w_BLANK_NODE_LABEL w_VAR w_STRING w_LANGTAG w_INTEGER w_DECIMAL w_DOUBLE w_NIL w_ANON w_WORD w_PUNCT w_EOF) w_PUNCT))])) _
          refine XS.iload X34.here hx rfl (hb hby at_205) rfl ?_
          refine XS.icmpNo X34.here hx rfl (hb hby at_207) rfl (teq (own_eq_0_1 w_IRI w_PNAME_NS w_PNAME_LN w_BLANK_NODE_LABEL w_VAR w_STRING w_LANGTAG w_INTEGER w_DECIMAL w_DOUBLE w_NIL w_ANON w_WORD w_PUNCT w_EOF rs r_t0 r_t1 r_m0 r_m1 hD : (res_is_0_1 (res8 sv w_IRI w_PNAME_NS w_PNAME_LN w_BLANK_NODE_LABEL w_VAR w_STRING w_LANGTAG w_INTEGER w_DECIMAL w_DOUBLE w_NIL w_ANON w_WORD w_PUNCT w_EOF) w_PUNCT) = (0 : Int32))).2 ?_
          show Steps p.tables e below (T34.setTop (mkF m 210 #[.val (.int p1), .val (.int p2), .val (.int p3), .val (.int p4), .val (.int sv), .val (.int (0 : Int32)), .val (.int (1 : Int32)), .val (.int t0), .val (.int t1), .val (.int (mg0_50_s0 p4)), .val (.int m0), .val (.int m1), .val (.ref b1_25), .val (.ref b1_27), .val (.ref b28), .val (.int (0 : Int32))] [])) _
          refine XS.iconst X34.here hx rfl (hb hby at_210) ?_
          refine XS.goto X34.here hx rfl (pc0 := 211) (pc' := 215) rfl (hb hby at_211) (by decide) (by decide) ?_
          show Steps p.tables e below (T34.setTop (mkF m 215 #[.val (.int p1), .val (.int p2), .val (.int p3), .val (.int p4), .val (.int sv), .val (.int (0 : Int32)), .val (.int (1 : Int32)), .val (.int t0), .val (.int t1), .val (.int (mg0_50_s0 p4)), .val (.int m0), .val (.int m1), .val (.ref b1_25), .val (.ref b1_27), .val (.ref b28), .val (.int (0 : Int32))] [(.int (1 : Int32))])) _
          exact retN X34 hx (t := .boolean) Bd.returns (by simp) (hb hby at_215) hr
        · show Q0 Z p1 p2 p3 p4 w_IRI w_PNAME_NS w_PNAME_LN w_BLANK_NODE_LABEL w_VAR w_STRING w_LANGTAG w_INTEGER w_DECIMAL w_DOUBLE w_NIL w_ANON w_WORD w_PUNCT w_EOF w_COMPACT_STRINGS h0 n0 _ T34.heap _
          rw [e34]
          exact ⟨rfl, N34⟩
      · by_cases hv35 : ((((p4.toUInt32 >>> ((2 : Int32) &&& 31).toUInt32).toInt32) &&& (3 : Int32)) % (3 : Int32)) = (2 : Int32)
        · rw [hv35] at pre10
          have pre37 : ∀ t, Steps p.tables e below (s₁.setTop (mkF m 116 #[.val (.int p1), .val (.int p2), .val (.int p3), .val (.int p4), .val (.int sv), .val (.int (0 : Int32)), .val (.int (2 : Int32)), .val (.int t0), .val (.int t1), .val (.int (mg0_50_s0 p4)), .val (.int m0), .val (.int m1), .unset, .unset, .unset, .unset] [(.int t1), (.int t0), (.int (0 : Int32))])) t → Steps p.tables e below (s₁.setTop (entryFrame m #[(.int p1), (.int p2), (.int p3), (.int p4)] maxLocals)) t := by
            intro t kt
            refine pre10 _ ?_
            show Steps p.tables e below (s₁.setTop (mkF m 110 #[.val (.int p1), .val (.int p2), .val (.int p3), .val (.int p4), .val (.int sv), .val (.int (0 : Int32)), .val (.int (2 : Int32)), .val (.int t0), .val (.int t1), .val (.int (mg0_50_s0 p4)), .val (.int m0), .val (.int m1), .unset, .unset, .unset, .unset] [])) _
            refine XS.iload X0.here hx rfl (hb hby at_110) rfl ?_
            show Steps p.tables e below (s₁.setTop (mkF m 112 #[.val (.int p1), .val (.int p2), .val (.int p3), .val (.int p4), .val (.int sv), .val (.int (0 : Int32)), .val (.int (2 : Int32)), .val (.int t0), .val (.int t1), .val (.int (mg0_50_s0 p4)), .val (.int m0), .val (.int m1), .unset, .unset, .unset, .unset] [(.int (0 : Int32))])) _
            refine XS.iload X0.here hx rfl (hb hby at_112) rfl ?_
            refine XS.iload X0.here hx rfl (hb hby at_114) rfl ?_
            exact kt
          obtain ⟨_, _, ⟨T36, L36, k36, n36⟩, -, XX36, hSS36, hgr36, ⟨Lc36, hQ36, l36, y36, z36, hC36⟩, st36⟩ := callSS X0 hx (y := (⟨"com/example/cantrip/cantrip/TokenIsPinLaw", "str", "(ICC)Ljava/lang/String;"⟩ : MethodName)) hown (mvT hZ (hw _ (List.mem_of_getElem? (i := 1) rfl))) (mvT hZ (hw _ (List.mem_of_getElem? (i := 2) rfl))) (mvT hZ (hw _ (List.mem_of_getElem? (i := 3) rfl))) (mvT hZ (hw _ (List.mem_of_getElem? (i := 4) rfl))) (by decide) (backOfSH (W := 0) (rm_str_0 l Z a0 hw [] t0 t1  h0 n0 (Nat.le_trans Z0 (Keep.refl h0 []).1)   hEL) hZ (hw _ (List.mem_of_getElem? (i := 4) rfl)) (hw _ (List.mem_of_getElem? (i := 3) rfl)) (by decide) (by decide) hEL CR0.1) (g := (mkF m 116 #[.val (.int p1), .val (.int p2), .val (.int p3), .val (.int p4), .val (.int sv), .val (.int (0 : Int32)), .val (.int (2 : Int32)), .val (.int t0), .val (.int t1), .val (.int (mg0_50_s0 p4)), .val (.int m0), .val (.int m1), .unset, .unset, .unset, .unset] [(.int t1), (.int t0), (.int (0 : Int32))])) rfl (by rw [hml]; rfl) (argsL := [(.int (0 : Int32)), (.int t0), (.int t1)]) (rest := []) (lenOf pd8 rfl) rfl (by show 2 * 0 + _ ≤ _; exact Nat.le_of_eq rfl) (hb hby at_116) (fun _ _ => ⟨rfl, e0, (by decide : 0 + 4 ≤ _), (by decide : 0 + 8 ≤ _)⟩)
          dsimp only [Pt.U, Pt.locs, Pt.cells, Pt.slots] at XX36 hSS36 hgr36 l36 y36 z36 st36 hQ36 hC36
          subst l36 y36 z36
          obtain ⟨X36, hS36, hZ, hown⟩ := rebS hS0 (Nat.le_trans (Nat.zero_le _) (Nat.le_of_eq (congrArg Array.size e0.symm))) XX36 hSS36 hgr36 hZ hown
          have CR36 := CHr.trans CR0 hC36
          obtain ⟨b1_36, c2_2_3_36, k2_2_3_36, rfl, N36q, K36, s36_b1, f36_0, f36_1, f36_2, f36_3⟩ := hQ36
          have N36 := Fr.app N0 N36q
          have sz_b1_36 : h0.size ≤ b1_36 := Nat.le_trans (Keep.refl h0 []).1 s36_b1
          have g_b1_36 : n0 ≤ b1_36 := Nat.le_trans Z0 sz_b1_36
          have KK36 : Keep h0 T36.heap [] := (Keep.refl h0 []).trans K36 all0
          obtain ⟨_, _, ⟨T38, L38, k38, n38⟩, -, X38, ⟨Lc38, hQ38, l38, y38, z38⟩, st38⟩ := Jvm.LawKit.callS X36 hx (y := (⟨"com/example/cantrip/cantrip/TokenIsPinLaw", "str", "(ICC)Ljava/lang/String;"⟩ : MethodName)) hown (mvT hZ (hw _ (List.mem_of_getElem? (i := 1) rfl))) (mvT hZ (hw _ (List.mem_of_getElem? (i := 2) rfl))) (mvT hZ (hw _ (List.mem_of_getElem? (i := 3) rfl))) (mvT hZ (hw _ (List.mem_of_getElem? (i := 4) rfl))) (by decide) (backOf (W := 0) (rm_str_2 l Z a0 hw [] m0 m1 w_COMPACT_STRINGS T36.heap n0 (Nat.le_trans Z0 KK36.1) (own_sta_keep S_COMPACT_STRINGS K36 all0) (hCS : ¬ (w_COMPACT_STRINGS = (0 : Int32))) (own_nc r_m0 : ¬ ((255 : Int32) < (nar .char m0))) (own_nc r_m1 : ¬ ((255 : Int32) < (nar .char m1)))) hZ (hw _ (List.mem_of_getElem? (i := 4) rfl)) (hw _ (List.mem_of_getElem? (i := 3) rfl)) (by decide) (by decide)) (g := (mkF m 127 #[.val (.int p1), .val (.int p2), .val (.int p3), .val (.int p4), .val (.int sv), .val (.int (0 : Int32)), .val (.int (2 : Int32)), .val (.int t0), .val (.int t1), .val (.int (mg0_50_s0 p4)), .val (.int m0), .val (.int m1), .val (.ref b1_36), .unset, .unset, .unset] [(.int m1), (.int m0), (.int (2 : Int32))])) rfl (by rw [hml]; rfl) (argsL := [(.int (2 : Int32)), (.int m0), (.int m1)]) (rest := []) (lenOf pd8 rfl) rfl (by show 2 * 0 + _ ≤ _; exact Nat.le_of_eq rfl) (hb hby at_127) (fun _ _ => ⟨rfl, rfl, (by decide : 4 + 3 ≤ _), (by decide : 8 + 8 ≤ _)⟩)
          dsimp only [Pt.U, Pt.locs, Pt.cells, Pt.slots] at X38 l38 y38 z38 st38 hQ38
          subst l38 y38 z38
          obtain ⟨b1_38, b1_3_2_7_38, k1_3_2_7_38, rfl, N38q, K38, s38_b1, s38_b1_3_2_7, f38_0, f38_1, f38_2, f38_3⟩ := hQ38
          have N38 := Fr.app N36 N38q
          have sz_b1_38 : h0.size ≤ b1_38 := Nat.le_trans KK36.1 s38_b1
          have g_b1_38 : n0 ≤ b1_38 := Nat.le_trans Z0 sz_b1_38
          have sz_b1_3_2_7_38 : h0.size ≤ b1_3_2_7_38 := Nat.le_trans KK36.1 s38_b1_3_2_7
          have g_b1_3_2_7_38 : n0 ≤ b1_3_2_7_38 := Nat.le_trans Z0 sz_b1_3_2_7_38
          have KK38 : Keep h0 T38.heap [] := KK36.trans K38 all0
          have hk_38 := Nat.le_trans (Nat.le_refl _) K38.1
          have CR38 := CHr.trans CR36 (CHr.keep K38 all0 CR36.1)
          obtain ⟨T39, h39, X39, e39, E39, A39, D39, -, st39⟩ := newO X38 hx hZ hown (hw _ (List.mem_of_getElem? (i := 38) rfl)) (hw _ (List.mem_of_getElem? (i := 39) rfl)) (hw _ (List.mem_of_getElem? (i := 40) rfl)) rfl (g := (mkF m 132 #[.val (.int p1), .val (.int p2), .val (.int p3), .val (.int p4), .val (.int sv), .val (.int (0 : Int32)), .val (.int (2 : Int32)), .val (.int t0), .val (.int t1), .val (.int (mg0_50_s0 p4)), .val (.int m0), .val (.int m1), .val (.ref b1_36), .val (.ref b1_38), .unset, .unset] [])) rfl (hb hby at_132) (by decide) (by decide)
          obtain ⟨b39, g39⟩ : ∃ z, z = T38.heap.size := ⟨_, rfl⟩
          rw [← g39] at A39 D39 st39
          have sz_b39 : h0.size ≤ b39 := Nat.le_trans KK38.1 (Nat.le_of_eq g39.symm)
          have g_b39 : n0 ≤ b39 := Nat.le_trans Z0 sz_b39
          have K39 : Keep h0 h39 [] := KK38.ext E39
          have hk_39 := Nat.le_trans hk_38 E39.1
          have F_kind_b39 : Fld Z h39 b39 "com/example/cantrip/cantrip/Token" "kind" "Lcom/example/cantrip/cantrip/Token$Kind;" .null := D39 (Or.inr (hw _ (List.mem_of_getElem? (i := 57) rfl))) (ty := (.object "com/example/cantrip/cantrip/Token$Kind")) (by decide)
          have F_text_b39 : Fld Z h39 b39 "com/example/cantrip/cantrip/Token" "text" "Ljava/lang/String;" .null := D39 (Or.inr (hw _ (List.mem_of_getElem? (i := 59) rfl))) (ty := (.object "java/lang/String")) (by decide)
          have F_offset_b39 : Fld Z h39 b39 "com/example/cantrip/cantrip/Token" "offset" "I" (.int (0 : Int32)) := D39 (Or.inr (hw _ (List.mem_of_getElem? (i := 61) rfl))) (ty := .int) (by decide)
          obtain ⟨_, _, ⟨T40, L40, k40, n40⟩, -, X40, ⟨Lc40, hQ40, l40, y40, z40⟩, st40⟩ := Jvm.LawKit.callS X39 hx (y := (⟨"com/example/cantrip/cantrip/TokenIsPinLaw", "kindOf", "(I)Lcom/example/cantrip/cantrip/Token$Kind;"⟩ : MethodName)) hown (mvT hZ (hw _ (List.mem_of_getElem? (i := 41) rfl))) (mvT hZ (hw _ (List.mem_of_getElem? (i := 42) rfl))) (mvT hZ (hw _ (List.mem_of_getElem? (i := 3) rfl))) (mvT hZ (hw _ (List.mem_of_getElem? (i := 43) rfl))) (by decide) (backOf (W := 2) (rm8 l Z a0 hw [] sv w_IRI w_PNAME_NS w_PNAME_LN w_BLANK_NODE_LABEL w_VAR w_STRING w_LANGTAG w_INTEGER w_DECIMAL w_DOUBLE w_NIL w_ANON w_WORD w_PUNCT w_EOF h39 n0 (Nat.le_trans Z0 K39.1) ((own_sta_keep (own_sta_keep S_IRI K36 all0) K38 all0).ext E39) ((own_sta_keep (own_sta_keep S_PNAME_NS K36 all0) K38 all0).ext E39) ((own_sta_keep (own_sta_keep S_PNAME_LN K36 all0) K38 all0).ext E39) ((own_sta_keep (own_sta_keep S_BLANK_NODE_LABEL K36 all0) K38 all0).ext E39) ((own_sta_keep (own_sta_keep S_VAR K36 all0) K38 all0).ext E39) ((own_sta_keep (own_sta_keep S_STRING K36 all0) K38 all0).ext E39) ((own_sta_keep (own_sta_keep S_LANGTAG K36 all0) K38 all0).ext E39) ((own_sta_keep (own_sta_keep S_INTEGER K36 all0) K38 all0).ext E39) ((own_sta_keep (own_sta_keep S_DECIMAL K36 all0) K38 all0).ext E39) ((own_sta_keep (own_sta_keep S_DOUBLE K36 all0) K38 all0).ext E39) ((own_sta_keep (own_sta_keep S_NIL K36 all0) K38 all0).ext E39) ((own_sta_keep (own_sta_keep S_ANON K36 all0) K38 all0).ext E39) ((own_sta_keep (own_sta_keep S_WORD K36 all0) K38 all0).ext E39) ((own_sta_keep (own_sta_keep S_PUNCT K36 all0) K38 all0).ext E39) ((own_sta_keep (own_sta_keep S_EOF K36 all0) K38 all0).ext E39) ) hZ (hw _ (List.mem_of_getElem? (i := 43) rfl)) (hw _ (List.mem_of_getElem? (i := 3) rfl)) (by decide) (by decide)) (g := (mkF m 138 #[.val (.int p1), .val (.int p2), .val (.int p3), .val (.int p4), .val (.int sv), .val (.int (0 : Int32)), .val (.int (2 : Int32)), .val (.int t0), .val (.int t1), .val (.int (mg0_50_s0 p4)), .val (.int m0), .val (.int m1), .val (.ref b1_36), .val (.ref b1_38), .unset, .unset] [(.int sv), (.ref b39), (.ref b39)])) rfl (by rw [hml]; rfl) (argsL := [(.int sv)]) (rest := [(.ref b39), (.ref b39)]) (lenOf pd9 rfl) rfl (by show 2 * 0 + _ ≤ _; exact Nat.le_of_eq rfl) (hb hby at_138) (fun _ _ => ⟨rfl, e39, (by decide : 8 + 0 ≤ _), (by decide : 19 + 0 ≤ _)⟩)
          dsimp only [Pt.U, Pt.locs, Pt.cells, Pt.slots] at X40 l40 y40 z40 st40 hQ40
          subst l40 y40 z40
          obtain ⟨rfl, rfl, e40⟩ := hQ40
          have N40 := Fr.app N38 (Fr.nil n0)
          obtain ⟨_, _, ⟨T41, L41, k41, n41⟩, -, X41, ⟨Lc41, hQ41, l41, y41, z41⟩, st41⟩ := X40.specialBack hx (y := (⟨"com/example/cantrip/cantrip/Token", "<init>", "(Lcom/example/cantrip/cantrip/Token$Kind;Ljava/lang/String;I)V"⟩ : MethodName)) rfl hown (mvT hZ (hw _ (List.mem_of_getElem? (i := 47) rfl))) (mvT hZ (hw _ (List.mem_of_getElem? (i := 48) rfl))) (mvT hZ (hw _ (List.mem_of_getElem? (i := 49) rfl))) (by decide) (backOf (W := 1) (rm9 l Z a0 hw [] b39 (res8 sv w_IRI w_PNAME_NS w_PNAME_LN w_BLANK_NODE_LABEL w_VAR w_STRING w_LANGTAG w_INTEGER w_DECIMAL w_DOUBLE w_NIL w_ANON w_WORD w_PUNCT w_EOF) b1_36 (p3 ^^^ p1) .null .null (.int (0 : Int32)) h39 n0 (Nat.le_trans Z0 K39.1) A39 F_kind_b39 g_b39 F_text_b39 F_offset_b39 ) hZ (hw _ (List.mem_of_getElem? (i := 49) rfl)) (hw _ (List.mem_of_getElem? (i := 40) rfl)) (by decide) (by decide)) (g := (mkF m 146 #[.val (.int p1), .val (.int p2), .val (.int p3), .val (.int p4), .val (.int sv), .val (.int (0 : Int32)), .val (.int (2 : Int32)), .val (.int t0), .val (.int t1), .val (.int (mg0_50_s0 p4)), .val (.int m0), .val (.int m1), .val (.ref b1_36), .val (.ref b1_38), .unset, .unset] [(.int (p3 ^^^ p1)), (.ref b1_36), (.ref (res8 sv w_IRI w_PNAME_NS w_PNAME_LN w_BLANK_NODE_LABEL w_VAR w_STRING w_LANGTAG w_INTEGER w_DECIMAL w_DOUBLE w_NIL w_ANON w_WORD w_PUNCT w_EOF)), (.ref b39), (.ref b39)])) rfl (by rw [hml]; rfl) (Steps.refl _) (a := b39) (argsL := [(.ref (res8 sv w_IRI w_PNAME_NS w_PNAME_LN w_BLANK_NODE_LABEL w_VAR w_STRING w_LANGTAG w_INTEGER w_DECIMAL w_DOUBLE w_NIL w_ANON w_WORD w_PUNCT w_EOF)), (.ref b1_36), (.int (p3 ^^^ p1))]) (rest := [(.ref b39)]) (lenOf pd10 rfl) rfl (by show 2 * 0 + _ ≤ _; exact Nat.le_of_eq rfl) (hb hby at_146) (fun _ _ => ⟨rfl, e40, (by decide : 8 + 0 ≤ _), (by decide : 19 + 0 ≤ _)⟩)
          dsimp only [Pt.U, Pt.locs, Pt.cells, Pt.slots] at X41 l41 y41 z41 st41 hQ41
          subst l41 y41 z41
          obtain ⟨rfl, N41q, K41, f41_0, f41_1, f41_2, f41_3⟩ := hQ41
          have N41 := Fr.app N40 N41q
          have KK41 : Keep h0 T41.heap [] := K39.trans K41 (allS (Or.inr sz_b39) all0)
          have hk_41 := Nat.le_trans hk_39 K41.1
          have pre42 : ∀ t, Steps p.tables e below (T41.setTop (mkF m 155 #[.val (.int p1), .val (.int p2), .val (.int p3), .val (.int p4), .val (.int sv), .val (.int (0 : Int32)), .val (.int (2 : Int32)), .val (.int t0), .val (.int t1), .val (.int (mg0_50_s0 p4)), .val (.int m0), .val (.int m1), .val (.ref b1_36), .val (.ref b1_38), .val (.ref b39), .unset] [(.int (13 : Int32)), (.int sv)])) t → Steps p.tables e below (s₁.setTop (entryFrame m #[(.int p1), (.int p2), (.int p3), (.int p4)] maxLocals)) t := by
            intro t kt
            refine pre37 _ ?_
            show Steps p.tables e below (s₁.setTop (mkF m 116 #[.val (.int p1), .val (.int p2), .val (.int p3), .val (.int p4), .val (.int sv), .val (.int (0 : Int32)), .val (.int (2 : Int32)), .val (.int t0), .val (.int t1), .val (.int (mg0_50_s0 p4)), .val (.int m0), .val (.int m1), .unset, .unset, .unset, .unset] [(.int t1), (.int t0), (.int (0 : Int32))])) _
            refine st36.trans ?_
            show Steps p.tables e below (T36.setTop (mkF m 119 #[.val (.int p1), .val (.int p2), .val (.int p3), .val (.int p4), .val (.int sv), .val (.int (0 : Int32)), .val (.int (2 : Int32)), .val (.int t0), .val (.int t1), .val (.int (mg0_50_s0 p4)), .val (.int m0), .val (.int m1), .unset, .unset, .unset, .unset] [(.ref b1_36)])) _
            refine XS.astore X36.here hx rfl (hb hby at_119) rfl rfl (l' := #[.val (.int p1), .val (.int p2), .val (.int p3), .val (.int p4), .val (.int sv), .val (.int (0 : Int32)), .val (.int (2 : Int32)), .val (.int t0), .val (.int t1), .val (.int (mg0_50_s0 p4)), .val (.int m0), .val (.int m1), .val (.ref b1_36), .unset, .unset, .unset]) rfl ?_
            show Steps p.tables e below (T36.setTop (mkF m 121 #[.val (.int p1), .val (.int p2), .val (.int p3), .val (.int p4), .val (.int sv), .val (.int (0 : Int32)), .val (.int (2 : Int32)), .val (.int t0), .val (.int t1), .val (.int (mg0_50_s0 p4)), .val (.int m0), .val (.int m1), .val (.ref b1_36), .unset, .unset, .unset] [])) _
            refine XS.iload X36.here hx rfl (hb hby at_121) rfl ?_
            refine XS.iload X36.here hx rfl (hb hby at_123) rfl ?_
            refine XS.iload X36.here hx rfl (hb hby at_125) rfl ?_
            show Steps p.tables e below (T36.setTop (mkF m 127 #[.val (.int p1), .val (.int p2), .val (.int p3), .val (.int p4), .val (.int sv), .val (.int (0 : Int32)), .val (.int (2 : Int32)), .val (.int t0), .val (.int t1), .val (.int (mg0_50_s0 p4)), .val (.int m0), .val (.int m1), .val (.ref b1_36), .unset, .unset, .unset] [(.int m1), (.int m0), (.int (2 : Int32))])) _
            refine st38 _ ?_
            show Steps p.tables e below (T38.setTop (mkF m 130 #[.val (.int p1), .val (.int p2), .val (.int p3), .val (.int p4), .val (.int sv), .val (.int (0 : Int32)), .val (.int (2 : Int32)), .val (.int t0), .val (.int t1), .val (.int (mg0_50_s0 p4)), .val (.int m0), .val (.int m1), .val (.ref b1_36), .unset, .unset, .unset] [(.ref b1_38)])) _
            refine XS.astore X38.here hx rfl (hb hby at_130) rfl rfl (l' := #[.val (.int p1), .val (.int p2), .val (.int p3), .val (.int p4), .val (.int sv), .val (.int (0 : Int32)), .val (.int (2 : Int32)), .val (.int t0), .val (.int t1), .val (.int (mg0_50_s0 p4)), .val (.int m0), .val (.int m1), .val (.ref b1_36), .val (.ref b1_38), .unset, .unset]) rfl ?_
            show Steps p.tables e below (T38.setTop (mkF m 132 #[.val (.int p1), .val (.int p2), .val (.int p3), .val (.int p4), .val (.int sv), .val (.int (0 : Int32)), .val (.int (2 : Int32)), .val (.int t0), .val (.int t1), .val (.int (mg0_50_s0 p4)), .val (.int m0), .val (.int m1), .val (.ref b1_36), .val (.ref b1_38), .unset, .unset] [])) _
            refine st39 _ ?_
            show Steps p.tables e below (T39.setTop (mkF m 135 #[.val (.int p1), .val (.int p2), .val (.int p3), .val (.int p4), .val (.int sv), .val (.int (0 : Int32)), .val (.int (2 : Int32)), .val (.int t0), .val (.int t1), .val (.int (mg0_50_s0 p4)), .val (.int m0), .val (.int m1), .val (.ref b1_36), .val (.ref b1_38), .unset, .unset] [(.ref b39)])) _
            refine XS.dup X39.here hx rfl (hb hby at_135) rfl rfl ?_
            refine XS.iload X39.here hx rfl (hb hby at_136) rfl ?_
            show Steps p.tables e below (T39.setTop (mkF m 138 #[.val (.int p1), .val (.int p2), .val (.int p3), .val (.int p4), .val (.int sv), .val (.int (0 : Int32)), .val (.int (2 : Int32)), .val (.int t0), .val (.int t1), .val (.int (mg0_50_s0 p4)), .val (.int m0), .val (.int m1), .val (.ref b1_36), .val (.ref b1_38), .unset, .unset] [(.int sv), (.ref b39), (.ref b39)])) _
            refine st40 _ ?_
            show Steps p.tables e below (T40.setTop (mkF m 141 #[.val (.int p1), .val (.int p2), .val (.int p3), .val (.int p4), .val (.int sv), .val (.int (0 : Int32)), .val (.int (2 : Int32)), .val (.int t0), .val (.int t1), .val (.int (mg0_50_s0 p4)), .val (.int m0), .val (.int m1), .val (.ref b1_36), .val (.ref b1_38), .unset, .unset] [(.ref (res8 sv w_IRI w_PNAME_NS w_PNAME_LN w_BLANK_NODE_LABEL w_VAR w_STRING w_LANGTAG w_INTEGER w_DECIMAL w_DOUBLE w_NIL w_ANON w_WORD w_PUNCT w_EOF)), (.ref b39), (.ref b39)])) _
            refine XS.aload X40.here hx rfl (hb hby at_141) rfl rfl ?_
            refine XS.iloadN X40.here hx rfl (hb hby at_143) rfl ?_
            refine XS.iloadN X40.here hx rfl (hb hby at_144) rfl ?_
            show Steps p.tables e below (T40.setTop (mkF m 145 #[.val (.int p1), .val (.int p2), .val (.int p3), .val (.int p4), .val (.int sv), .val (.int (0 : Int32)), .val (.int (2 : Int32)), .val (.int t0), .val (.int t1), .val (.int (mg0_50_s0 p4)), .val (.int m0), .val (.int m1), .val (.ref b1_36), .val (.ref b1_38), .unset, .unset] [(.int p1), (.int p3), (.ref b1_36), (.ref (res8 sv w_IRI w_PNAME_NS w_PNAME_LN w_BLANK_NODE_LABEL w_VAR w_STRING w_LANGTAG w_INTEGER w_DECIMAL w_DOUBLE w_NIL w_ANON w_WORD w_PUNCT w_EOF)), (.ref b39), (.ref b39)])) _
            refine XS.ixor X40.here hx rfl (hb hby at_145) rfl ?_
            show Steps p.tables e below (T40.setTop (mkF m 146 #[.val (.int p1), .val (.int p2), .val (.int p3), .val (.int p4), .val (.int sv), .val (.int (0 : Int32)), .val (.int (2 : Int32)), .val (.int t0), .val (.int t1), .val (.int (mg0_50_s0 p4)), .val (.int m0), .val (.int m1), .val (.ref b1_36), .val (.ref b1_38), .unset, .unset] [(.int (p3 ^^^ p1)), (.ref b1_36), (.ref (res8 sv w_IRI w_PNAME_NS w_PNAME_LN w_BLANK_NODE_LABEL w_VAR w_STRING w_LANGTAG w_INTEGER w_DECIMAL w_DOUBLE w_NIL w_ANON w_WORD w_PUNCT w_EOF)), (.ref b39), (.ref b39)])) _
            refine st41.trans ?_
            show Steps p.tables e below (T41.setTop (mkF m 149 #[.val (.int p1), .val (.int p2), .val (.int p3), .val (.int p4), .val (.int sv), .val (.int (0 : Int32)), .val (.int (2 : Int32)), .val (.int t0), .val (.int t1), .val (.int (mg0_50_s0 p4)), .val (.int m0), .val (.int m1), .val (.ref b1_36), .val (.ref b1_38), .unset, .unset] [(.ref b39)])) _
            refine XS.astore X41.here hx rfl (hb hby at_149) rfl rfl (l' := #[.val (.int p1), .val (.int p2), .val (.int p3), .val (.int p4), .val (.int sv), .val (.int (0 : Int32)), .val (.int (2 : Int32)), .val (.int t0), .val (.int t1), .val (.int (mg0_50_s0 p4)), .val (.int m0), .val (.int m1), .val (.ref b1_36), .val (.ref b1_38), .val (.ref b39), .unset]) rfl ?_
            refine XS.iload X41.here hx rfl (hb hby at_151) rfl ?_
            show Steps p.tables e below (T41.setTop (mkF m 153 #[.val (.int p1), .val (.int p2), .val (.int p3), .val (.int p4), .val (.int sv), .val (.int (0 : Int32)), .val (.int (2 : Int32)), .val (.int t0), .val (.int t1), .val (.int (mg0_50_s0 p4)), .val (.int m0), .val (.int m1), .val (.ref b1_36), .val (.ref b1_38), .val (.ref b39), .unset] [(.int sv)])) _
            refine XS.bipush X41.here hx rfl (hb hby at_153) ?_
            exact kt
          have pre44 : ∀ t, Steps p.tables e below (T41.setTop (mkF m 196 #[.val (.int p1), .val (.int p2), .val (.int p3), .val (.int p4), .val (.int sv), .val (.int (0 : Int32)), .val (.int (2 : Int32)), .val (.int t0), .val (.int t1), .val (.int (mg0_50_s0 p4)), .val (.int m0), .val (.int m1), .val (.ref b1_36), .val (.ref b1_38), .val (.ref b39), .unset] [(.int (0 : Int32))])) t → Steps p.tables e below (s₁.setTop (entryFrame m #[(.int p1), (.int p2), (.int p3), (.int p4)] maxLocals)) t := by
            intro t kt
            by_cases hc155_43 : sv = (13 : Int32)
            · skip
              refine pre42 _ ?_
              show Steps p.tables e below (T41.setTop (mkF m 155 #[.val (.int p1), .val (.int p2), .val (.int p3), .val (.int p4), .val (.int sv), .val (.int (0 : Int32)), .val (.int (2 : Int32)), .val (.int t0), .val (.int t1), .val (.int (mg0_50_s0 p4)), .val (.int m0), .val (.int m1), .val (.ref b1_36), .val (.ref b1_38), .val (.ref b39), .unset] [(.int (13 : Int32)), (.int sv)])) _
              refine XS.icmpNo X41.here hx rfl (hb hby at_155) rfl (teq hc155_43).2 ?_
              refine XS.iload X41.here hx rfl (hb hby at_158) rfl ?_
              show Steps p.tables e below (T41.setTop (mkF m 160 #[.val (.int p1), .val (.int p2), .val (.int p3), .val (.int p4), .val (.int sv), .val (.int (0 : Int32)), .val (.int (2 : Int32)), .val (.int t0), .val (.int t1), .val (.int (mg0_50_s0 p4)), .val (.int m0), .val (.int m1), .val (.ref b1_36), .val (.ref b1_38), .val (.ref b39), .unset] [(.int (0 : Int32))])) _
              refine XS.iload X41.here hx rfl (hb hby at_160) rfl ?_
              refine XS.icmpYes X41.here hx rfl (pc0 := 162) (pc' := 195) rfl (hb hby at_162) rfl (feq (by decide : ¬ ((0 : Int32) = (2 : Int32)))).2 (by decide) (by decide) ?_
              refine XS.iconst X41.here hx rfl (hb hby at_195) ?_
              exact kt
            · skip
              refine pre42 _ ?_
              show Steps p.tables e below (T41.setTop (mkF m 155 #[.val (.int p1), .val (.int p2), .val (.int p3), .val (.int p4), .val (.int sv), .val (.int (0 : Int32)), .val (.int (2 : Int32)), .val (.int t0), .val (.int t1), .val (.int (mg0_50_s0 p4)), .val (.int m0), .val (.int m1), .val (.ref b1_36), .val (.ref b1_38), .val (.ref b39), .unset] [(.int (13 : Int32)), (.int sv)])) _
              refine XS.icmpYes X41.here hx rfl (pc0 := 155) (pc' := 195) rfl (hb hby at_155) rfl (feq hc155_43).2 (by decide) (by decide) ?_
              refine XS.iconst X41.here hx rfl (hb hby at_195) ?_
              exact kt
          obtain ⟨cq45, kq45, q45a, q45b, q45c⟩ := isOf hZ rfl (A39.keep K41)
          obtain ⟨_, _, ⟨T45, L45, k45, n45⟩, -, X45, ⟨Lc45, hQ45, l45, y45, z45⟩, st45⟩ := X41.virtualBack hx (y := (⟨"com/example/cantrip/cantrip/Token", "is", "(Ljava/lang/String;)Z"⟩ : MethodName)) (z := (⟨"com/example/cantrip/cantrip/Token", "is", "(Ljava/lang/String;)Z"⟩ : MethodName)) hown (mvT hZ (hw _ (List.mem_of_getElem? (i := 62) rfl))) (mvT hZ (hw _ (List.mem_of_getElem? (i := 63) rfl))) (notFace_of_selects (args := #[]) (mvT hZ (hw _ (List.mem_of_getElem? (i := 65) rfl)))) (mvT hZ (hw _ (List.mem_of_getElem? (i := 65) rfl))) (mvT hZ (hw _ (List.mem_of_getElem? (i := 64) rfl))) (by decide) (backOf (W := 0) (rm_is_0_2 l Z a0 hw [] b39 b1_38 b1_3_2_7_38 k1_3_2_7_38 (nar .byte ((nar .char m0).toInt8.toInt32)) (nar .byte ((nar .char m1).toInt8.toInt32)) b1_36 c2_2_3_36 k2_2_3_36 (res8 sv w_IRI w_PNAME_NS w_PNAME_LN w_BLANK_NODE_LABEL w_VAR w_STRING w_LANGTAG w_INTEGER w_DECIMAL w_DOUBLE w_NIL w_ANON w_WORD w_PUNCT w_EOF) w_PUNCT w_COMPACT_STRINGS T41.heap n0 (Nat.le_trans Z0 KK41.1) ((f38_0.ext E39).keep K41) ((f38_1.ext E39).keep K41 (ninS (Nat.ne_of_lt (Nat.lt_of_lt_of_le f38_0.lt (Nat.le_of_eq g39.symm))) nin0)) ((f38_2.ext E39).keep K41 (ninS (Nat.ne_of_lt (Nat.lt_of_lt_of_le f38_0.lt (Nat.le_of_eq g39.symm))) nin0)) ((f38_3.ext E39).keep K41 (ninS (Nat.ne_of_lt (Nat.lt_of_lt_of_le f38_3.lt (Nat.le_of_eq g39.symm))) nin0)) f41_2 (((f36_0.keep K38).ext E39).keep K41) (((f36_2.keep K38 nin0).ext E39).keep K41 (ninS (Nat.ne_of_lt (Nat.lt_of_lt_of_le (f36_0.keep K38).lt (Nat.le_of_eq g39.symm))) nin0)) (((f36_1.keep K38 nin0).ext E39).keep K41 (ninS (Nat.ne_of_lt (Nat.lt_of_lt_of_le (f36_0.keep K38).lt (Nat.le_of_eq g39.symm))) nin0)) (((f36_3.keep K38 nin0).ext E39).keep K41 (ninS (Nat.ne_of_lt (Nat.lt_of_lt_of_le (f36_3.keep K38 nin0).lt (Nat.le_of_eq g39.symm))) nin0)) f41_1 (own_sta_keep ((own_sta_keep (own_sta_keep S_PUNCT K36 all0) K38 all0).ext E39) K41 (allS (own_exa_ns A39) all0)) (own_sta_keep ((own_sta_keep (own_sta_keep S_COMPACT_STRINGS K36 all0) K38 all0).ext E39) K41 (allS (own_exa_ns A39) all0)) ((Nat.ne_of_lt (Nat.lt_of_lt_of_le f36_0.lt s38_b1)) : b1_36 ≠ b1_38) (hCS : ¬ (w_COMPACT_STRINGS = (0 : Int32)))) hZ (hw _ (List.mem_of_getElem? (i := 66) rfl)) (hw _ (List.mem_of_getElem? (i := 40) rfl)) (by decide) (by decide)) q45a q45c (g := (mkF m 202 #[.val (.int p1), .val (.int p2), .val (.int p3), .val (.int p4), .val (.int sv), .val (.int (0 : Int32)), .val (.int (2 : Int32)), .val (.int t0), .val (.int t1), .val (.int (mg0_50_s0 p4)), .val (.int m0), .val (.int m1), .val (.ref b1_36), .val (.ref b1_38), .val (.ref b39), .val (.int (0 : Int32))] [(.ref b1_38), (.ref b39)])) rfl (by rw [hml]; rfl) (Steps.refl _) (argsL := [(.ref b1_38)]) (rest := []) (lenOf pd11 rfl) rfl (by show 2 * 0 + _ ≤ _; exact Nat.le_of_eq rfl) (hb hby at_202) (fun _ _ => ⟨rfl, rfl, (by decide : 8 + 0 ≤ _), (by decide : 19 + 0 ≤ _)⟩)
          dsimp only [Pt.U, Pt.locs, Pt.cells, Pt.slots] at X45 l45 y45 z45 st45 hQ45
          subst l45 y45 z45
          obtain ⟨rfl, rfl, e45⟩ := hQ45
          have N45 := Fr.app N41 (Fr.nil n0)
          obtain ⟨fs, hr, hrun, hended, hRW⟩ := X45.leaveW hS36 (Nat.le_trans hk_41 (Nat.le_of_eq (congrArg Array.size e45.symm))) (v := some (.int (1 : Int32))) (fun h => by rw [Bd.returns] at h; cases h)
          refine ⟨_, _, pre44 _ ?_, hrun, hended, _, _, rfl, ?_, hRW.1, hRW.2.1, hRW.2.2.1, hRW.2.2.2.mono (by decide) (by decide)⟩
          · show Steps p.tables e below (T41.setTop (mkF m 196 #[.val (.int p1), .val (.int p2), .val (.int p3), .val (.int p4), .val (.int sv), .val (.int (0 : Int32)), .val (.int (2 : Int32)), .val (.int t0), .val (.int t1), .val (.int (mg0_50_s0 p4)), .val (.int m0), .val (.int m1), .val (.ref b1_36), .val (.ref b1_38), .val (.ref b39), .unset] [(.int (0 : Int32))])) _
            refine XS.istore X41.here hx rfl (hb hby at_196) rfl (l' := #[.val (.int p1), .val (.int p2), .val (.int p3), .val (.int p4), .val (.int sv), .val (.int (0 : Int32)), .val (.int (2 : Int32)), .val (.int t0), .val (.int t1), .val (.int (mg0_50_s0 p4)), .val (.int m0), .val (.int m1), .val (.ref b1_36), .val (.ref b1_38), .val (.ref b39), .val (.int (0 : Int32))]) rfl ?_
            refine XS.aload X41.here hx rfl (hb hby at_198) rfl rfl ?_
            show Steps p.tables e below (T41.setTop (mkF m 200 #[.val (.int p1), .val (.int p2), .val (.int p3), .val (.int p4), .val (.int sv), .val (.int (0 : Int32)), .val (.int (2 : Int32)), .val (.int t0), .val (.int t1), .val (.int (mg0_50_s0 p4)), .val (.int m0), .val (.int m1), .val (.ref b1_36), .val (.ref b1_38), .val (.ref b39), .val (.int (0 : Int32))] [(.ref b39)])) _
            refine XS.aload X41.here hx rfl (hb hby at_200) rfl rfl ?_
            show Steps p.tables e below (T41.setTop (mkF m 202 #[.val (.int p1), .val (.int p2), .val (.int p3), .val (.int p4), .val (.int sv), .val (.int (0 : Int32)), .val (.int (2 : Int32)), .val (.int t0), .val (.int t1), .val (.int (mg0_50_s0 p4)), .val (.int m0), .val (.int m1), .val (.ref b1_36), .val (.ref b1_38), .val (.ref b39), .val (.int (0 : Int32))] [(.ref b1_38), (.ref b39)])) _
            refine st45.trans ?_
            show Steps p.tables e below (T45.setTop (mkF m 205 #[.val (.int p1), .val (.int p2), .val (.int p3), .val (.int p4), .val (.int sv), .val (.int (0 : Int32)), .val (.int (2 : Int32)), .val (.int t0), .val (.int t1), .val (.int (mg0_50_s0 p4)), .val (.int m0), .val (.int m1), .val (.ref b1_36), .val (.ref b1_38), .val (.ref b39), .val (.int (0 : Int32))] [(.int (res_is_0_2 (res8 sv w_IRI w_PNAME_NS w_PNAME_LN w_BLANK_NODE_LABEL w_VAR w_STRING w_LANGTAG w_INTEGER w_DECIMAL w_DOUBLE w_NIL w_ANON w_WORD w_PUNCT w_EOF) w_PUNCT))])) _
            refine XS.iload X45.here hx rfl (hb hby at_205) rfl ?_
            refine XS.icmpNo X45.here hx rfl (hb hby at_207) rfl (teq (own_eq_0_2 w_IRI w_PNAME_NS w_PNAME_LN w_BLANK_NODE_LABEL w_VAR w_STRING w_LANGTAG w_INTEGER w_DECIMAL w_DOUBLE w_NIL w_ANON w_WORD w_PUNCT w_EOF rs r_t0 r_t1 r_m0 r_m1 hD : (res_is_0_2 (res8 sv w_IRI w_PNAME_NS w_PNAME_LN w_BLANK_NODE_LABEL w_VAR w_STRING w_LANGTAG w_INTEGER w_DECIMAL w_DOUBLE w_NIL w_ANON w_WORD w_PUNCT w_EOF) w_PUNCT) = (0 : Int32))).2 ?_
            show Steps p.tables e below (T45.setTop (mkF m 210 #[.val (.int p1), .val (.int p2), .val (.int p3), .val (.int p4), .val (.int sv), .val (.int (0 : Int32)), .val (.int (2 : Int32)), .val (.int t0), .val (.int t1), .val (.int (mg0_50_s0 p4)), .val (.int m0), .val (.int m1), .val (.ref b1_36), .val (.ref b1_38), .val (.ref b39), .val (.int (0 : Int32))] [])) _
            refine XS.iconst X45.here hx rfl (hb hby at_210) ?_
            refine XS.goto X45.here hx rfl (pc0 := 211) (pc' := 215) rfl (hb hby at_211) (by decide) (by decide) ?_
            show Steps p.tables e below (T45.setTop (mkF m 215 #[.val (.int p1), .val (.int p2), .val (.int p3), .val (.int p4), .val (.int sv), .val (.int (0 : Int32)), .val (.int (2 : Int32)), .val (.int t0), .val (.int t1), .val (.int (mg0_50_s0 p4)), .val (.int m0), .val (.int m1), .val (.ref b1_36), .val (.ref b1_38), .val (.ref b39), .val (.int (0 : Int32))] [(.int (1 : Int32))])) _
            exact retN X45 hx (t := .boolean) Bd.returns (by simp) (hb hby at_215) hr
          · show Q0 Z p1 p2 p3 p4 w_IRI w_PNAME_NS w_PNAME_LN w_BLANK_NODE_LABEL w_VAR w_STRING w_LANGTAG w_INTEGER w_DECIMAL w_DOUBLE w_NIL w_ANON w_WORD w_PUNCT w_EOF w_COMPACT_STRINGS h0 n0 _ T45.heap _
            rw [e45]
            exact ⟨rfl, N45⟩
        · exfalso
          rcases (own_l3 _) with h | h | h
          · exact hv12 h
          · exact hv24 h
          · exact hv35 h
  · by_cases hv46 : ((p4 &&& (3 : Int32)) % (3 : Int32)) = (1 : Int32)
    · rw [hv46] at pre10
      by_cases hv47 : ((((p4.toUInt32 >>> ((2 : Int32) &&& 31).toUInt32).toInt32) &&& (3 : Int32)) % (3 : Int32)) = (0 : Int32)
      · rw [hv47] at pre10
        obtain ⟨_, _, ⟨T48, L48, k48, n48⟩, -, X48, ⟨Lc48, hQ48, l48, y48, z48⟩, st48⟩ := Jvm.LawKit.callS X0 hx (y := (⟨"com/example/cantrip/cantrip/TokenIsPinLaw", "str", "(ICC)Ljava/lang/String;"⟩ : MethodName)) hown (mvT hZ (hw _ (List.mem_of_getElem? (i := 1) rfl))) (mvT hZ (hw _ (List.mem_of_getElem? (i := 2) rfl))) (mvT hZ (hw _ (List.mem_of_getElem? (i := 3) rfl))) (mvT hZ (hw _ (List.mem_of_getElem? (i := 4) rfl))) (by decide) (backOf (W := 0) (rm_str_1 l Z a0 hw [] t0 t1 w_COMPACT_STRINGS h0 n0 (Nat.le_trans Z0 (Keep.refl h0 []).1) S_COMPACT_STRINGS (hCS : ¬ (w_COMPACT_STRINGS = (0 : Int32))) (own_nc r_t0 : ¬ ((255 : Int32) < (nar .char t0)))) hZ (hw _ (List.mem_of_getElem? (i := 4) rfl)) (hw _ (List.mem_of_getElem? (i := 3) rfl)) (by decide) (by decide)) (g := (mkF m 116 #[.val (.int p1), .val (.int p2), .val (.int p3), .val (.int p4), .val (.int sv), .val (.int (1 : Int32)), .val (.int (0 : Int32)), .val (.int t0), .val (.int t1), .val (.int (mg0_50_s0 p4)), .val (.int m0), .val (.int m1), .unset, .unset, .unset, .unset] [(.int t1), (.int t0), (.int (1 : Int32))])) rfl (by rw [hml]; rfl) (argsL := [(.int (1 : Int32)), (.int t0), (.int t1)]) (rest := []) (lenOf pd8 rfl) rfl (by show 2 * 0 + _ ≤ _; exact Nat.le_of_eq rfl) (hb hby at_116) (fun _ _ => ⟨rfl, e0, (by decide : 0 + 3 ≤ _), (by decide : 0 + 6 ≤ _)⟩)
        dsimp only [Pt.U, Pt.locs, Pt.cells, Pt.slots] at X48 l48 y48 z48 st48 hQ48
        subst l48 y48 z48
        obtain ⟨b1_48, b1_3_2_5_48, k1_3_2_5_48, rfl, N48q, K48, s48_b1, s48_b1_3_2_5, f48_0, f48_1, f48_2, f48_3⟩ := hQ48
        have N48 := Fr.app N0 N48q
        have sz_b1_48 : h0.size ≤ b1_48 := Nat.le_trans (Keep.refl h0 []).1 s48_b1
        have g_b1_48 : n0 ≤ b1_48 := Nat.le_trans Z0 sz_b1_48
        have sz_b1_3_2_5_48 : h0.size ≤ b1_3_2_5_48 := Nat.le_trans (Keep.refl h0 []).1 s48_b1_3_2_5
        have g_b1_3_2_5_48 : n0 ≤ b1_3_2_5_48 := Nat.le_trans Z0 sz_b1_3_2_5_48
        have KK48 : Keep h0 T48.heap [] := (Keep.refl h0 []).trans K48 all0
        have hk_48 := Nat.le_trans (Nat.zero_le _) K48.1
        have CR48 := CHr.trans CR0 (CHr.keep K48 all0 CR0.1)
        have pre50 : ∀ t, Steps p.tables e below (T48.setTop (mkF m 127 #[.val (.int p1), .val (.int p2), .val (.int p3), .val (.int p4), .val (.int sv), .val (.int (1 : Int32)), .val (.int (0 : Int32)), .val (.int t0), .val (.int t1), .val (.int (mg0_50_s0 p4)), .val (.int m0), .val (.int m1), .val (.ref b1_48), .unset, .unset, .unset] [(.int m1), (.int m0), (.int (0 : Int32))])) t → Steps p.tables e below (s₁.setTop (entryFrame m #[(.int p1), (.int p2), (.int p3), (.int p4)] maxLocals)) t := by
          intro t kt
          refine pre10 _ ?_
          show Steps p.tables e below (s₁.setTop (mkF m 110 #[.val (.int p1), .val (.int p2), .val (.int p3), .val (.int p4), .val (.int sv), .val (.int (1 : Int32)), .val (.int (0 : Int32)), .val (.int t0), .val (.int t1), .val (.int (mg0_50_s0 p4)), .val (.int m0), .val (.int m1), .unset, .unset, .unset, .unset] [])) _
          refine XS.iload X0.here hx rfl (hb hby at_110) rfl ?_
          show Steps p.tables e below (s₁.setTop (mkF m 112 #[.val (.int p1), .val (.int p2), .val (.int p3), .val (.int p4), .val (.int sv), .val (.int (1 : Int32)), .val (.int (0 : Int32)), .val (.int t0), .val (.int t1), .val (.int (mg0_50_s0 p4)), .val (.int m0), .val (.int m1), .unset, .unset, .unset, .unset] [(.int (1 : Int32))])) _
          refine XS.iload X0.here hx rfl (hb hby at_112) rfl ?_
          refine XS.iload X0.here hx rfl (hb hby at_114) rfl ?_
          show Steps p.tables e below (s₁.setTop (mkF m 116 #[.val (.int p1), .val (.int p2), .val (.int p3), .val (.int p4), .val (.int sv), .val (.int (1 : Int32)), .val (.int (0 : Int32)), .val (.int t0), .val (.int t1), .val (.int (mg0_50_s0 p4)), .val (.int m0), .val (.int m1), .unset, .unset, .unset, .unset] [(.int t1), (.int t0), (.int (1 : Int32))])) _
          refine st48 _ ?_
          show Steps p.tables e below (T48.setTop (mkF m 119 #[.val (.int p1), .val (.int p2), .val (.int p3), .val (.int p4), .val (.int sv), .val (.int (1 : Int32)), .val (.int (0 : Int32)), .val (.int t0), .val (.int t1), .val (.int (mg0_50_s0 p4)), .val (.int m0), .val (.int m1), .unset, .unset, .unset, .unset] [(.ref b1_48)])) _
          refine XS.astore X48.here hx rfl (hb hby at_119) rfl rfl (l' := #[.val (.int p1), .val (.int p2), .val (.int p3), .val (.int p4), .val (.int sv), .val (.int (1 : Int32)), .val (.int (0 : Int32)), .val (.int t0), .val (.int t1), .val (.int (mg0_50_s0 p4)), .val (.int m0), .val (.int m1), .val (.ref b1_48), .unset, .unset, .unset]) rfl ?_
          show Steps p.tables e below (T48.setTop (mkF m 121 #[.val (.int p1), .val (.int p2), .val (.int p3), .val (.int p4), .val (.int sv), .val (.int (1 : Int32)), .val (.int (0 : Int32)), .val (.int t0), .val (.int t1), .val (.int (mg0_50_s0 p4)), .val (.int m0), .val (.int m1), .val (.ref b1_48), .unset, .unset, .unset] [])) _
          refine XS.iload X48.here hx rfl (hb hby at_121) rfl ?_
          refine XS.iload X48.here hx rfl (hb hby at_123) rfl ?_
          refine XS.iload X48.here hx rfl (hb hby at_125) rfl ?_
          exact kt
        obtain ⟨_, _, ⟨T49, L49, k49, n49⟩, -, XX49, hSS49, hgr49, ⟨Lc49, hQ49, l49, y49, z49, hC49⟩, st49⟩ := callSS X48 hx (y := (⟨"com/example/cantrip/cantrip/TokenIsPinLaw", "str", "(ICC)Ljava/lang/String;"⟩ : MethodName)) hown (mvT hZ (hw _ (List.mem_of_getElem? (i := 1) rfl))) (mvT hZ (hw _ (List.mem_of_getElem? (i := 2) rfl))) (mvT hZ (hw _ (List.mem_of_getElem? (i := 3) rfl))) (mvT hZ (hw _ (List.mem_of_getElem? (i := 4) rfl))) (by decide) (backOfSH (W := 0) (rm_str_0 l Z a0 hw [] m0 m1  T48.heap n0 (Nat.le_trans Z0 KK48.1)   hEL) hZ (hw _ (List.mem_of_getElem? (i := 4) rfl)) (hw _ (List.mem_of_getElem? (i := 3) rfl)) (by decide) (by decide) hEL CR48.1) (g := (mkF m 127 #[.val (.int p1), .val (.int p2), .val (.int p3), .val (.int p4), .val (.int sv), .val (.int (1 : Int32)), .val (.int (0 : Int32)), .val (.int t0), .val (.int t1), .val (.int (mg0_50_s0 p4)), .val (.int m0), .val (.int m1), .val (.ref b1_48), .unset, .unset, .unset] [(.int m1), (.int m0), (.int (0 : Int32))])) rfl (by rw [hml]; rfl) (argsL := [(.int (0 : Int32)), (.int m0), (.int m1)]) (rest := []) (lenOf pd8 rfl) rfl (by show 2 * 0 + _ ≤ _; exact Nat.le_of_eq rfl) (hb hby at_127) (fun _ _ => ⟨rfl, rfl, (by decide : 3 + 4 ≤ _), (by decide : 6 + 8 ≤ _)⟩)
        dsimp only [Pt.U, Pt.locs, Pt.cells, Pt.slots] at XX49 hSS49 hgr49 l49 y49 z49 st49 hQ49 hC49
        subst l49 y49 z49
        obtain ⟨X49, hS49, hZ, hown⟩ := rebS hS0 (Nat.le_trans hk_48 (Nat.le_of_eq (congrArg Array.size (rfl : T48.heap = T48.heap).symm))) XX49 hSS49 hgr49 hZ hown
        have CR49 := CHr.trans CR48 hC49
        obtain ⟨b1_49, c2_2_3_49, k2_2_3_49, rfl, N49q, K49, s49_b1, f49_0, f49_1, f49_2, f49_3⟩ := hQ49
        have N49 := Fr.app N48 N49q
        have sz_b1_49 : h0.size ≤ b1_49 := Nat.le_trans KK48.1 s49_b1
        have g_b1_49 : n0 ≤ b1_49 := Nat.le_trans Z0 sz_b1_49
        have KK49 : Keep h0 T49.heap [] := KK48.trans K49 all0
        obtain ⟨T51, h51, X51, e51, E51, A51, D51, -, st51⟩ := newO X49 hx hZ hown (hw _ (List.mem_of_getElem? (i := 38) rfl)) (hw _ (List.mem_of_getElem? (i := 39) rfl)) (hw _ (List.mem_of_getElem? (i := 40) rfl)) rfl (g := (mkF m 132 #[.val (.int p1), .val (.int p2), .val (.int p3), .val (.int p4), .val (.int sv), .val (.int (1 : Int32)), .val (.int (0 : Int32)), .val (.int t0), .val (.int t1), .val (.int (mg0_50_s0 p4)), .val (.int m0), .val (.int m1), .val (.ref b1_48), .val (.ref b1_49), .unset, .unset] [])) rfl (hb hby at_132) (by decide) (by decide)
        obtain ⟨b51, g51⟩ : ∃ z, z = T49.heap.size := ⟨_, rfl⟩
        rw [← g51] at A51 D51 st51
        have sz_b51 : h0.size ≤ b51 := Nat.le_trans KK49.1 (Nat.le_of_eq g51.symm)
        have g_b51 : n0 ≤ b51 := Nat.le_trans Z0 sz_b51
        have K51 : Keep h0 h51 [] := KK49.ext E51
        have hk_51 := Nat.le_trans (Nat.le_refl _) E51.1
        have F_kind_b51 : Fld Z h51 b51 "com/example/cantrip/cantrip/Token" "kind" "Lcom/example/cantrip/cantrip/Token$Kind;" .null := D51 (Or.inr (hw _ (List.mem_of_getElem? (i := 57) rfl))) (ty := (.object "com/example/cantrip/cantrip/Token$Kind")) (by decide)
        have F_text_b51 : Fld Z h51 b51 "com/example/cantrip/cantrip/Token" "text" "Ljava/lang/String;" .null := D51 (Or.inr (hw _ (List.mem_of_getElem? (i := 59) rfl))) (ty := (.object "java/lang/String")) (by decide)
        have F_offset_b51 : Fld Z h51 b51 "com/example/cantrip/cantrip/Token" "offset" "I" (.int (0 : Int32)) := D51 (Or.inr (hw _ (List.mem_of_getElem? (i := 61) rfl))) (ty := .int) (by decide)
        obtain ⟨_, _, ⟨T52, L52, k52, n52⟩, -, X52, ⟨Lc52, hQ52, l52, y52, z52⟩, st52⟩ := Jvm.LawKit.callS X51 hx (y := (⟨"com/example/cantrip/cantrip/TokenIsPinLaw", "kindOf", "(I)Lcom/example/cantrip/cantrip/Token$Kind;"⟩ : MethodName)) hown (mvT hZ (hw _ (List.mem_of_getElem? (i := 41) rfl))) (mvT hZ (hw _ (List.mem_of_getElem? (i := 42) rfl))) (mvT hZ (hw _ (List.mem_of_getElem? (i := 3) rfl))) (mvT hZ (hw _ (List.mem_of_getElem? (i := 43) rfl))) (by decide) (backOf (W := 2) (rm8 l Z a0 hw [] sv w_IRI w_PNAME_NS w_PNAME_LN w_BLANK_NODE_LABEL w_VAR w_STRING w_LANGTAG w_INTEGER w_DECIMAL w_DOUBLE w_NIL w_ANON w_WORD w_PUNCT w_EOF h51 n0 (Nat.le_trans Z0 K51.1) ((own_sta_keep (own_sta_keep S_IRI K48 all0) K49 all0).ext E51) ((own_sta_keep (own_sta_keep S_PNAME_NS K48 all0) K49 all0).ext E51) ((own_sta_keep (own_sta_keep S_PNAME_LN K48 all0) K49 all0).ext E51) ((own_sta_keep (own_sta_keep S_BLANK_NODE_LABEL K48 all0) K49 all0).ext E51) ((own_sta_keep (own_sta_keep S_VAR K48 all0) K49 all0).ext E51) ((own_sta_keep (own_sta_keep S_STRING K48 all0) K49 all0).ext E51) ((own_sta_keep (own_sta_keep S_LANGTAG K48 all0) K49 all0).ext E51) ((own_sta_keep (own_sta_keep S_INTEGER K48 all0) K49 all0).ext E51) ((own_sta_keep (own_sta_keep S_DECIMAL K48 all0) K49 all0).ext E51) ((own_sta_keep (own_sta_keep S_DOUBLE K48 all0) K49 all0).ext E51) ((own_sta_keep (own_sta_keep S_NIL K48 all0) K49 all0).ext E51) ((own_sta_keep (own_sta_keep S_ANON K48 all0) K49 all0).ext E51) ((own_sta_keep (own_sta_keep S_WORD K48 all0) K49 all0).ext E51) ((own_sta_keep (own_sta_keep S_PUNCT K48 all0) K49 all0).ext E51) ((own_sta_keep (own_sta_keep S_EOF K48 all0) K49 all0).ext E51) ) hZ (hw _ (List.mem_of_getElem? (i := 43) rfl)) (hw _ (List.mem_of_getElem? (i := 3) rfl)) (by decide) (by decide)) (g := (mkF m 138 #[.val (.int p1), .val (.int p2), .val (.int p3), .val (.int p4), .val (.int sv), .val (.int (1 : Int32)), .val (.int (0 : Int32)), .val (.int t0), .val (.int t1), .val (.int (mg0_50_s0 p4)), .val (.int m0), .val (.int m1), .val (.ref b1_48), .val (.ref b1_49), .unset, .unset] [(.int sv), (.ref b51), (.ref b51)])) rfl (by rw [hml]; rfl) (argsL := [(.int sv)]) (rest := [(.ref b51), (.ref b51)]) (lenOf pd9 rfl) rfl (by show 2 * 0 + _ ≤ _; exact Nat.le_of_eq rfl) (hb hby at_138) (fun _ _ => ⟨rfl, e51, (by decide : 8 + 0 ≤ _), (by decide : 17 + 0 ≤ _)⟩)
        dsimp only [Pt.U, Pt.locs, Pt.cells, Pt.slots] at X52 l52 y52 z52 st52 hQ52
        subst l52 y52 z52
        obtain ⟨rfl, rfl, e52⟩ := hQ52
        have N52 := Fr.app N49 (Fr.nil n0)
        obtain ⟨_, _, ⟨T53, L53, k53, n53⟩, -, X53, ⟨Lc53, hQ53, l53, y53, z53⟩, st53⟩ := X52.specialBack hx (y := (⟨"com/example/cantrip/cantrip/Token", "<init>", "(Lcom/example/cantrip/cantrip/Token$Kind;Ljava/lang/String;I)V"⟩ : MethodName)) rfl hown (mvT hZ (hw _ (List.mem_of_getElem? (i := 47) rfl))) (mvT hZ (hw _ (List.mem_of_getElem? (i := 48) rfl))) (mvT hZ (hw _ (List.mem_of_getElem? (i := 49) rfl))) (by decide) (backOf (W := 1) (rm9 l Z a0 hw [] b51 (res8 sv w_IRI w_PNAME_NS w_PNAME_LN w_BLANK_NODE_LABEL w_VAR w_STRING w_LANGTAG w_INTEGER w_DECIMAL w_DOUBLE w_NIL w_ANON w_WORD w_PUNCT w_EOF) b1_48 (p3 ^^^ p1) .null .null (.int (0 : Int32)) h51 n0 (Nat.le_trans Z0 K51.1) A51 F_kind_b51 g_b51 F_text_b51 F_offset_b51 ) hZ (hw _ (List.mem_of_getElem? (i := 49) rfl)) (hw _ (List.mem_of_getElem? (i := 40) rfl)) (by decide) (by decide)) (g := (mkF m 146 #[.val (.int p1), .val (.int p2), .val (.int p3), .val (.int p4), .val (.int sv), .val (.int (1 : Int32)), .val (.int (0 : Int32)), .val (.int t0), .val (.int t1), .val (.int (mg0_50_s0 p4)), .val (.int m0), .val (.int m1), .val (.ref b1_48), .val (.ref b1_49), .unset, .unset] [(.int (p3 ^^^ p1)), (.ref b1_48), (.ref (res8 sv w_IRI w_PNAME_NS w_PNAME_LN w_BLANK_NODE_LABEL w_VAR w_STRING w_LANGTAG w_INTEGER w_DECIMAL w_DOUBLE w_NIL w_ANON w_WORD w_PUNCT w_EOF)), (.ref b51), (.ref b51)])) rfl (by rw [hml]; rfl) (Steps.refl _) (a := b51) (argsL := [(.ref (res8 sv w_IRI w_PNAME_NS w_PNAME_LN w_BLANK_NODE_LABEL w_VAR w_STRING w_LANGTAG w_INTEGER w_DECIMAL w_DOUBLE w_NIL w_ANON w_WORD w_PUNCT w_EOF)), (.ref b1_48), (.int (p3 ^^^ p1))]) (rest := [(.ref b51)]) (lenOf pd10 rfl) rfl (by show 2 * 0 + _ ≤ _; exact Nat.le_of_eq rfl) (hb hby at_146) (fun _ _ => ⟨rfl, e52, (by decide : 8 + 0 ≤ _), (by decide : 17 + 0 ≤ _)⟩)
        dsimp only [Pt.U, Pt.locs, Pt.cells, Pt.slots] at X53 l53 y53 z53 st53 hQ53
        subst l53 y53 z53
        obtain ⟨rfl, N53q, K53, f53_0, f53_1, f53_2, f53_3⟩ := hQ53
        have N53 := Fr.app N52 N53q
        have KK53 : Keep h0 T53.heap [] := K51.trans K53 (allS (Or.inr sz_b51) all0)
        have hk_53 := Nat.le_trans hk_51 K53.1
        have pre54 : ∀ t, Steps p.tables e below (T53.setTop (mkF m 155 #[.val (.int p1), .val (.int p2), .val (.int p3), .val (.int p4), .val (.int sv), .val (.int (1 : Int32)), .val (.int (0 : Int32)), .val (.int t0), .val (.int t1), .val (.int (mg0_50_s0 p4)), .val (.int m0), .val (.int m1), .val (.ref b1_48), .val (.ref b1_49), .val (.ref b51), .unset] [(.int (13 : Int32)), (.int sv)])) t → Steps p.tables e below (s₁.setTop (entryFrame m #[(.int p1), (.int p2), (.int p3), (.int p4)] maxLocals)) t := by
          intro t kt
          refine pre50 _ ?_
          show Steps p.tables e below (T48.setTop (mkF m 127 #[.val (.int p1), .val (.int p2), .val (.int p3), .val (.int p4), .val (.int sv), .val (.int (1 : Int32)), .val (.int (0 : Int32)), .val (.int t0), .val (.int t1), .val (.int (mg0_50_s0 p4)), .val (.int m0), .val (.int m1), .val (.ref b1_48), .unset, .unset, .unset] [(.int m1), (.int m0), (.int (0 : Int32))])) _
          refine st49.trans ?_
          show Steps p.tables e below (T49.setTop (mkF m 130 #[.val (.int p1), .val (.int p2), .val (.int p3), .val (.int p4), .val (.int sv), .val (.int (1 : Int32)), .val (.int (0 : Int32)), .val (.int t0), .val (.int t1), .val (.int (mg0_50_s0 p4)), .val (.int m0), .val (.int m1), .val (.ref b1_48), .unset, .unset, .unset] [(.ref b1_49)])) _
          refine XS.astore X49.here hx rfl (hb hby at_130) rfl rfl (l' := #[.val (.int p1), .val (.int p2), .val (.int p3), .val (.int p4), .val (.int sv), .val (.int (1 : Int32)), .val (.int (0 : Int32)), .val (.int t0), .val (.int t1), .val (.int (mg0_50_s0 p4)), .val (.int m0), .val (.int m1), .val (.ref b1_48), .val (.ref b1_49), .unset, .unset]) rfl ?_
          show Steps p.tables e below (T49.setTop (mkF m 132 #[.val (.int p1), .val (.int p2), .val (.int p3), .val (.int p4), .val (.int sv), .val (.int (1 : Int32)), .val (.int (0 : Int32)), .val (.int t0), .val (.int t1), .val (.int (mg0_50_s0 p4)), .val (.int m0), .val (.int m1), .val (.ref b1_48), .val (.ref b1_49), .unset, .unset] [])) _
          refine st51 _ ?_
          show Steps p.tables e below (T51.setTop (mkF m 135 #[.val (.int p1), .val (.int p2), .val (.int p3), .val (.int p4), .val (.int sv), .val (.int (1 : Int32)), .val (.int (0 : Int32)), .val (.int t0), .val (.int t1), .val (.int (mg0_50_s0 p4)), .val (.int m0), .val (.int m1), .val (.ref b1_48), .val (.ref b1_49), .unset, .unset] [(.ref b51)])) _
          refine XS.dup X51.here hx rfl (hb hby at_135) rfl rfl ?_
          refine XS.iload X51.here hx rfl (hb hby at_136) rfl ?_
          show Steps p.tables e below (T51.setTop (mkF m 138 #[.val (.int p1), .val (.int p2), .val (.int p3), .val (.int p4), .val (.int sv), .val (.int (1 : Int32)), .val (.int (0 : Int32)), .val (.int t0), .val (.int t1), .val (.int (mg0_50_s0 p4)), .val (.int m0), .val (.int m1), .val (.ref b1_48), .val (.ref b1_49), .unset, .unset] [(.int sv), (.ref b51), (.ref b51)])) _
          refine st52 _ ?_
          show Steps p.tables e below (T52.setTop (mkF m 141 #[.val (.int p1), .val (.int p2), .val (.int p3), .val (.int p4), .val (.int sv), .val (.int (1 : Int32)), .val (.int (0 : Int32)), .val (.int t0), .val (.int t1), .val (.int (mg0_50_s0 p4)), .val (.int m0), .val (.int m1), .val (.ref b1_48), .val (.ref b1_49), .unset, .unset] [(.ref (res8 sv w_IRI w_PNAME_NS w_PNAME_LN w_BLANK_NODE_LABEL w_VAR w_STRING w_LANGTAG w_INTEGER w_DECIMAL w_DOUBLE w_NIL w_ANON w_WORD w_PUNCT w_EOF)), (.ref b51), (.ref b51)])) _
          refine XS.aload X52.here hx rfl (hb hby at_141) rfl rfl ?_
          refine XS.iloadN X52.here hx rfl (hb hby at_143) rfl ?_
          refine XS.iloadN X52.here hx rfl (hb hby at_144) rfl ?_
          show Steps p.tables e below (T52.setTop (mkF m 145 #[.val (.int p1), .val (.int p2), .val (.int p3), .val (.int p4), .val (.int sv), .val (.int (1 : Int32)), .val (.int (0 : Int32)), .val (.int t0), .val (.int t1), .val (.int (mg0_50_s0 p4)), .val (.int m0), .val (.int m1), .val (.ref b1_48), .val (.ref b1_49), .unset, .unset] [(.int p1), (.int p3), (.ref b1_48), (.ref (res8 sv w_IRI w_PNAME_NS w_PNAME_LN w_BLANK_NODE_LABEL w_VAR w_STRING w_LANGTAG w_INTEGER w_DECIMAL w_DOUBLE w_NIL w_ANON w_WORD w_PUNCT w_EOF)), (.ref b51), (.ref b51)])) _
          refine XS.ixor X52.here hx rfl (hb hby at_145) rfl ?_
          show Steps p.tables e below (T52.setTop (mkF m 146 #[.val (.int p1), .val (.int p2), .val (.int p3), .val (.int p4), .val (.int sv), .val (.int (1 : Int32)), .val (.int (0 : Int32)), .val (.int t0), .val (.int t1), .val (.int (mg0_50_s0 p4)), .val (.int m0), .val (.int m1), .val (.ref b1_48), .val (.ref b1_49), .unset, .unset] [(.int (p3 ^^^ p1)), (.ref b1_48), (.ref (res8 sv w_IRI w_PNAME_NS w_PNAME_LN w_BLANK_NODE_LABEL w_VAR w_STRING w_LANGTAG w_INTEGER w_DECIMAL w_DOUBLE w_NIL w_ANON w_WORD w_PUNCT w_EOF)), (.ref b51), (.ref b51)])) _
          refine st53.trans ?_
          show Steps p.tables e below (T53.setTop (mkF m 149 #[.val (.int p1), .val (.int p2), .val (.int p3), .val (.int p4), .val (.int sv), .val (.int (1 : Int32)), .val (.int (0 : Int32)), .val (.int t0), .val (.int t1), .val (.int (mg0_50_s0 p4)), .val (.int m0), .val (.int m1), .val (.ref b1_48), .val (.ref b1_49), .unset, .unset] [(.ref b51)])) _
          refine XS.astore X53.here hx rfl (hb hby at_149) rfl rfl (l' := #[.val (.int p1), .val (.int p2), .val (.int p3), .val (.int p4), .val (.int sv), .val (.int (1 : Int32)), .val (.int (0 : Int32)), .val (.int t0), .val (.int t1), .val (.int (mg0_50_s0 p4)), .val (.int m0), .val (.int m1), .val (.ref b1_48), .val (.ref b1_49), .val (.ref b51), .unset]) rfl ?_
          refine XS.iload X53.here hx rfl (hb hby at_151) rfl ?_
          show Steps p.tables e below (T53.setTop (mkF m 153 #[.val (.int p1), .val (.int p2), .val (.int p3), .val (.int p4), .val (.int sv), .val (.int (1 : Int32)), .val (.int (0 : Int32)), .val (.int t0), .val (.int t1), .val (.int (mg0_50_s0 p4)), .val (.int m0), .val (.int m1), .val (.ref b1_48), .val (.ref b1_49), .val (.ref b51), .unset] [(.int sv)])) _
          refine XS.bipush X53.here hx rfl (hb hby at_153) ?_
          exact kt
        have pre56 : ∀ t, Steps p.tables e below (T53.setTop (mkF m 196 #[.val (.int p1), .val (.int p2), .val (.int p3), .val (.int p4), .val (.int sv), .val (.int (1 : Int32)), .val (.int (0 : Int32)), .val (.int t0), .val (.int t1), .val (.int (mg0_50_s0 p4)), .val (.int m0), .val (.int m1), .val (.ref b1_48), .val (.ref b1_49), .val (.ref b51), .unset] [(.int (0 : Int32))])) t → Steps p.tables e below (s₁.setTop (entryFrame m #[(.int p1), (.int p2), (.int p3), (.int p4)] maxLocals)) t := by
          intro t kt
          by_cases hc155_55 : sv = (13 : Int32)
          · skip
            refine pre54 _ ?_
            show Steps p.tables e below (T53.setTop (mkF m 155 #[.val (.int p1), .val (.int p2), .val (.int p3), .val (.int p4), .val (.int sv), .val (.int (1 : Int32)), .val (.int (0 : Int32)), .val (.int t0), .val (.int t1), .val (.int (mg0_50_s0 p4)), .val (.int m0), .val (.int m1), .val (.ref b1_48), .val (.ref b1_49), .val (.ref b51), .unset] [(.int (13 : Int32)), (.int sv)])) _
            refine XS.icmpNo X53.here hx rfl (hb hby at_155) rfl (teq hc155_55).2 ?_
            refine XS.iload X53.here hx rfl (hb hby at_158) rfl ?_
            show Steps p.tables e below (T53.setTop (mkF m 160 #[.val (.int p1), .val (.int p2), .val (.int p3), .val (.int p4), .val (.int sv), .val (.int (1 : Int32)), .val (.int (0 : Int32)), .val (.int t0), .val (.int t1), .val (.int (mg0_50_s0 p4)), .val (.int m0), .val (.int m1), .val (.ref b1_48), .val (.ref b1_49), .val (.ref b51), .unset] [(.int (1 : Int32))])) _
            refine XS.iload X53.here hx rfl (hb hby at_160) rfl ?_
            refine XS.icmpYes X53.here hx rfl (pc0 := 162) (pc' := 195) rfl (hb hby at_162) rfl (feq (by decide : ¬ ((1 : Int32) = (0 : Int32)))).2 (by decide) (by decide) ?_
            refine XS.iconst X53.here hx rfl (hb hby at_195) ?_
            exact kt
          · skip
            refine pre54 _ ?_
            show Steps p.tables e below (T53.setTop (mkF m 155 #[.val (.int p1), .val (.int p2), .val (.int p3), .val (.int p4), .val (.int sv), .val (.int (1 : Int32)), .val (.int (0 : Int32)), .val (.int t0), .val (.int t1), .val (.int (mg0_50_s0 p4)), .val (.int m0), .val (.int m1), .val (.ref b1_48), .val (.ref b1_49), .val (.ref b51), .unset] [(.int (13 : Int32)), (.int sv)])) _
            refine XS.icmpYes X53.here hx rfl (pc0 := 155) (pc' := 195) rfl (hb hby at_155) rfl (feq hc155_55).2 (by decide) (by decide) ?_
            refine XS.iconst X53.here hx rfl (hb hby at_195) ?_
            exact kt
        obtain ⟨cq57, kq57, q57a, q57b, q57c⟩ := isOf hZ rfl (A51.keep K53)
        obtain ⟨_, _, ⟨T57, L57, k57, n57⟩, -, X57, ⟨Lc57, hQ57, l57, y57, z57⟩, st57⟩ := X53.virtualBack hx (y := (⟨"com/example/cantrip/cantrip/Token", "is", "(Ljava/lang/String;)Z"⟩ : MethodName)) (z := (⟨"com/example/cantrip/cantrip/Token", "is", "(Ljava/lang/String;)Z"⟩ : MethodName)) hown (mvT hZ (hw _ (List.mem_of_getElem? (i := 62) rfl))) (mvT hZ (hw _ (List.mem_of_getElem? (i := 63) rfl))) (notFace_of_selects (args := #[]) (mvT hZ (hw _ (List.mem_of_getElem? (i := 65) rfl)))) (mvT hZ (hw _ (List.mem_of_getElem? (i := 65) rfl))) (mvT hZ (hw _ (List.mem_of_getElem? (i := 64) rfl))) (by decide) (backOf (W := 0) (rm_is_1_0 l Z a0 hw [] b51 b1_49 c2_2_3_49 k2_2_3_49 b1_48 b1_3_2_5_48 k1_3_2_5_48 (nar .byte ((nar .char t0).toInt8.toInt32)) (res8 sv w_IRI w_PNAME_NS w_PNAME_LN w_BLANK_NODE_LABEL w_VAR w_STRING w_LANGTAG w_INTEGER w_DECIMAL w_DOUBLE w_NIL w_ANON w_WORD w_PUNCT w_EOF) w_PUNCT w_COMPACT_STRINGS T53.heap n0 (Nat.le_trans Z0 KK53.1) ((f49_0.ext E51).keep K53) ((f49_2.ext E51).keep K53 (ninS (Nat.ne_of_lt (Nat.lt_of_lt_of_le f49_0.lt (Nat.le_of_eq g51.symm))) nin0)) ((f49_1.ext E51).keep K53 (ninS (Nat.ne_of_lt (Nat.lt_of_lt_of_le f49_0.lt (Nat.le_of_eq g51.symm))) nin0)) ((f49_3.ext E51).keep K53 (ninS (Nat.ne_of_lt (Nat.lt_of_lt_of_le f49_3.lt (Nat.le_of_eq g51.symm))) nin0)) f53_2 (((f48_0.keep K49).ext E51).keep K53) (((f48_1.keep K49 nin0).ext E51).keep K53 (ninS (Nat.ne_of_lt (Nat.lt_of_lt_of_le (f48_0.keep K49).lt (Nat.le_of_eq g51.symm))) nin0)) (((f48_2.keep K49 nin0).ext E51).keep K53 (ninS (Nat.ne_of_lt (Nat.lt_of_lt_of_le (f48_0.keep K49).lt (Nat.le_of_eq g51.symm))) nin0)) (((f48_3.keep K49 nin0).ext E51).keep K53 (ninS (Nat.ne_of_lt (Nat.lt_of_lt_of_le (f48_3.keep K49 nin0).lt (Nat.le_of_eq g51.symm))) nin0)) f53_1 (own_sta_keep ((own_sta_keep (own_sta_keep S_PUNCT K48 all0) K49 all0).ext E51) K53 (allS (own_exa_ns A51) all0)) (own_sta_keep ((own_sta_keep (own_sta_keep S_COMPACT_STRINGS K48 all0) K49 all0).ext E51) K53 (allS (own_exa_ns A51) all0)) ((Nat.ne_of_lt (Nat.lt_of_lt_of_le f48_0.lt s49_b1)) : b1_48 ≠ b1_49) (hCS : ¬ (w_COMPACT_STRINGS = (0 : Int32)))) hZ (hw _ (List.mem_of_getElem? (i := 66) rfl)) (hw _ (List.mem_of_getElem? (i := 40) rfl)) (by decide) (by decide)) q57a q57c (g := (mkF m 202 #[.val (.int p1), .val (.int p2), .val (.int p3), .val (.int p4), .val (.int sv), .val (.int (1 : Int32)), .val (.int (0 : Int32)), .val (.int t0), .val (.int t1), .val (.int (mg0_50_s0 p4)), .val (.int m0), .val (.int m1), .val (.ref b1_48), .val (.ref b1_49), .val (.ref b51), .val (.int (0 : Int32))] [(.ref b1_49), (.ref b51)])) rfl (by rw [hml]; rfl) (Steps.refl _) (argsL := [(.ref b1_49)]) (rest := []) (lenOf pd11 rfl) rfl (by show 2 * 0 + _ ≤ _; exact Nat.le_of_eq rfl) (hb hby at_202) (fun _ _ => ⟨rfl, rfl, (by decide : 8 + 0 ≤ _), (by decide : 17 + 0 ≤ _)⟩)
        dsimp only [Pt.U, Pt.locs, Pt.cells, Pt.slots] at X57 l57 y57 z57 st57 hQ57
        subst l57 y57 z57
        obtain ⟨rfl, rfl, e57⟩ := hQ57
        have N57 := Fr.app N53 (Fr.nil n0)
        obtain ⟨fs, hr, hrun, hended, hRW⟩ := X57.leaveW hS49 (Nat.le_trans hk_53 (Nat.le_of_eq (congrArg Array.size e57.symm))) (v := some (.int (1 : Int32))) (fun h => by rw [Bd.returns] at h; cases h)
        refine ⟨_, _, pre56 _ ?_, hrun, hended, _, _, rfl, ?_, hRW.1, hRW.2.1, hRW.2.2.1, hRW.2.2.2.mono (by decide) (by decide)⟩
        · show Steps p.tables e below (T53.setTop (mkF m 196 #[.val (.int p1), .val (.int p2), .val (.int p3), .val (.int p4), .val (.int sv), .val (.int (1 : Int32)), .val (.int (0 : Int32)), .val (.int t0), .val (.int t1), .val (.int (mg0_50_s0 p4)), .val (.int m0), .val (.int m1), .val (.ref b1_48), .val (.ref b1_49), .val (.ref b51), .unset] [(.int (0 : Int32))])) _
          refine XS.istore X53.here hx rfl (hb hby at_196) rfl (l' := #[.val (.int p1), .val (.int p2), .val (.int p3), .val (.int p4), .val (.int sv), .val (.int (1 : Int32)), .val (.int (0 : Int32)), .val (.int t0), .val (.int t1), .val (.int (mg0_50_s0 p4)), .val (.int m0), .val (.int m1), .val (.ref b1_48), .val (.ref b1_49), .val (.ref b51), .val (.int (0 : Int32))]) rfl ?_
          refine XS.aload X53.here hx rfl (hb hby at_198) rfl rfl ?_
          show Steps p.tables e below (T53.setTop (mkF m 200 #[.val (.int p1), .val (.int p2), .val (.int p3), .val (.int p4), .val (.int sv), .val (.int (1 : Int32)), .val (.int (0 : Int32)), .val (.int t0), .val (.int t1), .val (.int (mg0_50_s0 p4)), .val (.int m0), .val (.int m1), .val (.ref b1_48), .val (.ref b1_49), .val (.ref b51), .val (.int (0 : Int32))] [(.ref b51)])) _
          refine XS.aload X53.here hx rfl (hb hby at_200) rfl rfl ?_
          show Steps p.tables e below (T53.setTop (mkF m 202 #[.val (.int p1), .val (.int p2), .val (.int p3), .val (.int p4), .val (.int sv), .val (.int (1 : Int32)), .val (.int (0 : Int32)), .val (.int t0), .val (.int t1), .val (.int (mg0_50_s0 p4)), .val (.int m0), .val (.int m1), .val (.ref b1_48), .val (.ref b1_49), .val (.ref b51), .val (.int (0 : Int32))] [(.ref b1_49), (.ref b51)])) _
          refine st57.trans ?_
          show Steps p.tables e below (T57.setTop (mkF m 205 #[.val (.int p1), .val (.int p2), .val (.int p3), .val (.int p4), .val (.int sv), .val (.int (1 : Int32)), .val (.int (0 : Int32)), .val (.int t0), .val (.int t1), .val (.int (mg0_50_s0 p4)), .val (.int m0), .val (.int m1), .val (.ref b1_48), .val (.ref b1_49), .val (.ref b51), .val (.int (0 : Int32))] [(.int (res_is_1_0 (res8 sv w_IRI w_PNAME_NS w_PNAME_LN w_BLANK_NODE_LABEL w_VAR w_STRING w_LANGTAG w_INTEGER w_DECIMAL w_DOUBLE w_NIL w_ANON w_WORD w_PUNCT w_EOF) w_PUNCT))])) _
          refine XS.iload X57.here hx rfl (hb hby at_205) rfl ?_
          refine XS.icmpNo X57.here hx rfl (hb hby at_207) rfl (teq (own_eq_1_0 w_IRI w_PNAME_NS w_PNAME_LN w_BLANK_NODE_LABEL w_VAR w_STRING w_LANGTAG w_INTEGER w_DECIMAL w_DOUBLE w_NIL w_ANON w_WORD w_PUNCT w_EOF rs r_t0 r_t1 r_m0 r_m1 hD : (res_is_1_0 (res8 sv w_IRI w_PNAME_NS w_PNAME_LN w_BLANK_NODE_LABEL w_VAR w_STRING w_LANGTAG w_INTEGER w_DECIMAL w_DOUBLE w_NIL w_ANON w_WORD w_PUNCT w_EOF) w_PUNCT) = (0 : Int32))).2 ?_
          show Steps p.tables e below (T57.setTop (mkF m 210 #[.val (.int p1), .val (.int p2), .val (.int p3), .val (.int p4), .val (.int sv), .val (.int (1 : Int32)), .val (.int (0 : Int32)), .val (.int t0), .val (.int t1), .val (.int (mg0_50_s0 p4)), .val (.int m0), .val (.int m1), .val (.ref b1_48), .val (.ref b1_49), .val (.ref b51), .val (.int (0 : Int32))] [])) _
          refine XS.iconst X57.here hx rfl (hb hby at_210) ?_
          refine XS.goto X57.here hx rfl (pc0 := 211) (pc' := 215) rfl (hb hby at_211) (by decide) (by decide) ?_
          show Steps p.tables e below (T57.setTop (mkF m 215 #[.val (.int p1), .val (.int p2), .val (.int p3), .val (.int p4), .val (.int sv), .val (.int (1 : Int32)), .val (.int (0 : Int32)), .val (.int t0), .val (.int t1), .val (.int (mg0_50_s0 p4)), .val (.int m0), .val (.int m1), .val (.ref b1_48), .val (.ref b1_49), .val (.ref b51), .val (.int (0 : Int32))] [(.int (1 : Int32))])) _
          exact retN X57 hx (t := .boolean) Bd.returns (by simp) (hb hby at_215) hr
        · show Q0 Z p1 p2 p3 p4 w_IRI w_PNAME_NS w_PNAME_LN w_BLANK_NODE_LABEL w_VAR w_STRING w_LANGTAG w_INTEGER w_DECIMAL w_DOUBLE w_NIL w_ANON w_WORD w_PUNCT w_EOF w_COMPACT_STRINGS h0 n0 _ T57.heap _
          rw [e57]
          exact ⟨rfl, N57⟩
      · by_cases hv58 : ((((p4.toUInt32 >>> ((2 : Int32) &&& 31).toUInt32).toInt32) &&& (3 : Int32)) % (3 : Int32)) = (1 : Int32)
        · rw [hv58] at pre10
          obtain ⟨_, _, ⟨T59, L59, k59, n59⟩, -, X59, ⟨Lc59, hQ59, l59, y59, z59⟩, st59⟩ := Jvm.LawKit.callS X0 hx (y := (⟨"com/example/cantrip/cantrip/TokenIsPinLaw", "str", "(ICC)Ljava/lang/String;"⟩ : MethodName)) hown (mvT hZ (hw _ (List.mem_of_getElem? (i := 1) rfl))) (mvT hZ (hw _ (List.mem_of_getElem? (i := 2) rfl))) (mvT hZ (hw _ (List.mem_of_getElem? (i := 3) rfl))) (mvT hZ (hw _ (List.mem_of_getElem? (i := 4) rfl))) (by decide) (backOf (W := 0) (rm_str_1 l Z a0 hw [] t0 t1 w_COMPACT_STRINGS h0 n0 (Nat.le_trans Z0 (Keep.refl h0 []).1) S_COMPACT_STRINGS (hCS : ¬ (w_COMPACT_STRINGS = (0 : Int32))) (own_nc r_t0 : ¬ ((255 : Int32) < (nar .char t0)))) hZ (hw _ (List.mem_of_getElem? (i := 4) rfl)) (hw _ (List.mem_of_getElem? (i := 3) rfl)) (by decide) (by decide)) (g := (mkF m 116 #[.val (.int p1), .val (.int p2), .val (.int p3), .val (.int p4), .val (.int sv), .val (.int (1 : Int32)), .val (.int (1 : Int32)), .val (.int t0), .val (.int t1), .val (.int (mg0_50_s0 p4)), .val (.int m0), .val (.int m1), .unset, .unset, .unset, .unset] [(.int t1), (.int t0), (.int (1 : Int32))])) rfl (by rw [hml]; rfl) (argsL := [(.int (1 : Int32)), (.int t0), (.int t1)]) (rest := []) (lenOf pd8 rfl) rfl (by show 2 * 0 + _ ≤ _; exact Nat.le_of_eq rfl) (hb hby at_116) (fun _ _ => ⟨rfl, e0, (by decide : 0 + 3 ≤ _), (by decide : 0 + 6 ≤ _)⟩)
          dsimp only [Pt.U, Pt.locs, Pt.cells, Pt.slots] at X59 l59 y59 z59 st59 hQ59
          subst l59 y59 z59
          obtain ⟨b1_59, b1_3_2_5_59, k1_3_2_5_59, rfl, N59q, K59, s59_b1, s59_b1_3_2_5, f59_0, f59_1, f59_2, f59_3⟩ := hQ59
          have N59 := Fr.app N0 N59q
          have sz_b1_59 : h0.size ≤ b1_59 := Nat.le_trans (Keep.refl h0 []).1 s59_b1
          have g_b1_59 : n0 ≤ b1_59 := Nat.le_trans Z0 sz_b1_59
          have sz_b1_3_2_5_59 : h0.size ≤ b1_3_2_5_59 := Nat.le_trans (Keep.refl h0 []).1 s59_b1_3_2_5
          have g_b1_3_2_5_59 : n0 ≤ b1_3_2_5_59 := Nat.le_trans Z0 sz_b1_3_2_5_59
          have KK59 : Keep h0 T59.heap [] := (Keep.refl h0 []).trans K59 all0
          have hk_59 := Nat.le_trans (Nat.zero_le _) K59.1
          have CR59 := CHr.trans CR0 (CHr.keep K59 all0 CR0.1)
          obtain ⟨_, _, ⟨T60, L60, k60, n60⟩, -, X60, ⟨Lc60, hQ60, l60, y60, z60⟩, st60⟩ := Jvm.LawKit.callS X59 hx (y := (⟨"com/example/cantrip/cantrip/TokenIsPinLaw", "str", "(ICC)Ljava/lang/String;"⟩ : MethodName)) hown (mvT hZ (hw _ (List.mem_of_getElem? (i := 1) rfl))) (mvT hZ (hw _ (List.mem_of_getElem? (i := 2) rfl))) (mvT hZ (hw _ (List.mem_of_getElem? (i := 3) rfl))) (mvT hZ (hw _ (List.mem_of_getElem? (i := 4) rfl))) (by decide) (backOf (W := 0) (rm_str_1 l Z a0 hw [] m0 m1 w_COMPACT_STRINGS T59.heap n0 (Nat.le_trans Z0 KK59.1) (own_sta_keep S_COMPACT_STRINGS K59 all0) (hCS : ¬ (w_COMPACT_STRINGS = (0 : Int32))) (own_nc r_m0 : ¬ ((255 : Int32) < (nar .char m0)))) hZ (hw _ (List.mem_of_getElem? (i := 4) rfl)) (hw _ (List.mem_of_getElem? (i := 3) rfl)) (by decide) (by decide)) (g := (mkF m 127 #[.val (.int p1), .val (.int p2), .val (.int p3), .val (.int p4), .val (.int sv), .val (.int (1 : Int32)), .val (.int (1 : Int32)), .val (.int t0), .val (.int t1), .val (.int (mg0_50_s0 p4)), .val (.int m0), .val (.int m1), .val (.ref b1_59), .unset, .unset, .unset] [(.int m1), (.int m0), (.int (1 : Int32))])) rfl (by rw [hml]; rfl) (argsL := [(.int (1 : Int32)), (.int m0), (.int m1)]) (rest := []) (lenOf pd8 rfl) rfl (by show 2 * 0 + _ ≤ _; exact Nat.le_of_eq rfl) (hb hby at_127) (fun _ _ => ⟨rfl, rfl, (by decide : 3 + 3 ≤ _), (by decide : 6 + 6 ≤ _)⟩)
          dsimp only [Pt.U, Pt.locs, Pt.cells, Pt.slots] at X60 l60 y60 z60 st60 hQ60
          subst l60 y60 z60
          obtain ⟨b1_60, b1_3_2_5_60, k1_3_2_5_60, rfl, N60q, K60, s60_b1, s60_b1_3_2_5, f60_0, f60_1, f60_2, f60_3⟩ := hQ60
          have N60 := Fr.app N59 N60q
          have sz_b1_60 : h0.size ≤ b1_60 := Nat.le_trans KK59.1 s60_b1
          have g_b1_60 : n0 ≤ b1_60 := Nat.le_trans Z0 sz_b1_60
          have sz_b1_3_2_5_60 : h0.size ≤ b1_3_2_5_60 := Nat.le_trans KK59.1 s60_b1_3_2_5
          have g_b1_3_2_5_60 : n0 ≤ b1_3_2_5_60 := Nat.le_trans Z0 sz_b1_3_2_5_60
          have KK60 : Keep h0 T60.heap [] := KK59.trans K60 all0
          have hk_60 := Nat.le_trans hk_59 K60.1
          have CR60 := CHr.trans CR59 (CHr.keep K60 all0 CR59.1)
          obtain ⟨T61, h61, X61, e61, E61, A61, D61, -, st61⟩ := newO X60 hx hZ hown (hw _ (List.mem_of_getElem? (i := 38) rfl)) (hw _ (List.mem_of_getElem? (i := 39) rfl)) (hw _ (List.mem_of_getElem? (i := 40) rfl)) rfl (g := (mkF m 132 #[.val (.int p1), .val (.int p2), .val (.int p3), .val (.int p4), .val (.int sv), .val (.int (1 : Int32)), .val (.int (1 : Int32)), .val (.int t0), .val (.int t1), .val (.int (mg0_50_s0 p4)), .val (.int m0), .val (.int m1), .val (.ref b1_59), .val (.ref b1_60), .unset, .unset] [])) rfl (hb hby at_132) (by decide) (by decide)
          obtain ⟨b61, g61⟩ : ∃ z, z = T60.heap.size := ⟨_, rfl⟩
          rw [← g61] at A61 D61 st61
          have sz_b61 : h0.size ≤ b61 := Nat.le_trans KK60.1 (Nat.le_of_eq g61.symm)
          have g_b61 : n0 ≤ b61 := Nat.le_trans Z0 sz_b61
          have K61 : Keep h0 h61 [] := KK60.ext E61
          have hk_61 := Nat.le_trans hk_60 E61.1
          have F_kind_b61 : Fld Z h61 b61 "com/example/cantrip/cantrip/Token" "kind" "Lcom/example/cantrip/cantrip/Token$Kind;" .null := D61 (Or.inr (hw _ (List.mem_of_getElem? (i := 57) rfl))) (ty := (.object "com/example/cantrip/cantrip/Token$Kind")) (by decide)
          have F_text_b61 : Fld Z h61 b61 "com/example/cantrip/cantrip/Token" "text" "Ljava/lang/String;" .null := D61 (Or.inr (hw _ (List.mem_of_getElem? (i := 59) rfl))) (ty := (.object "java/lang/String")) (by decide)
          have F_offset_b61 : Fld Z h61 b61 "com/example/cantrip/cantrip/Token" "offset" "I" (.int (0 : Int32)) := D61 (Or.inr (hw _ (List.mem_of_getElem? (i := 61) rfl))) (ty := .int) (by decide)
          obtain ⟨_, _, ⟨T62, L62, k62, n62⟩, -, X62, ⟨Lc62, hQ62, l62, y62, z62⟩, st62⟩ := Jvm.LawKit.callS X61 hx (y := (⟨"com/example/cantrip/cantrip/TokenIsPinLaw", "kindOf", "(I)Lcom/example/cantrip/cantrip/Token$Kind;"⟩ : MethodName)) hown (mvT hZ (hw _ (List.mem_of_getElem? (i := 41) rfl))) (mvT hZ (hw _ (List.mem_of_getElem? (i := 42) rfl))) (mvT hZ (hw _ (List.mem_of_getElem? (i := 3) rfl))) (mvT hZ (hw _ (List.mem_of_getElem? (i := 43) rfl))) (by decide) (backOf (W := 2) (rm8 l Z a0 hw [] sv w_IRI w_PNAME_NS w_PNAME_LN w_BLANK_NODE_LABEL w_VAR w_STRING w_LANGTAG w_INTEGER w_DECIMAL w_DOUBLE w_NIL w_ANON w_WORD w_PUNCT w_EOF h61 n0 (Nat.le_trans Z0 K61.1) ((own_sta_keep (own_sta_keep S_IRI K59 all0) K60 all0).ext E61) ((own_sta_keep (own_sta_keep S_PNAME_NS K59 all0) K60 all0).ext E61) ((own_sta_keep (own_sta_keep S_PNAME_LN K59 all0) K60 all0).ext E61) ((own_sta_keep (own_sta_keep S_BLANK_NODE_LABEL K59 all0) K60 all0).ext E61) ((own_sta_keep (own_sta_keep S_VAR K59 all0) K60 all0).ext E61) ((own_sta_keep (own_sta_keep S_STRING K59 all0) K60 all0).ext E61) ((own_sta_keep (own_sta_keep S_LANGTAG K59 all0) K60 all0).ext E61) ((own_sta_keep (own_sta_keep S_INTEGER K59 all0) K60 all0).ext E61) ((own_sta_keep (own_sta_keep S_DECIMAL K59 all0) K60 all0).ext E61) ((own_sta_keep (own_sta_keep S_DOUBLE K59 all0) K60 all0).ext E61) ((own_sta_keep (own_sta_keep S_NIL K59 all0) K60 all0).ext E61) ((own_sta_keep (own_sta_keep S_ANON K59 all0) K60 all0).ext E61) ((own_sta_keep (own_sta_keep S_WORD K59 all0) K60 all0).ext E61) ((own_sta_keep (own_sta_keep S_PUNCT K59 all0) K60 all0).ext E61) ((own_sta_keep (own_sta_keep S_EOF K59 all0) K60 all0).ext E61) ) hZ (hw _ (List.mem_of_getElem? (i := 43) rfl)) (hw _ (List.mem_of_getElem? (i := 3) rfl)) (by decide) (by decide)) (g := (mkF m 138 #[.val (.int p1), .val (.int p2), .val (.int p3), .val (.int p4), .val (.int sv), .val (.int (1 : Int32)), .val (.int (1 : Int32)), .val (.int t0), .val (.int t1), .val (.int (mg0_50_s0 p4)), .val (.int m0), .val (.int m1), .val (.ref b1_59), .val (.ref b1_60), .unset, .unset] [(.int sv), (.ref b61), (.ref b61)])) rfl (by rw [hml]; rfl) (argsL := [(.int sv)]) (rest := [(.ref b61), (.ref b61)]) (lenOf pd9 rfl) rfl (by show 2 * 0 + _ ≤ _; exact Nat.le_of_eq rfl) (hb hby at_138) (fun _ _ => ⟨rfl, e61, (by decide : 7 + 0 ≤ _), (by decide : 15 + 0 ≤ _)⟩)
          dsimp only [Pt.U, Pt.locs, Pt.cells, Pt.slots] at X62 l62 y62 z62 st62 hQ62
          subst l62 y62 z62
          obtain ⟨rfl, rfl, e62⟩ := hQ62
          have N62 := Fr.app N60 (Fr.nil n0)
          obtain ⟨_, _, ⟨T63, L63, k63, n63⟩, -, X63, ⟨Lc63, hQ63, l63, y63, z63⟩, st63⟩ := X62.specialBack hx (y := (⟨"com/example/cantrip/cantrip/Token", "<init>", "(Lcom/example/cantrip/cantrip/Token$Kind;Ljava/lang/String;I)V"⟩ : MethodName)) rfl hown (mvT hZ (hw _ (List.mem_of_getElem? (i := 47) rfl))) (mvT hZ (hw _ (List.mem_of_getElem? (i := 48) rfl))) (mvT hZ (hw _ (List.mem_of_getElem? (i := 49) rfl))) (by decide) (backOf (W := 1) (rm9 l Z a0 hw [] b61 (res8 sv w_IRI w_PNAME_NS w_PNAME_LN w_BLANK_NODE_LABEL w_VAR w_STRING w_LANGTAG w_INTEGER w_DECIMAL w_DOUBLE w_NIL w_ANON w_WORD w_PUNCT w_EOF) b1_59 (p3 ^^^ p1) .null .null (.int (0 : Int32)) h61 n0 (Nat.le_trans Z0 K61.1) A61 F_kind_b61 g_b61 F_text_b61 F_offset_b61 ) hZ (hw _ (List.mem_of_getElem? (i := 49) rfl)) (hw _ (List.mem_of_getElem? (i := 40) rfl)) (by decide) (by decide)) (g := (mkF m 146 #[.val (.int p1), .val (.int p2), .val (.int p3), .val (.int p4), .val (.int sv), .val (.int (1 : Int32)), .val (.int (1 : Int32)), .val (.int t0), .val (.int t1), .val (.int (mg0_50_s0 p4)), .val (.int m0), .val (.int m1), .val (.ref b1_59), .val (.ref b1_60), .unset, .unset] [(.int (p3 ^^^ p1)), (.ref b1_59), (.ref (res8 sv w_IRI w_PNAME_NS w_PNAME_LN w_BLANK_NODE_LABEL w_VAR w_STRING w_LANGTAG w_INTEGER w_DECIMAL w_DOUBLE w_NIL w_ANON w_WORD w_PUNCT w_EOF)), (.ref b61), (.ref b61)])) rfl (by rw [hml]; rfl) (Steps.refl _) (a := b61) (argsL := [(.ref (res8 sv w_IRI w_PNAME_NS w_PNAME_LN w_BLANK_NODE_LABEL w_VAR w_STRING w_LANGTAG w_INTEGER w_DECIMAL w_DOUBLE w_NIL w_ANON w_WORD w_PUNCT w_EOF)), (.ref b1_59), (.int (p3 ^^^ p1))]) (rest := [(.ref b61)]) (lenOf pd10 rfl) rfl (by show 2 * 0 + _ ≤ _; exact Nat.le_of_eq rfl) (hb hby at_146) (fun _ _ => ⟨rfl, e62, (by decide : 7 + 0 ≤ _), (by decide : 15 + 0 ≤ _)⟩)
          dsimp only [Pt.U, Pt.locs, Pt.cells, Pt.slots] at X63 l63 y63 z63 st63 hQ63
          subst l63 y63 z63
          obtain ⟨rfl, N63q, K63, f63_0, f63_1, f63_2, f63_3⟩ := hQ63
          have N63 := Fr.app N62 N63q
          have KK63 : Keep h0 T63.heap [] := K61.trans K63 (allS (Or.inr sz_b61) all0)
          have hk_63 := Nat.le_trans hk_61 K63.1
          have pre64 : ∀ t, Steps p.tables e below (T63.setTop (mkF m 155 #[.val (.int p1), .val (.int p2), .val (.int p3), .val (.int p4), .val (.int sv), .val (.int (1 : Int32)), .val (.int (1 : Int32)), .val (.int t0), .val (.int t1), .val (.int (mg0_50_s0 p4)), .val (.int m0), .val (.int m1), .val (.ref b1_59), .val (.ref b1_60), .val (.ref b61), .unset] [(.int (13 : Int32)), (.int sv)])) t → Steps p.tables e below (s₁.setTop (entryFrame m #[(.int p1), (.int p2), (.int p3), (.int p4)] maxLocals)) t := by
            intro t kt
            refine pre10 _ ?_
            show Steps p.tables e below (s₁.setTop (mkF m 110 #[.val (.int p1), .val (.int p2), .val (.int p3), .val (.int p4), .val (.int sv), .val (.int (1 : Int32)), .val (.int (1 : Int32)), .val (.int t0), .val (.int t1), .val (.int (mg0_50_s0 p4)), .val (.int m0), .val (.int m1), .unset, .unset, .unset, .unset] [])) _
            refine XS.iload X0.here hx rfl (hb hby at_110) rfl ?_
            show Steps p.tables e below (s₁.setTop (mkF m 112 #[.val (.int p1), .val (.int p2), .val (.int p3), .val (.int p4), .val (.int sv), .val (.int (1 : Int32)), .val (.int (1 : Int32)), .val (.int t0), .val (.int t1), .val (.int (mg0_50_s0 p4)), .val (.int m0), .val (.int m1), .unset, .unset, .unset, .unset] [(.int (1 : Int32))])) _
            refine XS.iload X0.here hx rfl (hb hby at_112) rfl ?_
            refine XS.iload X0.here hx rfl (hb hby at_114) rfl ?_
            show Steps p.tables e below (s₁.setTop (mkF m 116 #[.val (.int p1), .val (.int p2), .val (.int p3), .val (.int p4), .val (.int sv), .val (.int (1 : Int32)), .val (.int (1 : Int32)), .val (.int t0), .val (.int t1), .val (.int (mg0_50_s0 p4)), .val (.int m0), .val (.int m1), .unset, .unset, .unset, .unset] [(.int t1), (.int t0), (.int (1 : Int32))])) _
            refine st59 _ ?_
            show Steps p.tables e below (T59.setTop (mkF m 119 #[.val (.int p1), .val (.int p2), .val (.int p3), .val (.int p4), .val (.int sv), .val (.int (1 : Int32)), .val (.int (1 : Int32)), .val (.int t0), .val (.int t1), .val (.int (mg0_50_s0 p4)), .val (.int m0), .val (.int m1), .unset, .unset, .unset, .unset] [(.ref b1_59)])) _
            refine XS.astore X59.here hx rfl (hb hby at_119) rfl rfl (l' := #[.val (.int p1), .val (.int p2), .val (.int p3), .val (.int p4), .val (.int sv), .val (.int (1 : Int32)), .val (.int (1 : Int32)), .val (.int t0), .val (.int t1), .val (.int (mg0_50_s0 p4)), .val (.int m0), .val (.int m1), .val (.ref b1_59), .unset, .unset, .unset]) rfl ?_
            show Steps p.tables e below (T59.setTop (mkF m 121 #[.val (.int p1), .val (.int p2), .val (.int p3), .val (.int p4), .val (.int sv), .val (.int (1 : Int32)), .val (.int (1 : Int32)), .val (.int t0), .val (.int t1), .val (.int (mg0_50_s0 p4)), .val (.int m0), .val (.int m1), .val (.ref b1_59), .unset, .unset, .unset] [])) _
            refine XS.iload X59.here hx rfl (hb hby at_121) rfl ?_
            refine XS.iload X59.here hx rfl (hb hby at_123) rfl ?_
            refine XS.iload X59.here hx rfl (hb hby at_125) rfl ?_
            show Steps p.tables e below (T59.setTop (mkF m 127 #[.val (.int p1), .val (.int p2), .val (.int p3), .val (.int p4), .val (.int sv), .val (.int (1 : Int32)), .val (.int (1 : Int32)), .val (.int t0), .val (.int t1), .val (.int (mg0_50_s0 p4)), .val (.int m0), .val (.int m1), .val (.ref b1_59), .unset, .unset, .unset] [(.int m1), (.int m0), (.int (1 : Int32))])) _
            refine st60 _ ?_
            show Steps p.tables e below (T60.setTop (mkF m 130 #[.val (.int p1), .val (.int p2), .val (.int p3), .val (.int p4), .val (.int sv), .val (.int (1 : Int32)), .val (.int (1 : Int32)), .val (.int t0), .val (.int t1), .val (.int (mg0_50_s0 p4)), .val (.int m0), .val (.int m1), .val (.ref b1_59), .unset, .unset, .unset] [(.ref b1_60)])) _
            refine XS.astore X60.here hx rfl (hb hby at_130) rfl rfl (l' := #[.val (.int p1), .val (.int p2), .val (.int p3), .val (.int p4), .val (.int sv), .val (.int (1 : Int32)), .val (.int (1 : Int32)), .val (.int t0), .val (.int t1), .val (.int (mg0_50_s0 p4)), .val (.int m0), .val (.int m1), .val (.ref b1_59), .val (.ref b1_60), .unset, .unset]) rfl ?_
            show Steps p.tables e below (T60.setTop (mkF m 132 #[.val (.int p1), .val (.int p2), .val (.int p3), .val (.int p4), .val (.int sv), .val (.int (1 : Int32)), .val (.int (1 : Int32)), .val (.int t0), .val (.int t1), .val (.int (mg0_50_s0 p4)), .val (.int m0), .val (.int m1), .val (.ref b1_59), .val (.ref b1_60), .unset, .unset] [])) _
            refine st61 _ ?_
            show Steps p.tables e below (T61.setTop (mkF m 135 #[.val (.int p1), .val (.int p2), .val (.int p3), .val (.int p4), .val (.int sv), .val (.int (1 : Int32)), .val (.int (1 : Int32)), .val (.int t0), .val (.int t1), .val (.int (mg0_50_s0 p4)), .val (.int m0), .val (.int m1), .val (.ref b1_59), .val (.ref b1_60), .unset, .unset] [(.ref b61)])) _
            refine XS.dup X61.here hx rfl (hb hby at_135) rfl rfl ?_
            refine XS.iload X61.here hx rfl (hb hby at_136) rfl ?_
            show Steps p.tables e below (T61.setTop (mkF m 138 #[.val (.int p1), .val (.int p2), .val (.int p3), .val (.int p4), .val (.int sv), .val (.int (1 : Int32)), .val (.int (1 : Int32)), .val (.int t0), .val (.int t1), .val (.int (mg0_50_s0 p4)), .val (.int m0), .val (.int m1), .val (.ref b1_59), .val (.ref b1_60), .unset, .unset] [(.int sv), (.ref b61), (.ref b61)])) _
            refine st62 _ ?_
            show Steps p.tables e below (T62.setTop (mkF m 141 #[.val (.int p1), .val (.int p2), .val (.int p3), .val (.int p4), .val (.int sv), .val (.int (1 : Int32)), .val (.int (1 : Int32)), .val (.int t0), .val (.int t1), .val (.int (mg0_50_s0 p4)), .val (.int m0), .val (.int m1), .val (.ref b1_59), .val (.ref b1_60), .unset, .unset] [(.ref (res8 sv w_IRI w_PNAME_NS w_PNAME_LN w_BLANK_NODE_LABEL w_VAR w_STRING w_LANGTAG w_INTEGER w_DECIMAL w_DOUBLE w_NIL w_ANON w_WORD w_PUNCT w_EOF)), (.ref b61), (.ref b61)])) _
            refine XS.aload X62.here hx rfl (hb hby at_141) rfl rfl ?_
            refine XS.iloadN X62.here hx rfl (hb hby at_143) rfl ?_
            refine XS.iloadN X62.here hx rfl (hb hby at_144) rfl ?_
            show Steps p.tables e below (T62.setTop (mkF m 145 #[.val (.int p1), .val (.int p2), .val (.int p3), .val (.int p4), .val (.int sv), .val (.int (1 : Int32)), .val (.int (1 : Int32)), .val (.int t0), .val (.int t1), .val (.int (mg0_50_s0 p4)), .val (.int m0), .val (.int m1), .val (.ref b1_59), .val (.ref b1_60), .unset, .unset] [(.int p1), (.int p3), (.ref b1_59), (.ref (res8 sv w_IRI w_PNAME_NS w_PNAME_LN w_BLANK_NODE_LABEL w_VAR w_STRING w_LANGTAG w_INTEGER w_DECIMAL w_DOUBLE w_NIL w_ANON w_WORD w_PUNCT w_EOF)), (.ref b61), (.ref b61)])) _
            refine XS.ixor X62.here hx rfl (hb hby at_145) rfl ?_
            show Steps p.tables e below (T62.setTop (mkF m 146 #[.val (.int p1), .val (.int p2), .val (.int p3), .val (.int p4), .val (.int sv), .val (.int (1 : Int32)), .val (.int (1 : Int32)), .val (.int t0), .val (.int t1), .val (.int (mg0_50_s0 p4)), .val (.int m0), .val (.int m1), .val (.ref b1_59), .val (.ref b1_60), .unset, .unset] [(.int (p3 ^^^ p1)), (.ref b1_59), (.ref (res8 sv w_IRI w_PNAME_NS w_PNAME_LN w_BLANK_NODE_LABEL w_VAR w_STRING w_LANGTAG w_INTEGER w_DECIMAL w_DOUBLE w_NIL w_ANON w_WORD w_PUNCT w_EOF)), (.ref b61), (.ref b61)])) _
            refine st63.trans ?_
            show Steps p.tables e below (T63.setTop (mkF m 149 #[.val (.int p1), .val (.int p2), .val (.int p3), .val (.int p4), .val (.int sv), .val (.int (1 : Int32)), .val (.int (1 : Int32)), .val (.int t0), .val (.int t1), .val (.int (mg0_50_s0 p4)), .val (.int m0), .val (.int m1), .val (.ref b1_59), .val (.ref b1_60), .unset, .unset] [(.ref b61)])) _
            refine XS.astore X63.here hx rfl (hb hby at_149) rfl rfl (l' := #[.val (.int p1), .val (.int p2), .val (.int p3), .val (.int p4), .val (.int sv), .val (.int (1 : Int32)), .val (.int (1 : Int32)), .val (.int t0), .val (.int t1), .val (.int (mg0_50_s0 p4)), .val (.int m0), .val (.int m1), .val (.ref b1_59), .val (.ref b1_60), .val (.ref b61), .unset]) rfl ?_
            refine XS.iload X63.here hx rfl (hb hby at_151) rfl ?_
            show Steps p.tables e below (T63.setTop (mkF m 153 #[.val (.int p1), .val (.int p2), .val (.int p3), .val (.int p4), .val (.int sv), .val (.int (1 : Int32)), .val (.int (1 : Int32)), .val (.int t0), .val (.int t1), .val (.int (mg0_50_s0 p4)), .val (.int m0), .val (.int m1), .val (.ref b1_59), .val (.ref b1_60), .val (.ref b61), .unset] [(.int sv)])) _
            refine XS.bipush X63.here hx rfl (hb hby at_153) ?_
            exact kt
          have pre68 : ∀ t, Steps p.tables e below (T63.setTop (mkF m 196 #[.val (.int p1), .val (.int p2), .val (.int p3), .val (.int p4), .val (.int sv), .val (.int (1 : Int32)), .val (.int (1 : Int32)), .val (.int t0), .val (.int t1), .val (.int (mg0_50_s0 p4)), .val (.int m0), .val (.int m1), .val (.ref b1_59), .val (.ref b1_60), .val (.ref b61), .unset] [(.int (mg0_155_s0' sv m0 t0))])) t → Steps p.tables e below (s₁.setTop (entryFrame m #[(.int p1), (.int p2), (.int p3), (.int p4)] maxLocals)) t := by
            intro t kt
            by_cases hc155_65 : sv = (13 : Int32)
            · have pre66 : ∀ t, Steps p.tables e below (T63.setTop (mkF m 175 #[.val (.int p1), .val (.int p2), .val (.int p3), .val (.int p4), .val (.int sv), .val (.int (1 : Int32)), .val (.int (1 : Int32)), .val (.int t0), .val (.int t1), .val (.int (mg0_50_s0 p4)), .val (.int m0), .val (.int m1), .val (.ref b1_59), .val (.ref b1_60), .val (.ref b61), .unset] [(.int m0), (.int t0)])) t → Steps p.tables e below (s₁.setTop (entryFrame m #[(.int p1), (.int p2), (.int p3), (.int p4)] maxLocals)) t := by
                intro t kt
                refine pre64 _ ?_
                show Steps p.tables e below (T63.setTop (mkF m 155 #[.val (.int p1), .val (.int p2), .val (.int p3), .val (.int p4), .val (.int sv), .val (.int (1 : Int32)), .val (.int (1 : Int32)), .val (.int t0), .val (.int t1), .val (.int (mg0_50_s0 p4)), .val (.int m0), .val (.int m1), .val (.ref b1_59), .val (.ref b1_60), .val (.ref b61), .unset] [(.int (13 : Int32)), (.int sv)])) _
                refine XS.icmpNo X63.here hx rfl (hb hby at_155) rfl (teq hc155_65).2 ?_
                refine XS.iload X63.here hx rfl (hb hby at_158) rfl ?_
                show Steps p.tables e below (T63.setTop (mkF m 160 #[.val (.int p1), .val (.int p2), .val (.int p3), .val (.int p4), .val (.int sv), .val (.int (1 : Int32)), .val (.int (1 : Int32)), .val (.int t0), .val (.int t1), .val (.int (mg0_50_s0 p4)), .val (.int m0), .val (.int m1), .val (.ref b1_59), .val (.ref b1_60), .val (.ref b61), .unset] [(.int (1 : Int32))])) _
                refine XS.iload X63.here hx rfl (hb hby at_160) rfl ?_
                refine XS.icmpNo X63.here hx rfl (hb hby at_162) rfl (teq (by decide : (1 : Int32) = (1 : Int32))).2 ?_
                refine XS.iload X63.here hx rfl (hb hby at_165) rfl ?_
                show Steps p.tables e below (T63.setTop (mkF m 167 #[.val (.int p1), .val (.int p2), .val (.int p3), .val (.int p4), .val (.int sv), .val (.int (1 : Int32)), .val (.int (1 : Int32)), .val (.int t0), .val (.int t1), .val (.int (mg0_50_s0 p4)), .val (.int m0), .val (.int m1), .val (.ref b1_59), .val (.ref b1_60), .val (.ref b61), .unset] [(.int (1 : Int32))])) _
                refine XS.iconst X63.here hx rfl (hb hby at_167) ?_
                refine XS.icmpNo X63.here hx rfl (hb hby at_168) rfl (flt (by decide : ¬ ((1 : Int32) < (1 : Int32)))).1 ?_
                refine XS.iload X63.here hx rfl (hb hby at_171) rfl ?_
                show Steps p.tables e below (T63.setTop (mkF m 173 #[.val (.int p1), .val (.int p2), .val (.int p3), .val (.int p4), .val (.int sv), .val (.int (1 : Int32)), .val (.int (1 : Int32)), .val (.int t0), .val (.int t1), .val (.int (mg0_50_s0 p4)), .val (.int m0), .val (.int m1), .val (.ref b1_59), .val (.ref b1_60), .val (.ref b61), .unset] [(.int t0)])) _
                refine XS.iload X63.here hx rfl (hb hby at_173) rfl ?_
                exact kt
              by_cases hc175_67 : t0 = m0
              · rw [show (mg0_155_s0' sv m0 t0) = (1 : Int32) from by rw [mg0_155_s0', if_pos hc155_65, if_pos hc175_67]] at kt
                refine pre66 _ ?_
                show Steps p.tables e below (T63.setTop (mkF m 175 #[.val (.int p1), .val (.int p2), .val (.int p3), .val (.int p4), .val (.int sv), .val (.int (1 : Int32)), .val (.int (1 : Int32)), .val (.int t0), .val (.int t1), .val (.int (mg0_50_s0 p4)), .val (.int m0), .val (.int m1), .val (.ref b1_59), .val (.ref b1_60), .val (.ref b61), .unset] [(.int m0), (.int t0)])) _
                refine XS.icmpNo X63.here hx rfl (hb hby at_175) rfl (teq hc175_67).2 ?_
                refine XS.iload X63.here hx rfl (hb hby at_178) rfl ?_
                show Steps p.tables e below (T63.setTop (mkF m 180 #[.val (.int p1), .val (.int p2), .val (.int p3), .val (.int p4), .val (.int sv), .val (.int (1 : Int32)), .val (.int (1 : Int32)), .val (.int t0), .val (.int t1), .val (.int (mg0_50_s0 p4)), .val (.int m0), .val (.int m1), .val (.ref b1_59), .val (.ref b1_60), .val (.ref b61), .unset] [(.int (1 : Int32))])) _
                refine XS.iconst X63.here hx rfl (hb hby at_180) ?_
                refine XS.icmpYes X63.here hx rfl (pc0 := 181) (pc' := 191) rfl (hb hby at_181) rfl (tlt (by decide : (1 : Int32) < (2 : Int32))).1 (by decide) (by decide) ?_
                refine XS.iconst X63.here hx rfl (hb hby at_191) ?_
                show Steps p.tables e below (T63.setTop (mkF m 192 #[.val (.int p1), .val (.int p2), .val (.int p3), .val (.int p4), .val (.int sv), .val (.int (1 : Int32)), .val (.int (1 : Int32)), .val (.int t0), .val (.int t1), .val (.int (mg0_50_s0 p4)), .val (.int m0), .val (.int m1), .val (.ref b1_59), .val (.ref b1_60), .val (.ref b61), .unset] [(.int (1 : Int32))])) _
                refine XS.goto X63.here hx rfl (pc0 := 192) (pc' := 196) rfl (hb hby at_192) (by decide) (by decide) ?_
                exact kt
              · rw [show (mg0_155_s0' sv m0 t0) = (0 : Int32) from by rw [mg0_155_s0', if_pos hc155_65, if_neg hc175_67]] at kt
                refine pre66 _ ?_
                show Steps p.tables e below (T63.setTop (mkF m 175 #[.val (.int p1), .val (.int p2), .val (.int p3), .val (.int p4), .val (.int sv), .val (.int (1 : Int32)), .val (.int (1 : Int32)), .val (.int t0), .val (.int t1), .val (.int (mg0_50_s0 p4)), .val (.int m0), .val (.int m1), .val (.ref b1_59), .val (.ref b1_60), .val (.ref b61), .unset] [(.int m0), (.int t0)])) _
                refine XS.icmpYes X63.here hx rfl (pc0 := 175) (pc' := 195) rfl (hb hby at_175) rfl (feq hc175_67).2 (by decide) (by decide) ?_
                refine XS.iconst X63.here hx rfl (hb hby at_195) ?_
                exact kt
            · rw [show (mg0_155_s0' sv m0 t0) = (0 : Int32) from by rw [mg0_155_s0', if_neg hc155_65]] at kt
              refine pre64 _ ?_
              show Steps p.tables e below (T63.setTop (mkF m 155 #[.val (.int p1), .val (.int p2), .val (.int p3), .val (.int p4), .val (.int sv), .val (.int (1 : Int32)), .val (.int (1 : Int32)), .val (.int t0), .val (.int t1), .val (.int (mg0_50_s0 p4)), .val (.int m0), .val (.int m1), .val (.ref b1_59), .val (.ref b1_60), .val (.ref b61), .unset] [(.int (13 : Int32)), (.int sv)])) _
              refine XS.icmpYes X63.here hx rfl (pc0 := 155) (pc' := 195) rfl (hb hby at_155) rfl (feq hc155_65).2 (by decide) (by decide) ?_
              refine XS.iconst X63.here hx rfl (hb hby at_195) ?_
              exact kt
          obtain ⟨cq69, kq69, q69a, q69b, q69c⟩ := isOf hZ rfl (A61.keep K63)
          obtain ⟨_, _, ⟨T69, L69, k69, n69⟩, -, X69, ⟨Lc69, hQ69, l69, y69, z69⟩, st69⟩ := X63.virtualBack hx (y := (⟨"com/example/cantrip/cantrip/Token", "is", "(Ljava/lang/String;)Z"⟩ : MethodName)) (z := (⟨"com/example/cantrip/cantrip/Token", "is", "(Ljava/lang/String;)Z"⟩ : MethodName)) hown (mvT hZ (hw _ (List.mem_of_getElem? (i := 62) rfl))) (mvT hZ (hw _ (List.mem_of_getElem? (i := 63) rfl))) (notFace_of_selects (args := #[]) (mvT hZ (hw _ (List.mem_of_getElem? (i := 65) rfl)))) (mvT hZ (hw _ (List.mem_of_getElem? (i := 65) rfl))) (mvT hZ (hw _ (List.mem_of_getElem? (i := 64) rfl))) (by decide) (backOf (W := 0) (rm_is_1_1 l Z a0 hw [] b61 b1_60 b1_3_2_5_60 k1_3_2_5_60 (nar .byte ((nar .char m0).toInt8.toInt32)) b1_59 b1_3_2_5_59 k1_3_2_5_59 (nar .byte ((nar .char t0).toInt8.toInt32)) (res8 sv w_IRI w_PNAME_NS w_PNAME_LN w_BLANK_NODE_LABEL w_VAR w_STRING w_LANGTAG w_INTEGER w_DECIMAL w_DOUBLE w_NIL w_ANON w_WORD w_PUNCT w_EOF) w_PUNCT w_COMPACT_STRINGS T63.heap n0 (Nat.le_trans Z0 KK63.1) ((f60_0.ext E61).keep K63) ((f60_1.ext E61).keep K63 (ninS (Nat.ne_of_lt (Nat.lt_of_lt_of_le f60_0.lt (Nat.le_of_eq g61.symm))) nin0)) ((f60_2.ext E61).keep K63 (ninS (Nat.ne_of_lt (Nat.lt_of_lt_of_le f60_0.lt (Nat.le_of_eq g61.symm))) nin0)) ((f60_3.ext E61).keep K63 (ninS (Nat.ne_of_lt (Nat.lt_of_lt_of_le f60_3.lt (Nat.le_of_eq g61.symm))) nin0)) f63_2 (((f59_0.keep K60).ext E61).keep K63) (((f59_1.keep K60 nin0).ext E61).keep K63 (ninS (Nat.ne_of_lt (Nat.lt_of_lt_of_le (f59_0.keep K60).lt (Nat.le_of_eq g61.symm))) nin0)) (((f59_2.keep K60 nin0).ext E61).keep K63 (ninS (Nat.ne_of_lt (Nat.lt_of_lt_of_le (f59_0.keep K60).lt (Nat.le_of_eq g61.symm))) nin0)) (((f59_3.keep K60 nin0).ext E61).keep K63 (ninS (Nat.ne_of_lt (Nat.lt_of_lt_of_le (f59_3.keep K60 nin0).lt (Nat.le_of_eq g61.symm))) nin0)) f63_1 (own_sta_keep ((own_sta_keep (own_sta_keep S_PUNCT K59 all0) K60 all0).ext E61) K63 (allS (own_exa_ns A61) all0)) (own_sta_keep ((own_sta_keep (own_sta_keep S_COMPACT_STRINGS K59 all0) K60 all0).ext E61) K63 (allS (own_exa_ns A61) all0)) ((Nat.ne_of_lt (Nat.lt_of_lt_of_le f59_0.lt s60_b1)) : b1_59 ≠ b1_60) (hCS : ¬ (w_COMPACT_STRINGS = (0 : Int32)))) hZ (hw _ (List.mem_of_getElem? (i := 66) rfl)) (hw _ (List.mem_of_getElem? (i := 40) rfl)) (by decide) (by decide)) q69a q69c (g := (mkF m 202 #[.val (.int p1), .val (.int p2), .val (.int p3), .val (.int p4), .val (.int sv), .val (.int (1 : Int32)), .val (.int (1 : Int32)), .val (.int t0), .val (.int t1), .val (.int (mg0_50_s0 p4)), .val (.int m0), .val (.int m1), .val (.ref b1_59), .val (.ref b1_60), .val (.ref b61), .val (.int (mg0_155_s0' sv m0 t0))] [(.ref b1_60), (.ref b61)])) rfl (by rw [hml]; rfl) (Steps.refl _) (argsL := [(.ref b1_60)]) (rest := []) (lenOf pd11 rfl) rfl (by show 2 * 0 + _ ≤ _; exact Nat.le_of_eq rfl) (hb hby at_202) (fun _ _ => ⟨rfl, rfl, (by decide : 7 + 0 ≤ _), (by decide : 15 + 0 ≤ _)⟩)
          dsimp only [Pt.U, Pt.locs, Pt.cells, Pt.slots] at X69 l69 y69 z69 st69 hQ69
          subst l69 y69 z69
          obtain ⟨rfl, rfl, e69⟩ := hQ69
          have N69 := Fr.app N63 (Fr.nil n0)
          obtain ⟨fs, hr, hrun, hended, hRW⟩ := X69.leaveW hS0 (Nat.le_trans hk_63 (Nat.le_of_eq (congrArg Array.size e69.symm))) (v := some (.int (1 : Int32))) (fun h => by rw [Bd.returns] at h; cases h)
          refine ⟨_, _, pre68 _ ?_, hrun, hended, _, _, rfl, ?_, hRW.1, hRW.2.1, hRW.2.2.1, hRW.2.2.2.mono (by decide) (by decide)⟩
          · show Steps p.tables e below (T63.setTop (mkF m 196 #[.val (.int p1), .val (.int p2), .val (.int p3), .val (.int p4), .val (.int sv), .val (.int (1 : Int32)), .val (.int (1 : Int32)), .val (.int t0), .val (.int t1), .val (.int (mg0_50_s0 p4)), .val (.int m0), .val (.int m1), .val (.ref b1_59), .val (.ref b1_60), .val (.ref b61), .unset] [(.int (mg0_155_s0' sv m0 t0))])) _
            refine XS.istore X63.here hx rfl (hb hby at_196) rfl (l' := #[.val (.int p1), .val (.int p2), .val (.int p3), .val (.int p4), .val (.int sv), .val (.int (1 : Int32)), .val (.int (1 : Int32)), .val (.int t0), .val (.int t1), .val (.int (mg0_50_s0 p4)), .val (.int m0), .val (.int m1), .val (.ref b1_59), .val (.ref b1_60), .val (.ref b61), .val (.int (mg0_155_s0' sv m0 t0))]) rfl ?_
            refine XS.aload X63.here hx rfl (hb hby at_198) rfl rfl ?_
            show Steps p.tables e below (T63.setTop (mkF m 200 #[.val (.int p1), .val (.int p2), .val (.int p3), .val (.int p4), .val (.int sv), .val (.int (1 : Int32)), .val (.int (1 : Int32)), .val (.int t0), .val (.int t1), .val (.int (mg0_50_s0 p4)), .val (.int m0), .val (.int m1), .val (.ref b1_59), .val (.ref b1_60), .val (.ref b61), .val (.int (mg0_155_s0' sv m0 t0))] [(.ref b61)])) _
            refine XS.aload X63.here hx rfl (hb hby at_200) rfl rfl ?_
            show Steps p.tables e below (T63.setTop (mkF m 202 #[.val (.int p1), .val (.int p2), .val (.int p3), .val (.int p4), .val (.int sv), .val (.int (1 : Int32)), .val (.int (1 : Int32)), .val (.int t0), .val (.int t1), .val (.int (mg0_50_s0 p4)), .val (.int m0), .val (.int m1), .val (.ref b1_59), .val (.ref b1_60), .val (.ref b61), .val (.int (mg0_155_s0' sv m0 t0))] [(.ref b1_60), (.ref b61)])) _
            refine st69.trans ?_
            show Steps p.tables e below (T69.setTop (mkF m 205 #[.val (.int p1), .val (.int p2), .val (.int p3), .val (.int p4), .val (.int sv), .val (.int (1 : Int32)), .val (.int (1 : Int32)), .val (.int t0), .val (.int t1), .val (.int (mg0_50_s0 p4)), .val (.int m0), .val (.int m1), .val (.ref b1_59), .val (.ref b1_60), .val (.ref b61), .val (.int (mg0_155_s0' sv m0 t0))] [(.int (res_is_1_1 (nar .byte ((nar .char m0).toInt8.toInt32)) (nar .byte ((nar .char t0).toInt8.toInt32)) (res8 sv w_IRI w_PNAME_NS w_PNAME_LN w_BLANK_NODE_LABEL w_VAR w_STRING w_LANGTAG w_INTEGER w_DECIMAL w_DOUBLE w_NIL w_ANON w_WORD w_PUNCT w_EOF) w_PUNCT))])) _
            refine XS.iload X69.here hx rfl (hb hby at_205) rfl ?_
            refine XS.icmpNo X69.here hx rfl (hb hby at_207) rfl (teq (own_eq_1_1 w_IRI w_PNAME_NS w_PNAME_LN w_BLANK_NODE_LABEL w_VAR w_STRING w_LANGTAG w_INTEGER w_DECIMAL w_DOUBLE w_NIL w_ANON w_WORD w_PUNCT w_EOF rs r_t0 r_t1 r_m0 r_m1 hD : (res_is_1_1 (nar .byte ((nar .char m0).toInt8.toInt32)) (nar .byte ((nar .char t0).toInt8.toInt32)) (res8 sv w_IRI w_PNAME_NS w_PNAME_LN w_BLANK_NODE_LABEL w_VAR w_STRING w_LANGTAG w_INTEGER w_DECIMAL w_DOUBLE w_NIL w_ANON w_WORD w_PUNCT w_EOF) w_PUNCT) = (mg0_155_s0' sv m0 t0))).2 ?_
            show Steps p.tables e below (T69.setTop (mkF m 210 #[.val (.int p1), .val (.int p2), .val (.int p3), .val (.int p4), .val (.int sv), .val (.int (1 : Int32)), .val (.int (1 : Int32)), .val (.int t0), .val (.int t1), .val (.int (mg0_50_s0 p4)), .val (.int m0), .val (.int m1), .val (.ref b1_59), .val (.ref b1_60), .val (.ref b61), .val (.int (mg0_155_s0' sv m0 t0))] [])) _
            refine XS.iconst X69.here hx rfl (hb hby at_210) ?_
            refine XS.goto X69.here hx rfl (pc0 := 211) (pc' := 215) rfl (hb hby at_211) (by decide) (by decide) ?_
            show Steps p.tables e below (T69.setTop (mkF m 215 #[.val (.int p1), .val (.int p2), .val (.int p3), .val (.int p4), .val (.int sv), .val (.int (1 : Int32)), .val (.int (1 : Int32)), .val (.int t0), .val (.int t1), .val (.int (mg0_50_s0 p4)), .val (.int m0), .val (.int m1), .val (.ref b1_59), .val (.ref b1_60), .val (.ref b61), .val (.int (mg0_155_s0' sv m0 t0))] [(.int (1 : Int32))])) _
            exact retN X69 hx (t := .boolean) Bd.returns (by simp) (hb hby at_215) hr
          · show Q0 Z p1 p2 p3 p4 w_IRI w_PNAME_NS w_PNAME_LN w_BLANK_NODE_LABEL w_VAR w_STRING w_LANGTAG w_INTEGER w_DECIMAL w_DOUBLE w_NIL w_ANON w_WORD w_PUNCT w_EOF w_COMPACT_STRINGS h0 n0 _ T69.heap _
            rw [e69]
            exact ⟨rfl, N69⟩
        · by_cases hv70 : ((((p4.toUInt32 >>> ((2 : Int32) &&& 31).toUInt32).toInt32) &&& (3 : Int32)) % (3 : Int32)) = (2 : Int32)
          · rw [hv70] at pre10
            obtain ⟨_, _, ⟨T71, L71, k71, n71⟩, -, X71, ⟨Lc71, hQ71, l71, y71, z71⟩, st71⟩ := Jvm.LawKit.callS X0 hx (y := (⟨"com/example/cantrip/cantrip/TokenIsPinLaw", "str", "(ICC)Ljava/lang/String;"⟩ : MethodName)) hown (mvT hZ (hw _ (List.mem_of_getElem? (i := 1) rfl))) (mvT hZ (hw _ (List.mem_of_getElem? (i := 2) rfl))) (mvT hZ (hw _ (List.mem_of_getElem? (i := 3) rfl))) (mvT hZ (hw _ (List.mem_of_getElem? (i := 4) rfl))) (by decide) (backOf (W := 0) (rm_str_1 l Z a0 hw [] t0 t1 w_COMPACT_STRINGS h0 n0 (Nat.le_trans Z0 (Keep.refl h0 []).1) S_COMPACT_STRINGS (hCS : ¬ (w_COMPACT_STRINGS = (0 : Int32))) (own_nc r_t0 : ¬ ((255 : Int32) < (nar .char t0)))) hZ (hw _ (List.mem_of_getElem? (i := 4) rfl)) (hw _ (List.mem_of_getElem? (i := 3) rfl)) (by decide) (by decide)) (g := (mkF m 116 #[.val (.int p1), .val (.int p2), .val (.int p3), .val (.int p4), .val (.int sv), .val (.int (1 : Int32)), .val (.int (2 : Int32)), .val (.int t0), .val (.int t1), .val (.int (mg0_50_s0 p4)), .val (.int m0), .val (.int m1), .unset, .unset, .unset, .unset] [(.int t1), (.int t0), (.int (1 : Int32))])) rfl (by rw [hml]; rfl) (argsL := [(.int (1 : Int32)), (.int t0), (.int t1)]) (rest := []) (lenOf pd8 rfl) rfl (by show 2 * 0 + _ ≤ _; exact Nat.le_of_eq rfl) (hb hby at_116) (fun _ _ => ⟨rfl, e0, (by decide : 0 + 3 ≤ _), (by decide : 0 + 6 ≤ _)⟩)
            dsimp only [Pt.U, Pt.locs, Pt.cells, Pt.slots] at X71 l71 y71 z71 st71 hQ71
            subst l71 y71 z71
            obtain ⟨b1_71, b1_3_2_5_71, k1_3_2_5_71, rfl, N71q, K71, s71_b1, s71_b1_3_2_5, f71_0, f71_1, f71_2, f71_3⟩ := hQ71
            have N71 := Fr.app N0 N71q
            have sz_b1_71 : h0.size ≤ b1_71 := Nat.le_trans (Keep.refl h0 []).1 s71_b1
            have g_b1_71 : n0 ≤ b1_71 := Nat.le_trans Z0 sz_b1_71
            have sz_b1_3_2_5_71 : h0.size ≤ b1_3_2_5_71 := Nat.le_trans (Keep.refl h0 []).1 s71_b1_3_2_5
            have g_b1_3_2_5_71 : n0 ≤ b1_3_2_5_71 := Nat.le_trans Z0 sz_b1_3_2_5_71
            have KK71 : Keep h0 T71.heap [] := (Keep.refl h0 []).trans K71 all0
            have hk_71 := Nat.le_trans (Nat.zero_le _) K71.1
            have CR71 := CHr.trans CR0 (CHr.keep K71 all0 CR0.1)
            obtain ⟨_, _, ⟨T72, L72, k72, n72⟩, -, X72, ⟨Lc72, hQ72, l72, y72, z72⟩, st72⟩ := Jvm.LawKit.callS X71 hx (y := (⟨"com/example/cantrip/cantrip/TokenIsPinLaw", "str", "(ICC)Ljava/lang/String;"⟩ : MethodName)) hown (mvT hZ (hw _ (List.mem_of_getElem? (i := 1) rfl))) (mvT hZ (hw _ (List.mem_of_getElem? (i := 2) rfl))) (mvT hZ (hw _ (List.mem_of_getElem? (i := 3) rfl))) (mvT hZ (hw _ (List.mem_of_getElem? (i := 4) rfl))) (by decide) (backOf (W := 0) (rm_str_2 l Z a0 hw [] m0 m1 w_COMPACT_STRINGS T71.heap n0 (Nat.le_trans Z0 KK71.1) (own_sta_keep S_COMPACT_STRINGS K71 all0) (hCS : ¬ (w_COMPACT_STRINGS = (0 : Int32))) (own_nc r_m0 : ¬ ((255 : Int32) < (nar .char m0))) (own_nc r_m1 : ¬ ((255 : Int32) < (nar .char m1)))) hZ (hw _ (List.mem_of_getElem? (i := 4) rfl)) (hw _ (List.mem_of_getElem? (i := 3) rfl)) (by decide) (by decide)) (g := (mkF m 127 #[.val (.int p1), .val (.int p2), .val (.int p3), .val (.int p4), .val (.int sv), .val (.int (1 : Int32)), .val (.int (2 : Int32)), .val (.int t0), .val (.int t1), .val (.int (mg0_50_s0 p4)), .val (.int m0), .val (.int m1), .val (.ref b1_71), .unset, .unset, .unset] [(.int m1), (.int m0), (.int (2 : Int32))])) rfl (by rw [hml]; rfl) (argsL := [(.int (2 : Int32)), (.int m0), (.int m1)]) (rest := []) (lenOf pd8 rfl) rfl (by show 2 * 0 + _ ≤ _; exact Nat.le_of_eq rfl) (hb hby at_127) (fun _ _ => ⟨rfl, rfl, (by decide : 3 + 3 ≤ _), (by decide : 6 + 8 ≤ _)⟩)
            dsimp only [Pt.U, Pt.locs, Pt.cells, Pt.slots] at X72 l72 y72 z72 st72 hQ72
            subst l72 y72 z72
            obtain ⟨b1_72, b1_3_2_7_72, k1_3_2_7_72, rfl, N72q, K72, s72_b1, s72_b1_3_2_7, f72_0, f72_1, f72_2, f72_3⟩ := hQ72
            have N72 := Fr.app N71 N72q
            have sz_b1_72 : h0.size ≤ b1_72 := Nat.le_trans KK71.1 s72_b1
            have g_b1_72 : n0 ≤ b1_72 := Nat.le_trans Z0 sz_b1_72
            have sz_b1_3_2_7_72 : h0.size ≤ b1_3_2_7_72 := Nat.le_trans KK71.1 s72_b1_3_2_7
            have g_b1_3_2_7_72 : n0 ≤ b1_3_2_7_72 := Nat.le_trans Z0 sz_b1_3_2_7_72
            have KK72 : Keep h0 T72.heap [] := KK71.trans K72 all0
            have hk_72 := Nat.le_trans hk_71 K72.1
            have CR72 := CHr.trans CR71 (CHr.keep K72 all0 CR71.1)
            obtain ⟨T73, h73, X73, e73, E73, A73, D73, -, st73⟩ := newO X72 hx hZ hown (hw _ (List.mem_of_getElem? (i := 38) rfl)) (hw _ (List.mem_of_getElem? (i := 39) rfl)) (hw _ (List.mem_of_getElem? (i := 40) rfl)) rfl (g := (mkF m 132 #[.val (.int p1), .val (.int p2), .val (.int p3), .val (.int p4), .val (.int sv), .val (.int (1 : Int32)), .val (.int (2 : Int32)), .val (.int t0), .val (.int t1), .val (.int (mg0_50_s0 p4)), .val (.int m0), .val (.int m1), .val (.ref b1_71), .val (.ref b1_72), .unset, .unset] [])) rfl (hb hby at_132) (by decide) (by decide)
            obtain ⟨b73, g73⟩ : ∃ z, z = T72.heap.size := ⟨_, rfl⟩
            rw [← g73] at A73 D73 st73
            have sz_b73 : h0.size ≤ b73 := Nat.le_trans KK72.1 (Nat.le_of_eq g73.symm)
            have g_b73 : n0 ≤ b73 := Nat.le_trans Z0 sz_b73
            have K73 : Keep h0 h73 [] := KK72.ext E73
            have hk_73 := Nat.le_trans hk_72 E73.1
            have F_kind_b73 : Fld Z h73 b73 "com/example/cantrip/cantrip/Token" "kind" "Lcom/example/cantrip/cantrip/Token$Kind;" .null := D73 (Or.inr (hw _ (List.mem_of_getElem? (i := 57) rfl))) (ty := (.object "com/example/cantrip/cantrip/Token$Kind")) (by decide)
            have F_text_b73 : Fld Z h73 b73 "com/example/cantrip/cantrip/Token" "text" "Ljava/lang/String;" .null := D73 (Or.inr (hw _ (List.mem_of_getElem? (i := 59) rfl))) (ty := (.object "java/lang/String")) (by decide)
            have F_offset_b73 : Fld Z h73 b73 "com/example/cantrip/cantrip/Token" "offset" "I" (.int (0 : Int32)) := D73 (Or.inr (hw _ (List.mem_of_getElem? (i := 61) rfl))) (ty := .int) (by decide)
            obtain ⟨_, _, ⟨T74, L74, k74, n74⟩, -, X74, ⟨Lc74, hQ74, l74, y74, z74⟩, st74⟩ := Jvm.LawKit.callS X73 hx (y := (⟨"com/example/cantrip/cantrip/TokenIsPinLaw", "kindOf", "(I)Lcom/example/cantrip/cantrip/Token$Kind;"⟩ : MethodName)) hown (mvT hZ (hw _ (List.mem_of_getElem? (i := 41) rfl))) (mvT hZ (hw _ (List.mem_of_getElem? (i := 42) rfl))) (mvT hZ (hw _ (List.mem_of_getElem? (i := 3) rfl))) (mvT hZ (hw _ (List.mem_of_getElem? (i := 43) rfl))) (by decide) (backOf (W := 2) (rm8 l Z a0 hw [] sv w_IRI w_PNAME_NS w_PNAME_LN w_BLANK_NODE_LABEL w_VAR w_STRING w_LANGTAG w_INTEGER w_DECIMAL w_DOUBLE w_NIL w_ANON w_WORD w_PUNCT w_EOF h73 n0 (Nat.le_trans Z0 K73.1) ((own_sta_keep (own_sta_keep S_IRI K71 all0) K72 all0).ext E73) ((own_sta_keep (own_sta_keep S_PNAME_NS K71 all0) K72 all0).ext E73) ((own_sta_keep (own_sta_keep S_PNAME_LN K71 all0) K72 all0).ext E73) ((own_sta_keep (own_sta_keep S_BLANK_NODE_LABEL K71 all0) K72 all0).ext E73) ((own_sta_keep (own_sta_keep S_VAR K71 all0) K72 all0).ext E73) ((own_sta_keep (own_sta_keep S_STRING K71 all0) K72 all0).ext E73) ((own_sta_keep (own_sta_keep S_LANGTAG K71 all0) K72 all0).ext E73) ((own_sta_keep (own_sta_keep S_INTEGER K71 all0) K72 all0).ext E73) ((own_sta_keep (own_sta_keep S_DECIMAL K71 all0) K72 all0).ext E73) ((own_sta_keep (own_sta_keep S_DOUBLE K71 all0) K72 all0).ext E73) ((own_sta_keep (own_sta_keep S_NIL K71 all0) K72 all0).ext E73) ((own_sta_keep (own_sta_keep S_ANON K71 all0) K72 all0).ext E73) ((own_sta_keep (own_sta_keep S_WORD K71 all0) K72 all0).ext E73) ((own_sta_keep (own_sta_keep S_PUNCT K71 all0) K72 all0).ext E73) ((own_sta_keep (own_sta_keep S_EOF K71 all0) K72 all0).ext E73) ) hZ (hw _ (List.mem_of_getElem? (i := 43) rfl)) (hw _ (List.mem_of_getElem? (i := 3) rfl)) (by decide) (by decide)) (g := (mkF m 138 #[.val (.int p1), .val (.int p2), .val (.int p3), .val (.int p4), .val (.int sv), .val (.int (1 : Int32)), .val (.int (2 : Int32)), .val (.int t0), .val (.int t1), .val (.int (mg0_50_s0 p4)), .val (.int m0), .val (.int m1), .val (.ref b1_71), .val (.ref b1_72), .unset, .unset] [(.int sv), (.ref b73), (.ref b73)])) rfl (by rw [hml]; rfl) (argsL := [(.int sv)]) (rest := [(.ref b73), (.ref b73)]) (lenOf pd9 rfl) rfl (by show 2 * 0 + _ ≤ _; exact Nat.le_of_eq rfl) (hb hby at_138) (fun _ _ => ⟨rfl, e73, (by decide : 7 + 0 ≤ _), (by decide : 17 + 0 ≤ _)⟩)
            dsimp only [Pt.U, Pt.locs, Pt.cells, Pt.slots] at X74 l74 y74 z74 st74 hQ74
            subst l74 y74 z74
            obtain ⟨rfl, rfl, e74⟩ := hQ74
            have N74 := Fr.app N72 (Fr.nil n0)
            obtain ⟨_, _, ⟨T75, L75, k75, n75⟩, -, X75, ⟨Lc75, hQ75, l75, y75, z75⟩, st75⟩ := X74.specialBack hx (y := (⟨"com/example/cantrip/cantrip/Token", "<init>", "(Lcom/example/cantrip/cantrip/Token$Kind;Ljava/lang/String;I)V"⟩ : MethodName)) rfl hown (mvT hZ (hw _ (List.mem_of_getElem? (i := 47) rfl))) (mvT hZ (hw _ (List.mem_of_getElem? (i := 48) rfl))) (mvT hZ (hw _ (List.mem_of_getElem? (i := 49) rfl))) (by decide) (backOf (W := 1) (rm9 l Z a0 hw [] b73 (res8 sv w_IRI w_PNAME_NS w_PNAME_LN w_BLANK_NODE_LABEL w_VAR w_STRING w_LANGTAG w_INTEGER w_DECIMAL w_DOUBLE w_NIL w_ANON w_WORD w_PUNCT w_EOF) b1_71 (p3 ^^^ p1) .null .null (.int (0 : Int32)) h73 n0 (Nat.le_trans Z0 K73.1) A73 F_kind_b73 g_b73 F_text_b73 F_offset_b73 ) hZ (hw _ (List.mem_of_getElem? (i := 49) rfl)) (hw _ (List.mem_of_getElem? (i := 40) rfl)) (by decide) (by decide)) (g := (mkF m 146 #[.val (.int p1), .val (.int p2), .val (.int p3), .val (.int p4), .val (.int sv), .val (.int (1 : Int32)), .val (.int (2 : Int32)), .val (.int t0), .val (.int t1), .val (.int (mg0_50_s0 p4)), .val (.int m0), .val (.int m1), .val (.ref b1_71), .val (.ref b1_72), .unset, .unset] [(.int (p3 ^^^ p1)), (.ref b1_71), (.ref (res8 sv w_IRI w_PNAME_NS w_PNAME_LN w_BLANK_NODE_LABEL w_VAR w_STRING w_LANGTAG w_INTEGER w_DECIMAL w_DOUBLE w_NIL w_ANON w_WORD w_PUNCT w_EOF)), (.ref b73), (.ref b73)])) rfl (by rw [hml]; rfl) (Steps.refl _) (a := b73) (argsL := [(.ref (res8 sv w_IRI w_PNAME_NS w_PNAME_LN w_BLANK_NODE_LABEL w_VAR w_STRING w_LANGTAG w_INTEGER w_DECIMAL w_DOUBLE w_NIL w_ANON w_WORD w_PUNCT w_EOF)), (.ref b1_71), (.int (p3 ^^^ p1))]) (rest := [(.ref b73)]) (lenOf pd10 rfl) rfl (by show 2 * 0 + _ ≤ _; exact Nat.le_of_eq rfl) (hb hby at_146) (fun _ _ => ⟨rfl, e74, (by decide : 7 + 0 ≤ _), (by decide : 17 + 0 ≤ _)⟩)
            dsimp only [Pt.U, Pt.locs, Pt.cells, Pt.slots] at X75 l75 y75 z75 st75 hQ75
            subst l75 y75 z75
            obtain ⟨rfl, N75q, K75, f75_0, f75_1, f75_2, f75_3⟩ := hQ75
            have N75 := Fr.app N74 N75q
            have KK75 : Keep h0 T75.heap [] := K73.trans K75 (allS (Or.inr sz_b73) all0)
            have hk_75 := Nat.le_trans hk_73 K75.1
            have pre76 : ∀ t, Steps p.tables e below (T75.setTop (mkF m 155 #[.val (.int p1), .val (.int p2), .val (.int p3), .val (.int p4), .val (.int sv), .val (.int (1 : Int32)), .val (.int (2 : Int32)), .val (.int t0), .val (.int t1), .val (.int (mg0_50_s0 p4)), .val (.int m0), .val (.int m1), .val (.ref b1_71), .val (.ref b1_72), .val (.ref b73), .unset] [(.int (13 : Int32)), (.int sv)])) t → Steps p.tables e below (s₁.setTop (entryFrame m #[(.int p1), (.int p2), (.int p3), (.int p4)] maxLocals)) t := by
              intro t kt
              refine pre10 _ ?_
              show Steps p.tables e below (s₁.setTop (mkF m 110 #[.val (.int p1), .val (.int p2), .val (.int p3), .val (.int p4), .val (.int sv), .val (.int (1 : Int32)), .val (.int (2 : Int32)), .val (.int t0), .val (.int t1), .val (.int (mg0_50_s0 p4)), .val (.int m0), .val (.int m1), .unset, .unset, .unset, .unset] [])) _
              refine XS.iload X0.here hx rfl (hb hby at_110) rfl ?_
              show Steps p.tables e below (s₁.setTop (mkF m 112 #[.val (.int p1), .val (.int p2), .val (.int p3), .val (.int p4), .val (.int sv), .val (.int (1 : Int32)), .val (.int (2 : Int32)), .val (.int t0), .val (.int t1), .val (.int (mg0_50_s0 p4)), .val (.int m0), .val (.int m1), .unset, .unset, .unset, .unset] [(.int (1 : Int32))])) _
              refine XS.iload X0.here hx rfl (hb hby at_112) rfl ?_
              refine XS.iload X0.here hx rfl (hb hby at_114) rfl ?_
              show Steps p.tables e below (s₁.setTop (mkF m 116 #[.val (.int p1), .val (.int p2), .val (.int p3), .val (.int p4), .val (.int sv), .val (.int (1 : Int32)), .val (.int (2 : Int32)), .val (.int t0), .val (.int t1), .val (.int (mg0_50_s0 p4)), .val (.int m0), .val (.int m1), .unset, .unset, .unset, .unset] [(.int t1), (.int t0), (.int (1 : Int32))])) _
              refine st71 _ ?_
              show Steps p.tables e below (T71.setTop (mkF m 119 #[.val (.int p1), .val (.int p2), .val (.int p3), .val (.int p4), .val (.int sv), .val (.int (1 : Int32)), .val (.int (2 : Int32)), .val (.int t0), .val (.int t1), .val (.int (mg0_50_s0 p4)), .val (.int m0), .val (.int m1), .unset, .unset, .unset, .unset] [(.ref b1_71)])) _
              refine XS.astore X71.here hx rfl (hb hby at_119) rfl rfl (l' := #[.val (.int p1), .val (.int p2), .val (.int p3), .val (.int p4), .val (.int sv), .val (.int (1 : Int32)), .val (.int (2 : Int32)), .val (.int t0), .val (.int t1), .val (.int (mg0_50_s0 p4)), .val (.int m0), .val (.int m1), .val (.ref b1_71), .unset, .unset, .unset]) rfl ?_
              show Steps p.tables e below (T71.setTop (mkF m 121 #[.val (.int p1), .val (.int p2), .val (.int p3), .val (.int p4), .val (.int sv), .val (.int (1 : Int32)), .val (.int (2 : Int32)), .val (.int t0), .val (.int t1), .val (.int (mg0_50_s0 p4)), .val (.int m0), .val (.int m1), .val (.ref b1_71), .unset, .unset, .unset] [])) _
              refine XS.iload X71.here hx rfl (hb hby at_121) rfl ?_
              refine XS.iload X71.here hx rfl (hb hby at_123) rfl ?_
              refine XS.iload X71.here hx rfl (hb hby at_125) rfl ?_
              show Steps p.tables e below (T71.setTop (mkF m 127 #[.val (.int p1), .val (.int p2), .val (.int p3), .val (.int p4), .val (.int sv), .val (.int (1 : Int32)), .val (.int (2 : Int32)), .val (.int t0), .val (.int t1), .val (.int (mg0_50_s0 p4)), .val (.int m0), .val (.int m1), .val (.ref b1_71), .unset, .unset, .unset] [(.int m1), (.int m0), (.int (2 : Int32))])) _
              refine st72 _ ?_
              show Steps p.tables e below (T72.setTop (mkF m 130 #[.val (.int p1), .val (.int p2), .val (.int p3), .val (.int p4), .val (.int sv), .val (.int (1 : Int32)), .val (.int (2 : Int32)), .val (.int t0), .val (.int t1), .val (.int (mg0_50_s0 p4)), .val (.int m0), .val (.int m1), .val (.ref b1_71), .unset, .unset, .unset] [(.ref b1_72)])) _
              refine XS.astore X72.here hx rfl (hb hby at_130) rfl rfl (l' := #[.val (.int p1), .val (.int p2), .val (.int p3), .val (.int p4), .val (.int sv), .val (.int (1 : Int32)), .val (.int (2 : Int32)), .val (.int t0), .val (.int t1), .val (.int (mg0_50_s0 p4)), .val (.int m0), .val (.int m1), .val (.ref b1_71), .val (.ref b1_72), .unset, .unset]) rfl ?_
              show Steps p.tables e below (T72.setTop (mkF m 132 #[.val (.int p1), .val (.int p2), .val (.int p3), .val (.int p4), .val (.int sv), .val (.int (1 : Int32)), .val (.int (2 : Int32)), .val (.int t0), .val (.int t1), .val (.int (mg0_50_s0 p4)), .val (.int m0), .val (.int m1), .val (.ref b1_71), .val (.ref b1_72), .unset, .unset] [])) _
              refine st73 _ ?_
              show Steps p.tables e below (T73.setTop (mkF m 135 #[.val (.int p1), .val (.int p2), .val (.int p3), .val (.int p4), .val (.int sv), .val (.int (1 : Int32)), .val (.int (2 : Int32)), .val (.int t0), .val (.int t1), .val (.int (mg0_50_s0 p4)), .val (.int m0), .val (.int m1), .val (.ref b1_71), .val (.ref b1_72), .unset, .unset] [(.ref b73)])) _
              refine XS.dup X73.here hx rfl (hb hby at_135) rfl rfl ?_
              refine XS.iload X73.here hx rfl (hb hby at_136) rfl ?_
              show Steps p.tables e below (T73.setTop (mkF m 138 #[.val (.int p1), .val (.int p2), .val (.int p3), .val (.int p4), .val (.int sv), .val (.int (1 : Int32)), .val (.int (2 : Int32)), .val (.int t0), .val (.int t1), .val (.int (mg0_50_s0 p4)), .val (.int m0), .val (.int m1), .val (.ref b1_71), .val (.ref b1_72), .unset, .unset] [(.int sv), (.ref b73), (.ref b73)])) _
              refine st74 _ ?_
              show Steps p.tables e below (T74.setTop (mkF m 141 #[.val (.int p1), .val (.int p2), .val (.int p3), .val (.int p4), .val (.int sv), .val (.int (1 : Int32)), .val (.int (2 : Int32)), .val (.int t0), .val (.int t1), .val (.int (mg0_50_s0 p4)), .val (.int m0), .val (.int m1), .val (.ref b1_71), .val (.ref b1_72), .unset, .unset] [(.ref (res8 sv w_IRI w_PNAME_NS w_PNAME_LN w_BLANK_NODE_LABEL w_VAR w_STRING w_LANGTAG w_INTEGER w_DECIMAL w_DOUBLE w_NIL w_ANON w_WORD w_PUNCT w_EOF)), (.ref b73), (.ref b73)])) _
              refine XS.aload X74.here hx rfl (hb hby at_141) rfl rfl ?_
              refine XS.iloadN X74.here hx rfl (hb hby at_143) rfl ?_
              refine XS.iloadN X74.here hx rfl (hb hby at_144) rfl ?_
              show Steps p.tables e below (T74.setTop (mkF m 145 #[.val (.int p1), .val (.int p2), .val (.int p3), .val (.int p4), .val (.int sv), .val (.int (1 : Int32)), .val (.int (2 : Int32)), .val (.int t0), .val (.int t1), .val (.int (mg0_50_s0 p4)), .val (.int m0), .val (.int m1), .val (.ref b1_71), .val (.ref b1_72), .unset, .unset] [(.int p1), (.int p3), (.ref b1_71), (.ref (res8 sv w_IRI w_PNAME_NS w_PNAME_LN w_BLANK_NODE_LABEL w_VAR w_STRING w_LANGTAG w_INTEGER w_DECIMAL w_DOUBLE w_NIL w_ANON w_WORD w_PUNCT w_EOF)), (.ref b73), (.ref b73)])) _
              refine XS.ixor X74.here hx rfl (hb hby at_145) rfl ?_
              show Steps p.tables e below (T74.setTop (mkF m 146 #[.val (.int p1), .val (.int p2), .val (.int p3), .val (.int p4), .val (.int sv), .val (.int (1 : Int32)), .val (.int (2 : Int32)), .val (.int t0), .val (.int t1), .val (.int (mg0_50_s0 p4)), .val (.int m0), .val (.int m1), .val (.ref b1_71), .val (.ref b1_72), .unset, .unset] [(.int (p3 ^^^ p1)), (.ref b1_71), (.ref (res8 sv w_IRI w_PNAME_NS w_PNAME_LN w_BLANK_NODE_LABEL w_VAR w_STRING w_LANGTAG w_INTEGER w_DECIMAL w_DOUBLE w_NIL w_ANON w_WORD w_PUNCT w_EOF)), (.ref b73), (.ref b73)])) _
              refine st75.trans ?_
              show Steps p.tables e below (T75.setTop (mkF m 149 #[.val (.int p1), .val (.int p2), .val (.int p3), .val (.int p4), .val (.int sv), .val (.int (1 : Int32)), .val (.int (2 : Int32)), .val (.int t0), .val (.int t1), .val (.int (mg0_50_s0 p4)), .val (.int m0), .val (.int m1), .val (.ref b1_71), .val (.ref b1_72), .unset, .unset] [(.ref b73)])) _
              refine XS.astore X75.here hx rfl (hb hby at_149) rfl rfl (l' := #[.val (.int p1), .val (.int p2), .val (.int p3), .val (.int p4), .val (.int sv), .val (.int (1 : Int32)), .val (.int (2 : Int32)), .val (.int t0), .val (.int t1), .val (.int (mg0_50_s0 p4)), .val (.int m0), .val (.int m1), .val (.ref b1_71), .val (.ref b1_72), .val (.ref b73), .unset]) rfl ?_
              refine XS.iload X75.here hx rfl (hb hby at_151) rfl ?_
              show Steps p.tables e below (T75.setTop (mkF m 153 #[.val (.int p1), .val (.int p2), .val (.int p3), .val (.int p4), .val (.int sv), .val (.int (1 : Int32)), .val (.int (2 : Int32)), .val (.int t0), .val (.int t1), .val (.int (mg0_50_s0 p4)), .val (.int m0), .val (.int m1), .val (.ref b1_71), .val (.ref b1_72), .val (.ref b73), .unset] [(.int sv)])) _
              refine XS.bipush X75.here hx rfl (hb hby at_153) ?_
              exact kt
            have pre78 : ∀ t, Steps p.tables e below (T75.setTop (mkF m 196 #[.val (.int p1), .val (.int p2), .val (.int p3), .val (.int p4), .val (.int sv), .val (.int (1 : Int32)), .val (.int (2 : Int32)), .val (.int t0), .val (.int t1), .val (.int (mg0_50_s0 p4)), .val (.int m0), .val (.int m1), .val (.ref b1_71), .val (.ref b1_72), .val (.ref b73), .unset] [(.int (0 : Int32))])) t → Steps p.tables e below (s₁.setTop (entryFrame m #[(.int p1), (.int p2), (.int p3), (.int p4)] maxLocals)) t := by
              intro t kt
              by_cases hc155_77 : sv = (13 : Int32)
              · skip
                refine pre76 _ ?_
                show Steps p.tables e below (T75.setTop (mkF m 155 #[.val (.int p1), .val (.int p2), .val (.int p3), .val (.int p4), .val (.int sv), .val (.int (1 : Int32)), .val (.int (2 : Int32)), .val (.int t0), .val (.int t1), .val (.int (mg0_50_s0 p4)), .val (.int m0), .val (.int m1), .val (.ref b1_71), .val (.ref b1_72), .val (.ref b73), .unset] [(.int (13 : Int32)), (.int sv)])) _
                refine XS.icmpNo X75.here hx rfl (hb hby at_155) rfl (teq hc155_77).2 ?_
                refine XS.iload X75.here hx rfl (hb hby at_158) rfl ?_
                show Steps p.tables e below (T75.setTop (mkF m 160 #[.val (.int p1), .val (.int p2), .val (.int p3), .val (.int p4), .val (.int sv), .val (.int (1 : Int32)), .val (.int (2 : Int32)), .val (.int t0), .val (.int t1), .val (.int (mg0_50_s0 p4)), .val (.int m0), .val (.int m1), .val (.ref b1_71), .val (.ref b1_72), .val (.ref b73), .unset] [(.int (1 : Int32))])) _
                refine XS.iload X75.here hx rfl (hb hby at_160) rfl ?_
                refine XS.icmpYes X75.here hx rfl (pc0 := 162) (pc' := 195) rfl (hb hby at_162) rfl (feq (by decide : ¬ ((1 : Int32) = (2 : Int32)))).2 (by decide) (by decide) ?_
                refine XS.iconst X75.here hx rfl (hb hby at_195) ?_
                exact kt
              · skip
                refine pre76 _ ?_
                show Steps p.tables e below (T75.setTop (mkF m 155 #[.val (.int p1), .val (.int p2), .val (.int p3), .val (.int p4), .val (.int sv), .val (.int (1 : Int32)), .val (.int (2 : Int32)), .val (.int t0), .val (.int t1), .val (.int (mg0_50_s0 p4)), .val (.int m0), .val (.int m1), .val (.ref b1_71), .val (.ref b1_72), .val (.ref b73), .unset] [(.int (13 : Int32)), (.int sv)])) _
                refine XS.icmpYes X75.here hx rfl (pc0 := 155) (pc' := 195) rfl (hb hby at_155) rfl (feq hc155_77).2 (by decide) (by decide) ?_
                refine XS.iconst X75.here hx rfl (hb hby at_195) ?_
                exact kt
            obtain ⟨cq79, kq79, q79a, q79b, q79c⟩ := isOf hZ rfl (A73.keep K75)
            obtain ⟨_, _, ⟨T79, L79, k79, n79⟩, -, X79, ⟨Lc79, hQ79, l79, y79, z79⟩, st79⟩ := X75.virtualBack hx (y := (⟨"com/example/cantrip/cantrip/Token", "is", "(Ljava/lang/String;)Z"⟩ : MethodName)) (z := (⟨"com/example/cantrip/cantrip/Token", "is", "(Ljava/lang/String;)Z"⟩ : MethodName)) hown (mvT hZ (hw _ (List.mem_of_getElem? (i := 62) rfl))) (mvT hZ (hw _ (List.mem_of_getElem? (i := 63) rfl))) (notFace_of_selects (args := #[]) (mvT hZ (hw _ (List.mem_of_getElem? (i := 65) rfl)))) (mvT hZ (hw _ (List.mem_of_getElem? (i := 65) rfl))) (mvT hZ (hw _ (List.mem_of_getElem? (i := 64) rfl))) (by decide) (backOf (W := 0) (rm_is_1_2 l Z a0 hw [] b73 b1_72 b1_3_2_7_72 k1_3_2_7_72 (nar .byte ((nar .char m0).toInt8.toInt32)) (nar .byte ((nar .char m1).toInt8.toInt32)) b1_71 b1_3_2_5_71 k1_3_2_5_71 (nar .byte ((nar .char t0).toInt8.toInt32)) (res8 sv w_IRI w_PNAME_NS w_PNAME_LN w_BLANK_NODE_LABEL w_VAR w_STRING w_LANGTAG w_INTEGER w_DECIMAL w_DOUBLE w_NIL w_ANON w_WORD w_PUNCT w_EOF) w_PUNCT w_COMPACT_STRINGS T75.heap n0 (Nat.le_trans Z0 KK75.1) ((f72_0.ext E73).keep K75) ((f72_1.ext E73).keep K75 (ninS (Nat.ne_of_lt (Nat.lt_of_lt_of_le f72_0.lt (Nat.le_of_eq g73.symm))) nin0)) ((f72_2.ext E73).keep K75 (ninS (Nat.ne_of_lt (Nat.lt_of_lt_of_le f72_0.lt (Nat.le_of_eq g73.symm))) nin0)) ((f72_3.ext E73).keep K75 (ninS (Nat.ne_of_lt (Nat.lt_of_lt_of_le f72_3.lt (Nat.le_of_eq g73.symm))) nin0)) f75_2 (((f71_0.keep K72).ext E73).keep K75) (((f71_1.keep K72 nin0).ext E73).keep K75 (ninS (Nat.ne_of_lt (Nat.lt_of_lt_of_le (f71_0.keep K72).lt (Nat.le_of_eq g73.symm))) nin0)) (((f71_2.keep K72 nin0).ext E73).keep K75 (ninS (Nat.ne_of_lt (Nat.lt_of_lt_of_le (f71_0.keep K72).lt (Nat.le_of_eq g73.symm))) nin0)) (((f71_3.keep K72 nin0).ext E73).keep K75 (ninS (Nat.ne_of_lt (Nat.lt_of_lt_of_le (f71_3.keep K72 nin0).lt (Nat.le_of_eq g73.symm))) nin0)) f75_1 (own_sta_keep ((own_sta_keep (own_sta_keep S_PUNCT K71 all0) K72 all0).ext E73) K75 (allS (own_exa_ns A73) all0)) (own_sta_keep ((own_sta_keep (own_sta_keep S_COMPACT_STRINGS K71 all0) K72 all0).ext E73) K75 (allS (own_exa_ns A73) all0)) ((Nat.ne_of_lt (Nat.lt_of_lt_of_le f71_0.lt s72_b1)) : b1_71 ≠ b1_72) (hCS : ¬ (w_COMPACT_STRINGS = (0 : Int32)))) hZ (hw _ (List.mem_of_getElem? (i := 66) rfl)) (hw _ (List.mem_of_getElem? (i := 40) rfl)) (by decide) (by decide)) q79a q79c (g := (mkF m 202 #[.val (.int p1), .val (.int p2), .val (.int p3), .val (.int p4), .val (.int sv), .val (.int (1 : Int32)), .val (.int (2 : Int32)), .val (.int t0), .val (.int t1), .val (.int (mg0_50_s0 p4)), .val (.int m0), .val (.int m1), .val (.ref b1_71), .val (.ref b1_72), .val (.ref b73), .val (.int (0 : Int32))] [(.ref b1_72), (.ref b73)])) rfl (by rw [hml]; rfl) (Steps.refl _) (argsL := [(.ref b1_72)]) (rest := []) (lenOf pd11 rfl) rfl (by show 2 * 0 + _ ≤ _; exact Nat.le_of_eq rfl) (hb hby at_202) (fun _ _ => ⟨rfl, rfl, (by decide : 7 + 0 ≤ _), (by decide : 17 + 0 ≤ _)⟩)
            dsimp only [Pt.U, Pt.locs, Pt.cells, Pt.slots] at X79 l79 y79 z79 st79 hQ79
            subst l79 y79 z79
            obtain ⟨rfl, rfl, e79⟩ := hQ79
            have N79 := Fr.app N75 (Fr.nil n0)
            obtain ⟨fs, hr, hrun, hended, hRW⟩ := X79.leaveW hS0 (Nat.le_trans hk_75 (Nat.le_of_eq (congrArg Array.size e79.symm))) (v := some (.int (1 : Int32))) (fun h => by rw [Bd.returns] at h; cases h)
            refine ⟨_, _, pre78 _ ?_, hrun, hended, _, _, rfl, ?_, hRW.1, hRW.2.1, hRW.2.2.1, hRW.2.2.2.mono (by decide) (by decide)⟩
            · show Steps p.tables e below (T75.setTop (mkF m 196 #[.val (.int p1), .val (.int p2), .val (.int p3), .val (.int p4), .val (.int sv), .val (.int (1 : Int32)), .val (.int (2 : Int32)), .val (.int t0), .val (.int t1), .val (.int (mg0_50_s0 p4)), .val (.int m0), .val (.int m1), .val (.ref b1_71), .val (.ref b1_72), .val (.ref b73), .unset] [(.int (0 : Int32))])) _
              refine XS.istore X75.here hx rfl (hb hby at_196) rfl (l' := #[.val (.int p1), .val (.int p2), .val (.int p3), .val (.int p4), .val (.int sv), .val (.int (1 : Int32)), .val (.int (2 : Int32)), .val (.int t0), .val (.int t1), .val (.int (mg0_50_s0 p4)), .val (.int m0), .val (.int m1), .val (.ref b1_71), .val (.ref b1_72), .val (.ref b73), .val (.int (0 : Int32))]) rfl ?_
              refine XS.aload X75.here hx rfl (hb hby at_198) rfl rfl ?_
              show Steps p.tables e below (T75.setTop (mkF m 200 #[.val (.int p1), .val (.int p2), .val (.int p3), .val (.int p4), .val (.int sv), .val (.int (1 : Int32)), .val (.int (2 : Int32)), .val (.int t0), .val (.int t1), .val (.int (mg0_50_s0 p4)), .val (.int m0), .val (.int m1), .val (.ref b1_71), .val (.ref b1_72), .val (.ref b73), .val (.int (0 : Int32))] [(.ref b73)])) _
              refine XS.aload X75.here hx rfl (hb hby at_200) rfl rfl ?_
              show Steps p.tables e below (T75.setTop (mkF m 202 #[.val (.int p1), .val (.int p2), .val (.int p3), .val (.int p4), .val (.int sv), .val (.int (1 : Int32)), .val (.int (2 : Int32)), .val (.int t0), .val (.int t1), .val (.int (mg0_50_s0 p4)), .val (.int m0), .val (.int m1), .val (.ref b1_71), .val (.ref b1_72), .val (.ref b73), .val (.int (0 : Int32))] [(.ref b1_72), (.ref b73)])) _
              refine st79.trans ?_
              show Steps p.tables e below (T79.setTop (mkF m 205 #[.val (.int p1), .val (.int p2), .val (.int p3), .val (.int p4), .val (.int sv), .val (.int (1 : Int32)), .val (.int (2 : Int32)), .val (.int t0), .val (.int t1), .val (.int (mg0_50_s0 p4)), .val (.int m0), .val (.int m1), .val (.ref b1_71), .val (.ref b1_72), .val (.ref b73), .val (.int (0 : Int32))] [(.int (res_is_1_2 (res8 sv w_IRI w_PNAME_NS w_PNAME_LN w_BLANK_NODE_LABEL w_VAR w_STRING w_LANGTAG w_INTEGER w_DECIMAL w_DOUBLE w_NIL w_ANON w_WORD w_PUNCT w_EOF) w_PUNCT))])) _
              refine XS.iload X79.here hx rfl (hb hby at_205) rfl ?_
              refine XS.icmpNo X79.here hx rfl (hb hby at_207) rfl (teq (own_eq_1_2 w_IRI w_PNAME_NS w_PNAME_LN w_BLANK_NODE_LABEL w_VAR w_STRING w_LANGTAG w_INTEGER w_DECIMAL w_DOUBLE w_NIL w_ANON w_WORD w_PUNCT w_EOF rs r_t0 r_t1 r_m0 r_m1 hD : (res_is_1_2 (res8 sv w_IRI w_PNAME_NS w_PNAME_LN w_BLANK_NODE_LABEL w_VAR w_STRING w_LANGTAG w_INTEGER w_DECIMAL w_DOUBLE w_NIL w_ANON w_WORD w_PUNCT w_EOF) w_PUNCT) = (0 : Int32))).2 ?_
              show Steps p.tables e below (T79.setTop (mkF m 210 #[.val (.int p1), .val (.int p2), .val (.int p3), .val (.int p4), .val (.int sv), .val (.int (1 : Int32)), .val (.int (2 : Int32)), .val (.int t0), .val (.int t1), .val (.int (mg0_50_s0 p4)), .val (.int m0), .val (.int m1), .val (.ref b1_71), .val (.ref b1_72), .val (.ref b73), .val (.int (0 : Int32))] [])) _
              refine XS.iconst X79.here hx rfl (hb hby at_210) ?_
              refine XS.goto X79.here hx rfl (pc0 := 211) (pc' := 215) rfl (hb hby at_211) (by decide) (by decide) ?_
              show Steps p.tables e below (T79.setTop (mkF m 215 #[.val (.int p1), .val (.int p2), .val (.int p3), .val (.int p4), .val (.int sv), .val (.int (1 : Int32)), .val (.int (2 : Int32)), .val (.int t0), .val (.int t1), .val (.int (mg0_50_s0 p4)), .val (.int m0), .val (.int m1), .val (.ref b1_71), .val (.ref b1_72), .val (.ref b73), .val (.int (0 : Int32))] [(.int (1 : Int32))])) _
              exact retN X79 hx (t := .boolean) Bd.returns (by simp) (hb hby at_215) hr
            · show Q0 Z p1 p2 p3 p4 w_IRI w_PNAME_NS w_PNAME_LN w_BLANK_NODE_LABEL w_VAR w_STRING w_LANGTAG w_INTEGER w_DECIMAL w_DOUBLE w_NIL w_ANON w_WORD w_PUNCT w_EOF w_COMPACT_STRINGS h0 n0 _ T79.heap _
              rw [e79]
              exact ⟨rfl, N79⟩
          · exfalso
            rcases (own_l3 _) with h | h | h
            · exact hv47 h
            · exact hv58 h
            · exact hv70 h
    · by_cases hv80 : ((p4 &&& (3 : Int32)) % (3 : Int32)) = (2 : Int32)
      · rw [hv80] at pre10
        by_cases hv81 : ((((p4.toUInt32 >>> ((2 : Int32) &&& 31).toUInt32).toInt32) &&& (3 : Int32)) % (3 : Int32)) = (0 : Int32)
        · rw [hv81] at pre10
          obtain ⟨_, _, ⟨T82, L82, k82, n82⟩, -, X82, ⟨Lc82, hQ82, l82, y82, z82⟩, st82⟩ := Jvm.LawKit.callS X0 hx (y := (⟨"com/example/cantrip/cantrip/TokenIsPinLaw", "str", "(ICC)Ljava/lang/String;"⟩ : MethodName)) hown (mvT hZ (hw _ (List.mem_of_getElem? (i := 1) rfl))) (mvT hZ (hw _ (List.mem_of_getElem? (i := 2) rfl))) (mvT hZ (hw _ (List.mem_of_getElem? (i := 3) rfl))) (mvT hZ (hw _ (List.mem_of_getElem? (i := 4) rfl))) (by decide) (backOf (W := 0) (rm_str_2 l Z a0 hw [] t0 t1 w_COMPACT_STRINGS h0 n0 (Nat.le_trans Z0 (Keep.refl h0 []).1) S_COMPACT_STRINGS (hCS : ¬ (w_COMPACT_STRINGS = (0 : Int32))) (own_nc r_t0 : ¬ ((255 : Int32) < (nar .char t0))) (own_nc r_t1 : ¬ ((255 : Int32) < (nar .char t1)))) hZ (hw _ (List.mem_of_getElem? (i := 4) rfl)) (hw _ (List.mem_of_getElem? (i := 3) rfl)) (by decide) (by decide)) (g := (mkF m 116 #[.val (.int p1), .val (.int p2), .val (.int p3), .val (.int p4), .val (.int sv), .val (.int (2 : Int32)), .val (.int (0 : Int32)), .val (.int t0), .val (.int t1), .val (.int (mg0_50_s0 p4)), .val (.int m0), .val (.int m1), .unset, .unset, .unset, .unset] [(.int t1), (.int t0), (.int (2 : Int32))])) rfl (by rw [hml]; rfl) (argsL := [(.int (2 : Int32)), (.int t0), (.int t1)]) (rest := []) (lenOf pd8 rfl) rfl (by show 2 * 0 + _ ≤ _; exact Nat.le_of_eq rfl) (hb hby at_116) (fun _ _ => ⟨rfl, e0, (by decide : 0 + 3 ≤ _), (by decide : 0 + 8 ≤ _)⟩)
          dsimp only [Pt.U, Pt.locs, Pt.cells, Pt.slots] at X82 l82 y82 z82 st82 hQ82
          subst l82 y82 z82
          obtain ⟨b1_82, b1_3_2_7_82, k1_3_2_7_82, rfl, N82q, K82, s82_b1, s82_b1_3_2_7, f82_0, f82_1, f82_2, f82_3⟩ := hQ82
          have N82 := Fr.app N0 N82q
          have sz_b1_82 : h0.size ≤ b1_82 := Nat.le_trans (Keep.refl h0 []).1 s82_b1
          have g_b1_82 : n0 ≤ b1_82 := Nat.le_trans Z0 sz_b1_82
          have sz_b1_3_2_7_82 : h0.size ≤ b1_3_2_7_82 := Nat.le_trans (Keep.refl h0 []).1 s82_b1_3_2_7
          have g_b1_3_2_7_82 : n0 ≤ b1_3_2_7_82 := Nat.le_trans Z0 sz_b1_3_2_7_82
          have KK82 : Keep h0 T82.heap [] := (Keep.refl h0 []).trans K82 all0
          have hk_82 := Nat.le_trans (Nat.zero_le _) K82.1
          have CR82 := CHr.trans CR0 (CHr.keep K82 all0 CR0.1)
          have pre84 : ∀ t, Steps p.tables e below (T82.setTop (mkF m 127 #[.val (.int p1), .val (.int p2), .val (.int p3), .val (.int p4), .val (.int sv), .val (.int (2 : Int32)), .val (.int (0 : Int32)), .val (.int t0), .val (.int t1), .val (.int (mg0_50_s0 p4)), .val (.int m0), .val (.int m1), .val (.ref b1_82), .unset, .unset, .unset] [(.int m1), (.int m0), (.int (0 : Int32))])) t → Steps p.tables e below (s₁.setTop (entryFrame m #[(.int p1), (.int p2), (.int p3), (.int p4)] maxLocals)) t := by
            intro t kt
            refine pre10 _ ?_
            show Steps p.tables e below (s₁.setTop (mkF m 110 #[.val (.int p1), .val (.int p2), .val (.int p3), .val (.int p4), .val (.int sv), .val (.int (2 : Int32)), .val (.int (0 : Int32)), .val (.int t0), .val (.int t1), .val (.int (mg0_50_s0 p4)), .val (.int m0), .val (.int m1), .unset, .unset, .unset, .unset] [])) _
            refine XS.iload X0.here hx rfl (hb hby at_110) rfl ?_
            show Steps p.tables e below (s₁.setTop (mkF m 112 #[.val (.int p1), .val (.int p2), .val (.int p3), .val (.int p4), .val (.int sv), .val (.int (2 : Int32)), .val (.int (0 : Int32)), .val (.int t0), .val (.int t1), .val (.int (mg0_50_s0 p4)), .val (.int m0), .val (.int m1), .unset, .unset, .unset, .unset] [(.int (2 : Int32))])) _
            refine XS.iload X0.here hx rfl (hb hby at_112) rfl ?_
            refine XS.iload X0.here hx rfl (hb hby at_114) rfl ?_
            show Steps p.tables e below (s₁.setTop (mkF m 116 #[.val (.int p1), .val (.int p2), .val (.int p3), .val (.int p4), .val (.int sv), .val (.int (2 : Int32)), .val (.int (0 : Int32)), .val (.int t0), .val (.int t1), .val (.int (mg0_50_s0 p4)), .val (.int m0), .val (.int m1), .unset, .unset, .unset, .unset] [(.int t1), (.int t0), (.int (2 : Int32))])) _
            refine st82 _ ?_
            show Steps p.tables e below (T82.setTop (mkF m 119 #[.val (.int p1), .val (.int p2), .val (.int p3), .val (.int p4), .val (.int sv), .val (.int (2 : Int32)), .val (.int (0 : Int32)), .val (.int t0), .val (.int t1), .val (.int (mg0_50_s0 p4)), .val (.int m0), .val (.int m1), .unset, .unset, .unset, .unset] [(.ref b1_82)])) _
            refine XS.astore X82.here hx rfl (hb hby at_119) rfl rfl (l' := #[.val (.int p1), .val (.int p2), .val (.int p3), .val (.int p4), .val (.int sv), .val (.int (2 : Int32)), .val (.int (0 : Int32)), .val (.int t0), .val (.int t1), .val (.int (mg0_50_s0 p4)), .val (.int m0), .val (.int m1), .val (.ref b1_82), .unset, .unset, .unset]) rfl ?_
            show Steps p.tables e below (T82.setTop (mkF m 121 #[.val (.int p1), .val (.int p2), .val (.int p3), .val (.int p4), .val (.int sv), .val (.int (2 : Int32)), .val (.int (0 : Int32)), .val (.int t0), .val (.int t1), .val (.int (mg0_50_s0 p4)), .val (.int m0), .val (.int m1), .val (.ref b1_82), .unset, .unset, .unset] [])) _
            refine XS.iload X82.here hx rfl (hb hby at_121) rfl ?_
            refine XS.iload X82.here hx rfl (hb hby at_123) rfl ?_
            refine XS.iload X82.here hx rfl (hb hby at_125) rfl ?_
            exact kt
          obtain ⟨_, _, ⟨T83, L83, k83, n83⟩, -, XX83, hSS83, hgr83, ⟨Lc83, hQ83, l83, y83, z83, hC83⟩, st83⟩ := callSS X82 hx (y := (⟨"com/example/cantrip/cantrip/TokenIsPinLaw", "str", "(ICC)Ljava/lang/String;"⟩ : MethodName)) hown (mvT hZ (hw _ (List.mem_of_getElem? (i := 1) rfl))) (mvT hZ (hw _ (List.mem_of_getElem? (i := 2) rfl))) (mvT hZ (hw _ (List.mem_of_getElem? (i := 3) rfl))) (mvT hZ (hw _ (List.mem_of_getElem? (i := 4) rfl))) (by decide) (backOfSH (W := 0) (rm_str_0 l Z a0 hw [] m0 m1  T82.heap n0 (Nat.le_trans Z0 KK82.1)   hEL) hZ (hw _ (List.mem_of_getElem? (i := 4) rfl)) (hw _ (List.mem_of_getElem? (i := 3) rfl)) (by decide) (by decide) hEL CR82.1) (g := (mkF m 127 #[.val (.int p1), .val (.int p2), .val (.int p3), .val (.int p4), .val (.int sv), .val (.int (2 : Int32)), .val (.int (0 : Int32)), .val (.int t0), .val (.int t1), .val (.int (mg0_50_s0 p4)), .val (.int m0), .val (.int m1), .val (.ref b1_82), .unset, .unset, .unset] [(.int m1), (.int m0), (.int (0 : Int32))])) rfl (by rw [hml]; rfl) (argsL := [(.int (0 : Int32)), (.int m0), (.int m1)]) (rest := []) (lenOf pd8 rfl) rfl (by show 2 * 0 + _ ≤ _; exact Nat.le_of_eq rfl) (hb hby at_127) (fun _ _ => ⟨rfl, rfl, (by decide : 3 + 4 ≤ _), (by decide : 8 + 8 ≤ _)⟩)
          dsimp only [Pt.U, Pt.locs, Pt.cells, Pt.slots] at XX83 hSS83 hgr83 l83 y83 z83 st83 hQ83 hC83
          subst l83 y83 z83
          obtain ⟨X83, hS83, hZ, hown⟩ := rebS hS0 (Nat.le_trans hk_82 (Nat.le_of_eq (congrArg Array.size (rfl : T82.heap = T82.heap).symm))) XX83 hSS83 hgr83 hZ hown
          have CR83 := CHr.trans CR82 hC83
          obtain ⟨b1_83, c2_2_3_83, k2_2_3_83, rfl, N83q, K83, s83_b1, f83_0, f83_1, f83_2, f83_3⟩ := hQ83
          have N83 := Fr.app N82 N83q
          have sz_b1_83 : h0.size ≤ b1_83 := Nat.le_trans KK82.1 s83_b1
          have g_b1_83 : n0 ≤ b1_83 := Nat.le_trans Z0 sz_b1_83
          have KK83 : Keep h0 T83.heap [] := KK82.trans K83 all0
          obtain ⟨T85, h85, X85, e85, E85, A85, D85, -, st85⟩ := newO X83 hx hZ hown (hw _ (List.mem_of_getElem? (i := 38) rfl)) (hw _ (List.mem_of_getElem? (i := 39) rfl)) (hw _ (List.mem_of_getElem? (i := 40) rfl)) rfl (g := (mkF m 132 #[.val (.int p1), .val (.int p2), .val (.int p3), .val (.int p4), .val (.int sv), .val (.int (2 : Int32)), .val (.int (0 : Int32)), .val (.int t0), .val (.int t1), .val (.int (mg0_50_s0 p4)), .val (.int m0), .val (.int m1), .val (.ref b1_82), .val (.ref b1_83), .unset, .unset] [])) rfl (hb hby at_132) (by decide) (by decide)
          obtain ⟨b85, g85⟩ : ∃ z, z = T83.heap.size := ⟨_, rfl⟩
          rw [← g85] at A85 D85 st85
          have sz_b85 : h0.size ≤ b85 := Nat.le_trans KK83.1 (Nat.le_of_eq g85.symm)
          have g_b85 : n0 ≤ b85 := Nat.le_trans Z0 sz_b85
          have K85 : Keep h0 h85 [] := KK83.ext E85
          have hk_85 := Nat.le_trans (Nat.le_refl _) E85.1
          have F_kind_b85 : Fld Z h85 b85 "com/example/cantrip/cantrip/Token" "kind" "Lcom/example/cantrip/cantrip/Token$Kind;" .null := D85 (Or.inr (hw _ (List.mem_of_getElem? (i := 57) rfl))) (ty := (.object "com/example/cantrip/cantrip/Token$Kind")) (by decide)
          have F_text_b85 : Fld Z h85 b85 "com/example/cantrip/cantrip/Token" "text" "Ljava/lang/String;" .null := D85 (Or.inr (hw _ (List.mem_of_getElem? (i := 59) rfl))) (ty := (.object "java/lang/String")) (by decide)
          have F_offset_b85 : Fld Z h85 b85 "com/example/cantrip/cantrip/Token" "offset" "I" (.int (0 : Int32)) := D85 (Or.inr (hw _ (List.mem_of_getElem? (i := 61) rfl))) (ty := .int) (by decide)
          obtain ⟨_, _, ⟨T86, L86, k86, n86⟩, -, X86, ⟨Lc86, hQ86, l86, y86, z86⟩, st86⟩ := Jvm.LawKit.callS X85 hx (y := (⟨"com/example/cantrip/cantrip/TokenIsPinLaw", "kindOf", "(I)Lcom/example/cantrip/cantrip/Token$Kind;"⟩ : MethodName)) hown (mvT hZ (hw _ (List.mem_of_getElem? (i := 41) rfl))) (mvT hZ (hw _ (List.mem_of_getElem? (i := 42) rfl))) (mvT hZ (hw _ (List.mem_of_getElem? (i := 3) rfl))) (mvT hZ (hw _ (List.mem_of_getElem? (i := 43) rfl))) (by decide) (backOf (W := 2) (rm8 l Z a0 hw [] sv w_IRI w_PNAME_NS w_PNAME_LN w_BLANK_NODE_LABEL w_VAR w_STRING w_LANGTAG w_INTEGER w_DECIMAL w_DOUBLE w_NIL w_ANON w_WORD w_PUNCT w_EOF h85 n0 (Nat.le_trans Z0 K85.1) ((own_sta_keep (own_sta_keep S_IRI K82 all0) K83 all0).ext E85) ((own_sta_keep (own_sta_keep S_PNAME_NS K82 all0) K83 all0).ext E85) ((own_sta_keep (own_sta_keep S_PNAME_LN K82 all0) K83 all0).ext E85) ((own_sta_keep (own_sta_keep S_BLANK_NODE_LABEL K82 all0) K83 all0).ext E85) ((own_sta_keep (own_sta_keep S_VAR K82 all0) K83 all0).ext E85) ((own_sta_keep (own_sta_keep S_STRING K82 all0) K83 all0).ext E85) ((own_sta_keep (own_sta_keep S_LANGTAG K82 all0) K83 all0).ext E85) ((own_sta_keep (own_sta_keep S_INTEGER K82 all0) K83 all0).ext E85) ((own_sta_keep (own_sta_keep S_DECIMAL K82 all0) K83 all0).ext E85) ((own_sta_keep (own_sta_keep S_DOUBLE K82 all0) K83 all0).ext E85) ((own_sta_keep (own_sta_keep S_NIL K82 all0) K83 all0).ext E85) ((own_sta_keep (own_sta_keep S_ANON K82 all0) K83 all0).ext E85) ((own_sta_keep (own_sta_keep S_WORD K82 all0) K83 all0).ext E85) ((own_sta_keep (own_sta_keep S_PUNCT K82 all0) K83 all0).ext E85) ((own_sta_keep (own_sta_keep S_EOF K82 all0) K83 all0).ext E85) ) hZ (hw _ (List.mem_of_getElem? (i := 43) rfl)) (hw _ (List.mem_of_getElem? (i := 3) rfl)) (by decide) (by decide)) (g := (mkF m 138 #[.val (.int p1), .val (.int p2), .val (.int p3), .val (.int p4), .val (.int sv), .val (.int (2 : Int32)), .val (.int (0 : Int32)), .val (.int t0), .val (.int t1), .val (.int (mg0_50_s0 p4)), .val (.int m0), .val (.int m1), .val (.ref b1_82), .val (.ref b1_83), .unset, .unset] [(.int sv), (.ref b85), (.ref b85)])) rfl (by rw [hml]; rfl) (argsL := [(.int sv)]) (rest := [(.ref b85), (.ref b85)]) (lenOf pd9 rfl) rfl (by show 2 * 0 + _ ≤ _; exact Nat.le_of_eq rfl) (hb hby at_138) (fun _ _ => ⟨rfl, e85, (by decide : 8 + 0 ≤ _), (by decide : 19 + 0 ≤ _)⟩)
          dsimp only [Pt.U, Pt.locs, Pt.cells, Pt.slots] at X86 l86 y86 z86 st86 hQ86
          subst l86 y86 z86
          obtain ⟨rfl, rfl, e86⟩ := hQ86
          have N86 := Fr.app N83 (Fr.nil n0)
          obtain ⟨_, _, ⟨T87, L87, k87, n87⟩, -, X87, ⟨Lc87, hQ87, l87, y87, z87⟩, st87⟩ := X86.specialBack hx (y := (⟨"com/example/cantrip/cantrip/Token", "<init>", "(Lcom/example/cantrip/cantrip/Token$Kind;Ljava/lang/String;I)V"⟩ : MethodName)) rfl hown (mvT hZ (hw _ (List.mem_of_getElem? (i := 47) rfl))) (mvT hZ (hw _ (List.mem_of_getElem? (i := 48) rfl))) (mvT hZ (hw _ (List.mem_of_getElem? (i := 49) rfl))) (by decide) (backOf (W := 1) (rm9 l Z a0 hw [] b85 (res8 sv w_IRI w_PNAME_NS w_PNAME_LN w_BLANK_NODE_LABEL w_VAR w_STRING w_LANGTAG w_INTEGER w_DECIMAL w_DOUBLE w_NIL w_ANON w_WORD w_PUNCT w_EOF) b1_82 (p3 ^^^ p1) .null .null (.int (0 : Int32)) h85 n0 (Nat.le_trans Z0 K85.1) A85 F_kind_b85 g_b85 F_text_b85 F_offset_b85 ) hZ (hw _ (List.mem_of_getElem? (i := 49) rfl)) (hw _ (List.mem_of_getElem? (i := 40) rfl)) (by decide) (by decide)) (g := (mkF m 146 #[.val (.int p1), .val (.int p2), .val (.int p3), .val (.int p4), .val (.int sv), .val (.int (2 : Int32)), .val (.int (0 : Int32)), .val (.int t0), .val (.int t1), .val (.int (mg0_50_s0 p4)), .val (.int m0), .val (.int m1), .val (.ref b1_82), .val (.ref b1_83), .unset, .unset] [(.int (p3 ^^^ p1)), (.ref b1_82), (.ref (res8 sv w_IRI w_PNAME_NS w_PNAME_LN w_BLANK_NODE_LABEL w_VAR w_STRING w_LANGTAG w_INTEGER w_DECIMAL w_DOUBLE w_NIL w_ANON w_WORD w_PUNCT w_EOF)), (.ref b85), (.ref b85)])) rfl (by rw [hml]; rfl) (Steps.refl _) (a := b85) (argsL := [(.ref (res8 sv w_IRI w_PNAME_NS w_PNAME_LN w_BLANK_NODE_LABEL w_VAR w_STRING w_LANGTAG w_INTEGER w_DECIMAL w_DOUBLE w_NIL w_ANON w_WORD w_PUNCT w_EOF)), (.ref b1_82), (.int (p3 ^^^ p1))]) (rest := [(.ref b85)]) (lenOf pd10 rfl) rfl (by show 2 * 0 + _ ≤ _; exact Nat.le_of_eq rfl) (hb hby at_146) (fun _ _ => ⟨rfl, e86, (by decide : 8 + 0 ≤ _), (by decide : 19 + 0 ≤ _)⟩)
          dsimp only [Pt.U, Pt.locs, Pt.cells, Pt.slots] at X87 l87 y87 z87 st87 hQ87
          subst l87 y87 z87
          obtain ⟨rfl, N87q, K87, f87_0, f87_1, f87_2, f87_3⟩ := hQ87
          have N87 := Fr.app N86 N87q
          have KK87 : Keep h0 T87.heap [] := K85.trans K87 (allS (Or.inr sz_b85) all0)
          have hk_87 := Nat.le_trans hk_85 K87.1
          have pre88 : ∀ t, Steps p.tables e below (T87.setTop (mkF m 155 #[.val (.int p1), .val (.int p2), .val (.int p3), .val (.int p4), .val (.int sv), .val (.int (2 : Int32)), .val (.int (0 : Int32)), .val (.int t0), .val (.int t1), .val (.int (mg0_50_s0 p4)), .val (.int m0), .val (.int m1), .val (.ref b1_82), .val (.ref b1_83), .val (.ref b85), .unset] [(.int (13 : Int32)), (.int sv)])) t → Steps p.tables e below (s₁.setTop (entryFrame m #[(.int p1), (.int p2), (.int p3), (.int p4)] maxLocals)) t := by
            intro t kt
            refine pre84 _ ?_
            show Steps p.tables e below (T82.setTop (mkF m 127 #[.val (.int p1), .val (.int p2), .val (.int p3), .val (.int p4), .val (.int sv), .val (.int (2 : Int32)), .val (.int (0 : Int32)), .val (.int t0), .val (.int t1), .val (.int (mg0_50_s0 p4)), .val (.int m0), .val (.int m1), .val (.ref b1_82), .unset, .unset, .unset] [(.int m1), (.int m0), (.int (0 : Int32))])) _
            refine st83.trans ?_
            show Steps p.tables e below (T83.setTop (mkF m 130 #[.val (.int p1), .val (.int p2), .val (.int p3), .val (.int p4), .val (.int sv), .val (.int (2 : Int32)), .val (.int (0 : Int32)), .val (.int t0), .val (.int t1), .val (.int (mg0_50_s0 p4)), .val (.int m0), .val (.int m1), .val (.ref b1_82), .unset, .unset, .unset] [(.ref b1_83)])) _
            refine XS.astore X83.here hx rfl (hb hby at_130) rfl rfl (l' := #[.val (.int p1), .val (.int p2), .val (.int p3), .val (.int p4), .val (.int sv), .val (.int (2 : Int32)), .val (.int (0 : Int32)), .val (.int t0), .val (.int t1), .val (.int (mg0_50_s0 p4)), .val (.int m0), .val (.int m1), .val (.ref b1_82), .val (.ref b1_83), .unset, .unset]) rfl ?_
            show Steps p.tables e below (T83.setTop (mkF m 132 #[.val (.int p1), .val (.int p2), .val (.int p3), .val (.int p4), .val (.int sv), .val (.int (2 : Int32)), .val (.int (0 : Int32)), .val (.int t0), .val (.int t1), .val (.int (mg0_50_s0 p4)), .val (.int m0), .val (.int m1), .val (.ref b1_82), .val (.ref b1_83), .unset, .unset] [])) _
            refine st85 _ ?_
            show Steps p.tables e below (T85.setTop (mkF m 135 #[.val (.int p1), .val (.int p2), .val (.int p3), .val (.int p4), .val (.int sv), .val (.int (2 : Int32)), .val (.int (0 : Int32)), .val (.int t0), .val (.int t1), .val (.int (mg0_50_s0 p4)), .val (.int m0), .val (.int m1), .val (.ref b1_82), .val (.ref b1_83), .unset, .unset] [(.ref b85)])) _
            refine XS.dup X85.here hx rfl (hb hby at_135) rfl rfl ?_
            refine XS.iload X85.here hx rfl (hb hby at_136) rfl ?_
            show Steps p.tables e below (T85.setTop (mkF m 138 #[.val (.int p1), .val (.int p2), .val (.int p3), .val (.int p4), .val (.int sv), .val (.int (2 : Int32)), .val (.int (0 : Int32)), .val (.int t0), .val (.int t1), .val (.int (mg0_50_s0 p4)), .val (.int m0), .val (.int m1), .val (.ref b1_82), .val (.ref b1_83), .unset, .unset] [(.int sv), (.ref b85), (.ref b85)])) _
            refine st86 _ ?_
            show Steps p.tables e below (T86.setTop (mkF m 141 #[.val (.int p1), .val (.int p2), .val (.int p3), .val (.int p4), .val (.int sv), .val (.int (2 : Int32)), .val (.int (0 : Int32)), .val (.int t0), .val (.int t1), .val (.int (mg0_50_s0 p4)), .val (.int m0), .val (.int m1), .val (.ref b1_82), .val (.ref b1_83), .unset, .unset] [(.ref (res8 sv w_IRI w_PNAME_NS w_PNAME_LN w_BLANK_NODE_LABEL w_VAR w_STRING w_LANGTAG w_INTEGER w_DECIMAL w_DOUBLE w_NIL w_ANON w_WORD w_PUNCT w_EOF)), (.ref b85), (.ref b85)])) _
            refine XS.aload X86.here hx rfl (hb hby at_141) rfl rfl ?_
            refine XS.iloadN X86.here hx rfl (hb hby at_143) rfl ?_
            refine XS.iloadN X86.here hx rfl (hb hby at_144) rfl ?_
            show Steps p.tables e below (T86.setTop (mkF m 145 #[.val (.int p1), .val (.int p2), .val (.int p3), .val (.int p4), .val (.int sv), .val (.int (2 : Int32)), .val (.int (0 : Int32)), .val (.int t0), .val (.int t1), .val (.int (mg0_50_s0 p4)), .val (.int m0), .val (.int m1), .val (.ref b1_82), .val (.ref b1_83), .unset, .unset] [(.int p1), (.int p3), (.ref b1_82), (.ref (res8 sv w_IRI w_PNAME_NS w_PNAME_LN w_BLANK_NODE_LABEL w_VAR w_STRING w_LANGTAG w_INTEGER w_DECIMAL w_DOUBLE w_NIL w_ANON w_WORD w_PUNCT w_EOF)), (.ref b85), (.ref b85)])) _
            refine XS.ixor X86.here hx rfl (hb hby at_145) rfl ?_
            show Steps p.tables e below (T86.setTop (mkF m 146 #[.val (.int p1), .val (.int p2), .val (.int p3), .val (.int p4), .val (.int sv), .val (.int (2 : Int32)), .val (.int (0 : Int32)), .val (.int t0), .val (.int t1), .val (.int (mg0_50_s0 p4)), .val (.int m0), .val (.int m1), .val (.ref b1_82), .val (.ref b1_83), .unset, .unset] [(.int (p3 ^^^ p1)), (.ref b1_82), (.ref (res8 sv w_IRI w_PNAME_NS w_PNAME_LN w_BLANK_NODE_LABEL w_VAR w_STRING w_LANGTAG w_INTEGER w_DECIMAL w_DOUBLE w_NIL w_ANON w_WORD w_PUNCT w_EOF)), (.ref b85), (.ref b85)])) _
            refine st87.trans ?_
            show Steps p.tables e below (T87.setTop (mkF m 149 #[.val (.int p1), .val (.int p2), .val (.int p3), .val (.int p4), .val (.int sv), .val (.int (2 : Int32)), .val (.int (0 : Int32)), .val (.int t0), .val (.int t1), .val (.int (mg0_50_s0 p4)), .val (.int m0), .val (.int m1), .val (.ref b1_82), .val (.ref b1_83), .unset, .unset] [(.ref b85)])) _
            refine XS.astore X87.here hx rfl (hb hby at_149) rfl rfl (l' := #[.val (.int p1), .val (.int p2), .val (.int p3), .val (.int p4), .val (.int sv), .val (.int (2 : Int32)), .val (.int (0 : Int32)), .val (.int t0), .val (.int t1), .val (.int (mg0_50_s0 p4)), .val (.int m0), .val (.int m1), .val (.ref b1_82), .val (.ref b1_83), .val (.ref b85), .unset]) rfl ?_
            refine XS.iload X87.here hx rfl (hb hby at_151) rfl ?_
            show Steps p.tables e below (T87.setTop (mkF m 153 #[.val (.int p1), .val (.int p2), .val (.int p3), .val (.int p4), .val (.int sv), .val (.int (2 : Int32)), .val (.int (0 : Int32)), .val (.int t0), .val (.int t1), .val (.int (mg0_50_s0 p4)), .val (.int m0), .val (.int m1), .val (.ref b1_82), .val (.ref b1_83), .val (.ref b85), .unset] [(.int sv)])) _
            refine XS.bipush X87.here hx rfl (hb hby at_153) ?_
            exact kt
          have pre90 : ∀ t, Steps p.tables e below (T87.setTop (mkF m 196 #[.val (.int p1), .val (.int p2), .val (.int p3), .val (.int p4), .val (.int sv), .val (.int (2 : Int32)), .val (.int (0 : Int32)), .val (.int t0), .val (.int t1), .val (.int (mg0_50_s0 p4)), .val (.int m0), .val (.int m1), .val (.ref b1_82), .val (.ref b1_83), .val (.ref b85), .unset] [(.int (0 : Int32))])) t → Steps p.tables e below (s₁.setTop (entryFrame m #[(.int p1), (.int p2), (.int p3), (.int p4)] maxLocals)) t := by
            intro t kt
            by_cases hc155_89 : sv = (13 : Int32)
            · skip
              refine pre88 _ ?_
              show Steps p.tables e below (T87.setTop (mkF m 155 #[.val (.int p1), .val (.int p2), .val (.int p3), .val (.int p4), .val (.int sv), .val (.int (2 : Int32)), .val (.int (0 : Int32)), .val (.int t0), .val (.int t1), .val (.int (mg0_50_s0 p4)), .val (.int m0), .val (.int m1), .val (.ref b1_82), .val (.ref b1_83), .val (.ref b85), .unset] [(.int (13 : Int32)), (.int sv)])) _
              refine XS.icmpNo X87.here hx rfl (hb hby at_155) rfl (teq hc155_89).2 ?_
              refine XS.iload X87.here hx rfl (hb hby at_158) rfl ?_
              show Steps p.tables e below (T87.setTop (mkF m 160 #[.val (.int p1), .val (.int p2), .val (.int p3), .val (.int p4), .val (.int sv), .val (.int (2 : Int32)), .val (.int (0 : Int32)), .val (.int t0), .val (.int t1), .val (.int (mg0_50_s0 p4)), .val (.int m0), .val (.int m1), .val (.ref b1_82), .val (.ref b1_83), .val (.ref b85), .unset] [(.int (2 : Int32))])) _
              refine XS.iload X87.here hx rfl (hb hby at_160) rfl ?_
              refine XS.icmpYes X87.here hx rfl (pc0 := 162) (pc' := 195) rfl (hb hby at_162) rfl (feq (by decide : ¬ ((2 : Int32) = (0 : Int32)))).2 (by decide) (by decide) ?_
              refine XS.iconst X87.here hx rfl (hb hby at_195) ?_
              exact kt
            · skip
              refine pre88 _ ?_
              show Steps p.tables e below (T87.setTop (mkF m 155 #[.val (.int p1), .val (.int p2), .val (.int p3), .val (.int p4), .val (.int sv), .val (.int (2 : Int32)), .val (.int (0 : Int32)), .val (.int t0), .val (.int t1), .val (.int (mg0_50_s0 p4)), .val (.int m0), .val (.int m1), .val (.ref b1_82), .val (.ref b1_83), .val (.ref b85), .unset] [(.int (13 : Int32)), (.int sv)])) _
              refine XS.icmpYes X87.here hx rfl (pc0 := 155) (pc' := 195) rfl (hb hby at_155) rfl (feq hc155_89).2 (by decide) (by decide) ?_
              refine XS.iconst X87.here hx rfl (hb hby at_195) ?_
              exact kt
          obtain ⟨cq91, kq91, q91a, q91b, q91c⟩ := isOf hZ rfl (A85.keep K87)
          obtain ⟨_, _, ⟨T91, L91, k91, n91⟩, -, X91, ⟨Lc91, hQ91, l91, y91, z91⟩, st91⟩ := X87.virtualBack hx (y := (⟨"com/example/cantrip/cantrip/Token", "is", "(Ljava/lang/String;)Z"⟩ : MethodName)) (z := (⟨"com/example/cantrip/cantrip/Token", "is", "(Ljava/lang/String;)Z"⟩ : MethodName)) hown (mvT hZ (hw _ (List.mem_of_getElem? (i := 62) rfl))) (mvT hZ (hw _ (List.mem_of_getElem? (i := 63) rfl))) (notFace_of_selects (args := #[]) (mvT hZ (hw _ (List.mem_of_getElem? (i := 65) rfl)))) (mvT hZ (hw _ (List.mem_of_getElem? (i := 65) rfl))) (mvT hZ (hw _ (List.mem_of_getElem? (i := 64) rfl))) (by decide) (backOf (W := 0) (rm_is_2_0 l Z a0 hw [] b85 b1_83 c2_2_3_83 k2_2_3_83 b1_82 b1_3_2_7_82 k1_3_2_7_82 (nar .byte ((nar .char t0).toInt8.toInt32)) (nar .byte ((nar .char t1).toInt8.toInt32)) (res8 sv w_IRI w_PNAME_NS w_PNAME_LN w_BLANK_NODE_LABEL w_VAR w_STRING w_LANGTAG w_INTEGER w_DECIMAL w_DOUBLE w_NIL w_ANON w_WORD w_PUNCT w_EOF) w_PUNCT w_COMPACT_STRINGS T87.heap n0 (Nat.le_trans Z0 KK87.1) ((f83_0.ext E85).keep K87) ((f83_2.ext E85).keep K87 (ninS (Nat.ne_of_lt (Nat.lt_of_lt_of_le f83_0.lt (Nat.le_of_eq g85.symm))) nin0)) ((f83_1.ext E85).keep K87 (ninS (Nat.ne_of_lt (Nat.lt_of_lt_of_le f83_0.lt (Nat.le_of_eq g85.symm))) nin0)) ((f83_3.ext E85).keep K87 (ninS (Nat.ne_of_lt (Nat.lt_of_lt_of_le f83_3.lt (Nat.le_of_eq g85.symm))) nin0)) f87_2 (((f82_0.keep K83).ext E85).keep K87) (((f82_1.keep K83 nin0).ext E85).keep K87 (ninS (Nat.ne_of_lt (Nat.lt_of_lt_of_le (f82_0.keep K83).lt (Nat.le_of_eq g85.symm))) nin0)) (((f82_2.keep K83 nin0).ext E85).keep K87 (ninS (Nat.ne_of_lt (Nat.lt_of_lt_of_le (f82_0.keep K83).lt (Nat.le_of_eq g85.symm))) nin0)) (((f82_3.keep K83 nin0).ext E85).keep K87 (ninS (Nat.ne_of_lt (Nat.lt_of_lt_of_le (f82_3.keep K83 nin0).lt (Nat.le_of_eq g85.symm))) nin0)) f87_1 (own_sta_keep ((own_sta_keep (own_sta_keep S_PUNCT K82 all0) K83 all0).ext E85) K87 (allS (own_exa_ns A85) all0)) (own_sta_keep ((own_sta_keep (own_sta_keep S_COMPACT_STRINGS K82 all0) K83 all0).ext E85) K87 (allS (own_exa_ns A85) all0)) ((Nat.ne_of_lt (Nat.lt_of_lt_of_le f82_0.lt s83_b1)) : b1_82 ≠ b1_83) (hCS : ¬ (w_COMPACT_STRINGS = (0 : Int32)))) hZ (hw _ (List.mem_of_getElem? (i := 66) rfl)) (hw _ (List.mem_of_getElem? (i := 40) rfl)) (by decide) (by decide)) q91a q91c (g := (mkF m 202 #[.val (.int p1), .val (.int p2), .val (.int p3), .val (.int p4), .val (.int sv), .val (.int (2 : Int32)), .val (.int (0 : Int32)), .val (.int t0), .val (.int t1), .val (.int (mg0_50_s0 p4)), .val (.int m0), .val (.int m1), .val (.ref b1_82), .val (.ref b1_83), .val (.ref b85), .val (.int (0 : Int32))] [(.ref b1_83), (.ref b85)])) rfl (by rw [hml]; rfl) (Steps.refl _) (argsL := [(.ref b1_83)]) (rest := []) (lenOf pd11 rfl) rfl (by show 2 * 0 + _ ≤ _; exact Nat.le_of_eq rfl) (hb hby at_202) (fun _ _ => ⟨rfl, rfl, (by decide : 8 + 0 ≤ _), (by decide : 19 + 0 ≤ _)⟩)
          dsimp only [Pt.U, Pt.locs, Pt.cells, Pt.slots] at X91 l91 y91 z91 st91 hQ91
          subst l91 y91 z91
          obtain ⟨rfl, rfl, e91⟩ := hQ91
          have N91 := Fr.app N87 (Fr.nil n0)
          obtain ⟨fs, hr, hrun, hended, hRW⟩ := X91.leaveW hS83 (Nat.le_trans hk_87 (Nat.le_of_eq (congrArg Array.size e91.symm))) (v := some (.int (1 : Int32))) (fun h => by rw [Bd.returns] at h; cases h)
          refine ⟨_, _, pre90 _ ?_, hrun, hended, _, _, rfl, ?_, hRW.1, hRW.2.1, hRW.2.2.1, hRW.2.2.2.mono (by decide) (by decide)⟩
          · show Steps p.tables e below (T87.setTop (mkF m 196 #[.val (.int p1), .val (.int p2), .val (.int p3), .val (.int p4), .val (.int sv), .val (.int (2 : Int32)), .val (.int (0 : Int32)), .val (.int t0), .val (.int t1), .val (.int (mg0_50_s0 p4)), .val (.int m0), .val (.int m1), .val (.ref b1_82), .val (.ref b1_83), .val (.ref b85), .unset] [(.int (0 : Int32))])) _
            refine XS.istore X87.here hx rfl (hb hby at_196) rfl (l' := #[.val (.int p1), .val (.int p2), .val (.int p3), .val (.int p4), .val (.int sv), .val (.int (2 : Int32)), .val (.int (0 : Int32)), .val (.int t0), .val (.int t1), .val (.int (mg0_50_s0 p4)), .val (.int m0), .val (.int m1), .val (.ref b1_82), .val (.ref b1_83), .val (.ref b85), .val (.int (0 : Int32))]) rfl ?_
            refine XS.aload X87.here hx rfl (hb hby at_198) rfl rfl ?_
            show Steps p.tables e below (T87.setTop (mkF m 200 #[.val (.int p1), .val (.int p2), .val (.int p3), .val (.int p4), .val (.int sv), .val (.int (2 : Int32)), .val (.int (0 : Int32)), .val (.int t0), .val (.int t1), .val (.int (mg0_50_s0 p4)), .val (.int m0), .val (.int m1), .val (.ref b1_82), .val (.ref b1_83), .val (.ref b85), .val (.int (0 : Int32))] [(.ref b85)])) _
            refine XS.aload X87.here hx rfl (hb hby at_200) rfl rfl ?_
            show Steps p.tables e below (T87.setTop (mkF m 202 #[.val (.int p1), .val (.int p2), .val (.int p3), .val (.int p4), .val (.int sv), .val (.int (2 : Int32)), .val (.int (0 : Int32)), .val (.int t0), .val (.int t1), .val (.int (mg0_50_s0 p4)), .val (.int m0), .val (.int m1), .val (.ref b1_82), .val (.ref b1_83), .val (.ref b85), .val (.int (0 : Int32))] [(.ref b1_83), (.ref b85)])) _
            refine st91.trans ?_
            show Steps p.tables e below (T91.setTop (mkF m 205 #[.val (.int p1), .val (.int p2), .val (.int p3), .val (.int p4), .val (.int sv), .val (.int (2 : Int32)), .val (.int (0 : Int32)), .val (.int t0), .val (.int t1), .val (.int (mg0_50_s0 p4)), .val (.int m0), .val (.int m1), .val (.ref b1_82), .val (.ref b1_83), .val (.ref b85), .val (.int (0 : Int32))] [(.int (res_is_2_0 (res8 sv w_IRI w_PNAME_NS w_PNAME_LN w_BLANK_NODE_LABEL w_VAR w_STRING w_LANGTAG w_INTEGER w_DECIMAL w_DOUBLE w_NIL w_ANON w_WORD w_PUNCT w_EOF) w_PUNCT))])) _
            refine XS.iload X91.here hx rfl (hb hby at_205) rfl ?_
            refine XS.icmpNo X91.here hx rfl (hb hby at_207) rfl (teq (own_eq_2_0 w_IRI w_PNAME_NS w_PNAME_LN w_BLANK_NODE_LABEL w_VAR w_STRING w_LANGTAG w_INTEGER w_DECIMAL w_DOUBLE w_NIL w_ANON w_WORD w_PUNCT w_EOF rs r_t0 r_t1 r_m0 r_m1 hD : (res_is_2_0 (res8 sv w_IRI w_PNAME_NS w_PNAME_LN w_BLANK_NODE_LABEL w_VAR w_STRING w_LANGTAG w_INTEGER w_DECIMAL w_DOUBLE w_NIL w_ANON w_WORD w_PUNCT w_EOF) w_PUNCT) = (0 : Int32))).2 ?_
            show Steps p.tables e below (T91.setTop (mkF m 210 #[.val (.int p1), .val (.int p2), .val (.int p3), .val (.int p4), .val (.int sv), .val (.int (2 : Int32)), .val (.int (0 : Int32)), .val (.int t0), .val (.int t1), .val (.int (mg0_50_s0 p4)), .val (.int m0), .val (.int m1), .val (.ref b1_82), .val (.ref b1_83), .val (.ref b85), .val (.int (0 : Int32))] [])) _
            refine XS.iconst X91.here hx rfl (hb hby at_210) ?_
            refine XS.goto X91.here hx rfl (pc0 := 211) (pc' := 215) rfl (hb hby at_211) (by decide) (by decide) ?_
            show Steps p.tables e below (T91.setTop (mkF m 215 #[.val (.int p1), .val (.int p2), .val (.int p3), .val (.int p4), .val (.int sv), .val (.int (2 : Int32)), .val (.int (0 : Int32)), .val (.int t0), .val (.int t1), .val (.int (mg0_50_s0 p4)), .val (.int m0), .val (.int m1), .val (.ref b1_82), .val (.ref b1_83), .val (.ref b85), .val (.int (0 : Int32))] [(.int (1 : Int32))])) _
            exact retN X91 hx (t := .boolean) Bd.returns (by simp) (hb hby at_215) hr
          · show Q0 Z p1 p2 p3 p4 w_IRI w_PNAME_NS w_PNAME_LN w_BLANK_NODE_LABEL w_VAR w_STRING w_LANGTAG w_INTEGER w_DECIMAL w_DOUBLE w_NIL w_ANON w_WORD w_PUNCT w_EOF w_COMPACT_STRINGS h0 n0 _ T91.heap _
            rw [e91]
            exact ⟨rfl, N91⟩
        · by_cases hv92 : ((((p4.toUInt32 >>> ((2 : Int32) &&& 31).toUInt32).toInt32) &&& (3 : Int32)) % (3 : Int32)) = (1 : Int32)
          · rw [hv92] at pre10
            obtain ⟨_, _, ⟨T93, L93, k93, n93⟩, -, X93, ⟨Lc93, hQ93, l93, y93, z93⟩, st93⟩ := Jvm.LawKit.callS X0 hx (y := (⟨"com/example/cantrip/cantrip/TokenIsPinLaw", "str", "(ICC)Ljava/lang/String;"⟩ : MethodName)) hown (mvT hZ (hw _ (List.mem_of_getElem? (i := 1) rfl))) (mvT hZ (hw _ (List.mem_of_getElem? (i := 2) rfl))) (mvT hZ (hw _ (List.mem_of_getElem? (i := 3) rfl))) (mvT hZ (hw _ (List.mem_of_getElem? (i := 4) rfl))) (by decide) (backOf (W := 0) (rm_str_2 l Z a0 hw [] t0 t1 w_COMPACT_STRINGS h0 n0 (Nat.le_trans Z0 (Keep.refl h0 []).1) S_COMPACT_STRINGS (hCS : ¬ (w_COMPACT_STRINGS = (0 : Int32))) (own_nc r_t0 : ¬ ((255 : Int32) < (nar .char t0))) (own_nc r_t1 : ¬ ((255 : Int32) < (nar .char t1)))) hZ (hw _ (List.mem_of_getElem? (i := 4) rfl)) (hw _ (List.mem_of_getElem? (i := 3) rfl)) (by decide) (by decide)) (g := (mkF m 116 #[.val (.int p1), .val (.int p2), .val (.int p3), .val (.int p4), .val (.int sv), .val (.int (2 : Int32)), .val (.int (1 : Int32)), .val (.int t0), .val (.int t1), .val (.int (mg0_50_s0 p4)), .val (.int m0), .val (.int m1), .unset, .unset, .unset, .unset] [(.int t1), (.int t0), (.int (2 : Int32))])) rfl (by rw [hml]; rfl) (argsL := [(.int (2 : Int32)), (.int t0), (.int t1)]) (rest := []) (lenOf pd8 rfl) rfl (by show 2 * 0 + _ ≤ _; exact Nat.le_of_eq rfl) (hb hby at_116) (fun _ _ => ⟨rfl, e0, (by decide : 0 + 3 ≤ _), (by decide : 0 + 8 ≤ _)⟩)
            dsimp only [Pt.U, Pt.locs, Pt.cells, Pt.slots] at X93 l93 y93 z93 st93 hQ93
            subst l93 y93 z93
            obtain ⟨b1_93, b1_3_2_7_93, k1_3_2_7_93, rfl, N93q, K93, s93_b1, s93_b1_3_2_7, f93_0, f93_1, f93_2, f93_3⟩ := hQ93
            have N93 := Fr.app N0 N93q
            have sz_b1_93 : h0.size ≤ b1_93 := Nat.le_trans (Keep.refl h0 []).1 s93_b1
            have g_b1_93 : n0 ≤ b1_93 := Nat.le_trans Z0 sz_b1_93
            have sz_b1_3_2_7_93 : h0.size ≤ b1_3_2_7_93 := Nat.le_trans (Keep.refl h0 []).1 s93_b1_3_2_7
            have g_b1_3_2_7_93 : n0 ≤ b1_3_2_7_93 := Nat.le_trans Z0 sz_b1_3_2_7_93
            have KK93 : Keep h0 T93.heap [] := (Keep.refl h0 []).trans K93 all0
            have hk_93 := Nat.le_trans (Nat.zero_le _) K93.1
            have CR93 := CHr.trans CR0 (CHr.keep K93 all0 CR0.1)
            obtain ⟨_, _, ⟨T94, L94, k94, n94⟩, -, X94, ⟨Lc94, hQ94, l94, y94, z94⟩, st94⟩ := Jvm.LawKit.callS X93 hx (y := (⟨"com/example/cantrip/cantrip/TokenIsPinLaw", "str", "(ICC)Ljava/lang/String;"⟩ : MethodName)) hown (mvT hZ (hw _ (List.mem_of_getElem? (i := 1) rfl))) (mvT hZ (hw _ (List.mem_of_getElem? (i := 2) rfl))) (mvT hZ (hw _ (List.mem_of_getElem? (i := 3) rfl))) (mvT hZ (hw _ (List.mem_of_getElem? (i := 4) rfl))) (by decide) (backOf (W := 0) (rm_str_1 l Z a0 hw [] m0 m1 w_COMPACT_STRINGS T93.heap n0 (Nat.le_trans Z0 KK93.1) (own_sta_keep S_COMPACT_STRINGS K93 all0) (hCS : ¬ (w_COMPACT_STRINGS = (0 : Int32))) (own_nc r_m0 : ¬ ((255 : Int32) < (nar .char m0)))) hZ (hw _ (List.mem_of_getElem? (i := 4) rfl)) (hw _ (List.mem_of_getElem? (i := 3) rfl)) (by decide) (by decide)) (g := (mkF m 127 #[.val (.int p1), .val (.int p2), .val (.int p3), .val (.int p4), .val (.int sv), .val (.int (2 : Int32)), .val (.int (1 : Int32)), .val (.int t0), .val (.int t1), .val (.int (mg0_50_s0 p4)), .val (.int m0), .val (.int m1), .val (.ref b1_93), .unset, .unset, .unset] [(.int m1), (.int m0), (.int (1 : Int32))])) rfl (by rw [hml]; rfl) (argsL := [(.int (1 : Int32)), (.int m0), (.int m1)]) (rest := []) (lenOf pd8 rfl) rfl (by show 2 * 0 + _ ≤ _; exact Nat.le_of_eq rfl) (hb hby at_127) (fun _ _ => ⟨rfl, rfl, (by decide : 3 + 3 ≤ _), (by decide : 8 + 6 ≤ _)⟩)
            dsimp only [Pt.U, Pt.locs, Pt.cells, Pt.slots] at X94 l94 y94 z94 st94 hQ94
            subst l94 y94 z94
            obtain ⟨b1_94, b1_3_2_5_94, k1_3_2_5_94, rfl, N94q, K94, s94_b1, s94_b1_3_2_5, f94_0, f94_1, f94_2, f94_3⟩ := hQ94
            have N94 := Fr.app N93 N94q
            have sz_b1_94 : h0.size ≤ b1_94 := Nat.le_trans KK93.1 s94_b1
            have g_b1_94 : n0 ≤ b1_94 := Nat.le_trans Z0 sz_b1_94
            have sz_b1_3_2_5_94 : h0.size ≤ b1_3_2_5_94 := Nat.le_trans KK93.1 s94_b1_3_2_5
            have g_b1_3_2_5_94 : n0 ≤ b1_3_2_5_94 := Nat.le_trans Z0 sz_b1_3_2_5_94
            have KK94 : Keep h0 T94.heap [] := KK93.trans K94 all0
            have hk_94 := Nat.le_trans hk_93 K94.1
            have CR94 := CHr.trans CR93 (CHr.keep K94 all0 CR93.1)
            obtain ⟨T95, h95, X95, e95, E95, A95, D95, -, st95⟩ := newO X94 hx hZ hown (hw _ (List.mem_of_getElem? (i := 38) rfl)) (hw _ (List.mem_of_getElem? (i := 39) rfl)) (hw _ (List.mem_of_getElem? (i := 40) rfl)) rfl (g := (mkF m 132 #[.val (.int p1), .val (.int p2), .val (.int p3), .val (.int p4), .val (.int sv), .val (.int (2 : Int32)), .val (.int (1 : Int32)), .val (.int t0), .val (.int t1), .val (.int (mg0_50_s0 p4)), .val (.int m0), .val (.int m1), .val (.ref b1_93), .val (.ref b1_94), .unset, .unset] [])) rfl (hb hby at_132) (by decide) (by decide)
            obtain ⟨b95, g95⟩ : ∃ z, z = T94.heap.size := ⟨_, rfl⟩
            rw [← g95] at A95 D95 st95
            have sz_b95 : h0.size ≤ b95 := Nat.le_trans KK94.1 (Nat.le_of_eq g95.symm)
            have g_b95 : n0 ≤ b95 := Nat.le_trans Z0 sz_b95
            have K95 : Keep h0 h95 [] := KK94.ext E95
            have hk_95 := Nat.le_trans hk_94 E95.1
            have F_kind_b95 : Fld Z h95 b95 "com/example/cantrip/cantrip/Token" "kind" "Lcom/example/cantrip/cantrip/Token$Kind;" .null := D95 (Or.inr (hw _ (List.mem_of_getElem? (i := 57) rfl))) (ty := (.object "com/example/cantrip/cantrip/Token$Kind")) (by decide)
            have F_text_b95 : Fld Z h95 b95 "com/example/cantrip/cantrip/Token" "text" "Ljava/lang/String;" .null := D95 (Or.inr (hw _ (List.mem_of_getElem? (i := 59) rfl))) (ty := (.object "java/lang/String")) (by decide)
            have F_offset_b95 : Fld Z h95 b95 "com/example/cantrip/cantrip/Token" "offset" "I" (.int (0 : Int32)) := D95 (Or.inr (hw _ (List.mem_of_getElem? (i := 61) rfl))) (ty := .int) (by decide)
            obtain ⟨_, _, ⟨T96, L96, k96, n96⟩, -, X96, ⟨Lc96, hQ96, l96, y96, z96⟩, st96⟩ := Jvm.LawKit.callS X95 hx (y := (⟨"com/example/cantrip/cantrip/TokenIsPinLaw", "kindOf", "(I)Lcom/example/cantrip/cantrip/Token$Kind;"⟩ : MethodName)) hown (mvT hZ (hw _ (List.mem_of_getElem? (i := 41) rfl))) (mvT hZ (hw _ (List.mem_of_getElem? (i := 42) rfl))) (mvT hZ (hw _ (List.mem_of_getElem? (i := 3) rfl))) (mvT hZ (hw _ (List.mem_of_getElem? (i := 43) rfl))) (by decide) (backOf (W := 2) (rm8 l Z a0 hw [] sv w_IRI w_PNAME_NS w_PNAME_LN w_BLANK_NODE_LABEL w_VAR w_STRING w_LANGTAG w_INTEGER w_DECIMAL w_DOUBLE w_NIL w_ANON w_WORD w_PUNCT w_EOF h95 n0 (Nat.le_trans Z0 K95.1) ((own_sta_keep (own_sta_keep S_IRI K93 all0) K94 all0).ext E95) ((own_sta_keep (own_sta_keep S_PNAME_NS K93 all0) K94 all0).ext E95) ((own_sta_keep (own_sta_keep S_PNAME_LN K93 all0) K94 all0).ext E95) ((own_sta_keep (own_sta_keep S_BLANK_NODE_LABEL K93 all0) K94 all0).ext E95) ((own_sta_keep (own_sta_keep S_VAR K93 all0) K94 all0).ext E95) ((own_sta_keep (own_sta_keep S_STRING K93 all0) K94 all0).ext E95) ((own_sta_keep (own_sta_keep S_LANGTAG K93 all0) K94 all0).ext E95) ((own_sta_keep (own_sta_keep S_INTEGER K93 all0) K94 all0).ext E95) ((own_sta_keep (own_sta_keep S_DECIMAL K93 all0) K94 all0).ext E95) ((own_sta_keep (own_sta_keep S_DOUBLE K93 all0) K94 all0).ext E95) ((own_sta_keep (own_sta_keep S_NIL K93 all0) K94 all0).ext E95) ((own_sta_keep (own_sta_keep S_ANON K93 all0) K94 all0).ext E95) ((own_sta_keep (own_sta_keep S_WORD K93 all0) K94 all0).ext E95) ((own_sta_keep (own_sta_keep S_PUNCT K93 all0) K94 all0).ext E95) ((own_sta_keep (own_sta_keep S_EOF K93 all0) K94 all0).ext E95) ) hZ (hw _ (List.mem_of_getElem? (i := 43) rfl)) (hw _ (List.mem_of_getElem? (i := 3) rfl)) (by decide) (by decide)) (g := (mkF m 138 #[.val (.int p1), .val (.int p2), .val (.int p3), .val (.int p4), .val (.int sv), .val (.int (2 : Int32)), .val (.int (1 : Int32)), .val (.int t0), .val (.int t1), .val (.int (mg0_50_s0 p4)), .val (.int m0), .val (.int m1), .val (.ref b1_93), .val (.ref b1_94), .unset, .unset] [(.int sv), (.ref b95), (.ref b95)])) rfl (by rw [hml]; rfl) (argsL := [(.int sv)]) (rest := [(.ref b95), (.ref b95)]) (lenOf pd9 rfl) rfl (by show 2 * 0 + _ ≤ _; exact Nat.le_of_eq rfl) (hb hby at_138) (fun _ _ => ⟨rfl, e95, (by decide : 7 + 0 ≤ _), (by decide : 17 + 0 ≤ _)⟩)
            dsimp only [Pt.U, Pt.locs, Pt.cells, Pt.slots] at X96 l96 y96 z96 st96 hQ96
            subst l96 y96 z96
            obtain ⟨rfl, rfl, e96⟩ := hQ96
            have N96 := Fr.app N94 (Fr.nil n0)
            obtain ⟨_, _, ⟨T97, L97, k97, n97⟩, -, X97, ⟨Lc97, hQ97, l97, y97, z97⟩, st97⟩ := X96.specialBack hx (y := (⟨"com/example/cantrip/cantrip/Token", "<init>", "(Lcom/example/cantrip/cantrip/Token$Kind;Ljava/lang/String;I)V"⟩ : MethodName)) rfl hown (mvT hZ (hw _ (List.mem_of_getElem? (i := 47) rfl))) (mvT hZ (hw _ (List.mem_of_getElem? (i := 48) rfl))) (mvT hZ (hw _ (List.mem_of_getElem? (i := 49) rfl))) (by decide) (backOf (W := 1) (rm9 l Z a0 hw [] b95 (res8 sv w_IRI w_PNAME_NS w_PNAME_LN w_BLANK_NODE_LABEL w_VAR w_STRING w_LANGTAG w_INTEGER w_DECIMAL w_DOUBLE w_NIL w_ANON w_WORD w_PUNCT w_EOF) b1_93 (p3 ^^^ p1) .null .null (.int (0 : Int32)) h95 n0 (Nat.le_trans Z0 K95.1) A95 F_kind_b95 g_b95 F_text_b95 F_offset_b95 ) hZ (hw _ (List.mem_of_getElem? (i := 49) rfl)) (hw _ (List.mem_of_getElem? (i := 40) rfl)) (by decide) (by decide)) (g := (mkF m 146 #[.val (.int p1), .val (.int p2), .val (.int p3), .val (.int p4), .val (.int sv), .val (.int (2 : Int32)), .val (.int (1 : Int32)), .val (.int t0), .val (.int t1), .val (.int (mg0_50_s0 p4)), .val (.int m0), .val (.int m1), .val (.ref b1_93), .val (.ref b1_94), .unset, .unset] [(.int (p3 ^^^ p1)), (.ref b1_93), (.ref (res8 sv w_IRI w_PNAME_NS w_PNAME_LN w_BLANK_NODE_LABEL w_VAR w_STRING w_LANGTAG w_INTEGER w_DECIMAL w_DOUBLE w_NIL w_ANON w_WORD w_PUNCT w_EOF)), (.ref b95), (.ref b95)])) rfl (by rw [hml]; rfl) (Steps.refl _) (a := b95) (argsL := [(.ref (res8 sv w_IRI w_PNAME_NS w_PNAME_LN w_BLANK_NODE_LABEL w_VAR w_STRING w_LANGTAG w_INTEGER w_DECIMAL w_DOUBLE w_NIL w_ANON w_WORD w_PUNCT w_EOF)), (.ref b1_93), (.int (p3 ^^^ p1))]) (rest := [(.ref b95)]) (lenOf pd10 rfl) rfl (by show 2 * 0 + _ ≤ _; exact Nat.le_of_eq rfl) (hb hby at_146) (fun _ _ => ⟨rfl, e96, (by decide : 7 + 0 ≤ _), (by decide : 17 + 0 ≤ _)⟩)
            dsimp only [Pt.U, Pt.locs, Pt.cells, Pt.slots] at X97 l97 y97 z97 st97 hQ97
            subst l97 y97 z97
            obtain ⟨rfl, N97q, K97, f97_0, f97_1, f97_2, f97_3⟩ := hQ97
            have N97 := Fr.app N96 N97q
            have KK97 : Keep h0 T97.heap [] := K95.trans K97 (allS (Or.inr sz_b95) all0)
            have hk_97 := Nat.le_trans hk_95 K97.1
            have pre98 : ∀ t, Steps p.tables e below (T97.setTop (mkF m 155 #[.val (.int p1), .val (.int p2), .val (.int p3), .val (.int p4), .val (.int sv), .val (.int (2 : Int32)), .val (.int (1 : Int32)), .val (.int t0), .val (.int t1), .val (.int (mg0_50_s0 p4)), .val (.int m0), .val (.int m1), .val (.ref b1_93), .val (.ref b1_94), .val (.ref b95), .unset] [(.int (13 : Int32)), (.int sv)])) t → Steps p.tables e below (s₁.setTop (entryFrame m #[(.int p1), (.int p2), (.int p3), (.int p4)] maxLocals)) t := by
              intro t kt
              refine pre10 _ ?_
              show Steps p.tables e below (s₁.setTop (mkF m 110 #[.val (.int p1), .val (.int p2), .val (.int p3), .val (.int p4), .val (.int sv), .val (.int (2 : Int32)), .val (.int (1 : Int32)), .val (.int t0), .val (.int t1), .val (.int (mg0_50_s0 p4)), .val (.int m0), .val (.int m1), .unset, .unset, .unset, .unset] [])) _
              refine XS.iload X0.here hx rfl (hb hby at_110) rfl ?_
              show Steps p.tables e below (s₁.setTop (mkF m 112 #[.val (.int p1), .val (.int p2), .val (.int p3), .val (.int p4), .val (.int sv), .val (.int (2 : Int32)), .val (.int (1 : Int32)), .val (.int t0), .val (.int t1), .val (.int (mg0_50_s0 p4)), .val (.int m0), .val (.int m1), .unset, .unset, .unset, .unset] [(.int (2 : Int32))])) _
              refine XS.iload X0.here hx rfl (hb hby at_112) rfl ?_
              refine XS.iload X0.here hx rfl (hb hby at_114) rfl ?_
              show Steps p.tables e below (s₁.setTop (mkF m 116 #[.val (.int p1), .val (.int p2), .val (.int p3), .val (.int p4), .val (.int sv), .val (.int (2 : Int32)), .val (.int (1 : Int32)), .val (.int t0), .val (.int t1), .val (.int (mg0_50_s0 p4)), .val (.int m0), .val (.int m1), .unset, .unset, .unset, .unset] [(.int t1), (.int t0), (.int (2 : Int32))])) _
              refine st93 _ ?_
              show Steps p.tables e below (T93.setTop (mkF m 119 #[.val (.int p1), .val (.int p2), .val (.int p3), .val (.int p4), .val (.int sv), .val (.int (2 : Int32)), .val (.int (1 : Int32)), .val (.int t0), .val (.int t1), .val (.int (mg0_50_s0 p4)), .val (.int m0), .val (.int m1), .unset, .unset, .unset, .unset] [(.ref b1_93)])) _
              refine XS.astore X93.here hx rfl (hb hby at_119) rfl rfl (l' := #[.val (.int p1), .val (.int p2), .val (.int p3), .val (.int p4), .val (.int sv), .val (.int (2 : Int32)), .val (.int (1 : Int32)), .val (.int t0), .val (.int t1), .val (.int (mg0_50_s0 p4)), .val (.int m0), .val (.int m1), .val (.ref b1_93), .unset, .unset, .unset]) rfl ?_
              show Steps p.tables e below (T93.setTop (mkF m 121 #[.val (.int p1), .val (.int p2), .val (.int p3), .val (.int p4), .val (.int sv), .val (.int (2 : Int32)), .val (.int (1 : Int32)), .val (.int t0), .val (.int t1), .val (.int (mg0_50_s0 p4)), .val (.int m0), .val (.int m1), .val (.ref b1_93), .unset, .unset, .unset] [])) _
              refine XS.iload X93.here hx rfl (hb hby at_121) rfl ?_
              refine XS.iload X93.here hx rfl (hb hby at_123) rfl ?_
              refine XS.iload X93.here hx rfl (hb hby at_125) rfl ?_
              show Steps p.tables e below (T93.setTop (mkF m 127 #[.val (.int p1), .val (.int p2), .val (.int p3), .val (.int p4), .val (.int sv), .val (.int (2 : Int32)), .val (.int (1 : Int32)), .val (.int t0), .val (.int t1), .val (.int (mg0_50_s0 p4)), .val (.int m0), .val (.int m1), .val (.ref b1_93), .unset, .unset, .unset] [(.int m1), (.int m0), (.int (1 : Int32))])) _
              refine st94 _ ?_
              show Steps p.tables e below (T94.setTop (mkF m 130 #[.val (.int p1), .val (.int p2), .val (.int p3), .val (.int p4), .val (.int sv), .val (.int (2 : Int32)), .val (.int (1 : Int32)), .val (.int t0), .val (.int t1), .val (.int (mg0_50_s0 p4)), .val (.int m0), .val (.int m1), .val (.ref b1_93), .unset, .unset, .unset] [(.ref b1_94)])) _
              refine XS.astore X94.here hx rfl (hb hby at_130) rfl rfl (l' := #[.val (.int p1), .val (.int p2), .val (.int p3), .val (.int p4), .val (.int sv), .val (.int (2 : Int32)), .val (.int (1 : Int32)), .val (.int t0), .val (.int t1), .val (.int (mg0_50_s0 p4)), .val (.int m0), .val (.int m1), .val (.ref b1_93), .val (.ref b1_94), .unset, .unset]) rfl ?_
              show Steps p.tables e below (T94.setTop (mkF m 132 #[.val (.int p1), .val (.int p2), .val (.int p3), .val (.int p4), .val (.int sv), .val (.int (2 : Int32)), .val (.int (1 : Int32)), .val (.int t0), .val (.int t1), .val (.int (mg0_50_s0 p4)), .val (.int m0), .val (.int m1), .val (.ref b1_93), .val (.ref b1_94), .unset, .unset] [])) _
              refine st95 _ ?_
              show Steps p.tables e below (T95.setTop (mkF m 135 #[.val (.int p1), .val (.int p2), .val (.int p3), .val (.int p4), .val (.int sv), .val (.int (2 : Int32)), .val (.int (1 : Int32)), .val (.int t0), .val (.int t1), .val (.int (mg0_50_s0 p4)), .val (.int m0), .val (.int m1), .val (.ref b1_93), .val (.ref b1_94), .unset, .unset] [(.ref b95)])) _
              refine XS.dup X95.here hx rfl (hb hby at_135) rfl rfl ?_
              refine XS.iload X95.here hx rfl (hb hby at_136) rfl ?_
              show Steps p.tables e below (T95.setTop (mkF m 138 #[.val (.int p1), .val (.int p2), .val (.int p3), .val (.int p4), .val (.int sv), .val (.int (2 : Int32)), .val (.int (1 : Int32)), .val (.int t0), .val (.int t1), .val (.int (mg0_50_s0 p4)), .val (.int m0), .val (.int m1), .val (.ref b1_93), .val (.ref b1_94), .unset, .unset] [(.int sv), (.ref b95), (.ref b95)])) _
              refine st96 _ ?_
              show Steps p.tables e below (T96.setTop (mkF m 141 #[.val (.int p1), .val (.int p2), .val (.int p3), .val (.int p4), .val (.int sv), .val (.int (2 : Int32)), .val (.int (1 : Int32)), .val (.int t0), .val (.int t1), .val (.int (mg0_50_s0 p4)), .val (.int m0), .val (.int m1), .val (.ref b1_93), .val (.ref b1_94), .unset, .unset] [(.ref (res8 sv w_IRI w_PNAME_NS w_PNAME_LN w_BLANK_NODE_LABEL w_VAR w_STRING w_LANGTAG w_INTEGER w_DECIMAL w_DOUBLE w_NIL w_ANON w_WORD w_PUNCT w_EOF)), (.ref b95), (.ref b95)])) _
              refine XS.aload X96.here hx rfl (hb hby at_141) rfl rfl ?_
              refine XS.iloadN X96.here hx rfl (hb hby at_143) rfl ?_
              refine XS.iloadN X96.here hx rfl (hb hby at_144) rfl ?_
              show Steps p.tables e below (T96.setTop (mkF m 145 #[.val (.int p1), .val (.int p2), .val (.int p3), .val (.int p4), .val (.int sv), .val (.int (2 : Int32)), .val (.int (1 : Int32)), .val (.int t0), .val (.int t1), .val (.int (mg0_50_s0 p4)), .val (.int m0), .val (.int m1), .val (.ref b1_93), .val (.ref b1_94), .unset, .unset] [(.int p1), (.int p3), (.ref b1_93), (.ref (res8 sv w_IRI w_PNAME_NS w_PNAME_LN w_BLANK_NODE_LABEL w_VAR w_STRING w_LANGTAG w_INTEGER w_DECIMAL w_DOUBLE w_NIL w_ANON w_WORD w_PUNCT w_EOF)), (.ref b95), (.ref b95)])) _
              refine XS.ixor X96.here hx rfl (hb hby at_145) rfl ?_
              show Steps p.tables e below (T96.setTop (mkF m 146 #[.val (.int p1), .val (.int p2), .val (.int p3), .val (.int p4), .val (.int sv), .val (.int (2 : Int32)), .val (.int (1 : Int32)), .val (.int t0), .val (.int t1), .val (.int (mg0_50_s0 p4)), .val (.int m0), .val (.int m1), .val (.ref b1_93), .val (.ref b1_94), .unset, .unset] [(.int (p3 ^^^ p1)), (.ref b1_93), (.ref (res8 sv w_IRI w_PNAME_NS w_PNAME_LN w_BLANK_NODE_LABEL w_VAR w_STRING w_LANGTAG w_INTEGER w_DECIMAL w_DOUBLE w_NIL w_ANON w_WORD w_PUNCT w_EOF)), (.ref b95), (.ref b95)])) _
              refine st97.trans ?_
              show Steps p.tables e below (T97.setTop (mkF m 149 #[.val (.int p1), .val (.int p2), .val (.int p3), .val (.int p4), .val (.int sv), .val (.int (2 : Int32)), .val (.int (1 : Int32)), .val (.int t0), .val (.int t1), .val (.int (mg0_50_s0 p4)), .val (.int m0), .val (.int m1), .val (.ref b1_93), .val (.ref b1_94), .unset, .unset] [(.ref b95)])) _
              refine XS.astore X97.here hx rfl (hb hby at_149) rfl rfl (l' := #[.val (.int p1), .val (.int p2), .val (.int p3), .val (.int p4), .val (.int sv), .val (.int (2 : Int32)), .val (.int (1 : Int32)), .val (.int t0), .val (.int t1), .val (.int (mg0_50_s0 p4)), .val (.int m0), .val (.int m1), .val (.ref b1_93), .val (.ref b1_94), .val (.ref b95), .unset]) rfl ?_
              refine XS.iload X97.here hx rfl (hb hby at_151) rfl ?_
              show Steps p.tables e below (T97.setTop (mkF m 153 #[.val (.int p1), .val (.int p2), .val (.int p3), .val (.int p4), .val (.int sv), .val (.int (2 : Int32)), .val (.int (1 : Int32)), .val (.int t0), .val (.int t1), .val (.int (mg0_50_s0 p4)), .val (.int m0), .val (.int m1), .val (.ref b1_93), .val (.ref b1_94), .val (.ref b95), .unset] [(.int sv)])) _
              refine XS.bipush X97.here hx rfl (hb hby at_153) ?_
              exact kt
            have pre100 : ∀ t, Steps p.tables e below (T97.setTop (mkF m 196 #[.val (.int p1), .val (.int p2), .val (.int p3), .val (.int p4), .val (.int sv), .val (.int (2 : Int32)), .val (.int (1 : Int32)), .val (.int t0), .val (.int t1), .val (.int (mg0_50_s0 p4)), .val (.int m0), .val (.int m1), .val (.ref b1_93), .val (.ref b1_94), .val (.ref b95), .unset] [(.int (0 : Int32))])) t → Steps p.tables e below (s₁.setTop (entryFrame m #[(.int p1), (.int p2), (.int p3), (.int p4)] maxLocals)) t := by
              intro t kt
              by_cases hc155_99 : sv = (13 : Int32)
              · skip
                refine pre98 _ ?_
                show Steps p.tables e below (T97.setTop (mkF m 155 #[.val (.int p1), .val (.int p2), .val (.int p3), .val (.int p4), .val (.int sv), .val (.int (2 : Int32)), .val (.int (1 : Int32)), .val (.int t0), .val (.int t1), .val (.int (mg0_50_s0 p4)), .val (.int m0), .val (.int m1), .val (.ref b1_93), .val (.ref b1_94), .val (.ref b95), .unset] [(.int (13 : Int32)), (.int sv)])) _
                refine XS.icmpNo X97.here hx rfl (hb hby at_155) rfl (teq hc155_99).2 ?_
                refine XS.iload X97.here hx rfl (hb hby at_158) rfl ?_
                show Steps p.tables e below (T97.setTop (mkF m 160 #[.val (.int p1), .val (.int p2), .val (.int p3), .val (.int p4), .val (.int sv), .val (.int (2 : Int32)), .val (.int (1 : Int32)), .val (.int t0), .val (.int t1), .val (.int (mg0_50_s0 p4)), .val (.int m0), .val (.int m1), .val (.ref b1_93), .val (.ref b1_94), .val (.ref b95), .unset] [(.int (2 : Int32))])) _
                refine XS.iload X97.here hx rfl (hb hby at_160) rfl ?_
                refine XS.icmpYes X97.here hx rfl (pc0 := 162) (pc' := 195) rfl (hb hby at_162) rfl (feq (by decide : ¬ ((2 : Int32) = (1 : Int32)))).2 (by decide) (by decide) ?_
                refine XS.iconst X97.here hx rfl (hb hby at_195) ?_
                exact kt
              · skip
                refine pre98 _ ?_
                show Steps p.tables e below (T97.setTop (mkF m 155 #[.val (.int p1), .val (.int p2), .val (.int p3), .val (.int p4), .val (.int sv), .val (.int (2 : Int32)), .val (.int (1 : Int32)), .val (.int t0), .val (.int t1), .val (.int (mg0_50_s0 p4)), .val (.int m0), .val (.int m1), .val (.ref b1_93), .val (.ref b1_94), .val (.ref b95), .unset] [(.int (13 : Int32)), (.int sv)])) _
                refine XS.icmpYes X97.here hx rfl (pc0 := 155) (pc' := 195) rfl (hb hby at_155) rfl (feq hc155_99).2 (by decide) (by decide) ?_
                refine XS.iconst X97.here hx rfl (hb hby at_195) ?_
                exact kt
            obtain ⟨cq101, kq101, q101a, q101b, q101c⟩ := isOf hZ rfl (A95.keep K97)
            obtain ⟨_, _, ⟨T101, L101, k101, n101⟩, -, X101, ⟨Lc101, hQ101, l101, y101, z101⟩, st101⟩ := X97.virtualBack hx (y := (⟨"com/example/cantrip/cantrip/Token", "is", "(Ljava/lang/String;)Z"⟩ : MethodName)) (z := (⟨"com/example/cantrip/cantrip/Token", "is", "(Ljava/lang/String;)Z"⟩ : MethodName)) hown (mvT hZ (hw _ (List.mem_of_getElem? (i := 62) rfl))) (mvT hZ (hw _ (List.mem_of_getElem? (i := 63) rfl))) (notFace_of_selects (args := #[]) (mvT hZ (hw _ (List.mem_of_getElem? (i := 65) rfl)))) (mvT hZ (hw _ (List.mem_of_getElem? (i := 65) rfl))) (mvT hZ (hw _ (List.mem_of_getElem? (i := 64) rfl))) (by decide) (backOf (W := 0) (rm_is_2_1 l Z a0 hw [] b95 b1_94 b1_3_2_5_94 k1_3_2_5_94 (nar .byte ((nar .char m0).toInt8.toInt32)) b1_93 b1_3_2_7_93 k1_3_2_7_93 (nar .byte ((nar .char t0).toInt8.toInt32)) (nar .byte ((nar .char t1).toInt8.toInt32)) (res8 sv w_IRI w_PNAME_NS w_PNAME_LN w_BLANK_NODE_LABEL w_VAR w_STRING w_LANGTAG w_INTEGER w_DECIMAL w_DOUBLE w_NIL w_ANON w_WORD w_PUNCT w_EOF) w_PUNCT w_COMPACT_STRINGS T97.heap n0 (Nat.le_trans Z0 KK97.1) ((f94_0.ext E95).keep K97) ((f94_1.ext E95).keep K97 (ninS (Nat.ne_of_lt (Nat.lt_of_lt_of_le f94_0.lt (Nat.le_of_eq g95.symm))) nin0)) ((f94_2.ext E95).keep K97 (ninS (Nat.ne_of_lt (Nat.lt_of_lt_of_le f94_0.lt (Nat.le_of_eq g95.symm))) nin0)) ((f94_3.ext E95).keep K97 (ninS (Nat.ne_of_lt (Nat.lt_of_lt_of_le f94_3.lt (Nat.le_of_eq g95.symm))) nin0)) f97_2 (((f93_0.keep K94).ext E95).keep K97) (((f93_1.keep K94 nin0).ext E95).keep K97 (ninS (Nat.ne_of_lt (Nat.lt_of_lt_of_le (f93_0.keep K94).lt (Nat.le_of_eq g95.symm))) nin0)) (((f93_2.keep K94 nin0).ext E95).keep K97 (ninS (Nat.ne_of_lt (Nat.lt_of_lt_of_le (f93_0.keep K94).lt (Nat.le_of_eq g95.symm))) nin0)) (((f93_3.keep K94 nin0).ext E95).keep K97 (ninS (Nat.ne_of_lt (Nat.lt_of_lt_of_le (f93_3.keep K94 nin0).lt (Nat.le_of_eq g95.symm))) nin0)) f97_1 (own_sta_keep ((own_sta_keep (own_sta_keep S_PUNCT K93 all0) K94 all0).ext E95) K97 (allS (own_exa_ns A95) all0)) (own_sta_keep ((own_sta_keep (own_sta_keep S_COMPACT_STRINGS K93 all0) K94 all0).ext E95) K97 (allS (own_exa_ns A95) all0)) ((Nat.ne_of_lt (Nat.lt_of_lt_of_le f93_0.lt s94_b1)) : b1_93 ≠ b1_94) (hCS : ¬ (w_COMPACT_STRINGS = (0 : Int32)))) hZ (hw _ (List.mem_of_getElem? (i := 66) rfl)) (hw _ (List.mem_of_getElem? (i := 40) rfl)) (by decide) (by decide)) q101a q101c (g := (mkF m 202 #[.val (.int p1), .val (.int p2), .val (.int p3), .val (.int p4), .val (.int sv), .val (.int (2 : Int32)), .val (.int (1 : Int32)), .val (.int t0), .val (.int t1), .val (.int (mg0_50_s0 p4)), .val (.int m0), .val (.int m1), .val (.ref b1_93), .val (.ref b1_94), .val (.ref b95), .val (.int (0 : Int32))] [(.ref b1_94), (.ref b95)])) rfl (by rw [hml]; rfl) (Steps.refl _) (argsL := [(.ref b1_94)]) (rest := []) (lenOf pd11 rfl) rfl (by show 2 * 0 + _ ≤ _; exact Nat.le_of_eq rfl) (hb hby at_202) (fun _ _ => ⟨rfl, rfl, (by decide : 7 + 0 ≤ _), (by decide : 17 + 0 ≤ _)⟩)
            dsimp only [Pt.U, Pt.locs, Pt.cells, Pt.slots] at X101 l101 y101 z101 st101 hQ101
            subst l101 y101 z101
            obtain ⟨rfl, rfl, e101⟩ := hQ101
            have N101 := Fr.app N97 (Fr.nil n0)
            obtain ⟨fs, hr, hrun, hended, hRW⟩ := X101.leaveW hS0 (Nat.le_trans hk_97 (Nat.le_of_eq (congrArg Array.size e101.symm))) (v := some (.int (1 : Int32))) (fun h => by rw [Bd.returns] at h; cases h)
            refine ⟨_, _, pre100 _ ?_, hrun, hended, _, _, rfl, ?_, hRW.1, hRW.2.1, hRW.2.2.1, hRW.2.2.2.mono (by decide) (by decide)⟩
            · show Steps p.tables e below (T97.setTop (mkF m 196 #[.val (.int p1), .val (.int p2), .val (.int p3), .val (.int p4), .val (.int sv), .val (.int (2 : Int32)), .val (.int (1 : Int32)), .val (.int t0), .val (.int t1), .val (.int (mg0_50_s0 p4)), .val (.int m0), .val (.int m1), .val (.ref b1_93), .val (.ref b1_94), .val (.ref b95), .unset] [(.int (0 : Int32))])) _
              refine XS.istore X97.here hx rfl (hb hby at_196) rfl (l' := #[.val (.int p1), .val (.int p2), .val (.int p3), .val (.int p4), .val (.int sv), .val (.int (2 : Int32)), .val (.int (1 : Int32)), .val (.int t0), .val (.int t1), .val (.int (mg0_50_s0 p4)), .val (.int m0), .val (.int m1), .val (.ref b1_93), .val (.ref b1_94), .val (.ref b95), .val (.int (0 : Int32))]) rfl ?_
              refine XS.aload X97.here hx rfl (hb hby at_198) rfl rfl ?_
              show Steps p.tables e below (T97.setTop (mkF m 200 #[.val (.int p1), .val (.int p2), .val (.int p3), .val (.int p4), .val (.int sv), .val (.int (2 : Int32)), .val (.int (1 : Int32)), .val (.int t0), .val (.int t1), .val (.int (mg0_50_s0 p4)), .val (.int m0), .val (.int m1), .val (.ref b1_93), .val (.ref b1_94), .val (.ref b95), .val (.int (0 : Int32))] [(.ref b95)])) _
              refine XS.aload X97.here hx rfl (hb hby at_200) rfl rfl ?_
              show Steps p.tables e below (T97.setTop (mkF m 202 #[.val (.int p1), .val (.int p2), .val (.int p3), .val (.int p4), .val (.int sv), .val (.int (2 : Int32)), .val (.int (1 : Int32)), .val (.int t0), .val (.int t1), .val (.int (mg0_50_s0 p4)), .val (.int m0), .val (.int m1), .val (.ref b1_93), .val (.ref b1_94), .val (.ref b95), .val (.int (0 : Int32))] [(.ref b1_94), (.ref b95)])) _
              refine st101.trans ?_
              show Steps p.tables e below (T101.setTop (mkF m 205 #[.val (.int p1), .val (.int p2), .val (.int p3), .val (.int p4), .val (.int sv), .val (.int (2 : Int32)), .val (.int (1 : Int32)), .val (.int t0), .val (.int t1), .val (.int (mg0_50_s0 p4)), .val (.int m0), .val (.int m1), .val (.ref b1_93), .val (.ref b1_94), .val (.ref b95), .val (.int (0 : Int32))] [(.int (res_is_2_1 (res8 sv w_IRI w_PNAME_NS w_PNAME_LN w_BLANK_NODE_LABEL w_VAR w_STRING w_LANGTAG w_INTEGER w_DECIMAL w_DOUBLE w_NIL w_ANON w_WORD w_PUNCT w_EOF) w_PUNCT))])) _
              refine XS.iload X101.here hx rfl (hb hby at_205) rfl ?_
              refine XS.icmpNo X101.here hx rfl (hb hby at_207) rfl (teq (own_eq_2_1 w_IRI w_PNAME_NS w_PNAME_LN w_BLANK_NODE_LABEL w_VAR w_STRING w_LANGTAG w_INTEGER w_DECIMAL w_DOUBLE w_NIL w_ANON w_WORD w_PUNCT w_EOF rs r_t0 r_t1 r_m0 r_m1 hD : (res_is_2_1 (res8 sv w_IRI w_PNAME_NS w_PNAME_LN w_BLANK_NODE_LABEL w_VAR w_STRING w_LANGTAG w_INTEGER w_DECIMAL w_DOUBLE w_NIL w_ANON w_WORD w_PUNCT w_EOF) w_PUNCT) = (0 : Int32))).2 ?_
              show Steps p.tables e below (T101.setTop (mkF m 210 #[.val (.int p1), .val (.int p2), .val (.int p3), .val (.int p4), .val (.int sv), .val (.int (2 : Int32)), .val (.int (1 : Int32)), .val (.int t0), .val (.int t1), .val (.int (mg0_50_s0 p4)), .val (.int m0), .val (.int m1), .val (.ref b1_93), .val (.ref b1_94), .val (.ref b95), .val (.int (0 : Int32))] [])) _
              refine XS.iconst X101.here hx rfl (hb hby at_210) ?_
              refine XS.goto X101.here hx rfl (pc0 := 211) (pc' := 215) rfl (hb hby at_211) (by decide) (by decide) ?_
              show Steps p.tables e below (T101.setTop (mkF m 215 #[.val (.int p1), .val (.int p2), .val (.int p3), .val (.int p4), .val (.int sv), .val (.int (2 : Int32)), .val (.int (1 : Int32)), .val (.int t0), .val (.int t1), .val (.int (mg0_50_s0 p4)), .val (.int m0), .val (.int m1), .val (.ref b1_93), .val (.ref b1_94), .val (.ref b95), .val (.int (0 : Int32))] [(.int (1 : Int32))])) _
              exact retN X101 hx (t := .boolean) Bd.returns (by simp) (hb hby at_215) hr
            · show Q0 Z p1 p2 p3 p4 w_IRI w_PNAME_NS w_PNAME_LN w_BLANK_NODE_LABEL w_VAR w_STRING w_LANGTAG w_INTEGER w_DECIMAL w_DOUBLE w_NIL w_ANON w_WORD w_PUNCT w_EOF w_COMPACT_STRINGS h0 n0 _ T101.heap _
              rw [e101]
              exact ⟨rfl, N101⟩
          · by_cases hv102 : ((((p4.toUInt32 >>> ((2 : Int32) &&& 31).toUInt32).toInt32) &&& (3 : Int32)) % (3 : Int32)) = (2 : Int32)
            · rw [hv102] at pre10
              obtain ⟨_, _, ⟨T103, L103, k103, n103⟩, -, X103, ⟨Lc103, hQ103, l103, y103, z103⟩, st103⟩ := Jvm.LawKit.callS X0 hx (y := (⟨"com/example/cantrip/cantrip/TokenIsPinLaw", "str", "(ICC)Ljava/lang/String;"⟩ : MethodName)) hown (mvT hZ (hw _ (List.mem_of_getElem? (i := 1) rfl))) (mvT hZ (hw _ (List.mem_of_getElem? (i := 2) rfl))) (mvT hZ (hw _ (List.mem_of_getElem? (i := 3) rfl))) (mvT hZ (hw _ (List.mem_of_getElem? (i := 4) rfl))) (by decide) (backOf (W := 0) (rm_str_2 l Z a0 hw [] t0 t1 w_COMPACT_STRINGS h0 n0 (Nat.le_trans Z0 (Keep.refl h0 []).1) S_COMPACT_STRINGS (hCS : ¬ (w_COMPACT_STRINGS = (0 : Int32))) (own_nc r_t0 : ¬ ((255 : Int32) < (nar .char t0))) (own_nc r_t1 : ¬ ((255 : Int32) < (nar .char t1)))) hZ (hw _ (List.mem_of_getElem? (i := 4) rfl)) (hw _ (List.mem_of_getElem? (i := 3) rfl)) (by decide) (by decide)) (g := (mkF m 116 #[.val (.int p1), .val (.int p2), .val (.int p3), .val (.int p4), .val (.int sv), .val (.int (2 : Int32)), .val (.int (2 : Int32)), .val (.int t0), .val (.int t1), .val (.int (mg0_50_s0 p4)), .val (.int m0), .val (.int m1), .unset, .unset, .unset, .unset] [(.int t1), (.int t0), (.int (2 : Int32))])) rfl (by rw [hml]; rfl) (argsL := [(.int (2 : Int32)), (.int t0), (.int t1)]) (rest := []) (lenOf pd8 rfl) rfl (by show 2 * 0 + _ ≤ _; exact Nat.le_of_eq rfl) (hb hby at_116) (fun _ _ => ⟨rfl, e0, (by decide : 0 + 3 ≤ _), (by decide : 0 + 8 ≤ _)⟩)
              dsimp only [Pt.U, Pt.locs, Pt.cells, Pt.slots] at X103 l103 y103 z103 st103 hQ103
              subst l103 y103 z103
              obtain ⟨b1_103, b1_3_2_7_103, k1_3_2_7_103, rfl, N103q, K103, s103_b1, s103_b1_3_2_7, f103_0, f103_1, f103_2, f103_3⟩ := hQ103
              have N103 := Fr.app N0 N103q
              have sz_b1_103 : h0.size ≤ b1_103 := Nat.le_trans (Keep.refl h0 []).1 s103_b1
              have g_b1_103 : n0 ≤ b1_103 := Nat.le_trans Z0 sz_b1_103
              have sz_b1_3_2_7_103 : h0.size ≤ b1_3_2_7_103 := Nat.le_trans (Keep.refl h0 []).1 s103_b1_3_2_7
              have g_b1_3_2_7_103 : n0 ≤ b1_3_2_7_103 := Nat.le_trans Z0 sz_b1_3_2_7_103
              have KK103 : Keep h0 T103.heap [] := (Keep.refl h0 []).trans K103 all0
              have hk_103 := Nat.le_trans (Nat.zero_le _) K103.1
              have CR103 := CHr.trans CR0 (CHr.keep K103 all0 CR0.1)
              obtain ⟨_, _, ⟨T104, L104, k104, n104⟩, -, X104, ⟨Lc104, hQ104, l104, y104, z104⟩, st104⟩ := Jvm.LawKit.callS X103 hx (y := (⟨"com/example/cantrip/cantrip/TokenIsPinLaw", "str", "(ICC)Ljava/lang/String;"⟩ : MethodName)) hown (mvT hZ (hw _ (List.mem_of_getElem? (i := 1) rfl))) (mvT hZ (hw _ (List.mem_of_getElem? (i := 2) rfl))) (mvT hZ (hw _ (List.mem_of_getElem? (i := 3) rfl))) (mvT hZ (hw _ (List.mem_of_getElem? (i := 4) rfl))) (by decide) (backOf (W := 0) (rm_str_2 l Z a0 hw [] m0 m1 w_COMPACT_STRINGS T103.heap n0 (Nat.le_trans Z0 KK103.1) (own_sta_keep S_COMPACT_STRINGS K103 all0) (hCS : ¬ (w_COMPACT_STRINGS = (0 : Int32))) (own_nc r_m0 : ¬ ((255 : Int32) < (nar .char m0))) (own_nc r_m1 : ¬ ((255 : Int32) < (nar .char m1)))) hZ (hw _ (List.mem_of_getElem? (i := 4) rfl)) (hw _ (List.mem_of_getElem? (i := 3) rfl)) (by decide) (by decide)) (g := (mkF m 127 #[.val (.int p1), .val (.int p2), .val (.int p3), .val (.int p4), .val (.int sv), .val (.int (2 : Int32)), .val (.int (2 : Int32)), .val (.int t0), .val (.int t1), .val (.int (mg0_50_s0 p4)), .val (.int m0), .val (.int m1), .val (.ref b1_103), .unset, .unset, .unset] [(.int m1), (.int m0), (.int (2 : Int32))])) rfl (by rw [hml]; rfl) (argsL := [(.int (2 : Int32)), (.int m0), (.int m1)]) (rest := []) (lenOf pd8 rfl) rfl (by show 2 * 0 + _ ≤ _; exact Nat.le_of_eq rfl) (hb hby at_127) (fun _ _ => ⟨rfl, rfl, (by decide : 3 + 3 ≤ _), (by decide : 8 + 8 ≤ _)⟩)
              dsimp only [Pt.U, Pt.locs, Pt.cells, Pt.slots] at X104 l104 y104 z104 st104 hQ104
              subst l104 y104 z104
              obtain ⟨b1_104, b1_3_2_7_104, k1_3_2_7_104, rfl, N104q, K104, s104_b1, s104_b1_3_2_7, f104_0, f104_1, f104_2, f104_3⟩ := hQ104
              have N104 := Fr.app N103 N104q
              have sz_b1_104 : h0.size ≤ b1_104 := Nat.le_trans KK103.1 s104_b1
              have g_b1_104 : n0 ≤ b1_104 := Nat.le_trans Z0 sz_b1_104
              have sz_b1_3_2_7_104 : h0.size ≤ b1_3_2_7_104 := Nat.le_trans KK103.1 s104_b1_3_2_7
              have g_b1_3_2_7_104 : n0 ≤ b1_3_2_7_104 := Nat.le_trans Z0 sz_b1_3_2_7_104
              have KK104 : Keep h0 T104.heap [] := KK103.trans K104 all0
              have hk_104 := Nat.le_trans hk_103 K104.1
              have CR104 := CHr.trans CR103 (CHr.keep K104 all0 CR103.1)
              obtain ⟨T105, h105, X105, e105, E105, A105, D105, -, st105⟩ := newO X104 hx hZ hown (hw _ (List.mem_of_getElem? (i := 38) rfl)) (hw _ (List.mem_of_getElem? (i := 39) rfl)) (hw _ (List.mem_of_getElem? (i := 40) rfl)) rfl (g := (mkF m 132 #[.val (.int p1), .val (.int p2), .val (.int p3), .val (.int p4), .val (.int sv), .val (.int (2 : Int32)), .val (.int (2 : Int32)), .val (.int t0), .val (.int t1), .val (.int (mg0_50_s0 p4)), .val (.int m0), .val (.int m1), .val (.ref b1_103), .val (.ref b1_104), .unset, .unset] [])) rfl (hb hby at_132) (by decide) (by decide)
              obtain ⟨b105, g105⟩ : ∃ z, z = T104.heap.size := ⟨_, rfl⟩
              rw [← g105] at A105 D105 st105
              have sz_b105 : h0.size ≤ b105 := Nat.le_trans KK104.1 (Nat.le_of_eq g105.symm)
              have g_b105 : n0 ≤ b105 := Nat.le_trans Z0 sz_b105
              have K105 : Keep h0 h105 [] := KK104.ext E105
              have hk_105 := Nat.le_trans hk_104 E105.1
              have F_kind_b105 : Fld Z h105 b105 "com/example/cantrip/cantrip/Token" "kind" "Lcom/example/cantrip/cantrip/Token$Kind;" .null := D105 (Or.inr (hw _ (List.mem_of_getElem? (i := 57) rfl))) (ty := (.object "com/example/cantrip/cantrip/Token$Kind")) (by decide)
              have F_text_b105 : Fld Z h105 b105 "com/example/cantrip/cantrip/Token" "text" "Ljava/lang/String;" .null := D105 (Or.inr (hw _ (List.mem_of_getElem? (i := 59) rfl))) (ty := (.object "java/lang/String")) (by decide)
              have F_offset_b105 : Fld Z h105 b105 "com/example/cantrip/cantrip/Token" "offset" "I" (.int (0 : Int32)) := D105 (Or.inr (hw _ (List.mem_of_getElem? (i := 61) rfl))) (ty := .int) (by decide)
              obtain ⟨_, _, ⟨T106, L106, k106, n106⟩, -, X106, ⟨Lc106, hQ106, l106, y106, z106⟩, st106⟩ := Jvm.LawKit.callS X105 hx (y := (⟨"com/example/cantrip/cantrip/TokenIsPinLaw", "kindOf", "(I)Lcom/example/cantrip/cantrip/Token$Kind;"⟩ : MethodName)) hown (mvT hZ (hw _ (List.mem_of_getElem? (i := 41) rfl))) (mvT hZ (hw _ (List.mem_of_getElem? (i := 42) rfl))) (mvT hZ (hw _ (List.mem_of_getElem? (i := 3) rfl))) (mvT hZ (hw _ (List.mem_of_getElem? (i := 43) rfl))) (by decide) (backOf (W := 2) (rm8 l Z a0 hw [] sv w_IRI w_PNAME_NS w_PNAME_LN w_BLANK_NODE_LABEL w_VAR w_STRING w_LANGTAG w_INTEGER w_DECIMAL w_DOUBLE w_NIL w_ANON w_WORD w_PUNCT w_EOF h105 n0 (Nat.le_trans Z0 K105.1) ((own_sta_keep (own_sta_keep S_IRI K103 all0) K104 all0).ext E105) ((own_sta_keep (own_sta_keep S_PNAME_NS K103 all0) K104 all0).ext E105) ((own_sta_keep (own_sta_keep S_PNAME_LN K103 all0) K104 all0).ext E105) ((own_sta_keep (own_sta_keep S_BLANK_NODE_LABEL K103 all0) K104 all0).ext E105) ((own_sta_keep (own_sta_keep S_VAR K103 all0) K104 all0).ext E105) ((own_sta_keep (own_sta_keep S_STRING K103 all0) K104 all0).ext E105) ((own_sta_keep (own_sta_keep S_LANGTAG K103 all0) K104 all0).ext E105) ((own_sta_keep (own_sta_keep S_INTEGER K103 all0) K104 all0).ext E105) ((own_sta_keep (own_sta_keep S_DECIMAL K103 all0) K104 all0).ext E105) ((own_sta_keep (own_sta_keep S_DOUBLE K103 all0) K104 all0).ext E105) ((own_sta_keep (own_sta_keep S_NIL K103 all0) K104 all0).ext E105) ((own_sta_keep (own_sta_keep S_ANON K103 all0) K104 all0).ext E105) ((own_sta_keep (own_sta_keep S_WORD K103 all0) K104 all0).ext E105) ((own_sta_keep (own_sta_keep S_PUNCT K103 all0) K104 all0).ext E105) ((own_sta_keep (own_sta_keep S_EOF K103 all0) K104 all0).ext E105) ) hZ (hw _ (List.mem_of_getElem? (i := 43) rfl)) (hw _ (List.mem_of_getElem? (i := 3) rfl)) (by decide) (by decide)) (g := (mkF m 138 #[.val (.int p1), .val (.int p2), .val (.int p3), .val (.int p4), .val (.int sv), .val (.int (2 : Int32)), .val (.int (2 : Int32)), .val (.int t0), .val (.int t1), .val (.int (mg0_50_s0 p4)), .val (.int m0), .val (.int m1), .val (.ref b1_103), .val (.ref b1_104), .unset, .unset] [(.int sv), (.ref b105), (.ref b105)])) rfl (by rw [hml]; rfl) (argsL := [(.int sv)]) (rest := [(.ref b105), (.ref b105)]) (lenOf pd9 rfl) rfl (by show 2 * 0 + _ ≤ _; exact Nat.le_of_eq rfl) (hb hby at_138) (fun _ _ => ⟨rfl, e105, (by decide : 7 + 0 ≤ _), (by decide : 19 + 0 ≤ _)⟩)
              dsimp only [Pt.U, Pt.locs, Pt.cells, Pt.slots] at X106 l106 y106 z106 st106 hQ106
              subst l106 y106 z106
              obtain ⟨rfl, rfl, e106⟩ := hQ106
              have N106 := Fr.app N104 (Fr.nil n0)
              obtain ⟨_, _, ⟨T107, L107, k107, n107⟩, -, X107, ⟨Lc107, hQ107, l107, y107, z107⟩, st107⟩ := X106.specialBack hx (y := (⟨"com/example/cantrip/cantrip/Token", "<init>", "(Lcom/example/cantrip/cantrip/Token$Kind;Ljava/lang/String;I)V"⟩ : MethodName)) rfl hown (mvT hZ (hw _ (List.mem_of_getElem? (i := 47) rfl))) (mvT hZ (hw _ (List.mem_of_getElem? (i := 48) rfl))) (mvT hZ (hw _ (List.mem_of_getElem? (i := 49) rfl))) (by decide) (backOf (W := 1) (rm9 l Z a0 hw [] b105 (res8 sv w_IRI w_PNAME_NS w_PNAME_LN w_BLANK_NODE_LABEL w_VAR w_STRING w_LANGTAG w_INTEGER w_DECIMAL w_DOUBLE w_NIL w_ANON w_WORD w_PUNCT w_EOF) b1_103 (p3 ^^^ p1) .null .null (.int (0 : Int32)) h105 n0 (Nat.le_trans Z0 K105.1) A105 F_kind_b105 g_b105 F_text_b105 F_offset_b105 ) hZ (hw _ (List.mem_of_getElem? (i := 49) rfl)) (hw _ (List.mem_of_getElem? (i := 40) rfl)) (by decide) (by decide)) (g := (mkF m 146 #[.val (.int p1), .val (.int p2), .val (.int p3), .val (.int p4), .val (.int sv), .val (.int (2 : Int32)), .val (.int (2 : Int32)), .val (.int t0), .val (.int t1), .val (.int (mg0_50_s0 p4)), .val (.int m0), .val (.int m1), .val (.ref b1_103), .val (.ref b1_104), .unset, .unset] [(.int (p3 ^^^ p1)), (.ref b1_103), (.ref (res8 sv w_IRI w_PNAME_NS w_PNAME_LN w_BLANK_NODE_LABEL w_VAR w_STRING w_LANGTAG w_INTEGER w_DECIMAL w_DOUBLE w_NIL w_ANON w_WORD w_PUNCT w_EOF)), (.ref b105), (.ref b105)])) rfl (by rw [hml]; rfl) (Steps.refl _) (a := b105) (argsL := [(.ref (res8 sv w_IRI w_PNAME_NS w_PNAME_LN w_BLANK_NODE_LABEL w_VAR w_STRING w_LANGTAG w_INTEGER w_DECIMAL w_DOUBLE w_NIL w_ANON w_WORD w_PUNCT w_EOF)), (.ref b1_103), (.int (p3 ^^^ p1))]) (rest := [(.ref b105)]) (lenOf pd10 rfl) rfl (by show 2 * 0 + _ ≤ _; exact Nat.le_of_eq rfl) (hb hby at_146) (fun _ _ => ⟨rfl, e106, (by decide : 7 + 0 ≤ _), (by decide : 19 + 0 ≤ _)⟩)
              dsimp only [Pt.U, Pt.locs, Pt.cells, Pt.slots] at X107 l107 y107 z107 st107 hQ107
              subst l107 y107 z107
              obtain ⟨rfl, N107q, K107, f107_0, f107_1, f107_2, f107_3⟩ := hQ107
              have N107 := Fr.app N106 N107q
              have KK107 : Keep h0 T107.heap [] := K105.trans K107 (allS (Or.inr sz_b105) all0)
              have hk_107 := Nat.le_trans hk_105 K107.1
              have pre108 : ∀ t, Steps p.tables e below (T107.setTop (mkF m 155 #[.val (.int p1), .val (.int p2), .val (.int p3), .val (.int p4), .val (.int sv), .val (.int (2 : Int32)), .val (.int (2 : Int32)), .val (.int t0), .val (.int t1), .val (.int (mg0_50_s0 p4)), .val (.int m0), .val (.int m1), .val (.ref b1_103), .val (.ref b1_104), .val (.ref b105), .unset] [(.int (13 : Int32)), (.int sv)])) t → Steps p.tables e below (s₁.setTop (entryFrame m #[(.int p1), (.int p2), (.int p3), (.int p4)] maxLocals)) t := by
                intro t kt
                refine pre10 _ ?_
                show Steps p.tables e below (s₁.setTop (mkF m 110 #[.val (.int p1), .val (.int p2), .val (.int p3), .val (.int p4), .val (.int sv), .val (.int (2 : Int32)), .val (.int (2 : Int32)), .val (.int t0), .val (.int t1), .val (.int (mg0_50_s0 p4)), .val (.int m0), .val (.int m1), .unset, .unset, .unset, .unset] [])) _
                refine XS.iload X0.here hx rfl (hb hby at_110) rfl ?_
                show Steps p.tables e below (s₁.setTop (mkF m 112 #[.val (.int p1), .val (.int p2), .val (.int p3), .val (.int p4), .val (.int sv), .val (.int (2 : Int32)), .val (.int (2 : Int32)), .val (.int t0), .val (.int t1), .val (.int (mg0_50_s0 p4)), .val (.int m0), .val (.int m1), .unset, .unset, .unset, .unset] [(.int (2 : Int32))])) _
                refine XS.iload X0.here hx rfl (hb hby at_112) rfl ?_
                refine XS.iload X0.here hx rfl (hb hby at_114) rfl ?_
                show Steps p.tables e below (s₁.setTop (mkF m 116 #[.val (.int p1), .val (.int p2), .val (.int p3), .val (.int p4), .val (.int sv), .val (.int (2 : Int32)), .val (.int (2 : Int32)), .val (.int t0), .val (.int t1), .val (.int (mg0_50_s0 p4)), .val (.int m0), .val (.int m1), .unset, .unset, .unset, .unset] [(.int t1), (.int t0), (.int (2 : Int32))])) _
                refine st103 _ ?_
                show Steps p.tables e below (T103.setTop (mkF m 119 #[.val (.int p1), .val (.int p2), .val (.int p3), .val (.int p4), .val (.int sv), .val (.int (2 : Int32)), .val (.int (2 : Int32)), .val (.int t0), .val (.int t1), .val (.int (mg0_50_s0 p4)), .val (.int m0), .val (.int m1), .unset, .unset, .unset, .unset] [(.ref b1_103)])) _
                refine XS.astore X103.here hx rfl (hb hby at_119) rfl rfl (l' := #[.val (.int p1), .val (.int p2), .val (.int p3), .val (.int p4), .val (.int sv), .val (.int (2 : Int32)), .val (.int (2 : Int32)), .val (.int t0), .val (.int t1), .val (.int (mg0_50_s0 p4)), .val (.int m0), .val (.int m1), .val (.ref b1_103), .unset, .unset, .unset]) rfl ?_
                show Steps p.tables e below (T103.setTop (mkF m 121 #[.val (.int p1), .val (.int p2), .val (.int p3), .val (.int p4), .val (.int sv), .val (.int (2 : Int32)), .val (.int (2 : Int32)), .val (.int t0), .val (.int t1), .val (.int (mg0_50_s0 p4)), .val (.int m0), .val (.int m1), .val (.ref b1_103), .unset, .unset, .unset] [])) _
                refine XS.iload X103.here hx rfl (hb hby at_121) rfl ?_
                refine XS.iload X103.here hx rfl (hb hby at_123) rfl ?_
                refine XS.iload X103.here hx rfl (hb hby at_125) rfl ?_
                show Steps p.tables e below (T103.setTop (mkF m 127 #[.val (.int p1), .val (.int p2), .val (.int p3), .val (.int p4), .val (.int sv), .val (.int (2 : Int32)), .val (.int (2 : Int32)), .val (.int t0), .val (.int t1), .val (.int (mg0_50_s0 p4)), .val (.int m0), .val (.int m1), .val (.ref b1_103), .unset, .unset, .unset] [(.int m1), (.int m0), (.int (2 : Int32))])) _
                refine st104 _ ?_
                show Steps p.tables e below (T104.setTop (mkF m 130 #[.val (.int p1), .val (.int p2), .val (.int p3), .val (.int p4), .val (.int sv), .val (.int (2 : Int32)), .val (.int (2 : Int32)), .val (.int t0), .val (.int t1), .val (.int (mg0_50_s0 p4)), .val (.int m0), .val (.int m1), .val (.ref b1_103), .unset, .unset, .unset] [(.ref b1_104)])) _
                refine XS.astore X104.here hx rfl (hb hby at_130) rfl rfl (l' := #[.val (.int p1), .val (.int p2), .val (.int p3), .val (.int p4), .val (.int sv), .val (.int (2 : Int32)), .val (.int (2 : Int32)), .val (.int t0), .val (.int t1), .val (.int (mg0_50_s0 p4)), .val (.int m0), .val (.int m1), .val (.ref b1_103), .val (.ref b1_104), .unset, .unset]) rfl ?_
                show Steps p.tables e below (T104.setTop (mkF m 132 #[.val (.int p1), .val (.int p2), .val (.int p3), .val (.int p4), .val (.int sv), .val (.int (2 : Int32)), .val (.int (2 : Int32)), .val (.int t0), .val (.int t1), .val (.int (mg0_50_s0 p4)), .val (.int m0), .val (.int m1), .val (.ref b1_103), .val (.ref b1_104), .unset, .unset] [])) _
                refine st105 _ ?_
                show Steps p.tables e below (T105.setTop (mkF m 135 #[.val (.int p1), .val (.int p2), .val (.int p3), .val (.int p4), .val (.int sv), .val (.int (2 : Int32)), .val (.int (2 : Int32)), .val (.int t0), .val (.int t1), .val (.int (mg0_50_s0 p4)), .val (.int m0), .val (.int m1), .val (.ref b1_103), .val (.ref b1_104), .unset, .unset] [(.ref b105)])) _
                refine XS.dup X105.here hx rfl (hb hby at_135) rfl rfl ?_
                refine XS.iload X105.here hx rfl (hb hby at_136) rfl ?_
                show Steps p.tables e below (T105.setTop (mkF m 138 #[.val (.int p1), .val (.int p2), .val (.int p3), .val (.int p4), .val (.int sv), .val (.int (2 : Int32)), .val (.int (2 : Int32)), .val (.int t0), .val (.int t1), .val (.int (mg0_50_s0 p4)), .val (.int m0), .val (.int m1), .val (.ref b1_103), .val (.ref b1_104), .unset, .unset] [(.int sv), (.ref b105), (.ref b105)])) _
                refine st106 _ ?_
                show Steps p.tables e below (T106.setTop (mkF m 141 #[.val (.int p1), .val (.int p2), .val (.int p3), .val (.int p4), .val (.int sv), .val (.int (2 : Int32)), .val (.int (2 : Int32)), .val (.int t0), .val (.int t1), .val (.int (mg0_50_s0 p4)), .val (.int m0), .val (.int m1), .val (.ref b1_103), .val (.ref b1_104), .unset, .unset] [(.ref (res8 sv w_IRI w_PNAME_NS w_PNAME_LN w_BLANK_NODE_LABEL w_VAR w_STRING w_LANGTAG w_INTEGER w_DECIMAL w_DOUBLE w_NIL w_ANON w_WORD w_PUNCT w_EOF)), (.ref b105), (.ref b105)])) _
                refine XS.aload X106.here hx rfl (hb hby at_141) rfl rfl ?_
                refine XS.iloadN X106.here hx rfl (hb hby at_143) rfl ?_
                refine XS.iloadN X106.here hx rfl (hb hby at_144) rfl ?_
                show Steps p.tables e below (T106.setTop (mkF m 145 #[.val (.int p1), .val (.int p2), .val (.int p3), .val (.int p4), .val (.int sv), .val (.int (2 : Int32)), .val (.int (2 : Int32)), .val (.int t0), .val (.int t1), .val (.int (mg0_50_s0 p4)), .val (.int m0), .val (.int m1), .val (.ref b1_103), .val (.ref b1_104), .unset, .unset] [(.int p1), (.int p3), (.ref b1_103), (.ref (res8 sv w_IRI w_PNAME_NS w_PNAME_LN w_BLANK_NODE_LABEL w_VAR w_STRING w_LANGTAG w_INTEGER w_DECIMAL w_DOUBLE w_NIL w_ANON w_WORD w_PUNCT w_EOF)), (.ref b105), (.ref b105)])) _
                refine XS.ixor X106.here hx rfl (hb hby at_145) rfl ?_
                show Steps p.tables e below (T106.setTop (mkF m 146 #[.val (.int p1), .val (.int p2), .val (.int p3), .val (.int p4), .val (.int sv), .val (.int (2 : Int32)), .val (.int (2 : Int32)), .val (.int t0), .val (.int t1), .val (.int (mg0_50_s0 p4)), .val (.int m0), .val (.int m1), .val (.ref b1_103), .val (.ref b1_104), .unset, .unset] [(.int (p3 ^^^ p1)), (.ref b1_103), (.ref (res8 sv w_IRI w_PNAME_NS w_PNAME_LN w_BLANK_NODE_LABEL w_VAR w_STRING w_LANGTAG w_INTEGER w_DECIMAL w_DOUBLE w_NIL w_ANON w_WORD w_PUNCT w_EOF)), (.ref b105), (.ref b105)])) _
                refine st107.trans ?_
                show Steps p.tables e below (T107.setTop (mkF m 149 #[.val (.int p1), .val (.int p2), .val (.int p3), .val (.int p4), .val (.int sv), .val (.int (2 : Int32)), .val (.int (2 : Int32)), .val (.int t0), .val (.int t1), .val (.int (mg0_50_s0 p4)), .val (.int m0), .val (.int m1), .val (.ref b1_103), .val (.ref b1_104), .unset, .unset] [(.ref b105)])) _
                refine XS.astore X107.here hx rfl (hb hby at_149) rfl rfl (l' := #[.val (.int p1), .val (.int p2), .val (.int p3), .val (.int p4), .val (.int sv), .val (.int (2 : Int32)), .val (.int (2 : Int32)), .val (.int t0), .val (.int t1), .val (.int (mg0_50_s0 p4)), .val (.int m0), .val (.int m1), .val (.ref b1_103), .val (.ref b1_104), .val (.ref b105), .unset]) rfl ?_
                refine XS.iload X107.here hx rfl (hb hby at_151) rfl ?_
                show Steps p.tables e below (T107.setTop (mkF m 153 #[.val (.int p1), .val (.int p2), .val (.int p3), .val (.int p4), .val (.int sv), .val (.int (2 : Int32)), .val (.int (2 : Int32)), .val (.int t0), .val (.int t1), .val (.int (mg0_50_s0 p4)), .val (.int m0), .val (.int m1), .val (.ref b1_103), .val (.ref b1_104), .val (.ref b105), .unset] [(.int sv)])) _
                refine XS.bipush X107.here hx rfl (hb hby at_153) ?_
                exact kt
              have pre114 : ∀ t, Steps p.tables e below (T107.setTop (mkF m 196 #[.val (.int p1), .val (.int p2), .val (.int p3), .val (.int p4), .val (.int sv), .val (.int (2 : Int32)), .val (.int (2 : Int32)), .val (.int t0), .val (.int t1), .val (.int (mg0_50_s0 p4)), .val (.int m0), .val (.int m1), .val (.ref b1_103), .val (.ref b1_104), .val (.ref b105), .unset] [(.int (mg0_155_s0'' sv m0 m1 t0 t1))])) t → Steps p.tables e below (s₁.setTop (entryFrame m #[(.int p1), (.int p2), (.int p3), (.int p4)] maxLocals)) t := by
                intro t kt
                by_cases hc155_109 : sv = (13 : Int32)
                · have pre110 : ∀ t, Steps p.tables e below (T107.setTop (mkF m 175 #[.val (.int p1), .val (.int p2), .val (.int p3), .val (.int p4), .val (.int sv), .val (.int (2 : Int32)), .val (.int (2 : Int32)), .val (.int t0), .val (.int t1), .val (.int (mg0_50_s0 p4)), .val (.int m0), .val (.int m1), .val (.ref b1_103), .val (.ref b1_104), .val (.ref b105), .unset] [(.int m0), (.int t0)])) t → Steps p.tables e below (s₁.setTop (entryFrame m #[(.int p1), (.int p2), (.int p3), (.int p4)] maxLocals)) t := by
                    intro t kt
                    refine pre108 _ ?_
                    show Steps p.tables e below (T107.setTop (mkF m 155 #[.val (.int p1), .val (.int p2), .val (.int p3), .val (.int p4), .val (.int sv), .val (.int (2 : Int32)), .val (.int (2 : Int32)), .val (.int t0), .val (.int t1), .val (.int (mg0_50_s0 p4)), .val (.int m0), .val (.int m1), .val (.ref b1_103), .val (.ref b1_104), .val (.ref b105), .unset] [(.int (13 : Int32)), (.int sv)])) _
                    refine XS.icmpNo X107.here hx rfl (hb hby at_155) rfl (teq hc155_109).2 ?_
                    refine XS.iload X107.here hx rfl (hb hby at_158) rfl ?_
                    show Steps p.tables e below (T107.setTop (mkF m 160 #[.val (.int p1), .val (.int p2), .val (.int p3), .val (.int p4), .val (.int sv), .val (.int (2 : Int32)), .val (.int (2 : Int32)), .val (.int t0), .val (.int t1), .val (.int (mg0_50_s0 p4)), .val (.int m0), .val (.int m1), .val (.ref b1_103), .val (.ref b1_104), .val (.ref b105), .unset] [(.int (2 : Int32))])) _
                    refine XS.iload X107.here hx rfl (hb hby at_160) rfl ?_
                    refine XS.icmpNo X107.here hx rfl (hb hby at_162) rfl (teq (by decide : (2 : Int32) = (2 : Int32))).2 ?_
                    refine XS.iload X107.here hx rfl (hb hby at_165) rfl ?_
                    show Steps p.tables e below (T107.setTop (mkF m 167 #[.val (.int p1), .val (.int p2), .val (.int p3), .val (.int p4), .val (.int sv), .val (.int (2 : Int32)), .val (.int (2 : Int32)), .val (.int t0), .val (.int t1), .val (.int (mg0_50_s0 p4)), .val (.int m0), .val (.int m1), .val (.ref b1_103), .val (.ref b1_104), .val (.ref b105), .unset] [(.int (2 : Int32))])) _
                    refine XS.iconst X107.here hx rfl (hb hby at_167) ?_
                    refine XS.icmpNo X107.here hx rfl (hb hby at_168) rfl (flt (by decide : ¬ ((2 : Int32) < (1 : Int32)))).1 ?_
                    refine XS.iload X107.here hx rfl (hb hby at_171) rfl ?_
                    show Steps p.tables e below (T107.setTop (mkF m 173 #[.val (.int p1), .val (.int p2), .val (.int p3), .val (.int p4), .val (.int sv), .val (.int (2 : Int32)), .val (.int (2 : Int32)), .val (.int t0), .val (.int t1), .val (.int (mg0_50_s0 p4)), .val (.int m0), .val (.int m1), .val (.ref b1_103), .val (.ref b1_104), .val (.ref b105), .unset] [(.int t0)])) _
                    refine XS.iload X107.here hx rfl (hb hby at_173) rfl ?_
                    exact kt
                  by_cases hc175_111 : t0 = m0
                  · have pre112 : ∀ t, Steps p.tables e below (T107.setTop (mkF m 188 #[.val (.int p1), .val (.int p2), .val (.int p3), .val (.int p4), .val (.int sv), .val (.int (2 : Int32)), .val (.int (2 : Int32)), .val (.int t0), .val (.int t1), .val (.int (mg0_50_s0 p4)), .val (.int m0), .val (.int m1), .val (.ref b1_103), .val (.ref b1_104), .val (.ref b105), .unset] [(.int m1), (.int t1)])) t → Steps p.tables e below (s₁.setTop (entryFrame m #[(.int p1), (.int p2), (.int p3), (.int p4)] maxLocals)) t := by
                      intro t kt
                      refine pre110 _ ?_
                      show Steps p.tables e below (T107.setTop (mkF m 175 #[.val (.int p1), .val (.int p2), .val (.int p3), .val (.int p4), .val (.int sv), .val (.int (2 : Int32)), .val (.int (2 : Int32)), .val (.int t0), .val (.int t1), .val (.int (mg0_50_s0 p4)), .val (.int m0), .val (.int m1), .val (.ref b1_103), .val (.ref b1_104), .val (.ref b105), .unset] [(.int m0), (.int t0)])) _
                      refine XS.icmpNo X107.here hx rfl (hb hby at_175) rfl (teq hc175_111).2 ?_
                      refine XS.iload X107.here hx rfl (hb hby at_178) rfl ?_
                      show Steps p.tables e below (T107.setTop (mkF m 180 #[.val (.int p1), .val (.int p2), .val (.int p3), .val (.int p4), .val (.int sv), .val (.int (2 : Int32)), .val (.int (2 : Int32)), .val (.int t0), .val (.int t1), .val (.int (mg0_50_s0 p4)), .val (.int m0), .val (.int m1), .val (.ref b1_103), .val (.ref b1_104), .val (.ref b105), .unset] [(.int (2 : Int32))])) _
                      refine XS.iconst X107.here hx rfl (hb hby at_180) ?_
                      refine XS.icmpNo X107.here hx rfl (hb hby at_181) rfl (flt (by decide : ¬ ((2 : Int32) < (2 : Int32)))).1 ?_
                      refine XS.iload X107.here hx rfl (hb hby at_184) rfl ?_
                      show Steps p.tables e below (T107.setTop (mkF m 186 #[.val (.int p1), .val (.int p2), .val (.int p3), .val (.int p4), .val (.int sv), .val (.int (2 : Int32)), .val (.int (2 : Int32)), .val (.int t0), .val (.int t1), .val (.int (mg0_50_s0 p4)), .val (.int m0), .val (.int m1), .val (.ref b1_103), .val (.ref b1_104), .val (.ref b105), .unset] [(.int t1)])) _
                      refine XS.iload X107.here hx rfl (hb hby at_186) rfl ?_
                      exact kt
                    by_cases hc188_113 : t1 = m1
                    · rw [show (mg0_155_s0'' sv m0 m1 t0 t1) = (1 : Int32) from by rw [mg0_155_s0'', if_pos hc155_109, if_pos hc175_111, if_pos hc188_113]] at kt
                      refine pre112 _ ?_
                      show Steps p.tables e below (T107.setTop (mkF m 188 #[.val (.int p1), .val (.int p2), .val (.int p3), .val (.int p4), .val (.int sv), .val (.int (2 : Int32)), .val (.int (2 : Int32)), .val (.int t0), .val (.int t1), .val (.int (mg0_50_s0 p4)), .val (.int m0), .val (.int m1), .val (.ref b1_103), .val (.ref b1_104), .val (.ref b105), .unset] [(.int m1), (.int t1)])) _
                      refine XS.icmpNo X107.here hx rfl (hb hby at_188) rfl (teq hc188_113).2 ?_
                      refine XS.iconst X107.here hx rfl (hb hby at_191) ?_
                      show Steps p.tables e below (T107.setTop (mkF m 192 #[.val (.int p1), .val (.int p2), .val (.int p3), .val (.int p4), .val (.int sv), .val (.int (2 : Int32)), .val (.int (2 : Int32)), .val (.int t0), .val (.int t1), .val (.int (mg0_50_s0 p4)), .val (.int m0), .val (.int m1), .val (.ref b1_103), .val (.ref b1_104), .val (.ref b105), .unset] [(.int (1 : Int32))])) _
                      refine XS.goto X107.here hx rfl (pc0 := 192) (pc' := 196) rfl (hb hby at_192) (by decide) (by decide) ?_
                      exact kt
                    · rw [show (mg0_155_s0'' sv m0 m1 t0 t1) = (0 : Int32) from by rw [mg0_155_s0'', if_pos hc155_109, if_pos hc175_111, if_neg hc188_113]] at kt
                      refine pre112 _ ?_
                      show Steps p.tables e below (T107.setTop (mkF m 188 #[.val (.int p1), .val (.int p2), .val (.int p3), .val (.int p4), .val (.int sv), .val (.int (2 : Int32)), .val (.int (2 : Int32)), .val (.int t0), .val (.int t1), .val (.int (mg0_50_s0 p4)), .val (.int m0), .val (.int m1), .val (.ref b1_103), .val (.ref b1_104), .val (.ref b105), .unset] [(.int m1), (.int t1)])) _
                      refine XS.icmpYes X107.here hx rfl (pc0 := 188) (pc' := 195) rfl (hb hby at_188) rfl (feq hc188_113).2 (by decide) (by decide) ?_
                      refine XS.iconst X107.here hx rfl (hb hby at_195) ?_
                      exact kt
                  · rw [show (mg0_155_s0'' sv m0 m1 t0 t1) = (0 : Int32) from by rw [mg0_155_s0'', if_pos hc155_109, if_neg hc175_111]] at kt
                    refine pre110 _ ?_
                    show Steps p.tables e below (T107.setTop (mkF m 175 #[.val (.int p1), .val (.int p2), .val (.int p3), .val (.int p4), .val (.int sv), .val (.int (2 : Int32)), .val (.int (2 : Int32)), .val (.int t0), .val (.int t1), .val (.int (mg0_50_s0 p4)), .val (.int m0), .val (.int m1), .val (.ref b1_103), .val (.ref b1_104), .val (.ref b105), .unset] [(.int m0), (.int t0)])) _
                    refine XS.icmpYes X107.here hx rfl (pc0 := 175) (pc' := 195) rfl (hb hby at_175) rfl (feq hc175_111).2 (by decide) (by decide) ?_
                    refine XS.iconst X107.here hx rfl (hb hby at_195) ?_
                    exact kt
                · rw [show (mg0_155_s0'' sv m0 m1 t0 t1) = (0 : Int32) from by rw [mg0_155_s0'', if_neg hc155_109]] at kt
                  refine pre108 _ ?_
                  show Steps p.tables e below (T107.setTop (mkF m 155 #[.val (.int p1), .val (.int p2), .val (.int p3), .val (.int p4), .val (.int sv), .val (.int (2 : Int32)), .val (.int (2 : Int32)), .val (.int t0), .val (.int t1), .val (.int (mg0_50_s0 p4)), .val (.int m0), .val (.int m1), .val (.ref b1_103), .val (.ref b1_104), .val (.ref b105), .unset] [(.int (13 : Int32)), (.int sv)])) _
                  refine XS.icmpYes X107.here hx rfl (pc0 := 155) (pc' := 195) rfl (hb hby at_155) rfl (feq hc155_109).2 (by decide) (by decide) ?_
                  refine XS.iconst X107.here hx rfl (hb hby at_195) ?_
                  exact kt
              obtain ⟨cq115, kq115, q115a, q115b, q115c⟩ := isOf hZ rfl (A105.keep K107)
              obtain ⟨_, _, ⟨T115, L115, k115, n115⟩, -, X115, ⟨Lc115, hQ115, l115, y115, z115⟩, st115⟩ := X107.virtualBack hx (y := (⟨"com/example/cantrip/cantrip/Token", "is", "(Ljava/lang/String;)Z"⟩ : MethodName)) (z := (⟨"com/example/cantrip/cantrip/Token", "is", "(Ljava/lang/String;)Z"⟩ : MethodName)) hown (mvT hZ (hw _ (List.mem_of_getElem? (i := 62) rfl))) (mvT hZ (hw _ (List.mem_of_getElem? (i := 63) rfl))) (notFace_of_selects (args := #[]) (mvT hZ (hw _ (List.mem_of_getElem? (i := 65) rfl)))) (mvT hZ (hw _ (List.mem_of_getElem? (i := 65) rfl))) (mvT hZ (hw _ (List.mem_of_getElem? (i := 64) rfl))) (by decide) (backOf (W := 0) (rm_is_2_2 l Z a0 hw [] b105 b1_104 b1_3_2_7_104 k1_3_2_7_104 (nar .byte ((nar .char m0).toInt8.toInt32)) (nar .byte ((nar .char m1).toInt8.toInt32)) b1_103 b1_3_2_7_103 k1_3_2_7_103 (nar .byte ((nar .char t0).toInt8.toInt32)) (nar .byte ((nar .char t1).toInt8.toInt32)) (res8 sv w_IRI w_PNAME_NS w_PNAME_LN w_BLANK_NODE_LABEL w_VAR w_STRING w_LANGTAG w_INTEGER w_DECIMAL w_DOUBLE w_NIL w_ANON w_WORD w_PUNCT w_EOF) w_PUNCT w_COMPACT_STRINGS T107.heap n0 (Nat.le_trans Z0 KK107.1) ((f104_0.ext E105).keep K107) ((f104_1.ext E105).keep K107 (ninS (Nat.ne_of_lt (Nat.lt_of_lt_of_le f104_0.lt (Nat.le_of_eq g105.symm))) nin0)) ((f104_2.ext E105).keep K107 (ninS (Nat.ne_of_lt (Nat.lt_of_lt_of_le f104_0.lt (Nat.le_of_eq g105.symm))) nin0)) ((f104_3.ext E105).keep K107 (ninS (Nat.ne_of_lt (Nat.lt_of_lt_of_le f104_3.lt (Nat.le_of_eq g105.symm))) nin0)) f107_2 (((f103_0.keep K104).ext E105).keep K107) (((f103_1.keep K104 nin0).ext E105).keep K107 (ninS (Nat.ne_of_lt (Nat.lt_of_lt_of_le (f103_0.keep K104).lt (Nat.le_of_eq g105.symm))) nin0)) (((f103_2.keep K104 nin0).ext E105).keep K107 (ninS (Nat.ne_of_lt (Nat.lt_of_lt_of_le (f103_0.keep K104).lt (Nat.le_of_eq g105.symm))) nin0)) (((f103_3.keep K104 nin0).ext E105).keep K107 (ninS (Nat.ne_of_lt (Nat.lt_of_lt_of_le (f103_3.keep K104 nin0).lt (Nat.le_of_eq g105.symm))) nin0)) f107_1 (own_sta_keep ((own_sta_keep (own_sta_keep S_PUNCT K103 all0) K104 all0).ext E105) K107 (allS (own_exa_ns A105) all0)) (own_sta_keep ((own_sta_keep (own_sta_keep S_COMPACT_STRINGS K103 all0) K104 all0).ext E105) K107 (allS (own_exa_ns A105) all0)) ((Nat.ne_of_lt (Nat.lt_of_lt_of_le f103_0.lt s104_b1)) : b1_103 ≠ b1_104) (hCS : ¬ (w_COMPACT_STRINGS = (0 : Int32)))) hZ (hw _ (List.mem_of_getElem? (i := 66) rfl)) (hw _ (List.mem_of_getElem? (i := 40) rfl)) (by decide) (by decide)) q115a q115c (g := (mkF m 202 #[.val (.int p1), .val (.int p2), .val (.int p3), .val (.int p4), .val (.int sv), .val (.int (2 : Int32)), .val (.int (2 : Int32)), .val (.int t0), .val (.int t1), .val (.int (mg0_50_s0 p4)), .val (.int m0), .val (.int m1), .val (.ref b1_103), .val (.ref b1_104), .val (.ref b105), .val (.int (mg0_155_s0'' sv m0 m1 t0 t1))] [(.ref b1_104), (.ref b105)])) rfl (by rw [hml]; rfl) (Steps.refl _) (argsL := [(.ref b1_104)]) (rest := []) (lenOf pd11 rfl) rfl (by show 2 * 0 + _ ≤ _; exact Nat.le_of_eq rfl) (hb hby at_202) (fun _ _ => ⟨rfl, rfl, (by decide : 7 + 0 ≤ _), (by decide : 19 + 0 ≤ _)⟩)
              dsimp only [Pt.U, Pt.locs, Pt.cells, Pt.slots] at X115 l115 y115 z115 st115 hQ115
              subst l115 y115 z115
              obtain ⟨rfl, rfl, e115⟩ := hQ115
              have N115 := Fr.app N107 (Fr.nil n0)
              obtain ⟨fs, hr, hrun, hended, hRW⟩ := X115.leaveW hS0 (Nat.le_trans hk_107 (Nat.le_of_eq (congrArg Array.size e115.symm))) (v := some (.int (1 : Int32))) (fun h => by rw [Bd.returns] at h; cases h)
              refine ⟨_, _, pre114 _ ?_, hrun, hended, _, _, rfl, ?_, hRW.1, hRW.2.1, hRW.2.2.1, hRW.2.2.2.mono (by decide) (by decide)⟩
              · show Steps p.tables e below (T107.setTop (mkF m 196 #[.val (.int p1), .val (.int p2), .val (.int p3), .val (.int p4), .val (.int sv), .val (.int (2 : Int32)), .val (.int (2 : Int32)), .val (.int t0), .val (.int t1), .val (.int (mg0_50_s0 p4)), .val (.int m0), .val (.int m1), .val (.ref b1_103), .val (.ref b1_104), .val (.ref b105), .unset] [(.int (mg0_155_s0'' sv m0 m1 t0 t1))])) _
                refine XS.istore X107.here hx rfl (hb hby at_196) rfl (l' := #[.val (.int p1), .val (.int p2), .val (.int p3), .val (.int p4), .val (.int sv), .val (.int (2 : Int32)), .val (.int (2 : Int32)), .val (.int t0), .val (.int t1), .val (.int (mg0_50_s0 p4)), .val (.int m0), .val (.int m1), .val (.ref b1_103), .val (.ref b1_104), .val (.ref b105), .val (.int (mg0_155_s0'' sv m0 m1 t0 t1))]) rfl ?_
                refine XS.aload X107.here hx rfl (hb hby at_198) rfl rfl ?_
                show Steps p.tables e below (T107.setTop (mkF m 200 #[.val (.int p1), .val (.int p2), .val (.int p3), .val (.int p4), .val (.int sv), .val (.int (2 : Int32)), .val (.int (2 : Int32)), .val (.int t0), .val (.int t1), .val (.int (mg0_50_s0 p4)), .val (.int m0), .val (.int m1), .val (.ref b1_103), .val (.ref b1_104), .val (.ref b105), .val (.int (mg0_155_s0'' sv m0 m1 t0 t1))] [(.ref b105)])) _
                refine XS.aload X107.here hx rfl (hb hby at_200) rfl rfl ?_
                show Steps p.tables e below (T107.setTop (mkF m 202 #[.val (.int p1), .val (.int p2), .val (.int p3), .val (.int p4), .val (.int sv), .val (.int (2 : Int32)), .val (.int (2 : Int32)), .val (.int t0), .val (.int t1), .val (.int (mg0_50_s0 p4)), .val (.int m0), .val (.int m1), .val (.ref b1_103), .val (.ref b1_104), .val (.ref b105), .val (.int (mg0_155_s0'' sv m0 m1 t0 t1))] [(.ref b1_104), (.ref b105)])) _
                refine st115.trans ?_
                show Steps p.tables e below (T115.setTop (mkF m 205 #[.val (.int p1), .val (.int p2), .val (.int p3), .val (.int p4), .val (.int sv), .val (.int (2 : Int32)), .val (.int (2 : Int32)), .val (.int t0), .val (.int t1), .val (.int (mg0_50_s0 p4)), .val (.int m0), .val (.int m1), .val (.ref b1_103), .val (.ref b1_104), .val (.ref b105), .val (.int (mg0_155_s0'' sv m0 m1 t0 t1))] [(.int (res_is_2_2 (nar .byte ((nar .char m0).toInt8.toInt32)) (nar .byte ((nar .char m1).toInt8.toInt32)) (nar .byte ((nar .char t0).toInt8.toInt32)) (nar .byte ((nar .char t1).toInt8.toInt32)) (res8 sv w_IRI w_PNAME_NS w_PNAME_LN w_BLANK_NODE_LABEL w_VAR w_STRING w_LANGTAG w_INTEGER w_DECIMAL w_DOUBLE w_NIL w_ANON w_WORD w_PUNCT w_EOF) w_PUNCT))])) _
                refine XS.iload X115.here hx rfl (hb hby at_205) rfl ?_
                refine XS.icmpNo X115.here hx rfl (hb hby at_207) rfl (teq (own_eq_2_2 w_IRI w_PNAME_NS w_PNAME_LN w_BLANK_NODE_LABEL w_VAR w_STRING w_LANGTAG w_INTEGER w_DECIMAL w_DOUBLE w_NIL w_ANON w_WORD w_PUNCT w_EOF rs r_t0 r_t1 r_m0 r_m1 hD : (res_is_2_2 (nar .byte ((nar .char m0).toInt8.toInt32)) (nar .byte ((nar .char m1).toInt8.toInt32)) (nar .byte ((nar .char t0).toInt8.toInt32)) (nar .byte ((nar .char t1).toInt8.toInt32)) (res8 sv w_IRI w_PNAME_NS w_PNAME_LN w_BLANK_NODE_LABEL w_VAR w_STRING w_LANGTAG w_INTEGER w_DECIMAL w_DOUBLE w_NIL w_ANON w_WORD w_PUNCT w_EOF) w_PUNCT) = (mg0_155_s0'' sv m0 m1 t0 t1))).2 ?_
                show Steps p.tables e below (T115.setTop (mkF m 210 #[.val (.int p1), .val (.int p2), .val (.int p3), .val (.int p4), .val (.int sv), .val (.int (2 : Int32)), .val (.int (2 : Int32)), .val (.int t0), .val (.int t1), .val (.int (mg0_50_s0 p4)), .val (.int m0), .val (.int m1), .val (.ref b1_103), .val (.ref b1_104), .val (.ref b105), .val (.int (mg0_155_s0'' sv m0 m1 t0 t1))] [])) _
                refine XS.iconst X115.here hx rfl (hb hby at_210) ?_
                refine XS.goto X115.here hx rfl (pc0 := 211) (pc' := 215) rfl (hb hby at_211) (by decide) (by decide) ?_
                show Steps p.tables e below (T115.setTop (mkF m 215 #[.val (.int p1), .val (.int p2), .val (.int p3), .val (.int p4), .val (.int sv), .val (.int (2 : Int32)), .val (.int (2 : Int32)), .val (.int t0), .val (.int t1), .val (.int (mg0_50_s0 p4)), .val (.int m0), .val (.int m1), .val (.ref b1_103), .val (.ref b1_104), .val (.ref b105), .val (.int (mg0_155_s0'' sv m0 m1 t0 t1))] [(.int (1 : Int32))])) _
                exact retN X115 hx (t := .boolean) Bd.returns (by simp) (hb hby at_215) hr
              · show Q0 Z p1 p2 p3 p4 w_IRI w_PNAME_NS w_PNAME_LN w_BLANK_NODE_LABEL w_VAR w_STRING w_LANGTAG w_INTEGER w_DECIMAL w_DOUBLE w_NIL w_ANON w_WORD w_PUNCT w_EOF w_COMPACT_STRINGS h0 n0 _ T115.heap _
                rw [e115]
                exact ⟨rfl, N115⟩
            · exfalso
              rcases (own_l3 _) with h | h | h
              · exact hv81 h
              · exact hv92 h
              · exact hv102 h
      · exfalso
        rcases (own_l3 p4) with h | h | h
        · exact hv11 h
        · exact hv46 h
        · exact hv80 h
set_option maxRecDepth 65536 in
set_option maxHeartbeats 40000000 in
theorem comes_1 {Post : Tables → Env → Array Value → State → Outcome → State → Prop} (hpost : ∀ tb e args s v u, (limb_1_1.after args s (.returned v) u = true ∧ limb_1_2.after args s (.returned v) u = true ∧ True) → ReturnedEndW s (.returned v) u (Jvm.fieldLocs frame_1_writes args s ++ Jvm.arrayLocs frame_1_arrays args s ++ Jvm.staticLocs frame_1_statics s) 24 1152 → Post tb e args s (.returned v) u) :
    ArmFor flags0 classFile x code maxLocals ret World_1 tables_1 room_1 Calls_1 rest_1 Pre_1 Post := by
  intro l hfl _ _ p e ha hc hk s m args below hf hA hF happ hP
  obtain ⟨hcalls, hrest, hpre⟩ := hP
  obtain ⟨-, -, -, hnamed, -, -, -, hat⟩ := (Spec.applies_iff hf).mp happ
  obtain ⟨hg, hn⟩ := and_e (Cond.before_iff.mp (show (Jvm.Cond.and given_1 narrow_1).before args s = true from hpre))
  obtain ⟨ga0, gb0⟩ := and_e hg
  obtain ⟨ga1, gb1⟩ := and_e gb0
  obtain ⟨ga2, gb2⟩ := and_e gb1
  obtain ⟨ga3, gb3⟩ := and_e gb2
  obtain ⟨w0, w1, w2, w3, rfl⟩ : ∃ w0 w1 w2 w3 : Value, args = #[w0, w1, w2, w3] := by
    have hs : args.size = 4 := by simpa [Cond.value, given_1] using ga0
    obtain ⟨L⟩ := args
    match L, hs with
    | [w0, w1, w2, w3], _ => exact ⟨w0, w1, w2, w3, rfl⟩
  have hw := fun d (hd : d ∈ tables_1) => atoms_spec (ws := Jvm.Cond.code x code maxLocals ret :: tables_1) hat d (List.mem_cons_of_mem _ hd)
  have hfit : Fit s := fun {y c} hc i hi => by
    obtain ⟨ha, rfl⟩ := Array.getElem?_eq_some_iff.mp hc
    have q := List.all_eq_true.mp ((Array.all_eq_true_iff_forall_mem.mp hF) _ (Array.getElem_mem ha)) i (List.mem_range.mpr hi)
    simpa [Array.getElem?_eq_getElem hi] using q
  obtain ⟨i0, ei0⟩ := is_v ga1
  obtain rfl : w0 = (.int i0) := Option.some.inj ei0
  obtain ⟨i1, ei1⟩ := is_v ga2
  obtain rfl : w1 = (.int i1) := Option.some.inj ei1
  obtain ⟨i2, ei2⟩ := is_v ga3
  obtain rfl : w2 = (.int i2) := Option.some.inj ei2
  obtain ⟨i3, ei3⟩ := is_v gb3
  obtain rfl : w3 = (.int i3) := Option.some.inj ei3
  obtain ⟨hsets, hown0⟩ := atoms_of _ (rest_1_c_eq ▸ (show rest_1_c.before _ s = true from hrest))
  have n5 := not_v (Cond.before_iff.mp (hsets _ (List.mem_of_getElem? (i := 2) rfl)))
  obtain ⟨w_COMPACT_STRINGS, e10⟩ := is_v (Cond.before_iff.mp (hsets _ (List.mem_of_getElem? (i := 1) rfl)))
  have S_COMPACT_STRINGS : Sta s s.heap "java/lang/String" "COMPACT_STRINGS" "Z" (.int w_COMPACT_STRINGS) := Sta.start e10 (Or.inl (hsets _ (List.mem_of_getElem? (i := 0) rfl)))
  obtain ⟨w_SIOOBE_FORMATTER, e14, hSF⟩ := isR_v (Cond.before_iff.mp (hsets _ (List.mem_of_getElem? (i := 8) rfl)))
  have S_SIOOBE_FORMATTER : Sta s s.heap "jdk/internal/util/Preconditions" "SIOOBE_FORMATTER" "Ljava/util/function/BiFunction;" w_SIOOBE_FORMATTER := Sta.start e14 (Or.inl (hsets _ (List.mem_of_getElem? (i := 7) rfl)))
  have hCS : ¬ (w_COMPACT_STRINGS = (0 : Int32)) := gotF (Cond.eq_ints e10 (Term.int_eval (0))) n5
  obtain ⟨na1, nb1⟩ := and_e hn
  obtain ⟨na2, nb2⟩ := and_e nb1
  obtain ⟨na3, nb3⟩ := and_e nb2
  obtain ⟨na4, nb4⟩ := and_e nb3
  obtain ⟨na5, nb5⟩ := and_e nb4
  obtain ⟨na6, nb6⟩ := and_e nb5
  obtain ⟨na7, nb7⟩ := and_e nb6
  obtain ⟨na8, nb8⟩ := and_e nb7
  obtain ⟨na9, nb9⟩ := and_e nb8
  obtain ⟨na10, nb10⟩ := and_e nb9
  obtain ⟨na11, nb11⟩ := and_e nb10
  obtain ⟨na12, nb12⟩ := and_e nb11
  obtain ⟨na13, nb13⟩ := and_e nb12
  obtain ⟨na14, nb14⟩ := and_e nb13
  obtain ⟨na15, nb15⟩ := and_e nb14
  obtain ⟨na16, nb16⟩ := and_e nb15
  obtain ⟨na17, nb17⟩ := and_e nb16
  obtain ⟨na18, nb18⟩ := and_e nb17
  obtain ⟨na19, nb19⟩ := and_e nb18
  obtain ⟨na20, nb20⟩ := and_e nb19
  obtain ⟨na21, nb21⟩ := and_e nb20
  obtain ⟨na22, nb22⟩ := and_e nb21
  obtain ⟨na23, nb23⟩ := and_e nb22
  obtain ⟨na24, nb24⟩ := and_e nb23
  obtain ⟨na25, nb25⟩ := and_e nb24
  obtain ⟨na26, nb26⟩ := and_e nb25
  obtain ⟨na27, nb27⟩ := and_e nb26
  obtain ⟨na28, nb28⟩ := and_e nb27
  obtain ⟨na29, nb29⟩ := and_e nb28
  obtain ⟨w_IRI, ev_IRI⟩ := exa_v na1
  have S_IRI := Sta.start ev_IRI (Or.inr ⟨(hw _ (List.mem_of_getElem? (i := 45) rfl)), (hw _ (List.mem_of_getElem? (i := 46) rfl))⟩)
  have E_w_IRI := Exa.start ev_IRI na1
  obtain ⟨w_PUNCT, ev_PUNCT⟩ := exa_v na2
  have S_PUNCT := Sta.start ev_PUNCT (Or.inr ⟨(hw _ (List.mem_of_getElem? (i := 45) rfl)), (hw _ (List.mem_of_getElem? (i := 68) rfl))⟩)
  have E_w_PUNCT := Exa.start ev_PUNCT na2
  have F_ordinal_w_IRI := Fld.start ((fld_at ev_IRI).symm.trans (own_eqv (Or.inl ⟨_, rfl⟩) (Term.int_eval _) na3))
  have F_ordinal_w_PUNCT := Fld.start ((fld_at ev_PUNCT).symm.trans (own_eqv (Or.inl ⟨_, rfl⟩) (Term.int_eval _) na4))
  obtain ⟨w_WORD, ev_WORD⟩ := exa_v na5
  have S_WORD := Sta.start ev_WORD (Or.inr ⟨(hw _ (List.mem_of_getElem? (i := 45) rfl)), (hw _ (List.mem_of_getElem? (i := 70) rfl))⟩)
  have E_w_WORD := Exa.start ev_WORD na5
  have F_ordinal_w_WORD := Fld.start ((fld_at ev_WORD).symm.trans (own_eqv (Or.inl ⟨_, rfl⟩) (Term.int_eval _) na6))
  obtain ⟨w_VAR, ev_VAR⟩ := exa_v na7
  have S_VAR := Sta.start ev_VAR (Or.inr ⟨(hw _ (List.mem_of_getElem? (i := 45) rfl)), (hw _ (List.mem_of_getElem? (i := 72) rfl))⟩)
  have E_w_VAR := Exa.start ev_VAR na7
  have F_ordinal_w_VAR := Fld.start ((fld_at ev_VAR).symm.trans (own_eqv (Or.inl ⟨_, rfl⟩) (Term.int_eval _) na8))
  obtain ⟨w_PNAME_NS, ev_PNAME_NS⟩ := exa_v na9
  have S_PNAME_NS := Sta.start ev_PNAME_NS (Or.inr ⟨(hw _ (List.mem_of_getElem? (i := 45) rfl)), (hw _ (List.mem_of_getElem? (i := 74) rfl))⟩)
  have E_w_PNAME_NS := Exa.start ev_PNAME_NS na9
  have F_ordinal_w_PNAME_NS := Fld.start ((fld_at ev_PNAME_NS).symm.trans (own_eqv (Or.inl ⟨_, rfl⟩) (Term.int_eval _) na10))
  obtain ⟨w_BLANK_NODE_LABEL, ev_BLANK_NODE_LABEL⟩ := exa_v na11
  have S_BLANK_NODE_LABEL := Sta.start ev_BLANK_NODE_LABEL (Or.inr ⟨(hw _ (List.mem_of_getElem? (i := 45) rfl)), (hw _ (List.mem_of_getElem? (i := 76) rfl))⟩)
  have E_w_BLANK_NODE_LABEL := Exa.start ev_BLANK_NODE_LABEL na11
  have F_ordinal_w_BLANK_NODE_LABEL := Fld.start ((fld_at ev_BLANK_NODE_LABEL).symm.trans (own_eqv (Or.inl ⟨_, rfl⟩) (Term.int_eval _) na12))
  obtain ⟨w_EOF, ev_EOF⟩ := exa_v na13
  have S_EOF := Sta.start ev_EOF (Or.inr ⟨(hw _ (List.mem_of_getElem? (i := 45) rfl)), (hw _ (List.mem_of_getElem? (i := 78) rfl))⟩)
  have E_w_EOF := Exa.start ev_EOF na13
  have F_ordinal_w_EOF := Fld.start ((fld_at ev_EOF).symm.trans (own_eqv (Or.inl ⟨_, rfl⟩) (Term.int_eval _) na14))
  obtain ⟨w_LANGTAG, ev_LANGTAG⟩ := exa_v na15
  have S_LANGTAG := Sta.start ev_LANGTAG (Or.inr ⟨(hw _ (List.mem_of_getElem? (i := 45) rfl)), (hw _ (List.mem_of_getElem? (i := 80) rfl))⟩)
  have E_w_LANGTAG := Exa.start ev_LANGTAG na15
  have F_ordinal_w_LANGTAG := Fld.start ((fld_at ev_LANGTAG).symm.trans (own_eqv (Or.inl ⟨_, rfl⟩) (Term.int_eval _) na16))
  obtain ⟨w_DECIMAL, ev_DECIMAL⟩ := exa_v na17
  have S_DECIMAL := Sta.start ev_DECIMAL (Or.inr ⟨(hw _ (List.mem_of_getElem? (i := 45) rfl)), (hw _ (List.mem_of_getElem? (i := 82) rfl))⟩)
  have E_w_DECIMAL := Exa.start ev_DECIMAL na17
  have F_ordinal_w_DECIMAL := Fld.start ((fld_at ev_DECIMAL).symm.trans (own_eqv (Or.inl ⟨_, rfl⟩) (Term.int_eval _) na18))
  obtain ⟨w_PNAME_LN, ev_PNAME_LN⟩ := exa_v na19
  have S_PNAME_LN := Sta.start ev_PNAME_LN (Or.inr ⟨(hw _ (List.mem_of_getElem? (i := 45) rfl)), (hw _ (List.mem_of_getElem? (i := 84) rfl))⟩)
  have E_w_PNAME_LN := Exa.start ev_PNAME_LN na19
  have F_ordinal_w_PNAME_LN := Fld.start ((fld_at ev_PNAME_LN).symm.trans (own_eqv (Or.inl ⟨_, rfl⟩) (Term.int_eval _) na20))
  obtain ⟨w_INTEGER, ev_INTEGER⟩ := exa_v na21
  have S_INTEGER := Sta.start ev_INTEGER (Or.inr ⟨(hw _ (List.mem_of_getElem? (i := 45) rfl)), (hw _ (List.mem_of_getElem? (i := 97) rfl))⟩)
  have E_w_INTEGER := Exa.start ev_INTEGER na21
  have F_ordinal_w_INTEGER := Fld.start ((fld_at ev_INTEGER).symm.trans (own_eqv (Or.inl ⟨_, rfl⟩) (Term.int_eval _) na22))
  obtain ⟨w_NIL, ev_NIL⟩ := exa_v na23
  have S_NIL := Sta.start ev_NIL (Or.inr ⟨(hw _ (List.mem_of_getElem? (i := 45) rfl)), (hw _ (List.mem_of_getElem? (i := 99) rfl))⟩)
  have E_w_NIL := Exa.start ev_NIL na23
  have F_ordinal_w_NIL := Fld.start ((fld_at ev_NIL).symm.trans (own_eqv (Or.inl ⟨_, rfl⟩) (Term.int_eval _) na24))
  obtain ⟨w_STRING, ev_STRING⟩ := exa_v na25
  have S_STRING := Sta.start ev_STRING (Or.inr ⟨(hw _ (List.mem_of_getElem? (i := 45) rfl)), (hw _ (List.mem_of_getElem? (i := 101) rfl))⟩)
  have E_w_STRING := Exa.start ev_STRING na25
  have F_ordinal_w_STRING := Fld.start ((fld_at ev_STRING).symm.trans (own_eqv (Or.inl ⟨_, rfl⟩) (Term.int_eval _) na26))
  obtain ⟨w_DOUBLE, ev_DOUBLE⟩ := exa_v na27
  have S_DOUBLE := Sta.start ev_DOUBLE (Or.inr ⟨(hw _ (List.mem_of_getElem? (i := 45) rfl)), (hw _ (List.mem_of_getElem? (i := 103) rfl))⟩)
  have E_w_DOUBLE := Exa.start ev_DOUBLE na27
  have F_ordinal_w_DOUBLE := Fld.start ((fld_at ev_DOUBLE).symm.trans (own_eqv (Or.inl ⟨_, rfl⟩) (Term.int_eval _) na28))
  obtain ⟨w_ANON, ev_ANON⟩ := exa_v na29
  have S_ANON := Sta.start ev_ANON (Or.inr ⟨(hw _ (List.mem_of_getElem? (i := 45) rfl)), (hw _ (List.mem_of_getElem? (i := 105) rfl))⟩)
  have E_w_ANON := Exa.start ev_ANON na29
  have F_ordinal_w_ANON := Fld.start ((fld_at ev_ANON).symm.trans (own_eqv (Or.inl ⟨_, rfl⟩) (Term.int_eval _) nb29))
  have hD : Dis w_IRI w_PNAME_NS w_PNAME_LN w_BLANK_NODE_LABEL w_VAR w_STRING w_LANGTAG w_INTEGER w_DECIMAL w_DOUBLE w_NIL w_ANON w_WORD w_PUNCT w_EOF := ⟨Fld.ne F_ordinal_w_IRI F_ordinal_w_PUNCT (by decide), Fld.ne F_ordinal_w_PNAME_NS F_ordinal_w_PUNCT (by decide), Fld.ne F_ordinal_w_PNAME_LN F_ordinal_w_PUNCT (by decide), Fld.ne F_ordinal_w_BLANK_NODE_LABEL F_ordinal_w_PUNCT (by decide), Fld.ne F_ordinal_w_VAR F_ordinal_w_PUNCT (by decide), Fld.ne F_ordinal_w_STRING F_ordinal_w_PUNCT (by decide), Fld.ne F_ordinal_w_LANGTAG F_ordinal_w_PUNCT (by decide), Fld.ne F_ordinal_w_INTEGER F_ordinal_w_PUNCT (by decide), Fld.ne F_ordinal_w_DECIMAL F_ordinal_w_PUNCT (by decide), Fld.ne F_ordinal_w_DOUBLE F_ordinal_w_PUNCT (by decide), Fld.ne F_ordinal_w_NIL F_ordinal_w_PUNCT (by decide), Fld.ne F_ordinal_w_ANON F_ordinal_w_PUNCT (by decide), Fld.ne F_ordinal_w_WORD F_ordinal_w_PUNCT (by decide), Fld.ne F_ordinal_w_EOF F_ordinal_w_PUNCT (by decide)⟩
  have hEL : EW s _ EL1 := EW.cons (hw _ (List.mem_of_getElem? (i := 35) rfl)) (by simp) EW.nil
  have hCH : CHv s EL1 s.vm s.heap := CHv.start hEL hcalls.1 (hsets _ (List.mem_of_getElem? (i := 2) rfl)) (hw _ (List.mem_of_getElem? (i := 24) rfl)) (hw _ (List.mem_of_getElem? (i := 6) rfl))
  obtain ⟨n, o, h1, h2, h3, _, L, rfl, ⟨rfl, N⟩, hq⟩ := rm0 l s _ hw tables_1 i0 i1 i2 i3 w_IRI w_PNAME_NS w_PNAME_LN w_BLANK_NODE_LABEL w_VAR w_STRING w_LANGTAG w_INTEGER w_DECIMAL w_DOUBLE w_NIL w_ANON w_WORD w_PUNCT w_EOF w_COMPACT_STRINGS s.heap s.heap.size (Nat.le_refl _) S_IRI E_w_IRI S_PNAME_NS E_w_PNAME_NS S_PNAME_LN E_w_PNAME_LN S_BLANK_NODE_LABEL E_w_BLANK_NODE_LABEL S_VAR E_w_VAR S_STRING E_w_STRING S_LANGTAG E_w_LANGTAG S_INTEGER E_w_INTEGER S_DECIMAL E_w_DECIMAL S_DOUBLE E_w_DOUBLE S_NIL E_w_NIL S_ANON E_w_ANON S_WORD E_w_WORD S_PUNCT E_w_PUNCT S_EOF E_w_EOF S_COMPACT_STRINGS hCS hD hEL p e ha hc hk s m _ below hf ((Spec.applies_iff_loose hf).mp happ).1 ⟨rfl, State.Warmed39.refl s, rfl, hCH⟩ trivial
  have hfin : (1 : Int32) = (1 : Int32) := rfl
  refine ⟨n, _, h1, h2, h3, hpost _ _ _ _ _ _ ⟨Cond.after_iff.mpr rfl, Cond.after_iff.mpr (eq_i res_at (Term.int_eval (1)) (by rw [hfin])), trivial⟩ ⟨hq.1, hq.2.1, hq.2.2.1, (hq.2.2.2.sift fun y hy => Or.inr (N y hy)).mono (by decide) (by decide)⟩⟩
theorem main_1_1 : Claimed_1_1 := comes_1 fun _ _ _ _ _ _ h hF => ⟨h.1, hF⟩
theorem main_1_2 : Claimed_1_2 := comes_1 fun _ _ _ _ _ _ h hF => ⟨h.2.1, hF⟩
end Jvm.Pilot.@@N@@
namespace Jvm.Pilot.@@N@@
open Jvm Jvm.ClassFile Sem Op Lib Jvm.Free Jvm.Stand Jvm.Pilot.@@N@@.Jvm.D
/-! MADE BY PROGRAM (witnessworld.py) out of the Statement's table words and the real class files: 23 classes; the members and pool entries that the words name. The judged class is class 1, her method 3. -/
namespace start1
open Jvm.ClassFile
def u (s : String) : CpInfo := .utf8 (stringToUtf16 s)
/-- a pool by its gaps: so many unusable entries, then the entry; so many at the end -/
def gap : Nat → List CpInfo → List CpInfo
  | 0, r => r
  | n + 1, r => .unusable :: gap n r
def poolList (es : List (Nat × CpInfo)) (last : Nat) : List CpInfo := es.foldr (fun e r => gap e.1 (e.2 :: r)) (gap last [])
def pool (es : List (Nat × CpInfo)) (last : Nat) : Array CpInfo := ⟨poolList es last⟩
def fileOf (pool : Array CpInfo) (this : Nat) (attrs : Array Attribute := #[]) (ms : Array MethodInfo := #[]) (fl : Nat := 33) (sup : Nat := 0) (ifs : Array Nat := #[]) (fds : Array FieldInfo := #[]) : ClassFile where
  minorVersion := 0
  majorVersion := 65
  constantPool := pool
  accessFlags := fl
  thisClass := this
  superClass := sup
  interfaces := ifs
  fields := fds
  methods := ms
  attributes := attrs
def plain (name : String) (sup : Option ClassId) : Class where
  name := name
  kind := .ordinary
  loader := none
  accessFlags := 33
  super := sup
  interfaces := #[]
  cf := none
  fields := #[]
  methods := #[]
  instanceTypes := #[]
  staticTypes := #[]
  resolved := #[]
  callSites := []
  init := .initialized
  statics := none
  mirror := none

def pool0 : Array CpInfo := pool [(5, u "<init>"), (0, u "()V"), (1, .class_ 10), (1, u "java/lang/Object")] 113

def k0c0 : Code := { maxStack := 0, maxLocals := 1, code := object_method_1_code, exceptionTable := #[], attributes := #[] }
def k0m0 : Method := { name := "<init>", desc := "()V", sig := { parameters := [], returnType := none }, accessFlags := 1, code := some k0c0 }
/-- java/lang/Object -/
def k0 : Class := { plain "java/lang/Object" none with
  accessFlags := 33
  interfaces := #[]
  cf := some (fileOf pool0 8 #[] #[{ accessFlags := 1, nameIndex := 5, descriptorIndex := 6, attributes := #[] }] 33 0 #[] #[])
  fields := #[]
  methods := #[k0m0]
  instanceTypes := #[]
  staticTypes := #[]
  resolved := Array.replicate 124 none
  statics := none }

def pool1 : Array CpInfo := pool [(2, .class_ 4), (1, u "java/lang/Object"), (0, u "<init>"), (0, u "()V"), (0, .fieldref 8 9), (0, .class_ 10), (0, .nameAndType 11 12), (0, u "com/example/cantrip/cantrip/Token$Kind"), (0, u "IRI"), (0, u "Lcom/example/cantrip/cantrip/Token$Kind;"), (0, .fieldref 8 14), (0, .nameAndType 15 12), (0, u "PNAME_NS"), (0, .fieldref 8 17), (0, .nameAndType 18 12), (0, u "PNAME_LN"), (0, .fieldref 8 20), (0, .nameAndType 21 12), (0, u "BLANK_NODE_LABEL"), (0, .fieldref 8 23), (0, .nameAndType 24 12), (0, u "VAR"), (0, .fieldref 8 26), (0, .nameAndType 27 12), (0, u "STRING"), (0, .fieldref 8 29), (0, .nameAndType 30 12), (0, u "LANGTAG"), (0, .fieldref 8 32), (0, .nameAndType 33 12), (0, u "INTEGER"), (0, .fieldref 8 35), (0, .nameAndType 36 12), (0, u "DECIMAL"), (0, .fieldref 8 38), (0, .nameAndType 39 12), (0, u "DOUBLE"), (0, .fieldref 8 41), (0, .nameAndType 42 12), (0, u "NIL"), (0, .fieldref 8 44), (0, .nameAndType 45 12), (0, u "ANON"), (0, .fieldref 8 47), (0, .nameAndType 48 12), (0, u "WORD"), (0, .fieldref 8 50), (0, .nameAndType 51 12), (0, u "PUNCT"), (0, .fieldref 8 53), (0, .nameAndType 54 12), (0, u "EOF"), (0, .class_ 56), (0, u "java/lang/String"), (0, .methodref 55 58), (0, .nameAndType 5 59), (0, u "([C)V"), (0, .integer 2147483647), (0, .methodref 62 63), (0, .class_ 64), (0, .nameAndType 65 66), (0, u "com/example/cantrip/cantrip/TokenIsPinLaw"), (0, u "str"), (0, u "(ICC)Ljava/lang/String;"), (0, .class_ 68), (0, u "com/example/cantrip/cantrip/Token"), (0, .methodref 62 70), (0, .nameAndType 71 72), (0, u "kindOf"), (0, u "(I)Lcom/example/cantrip/cantrip/Token$Kind;"), (0, .methodref 67 74), (0, .nameAndType 5 75), (0, u "(Lcom/example/cantrip/cantrip/Token$Kind;Ljava/lang/String;I)V"), (0, .methodref 67 77), (0, .nameAndType 78 79), (0, u "is"), (0, u "(Ljava/lang/String;)Z"), (3, u "law"), (0, u "(IIII)Z")] 4

def k1m0 : Method := { name := "<init>", desc := "()V", sig := { parameters := [], returnType := none }, accessFlags := 1, code := none }
def k1c1 : Code := { maxStack := 2, maxLocals := 1, code := method_2_code, exceptionTable := #[], attributes := #[] }
def k1m1 : Method := { name := "kindOf", desc := "(I)Lcom/example/cantrip/cantrip/Token$Kind;", sig := { parameters := [.int], returnType := some (.object "com/example/cantrip/cantrip/Token$Kind") }, accessFlags := 10, code := some k1c1 }
def k1c2 : Code := { maxStack := 6, maxLocals := 3, code := method_3_code, exceptionTable := #[], attributes := #[] }
def k1m2 : Method := { name := "str", desc := "(ICC)Ljava/lang/String;", sig := { parameters := [.int, .char, .char], returnType := some (.object "java/lang/String") }, accessFlags := 10, code := some k1c2 }
def k1c3 : Code := { maxStack := 6, maxLocals := 16, code := code, exceptionTable := #[], attributes := #[] }
def k1m3 : Method := { name := "law", desc := "(IIII)Z", sig := { parameters := [.int, .int, .int, .int], returnType := some .boolean }, accessFlags := 9, code := some k1c3 }
/-- com/example/cantrip/cantrip/TokenIsPinLaw -/
def k1 : Class := { plain "com/example/cantrip/cantrip/TokenIsPinLaw" (some 0) with
  accessFlags := 49
  interfaces := #[]
  cf := some (fileOf pool1 62 #[] #[{ accessFlags := 1, nameIndex := 5, descriptorIndex := 6, attributes := #[] }, { accessFlags := 10, nameIndex := 71, descriptorIndex := 72, attributes := #[] }, { accessFlags := 10, nameIndex := 65, descriptorIndex := 66, attributes := #[] }, { accessFlags := 9, nameIndex := 83, descriptorIndex := 84, attributes := #[] }] 49 2 #[] #[])
  fields := #[]
  methods := #[k1m0, k1m1, k1m2, k1m3]
  instanceTypes := #[]
  staticTypes := #[]
  resolved := Array.replicate 89 none
  statics := none }

def pool2 : Array CpInfo := pool [(1, .class_ 2), (0, u "java/io/Serializable"), (0, .class_ 4), (0, u "java/lang/Object")] 2

/-- java/io/Serializable -/
def k2 : Class := { plain "java/io/Serializable" (some 0) with
  accessFlags := 1537
  interfaces := #[]
  cf := some (fileOf pool2 1 #[] #[] 1537 3 #[] #[])
  fields := #[]
  methods := #[]
  instanceTypes := #[]
  staticTypes := #[]
  resolved := Array.replicate 7 none
  statics := none }

def pool3 : Array CpInfo := pool [(1, .class_ 2), (0, u "java/lang/Comparable"), (0, .class_ 4), (0, u "java/lang/Object")] 7

/-- java/lang/Comparable -/
def k3 : Class := { plain "java/lang/Comparable" (some 0) with
  accessFlags := 1537
  interfaces := #[]
  cf := some (fileOf pool3 1 #[] #[] 1537 3 #[] #[])
  fields := #[]
  methods := #[]
  instanceTypes := #[]
  staticTypes := #[]
  resolved := Array.replicate 12 none
  statics := none }

def pool4 : Array CpInfo := pool [(2, .class_ 4), (1, u "java/lang/CharSequence"), (42, .class_ 48), (0, u "java/lang/CharSequence$1CodePointIterator"), (10, .class_ 60), (0, u "java/lang/CharSequence$1CharIterator"), (5, .class_ 67), (0, u "java/lang/Object")] 63

/-- java/lang/CharSequence -/
def k4 : Class := { plain "java/lang/CharSequence" (some 0) with
  accessFlags := 1537
  interfaces := #[]
  cf := some (fileOf pool4 2 #[.nestMembers #[47, 59]] #[] 1537 66 #[] #[])
  fields := #[]
  methods := #[]
  instanceTypes := #[]
  staticTypes := #[]
  resolved := Array.replicate 131 none
  statics := none }

def pool5 : Array CpInfo := pool [(1, .class_ 2), (0, u "java/lang/constant/Constable"), (0, .class_ 4), (0, u "java/lang/Object")] 6

/-- java/lang/constant/Constable -/
def k5 : Class := { plain "java/lang/constant/Constable" (some 0) with
  accessFlags := 1537
  interfaces := #[]
  cf := some (fileOf pool5 1 #[] #[] 1537 3 #[] #[])
  fields := #[]
  methods := #[]
  instanceTypes := #[]
  staticTypes := #[]
  resolved := Array.replicate 11 none
  statics := none }

def pool6 : Array CpInfo := pool [(1, .class_ 2), (0, u "java/lang/constant/ConstantDesc"), (0, .class_ 4), (0, u "java/lang/Object")] 32

/-- java/lang/constant/ConstantDesc -/
def k6 : Class := { plain "java/lang/constant/ConstantDesc" (some 0) with
  accessFlags := 1537
  interfaces := #[]
  cf := some (fileOf pool6 1 #[] #[] 1537 3 #[] #[])
  fields := #[]
  methods := #[]
  instanceTypes := #[]
  staticTypes := #[]
  resolved := Array.replicate 37 none
  statics := none }

def pool7 : Array CpInfo := pool [(1, .methodref 2 3), (0, .class_ 4), (0, .nameAndType 5 6), (0, u "java/lang/Object"), (0, u "<init>"), (0, u "()V"), (0, .string 8), (0, u ""), (0, .fieldref 10 11), (0, .class_ 12), (0, .nameAndType 13 14), (0, u "java/lang/String"), (0, u "value"), (0, u "[B"), (0, .fieldref 10 16), (0, .nameAndType 17 18), (0, u "coder"), (0, u "B"), (2, u "hash"), (0, u "I"), (2, u "hashIsZero"), (0, u "Z"), (0, .methodref 10 28), (0, .nameAndType 5 29), (0, u "([CIILjava/lang/Void;)V"), (8, .fieldref 10 39), (0, .nameAndType 40 26), (0, u "COMPACT_STRINGS"), (1, .class_ 44), (1, u "java/lang/StringUTF16"), (0, u "compress"), (1, .methodref 42 48), (0, .nameAndType 49 50), (0, u "coderFromArrayLen"), (0, u "([BI)B"), (56, .class_ 109), (1, u "java/lang/StringLatin1"), (67, .methodref 42 178), (0, .nameAndType 45 179), (0, u "([CII)[B"), (361, .methodref 107 542), (0, .nameAndType 543 544), (0, u "equals"), (0, u "([B[B)Z"), (28, u "(Ljava/lang/Object;)Z"), (1, .class_ 576), (0, u "java/lang/CharSequence"), (22, u "CASE_INSENSITIVE_ORDER"), (0, u "Ljava/util/Comparator;"), (409, u "([C)V"), (90, u "serialPersistentFields"), (0, u "[Ljava/io/ObjectStreamField;"), (0, .class_ 1104), (0, u "java/lang/String$CaseInsensitiveComparator"), (1, .class_ 1107), (0, u "java/io/Serializable"), (0, .class_ 1109), (0, u "java/lang/Comparable"), (0, .class_ 1111), (0, u "java/lang/constant/Constable"), (0, .class_ 1113), (0, u "java/lang/constant/ConstantDesc"), (2, u "serialVersionUID"), (0, u "J"), (3, u "REPL"), (0, u "C"), (2, u "LATIN1"), (1, u "UTF16")] 323

def k7m0 : Method := { name := "<init>", desc := "()V", sig := { parameters := [], returnType := none }, accessFlags := 1, code := none }
def k7c1 : Code := { maxStack := 5, maxLocals := 2, code := jdk_42_method_3_code, exceptionTable := #[], attributes := #[] }
def k7m1 : Method := { name := "<init>", desc := "([C)V", sig := { parameters := [(.array .char)], returnType := none }, accessFlags := 1, code := some k7c1 }
def k7c2 : Code := { maxStack := 2, maxLocals := 3, code := jdk_42_method_66_code, exceptionTable := #[], attributes := #[] }
def k7m2 : Method := { name := "equals", desc := "(Ljava/lang/Object;)Z", sig := { parameters := [(.object "java/lang/Object")], returnType := some .boolean }, accessFlags := 1, code := some k7c2 }
def k7c3 : Code := { maxStack := 4, maxLocals := 6, code := jdk_42_method_149_code, exceptionTable := #[], attributes := #[] }
def k7m3 : Method := { name := "<init>", desc := "([CIILjava/lang/Void;)V", sig := { parameters := [(.array .char), .int, .int, (.object "java/lang/Void")], returnType := none }, accessFlags := 2, code := some k7c3 }
/-- java/lang/String -/
def k7 : Class := { plain "java/lang/String" (some 0) with
  accessFlags := 49
  interfaces := #[2, 3, 4, 5, 6]
  cf := some (fileOf pool7 10 #[.nestMembers #[1103]] #[{ accessFlags := 1, nameIndex := 5, descriptorIndex := 6, attributes := #[] }, { accessFlags := 1, nameIndex := 5, descriptorIndex := 1010, attributes := #[] }, { accessFlags := 1, nameIndex := 543, descriptorIndex := 573, attributes := #[] }, { accessFlags := 2, nameIndex := 5, descriptorIndex := 29, attributes := #[] }] 49 2 #[1106, 1108, 575, 1110, 1112] #[{ accessFlags := 18, nameIndex := 13, descriptorIndex := 14, attributes := #[] }, { accessFlags := 18, nameIndex := 17, descriptorIndex := 18, attributes := #[] }, { accessFlags := 2, nameIndex := 21, descriptorIndex := 22, attributes := #[] }, { accessFlags := 2, nameIndex := 25, descriptorIndex := 26, attributes := #[] }, { accessFlags := 26, nameIndex := 1116, descriptorIndex := 1117, attributes := #[] }, { accessFlags := 24, nameIndex := 40, descriptorIndex := 26, attributes := #[] }, { accessFlags := 26, nameIndex := 1101, descriptorIndex := 1102, attributes := #[] }, { accessFlags := 26, nameIndex := 1121, descriptorIndex := 1122, attributes := #[] }, { accessFlags := 25, nameIndex := 599, descriptorIndex := 600, attributes := #[] }, { accessFlags := 24, nameIndex := 1125, descriptorIndex := 18, attributes := #[] }, { accessFlags := 24, nameIndex := 1127, descriptorIndex := 18, attributes := #[] }])
  fields := #[{ name := "value", type := (.array .byte), accessFlags := 18, slot := 0, constantValue := 0 }, { name := "coder", type := .byte, accessFlags := 18, slot := 1, constantValue := 0 }, { name := "hash", type := .int, accessFlags := 2, slot := 2, constantValue := 0 }, { name := "hashIsZero", type := .boolean, accessFlags := 2, slot := 3, constantValue := 0 }, { name := "serialVersionUID", type := .long, accessFlags := 26, slot := 0, constantValue := 0 }, { name := "COMPACT_STRINGS", type := .boolean, accessFlags := 24, slot := 1, constantValue := 0 }, { name := "serialPersistentFields", type := (.array (.object "java/io/ObjectStreamField")), accessFlags := 26, slot := 2, constantValue := 0 }, { name := "REPL", type := .char, accessFlags := 26, slot := 3, constantValue := 0 }, { name := "CASE_INSENSITIVE_ORDER", type := (.object "java/util/Comparator"), accessFlags := 25, slot := 4, constantValue := 0 }, { name := "LATIN1", type := .byte, accessFlags := 24, slot := 5, constantValue := 0 }, { name := "UTF16", type := .byte, accessFlags := 24, slot := 6, constantValue := 0 }]
  methods := #[k7m0, k7m1, k7m2, k7m3]
  instanceTypes := #[(.array .byte), .byte, .int, .boolean]
  staticTypes := #[.long, .boolean, (.array (.object "java/io/ObjectStreamField")), .char, (.object "java/util/Comparator"), .byte, .byte]
  resolved := Array.replicate 1451 none
  statics := some 0 }

def pool8 : Array CpInfo := pool [(6, .class_ 8), (1, u "java/lang/Object"), (0, u "<init>"), (0, u "()V"), (1, .class_ 14), (1, u "java/lang/StringUTF16"), (31, u "$assertionsDisabled"), (0, u "Z"), (13, u "HI_BYTE_SHIFT"), (0, u "I"), (2, u "LO_BYTE_SHIFT"), (49, .methodref 12 116), (0, .nameAndType 117 118), (0, u "compress"), (0, u "([CI[BII)I"), (3, u "([CII)[B"), (138, u "coderFromArrayLen"), (0, u "([BI)B"), (106, .class_ 371), (1, u "java/lang/StringUTF16$LinesSpliterator"), (58, u "MAX_LENGTH"), (196, .class_ 628), (0, u "java/lang/StringUTF16$CodePointsSpliterator"), (0, .class_ 630), (0, u "java/lang/StringUTF16$CharsSpliterator")] 4

def k8m0 : Method := { name := "<init>", desc := "()V", sig := { parameters := [], returnType := none }, accessFlags := 0, code := none }
def k8c1 : Code := { maxStack := 2, maxLocals := 2, code := jdk_52_method_15_code, exceptionTable := #[], attributes := #[] }
def k8m1 : Method := { name := "coderFromArrayLen", desc := "([BI)B", sig := { parameters := [(.array .byte), .int], returnType := some .byte }, accessFlags := 8, code := some k8c1 }
def k8c2 : Code := { maxStack := 5, maxLocals := 6, code := jdk_52_method_16_code, exceptionTable := #[], attributes := #[] }
def k8m2 : Method := { name := "compress", desc := "([CII)[B", sig := { parameters := [(.array .char), .int, .int], returnType := some (.array .byte) }, accessFlags := 9, code := some k8c2 }
def k8c3 : Code := { maxStack := 3, maxLocals := 7, code := jdk_52_method_21_code, exceptionTable := #[], attributes := #[] }
def k8m3 : Method := { name := "compress", desc := "([CI[BII)I", sig := { parameters := [(.array .char), .int, (.array .byte), .int, .int], returnType := some .int }, accessFlags := 9, code := some k8c3 }
/-- java/lang/StringUTF16 -/
def k8 : Class := { plain "java/lang/StringUTF16" (some 0) with
  accessFlags := 48
  interfaces := #[]
  cf := some (fileOf pool8 12 #[.nestMembers #[627, 629, 369]] #[{ accessFlags := 0, nameIndex := 9, descriptorIndex := 10, attributes := #[] }, { accessFlags := 8, nameIndex := 261, descriptorIndex := 262, attributes := #[] }, { accessFlags := 9, nameIndex := 117, descriptorIndex := 122, attributes := #[] }, { accessFlags := 9, nameIndex := 117, descriptorIndex := 118, attributes := #[] }] 48 6 #[] #[{ accessFlags := 26, nameIndex := 61, descriptorIndex := 62, attributes := #[] }, { accessFlags := 26, nameIndex := 65, descriptorIndex := 62, attributes := #[] }, { accessFlags := 24, nameIndex := 430, descriptorIndex := 62, attributes := #[] }, { accessFlags := 4120, nameIndex := 46, descriptorIndex := 47, attributes := #[] }])
  fields := #[{ name := "HI_BYTE_SHIFT", type := .int, accessFlags := 26, slot := 0, constantValue := 0 }, { name := "LO_BYTE_SHIFT", type := .int, accessFlags := 26, slot := 1, constantValue := 0 }, { name := "MAX_LENGTH", type := .int, accessFlags := 24, slot := 2, constantValue := 0 }, { name := "$assertionsDisabled", type := .boolean, accessFlags := 4120, slot := 3, constantValue := 0 }]
  methods := #[k8m0, k8m1, k8m2, k8m3]
  instanceTypes := #[]
  staticTypes := #[.int, .int, .int, .boolean]
  resolved := Array.replicate 635 none
  statics := none }

def pool9 : Array CpInfo := pool [(1, .methodref 2 3), (0, .class_ 4), (0, .nameAndType 5 6), (0, u "java/lang/Object"), (0, u "<init>"), (0, u "()V"), (0, .class_ 8), (0, u "java/lang/Record")] 13

def k9c0 : Code := { maxStack := 1, maxLocals := 1, code := jdk_30_method_1_code, exceptionTable := #[], attributes := #[] }
def k9m0 : Method := { name := "<init>", desc := "()V", sig := { parameters := [], returnType := none }, accessFlags := 4, code := some k9c0 }
/-- java/lang/Record -/
def k9 : Class := { plain "java/lang/Record" (some 0) with
  accessFlags := 1057
  interfaces := #[]
  cf := some (fileOf pool9 7 #[] #[{ accessFlags := 4, nameIndex := 5, descriptorIndex := 6, attributes := #[] }] 1057 2 #[] #[])
  fields := #[]
  methods := #[k9m0]
  instanceTypes := #[]
  staticTypes := #[]
  resolved := Array.replicate 22 none
  statics := none }

def pool10 : Array CpInfo := pool [(1, .methodref 2 3), (0, .class_ 4), (0, .nameAndType 5 6), (0, u "java/lang/Record"), (0, u "<init>"), (0, u "()V"), (0, .fieldref 8 9), (0, .class_ 10), (0, .nameAndType 11 12), (0, u "com/example/cantrip/cantrip/Token"), (0, u "kind"), (0, u "Lcom/example/cantrip/cantrip/Token$Kind;"), (0, .fieldref 8 14), (0, .nameAndType 15 16), (0, u "text"), (0, u "Ljava/lang/String;"), (0, .fieldref 8 18), (0, .nameAndType 19 20), (0, u "offset"), (0, u "I"), (0, .fieldref 22 23), (0, .class_ 24), (0, .nameAndType 25 12), (0, u "com/example/cantrip/cantrip/Token$Kind"), (0, u "PUNCT"), (0, .methodref 27 28), (0, .class_ 29), (0, .nameAndType 30 31), (0, u "java/lang/String"), (0, u "equals"), (0, u "(Ljava/lang/Object;)Z"), (6, u "(Ljava/lang/String;)Z"), (51, u "(Lcom/example/cantrip/cantrip/Token$Kind;Ljava/lang/String;I)V"), (3, u "is")] 46

def k10c0 : Code := { maxStack := 2, maxLocals := 4, code := prog_3_method_1_code, exceptionTable := #[], attributes := #[] }
def k10m0 : Method := { name := "<init>", desc := "(Lcom/example/cantrip/cantrip/Token$Kind;Ljava/lang/String;I)V", sig := { parameters := [(.object "com/example/cantrip/cantrip/Token$Kind"), (.object "java/lang/String"), .int], returnType := none }, accessFlags := 0, code := some k10c0 }
def k10c1 : Code := { maxStack := 2, maxLocals := 2, code := prog_3_method_2_code, exceptionTable := #[], attributes := #[] }
def k10m1 : Method := { name := "is", desc := "(Ljava/lang/String;)Z", sig := { parameters := [(.object "java/lang/String")], returnType := some .boolean }, accessFlags := 0, code := some k10c1 }
/-- com/example/cantrip/cantrip/Token -/
def k10 : Class := { plain "com/example/cantrip/cantrip/Token" (some 9) with
  accessFlags := 48
  interfaces := #[]
  cf := some (fileOf pool10 8 #[.nestMembers #[22]] #[{ accessFlags := 0, nameIndex := 5, descriptorIndex := 90, attributes := #[] }, { accessFlags := 0, nameIndex := 94, descriptorIndex := 38, attributes := #[] }] 48 2 #[] #[{ accessFlags := 18, nameIndex := 11, descriptorIndex := 12, attributes := #[] }, { accessFlags := 18, nameIndex := 15, descriptorIndex := 16, attributes := #[] }, { accessFlags := 18, nameIndex := 19, descriptorIndex := 20, attributes := #[] }])
  fields := #[{ name := "kind", type := (.object "com/example/cantrip/cantrip/Token$Kind"), accessFlags := 18, slot := 0, constantValue := 0 }, { name := "text", type := (.object "java/lang/String"), accessFlags := 18, slot := 1, constantValue := 0 }, { name := "offset", type := .int, accessFlags := 18, slot := 2, constantValue := 0 }]
  methods := #[k10m0, k10m1]
  instanceTypes := #[(.object "com/example/cantrip/cantrip/Token$Kind"), (.object "java/lang/String"), .int]
  staticTypes := #[]
  resolved := Array.replicate 141 none
  statics := none }

def pool11 : Array CpInfo := pool [(2, .class_ 4), (1, u "java/lang/Enum"), (0, u "name"), (0, u "Ljava/lang/String;"), (2, u "ordinal"), (0, u "I"), (1, .class_ 14), (1, u "java/lang/Object"), (4, u "hash"), (86, .class_ 108), (1, u "java/lang/Enum$EnumDesc"), (2, .class_ 112), (0, u "java/lang/constant/Constable"), (0, .class_ 114), (0, u "java/lang/Comparable"), (0, .class_ 116), (0, u "java/io/Serializable")] 87

/-- java/lang/Enum -/
def k11 : Class := { plain "java/lang/Enum" (some 0) with
  accessFlags := 1057
  interfaces := #[5, 3, 2]
  cf := some (fileOf pool11 2 #[.nestMembers #[106]] #[] 1057 12 #[111, 113, 115] #[{ accessFlags := 18, nameIndex := 5, descriptorIndex := 6, attributes := #[] }, { accessFlags := 18, nameIndex := 9, descriptorIndex := 10, attributes := #[] }, { accessFlags := 2, nameIndex := 19, descriptorIndex := 10, attributes := #[] }])
  fields := #[{ name := "name", type := (.object "java/lang/String"), accessFlags := 18, slot := 0, constantValue := 0 }, { name := "ordinal", type := .int, accessFlags := 18, slot := 1, constantValue := 0 }, { name := "hash", type := .int, accessFlags := 2, slot := 2, constantValue := 0 }]
  methods := #[]
  instanceTypes := #[(.object "java/lang/String"), .int, .int]
  staticTypes := #[]
  resolved := Array.replicate 204 none
  statics := none }

def pool12 : Array CpInfo := pool [(1, .class_ 2), (0, u "com/example/cantrip/cantrip/Token$Kind"), (2, u "IRI"), (0, u "Lcom/example/cantrip/cantrip/Token$Kind;"), (2, u "PNAME_NS"), (2, u "PNAME_LN"), (2, u "BLANK_NODE_LABEL"), (2, u "VAR"), (2, u "STRING"), (2, u "LANGTAG"), (2, u "INTEGER"), (2, u "DECIMAL"), (2, u "DOUBLE"), (2, u "NIL"), (2, u "ANON"), (2, u "WORD"), (2, u "PUNCT"), (2, u "EOF"), (2, u "$VALUES"), (0, u "[Lcom/example/cantrip/cantrip/Token$Kind;"), (6, .class_ 61), (1, u "java/lang/Enum"), (38, .class_ 101), (0, u "com/example/cantrip/cantrip/Token")] 2

/-- com/example/cantrip/cantrip/Token$Kind -/
def k12 : Class := { plain "com/example/cantrip/cantrip/Token$Kind" (some 11) with
  accessFlags := 16432
  interfaces := #[]
  cf := some (fileOf pool12 1 #[.nestHost 100] #[] 16432 59 #[] #[{ accessFlags := 16409, nameIndex := 5, descriptorIndex := 6, attributes := #[] }, { accessFlags := 16409, nameIndex := 9, descriptorIndex := 6, attributes := #[] }, { accessFlags := 16409, nameIndex := 12, descriptorIndex := 6, attributes := #[] }, { accessFlags := 16409, nameIndex := 15, descriptorIndex := 6, attributes := #[] }, { accessFlags := 16409, nameIndex := 18, descriptorIndex := 6, attributes := #[] }, { accessFlags := 16409, nameIndex := 21, descriptorIndex := 6, attributes := #[] }, { accessFlags := 16409, nameIndex := 24, descriptorIndex := 6, attributes := #[] }, { accessFlags := 16409, nameIndex := 27, descriptorIndex := 6, attributes := #[] }, { accessFlags := 16409, nameIndex := 30, descriptorIndex := 6, attributes := #[] }, { accessFlags := 16409, nameIndex := 33, descriptorIndex := 6, attributes := #[] }, { accessFlags := 16409, nameIndex := 36, descriptorIndex := 6, attributes := #[] }, { accessFlags := 16409, nameIndex := 39, descriptorIndex := 6, attributes := #[] }, { accessFlags := 16409, nameIndex := 42, descriptorIndex := 6, attributes := #[] }, { accessFlags := 16409, nameIndex := 45, descriptorIndex := 6, attributes := #[] }, { accessFlags := 16409, nameIndex := 48, descriptorIndex := 6, attributes := #[] }, { accessFlags := 4122, nameIndex := 51, descriptorIndex := 52, attributes := #[] }])
  fields := #[{ name := "IRI", type := (.object "com/example/cantrip/cantrip/Token$Kind"), accessFlags := 16409, slot := 0, constantValue := 0 }, { name := "PNAME_NS", type := (.object "com/example/cantrip/cantrip/Token$Kind"), accessFlags := 16409, slot := 1, constantValue := 0 }, { name := "PNAME_LN", type := (.object "com/example/cantrip/cantrip/Token$Kind"), accessFlags := 16409, slot := 2, constantValue := 0 }, { name := "BLANK_NODE_LABEL", type := (.object "com/example/cantrip/cantrip/Token$Kind"), accessFlags := 16409, slot := 3, constantValue := 0 }, { name := "VAR", type := (.object "com/example/cantrip/cantrip/Token$Kind"), accessFlags := 16409, slot := 4, constantValue := 0 }, { name := "STRING", type := (.object "com/example/cantrip/cantrip/Token$Kind"), accessFlags := 16409, slot := 5, constantValue := 0 }, { name := "LANGTAG", type := (.object "com/example/cantrip/cantrip/Token$Kind"), accessFlags := 16409, slot := 6, constantValue := 0 }, { name := "INTEGER", type := (.object "com/example/cantrip/cantrip/Token$Kind"), accessFlags := 16409, slot := 7, constantValue := 0 }, { name := "DECIMAL", type := (.object "com/example/cantrip/cantrip/Token$Kind"), accessFlags := 16409, slot := 8, constantValue := 0 }, { name := "DOUBLE", type := (.object "com/example/cantrip/cantrip/Token$Kind"), accessFlags := 16409, slot := 9, constantValue := 0 }, { name := "NIL", type := (.object "com/example/cantrip/cantrip/Token$Kind"), accessFlags := 16409, slot := 10, constantValue := 0 }, { name := "ANON", type := (.object "com/example/cantrip/cantrip/Token$Kind"), accessFlags := 16409, slot := 11, constantValue := 0 }, { name := "WORD", type := (.object "com/example/cantrip/cantrip/Token$Kind"), accessFlags := 16409, slot := 12, constantValue := 0 }, { name := "PUNCT", type := (.object "com/example/cantrip/cantrip/Token$Kind"), accessFlags := 16409, slot := 13, constantValue := 0 }, { name := "EOF", type := (.object "com/example/cantrip/cantrip/Token$Kind"), accessFlags := 16409, slot := 14, constantValue := 0 }, { name := "$VALUES", type := (.array (.object "com/example/cantrip/cantrip/Token$Kind")), accessFlags := 4122, slot := 15, constantValue := 0 }]
  methods := #[]
  instanceTypes := #[(.object "java/lang/String"), .int, .int]
  staticTypes := #[(.object "com/example/cantrip/cantrip/Token$Kind"), (.object "com/example/cantrip/cantrip/Token$Kind"), (.object "com/example/cantrip/cantrip/Token$Kind"), (.object "com/example/cantrip/cantrip/Token$Kind"), (.object "com/example/cantrip/cantrip/Token$Kind"), (.object "com/example/cantrip/cantrip/Token$Kind"), (.object "com/example/cantrip/cantrip/Token$Kind"), (.object "com/example/cantrip/cantrip/Token$Kind"), (.object "com/example/cantrip/cantrip/Token$Kind"), (.object "com/example/cantrip/cantrip/Token$Kind"), (.object "com/example/cantrip/cantrip/Token$Kind"), (.object "com/example/cantrip/cantrip/Token$Kind"), (.object "com/example/cantrip/cantrip/Token$Kind"), (.object "com/example/cantrip/cantrip/Token$Kind"), (.object "com/example/cantrip/cantrip/Token$Kind"), (.array (.object "com/example/cantrip/cantrip/Token$Kind"))]
  resolved := Array.replicate 104 none
  statics := some 1 }

def pool13 : Array CpInfo := pool [(4, .class_ 6), (1, u "java/lang/Object"), (0, u "<init>"), (0, u "()V"), (5, .class_ 16), (1, u "java/lang/StringLatin1"), (104, u "$assertionsDisabled"), (0, u "Z"), (98, .class_ 223), (1, u "java/lang/StringLatin1$LinesSpliterator"), (57, u "equals"), (0, u "([B[B)Z"), (107, .class_ 391), (0, u "java/lang/StringLatin1$CharsSpliterator")] 3

def k13m0 : Method := { name := "<init>", desc := "()V", sig := { parameters := [], returnType := none }, accessFlags := 0, code := none }
def k13c1 : Code := { maxStack := 3, maxLocals := 3, code := jdk_43_method_13_code, exceptionTable := #[], attributes := #[] }
def k13m1 : Method := { name := "equals", desc := "([B[B)Z", sig := { parameters := [(.array .byte), (.array .byte)], returnType := some .boolean }, accessFlags := 9, code := some k13c1 }
/-- java/lang/StringLatin1 -/
def k13 : Class := { plain "java/lang/StringLatin1" (some 0) with
  accessFlags := 48
  interfaces := #[]
  cf := some (fileOf pool13 14 #[.nestMembers #[390, 221]] #[{ accessFlags := 0, nameIndex := 7, descriptorIndex := 8, attributes := #[] }, { accessFlags := 9, nameIndex := 281, descriptorIndex := 282, attributes := #[] }] 48 4 #[] #[{ accessFlags := 4120, nameIndex := 121, descriptorIndex := 122, attributes := #[] }])
  fields := #[{ name := "$assertionsDisabled", type := .boolean, accessFlags := 4120, slot := 0, constantValue := 0 }]
  methods := #[k13m0, k13m1]
  instanceTypes := #[]
  staticTypes := #[.boolean]
  resolved := Array.replicate 395 none
  statics := none }

def pool14 : Array CpInfo := pool [(2, .class_ 4), (1, u "java/lang/Object"), (0, u "<init>"), (0, u "()V"), (17, .class_ 26), (1, u "jdk/internal/util/Preconditions"), (28, .class_ 56), (0, u "jdk/internal/util/Preconditions$4"), (57, .class_ 115), (0, u "jdk/internal/util/Preconditions$1"), (7, u "SIOOBE_FORMATTER"), (0, u "Ljava/util/function/BiFunction;"), (0, .class_ 126), (0, u "jdk/internal/util/Preconditions$2"), (3, u "AIOOBE_FORMATTER"), (0, .class_ 132), (0, u "jdk/internal/util/Preconditions$3"), (3, u "IOOBE_FORMATTER")] 57

def k14m0 : Method := { name := "<init>", desc := "()V", sig := { parameters := [], returnType := none }, accessFlags := 1, code := none }
/-- jdk/internal/util/Preconditions -/
def k14 : Class := { plain "jdk/internal/util/Preconditions" (some 0) with
  accessFlags := 33
  interfaces := #[]
  cf := some (fileOf pool14 24 #[.nestMembers #[55, 131, 125, 114]] #[{ accessFlags := 1, nameIndex := 5, descriptorIndex := 6, attributes := #[] }] 33 2 #[] #[{ accessFlags := 25, nameIndex := 123, descriptorIndex := 124, attributes := #[] }, { accessFlags := 25, nameIndex := 130, descriptorIndex := 124, attributes := #[] }, { accessFlags := 25, nameIndex := 136, descriptorIndex := 124, attributes := #[] }])
  fields := #[{ name := "SIOOBE_FORMATTER", type := (.object "java/util/function/BiFunction"), accessFlags := 25, slot := 0, constantValue := 0 }, { name := "AIOOBE_FORMATTER", type := (.object "java/util/function/BiFunction"), accessFlags := 25, slot := 1, constantValue := 0 }, { name := "IOOBE_FORMATTER", type := (.object "java/util/function/BiFunction"), accessFlags := 25, slot := 2, constantValue := 0 }]
  methods := #[k14m0]
  instanceTypes := #[]
  staticTypes := #[(.object "java/util/function/BiFunction"), (.object "java/util/function/BiFunction"), (.object "java/util/function/BiFunction")]
  resolved := Array.replicate 194 none
  statics := some 2 }

def pool15 : Array CpInfo := pool [(9, u "<init>"), (6, .class_ 18), (1, u "java/lang/Object"), (0, u "()V"), (1, .class_ 23), (1, u "jdk/internal/util/ArraysSupport"), (0, u "LOG2_ARRAY_LONG_INDEX_SCALE"), (0, u "I"), (2, u "U"), (0, u "Ljdk/internal/misc/Unsafe;"), (8, u "BIG_ENDIAN"), (0, u "Z"), (8, u "LOG2_BYTE_BIT_SIZE"), (4, u "LOG2_ARRAY_INT_INDEX_SCALE"), (54, u "JLA"), (0, u "Ljdk/internal/access/JavaLangAccess;"), (11, u "LOG2_ARRAY_BOOLEAN_INDEX_SCALE"), (9, u "LOG2_ARRAY_BYTE_INDEX_SCALE"), (5, u "LOG2_ARRAY_CHAR_INDEX_SCALE"), (5, u "LOG2_ARRAY_SHORT_INDEX_SCALE"), (18, u "LOG2_ARRAY_FLOAT_INDEX_SCALE"), (24, u "LOG2_ARRAY_DOUBLE_INDEX_SCALE"), (89, u "T_BOOLEAN"), (2, u "T_CHAR"), (1, u "T_FLOAT"), (1, u "T_DOUBLE"), (1, u "T_BYTE"), (1, u "T_SHORT"), (1, u "T_INT"), (1, u "T_LONG"), (1, u "SOFT_MAX_ARRAY_LENGTH")] 83

def k15m0 : Method := { name := "<init>", desc := "()V", sig := { parameters := [], returnType := none }, accessFlags := 2, code := none }
/-- jdk/internal/util/ArraysSupport -/
def k15 : Class := { plain "jdk/internal/util/ArraysSupport" (some 0) with
  accessFlags := 33
  interfaces := #[]
  cf := some (fileOf pool15 21 #[] #[{ accessFlags := 2, nameIndex := 9, descriptorIndex := 19, attributes := #[] }] 33 16 #[] #[{ accessFlags := 24, nameIndex := 28, descriptorIndex := 29, attributes := #[] }, { accessFlags := 26, nameIndex := 38, descriptorIndex := 39, attributes := #[] }, { accessFlags := 25, nameIndex := 121, descriptorIndex := 25, attributes := #[] }, { accessFlags := 25, nameIndex := 131, descriptorIndex := 25, attributes := #[] }, { accessFlags := 25, nameIndex := 137, descriptorIndex := 25, attributes := #[] }, { accessFlags := 25, nameIndex := 143, descriptorIndex := 25, attributes := #[] }, { accessFlags := 25, nameIndex := 53, descriptorIndex := 25, attributes := #[] }, { accessFlags := 25, nameIndex := 24, descriptorIndex := 25, attributes := #[] }, { accessFlags := 25, nameIndex := 162, descriptorIndex := 25, attributes := #[] }, { accessFlags := 25, nameIndex := 187, descriptorIndex := 25, attributes := #[] }, { accessFlags := 26, nameIndex := 48, descriptorIndex := 25, attributes := #[] }, { accessFlags := 25, nameIndex := 277, descriptorIndex := 25, attributes := #[] }, { accessFlags := 25, nameIndex := 280, descriptorIndex := 25, attributes := #[] }, { accessFlags := 25, nameIndex := 282, descriptorIndex := 25, attributes := #[] }, { accessFlags := 25, nameIndex := 284, descriptorIndex := 25, attributes := #[] }, { accessFlags := 25, nameIndex := 286, descriptorIndex := 25, attributes := #[] }, { accessFlags := 25, nameIndex := 288, descriptorIndex := 25, attributes := #[] }, { accessFlags := 25, nameIndex := 290, descriptorIndex := 25, attributes := #[] }, { accessFlags := 25, nameIndex := 292, descriptorIndex := 25, attributes := #[] }, { accessFlags := 26, nameIndex := 108, descriptorIndex := 109, attributes := #[] }, { accessFlags := 25, nameIndex := 294, descriptorIndex := 25, attributes := #[] }])
  fields := #[{ name := "U", type := (.object "jdk/internal/misc/Unsafe"), accessFlags := 24, slot := 0, constantValue := 0 }, { name := "BIG_ENDIAN", type := .boolean, accessFlags := 26, slot := 1, constantValue := 0 }, { name := "LOG2_ARRAY_BOOLEAN_INDEX_SCALE", type := .int, accessFlags := 25, slot := 2, constantValue := 0 }, { name := "LOG2_ARRAY_BYTE_INDEX_SCALE", type := .int, accessFlags := 25, slot := 3, constantValue := 0 }, { name := "LOG2_ARRAY_CHAR_INDEX_SCALE", type := .int, accessFlags := 25, slot := 4, constantValue := 0 }, { name := "LOG2_ARRAY_SHORT_INDEX_SCALE", type := .int, accessFlags := 25, slot := 5, constantValue := 0 }, { name := "LOG2_ARRAY_INT_INDEX_SCALE", type := .int, accessFlags := 25, slot := 6, constantValue := 0 }, { name := "LOG2_ARRAY_LONG_INDEX_SCALE", type := .int, accessFlags := 25, slot := 7, constantValue := 0 }, { name := "LOG2_ARRAY_FLOAT_INDEX_SCALE", type := .int, accessFlags := 25, slot := 8, constantValue := 0 }, { name := "LOG2_ARRAY_DOUBLE_INDEX_SCALE", type := .int, accessFlags := 25, slot := 9, constantValue := 0 }, { name := "LOG2_BYTE_BIT_SIZE", type := .int, accessFlags := 26, slot := 10, constantValue := 0 }, { name := "T_BOOLEAN", type := .int, accessFlags := 25, slot := 11, constantValue := 0 }, { name := "T_CHAR", type := .int, accessFlags := 25, slot := 12, constantValue := 0 }, { name := "T_FLOAT", type := .int, accessFlags := 25, slot := 13, constantValue := 0 }, { name := "T_DOUBLE", type := .int, accessFlags := 25, slot := 14, constantValue := 0 }, { name := "T_BYTE", type := .int, accessFlags := 25, slot := 15, constantValue := 0 }, { name := "T_SHORT", type := .int, accessFlags := 25, slot := 16, constantValue := 0 }, { name := "T_INT", type := .int, accessFlags := 25, slot := 17, constantValue := 0 }, { name := "T_LONG", type := .int, accessFlags := 25, slot := 18, constantValue := 0 }, { name := "JLA", type := (.object "jdk/internal/access/JavaLangAccess"), accessFlags := 26, slot := 19, constantValue := 0 }, { name := "SOFT_MAX_ARRAY_LENGTH", type := .int, accessFlags := 25, slot := 20, constantValue := 0 }]
  methods := #[k15m0]
  instanceTypes := #[]
  staticTypes := #[(.object "jdk/internal/misc/Unsafe"), .boolean, .int, .int, .int, .int, .int, .int, .int, .int, .int, .int, .int, .int, .int, .int, .int, .int, .int, (.object "jdk/internal/access/JavaLangAccess"), .int]
  resolved := Array.replicate 378 none
  statics := none }

def pool16 : Array CpInfo := pool [(1, u "java/lang/Cloneable"), (0, .class_ 1), (0, u "java/lang/Object"), (0, .class_ 3)] 3

/-- java/lang/Cloneable -/
def k16 : Class := { plain "java/lang/Cloneable" (some 0) with
  accessFlags := 1537
  interfaces := #[]
  cf := some (fileOf pool16 2 #[] #[] 1537 4 #[] #[])
  fields := #[]
  methods := #[]
  instanceTypes := #[]
  staticTypes := #[]
  resolved := Array.replicate 8 none
  statics := none }

/-- the primitive byte -/
def k17 : Class := { plain "byte" none with kind := .primitive 'B', accessFlags := 0x411 }
/-- [B -/
def k18 : Class := { plain "[B" (some 0) with kind := .array 17 .byte, interfaces := #[16, 2], accessFlags := 1041 }

/-- the primitive char -/
def k19 : Class := { plain "char" none with kind := .primitive 'C', accessFlags := 0x411 }
/-- [C -/
def k20 : Class := { plain "[C" (some 0) with kind := .array 19 .char, interfaces := #[16, 2], accessFlags := 1041 }

/-- the primitive int -/
def k21 : Class := { plain "int" none with kind := .primitive 'I', accessFlags := 0x411 }
/-- [I -/
def k22 : Class := { plain "[I" (some 0) with kind := .array 21 .int, interfaces := #[16, 2], accessFlags := 1041 }

def heap : Heap := #[{ cls := 7, slots := #[.long 0, .int 1, .null, .int 0, .null, .int 0, .int 0], vm := .statics 7 },
  { cls := 12, slots := #[.ref 3, .ref 4, .ref 5, .ref 6, .ref 7, .ref 8, .ref 9, .ref 10, .ref 11, .ref 12, .ref 13, .ref 14, .ref 15, .ref 16, .ref 17, .null], vm := .statics 12 },
  { cls := 14, slots := #[.null, .null, .null], vm := .statics 14 },
  { cls := 12, slots := #[.null, .int 0, .int 0], vm := .none },
  { cls := 12, slots := #[.null, .int 1, .int 0], vm := .none },
  { cls := 12, slots := #[.null, .int 2, .int 0], vm := .none },
  { cls := 12, slots := #[.null, .int 3, .int 0], vm := .none },
  { cls := 12, slots := #[.null, .int 4, .int 0], vm := .none },
  { cls := 12, slots := #[.null, .int 5, .int 0], vm := .none },
  { cls := 12, slots := #[.null, .int 6, .int 0], vm := .none },
  { cls := 12, slots := #[.null, .int 7, .int 0], vm := .none },
  { cls := 12, slots := #[.null, .int 8, .int 0], vm := .none },
  { cls := 12, slots := #[.null, .int 9, .int 0], vm := .none },
  { cls := 12, slots := #[.null, .int 10, .int 0], vm := .none },
  { cls := 12, slots := #[.null, .int 11, .int 0], vm := .none },
  { cls := 12, slots := #[.null, .int 12, .int 0], vm := .none },
  { cls := 12, slots := #[.null, .int 13, .int 0], vm := .none },
  { cls := 12, slots := #[.null, .int 14, .int 0], vm := .none }]
def classes : Array Class := #[k0, k1, k2, k3, k4, k5, k6, k7, k8, k9, k10, k11, k12, k13, k14, k15, k16, k17, k18, k19, k20, k21, k22]
def interned : List (Array UInt16 × Addr) := []
def slotsUsed : Nat := 71
def theMethod : MethodId := ⟨1, 3⟩
def args0 : Array Value := #[.int 13, .int 16705, .int 16705, .int 10]
def aboutOver (below : List Frame) : State where
  vm := { classes := classes, interned := interned.toArray }
  heap := heap
  slotsUsed := slotsUsed
  threads := #[{ frames := .invoking theMethod args0 :: below }]
def below0 : List Frame := [.native { method := ⟨0, 0⟩, args := #[] }]
def about1 : State := aboutOver below0
def p0 : Program := .bare "" "" ""
def e0 : Env := launch0.env 0 0 0
theorem w_frames : about1.frames = Frame.invoking theMethod args0 :: below0 := rfl
set_option maxRecDepth 65536 in
theorem w_args : argsFit about1.vm theMethod args0 = true := by decide +kernel
set_option maxRecDepth 65536 in
theorem w_heap : heapFits about1 = true := by decide +kernel
set_option maxRecDepth 65536 in
theorem w_runnable : about1.curStatus? = some .runnable := by decide +kernel
set_option maxRecDepth 65536 in
theorem w_alone : about1.alone = true := by decide +kernel
set_option maxRecDepth 65536 in
theorem w_named : about1.methodNamed? x = some theMethod := by decide +kernel
set_option maxRecDepth 65536 in
theorem w_hears : about1.hears theMethod below0 = true := by decide +kernel
set_option maxRecDepth 65536 in
theorem w_ripe : about1.ripe theMethod args0 below0 = true := by decide +kernel
theorem w_running : about1.status = .running := rfl
set_option maxRecDepth 65536 in
theorem w_room : about1.hasRoom e0.platform room_1 = true :=
  launch0.hasRoom_least _ room_1 (by decide +kernel) (by decide +kernel) (by decide +kernel) (by decide +kernel) (by decide +kernel) (by decide +kernel)
theorem allAtoms_all (ts : List Jvm.Cond) (a : Array Jvm.Value) (st : Jvm.State) : (allAtoms ts).before a st = ts.all (fun c => c.before a st) := by
  induction ts with
  | nil => rfl
  | cons c t ih =>
    show (Jvm.Cond.and c (allAtoms t)).before a st = _
    rw [Jvm.Cond.before_and, ih, List.all_cons]
def words1 : List Jvm.Cond := Jvm.Cond.code x code maxLocals ret :: tables_1
/-- a 'code' word, met by the world's own term for the bytes: nothing is compared byte by byte -/
theorem code_word {y : MethodName} {bytes : ByteArray} {mx : Nat} {rt : Option FieldType} {a : Array Value} {s : State} {m : MethodId} {meth : Method} {c : Code} (h1 : s.methodNamed? y = some m) (h2 : s.vm.method? m = some meth) (h3 : meth.code = some c) (h4 : c.code = bytes)
    (h5 : (c.maxLocals == mx && c.exceptionTable.isEmpty && decide (c.maxStack ≤ mostOperands) && decide (meth.sig.returnType = rt) && !meth.locks && decide (parseMethodDescriptor y.desc = some meth.sig)) = true) : (Jvm.Cond.code y bytes mx rt).before a s = true := by
  simp only [Bool.and_eq_true, beq_iff_eq, Bool.not_eq_true', decide_eq_true_eq] at h5
  obtain ⟨⟨⟨⟨⟨g1, g2⟩, g3⟩, g4⟩, g5⟩, g6⟩ := h5
  simp [Cond.before, Cond.holds, Cond.value, h1, h2, h3, h4, g1, g2, g3, g4, g5, g6]
def isCode : Jvm.Cond → Bool
  | .code _ _ _ _ => true
  | _ => false
theorem all_split {L : List Jvm.Cond} {P : Jvm.Cond → Bool} (h1 : L.all (fun c => isCode c || P c) = true) (h2 : ∀ c ∈ L.filter isCode, P c = true) : L.all P = true := by
  refine List.all_eq_true.mpr fun c hc => ?_
  have h := List.all_eq_true.mp h1 c hc
  rcases Bool.eq_false_or_eq_true (isCode c) with hi | hi
  · exact h2 c (List.mem_filter.mpr ⟨hc, hi⟩)
  · simpa [hi] using h
set_option maxRecDepth 65536 in
theorem w_c0 : (Jvm.Cond.code x code maxLocals ret).before args0 about1 = true := code_word (m := ⟨1, 3⟩) (meth := k1m3) (c := k1c3) (by decide +kernel) rfl rfl rfl (by decide +kernel)
set_option maxRecDepth 65536 in
theorem w_c1 : (Jvm.Cond.code ({ cls := "com/example/cantrip/cantrip/TokenIsPinLaw", name := "str", desc := "(ICC)Ljava/lang/String;" } : Jvm.MethodName) method_3_code (3 : Nat) (Option.some (Jvm.ClassFile.FieldType.object "java/lang/String"))).before args0 about1 = true := code_word (m := ⟨1, 2⟩) (meth := k1m2) (c := k1c2) (by decide +kernel) rfl rfl rfl (by decide +kernel)
set_option maxRecDepth 65536 in
theorem w_c2 : (Jvm.Cond.code ({ cls := "java/lang/String", name := "<init>", desc := "([C)V" } : Jvm.MethodName) jdk_42_method_3_code (2 : Nat) (Option.none : Option Jvm.ClassFile.FieldType)).before args0 about1 = true := code_word (m := ⟨7, 1⟩) (meth := k7m1) (c := k7c1) (by decide +kernel) rfl rfl rfl (by decide +kernel)
set_option maxRecDepth 65536 in
theorem w_c3 : (Jvm.Cond.code ({ cls := "java/lang/String", name := "<init>", desc := "([CIILjava/lang/Void;)V" } : Jvm.MethodName) jdk_42_method_149_code (6 : Nat) (Option.none : Option Jvm.ClassFile.FieldType)).before args0 about1 = true := code_word (m := ⟨7, 3⟩) (meth := k7m3) (c := k7c3) (by decide +kernel) rfl rfl rfl (by decide +kernel)
set_option maxRecDepth 65536 in
theorem w_c4 : (Jvm.Cond.code ({ cls := "java/lang/Object", name := "<init>", desc := "()V" } : Jvm.MethodName) object_method_1_code (1 : Nat) (Option.none : Option Jvm.ClassFile.FieldType)).before args0 about1 = true := code_word (m := ⟨0, 0⟩) (meth := k0m0) (c := k0c0) (by decide +kernel) rfl rfl rfl (by decide +kernel)
set_option maxRecDepth 65536 in
theorem w_c5 : (Jvm.Cond.code ({ cls := "java/lang/StringUTF16", name := "compress", desc := "([CII)[B" } : Jvm.MethodName) jdk_52_method_16_code (6 : Nat) (Option.some (Jvm.ClassFile.FieldType.array Jvm.ClassFile.FieldType.byte))).before args0 about1 = true := code_word (m := ⟨8, 2⟩) (meth := k8m2) (c := k8c2) (by decide +kernel) rfl rfl rfl (by decide +kernel)
set_option maxRecDepth 65536 in
theorem w_c6 : (Jvm.Cond.code ({ cls := "java/lang/StringUTF16", name := "compress", desc := "([CI[BII)I" } : Jvm.MethodName) jdk_52_method_21_code (7 : Nat) (Option.some Jvm.ClassFile.FieldType.int)).before args0 about1 = true := code_word (m := ⟨8, 3⟩) (meth := k8m3) (c := k8c3) (by decide +kernel) rfl rfl rfl (by decide +kernel)
set_option maxRecDepth 65536 in
theorem w_c7 : (Jvm.Cond.code ({ cls := "java/lang/StringUTF16", name := "coderFromArrayLen", desc := "([BI)B" } : Jvm.MethodName) jdk_52_method_15_code (2 : Nat) (Option.some Jvm.ClassFile.FieldType.byte)).before args0 about1 = true := code_word (m := ⟨8, 1⟩) (meth := k8m1) (c := k8c1) (by decide +kernel) rfl rfl rfl (by decide +kernel)
set_option maxRecDepth 65536 in
theorem w_c8 : (Jvm.Cond.code ({ cls := "com/example/cantrip/cantrip/TokenIsPinLaw", name := "kindOf", desc := "(I)Lcom/example/cantrip/cantrip/Token$Kind;" } : Jvm.MethodName) method_2_code (1 : Nat) (Option.some (Jvm.ClassFile.FieldType.object "com/example/cantrip/cantrip/Token$Kind"))).before args0 about1 = true := code_word (m := ⟨1, 1⟩) (meth := k1m1) (c := k1c1) (by decide +kernel) rfl rfl rfl (by decide +kernel)
set_option maxRecDepth 65536 in
theorem w_c9 : (Jvm.Cond.code ({ cls := "com/example/cantrip/cantrip/Token", name := "<init>", desc := "(Lcom/example/cantrip/cantrip/Token$Kind;Ljava/lang/String;I)V" } : Jvm.MethodName) prog_3_method_1_code (4 : Nat) (Option.none : Option Jvm.ClassFile.FieldType)).before args0 about1 = true := code_word (m := ⟨10, 0⟩) (meth := k10m0) (c := k10c0) (by decide +kernel) rfl rfl rfl (by decide +kernel)
set_option maxRecDepth 65536 in
theorem w_c10 : (Jvm.Cond.code ({ cls := "java/lang/Record", name := "<init>", desc := "()V" } : Jvm.MethodName) jdk_30_method_1_code (1 : Nat) (Option.none : Option Jvm.ClassFile.FieldType)).before args0 about1 = true := code_word (m := ⟨9, 0⟩) (meth := k9m0) (c := k9c0) (by decide +kernel) rfl rfl rfl (by decide +kernel)
set_option maxRecDepth 65536 in
theorem w_c11 : (Jvm.Cond.code ({ cls := "com/example/cantrip/cantrip/Token", name := "is", desc := "(Ljava/lang/String;)Z" } : Jvm.MethodName) prog_3_method_2_code (2 : Nat) (Option.some Jvm.ClassFile.FieldType.boolean)).before args0 about1 = true := code_word (m := ⟨10, 1⟩) (meth := k10m1) (c := k10c1) (by decide +kernel) rfl rfl rfl (by decide +kernel)
set_option maxRecDepth 65536 in
theorem w_c12 : (Jvm.Cond.code ({ cls := "java/lang/String", name := "equals", desc := "(Ljava/lang/Object;)Z" } : Jvm.MethodName) jdk_42_method_66_code (3 : Nat) (Option.some Jvm.ClassFile.FieldType.boolean)).before args0 about1 = true := code_word (m := ⟨7, 2⟩) (meth := k7m2) (c := k7c2) (by decide +kernel) rfl rfl rfl (by decide +kernel)
set_option maxRecDepth 65536 in
theorem w_c13 : (Jvm.Cond.code ({ cls := "java/lang/StringLatin1", name := "equals", desc := "([B[B)Z" } : Jvm.MethodName) jdk_43_method_13_code (3 : Nat) (Option.some Jvm.ClassFile.FieldType.boolean)).before args0 about1 = true := code_word (m := ⟨13, 1⟩) (meth := k13m1) (c := k13c1) (by decide +kernel) rfl rfl rfl (by decide +kernel)
def codes1 : List Jvm.Cond := [Jvm.Cond.code x code maxLocals ret, Jvm.Cond.code ({ cls := "com/example/cantrip/cantrip/TokenIsPinLaw", name := "str", desc := "(ICC)Ljava/lang/String;" } : Jvm.MethodName) method_3_code (3 : Nat) (Option.some (Jvm.ClassFile.FieldType.object "java/lang/String")), Jvm.Cond.code ({ cls := "java/lang/String", name := "<init>", desc := "([C)V" } : Jvm.MethodName) jdk_42_method_3_code (2 : Nat) (Option.none : Option Jvm.ClassFile.FieldType), Jvm.Cond.code ({ cls := "java/lang/String", name := "<init>", desc := "([CIILjava/lang/Void;)V" } : Jvm.MethodName) jdk_42_method_149_code (6 : Nat) (Option.none : Option Jvm.ClassFile.FieldType), Jvm.Cond.code ({ cls := "java/lang/Object", name := "<init>", desc := "()V" } : Jvm.MethodName) object_method_1_code (1 : Nat) (Option.none : Option Jvm.ClassFile.FieldType), Jvm.Cond.code ({ cls := "java/lang/StringUTF16", name := "compress", desc := "([CII)[B" } : Jvm.MethodName) jdk_52_method_16_code (6 : Nat) (Option.some (Jvm.ClassFile.FieldType.array Jvm.ClassFile.FieldType.byte)), Jvm.Cond.code ({ cls := "java/lang/StringUTF16", name := "compress", desc := "([CI[BII)I" } : Jvm.MethodName) jdk_52_method_21_code (7 : Nat) (Option.some Jvm.ClassFile.FieldType.int), Jvm.Cond.code ({ cls := "java/lang/StringUTF16", name := "coderFromArrayLen", desc := "([BI)B" } : Jvm.MethodName) jdk_52_method_15_code (2 : Nat) (Option.some Jvm.ClassFile.FieldType.byte), Jvm.Cond.code ({ cls := "com/example/cantrip/cantrip/TokenIsPinLaw", name := "kindOf", desc := "(I)Lcom/example/cantrip/cantrip/Token$Kind;" } : Jvm.MethodName) method_2_code (1 : Nat) (Option.some (Jvm.ClassFile.FieldType.object "com/example/cantrip/cantrip/Token$Kind")), Jvm.Cond.code ({ cls := "com/example/cantrip/cantrip/Token", name := "<init>", desc := "(Lcom/example/cantrip/cantrip/Token$Kind;Ljava/lang/String;I)V" } : Jvm.MethodName) prog_3_method_1_code (4 : Nat) (Option.none : Option Jvm.ClassFile.FieldType), Jvm.Cond.code ({ cls := "java/lang/Record", name := "<init>", desc := "()V" } : Jvm.MethodName) jdk_30_method_1_code (1 : Nat) (Option.none : Option Jvm.ClassFile.FieldType), Jvm.Cond.code ({ cls := "com/example/cantrip/cantrip/Token", name := "is", desc := "(Ljava/lang/String;)Z" } : Jvm.MethodName) prog_3_method_2_code (2 : Nat) (Option.some Jvm.ClassFile.FieldType.boolean), Jvm.Cond.code ({ cls := "java/lang/String", name := "equals", desc := "(Ljava/lang/Object;)Z" } : Jvm.MethodName) jdk_42_method_66_code (3 : Nat) (Option.some Jvm.ClassFile.FieldType.boolean), Jvm.Cond.code ({ cls := "java/lang/StringLatin1", name := "equals", desc := "([B[B)Z" } : Jvm.MethodName) jdk_43_method_13_code (3 : Nat) (Option.some Jvm.ClassFile.FieldType.boolean)]
set_option maxRecDepth 65536 in
theorem codes_eq : words1.filter isCode = codes1 := rfl
theorem w_codes : ∀ c ∈ words1.filter isCode, c.before args0 about1 = true := by
  rw [codes_eq]
  intro c hc
  simp only [codes1, List.mem_cons, List.not_mem_nil, or_false] at hc
  rcases hc with rfl | rfl | rfl | rfl | rfl | rfl | rfl | rfl | rfl | rfl | rfl | rfl | rfl | rfl
  · exact w_c0
  · exact w_c1
  · exact w_c2
  · exact w_c3
  · exact w_c4
  · exact w_c5
  · exact w_c6
  · exact w_c7
  · exact w_c8
  · exact w_c9
  · exact w_c10
  · exact w_c11
  · exact w_c12
  · exact w_c13
set_option maxRecDepth 65536 in
theorem w_t1 : (words1.take 24).all (fun c => isCode c || c.before args0 about1) = true := by decide +kernel
set_option maxRecDepth 65536 in
theorem w_t2 : ((words1.drop 24).take 24).all (fun c => isCode c || c.before args0 about1) = true := by decide +kernel
set_option maxRecDepth 65536 in
theorem w_t3 : (((words1.drop 24).drop 24).take 24).all (fun c => isCode c || c.before args0 about1) = true := by decide +kernel
set_option maxRecDepth 65536 in
theorem w_t4 : ((((words1.drop 24).drop 24).drop 24).take 24).all (fun c => isCode c || c.before args0 about1) = true := by decide +kernel
set_option maxRecDepth 65536 in
theorem w_t5 : ((((words1.drop 24).drop 24).drop 24).drop 24).all (fun c => isCode c || c.before args0 about1) = true := by decide +kernel
theorem w_tables : (allAtoms (Jvm.Cond.code x code maxLocals ret :: tables_1)).before args0 about1 = true := by
  rw [allAtoms_all]
  show words1.all (fun c => c.before args0 about1) = true
  refine all_split ?_ w_codes
  rw [← List.take_append_drop 24 words1, List.all_append, w_t1, ← List.take_append_drop 24 (words1.drop 24), List.all_append, w_t2, ← List.take_append_drop 24 ((words1.drop 24).drop 24), List.all_append, w_t3, ← List.take_append_drop 24 (((words1.drop 24).drop 24).drop 24), List.all_append, w_t4, w_t5]
  rfl
set_option maxRecDepth 65536 in
theorem w_rest : rest_1_c.before args0 about1 = true := by decide +kernel
set_option maxRecDepth 65536 in
theorem w_case : (Jvm.Cond.and given_1 narrow_1).before args0 about1 = true := by decide +kernel
set_option maxRecDepth 65536 in
theorem w_consts : constsHeld consts_1 about1 := Jvm.Lit.constsHeldB_iff.mp (by decide +kernel)
theorem w_applies : (headSpec (Jvm.Cond.code x code maxLocals ret :: tables_1) room_1).applies x e0.platform about1 = true :=
  (Spec.applies_iff w_frames).mpr ⟨w_running, w_runnable, w_alone, w_named, w_hears, w_ripe, w_room, w_tables⟩
theorem atStart : AtStart classFile x code maxLocals ret World_1 tables_1 room_1 Calls_1 rest_1 Pre_1 launch0 p0 e0 about1 theMethod args0 below0 :=
  ⟨lists_1, trivial, launch0.admits_env _ _ _, launch0.least_env, fairChoices_fair.cas, fairChoices_fair.clock, w_frames, w_args, w_heap, w_applies, ⟨w_consts, trivial⟩, w_rest, w_case⟩
end start1
theorem witness_1 : WitnessClaimed_1 := ⟨start1.p0, start1.e0, start1.about1, start1.theMethod, start1.args0, start1.below0, start1.atStart⟩
end Jvm.Pilot.@@N@@
