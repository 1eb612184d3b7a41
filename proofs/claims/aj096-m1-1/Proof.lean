import JvmDerived
import JvmDerived.Pilot.@@N@@Statement
import JvmDerived.Pilot.@@N@@Code
set_option linter.unusedVariables false
set_option linter.unusedSimpArgs false
namespace Jvm.RoadKit
open Sem ClassFile Op Lib Jvm.Stand Jvm.Free Jvm.LawKit
section New
variable {p : Program} {l : Launch} {e : Env} {R : Room} {s : State} {m : MethodId} {args : Array Value} {below : List Frame} {meth : Method} {c : Code} {T : State} {locs : List Loc} {cells slots : Nat}
theorem retI (X : Stand p l e R s m args below meth c T locs cells slots) (hx : p.tables.exec = Jvm.exec) {pc : Nat} {Ls : Array Slot} {z : Int32} {rest : List Value} (hret : meth.sig.returnType = some .int) (hd : decode c.code pc = .ok (.ireturn, 1)) {fs : List Frame}
    (hl : ∀ (f : JFrame) (acts : List Action), f.method = m → f.locked = none → f.entered = [] → (doReturn e (T.setTop f) acts (some (.int z))).1 = T.setFrames fs) : Steps p.tables e below (T.setTop (mkF m pc Ls (.int z :: rest))) (T.setFrames fs) := by
  have hm' : T.vm.method? m = some meth := X.method'
  have hn : narrow .int (.int z) = .int z := rfl
  show Steps p.tables e below (T.setTop { method := m, pc := pc, locals := Ls, stack := _ :: rest, locked := none }) _
  jvm_step X.here [X.here.top, hx, hd, hm', hret, hn]
  first | (intro acts; rw [hl _ acts rfl rfl rfl]) | rw [hl _ _ rfl rfl rfl]
  exact Steps.refl _
end New
theorem own_sta_keep {Z : State} {h h' : Heap} {C n d : String} {w : Value} {ws : List Addr} (F : Sta Z h C n d w) (K : Keep h h' ws) (q : ∀ x ∈ ws, ∃ c : Cell, h[x]? = some c ∧ c.vm.isStatics = false) : Sta Z h' C n d w := by
  obtain ⟨cf, i, k, f, st, cell, h1, h2, h3, h4, h5, h6, h7⟩ := F
  refine ⟨cf, i, k, f, st, cell, h1, h2, h3, h4, K.2.1 st cell h5 (fun hm => ?_), h6, h7⟩
  obtain ⟨c, g1, g2⟩ := q st hm
  cases h5.symm.trans g1
  rw [h6] at g2; cases g2
theorem own_exa_ns {Z : State} {h : Heap} {a : Addr} {C : String} (F : Exa Z h a C) : ∃ c : Cell, h[a]? = some c ∧ c.vm.isStatics = false := by
  obtain ⟨cell, k, h1, -, -, h4, -⟩ := F
  exact ⟨cell, h1, h4⟩
theorem own_arv_ns {Z : State} {h : Heap} {a : Addr} {k : ClassId} {ty : FieldType} {z : Int32} {vs : List Value} {d : Value} (F : Arv Z h a k ty z vs d) : ∃ c : Cell, h[a]? = some c ∧ c.vm.isStatics = false := by
  obtain ⟨cell, A, -⟩ := F
  exact ⟨cell, A.1, A.plain⟩
theorem own_arv {Z : State} {h : Heap} {a : Addr} {k : ClassId} {ty : FieldType} {z : Int32} {vs : List Value} {d : Value} (F : Arh Z h a k ty z [] vs d) : Arv Z h a k ty z vs d := F
theorem own_eqv {Z : State} {args : Array Value} {t u : Term} {v : Value} (hv : (∃ k, v = .int k) ∨ ∃ a, v = .ref a) (hu : u.eval args Z none [] Z = some v) (h : (Jvm.Cond.eq t u).value args Z none Z [] = some true) : t.eval args Z none [] Z = some v := by
  simp only [Jvm.Cond.value, hu] at h
  cases ht : t.eval args Z none [] Z with
  | none => simp [ht] at h
  | some x => rcases hv with ⟨k, rfl⟩ | ⟨a, rfl⟩ <;> cases x <;> simp [ht] at h ⊢ <;> exact h
theorem own_len {Z : State} {args : Array Value} {t : Term} {a : Addr} {cl : Cell} {ty : FieldType} {z : Int32} (ev : t.eval args Z none [] Z = some (.ref a)) (A : Arr Z Z.heap a cl ty) (h : (Term.length t).eval args Z none [] Z = some (.int z)) : cl.slots.size < 2 ^ 31 ∧ cl.slots.size.toInt32 = z := by
  obtain ⟨a', cell, ha', hat, hv⟩ := Term.length_spec h
  cases ev.symm.trans ha'
  cases A.1.symm.trans (State.arrayAt?_spec hat).1
  cases hv
  refine ⟨?_, rfl⟩
  by_cases q : cl.slots.size < 2 ^ 31
  · exact q
  · exfalso
    simp [Term.eval, ev, hat, q] at h
end Jvm.RoadKit
namespace Jvm.Pilot.@@N@@
open Jvm Jvm.ClassFile Sem Op Lib Jvm.Free Jvm.Stand Jvm.LawKit Jvm.RoadKit Bundle Jvm.Pilot.@@N@@.Jvm.D
theorem d1_0 : decode method_2_code 0 = .ok (.iload_n 0, 1) := by decide +kernel
theorem d1_1 : decode method_2_code 1 = .ok (.ifCond .ne 7, 3) := by decide +kernel
theorem d1_4 : decode method_2_code 4 = .ok (.getstatic 7, 3) := by decide +kernel
theorem d1_7 : decode method_2_code 7 = .ok (.areturn, 1) := by decide +kernel
theorem d1_8 : decode method_2_code 8 = .ok (.iload_n 0, 1) := by decide +kernel
theorem d1_9 : decode method_2_code 9 = .ok (.iconst 1, 1) := by decide +kernel
theorem d1_10 : decode method_2_code 10 = .ok (.if_icmp .ne 7, 3) := by decide +kernel
theorem d1_13 : decode method_2_code 13 = .ok (.getstatic 13, 3) := by decide +kernel
theorem d1_16 : decode method_2_code 16 = .ok (.areturn, 1) := by decide +kernel
theorem d1_17 : decode method_2_code 17 = .ok (.iload_n 0, 1) := by decide +kernel
theorem d1_18 : decode method_2_code 18 = .ok (.iconst 2, 1) := by decide +kernel
theorem d1_19 : decode method_2_code 19 = .ok (.if_icmp .ne 7, 3) := by decide +kernel
theorem d1_22 : decode method_2_code 22 = .ok (.getstatic 16, 3) := by decide +kernel
theorem d1_25 : decode method_2_code 25 = .ok (.areturn, 1) := by decide +kernel
theorem d1_26 : decode method_2_code 26 = .ok (.iload_n 0, 1) := by decide +kernel
theorem d1_27 : decode method_2_code 27 = .ok (.iconst 3, 1) := by decide +kernel
theorem d1_28 : decode method_2_code 28 = .ok (.if_icmp .ne 7, 3) := by decide +kernel
theorem d1_31 : decode method_2_code 31 = .ok (.getstatic 19, 3) := by decide +kernel
theorem d1_34 : decode method_2_code 34 = .ok (.areturn, 1) := by decide +kernel
theorem d1_35 : decode method_2_code 35 = .ok (.iload_n 0, 1) := by decide +kernel
theorem d1_36 : decode method_2_code 36 = .ok (.iconst 4, 1) := by decide +kernel
theorem d1_37 : decode method_2_code 37 = .ok (.if_icmp .ne 7, 3) := by decide +kernel
theorem d1_40 : decode method_2_code 40 = .ok (.getstatic 22, 3) := by decide +kernel
theorem d1_43 : decode method_2_code 43 = .ok (.areturn, 1) := by decide +kernel
theorem d1_44 : decode method_2_code 44 = .ok (.iload_n 0, 1) := by decide +kernel
theorem d1_45 : decode method_2_code 45 = .ok (.iconst 5, 1) := by decide +kernel
theorem d1_46 : decode method_2_code 46 = .ok (.if_icmp .ne 7, 3) := by decide +kernel
theorem d1_49 : decode method_2_code 49 = .ok (.getstatic 25, 3) := by decide +kernel
theorem d1_52 : decode method_2_code 52 = .ok (.areturn, 1) := by decide +kernel
theorem d1_53 : decode method_2_code 53 = .ok (.iload_n 0, 1) := by decide +kernel
theorem d1_54 : decode method_2_code 54 = .ok (.bipush 6, 2) := by decide +kernel
theorem d1_56 : decode method_2_code 56 = .ok (.if_icmp .ne 7, 3) := by decide +kernel
theorem d1_59 : decode method_2_code 59 = .ok (.getstatic 28, 3) := by decide +kernel
theorem d1_62 : decode method_2_code 62 = .ok (.areturn, 1) := by decide +kernel
theorem d1_63 : decode method_2_code 63 = .ok (.iload_n 0, 1) := by decide +kernel
theorem d1_64 : decode method_2_code 64 = .ok (.bipush 7, 2) := by decide +kernel
theorem d1_66 : decode method_2_code 66 = .ok (.if_icmp .ne 7, 3) := by decide +kernel
theorem d1_69 : decode method_2_code 69 = .ok (.getstatic 31, 3) := by decide +kernel
theorem d1_72 : decode method_2_code 72 = .ok (.areturn, 1) := by decide +kernel
theorem d1_73 : decode method_2_code 73 = .ok (.getstatic 34, 3) := by decide +kernel
theorem d1_76 : decode method_2_code 76 = .ok (.areturn, 1) := by decide +kernel
def res1 (p1 : Int32) (w_DELETE : Addr) (w_ADD : Addr) (w_INSERT : Addr) (w_SUBSTITUTE : Addr) (w_REPLACE : Addr) (w_RENUMBER : Addr) (w_AMEND : Addr) (w_RESTATE : Addr) (w_STRIKE : Addr) : Addr := if p1 = (0 : Int32) then w_DELETE else if p1 = (1 : Int32) then w_ADD else if p1 = (2 : Int32) then w_INSERT else if p1 = (3 : Int32) then w_SUBSTITUTE else if p1 = (4 : Int32) then w_REPLACE else if p1 = (5 : Int32) then w_RENUMBER else if p1 = (6 : Int32) then w_AMEND else if p1 = (7 : Int32) then w_RESTATE else w_STRIKE
theorem pn0 : plainName "com/example/whereas/whereas/VerbPutsInPinLaw" = true := by first | (simp [plainName, overriddenIn]; done) | decide +kernel
theorem ef1 (m : MethodId) (p1 : Int32) : entryFrame m #[(.int p1)] 1 = (mkF m 0 #[.val (.int p1)] []) := by first | (simp [entryFrame, mkF, argsToLocals, Value.category]; done) | rfl
def Q1 (Z : State) (p1 : Int32) (w_DELETE : Addr) (w_ADD : Addr) (w_INSERT : Addr) (w_SUBSTITUTE : Addr) (w_REPLACE : Addr) (w_RENUMBER : Addr) (w_AMEND : Addr) (w_RESTATE : Addr) (w_STRIKE : Addr) (h0 : Heap) (n0 : Nat) (v : Option Value) (h : Heap) (L : List Loc) : Prop := v = some (.ref (res1 p1 w_DELETE w_ADD w_INSERT w_SUBSTITUTE w_REPLACE w_RENUMBER w_AMEND w_RESTATE w_STRIKE)) ∧ L = [] ∧ h = h0
set_option maxRecDepth 65536 in
set_option maxHeartbeats 40000000 in
theorem rm1 (l : Launch) (Z : State) (a0 : Array Value) (hw : ∀ d ∈ tables_1, d.before a0 Z = true) (ws : List Jvm.Cond) (p1 : Int32) (w_DELETE : Addr) (w_ADD : Addr) (w_INSERT : Addr) (w_SUBSTITUTE : Addr) (w_REPLACE : Addr) (w_RENUMBER : Addr) (w_AMEND : Addr) (w_RESTATE : Addr) (w_STRIKE : Addr) (h0 : Heap) (n0 : Nat) (Z0 : n0 ≤ h0.size) (S_DELETE : Sta Z h0 "com/example/whereas/whereas/Verb" "DELETE" "Lcom/example/whereas/whereas/Verb;" (.ref w_DELETE)) (S_ADD : Sta Z h0 "com/example/whereas/whereas/Verb" "ADD" "Lcom/example/whereas/whereas/Verb;" (.ref w_ADD)) (S_INSERT : Sta Z h0 "com/example/whereas/whereas/Verb" "INSERT" "Lcom/example/whereas/whereas/Verb;" (.ref w_INSERT)) (S_SUBSTITUTE : Sta Z h0 "com/example/whereas/whereas/Verb" "SUBSTITUTE" "Lcom/example/whereas/whereas/Verb;" (.ref w_SUBSTITUTE)) (S_REPLACE : Sta Z h0 "com/example/whereas/whereas/Verb" "REPLACE" "Lcom/example/whereas/whereas/Verb;" (.ref w_REPLACE)) (S_RENUMBER : Sta Z h0 "com/example/whereas/whereas/Verb" "RENUMBER" "Lcom/example/whereas/whereas/Verb;" (.ref w_RENUMBER)) (S_AMEND : Sta Z h0 "com/example/whereas/whereas/Verb" "AMEND" "Lcom/example/whereas/whereas/Verb;" (.ref w_AMEND)) (S_RESTATE : Sta Z h0 "com/example/whereas/whereas/Verb" "RESTATE" "Lcom/example/whereas/whereas/Verb;" (.ref w_RESTATE)) (S_STRIKE : Sta Z h0 "com/example/whereas/whereas/Verb" "STRIKE" "Lcom/example/whereas/whereas/Verb;" (.ref w_STRIKE)) :
    MetFree l (⟨"com/example/whereas/whereas/VerbPutsInPinLaw", "pick", "(I)Lcom/example/whereas/whereas/Verb;"⟩ : MethodName) (head1 (Jvm.Cond.code (⟨"com/example/whereas/whereas/VerbPutsInPinLaw", "pick", "(I)Lcom/example/whereas/whereas/Verb;"⟩ : MethodName) method_2_code 1 (some (.object "com/example/whereas/whereas/Verb")) :: ws) ({ frames := 0, cells := 0, slots := 0, locals := 0 } : Room)) (fun a U => a = #[(.int p1)] ∧ Z.Warmed39 U.vm ∧ U.heap = h0) (fun _ _ _ _ _ => True) (fun _ U o U' => ∃ v L, o = .returned v ∧ Q1 Z p1 w_DELETE w_ADD w_INSERT w_SUBSTITUTE w_REPLACE w_RENUMBER w_AMEND w_RESTATE w_STRIKE h0 n0 v U'.heap L ∧ FrameEnd U o U' L ({ frames := 0, cells := 0, slots := 0, locals := 0 } : Room).cells ({ frames := 0, cells := 0, slots := 0, locals := 0 } : Room).slots) := by
  refine MetFree.of_bodySF (plainFor_of_name pn0) hisR ?_
  intro p e s m args below meth c s₁ Bd hml0 hP hK
  obtain ⟨rfl, hZ, hh⟩ := hP
  have hx := Bd.exec
  have hby := Bd.bytes
  have hml : c.maxLocals = 1 := hml0
  have hown : s.vm.findClass "com/example/whereas/whereas/VerbPutsInPinLaw" = some m.cls := findClass_of_methodNamed Bd.named
  have hnm := (name_of_methodNamed Bd.named Bd.method).1
  have X0 : Stand p l e ({ frames := 0, cells := 0, slots := 0, locals := 0 } : Room) s m #[(.int p1)] below meth c s₁ [] 0 0 := Stand.of_body Bd
  have e0 : s₁.heap = h0 := by rw [← hh, Bd.state]; rfl
  have N0 := Fr.nil n0
  have pre0 : ∀ t, Steps p.tables e below (s₁.setTop (mkF m 0 #[.val (.int p1)] [])) t → Steps p.tables e below (s₁.setTop (entryFrame m #[(.int p1)] 1)) t := fun t k => castTop (ef1 m p1) k
  have pre1 : ∀ t, Steps p.tables e below (s₁.setTop (mkF m 1 #[.val (.int p1)] [(.int p1)])) t → Steps p.tables e below (s₁.setTop (entryFrame m #[(.int p1)] 1)) t := by
    intro t kt
    refine pre0 _ ?_
    show Steps p.tables e below (s₁.setTop (mkF m 0 #[.val (.int p1)] [])) _
    refine XS.iloadN X0.here hx rfl (hb hby d1_0) rfl ?_
    exact kt
  by_cases hc1_2 : p1 = (0 : Int32)
  · obtain ⟨T3, X3, e3, st3⟩ := getS2 X0 hx hZ hown (host := "") (Or.inl (hw _ (List.mem_of_getElem? (i := 5) rfl))) Via.refl e0 S_DELETE (g := (mkF m 4 #[.val (.int p1)] [])) rfl (hb hby d1_4)
    obtain ⟨fs, hr, hrun, hended, hW, hsame⟩ := X3.leave (v := some (.ref w_DELETE)) (fun h => by rw [Bd.returns] at h; cases h)
    refine ⟨_, _, pre1 _ ?_, hrun, hended, _, _, rfl, ?_, ⟨_, rfl⟩, hW, hsame.mono (by decide) (by decide)⟩
    · show Steps p.tables e below (s₁.setTop (mkF m 1 #[.val (.int p1)] [(.int p1)])) _
      refine XS.ifNo X0.here hx rfl (hb hby d1_1) rfl ((if0 _ _).trans (teq hc1_2).2) ?_
      show Steps p.tables e below (s₁.setTop (mkF m 4 #[.val (.int p1)] [])) _
      refine st3 _ ?_
      show Steps p.tables e below (T3.setTop (mkF m 7 #[.val (.int p1)] [(.ref w_DELETE)])) _
      exact retOut X3 hx Bd.returns rfl (Or.inr (Or.inr (Or.inr (Or.inr ⟨rfl, rfl, rfl⟩)))) (hb hby d1_7) hr
    · show Q1 Z p1 w_DELETE w_ADD w_INSERT w_SUBSTITUTE w_REPLACE w_RENUMBER w_AMEND w_RESTATE w_STRIKE h0 n0 _ T3.heap _
      rw [e3]
      exact ⟨by rw [res1, if_pos hc1_2], rfl, rfl⟩
  · have pre4 : ∀ t, Steps p.tables e below (s₁.setTop (mkF m 10 #[.val (.int p1)] [(.int (1 : Int32)), (.int p1)])) t → Steps p.tables e below (s₁.setTop (entryFrame m #[(.int p1)] 1)) t := by
      intro t kt
      refine pre1 _ ?_
      show Steps p.tables e below (s₁.setTop (mkF m 1 #[.val (.int p1)] [(.int p1)])) _
      refine XS.ifYes X0.here hx rfl (pc0 := 1) (pc' := 8) rfl (hb hby d1_1) rfl ((if0 _ _).trans (feq hc1_2).2) (by decide) (by decide) ?_
      show Steps p.tables e below (s₁.setTop (mkF m 8 #[.val (.int p1)] [])) _
      refine XS.iloadN X0.here hx rfl (hb hby d1_8) rfl ?_
      show Steps p.tables e below (s₁.setTop (mkF m 9 #[.val (.int p1)] [(.int p1)])) _
      refine XS.iconst X0.here hx rfl (hb hby d1_9) ?_
      exact kt
    by_cases hc10_5 : p1 = (1 : Int32)
    · obtain ⟨T6, X6, e6, st6⟩ := getS2 X0 hx hZ hown (host := "") (Or.inl (hw _ (List.mem_of_getElem? (i := 25) rfl))) Via.refl e0 S_ADD (g := (mkF m 13 #[.val (.int p1)] [])) rfl (hb hby d1_13)
      obtain ⟨fs, hr, hrun, hended, hW, hsame⟩ := X6.leave (v := some (.ref w_ADD)) (fun h => by rw [Bd.returns] at h; cases h)
      refine ⟨_, _, pre4 _ ?_, hrun, hended, _, _, rfl, ?_, ⟨_, rfl⟩, hW, hsame.mono (by decide) (by decide)⟩
      · show Steps p.tables e below (s₁.setTop (mkF m 10 #[.val (.int p1)] [(.int (1 : Int32)), (.int p1)])) _
        refine XS.icmpNo X0.here hx rfl (hb hby d1_10) rfl (teq hc10_5).2 ?_
        show Steps p.tables e below (s₁.setTop (mkF m 13 #[.val (.int p1)] [])) _
        refine st6 _ ?_
        show Steps p.tables e below (T6.setTop (mkF m 16 #[.val (.int p1)] [(.ref w_ADD)])) _
        exact retOut X6 hx Bd.returns rfl (Or.inr (Or.inr (Or.inr (Or.inr ⟨rfl, rfl, rfl⟩)))) (hb hby d1_16) hr
      · show Q1 Z p1 w_DELETE w_ADD w_INSERT w_SUBSTITUTE w_REPLACE w_RENUMBER w_AMEND w_RESTATE w_STRIKE h0 n0 _ T6.heap _
        rw [e6]
        exact ⟨by rw [res1, if_neg hc1_2, if_pos hc10_5], rfl, rfl⟩
    · have pre7 : ∀ t, Steps p.tables e below (s₁.setTop (mkF m 19 #[.val (.int p1)] [(.int (2 : Int32)), (.int p1)])) t → Steps p.tables e below (s₁.setTop (entryFrame m #[(.int p1)] 1)) t := by
        intro t kt
        refine pre4 _ ?_
        show Steps p.tables e below (s₁.setTop (mkF m 10 #[.val (.int p1)] [(.int (1 : Int32)), (.int p1)])) _
        refine XS.icmpYes X0.here hx rfl (pc0 := 10) (pc' := 17) rfl (hb hby d1_10) rfl (feq hc10_5).2 (by decide) (by decide) ?_
        show Steps p.tables e below (s₁.setTop (mkF m 17 #[.val (.int p1)] [])) _
        refine XS.iloadN X0.here hx rfl (hb hby d1_17) rfl ?_
        show Steps p.tables e below (s₁.setTop (mkF m 18 #[.val (.int p1)] [(.int p1)])) _
        refine XS.iconst X0.here hx rfl (hb hby d1_18) ?_
        exact kt
      by_cases hc19_8 : p1 = (2 : Int32)
      · obtain ⟨T9, X9, e9, st9⟩ := getS2 X0 hx hZ hown (host := "") (Or.inl (hw _ (List.mem_of_getElem? (i := 24) rfl))) Via.refl e0 S_INSERT (g := (mkF m 22 #[.val (.int p1)] [])) rfl (hb hby d1_22)
        obtain ⟨fs, hr, hrun, hended, hW, hsame⟩ := X9.leave (v := some (.ref w_INSERT)) (fun h => by rw [Bd.returns] at h; cases h)
        refine ⟨_, _, pre7 _ ?_, hrun, hended, _, _, rfl, ?_, ⟨_, rfl⟩, hW, hsame.mono (by decide) (by decide)⟩
        · show Steps p.tables e below (s₁.setTop (mkF m 19 #[.val (.int p1)] [(.int (2 : Int32)), (.int p1)])) _
          refine XS.icmpNo X0.here hx rfl (hb hby d1_19) rfl (teq hc19_8).2 ?_
          show Steps p.tables e below (s₁.setTop (mkF m 22 #[.val (.int p1)] [])) _
          refine st9 _ ?_
          show Steps p.tables e below (T9.setTop (mkF m 25 #[.val (.int p1)] [(.ref w_INSERT)])) _
          exact retOut X9 hx Bd.returns rfl (Or.inr (Or.inr (Or.inr (Or.inr ⟨rfl, rfl, rfl⟩)))) (hb hby d1_25) hr
        · show Q1 Z p1 w_DELETE w_ADD w_INSERT w_SUBSTITUTE w_REPLACE w_RENUMBER w_AMEND w_RESTATE w_STRIKE h0 n0 _ T9.heap _
          rw [e9]
          exact ⟨by rw [res1, if_neg hc1_2, if_neg hc10_5, if_pos hc19_8], rfl, rfl⟩
      · have pre10 : ∀ t, Steps p.tables e below (s₁.setTop (mkF m 28 #[.val (.int p1)] [(.int (3 : Int32)), (.int p1)])) t → Steps p.tables e below (s₁.setTop (entryFrame m #[(.int p1)] 1)) t := by
          intro t kt
          refine pre7 _ ?_
          show Steps p.tables e below (s₁.setTop (mkF m 19 #[.val (.int p1)] [(.int (2 : Int32)), (.int p1)])) _
          refine XS.icmpYes X0.here hx rfl (pc0 := 19) (pc' := 26) rfl (hb hby d1_19) rfl (feq hc19_8).2 (by decide) (by decide) ?_
          show Steps p.tables e below (s₁.setTop (mkF m 26 #[.val (.int p1)] [])) _
          refine XS.iloadN X0.here hx rfl (hb hby d1_26) rfl ?_
          show Steps p.tables e below (s₁.setTop (mkF m 27 #[.val (.int p1)] [(.int p1)])) _
          refine XS.iconst X0.here hx rfl (hb hby d1_27) ?_
          exact kt
        by_cases hc28_11 : p1 = (3 : Int32)
        · obtain ⟨T12, X12, e12, st12⟩ := getS2 X0 hx hZ hown (host := "") (Or.inl (hw _ (List.mem_of_getElem? (i := 23) rfl))) Via.refl e0 S_SUBSTITUTE (g := (mkF m 31 #[.val (.int p1)] [])) rfl (hb hby d1_31)
          obtain ⟨fs, hr, hrun, hended, hW, hsame⟩ := X12.leave (v := some (.ref w_SUBSTITUTE)) (fun h => by rw [Bd.returns] at h; cases h)
          refine ⟨_, _, pre10 _ ?_, hrun, hended, _, _, rfl, ?_, ⟨_, rfl⟩, hW, hsame.mono (by decide) (by decide)⟩
          · show Steps p.tables e below (s₁.setTop (mkF m 28 #[.val (.int p1)] [(.int (3 : Int32)), (.int p1)])) _
            refine XS.icmpNo X0.here hx rfl (hb hby d1_28) rfl (teq hc28_11).2 ?_
            show Steps p.tables e below (s₁.setTop (mkF m 31 #[.val (.int p1)] [])) _
            refine st12 _ ?_
            show Steps p.tables e below (T12.setTop (mkF m 34 #[.val (.int p1)] [(.ref w_SUBSTITUTE)])) _
            exact retOut X12 hx Bd.returns rfl (Or.inr (Or.inr (Or.inr (Or.inr ⟨rfl, rfl, rfl⟩)))) (hb hby d1_34) hr
          · show Q1 Z p1 w_DELETE w_ADD w_INSERT w_SUBSTITUTE w_REPLACE w_RENUMBER w_AMEND w_RESTATE w_STRIKE h0 n0 _ T12.heap _
            rw [e12]
            exact ⟨by rw [res1, if_neg hc1_2, if_neg hc10_5, if_neg hc19_8, if_pos hc28_11], rfl, rfl⟩
        · have pre13 : ∀ t, Steps p.tables e below (s₁.setTop (mkF m 37 #[.val (.int p1)] [(.int (4 : Int32)), (.int p1)])) t → Steps p.tables e below (s₁.setTop (entryFrame m #[(.int p1)] 1)) t := by
            intro t kt
            refine pre10 _ ?_
            show Steps p.tables e below (s₁.setTop (mkF m 28 #[.val (.int p1)] [(.int (3 : Int32)), (.int p1)])) _
            refine XS.icmpYes X0.here hx rfl (pc0 := 28) (pc' := 35) rfl (hb hby d1_28) rfl (feq hc28_11).2 (by decide) (by decide) ?_
            show Steps p.tables e below (s₁.setTop (mkF m 35 #[.val (.int p1)] [])) _
            refine XS.iloadN X0.here hx rfl (hb hby d1_35) rfl ?_
            show Steps p.tables e below (s₁.setTop (mkF m 36 #[.val (.int p1)] [(.int p1)])) _
            refine XS.iconst X0.here hx rfl (hb hby d1_36) ?_
            exact kt
          by_cases hc37_14 : p1 = (4 : Int32)
          · obtain ⟨T15, X15, e15, st15⟩ := getS2 X0 hx hZ hown (host := "") (Or.inl (hw _ (List.mem_of_getElem? (i := 27) rfl))) Via.refl e0 S_REPLACE (g := (mkF m 40 #[.val (.int p1)] [])) rfl (hb hby d1_40)
            obtain ⟨fs, hr, hrun, hended, hW, hsame⟩ := X15.leave (v := some (.ref w_REPLACE)) (fun h => by rw [Bd.returns] at h; cases h)
            refine ⟨_, _, pre13 _ ?_, hrun, hended, _, _, rfl, ?_, ⟨_, rfl⟩, hW, hsame.mono (by decide) (by decide)⟩
            · show Steps p.tables e below (s₁.setTop (mkF m 37 #[.val (.int p1)] [(.int (4 : Int32)), (.int p1)])) _
              refine XS.icmpNo X0.here hx rfl (hb hby d1_37) rfl (teq hc37_14).2 ?_
              show Steps p.tables e below (s₁.setTop (mkF m 40 #[.val (.int p1)] [])) _
              refine st15 _ ?_
              show Steps p.tables e below (T15.setTop (mkF m 43 #[.val (.int p1)] [(.ref w_REPLACE)])) _
              exact retOut X15 hx Bd.returns rfl (Or.inr (Or.inr (Or.inr (Or.inr ⟨rfl, rfl, rfl⟩)))) (hb hby d1_43) hr
            · show Q1 Z p1 w_DELETE w_ADD w_INSERT w_SUBSTITUTE w_REPLACE w_RENUMBER w_AMEND w_RESTATE w_STRIKE h0 n0 _ T15.heap _
              rw [e15]
              exact ⟨by rw [res1, if_neg hc1_2, if_neg hc10_5, if_neg hc19_8, if_neg hc28_11, if_pos hc37_14], rfl, rfl⟩
          · have pre16 : ∀ t, Steps p.tables e below (s₁.setTop (mkF m 46 #[.val (.int p1)] [(.int (5 : Int32)), (.int p1)])) t → Steps p.tables e below (s₁.setTop (entryFrame m #[(.int p1)] 1)) t := by
              intro t kt
              refine pre13 _ ?_
              show Steps p.tables e below (s₁.setTop (mkF m 37 #[.val (.int p1)] [(.int (4 : Int32)), (.int p1)])) _
              refine XS.icmpYes X0.here hx rfl (pc0 := 37) (pc' := 44) rfl (hb hby d1_37) rfl (feq hc37_14).2 (by decide) (by decide) ?_
              show Steps p.tables e below (s₁.setTop (mkF m 44 #[.val (.int p1)] [])) _
              refine XS.iloadN X0.here hx rfl (hb hby d1_44) rfl ?_
              show Steps p.tables e below (s₁.setTop (mkF m 45 #[.val (.int p1)] [(.int p1)])) _
              refine XS.iconst X0.here hx rfl (hb hby d1_45) ?_
              exact kt
            by_cases hc46_17 : p1 = (5 : Int32)
            · obtain ⟨T18, X18, e18, st18⟩ := getS2 X0 hx hZ hown (host := "") (Or.inl (hw _ (List.mem_of_getElem? (i := 32) rfl))) Via.refl e0 S_RENUMBER (g := (mkF m 49 #[.val (.int p1)] [])) rfl (hb hby d1_49)
              obtain ⟨fs, hr, hrun, hended, hW, hsame⟩ := X18.leave (v := some (.ref w_RENUMBER)) (fun h => by rw [Bd.returns] at h; cases h)
              refine ⟨_, _, pre16 _ ?_, hrun, hended, _, _, rfl, ?_, ⟨_, rfl⟩, hW, hsame.mono (by decide) (by decide)⟩
              · show Steps p.tables e below (s₁.setTop (mkF m 46 #[.val (.int p1)] [(.int (5 : Int32)), (.int p1)])) _
                refine XS.icmpNo X0.here hx rfl (hb hby d1_46) rfl (teq hc46_17).2 ?_
                show Steps p.tables e below (s₁.setTop (mkF m 49 #[.val (.int p1)] [])) _
                refine st18 _ ?_
                show Steps p.tables e below (T18.setTop (mkF m 52 #[.val (.int p1)] [(.ref w_RENUMBER)])) _
                exact retOut X18 hx Bd.returns rfl (Or.inr (Or.inr (Or.inr (Or.inr ⟨rfl, rfl, rfl⟩)))) (hb hby d1_52) hr
              · show Q1 Z p1 w_DELETE w_ADD w_INSERT w_SUBSTITUTE w_REPLACE w_RENUMBER w_AMEND w_RESTATE w_STRIKE h0 n0 _ T18.heap _
                rw [e18]
                exact ⟨by rw [res1, if_neg hc1_2, if_neg hc10_5, if_neg hc19_8, if_neg hc28_11, if_neg hc37_14, if_pos hc46_17], rfl, rfl⟩
            · have pre19 : ∀ t, Steps p.tables e below (s₁.setTop (mkF m 56 #[.val (.int p1)] [(.int (6 : Int32)), (.int p1)])) t → Steps p.tables e below (s₁.setTop (entryFrame m #[(.int p1)] 1)) t := by
                intro t kt
                refine pre16 _ ?_
                show Steps p.tables e below (s₁.setTop (mkF m 46 #[.val (.int p1)] [(.int (5 : Int32)), (.int p1)])) _
                refine XS.icmpYes X0.here hx rfl (pc0 := 46) (pc' := 53) rfl (hb hby d1_46) rfl (feq hc46_17).2 (by decide) (by decide) ?_
                show Steps p.tables e below (s₁.setTop (mkF m 53 #[.val (.int p1)] [])) _
                refine XS.iloadN X0.here hx rfl (hb hby d1_53) rfl ?_
                show Steps p.tables e below (s₁.setTop (mkF m 54 #[.val (.int p1)] [(.int p1)])) _
                refine XS.bipush X0.here hx rfl (hb hby d1_54) ?_
                exact kt
              by_cases hc56_20 : p1 = (6 : Int32)
              · obtain ⟨T21, X21, e21, st21⟩ := getS2 X0 hx hZ hown (host := "") (Or.inl (hw _ (List.mem_of_getElem? (i := 30) rfl))) Via.refl e0 S_AMEND (g := (mkF m 59 #[.val (.int p1)] [])) rfl (hb hby d1_59)
                obtain ⟨fs, hr, hrun, hended, hW, hsame⟩ := X21.leave (v := some (.ref w_AMEND)) (fun h => by rw [Bd.returns] at h; cases h)
                refine ⟨_, _, pre19 _ ?_, hrun, hended, _, _, rfl, ?_, ⟨_, rfl⟩, hW, hsame.mono (by decide) (by decide)⟩
                · show Steps p.tables e below (s₁.setTop (mkF m 56 #[.val (.int p1)] [(.int (6 : Int32)), (.int p1)])) _
                  refine XS.icmpNo X0.here hx rfl (hb hby d1_56) rfl (teq hc56_20).2 ?_
                  show Steps p.tables e below (s₁.setTop (mkF m 59 #[.val (.int p1)] [])) _
                  refine st21 _ ?_
                  show Steps p.tables e below (T21.setTop (mkF m 62 #[.val (.int p1)] [(.ref w_AMEND)])) _
                  exact retOut X21 hx Bd.returns rfl (Or.inr (Or.inr (Or.inr (Or.inr ⟨rfl, rfl, rfl⟩)))) (hb hby d1_62) hr
                · show Q1 Z p1 w_DELETE w_ADD w_INSERT w_SUBSTITUTE w_REPLACE w_RENUMBER w_AMEND w_RESTATE w_STRIKE h0 n0 _ T21.heap _
                  rw [e21]
                  exact ⟨by rw [res1, if_neg hc1_2, if_neg hc10_5, if_neg hc19_8, if_neg hc28_11, if_neg hc37_14, if_neg hc46_17, if_pos hc56_20], rfl, rfl⟩
              · have pre22 : ∀ t, Steps p.tables e below (s₁.setTop (mkF m 66 #[.val (.int p1)] [(.int (7 : Int32)), (.int p1)])) t → Steps p.tables e below (s₁.setTop (entryFrame m #[(.int p1)] 1)) t := by
                  intro t kt
                  refine pre19 _ ?_
                  show Steps p.tables e below (s₁.setTop (mkF m 56 #[.val (.int p1)] [(.int (6 : Int32)), (.int p1)])) _
                  refine XS.icmpYes X0.here hx rfl (pc0 := 56) (pc' := 63) rfl (hb hby d1_56) rfl (feq hc56_20).2 (by decide) (by decide) ?_
                  show Steps p.tables e below (s₁.setTop (mkF m 63 #[.val (.int p1)] [])) _
                  refine XS.iloadN X0.here hx rfl (hb hby d1_63) rfl ?_
                  show Steps p.tables e below (s₁.setTop (mkF m 64 #[.val (.int p1)] [(.int p1)])) _
                  refine XS.bipush X0.here hx rfl (hb hby d1_64) ?_
                  exact kt
                by_cases hc66_23 : p1 = (7 : Int32)
                · obtain ⟨T24, X24, e24, st24⟩ := getS2 X0 hx hZ hown (host := "") (Or.inl (hw _ (List.mem_of_getElem? (i := 26) rfl))) Via.refl e0 S_RESTATE (g := (mkF m 69 #[.val (.int p1)] [])) rfl (hb hby d1_69)
                  obtain ⟨fs, hr, hrun, hended, hW, hsame⟩ := X24.leave (v := some (.ref w_RESTATE)) (fun h => by rw [Bd.returns] at h; cases h)
                  refine ⟨_, _, pre22 _ ?_, hrun, hended, _, _, rfl, ?_, ⟨_, rfl⟩, hW, hsame.mono (by decide) (by decide)⟩
                  · show Steps p.tables e below (s₁.setTop (mkF m 66 #[.val (.int p1)] [(.int (7 : Int32)), (.int p1)])) _
                    refine XS.icmpNo X0.here hx rfl (hb hby d1_66) rfl (teq hc66_23).2 ?_
                    show Steps p.tables e below (s₁.setTop (mkF m 69 #[.val (.int p1)] [])) _
                    refine st24 _ ?_
                    show Steps p.tables e below (T24.setTop (mkF m 72 #[.val (.int p1)] [(.ref w_RESTATE)])) _
                    exact retOut X24 hx Bd.returns rfl (Or.inr (Or.inr (Or.inr (Or.inr ⟨rfl, rfl, rfl⟩)))) (hb hby d1_72) hr
                  · show Q1 Z p1 w_DELETE w_ADD w_INSERT w_SUBSTITUTE w_REPLACE w_RENUMBER w_AMEND w_RESTATE w_STRIKE h0 n0 _ T24.heap _
                    rw [e24]
                    exact ⟨by rw [res1, if_neg hc1_2, if_neg hc10_5, if_neg hc19_8, if_neg hc28_11, if_neg hc37_14, if_neg hc46_17, if_neg hc56_20, if_pos hc66_23], rfl, rfl⟩
                · obtain ⟨T25, X25, e25, st25⟩ := getS2 X0 hx hZ hown (host := "") (Or.inl (hw _ (List.mem_of_getElem? (i := 28) rfl))) Via.refl e0 S_STRIKE (g := (mkF m 73 #[.val (.int p1)] [])) rfl (hb hby d1_73)
                  obtain ⟨fs, hr, hrun, hended, hW, hsame⟩ := X25.leave (v := some (.ref w_STRIKE)) (fun h => by rw [Bd.returns] at h; cases h)
                  refine ⟨_, _, pre22 _ ?_, hrun, hended, _, _, rfl, ?_, ⟨_, rfl⟩, hW, hsame.mono (by decide) (by decide)⟩
                  · show Steps p.tables e below (s₁.setTop (mkF m 66 #[.val (.int p1)] [(.int (7 : Int32)), (.int p1)])) _
                    refine XS.icmpYes X0.here hx rfl (pc0 := 66) (pc' := 73) rfl (hb hby d1_66) rfl (feq hc66_23).2 (by decide) (by decide) ?_
                    show Steps p.tables e below (s₁.setTop (mkF m 73 #[.val (.int p1)] [])) _
                    refine st25 _ ?_
                    show Steps p.tables e below (T25.setTop (mkF m 76 #[.val (.int p1)] [(.ref w_STRIKE)])) _
                    exact retOut X25 hx Bd.returns rfl (Or.inr (Or.inr (Or.inr (Or.inr ⟨rfl, rfl, rfl⟩)))) (hb hby d1_76) hr
                  · show Q1 Z p1 w_DELETE w_ADD w_INSERT w_SUBSTITUTE w_REPLACE w_RENUMBER w_AMEND w_RESTATE w_STRIKE h0 n0 _ T25.heap _
                    rw [e25]
                    exact ⟨by rw [res1, if_neg hc1_2, if_neg hc10_5, if_neg hc19_8, if_neg hc28_11, if_neg hc37_14, if_neg hc46_17, if_neg hc56_20, if_neg hc66_23], rfl, rfl⟩
theorem d2_0 : decode prog_119_method_7_code 0 = .ok (.aload_n 0, 1) := by decide +kernel
theorem d2_1 : decode prog_119_method_7_code 1 = .ok (.getstatic 7, 3) := by decide +kernel
theorem d2_4 : decode prog_119_method_7_code 4 = .ok (.if_acmp .eq 31, 3) := by decide +kernel
theorem d2_7 : decode prog_119_method_7_code 7 = .ok (.aload_n 0, 1) := by decide +kernel
theorem d2_8 : decode prog_119_method_7_code 8 = .ok (.getstatic 10, 3) := by decide +kernel
theorem d2_11 : decode prog_119_method_7_code 11 = .ok (.if_acmp .eq 24, 3) := by decide +kernel
theorem d2_14 : decode prog_119_method_7_code 14 = .ok (.aload_n 0, 1) := by decide +kernel
theorem d2_15 : decode prog_119_method_7_code 15 = .ok (.getstatic 13, 3) := by decide +kernel
theorem d2_18 : decode prog_119_method_7_code 18 = .ok (.if_acmp .eq 17, 3) := by decide +kernel
theorem d2_21 : decode prog_119_method_7_code 21 = .ok (.aload_n 0, 1) := by decide +kernel
theorem d2_22 : decode prog_119_method_7_code 22 = .ok (.getstatic 16, 3) := by decide +kernel
theorem d2_25 : decode prog_119_method_7_code 25 = .ok (.if_acmp .eq 10, 3) := by decide +kernel
theorem d2_28 : decode prog_119_method_7_code 28 = .ok (.aload_n 0, 1) := by decide +kernel
theorem d2_29 : decode prog_119_method_7_code 29 = .ok (.getstatic 25, 3) := by decide +kernel
theorem d2_32 : decode prog_119_method_7_code 32 = .ok (.if_acmp .ne 7, 3) := by decide +kernel
theorem d2_35 : decode prog_119_method_7_code 35 = .ok (.iconst 1, 1) := by decide +kernel
theorem d2_36 : decode prog_119_method_7_code 36 = .ok (.goto 4, 3) := by decide +kernel
theorem d2_39 : decode prog_119_method_7_code 39 = .ok (.iconst 0, 1) := by decide +kernel
theorem d2_40 : decode prog_119_method_7_code 40 = .ok (.ireturn, 1) := by decide +kernel
def res2 (a1 : Addr) (w_ADD : Addr) (w_INSERT : Addr) (w_SUBSTITUTE : Addr) (w_REPLACE : Addr) (w_RESTATE : Addr) : Int32 := if a1 = w_ADD then (1 : Int32) else if a1 = w_INSERT then (1 : Int32) else if a1 = w_SUBSTITUTE then (1 : Int32) else if a1 = w_REPLACE then (1 : Int32) else if a1 = w_RESTATE then (1 : Int32) else (0 : Int32)
theorem pn1 : plainName "com/example/whereas/whereas/Verb" = true := by first | (simp [plainName, overriddenIn]; done) | decide +kernel
theorem ef2 (m : MethodId) (a1 : Addr) : entryFrame m #[(.ref a1)] 1 = (mkF m 0 #[.val (.ref a1)] []) := by first | (simp [entryFrame, mkF, argsToLocals, Value.category]; done) | rfl
def Q2 (Z : State) (a1 : Addr) (w_ADD : Addr) (w_INSERT : Addr) (w_SUBSTITUTE : Addr) (w_REPLACE : Addr) (w_RESTATE : Addr) (h0 : Heap) (n0 : Nat) (v : Option Value) (h : Heap) (L : List Loc) : Prop := v = some (.int (res2 a1 w_ADD w_INSERT w_SUBSTITUTE w_REPLACE w_RESTATE)) ∧ L = [] ∧ h = h0
set_option maxRecDepth 65536 in
set_option maxHeartbeats 40000000 in
theorem rm2 (l : Launch) (Z : State) (a0 : Array Value) (hw : ∀ d ∈ tables_1, d.before a0 Z = true) (ws : List Jvm.Cond) (a1 : Addr) (w_ADD : Addr) (w_INSERT : Addr) (w_SUBSTITUTE : Addr) (w_REPLACE : Addr) (w_RESTATE : Addr) (h0 : Heap) (n0 : Nat) (Z0 : n0 ≤ h0.size) (S_ADD : Sta Z h0 "com/example/whereas/whereas/Verb" "ADD" "Lcom/example/whereas/whereas/Verb;" (.ref w_ADD)) (S_INSERT : Sta Z h0 "com/example/whereas/whereas/Verb" "INSERT" "Lcom/example/whereas/whereas/Verb;" (.ref w_INSERT)) (S_SUBSTITUTE : Sta Z h0 "com/example/whereas/whereas/Verb" "SUBSTITUTE" "Lcom/example/whereas/whereas/Verb;" (.ref w_SUBSTITUTE)) (S_REPLACE : Sta Z h0 "com/example/whereas/whereas/Verb" "REPLACE" "Lcom/example/whereas/whereas/Verb;" (.ref w_REPLACE)) (S_RESTATE : Sta Z h0 "com/example/whereas/whereas/Verb" "RESTATE" "Lcom/example/whereas/whereas/Verb;" (.ref w_RESTATE)) :
    MetFree l (⟨"com/example/whereas/whereas/Verb", "putsIn", "()Z"⟩ : MethodName) (head1 (Jvm.Cond.code (⟨"com/example/whereas/whereas/Verb", "putsIn", "()Z"⟩ : MethodName) prog_119_method_7_code 1 (some .boolean) :: ws) ({ frames := 0, cells := 0, slots := 0, locals := 0 } : Room)) (fun a U => a = #[(.ref a1)] ∧ Z.Warmed39 U.vm ∧ U.heap = h0) (fun _ _ _ _ _ => True) (fun _ U o U' => ∃ v L, o = .returned v ∧ Q2 Z a1 w_ADD w_INSERT w_SUBSTITUTE w_REPLACE w_RESTATE h0 n0 v U'.heap L ∧ FrameEnd U o U' L ({ frames := 0, cells := 0, slots := 0, locals := 0 } : Room).cells ({ frames := 0, cells := 0, slots := 0, locals := 0 } : Room).slots) := by
  refine MetFree.of_bodySF (plainFor_of_name pn1) hisR ?_
  intro p e s m args below meth c s₁ Bd hml0 hP hK
  obtain ⟨rfl, hZ, hh⟩ := hP
  have hx := Bd.exec
  have hby := Bd.bytes
  have hml : c.maxLocals = 1 := hml0
  have hown : s.vm.findClass "com/example/whereas/whereas/Verb" = some m.cls := findClass_of_methodNamed Bd.named
  have hnm := (name_of_methodNamed Bd.named Bd.method).1
  have X0 : Stand p l e ({ frames := 0, cells := 0, slots := 0, locals := 0 } : Room) s m #[(.ref a1)] below meth c s₁ [] 0 0 := Stand.of_body Bd
  have e0 : s₁.heap = h0 := by rw [← hh, Bd.state]; rfl
  have N0 := Fr.nil n0
  have pre0 : ∀ t, Steps p.tables e below (s₁.setTop (mkF m 0 #[.val (.ref a1)] [])) t → Steps p.tables e below (s₁.setTop (entryFrame m #[(.ref a1)] 1)) t := fun t k => castTop (ef2 m a1) k
  obtain ⟨T1, X1, e1, st1⟩ := getS2 X0 hx hZ hown (host := "") (Or.inl (hw _ (List.mem_of_getElem? (i := 13) rfl))) Via.refl e0 S_ADD (g := (mkF m 1 #[.val (.ref a1)] [(.ref a1)])) rfl (hb hby d2_1)
  have pre2 : ∀ t, Steps p.tables e below (T1.setTop (mkF m 4 #[.val (.ref a1)] [(.ref w_ADD), (.ref a1)])) t → Steps p.tables e below (s₁.setTop (entryFrame m #[(.ref a1)] 1)) t := by
    intro t kt
    refine pre0 _ ?_
    show Steps p.tables e below (s₁.setTop (mkF m 0 #[.val (.ref a1)] [])) _
    refine XS.aloadN X0.here hx rfl (hb hby d2_0) rfl rfl ?_
    show Steps p.tables e below (s₁.setTop (mkF m 1 #[.val (.ref a1)] [(.ref a1)])) _
    refine st1 _ ?_
    exact kt
  by_cases hc4_3 : a1 = w_ADD
  · obtain ⟨fs, hr, hrun, hended, hW, hsame⟩ := X1.leave (v := some (.int (1 : Int32))) (fun h => by rw [Bd.returns] at h; cases h)
    refine ⟨_, _, pre2 _ ?_, hrun, hended, _, _, rfl, ?_, ⟨_, rfl⟩, hW, hsame.mono (by decide) (by decide)⟩
    · show Steps p.tables e below (T1.setTop (mkF m 4 #[.val (.ref a1)] [(.ref w_ADD), (.ref a1)])) _
      refine Jvm.RoadKit.acmp (g := (mkF m 4 #[.val (.ref a1)] [(.ref w_ADD), (.ref a1)])) X1 hx rfl rfl rfl (pc0 := 4) (pc' := 35) (same := true) rfl (hb hby d2_4) rfl (decide_eq_true (congrArg Value.ref hc4_3)) (by decide) (by decide) ?_
      show Steps p.tables e below (T1.setTop (mkF m 35 #[.val (.ref a1)] [])) _
      refine XS.iconst X1.here hx rfl (hb hby d2_35) ?_
      show Steps p.tables e below (T1.setTop (mkF m 36 #[.val (.ref a1)] [(.int (1 : Int32))])) _
      refine XS.goto X1.here hx rfl (pc0 := 36) (pc' := 40) rfl (hb hby d2_36) (by decide) (by decide) ?_
      show Steps p.tables e below (T1.setTop (mkF m 40 #[.val (.ref a1)] [(.int (1 : Int32))])) _
      exact retN X1 hx (t := .boolean) Bd.returns (by simp) (hb hby d2_40) hr
    · show Q2 Z a1 w_ADD w_INSERT w_SUBSTITUTE w_REPLACE w_RESTATE h0 n0 _ T1.heap _
      rw [e1]
      exact ⟨by rw [res2, if_pos hc4_3], rfl, rfl⟩
  · obtain ⟨T4, X4, e4, st4⟩ := getS2 X1 hx hZ hown (host := "") (Or.inl (hw _ (List.mem_of_getElem? (i := 15) rfl))) Via.refl e1 S_INSERT (g := (mkF m 8 #[.val (.ref a1)] [(.ref a1)])) rfl (hb hby d2_8)
    have pre5 : ∀ t, Steps p.tables e below (T4.setTop (mkF m 11 #[.val (.ref a1)] [(.ref w_INSERT), (.ref a1)])) t → Steps p.tables e below (s₁.setTop (entryFrame m #[(.ref a1)] 1)) t := by
      intro t kt
      refine pre2 _ ?_
      show Steps p.tables e below (T1.setTop (mkF m 4 #[.val (.ref a1)] [(.ref w_ADD), (.ref a1)])) _
      refine Jvm.RoadKit.acmp (g := (mkF m 4 #[.val (.ref a1)] [(.ref w_ADD), (.ref a1)])) X1 hx rfl rfl rfl (pc0 := 4) (pc' := 7) (same := false) rfl (hb hby d2_4) rfl (decide_eq_false fun q => hc4_3 (Value.ref.inj q)) (by decide) (by decide) ?_
      show Steps p.tables e below (T1.setTop (mkF m 7 #[.val (.ref a1)] [])) _
      refine XS.aloadN X1.here hx rfl (hb hby d2_7) rfl rfl ?_
      show Steps p.tables e below (T1.setTop (mkF m 8 #[.val (.ref a1)] [(.ref a1)])) _
      refine st4 _ ?_
      exact kt
    by_cases hc11_6 : a1 = w_INSERT
    · obtain ⟨fs, hr, hrun, hended, hW, hsame⟩ := X4.leave (v := some (.int (1 : Int32))) (fun h => by rw [Bd.returns] at h; cases h)
      refine ⟨_, _, pre5 _ ?_, hrun, hended, _, _, rfl, ?_, ⟨_, rfl⟩, hW, hsame.mono (by decide) (by decide)⟩
      · show Steps p.tables e below (T4.setTop (mkF m 11 #[.val (.ref a1)] [(.ref w_INSERT), (.ref a1)])) _
        refine Jvm.RoadKit.acmp (g := (mkF m 11 #[.val (.ref a1)] [(.ref w_INSERT), (.ref a1)])) X4 hx rfl rfl rfl (pc0 := 11) (pc' := 35) (same := true) rfl (hb hby d2_11) rfl (decide_eq_true (congrArg Value.ref hc11_6)) (by decide) (by decide) ?_
        show Steps p.tables e below (T4.setTop (mkF m 35 #[.val (.ref a1)] [])) _
        refine XS.iconst X4.here hx rfl (hb hby d2_35) ?_
        show Steps p.tables e below (T4.setTop (mkF m 36 #[.val (.ref a1)] [(.int (1 : Int32))])) _
        refine XS.goto X4.here hx rfl (pc0 := 36) (pc' := 40) rfl (hb hby d2_36) (by decide) (by decide) ?_
        show Steps p.tables e below (T4.setTop (mkF m 40 #[.val (.ref a1)] [(.int (1 : Int32))])) _
        exact retN X4 hx (t := .boolean) Bd.returns (by simp) (hb hby d2_40) hr
      · show Q2 Z a1 w_ADD w_INSERT w_SUBSTITUTE w_REPLACE w_RESTATE h0 n0 _ T4.heap _
        rw [e4]
        exact ⟨by rw [res2, if_neg hc4_3, if_pos hc11_6], rfl, rfl⟩
    · obtain ⟨T7, X7, e7, st7⟩ := getS2 X4 hx hZ hown (host := "") (Or.inl (hw _ (List.mem_of_getElem? (i := 17) rfl))) Via.refl e4 S_SUBSTITUTE (g := (mkF m 15 #[.val (.ref a1)] [(.ref a1)])) rfl (hb hby d2_15)
      have pre8 : ∀ t, Steps p.tables e below (T7.setTop (mkF m 18 #[.val (.ref a1)] [(.ref w_SUBSTITUTE), (.ref a1)])) t → Steps p.tables e below (s₁.setTop (entryFrame m #[(.ref a1)] 1)) t := by
        intro t kt
        refine pre5 _ ?_
        show Steps p.tables e below (T4.setTop (mkF m 11 #[.val (.ref a1)] [(.ref w_INSERT), (.ref a1)])) _
        refine Jvm.RoadKit.acmp (g := (mkF m 11 #[.val (.ref a1)] [(.ref w_INSERT), (.ref a1)])) X4 hx rfl rfl rfl (pc0 := 11) (pc' := 14) (same := false) rfl (hb hby d2_11) rfl (decide_eq_false fun q => hc11_6 (Value.ref.inj q)) (by decide) (by decide) ?_
        show Steps p.tables e below (T4.setTop (mkF m 14 #[.val (.ref a1)] [])) _
        refine XS.aloadN X4.here hx rfl (hb hby d2_14) rfl rfl ?_
        show Steps p.tables e below (T4.setTop (mkF m 15 #[.val (.ref a1)] [(.ref a1)])) _
        refine st7 _ ?_
        exact kt
      by_cases hc18_9 : a1 = w_SUBSTITUTE
      · obtain ⟨fs, hr, hrun, hended, hW, hsame⟩ := X7.leave (v := some (.int (1 : Int32))) (fun h => by rw [Bd.returns] at h; cases h)
        refine ⟨_, _, pre8 _ ?_, hrun, hended, _, _, rfl, ?_, ⟨_, rfl⟩, hW, hsame.mono (by decide) (by decide)⟩
        · show Steps p.tables e below (T7.setTop (mkF m 18 #[.val (.ref a1)] [(.ref w_SUBSTITUTE), (.ref a1)])) _
          refine Jvm.RoadKit.acmp (g := (mkF m 18 #[.val (.ref a1)] [(.ref w_SUBSTITUTE), (.ref a1)])) X7 hx rfl rfl rfl (pc0 := 18) (pc' := 35) (same := true) rfl (hb hby d2_18) rfl (decide_eq_true (congrArg Value.ref hc18_9)) (by decide) (by decide) ?_
          show Steps p.tables e below (T7.setTop (mkF m 35 #[.val (.ref a1)] [])) _
          refine XS.iconst X7.here hx rfl (hb hby d2_35) ?_
          show Steps p.tables e below (T7.setTop (mkF m 36 #[.val (.ref a1)] [(.int (1 : Int32))])) _
          refine XS.goto X7.here hx rfl (pc0 := 36) (pc' := 40) rfl (hb hby d2_36) (by decide) (by decide) ?_
          show Steps p.tables e below (T7.setTop (mkF m 40 #[.val (.ref a1)] [(.int (1 : Int32))])) _
          exact retN X7 hx (t := .boolean) Bd.returns (by simp) (hb hby d2_40) hr
        · show Q2 Z a1 w_ADD w_INSERT w_SUBSTITUTE w_REPLACE w_RESTATE h0 n0 _ T7.heap _
          rw [e7]
          exact ⟨by rw [res2, if_neg hc4_3, if_neg hc11_6, if_pos hc18_9], rfl, rfl⟩
      · obtain ⟨T10, X10, e10, st10⟩ := getS2 X7 hx hZ hown (host := "") (Or.inl (hw _ (List.mem_of_getElem? (i := 19) rfl))) Via.refl e7 S_REPLACE (g := (mkF m 22 #[.val (.ref a1)] [(.ref a1)])) rfl (hb hby d2_22)
        have pre11 : ∀ t, Steps p.tables e below (T10.setTop (mkF m 25 #[.val (.ref a1)] [(.ref w_REPLACE), (.ref a1)])) t → Steps p.tables e below (s₁.setTop (entryFrame m #[(.ref a1)] 1)) t := by
          intro t kt
          refine pre8 _ ?_
          show Steps p.tables e below (T7.setTop (mkF m 18 #[.val (.ref a1)] [(.ref w_SUBSTITUTE), (.ref a1)])) _
          refine Jvm.RoadKit.acmp (g := (mkF m 18 #[.val (.ref a1)] [(.ref w_SUBSTITUTE), (.ref a1)])) X7 hx rfl rfl rfl (pc0 := 18) (pc' := 21) (same := false) rfl (hb hby d2_18) rfl (decide_eq_false fun q => hc18_9 (Value.ref.inj q)) (by decide) (by decide) ?_
          show Steps p.tables e below (T7.setTop (mkF m 21 #[.val (.ref a1)] [])) _
          refine XS.aloadN X7.here hx rfl (hb hby d2_21) rfl rfl ?_
          show Steps p.tables e below (T7.setTop (mkF m 22 #[.val (.ref a1)] [(.ref a1)])) _
          refine st10 _ ?_
          exact kt
        by_cases hc25_12 : a1 = w_REPLACE
        · obtain ⟨fs, hr, hrun, hended, hW, hsame⟩ := X10.leave (v := some (.int (1 : Int32))) (fun h => by rw [Bd.returns] at h; cases h)
          refine ⟨_, _, pre11 _ ?_, hrun, hended, _, _, rfl, ?_, ⟨_, rfl⟩, hW, hsame.mono (by decide) (by decide)⟩
          · show Steps p.tables e below (T10.setTop (mkF m 25 #[.val (.ref a1)] [(.ref w_REPLACE), (.ref a1)])) _
            refine Jvm.RoadKit.acmp (g := (mkF m 25 #[.val (.ref a1)] [(.ref w_REPLACE), (.ref a1)])) X10 hx rfl rfl rfl (pc0 := 25) (pc' := 35) (same := true) rfl (hb hby d2_25) rfl (decide_eq_true (congrArg Value.ref hc25_12)) (by decide) (by decide) ?_
            show Steps p.tables e below (T10.setTop (mkF m 35 #[.val (.ref a1)] [])) _
            refine XS.iconst X10.here hx rfl (hb hby d2_35) ?_
            show Steps p.tables e below (T10.setTop (mkF m 36 #[.val (.ref a1)] [(.int (1 : Int32))])) _
            refine XS.goto X10.here hx rfl (pc0 := 36) (pc' := 40) rfl (hb hby d2_36) (by decide) (by decide) ?_
            show Steps p.tables e below (T10.setTop (mkF m 40 #[.val (.ref a1)] [(.int (1 : Int32))])) _
            exact retN X10 hx (t := .boolean) Bd.returns (by simp) (hb hby d2_40) hr
          · show Q2 Z a1 w_ADD w_INSERT w_SUBSTITUTE w_REPLACE w_RESTATE h0 n0 _ T10.heap _
            rw [e10]
            exact ⟨by rw [res2, if_neg hc4_3, if_neg hc11_6, if_neg hc18_9, if_pos hc25_12], rfl, rfl⟩
        · obtain ⟨T13, X13, e13, st13⟩ := getS2 X10 hx hZ hown (host := "") (Or.inl (hw _ (List.mem_of_getElem? (i := 21) rfl))) Via.refl e10 S_RESTATE (g := (mkF m 29 #[.val (.ref a1)] [(.ref a1)])) rfl (hb hby d2_29)
          have pre14 : ∀ t, Steps p.tables e below (T13.setTop (mkF m 32 #[.val (.ref a1)] [(.ref w_RESTATE), (.ref a1)])) t → Steps p.tables e below (s₁.setTop (entryFrame m #[(.ref a1)] 1)) t := by
            intro t kt
            refine pre11 _ ?_
            show Steps p.tables e below (T10.setTop (mkF m 25 #[.val (.ref a1)] [(.ref w_REPLACE), (.ref a1)])) _
            refine Jvm.RoadKit.acmp (g := (mkF m 25 #[.val (.ref a1)] [(.ref w_REPLACE), (.ref a1)])) X10 hx rfl rfl rfl (pc0 := 25) (pc' := 28) (same := false) rfl (hb hby d2_25) rfl (decide_eq_false fun q => hc25_12 (Value.ref.inj q)) (by decide) (by decide) ?_
            show Steps p.tables e below (T10.setTop (mkF m 28 #[.val (.ref a1)] [])) _
            refine XS.aloadN X10.here hx rfl (hb hby d2_28) rfl rfl ?_
            show Steps p.tables e below (T10.setTop (mkF m 29 #[.val (.ref a1)] [(.ref a1)])) _
            refine st13 _ ?_
            exact kt
          by_cases hc32_15 : a1 = w_RESTATE
          · obtain ⟨fs, hr, hrun, hended, hW, hsame⟩ := X13.leave (v := some (.int (1 : Int32))) (fun h => by rw [Bd.returns] at h; cases h)
            refine ⟨_, _, pre14 _ ?_, hrun, hended, _, _, rfl, ?_, ⟨_, rfl⟩, hW, hsame.mono (by decide) (by decide)⟩
            · show Steps p.tables e below (T13.setTop (mkF m 32 #[.val (.ref a1)] [(.ref w_RESTATE), (.ref a1)])) _
              refine Jvm.RoadKit.acmp (g := (mkF m 32 #[.val (.ref a1)] [(.ref w_RESTATE), (.ref a1)])) X13 hx rfl rfl rfl (pc0 := 32) (pc' := 35) (same := true) rfl (hb hby d2_32) rfl (decide_eq_true (congrArg Value.ref hc32_15)) (by decide) (by decide) ?_
              show Steps p.tables e below (T13.setTop (mkF m 35 #[.val (.ref a1)] [])) _
              refine XS.iconst X13.here hx rfl (hb hby d2_35) ?_
              show Steps p.tables e below (T13.setTop (mkF m 36 #[.val (.ref a1)] [(.int (1 : Int32))])) _
              refine XS.goto X13.here hx rfl (pc0 := 36) (pc' := 40) rfl (hb hby d2_36) (by decide) (by decide) ?_
              show Steps p.tables e below (T13.setTop (mkF m 40 #[.val (.ref a1)] [(.int (1 : Int32))])) _
              exact retN X13 hx (t := .boolean) Bd.returns (by simp) (hb hby d2_40) hr
            · show Q2 Z a1 w_ADD w_INSERT w_SUBSTITUTE w_REPLACE w_RESTATE h0 n0 _ T13.heap _
              rw [e13]
              exact ⟨by rw [res2, if_neg hc4_3, if_neg hc11_6, if_neg hc18_9, if_neg hc25_12, if_pos hc32_15], rfl, rfl⟩
          · obtain ⟨fs, hr, hrun, hended, hW, hsame⟩ := X13.leave (v := some (.int (0 : Int32))) (fun h => by rw [Bd.returns] at h; cases h)
            refine ⟨_, _, pre14 _ ?_, hrun, hended, _, _, rfl, ?_, ⟨_, rfl⟩, hW, hsame.mono (by decide) (by decide)⟩
            · show Steps p.tables e below (T13.setTop (mkF m 32 #[.val (.ref a1)] [(.ref w_RESTATE), (.ref a1)])) _
              refine Jvm.RoadKit.acmp (g := (mkF m 32 #[.val (.ref a1)] [(.ref w_RESTATE), (.ref a1)])) X13 hx rfl rfl rfl (pc0 := 32) (pc' := 39) (same := false) rfl (hb hby d2_32) rfl (decide_eq_false fun q => hc32_15 (Value.ref.inj q)) (by decide) (by decide) ?_
              show Steps p.tables e below (T13.setTop (mkF m 39 #[.val (.ref a1)] [])) _
              refine XS.iconst X13.here hx rfl (hb hby d2_39) ?_
              show Steps p.tables e below (T13.setTop (mkF m 40 #[.val (.ref a1)] [(.int (0 : Int32))])) _
              exact retN X13 hx (t := .boolean) Bd.returns (by simp) (hb hby d2_40) hr
            · show Q2 Z a1 w_ADD w_INSERT w_SUBSTITUTE w_REPLACE w_RESTATE h0 n0 _ T13.heap _
              rw [e13]
              exact ⟨by rw [res2, if_neg hc4_3, if_neg hc11_6, if_neg hc18_9, if_neg hc25_12, if_neg hc32_15], rfl, rfl⟩
theorem own_exa {Z : State} {h : Heap} (i : Int32) (w_DELETE w_ADD w_INSERT w_SUBSTITUTE w_REPLACE w_RENUMBER w_AMEND w_RESTATE w_STRIKE : Addr) (E_DELETE : Exa Z h w_DELETE "com/example/whereas/whereas/Verb") (E_ADD : Exa Z h w_ADD "com/example/whereas/whereas/Verb") (E_INSERT : Exa Z h w_INSERT "com/example/whereas/whereas/Verb") (E_SUBSTITUTE : Exa Z h w_SUBSTITUTE "com/example/whereas/whereas/Verb") (E_REPLACE : Exa Z h w_REPLACE "com/example/whereas/whereas/Verb") (E_RENUMBER : Exa Z h w_RENUMBER "com/example/whereas/whereas/Verb") (E_AMEND : Exa Z h w_AMEND "com/example/whereas/whereas/Verb") (E_RESTATE : Exa Z h w_RESTATE "com/example/whereas/whereas/Verb") (E_STRIKE : Exa Z h w_STRIKE "com/example/whereas/whereas/Verb") : Exa Z h (res1 i w_DELETE w_ADD w_INSERT w_SUBSTITUTE w_REPLACE w_RENUMBER w_AMEND w_RESTATE w_STRIKE) "com/example/whereas/whereas/Verb" := by
  unfold res1
  repeat' split
  all_goals assumption
def mg0_20_s0 (p1 : Int32) : Int32 := if (((158 : Int32) >>> (((p1 &&& (2147483647 : Int32)) % (9 : Int32)) &&& 31)) &&& (1 : Int32)) = (0 : Int32) then (0 : Int32) else (1 : Int32)
def res0 (p1 : Int32) (w_DELETE : Addr) (w_ADD : Addr) (w_INSERT : Addr) (w_SUBSTITUTE : Addr) (w_REPLACE : Addr) (w_RENUMBER : Addr) (w_AMEND : Addr) (w_RESTATE : Addr) (w_STRIKE : Addr) : Int32 := if (res2 (res1 ((p1 &&& (2147483647 : Int32)) % (9 : Int32)) w_DELETE w_ADD w_INSERT w_SUBSTITUTE w_REPLACE w_RENUMBER w_AMEND w_RESTATE w_STRIKE) w_ADD w_INSERT w_SUBSTITUTE w_REPLACE w_RESTATE) = (mg0_20_s0 p1) then (1 : Int32) else (0 : Int32)
theorem pd0 : parseMethodDescriptor "(I)Lcom/example/whereas/whereas/Verb;" = some ⟨[.int], some (.object "com/example/whereas/whereas/Verb")⟩ := by decide +kernel
theorem pd1 : parseMethodDescriptor "()Z" = some ⟨[], some .boolean⟩ := by decide +kernel
theorem ef0 (m : MethodId) (p1 : Int32) : entryFrame m #[(.int p1)] maxLocals = (mkF m 0 #[.val (.int p1), .unset, .unset, .unset] []) := by first | (simp [entryFrame, mkF, argsToLocals, Value.category, maxLocals]; done) | rfl
def Q0 (Z : State) (p1 : Int32) (w_DELETE : Addr) (w_ADD : Addr) (w_INSERT : Addr) (w_SUBSTITUTE : Addr) (w_REPLACE : Addr) (w_RENUMBER : Addr) (w_AMEND : Addr) (w_RESTATE : Addr) (w_STRIKE : Addr) (h0 : Heap) (n0 : Nat) (v : Option Value) (h : Heap) (L : List Loc) : Prop := v = some (.int (res0 p1 w_DELETE w_ADD w_INSERT w_SUBSTITUTE w_REPLACE w_RENUMBER w_AMEND w_RESTATE w_STRIKE)) ∧ Fr n0 L
set_option maxRecDepth 65536 in
set_option maxHeartbeats 40000000 in
theorem rm0 (l : Launch) (Z : State) (a0 : Array Value) (hw : ∀ d ∈ tables_1, d.before a0 Z = true) (ws : List Jvm.Cond) (p1 : Int32) (w_DELETE : Addr) (w_ADD : Addr) (w_INSERT : Addr) (w_SUBSTITUTE : Addr) (w_REPLACE : Addr) (w_RENUMBER : Addr) (w_AMEND : Addr) (w_RESTATE : Addr) (w_STRIKE : Addr) (h0 : Heap) (n0 : Nat) (Z0 : n0 ≤ h0.size) (S_DELETE : Sta Z h0 "com/example/whereas/whereas/Verb" "DELETE" "Lcom/example/whereas/whereas/Verb;" (.ref w_DELETE)) (E_w_DELETE : Exa Z h0 w_DELETE "com/example/whereas/whereas/Verb") (S_ADD : Sta Z h0 "com/example/whereas/whereas/Verb" "ADD" "Lcom/example/whereas/whereas/Verb;" (.ref w_ADD)) (E_w_ADD : Exa Z h0 w_ADD "com/example/whereas/whereas/Verb") (S_INSERT : Sta Z h0 "com/example/whereas/whereas/Verb" "INSERT" "Lcom/example/whereas/whereas/Verb;" (.ref w_INSERT)) (E_w_INSERT : Exa Z h0 w_INSERT "com/example/whereas/whereas/Verb") (S_SUBSTITUTE : Sta Z h0 "com/example/whereas/whereas/Verb" "SUBSTITUTE" "Lcom/example/whereas/whereas/Verb;" (.ref w_SUBSTITUTE)) (E_w_SUBSTITUTE : Exa Z h0 w_SUBSTITUTE "com/example/whereas/whereas/Verb") (S_REPLACE : Sta Z h0 "com/example/whereas/whereas/Verb" "REPLACE" "Lcom/example/whereas/whereas/Verb;" (.ref w_REPLACE)) (E_w_REPLACE : Exa Z h0 w_REPLACE "com/example/whereas/whereas/Verb") (S_RENUMBER : Sta Z h0 "com/example/whereas/whereas/Verb" "RENUMBER" "Lcom/example/whereas/whereas/Verb;" (.ref w_RENUMBER)) (E_w_RENUMBER : Exa Z h0 w_RENUMBER "com/example/whereas/whereas/Verb") (S_AMEND : Sta Z h0 "com/example/whereas/whereas/Verb" "AMEND" "Lcom/example/whereas/whereas/Verb;" (.ref w_AMEND)) (E_w_AMEND : Exa Z h0 w_AMEND "com/example/whereas/whereas/Verb") (S_RESTATE : Sta Z h0 "com/example/whereas/whereas/Verb" "RESTATE" "Lcom/example/whereas/whereas/Verb;" (.ref w_RESTATE)) (E_w_RESTATE : Exa Z h0 w_RESTATE "com/example/whereas/whereas/Verb") (S_STRIKE : Sta Z h0 "com/example/whereas/whereas/Verb" "STRIKE" "Lcom/example/whereas/whereas/Verb;" (.ref w_STRIKE)) (E_w_STRIKE : Exa Z h0 w_STRIKE "com/example/whereas/whereas/Verb") :
    MetFree l x (head1 (Jvm.Cond.code x code maxLocals ret :: ws) room_1) (fun a U => a = #[(.int p1)] ∧ Z.Warmed39 U.vm ∧ U.heap = h0) (fun _ _ _ _ _ => True) (fun _ U o U' => ∃ v L, o = .returned v ∧ Q0 Z p1 w_DELETE w_ADD w_INSERT w_SUBSTITUTE w_REPLACE w_RENUMBER w_AMEND w_RESTATE w_STRIKE h0 n0 v U'.heap L ∧ FrameEnd U o U' L room_1.cells room_1.slots) := by
  refine MetFree.of_bodySF (plainFor_of_name pn0) hisR ?_
  intro p e s m args below meth c s₁ Bd hml0 hP hK
  obtain ⟨rfl, hZ, hh⟩ := hP
  have hx := Bd.exec
  have hby := Bd.bytes
  have hml : c.maxLocals = 4 := hml0
  have hown : s.vm.findClass "com/example/whereas/whereas/VerbPutsInPinLaw" = some m.cls := findClass_of_methodNamed Bd.named
  have hnm := (name_of_methodNamed Bd.named Bd.method).1
  have X0 : Stand p l e room_1 s m #[(.int p1)] below meth c s₁ [] 0 0 := Stand.of_body Bd
  have e0 : s₁.heap = h0 := by rw [← hh, Bd.state]; rfl
  have N0 := Fr.nil n0
  have pre0 : ∀ t, Steps p.tables e below (s₁.setTop (mkF m 0 #[.val (.int p1), .unset, .unset, .unset] [])) t → Steps p.tables e below (s₁.setTop (entryFrame m #[(.int p1)] maxLocals)) t := fun t k => castTop (ef0 m p1) k
  obtain ⟨_, _, ⟨T1, L1, k1, n1⟩, -, X1, ⟨Lc1, hQ1, l1, y1, z1⟩, st1⟩ := Jvm.LawKit.callS X0 hx (y := (⟨"com/example/whereas/whereas/VerbPutsInPinLaw", "pick", "(I)Lcom/example/whereas/whereas/Verb;"⟩ : MethodName)) hown (mvT hZ (hw _ (List.mem_of_getElem? (i := 1) rfl))) (mvT hZ (hw _ (List.mem_of_getElem? (i := 2) rfl))) (mvT hZ (hw _ (List.mem_of_getElem? (i := 3) rfl))) (mvT hZ (hw _ (List.mem_of_getElem? (i := 4) rfl))) (by decide) (backOf (W := 0) (rm1 l Z a0 hw [] ((p1 &&& (2147483647 : Int32)) % (9 : Int32)) w_DELETE w_ADD w_INSERT w_SUBSTITUTE w_REPLACE w_RENUMBER w_AMEND w_RESTATE w_STRIKE h0 n0 (Nat.le_trans Z0 (Keep.refl h0 []).1) S_DELETE S_ADD S_INSERT S_SUBSTITUTE S_REPLACE S_RENUMBER S_AMEND S_RESTATE S_STRIKE ) hZ (hw _ (List.mem_of_getElem? (i := 4) rfl)) (hw _ (List.mem_of_getElem? (i := 3) rfl)) (by decide) (by decide)) (g := (mkF m 9 #[.val (.int p1), .val (.int ((p1 &&& (2147483647 : Int32)) % (9 : Int32))), .unset, .unset] [(.int ((p1 &&& (2147483647 : Int32)) % (9 : Int32)))])) rfl (by rw [hml]; rfl) (argsL := [(.int ((p1 &&& (2147483647 : Int32)) % (9 : Int32)))]) (rest := []) (lenOf pd0 rfl) rfl (by show 2 * 0 + _ ≤ _; exact Nat.le_of_eq rfl) (hb hby at_9) (fun _ _ => ⟨rfl, e0, (by decide : 0 + 0 ≤ _), (by decide : 0 + 0 ≤ _)⟩)
  dsimp only [Pt.U, Pt.locs, Pt.cells, Pt.slots] at X1 l1 y1 z1 st1 hQ1
  subst l1 y1 z1
  obtain ⟨rfl, rfl, e1⟩ := hQ1
  have N1 := Fr.app N0 (Fr.nil n0)
  have E_r := own_exa (Z := Z) (h := h0) ((p1 &&& (2147483647 : Int32)) % (9 : Int32)) w_DELETE w_ADD w_INSERT w_SUBSTITUTE w_REPLACE w_RENUMBER w_AMEND w_RESTATE w_STRIKE E_w_DELETE E_w_ADD E_w_INSERT E_w_SUBSTITUTE E_w_REPLACE E_w_RENUMBER E_w_AMEND E_w_RESTATE E_w_STRIKE
  have pre2 : ∀ t, Steps p.tables e below (T1.setTop (mkF m 20 #[.val (.int p1), .val (.int ((p1 &&& (2147483647 : Int32)) % (9 : Int32))), .val (.ref (res1 ((p1 &&& (2147483647 : Int32)) % (9 : Int32)) w_DELETE w_ADD w_INSERT w_SUBSTITUTE w_REPLACE w_RENUMBER w_AMEND w_RESTATE w_STRIKE)), .unset] [(.int (((158 : Int32) >>> (((p1 &&& (2147483647 : Int32)) % (9 : Int32)) &&& 31)) &&& (1 : Int32)))])) t → Steps p.tables e below (s₁.setTop (entryFrame m #[(.int p1)] maxLocals)) t := by
    intro t kt
    refine pre0 _ ?_
    show Steps p.tables e below (s₁.setTop (mkF m 0 #[.val (.int p1), .unset, .unset, .unset] [])) _
    refine XS.iloadN X0.here hx rfl (hb hby at_0) rfl ?_
    show Steps p.tables e below (s₁.setTop (mkF m 1 #[.val (.int p1), .unset, .unset, .unset] [(.int p1)])) _
    refine X0.ldcInt hx hown (mvT hZ (hw _ (List.mem_of_getElem? (i := 0) rfl))) (g := (mkF m 1 #[.val (.int p1), .unset, .unset, .unset] [(.int p1)])) rfl (hb hby at_1) _ ?_
    show Steps p.tables e below (s₁.setTop (mkF m 3 #[.val (.int p1), .unset, .unset, .unset] [(.int (2147483647 : Int32)), (.int p1)])) _
    refine XS.iand X0.here hx rfl (hb hby at_3) rfl ?_
    show Steps p.tables e below (s₁.setTop (mkF m 4 #[.val (.int p1), .unset, .unset, .unset] [(.int (p1 &&& (2147483647 : Int32)))])) _
    refine XS.bipush X0.here hx rfl (hb hby at_4) ?_
    show Steps p.tables e below (s₁.setTop (mkF m 6 #[.val (.int p1), .unset, .unset, .unset] [(.int (9 : Int32)), (.int (p1 &&& (2147483647 : Int32)))])) _
    refine iremM (g := (mkF m 6 #[.val (.int p1), .unset, .unset, .unset] [(.int (9 : Int32)), (.int (p1 &&& (2147483647 : Int32)))])) X0 hx rfl (hb hby at_6) rfl (by decide) ?_
    show Steps p.tables e below (s₁.setTop (mkF m 7 #[.val (.int p1), .unset, .unset, .unset] [(.int ((p1 &&& (2147483647 : Int32)) % (9 : Int32)))])) _
    refine XS.istoreN X0.here hx rfl (hb hby at_7) rfl (l' := #[.val (.int p1), .val (.int ((p1 &&& (2147483647 : Int32)) % (9 : Int32))), .unset, .unset]) rfl ?_
    show Steps p.tables e below (s₁.setTop (mkF m 8 #[.val (.int p1), .val (.int ((p1 &&& (2147483647 : Int32)) % (9 : Int32))), .unset, .unset] [])) _
    refine XS.iloadN X0.here hx rfl (hb hby at_8) rfl ?_
    show Steps p.tables e below (s₁.setTop (mkF m 9 #[.val (.int p1), .val (.int ((p1 &&& (2147483647 : Int32)) % (9 : Int32))), .unset, .unset] [(.int ((p1 &&& (2147483647 : Int32)) % (9 : Int32)))])) _
    refine st1 _ ?_
    show Steps p.tables e below (T1.setTop (mkF m 12 #[.val (.int p1), .val (.int ((p1 &&& (2147483647 : Int32)) % (9 : Int32))), .unset, .unset] [(.ref (res1 ((p1 &&& (2147483647 : Int32)) % (9 : Int32)) w_DELETE w_ADD w_INSERT w_SUBSTITUTE w_REPLACE w_RENUMBER w_AMEND w_RESTATE w_STRIKE))])) _
    refine XS.astoreN X1.here hx rfl (hb hby at_12) rfl rfl (l' := #[.val (.int p1), .val (.int ((p1 &&& (2147483647 : Int32)) % (9 : Int32))), .val (.ref (res1 ((p1 &&& (2147483647 : Int32)) % (9 : Int32)) w_DELETE w_ADD w_INSERT w_SUBSTITUTE w_REPLACE w_RENUMBER w_AMEND w_RESTATE w_STRIKE)), .unset]) rfl ?_
    show Steps p.tables e below (T1.setTop (mkF m 13 #[.val (.int p1), .val (.int ((p1 &&& (2147483647 : Int32)) % (9 : Int32))), .val (.ref (res1 ((p1 &&& (2147483647 : Int32)) % (9 : Int32)) w_DELETE w_ADD w_INSERT w_SUBSTITUTE w_REPLACE w_RENUMBER w_AMEND w_RESTATE w_STRIKE)), .unset] [])) _
    refine XS.sipush X1.here hx rfl (hb hby at_13) ?_
    show Steps p.tables e below (T1.setTop (mkF m 16 #[.val (.int p1), .val (.int ((p1 &&& (2147483647 : Int32)) % (9 : Int32))), .val (.ref (res1 ((p1 &&& (2147483647 : Int32)) % (9 : Int32)) w_DELETE w_ADD w_INSERT w_SUBSTITUTE w_REPLACE w_RENUMBER w_AMEND w_RESTATE w_STRIKE)), .unset] [(.int (158 : Int32))])) _
    refine XS.iloadN X1.here hx rfl (hb hby at_16) rfl ?_
    show Steps p.tables e below (T1.setTop (mkF m 17 #[.val (.int p1), .val (.int ((p1 &&& (2147483647 : Int32)) % (9 : Int32))), .val (.ref (res1 ((p1 &&& (2147483647 : Int32)) % (9 : Int32)) w_DELETE w_ADD w_INSERT w_SUBSTITUTE w_REPLACE w_RENUMBER w_AMEND w_RESTATE w_STRIKE)), .unset] [(.int ((p1 &&& (2147483647 : Int32)) % (9 : Int32))), (.int (158 : Int32))])) _
    refine XS.ishr X1.here hx rfl (hb hby at_17) rfl ?_
    show Steps p.tables e below (T1.setTop (mkF m 18 #[.val (.int p1), .val (.int ((p1 &&& (2147483647 : Int32)) % (9 : Int32))), .val (.ref (res1 ((p1 &&& (2147483647 : Int32)) % (9 : Int32)) w_DELETE w_ADD w_INSERT w_SUBSTITUTE w_REPLACE w_RENUMBER w_AMEND w_RESTATE w_STRIKE)), .unset] [(.int ((158 : Int32) >>> (((p1 &&& (2147483647 : Int32)) % (9 : Int32)) &&& 31)))])) _
    refine XS.iconst X1.here hx rfl (hb hby at_18) ?_
    show Steps p.tables e below (T1.setTop (mkF m 19 #[.val (.int p1), .val (.int ((p1 &&& (2147483647 : Int32)) % (9 : Int32))), .val (.ref (res1 ((p1 &&& (2147483647 : Int32)) % (9 : Int32)) w_DELETE w_ADD w_INSERT w_SUBSTITUTE w_REPLACE w_RENUMBER w_AMEND w_RESTATE w_STRIKE)), .unset] [(.int (1 : Int32)), (.int ((158 : Int32) >>> (((p1 &&& (2147483647 : Int32)) % (9 : Int32)) &&& 31)))])) _
    refine XS.iand X1.here hx rfl (hb hby at_19) rfl ?_
    exact kt
  have pre4 : ∀ t, Steps p.tables e below (T1.setTop (mkF m 28 #[.val (.int p1), .val (.int ((p1 &&& (2147483647 : Int32)) % (9 : Int32))), .val (.ref (res1 ((p1 &&& (2147483647 : Int32)) % (9 : Int32)) w_DELETE w_ADD w_INSERT w_SUBSTITUTE w_REPLACE w_RENUMBER w_AMEND w_RESTATE w_STRIKE)), .unset] [(.int (mg0_20_s0 p1))])) t → Steps p.tables e below (s₁.setTop (entryFrame m #[(.int p1)] maxLocals)) t := by
    intro t kt
    by_cases hc20_3 : (((158 : Int32) >>> (((p1 &&& (2147483647 : Int32)) % (9 : Int32)) &&& 31)) &&& (1 : Int32)) = (0 : Int32)
    · rw [show (mg0_20_s0 p1) = (0 : Int32) from by rw [mg0_20_s0, if_pos hc20_3]] at kt
      refine pre2 _ ?_
      show Steps p.tables e below (T1.setTop (mkF m 20 #[.val (.int p1), .val (.int ((p1 &&& (2147483647 : Int32)) % (9 : Int32))), .val (.ref (res1 ((p1 &&& (2147483647 : Int32)) % (9 : Int32)) w_DELETE w_ADD w_INSERT w_SUBSTITUTE w_REPLACE w_RENUMBER w_AMEND w_RESTATE w_STRIKE)), .unset] [(.int (((158 : Int32) >>> (((p1 &&& (2147483647 : Int32)) % (9 : Int32)) &&& 31)) &&& (1 : Int32)))])) _
      refine XS.ifYes X1.here hx rfl (pc0 := 20) (pc' := 27) rfl (hb hby at_20) rfl ((if0 _ _).trans (teq hc20_3).1) (by decide) (by decide) ?_
      show Steps p.tables e below (T1.setTop (mkF m 27 #[.val (.int p1), .val (.int ((p1 &&& (2147483647 : Int32)) % (9 : Int32))), .val (.ref (res1 ((p1 &&& (2147483647 : Int32)) % (9 : Int32)) w_DELETE w_ADD w_INSERT w_SUBSTITUTE w_REPLACE w_RENUMBER w_AMEND w_RESTATE w_STRIKE)), .unset] [])) _
      refine XS.iconst X1.here hx rfl (hb hby at_27) ?_
      exact kt
    · rw [show (mg0_20_s0 p1) = (1 : Int32) from by rw [mg0_20_s0, if_neg hc20_3]] at kt
      refine pre2 _ ?_
      show Steps p.tables e below (T1.setTop (mkF m 20 #[.val (.int p1), .val (.int ((p1 &&& (2147483647 : Int32)) % (9 : Int32))), .val (.ref (res1 ((p1 &&& (2147483647 : Int32)) % (9 : Int32)) w_DELETE w_ADD w_INSERT w_SUBSTITUTE w_REPLACE w_RENUMBER w_AMEND w_RESTATE w_STRIKE)), .unset] [(.int (((158 : Int32) >>> (((p1 &&& (2147483647 : Int32)) % (9 : Int32)) &&& 31)) &&& (1 : Int32)))])) _
      refine XS.ifNo X1.here hx rfl (hb hby at_20) rfl ((if0 _ _).trans (feq hc20_3).1) ?_
      show Steps p.tables e below (T1.setTop (mkF m 23 #[.val (.int p1), .val (.int ((p1 &&& (2147483647 : Int32)) % (9 : Int32))), .val (.ref (res1 ((p1 &&& (2147483647 : Int32)) % (9 : Int32)) w_DELETE w_ADD w_INSERT w_SUBSTITUTE w_REPLACE w_RENUMBER w_AMEND w_RESTATE w_STRIKE)), .unset] [])) _
      refine XS.iconst X1.here hx rfl (hb hby at_23) ?_
      show Steps p.tables e below (T1.setTop (mkF m 24 #[.val (.int p1), .val (.int ((p1 &&& (2147483647 : Int32)) % (9 : Int32))), .val (.ref (res1 ((p1 &&& (2147483647 : Int32)) % (9 : Int32)) w_DELETE w_ADD w_INSERT w_SUBSTITUTE w_REPLACE w_RENUMBER w_AMEND w_RESTATE w_STRIKE)), .unset] [(.int (1 : Int32))])) _
      refine XS.goto X1.here hx rfl (pc0 := 24) (pc' := 28) rfl (hb hby at_24) (by decide) (by decide) ?_
      exact kt
  obtain ⟨cq5, kq5, q5a, q5b, q5c⟩ := isOf hZ e1 E_r
  obtain ⟨_, _, ⟨T5, L5, k5, n5⟩, -, X5, ⟨Lc5, hQ5, l5, y5, z5⟩, st5⟩ := X1.virtualBack hx (y := (⟨"com/example/whereas/whereas/Verb", "putsIn", "()Z"⟩ : MethodName)) (z := (⟨"com/example/whereas/whereas/Verb", "putsIn", "()Z"⟩ : MethodName)) hown (mvT hZ (hw _ (List.mem_of_getElem? (i := 8) rfl))) (mvT hZ (hw _ (List.mem_of_getElem? (i := 9) rfl))) (notFace_of_selects (args := #[]) (mvT hZ (hw _ (List.mem_of_getElem? (i := 11) rfl)))) (mvT hZ (hw _ (List.mem_of_getElem? (i := 11) rfl))) (mvT hZ (hw _ (List.mem_of_getElem? (i := 10) rfl))) (by decide) (backOf (W := 0) (rm2 l Z a0 hw [] (res1 ((p1 &&& (2147483647 : Int32)) % (9 : Int32)) w_DELETE w_ADD w_INSERT w_SUBSTITUTE w_REPLACE w_RENUMBER w_AMEND w_RESTATE w_STRIKE) w_ADD w_INSERT w_SUBSTITUTE w_REPLACE w_RESTATE h0 n0 (Nat.le_trans Z0 (Keep.refl h0 []).1) S_ADD S_INSERT S_SUBSTITUTE S_REPLACE S_RESTATE ) hZ (hw _ (List.mem_of_getElem? (i := 12) rfl)) (hw _ (List.mem_of_getElem? (i := 6) rfl)) (by decide) (by decide)) q5a q5c (g := (mkF m 30 #[.val (.int p1), .val (.int ((p1 &&& (2147483647 : Int32)) % (9 : Int32))), .val (.ref (res1 ((p1 &&& (2147483647 : Int32)) % (9 : Int32)) w_DELETE w_ADD w_INSERT w_SUBSTITUTE w_REPLACE w_RENUMBER w_AMEND w_RESTATE w_STRIKE)), .val (.int (mg0_20_s0 p1))] [(.ref (res1 ((p1 &&& (2147483647 : Int32)) % (9 : Int32)) w_DELETE w_ADD w_INSERT w_SUBSTITUTE w_REPLACE w_RENUMBER w_AMEND w_RESTATE w_STRIKE))])) rfl (by rw [hml]; rfl) (Steps.refl _) (argsL := []) (rest := []) (lenOf pd1 rfl) rfl (by show 2 * 0 + _ ≤ _; exact Nat.le_of_eq rfl) (hb hby at_30) (fun _ _ => ⟨rfl, e1, (by decide : 0 + 0 ≤ _), (by decide : 0 + 0 ≤ _)⟩)
  dsimp only [Pt.U, Pt.locs, Pt.cells, Pt.slots] at X5 l5 y5 z5 st5 hQ5
  subst l5 y5 z5
  obtain ⟨rfl, rfl, e5⟩ := hQ5
  have N5 := Fr.app N1 (Fr.nil n0)
  have pre6 : ∀ t, Steps p.tables e below (T5.setTop (mkF m 34 #[.val (.int p1), .val (.int ((p1 &&& (2147483647 : Int32)) % (9 : Int32))), .val (.ref (res1 ((p1 &&& (2147483647 : Int32)) % (9 : Int32)) w_DELETE w_ADD w_INSERT w_SUBSTITUTE w_REPLACE w_RENUMBER w_AMEND w_RESTATE w_STRIKE)), .val (.int (mg0_20_s0 p1))] [(.int (mg0_20_s0 p1)), (.int (res2 (res1 ((p1 &&& (2147483647 : Int32)) % (9 : Int32)) w_DELETE w_ADD w_INSERT w_SUBSTITUTE w_REPLACE w_RENUMBER w_AMEND w_RESTATE w_STRIKE) w_ADD w_INSERT w_SUBSTITUTE w_REPLACE w_RESTATE))])) t → Steps p.tables e below (s₁.setTop (entryFrame m #[(.int p1)] maxLocals)) t := by
    intro t kt
    refine pre4 _ ?_
    show Steps p.tables e below (T1.setTop (mkF m 28 #[.val (.int p1), .val (.int ((p1 &&& (2147483647 : Int32)) % (9 : Int32))), .val (.ref (res1 ((p1 &&& (2147483647 : Int32)) % (9 : Int32)) w_DELETE w_ADD w_INSERT w_SUBSTITUTE w_REPLACE w_RENUMBER w_AMEND w_RESTATE w_STRIKE)), .unset] [(.int (mg0_20_s0 p1))])) _
    refine XS.istoreN X1.here hx rfl (hb hby at_28) rfl (l' := #[.val (.int p1), .val (.int ((p1 &&& (2147483647 : Int32)) % (9 : Int32))), .val (.ref (res1 ((p1 &&& (2147483647 : Int32)) % (9 : Int32)) w_DELETE w_ADD w_INSERT w_SUBSTITUTE w_REPLACE w_RENUMBER w_AMEND w_RESTATE w_STRIKE)), .val (.int (mg0_20_s0 p1))]) rfl ?_
    show Steps p.tables e below (T1.setTop (mkF m 29 #[.val (.int p1), .val (.int ((p1 &&& (2147483647 : Int32)) % (9 : Int32))), .val (.ref (res1 ((p1 &&& (2147483647 : Int32)) % (9 : Int32)) w_DELETE w_ADD w_INSERT w_SUBSTITUTE w_REPLACE w_RENUMBER w_AMEND w_RESTATE w_STRIKE)), .val (.int (mg0_20_s0 p1))] [])) _
    refine XS.aloadN X1.here hx rfl (hb hby at_29) rfl rfl ?_
    show Steps p.tables e below (T1.setTop (mkF m 30 #[.val (.int p1), .val (.int ((p1 &&& (2147483647 : Int32)) % (9 : Int32))), .val (.ref (res1 ((p1 &&& (2147483647 : Int32)) % (9 : Int32)) w_DELETE w_ADD w_INSERT w_SUBSTITUTE w_REPLACE w_RENUMBER w_AMEND w_RESTATE w_STRIKE)), .val (.int (mg0_20_s0 p1))] [(.ref (res1 ((p1 &&& (2147483647 : Int32)) % (9 : Int32)) w_DELETE w_ADD w_INSERT w_SUBSTITUTE w_REPLACE w_RENUMBER w_AMEND w_RESTATE w_STRIKE))])) _
    refine st5.trans ?_
    show Steps p.tables e below (T5.setTop (mkF m 33 #[.val (.int p1), .val (.int ((p1 &&& (2147483647 : Int32)) % (9 : Int32))), .val (.ref (res1 ((p1 &&& (2147483647 : Int32)) % (9 : Int32)) w_DELETE w_ADD w_INSERT w_SUBSTITUTE w_REPLACE w_RENUMBER w_AMEND w_RESTATE w_STRIKE)), .val (.int (mg0_20_s0 p1))] [(.int (res2 (res1 ((p1 &&& (2147483647 : Int32)) % (9 : Int32)) w_DELETE w_ADD w_INSERT w_SUBSTITUTE w_REPLACE w_RENUMBER w_AMEND w_RESTATE w_STRIKE) w_ADD w_INSERT w_SUBSTITUTE w_REPLACE w_RESTATE))])) _
    refine XS.iloadN X5.here hx rfl (hb hby at_33) rfl ?_
    exact kt
  by_cases hc34_7 : (res2 (res1 ((p1 &&& (2147483647 : Int32)) % (9 : Int32)) w_DELETE w_ADD w_INSERT w_SUBSTITUTE w_REPLACE w_RENUMBER w_AMEND w_RESTATE w_STRIKE) w_ADD w_INSERT w_SUBSTITUTE w_REPLACE w_RESTATE) = (mg0_20_s0 p1)
  · obtain ⟨fs, hr, hrun, hended, hW, hsame⟩ := X5.leave (v := some (.int (1 : Int32))) (fun h => by rw [Bd.returns] at h; cases h)
    refine ⟨_, _, pre6 _ ?_, hrun, hended, _, _, rfl, ?_, ⟨_, rfl⟩, hW, hsame.mono (by decide) (by decide)⟩
    · show Steps p.tables e below (T5.setTop (mkF m 34 #[.val (.int p1), .val (.int ((p1 &&& (2147483647 : Int32)) % (9 : Int32))), .val (.ref (res1 ((p1 &&& (2147483647 : Int32)) % (9 : Int32)) w_DELETE w_ADD w_INSERT w_SUBSTITUTE w_REPLACE w_RENUMBER w_AMEND w_RESTATE w_STRIKE)), .val (.int (mg0_20_s0 p1))] [(.int (mg0_20_s0 p1)), (.int (res2 (res1 ((p1 &&& (2147483647 : Int32)) % (9 : Int32)) w_DELETE w_ADD w_INSERT w_SUBSTITUTE w_REPLACE w_RENUMBER w_AMEND w_RESTATE w_STRIKE) w_ADD w_INSERT w_SUBSTITUTE w_REPLACE w_RESTATE))])) _
      refine XS.icmpNo X5.here hx rfl (hb hby at_34) rfl (teq hc34_7).2 ?_
      show Steps p.tables e below (T5.setTop (mkF m 37 #[.val (.int p1), .val (.int ((p1 &&& (2147483647 : Int32)) % (9 : Int32))), .val (.ref (res1 ((p1 &&& (2147483647 : Int32)) % (9 : Int32)) w_DELETE w_ADD w_INSERT w_SUBSTITUTE w_REPLACE w_RENUMBER w_AMEND w_RESTATE w_STRIKE)), .val (.int (mg0_20_s0 p1))] [])) _
      refine XS.iconst X5.here hx rfl (hb hby at_37) ?_
      show Steps p.tables e below (T5.setTop (mkF m 38 #[.val (.int p1), .val (.int ((p1 &&& (2147483647 : Int32)) % (9 : Int32))), .val (.ref (res1 ((p1 &&& (2147483647 : Int32)) % (9 : Int32)) w_DELETE w_ADD w_INSERT w_SUBSTITUTE w_REPLACE w_RENUMBER w_AMEND w_RESTATE w_STRIKE)), .val (.int (mg0_20_s0 p1))] [(.int (1 : Int32))])) _
      refine XS.goto X5.here hx rfl (pc0 := 38) (pc' := 42) rfl (hb hby at_38) (by decide) (by decide) ?_
      show Steps p.tables e below (T5.setTop (mkF m 42 #[.val (.int p1), .val (.int ((p1 &&& (2147483647 : Int32)) % (9 : Int32))), .val (.ref (res1 ((p1 &&& (2147483647 : Int32)) % (9 : Int32)) w_DELETE w_ADD w_INSERT w_SUBSTITUTE w_REPLACE w_RENUMBER w_AMEND w_RESTATE w_STRIKE)), .val (.int (mg0_20_s0 p1))] [(.int (1 : Int32))])) _
      exact retN X5 hx (t := .boolean) Bd.returns (by simp) (hb hby at_42) hr
    · show Q0 Z p1 w_DELETE w_ADD w_INSERT w_SUBSTITUTE w_REPLACE w_RENUMBER w_AMEND w_RESTATE w_STRIKE h0 n0 _ T5.heap _
      rw [e5]
      exact ⟨by rw [res0, if_pos hc34_7], N5⟩
  · obtain ⟨fs, hr, hrun, hended, hW, hsame⟩ := X5.leave (v := some (.int (0 : Int32))) (fun h => by rw [Bd.returns] at h; cases h)
    refine ⟨_, _, pre6 _ ?_, hrun, hended, _, _, rfl, ?_, ⟨_, rfl⟩, hW, hsame.mono (by decide) (by decide)⟩
    · show Steps p.tables e below (T5.setTop (mkF m 34 #[.val (.int p1), .val (.int ((p1 &&& (2147483647 : Int32)) % (9 : Int32))), .val (.ref (res1 ((p1 &&& (2147483647 : Int32)) % (9 : Int32)) w_DELETE w_ADD w_INSERT w_SUBSTITUTE w_REPLACE w_RENUMBER w_AMEND w_RESTATE w_STRIKE)), .val (.int (mg0_20_s0 p1))] [(.int (mg0_20_s0 p1)), (.int (res2 (res1 ((p1 &&& (2147483647 : Int32)) % (9 : Int32)) w_DELETE w_ADD w_INSERT w_SUBSTITUTE w_REPLACE w_RENUMBER w_AMEND w_RESTATE w_STRIKE) w_ADD w_INSERT w_SUBSTITUTE w_REPLACE w_RESTATE))])) _
      refine XS.icmpYes X5.here hx rfl (pc0 := 34) (pc' := 41) rfl (hb hby at_34) rfl (feq hc34_7).2 (by decide) (by decide) ?_
      show Steps p.tables e below (T5.setTop (mkF m 41 #[.val (.int p1), .val (.int ((p1 &&& (2147483647 : Int32)) % (9 : Int32))), .val (.ref (res1 ((p1 &&& (2147483647 : Int32)) % (9 : Int32)) w_DELETE w_ADD w_INSERT w_SUBSTITUTE w_REPLACE w_RENUMBER w_AMEND w_RESTATE w_STRIKE)), .val (.int (mg0_20_s0 p1))] [])) _
      refine XS.iconst X5.here hx rfl (hb hby at_41) ?_
      show Steps p.tables e below (T5.setTop (mkF m 42 #[.val (.int p1), .val (.int ((p1 &&& (2147483647 : Int32)) % (9 : Int32))), .val (.ref (res1 ((p1 &&& (2147483647 : Int32)) % (9 : Int32)) w_DELETE w_ADD w_INSERT w_SUBSTITUTE w_REPLACE w_RENUMBER w_AMEND w_RESTATE w_STRIKE)), .val (.int (mg0_20_s0 p1))] [(.int (0 : Int32))])) _
      exact retN X5 hx (t := .boolean) Bd.returns (by simp) (hb hby at_42) hr
    · show Q0 Z p1 w_DELETE w_ADD w_INSERT w_SUBSTITUTE w_REPLACE w_RENUMBER w_AMEND w_RESTATE w_STRIKE h0 n0 _ T5.heap _
      rw [e5]
      exact ⟨by rw [res0, if_neg hc34_7], N5⟩
theorem own_range_9 {i : Int32} (h0 : 0 ≤ i.toInt) (h1 : i.toInt < 9) : i = (0 : Int32) ∨ i = (1 : Int32) ∨ i = (2 : Int32) ∨ i = (3 : Int32) ∨ i = (4 : Int32) ∨ i = (5 : Int32) ∨ i = (6 : Int32) ∨ i = (7 : Int32) ∨ i = (8 : Int32) := by
  have h : i.toInt = 0 ∨ i.toInt = 1 ∨ i.toInt = 2 ∨ i.toInt = 3 ∨ i.toInt = 4 ∨ i.toInt = 5 ∨ i.toInt = 6 ∨ i.toInt = 7 ∨ i.toInt = 8 := by omega
  rcases h with h | h | h | h | h | h | h | h | h
  · exact Or.inl (Int32.toInt_inj.mp (h.trans (by decide)))
  · exact Or.inr (Or.inl (Int32.toInt_inj.mp (h.trans (by decide))))
  · exact Or.inr (Or.inr (Or.inl (Int32.toInt_inj.mp (h.trans (by decide)))))
  · exact Or.inr (Or.inr (Or.inr (Or.inl (Int32.toInt_inj.mp (h.trans (by decide))))))
  · exact Or.inr (Or.inr (Or.inr (Or.inr (Or.inl (Int32.toInt_inj.mp (h.trans (by decide)))))))
  · exact Or.inr (Or.inr (Or.inr (Or.inr (Or.inr (Or.inl (Int32.toInt_inj.mp (h.trans (by decide))))))))
  · exact Or.inr (Or.inr (Or.inr (Or.inr (Or.inr (Or.inr (Or.inl (Int32.toInt_inj.mp (h.trans (by decide)))))))))
  · exact Or.inr (Or.inr (Or.inr (Or.inr (Or.inr (Or.inr (Or.inr (Or.inl (Int32.toInt_inj.mp (h.trans (by decide))))))))))
  · exact Or.inr (Or.inr (Or.inr (Or.inr (Or.inr (Or.inr (Or.inr (Or.inr ((Int32.toInt_inj.mp (h.trans (by decide)))))))))))
theorem own_fin (p1 : Int32) (w_DELETE w_ADD w_INSERT w_SUBSTITUTE w_REPLACE w_RENUMBER w_AMEND w_RESTATE w_STRIKE : Addr) (n_DELETE_ADD : w_DELETE ≠ w_ADD) (n_DELETE_INSERT : w_DELETE ≠ w_INSERT) (n_DELETE_SUBSTITUTE : w_DELETE ≠ w_SUBSTITUTE) (n_DELETE_REPLACE : w_DELETE ≠ w_REPLACE) (n_DELETE_RESTATE : w_DELETE ≠ w_RESTATE) (n_RENUMBER_ADD : w_RENUMBER ≠ w_ADD) (n_RENUMBER_INSERT : w_RENUMBER ≠ w_INSERT) (n_RENUMBER_SUBSTITUTE : w_RENUMBER ≠ w_SUBSTITUTE) (n_RENUMBER_REPLACE : w_RENUMBER ≠ w_REPLACE) (n_RENUMBER_RESTATE : w_RENUMBER ≠ w_RESTATE) (n_AMEND_ADD : w_AMEND ≠ w_ADD) (n_AMEND_INSERT : w_AMEND ≠ w_INSERT) (n_AMEND_SUBSTITUTE : w_AMEND ≠ w_SUBSTITUTE) (n_AMEND_REPLACE : w_AMEND ≠ w_REPLACE) (n_AMEND_RESTATE : w_AMEND ≠ w_RESTATE) (n_STRIKE_ADD : w_STRIKE ≠ w_ADD) (n_STRIKE_INSERT : w_STRIKE ≠ w_INSERT) (n_STRIKE_SUBSTITUTE : w_STRIKE ≠ w_SUBSTITUTE) (n_STRIKE_REPLACE : w_STRIKE ≠ w_REPLACE) (n_STRIKE_RESTATE : w_STRIKE ≠ w_RESTATE) : (res0 p1 w_DELETE w_ADD w_INSERT w_SUBSTITUTE w_REPLACE w_RENUMBER w_AMEND w_RESTATE w_STRIKE) = 1 := by
  have e1 : (p1 &&& (2147483647 : Int32)).toInt = p1.toInt % (2 ^ 31 : Nat) := c_mask p1 _ 31 (by decide) (by decide)
  have e2 := (c_irem (p1 &&& (2147483647 : Int32)) 9 9 (by decide)).1 (by omega)
  have e3 := own_range_9 (i := (p1 &&& (2147483647 : Int32)) % 9) (by omega) (by omega)
  unfold res0 mg0_20_s0
  generalize (p1 &&& (2147483647 : Int32)) % 9 = i at e3
  clear e1 e2
  rcases e3 with rfl | rfl | rfl | rfl | rfl | rfl | rfl | rfl | rfl <;> simp [res1, res2, *] <;> decide
set_option maxRecDepth 65536 in
set_option maxHeartbeats 40000000 in
theorem comes_1 {Post : Tables → Env → Array Value → State → Outcome → State → Prop} (hpost : ∀ tb e args s v u, (limb_1_1.after args s (.returned v) u = true ∧ limb_1_2.after args s (.returned v) u = true ∧ True) → FrameEnd s (.returned v) u (Jvm.fieldLocs frame_1_writes args s ++ Jvm.arrayLocs frame_1_arrays args s ++ Jvm.staticLocs frame_1_statics s) 0 0 → Post tb e args s (.returned v) u) :
    ArmFor flags0 classFile x code maxLocals ret World_1 tables_1 room_1 Calls_1 rest_1 Pre_1 Post := by
  intro l hfl _ _ p e ha hc hk s m args below hf hA hF happ hP
  obtain ⟨hcalls, hrest, hpre⟩ := hP
  obtain ⟨-, -, -, hnamed, -, -, -, hat⟩ := (Spec.applies_iff hf).mp happ
  obtain ⟨hg, hn⟩ := and_e (Cond.before_iff.mp (show (Jvm.Cond.and given_1 narrow_1).before args s = true from hpre))
  obtain ⟨ga0, gb0⟩ := and_e hg
  obtain ⟨w0, rfl⟩ : ∃ w0 : Value, args = #[w0] := by
    have hs : args.size = 1 := by simpa [Cond.value, given_1] using ga0
    obtain ⟨L⟩ := args
    match L, hs with
    | [w0], _ => exact ⟨w0, rfl⟩
  have hw := fun d (hd : d ∈ tables_1) => atoms_spec (ws := Jvm.Cond.code x code maxLocals ret :: tables_1) hat d (List.mem_cons_of_mem _ hd)
  have hfit : Fit s := fun {y c} hc i hi => by
    obtain ⟨ha, rfl⟩ := Array.getElem?_eq_some_iff.mp hc
    have q := List.all_eq_true.mp ((Array.all_eq_true_iff_forall_mem.mp hF) _ (Array.getElem_mem ha)) i (List.mem_range.mpr hi)
    simpa [Array.getElem?_eq_getElem hi] using q
  obtain ⟨i0, ei0⟩ := is_v gb0
  obtain rfl : w0 = (.int i0) := Option.some.inj ei0
  obtain ⟨na1, nb1⟩ := and_e hn
  obtain ⟨na2, nb2⟩ := and_e nb1
  obtain ⟨na3, nb3⟩ := and_e nb2
  obtain ⟨na4, nb4⟩ := and_e nb3
  obtain ⟨na5, nb5⟩ := and_e nb4
  obtain ⟨na6, nb6⟩ := and_e nb5
  obtain ⟨na7, nb7⟩ := and_e nb6
  obtain ⟨na8, nb8⟩ := and_e nb7
  obtain ⟨na9, nb9⟩ := and_e nb8
  obtain ⟨na10, nb10⟩ := and_e nb9
  obtain ⟨na11, nb11⟩ := and_e nb10
  obtain ⟨na12, nb12⟩ := and_e nb11
  obtain ⟨na13, nb13⟩ := and_e nb12
  obtain ⟨na14, nb14⟩ := and_e nb13
  obtain ⟨na15, nb15⟩ := and_e nb14
  obtain ⟨na16, nb16⟩ := and_e nb15
  obtain ⟨na17, nb17⟩ := and_e nb16
  obtain ⟨w_DELETE, ev_DELETE⟩ := exa_v na1
  have S_DELETE := Sta.start ev_DELETE (Or.inr ⟨(hw _ (List.mem_of_getElem? (i := 6) rfl)), (hw _ (List.mem_of_getElem? (i := 7) rfl))⟩)
  have E_w_DELETE := Exa.start ev_DELETE na1
  obtain ⟨w_ADD, ev_ADD⟩ := exa_v na2
  have S_ADD := Sta.start ev_ADD (Or.inr ⟨(hw _ (List.mem_of_getElem? (i := 6) rfl)), (hw _ (List.mem_of_getElem? (i := 14) rfl))⟩)
  have E_w_ADD := Exa.start ev_ADD na2
  have F_ordinal_w_DELETE := Fld.start ((fld_at ev_DELETE).symm.trans (own_eqv (Or.inl ⟨_, rfl⟩) (Term.int_eval _) na3))
  have F_ordinal_w_ADD := Fld.start ((fld_at ev_ADD).symm.trans (own_eqv (Or.inl ⟨_, rfl⟩) (Term.int_eval _) na4))
  obtain ⟨w_INSERT, ev_INSERT⟩ := exa_v na5
  have S_INSERT := Sta.start ev_INSERT (Or.inr ⟨(hw _ (List.mem_of_getElem? (i := 6) rfl)), (hw _ (List.mem_of_getElem? (i := 16) rfl))⟩)
  have E_w_INSERT := Exa.start ev_INSERT na5
  have F_ordinal_w_INSERT := Fld.start ((fld_at ev_INSERT).symm.trans (own_eqv (Or.inl ⟨_, rfl⟩) (Term.int_eval _) na6))
  obtain ⟨w_SUBSTITUTE, ev_SUBSTITUTE⟩ := exa_v na7
  have S_SUBSTITUTE := Sta.start ev_SUBSTITUTE (Or.inr ⟨(hw _ (List.mem_of_getElem? (i := 6) rfl)), (hw _ (List.mem_of_getElem? (i := 18) rfl))⟩)
  have E_w_SUBSTITUTE := Exa.start ev_SUBSTITUTE na7
  have F_ordinal_w_SUBSTITUTE := Fld.start ((fld_at ev_SUBSTITUTE).symm.trans (own_eqv (Or.inl ⟨_, rfl⟩) (Term.int_eval _) na8))
  obtain ⟨w_REPLACE, ev_REPLACE⟩ := exa_v na9
  have S_REPLACE := Sta.start ev_REPLACE (Or.inr ⟨(hw _ (List.mem_of_getElem? (i := 6) rfl)), (hw _ (List.mem_of_getElem? (i := 20) rfl))⟩)
  have E_w_REPLACE := Exa.start ev_REPLACE na9
  have F_ordinal_w_REPLACE := Fld.start ((fld_at ev_REPLACE).symm.trans (own_eqv (Or.inl ⟨_, rfl⟩) (Term.int_eval _) na10))
  obtain ⟨w_RESTATE, ev_RESTATE⟩ := exa_v na11
  have S_RESTATE := Sta.start ev_RESTATE (Or.inr ⟨(hw _ (List.mem_of_getElem? (i := 6) rfl)), (hw _ (List.mem_of_getElem? (i := 22) rfl))⟩)
  have E_w_RESTATE := Exa.start ev_RESTATE na11
  have F_ordinal_w_RESTATE := Fld.start ((fld_at ev_RESTATE).symm.trans (own_eqv (Or.inl ⟨_, rfl⟩) (Term.int_eval _) na12))
  obtain ⟨w_STRIKE, ev_STRIKE⟩ := exa_v na13
  have S_STRIKE := Sta.start ev_STRIKE (Or.inr ⟨(hw _ (List.mem_of_getElem? (i := 6) rfl)), (hw _ (List.mem_of_getElem? (i := 29) rfl))⟩)
  have E_w_STRIKE := Exa.start ev_STRIKE na13
  have F_ordinal_w_STRIKE := Fld.start ((fld_at ev_STRIKE).symm.trans (own_eqv (Or.inl ⟨_, rfl⟩) (Term.int_eval _) na14))
  obtain ⟨w_AMEND, ev_AMEND⟩ := exa_v na15
  have S_AMEND := Sta.start ev_AMEND (Or.inr ⟨(hw _ (List.mem_of_getElem? (i := 6) rfl)), (hw _ (List.mem_of_getElem? (i := 31) rfl))⟩)
  have E_w_AMEND := Exa.start ev_AMEND na15
  have F_ordinal_w_AMEND := Fld.start ((fld_at ev_AMEND).symm.trans (own_eqv (Or.inl ⟨_, rfl⟩) (Term.int_eval _) na16))
  obtain ⟨w_RENUMBER, ev_RENUMBER⟩ := exa_v na17
  have S_RENUMBER := Sta.start ev_RENUMBER (Or.inr ⟨(hw _ (List.mem_of_getElem? (i := 6) rfl)), (hw _ (List.mem_of_getElem? (i := 33) rfl))⟩)
  have E_w_RENUMBER := Exa.start ev_RENUMBER na17
  have F_ordinal_w_RENUMBER := Fld.start ((fld_at ev_RENUMBER).symm.trans (own_eqv (Or.inl ⟨_, rfl⟩) (Term.int_eval _) nb17))
  obtain ⟨n, o, h1, h2, h3, _, L, rfl, ⟨rfl, N⟩, hq⟩ := rm0 l s _ hw tables_1 i0 w_DELETE w_ADD w_INSERT w_SUBSTITUTE w_REPLACE w_RENUMBER w_AMEND w_RESTATE w_STRIKE s.heap s.heap.size (Nat.le_refl _) S_DELETE E_w_DELETE S_ADD E_w_ADD S_INSERT E_w_INSERT S_SUBSTITUTE E_w_SUBSTITUTE S_REPLACE E_w_REPLACE S_RENUMBER E_w_RENUMBER S_AMEND E_w_AMEND S_RESTATE E_w_RESTATE S_STRIKE E_w_STRIKE p e ha hc hk s m _ below hf ((Spec.applies_iff_loose hf).mp happ).1 ⟨rfl, State.Warmed39.refl s, rfl⟩ trivial
  have hfin : (res0 i0 w_DELETE w_ADD w_INSERT w_SUBSTITUTE w_REPLACE w_RENUMBER w_AMEND w_RESTATE w_STRIKE) = (1 : Int32) := own_fin i0 w_DELETE w_ADD w_INSERT w_SUBSTITUTE w_REPLACE w_RENUMBER w_AMEND w_RESTATE w_STRIKE (Fld.ne F_ordinal_w_DELETE F_ordinal_w_ADD (by decide)) (Fld.ne F_ordinal_w_DELETE F_ordinal_w_INSERT (by decide)) (Fld.ne F_ordinal_w_DELETE F_ordinal_w_SUBSTITUTE (by decide)) (Fld.ne F_ordinal_w_DELETE F_ordinal_w_REPLACE (by decide)) (Fld.ne F_ordinal_w_DELETE F_ordinal_w_RESTATE (by decide)) (Fld.ne F_ordinal_w_RENUMBER F_ordinal_w_ADD (by decide)) (Fld.ne F_ordinal_w_RENUMBER F_ordinal_w_INSERT (by decide)) (Fld.ne F_ordinal_w_RENUMBER F_ordinal_w_SUBSTITUTE (by decide)) (Fld.ne F_ordinal_w_RENUMBER F_ordinal_w_REPLACE (by decide)) (Fld.ne F_ordinal_w_RENUMBER F_ordinal_w_RESTATE (by decide)) (Fld.ne F_ordinal_w_AMEND F_ordinal_w_ADD (by decide)) (Fld.ne F_ordinal_w_AMEND F_ordinal_w_INSERT (by decide)) (Fld.ne F_ordinal_w_AMEND F_ordinal_w_SUBSTITUTE (by decide)) (Fld.ne F_ordinal_w_AMEND F_ordinal_w_REPLACE (by decide)) (Fld.ne F_ordinal_w_AMEND F_ordinal_w_RESTATE (by decide)) (Fld.ne F_ordinal_w_STRIKE F_ordinal_w_ADD (by decide)) (Fld.ne F_ordinal_w_STRIKE F_ordinal_w_INSERT (by decide)) (Fld.ne F_ordinal_w_STRIKE F_ordinal_w_SUBSTITUTE (by decide)) (Fld.ne F_ordinal_w_STRIKE F_ordinal_w_REPLACE (by decide)) (Fld.ne F_ordinal_w_STRIKE F_ordinal_w_RESTATE (by decide))
  refine ⟨n, _, h1, h2, h3, hpost _ _ _ _ _ _ ⟨Cond.after_iff.mpr rfl, Cond.after_iff.mpr (eq_i res_at (Term.int_eval (1)) (by rw [hfin])), trivial⟩ ⟨hq.1, hq.2.1, (hq.2.2.sift fun y hy => Or.inr (N y hy)).mono (by decide) (by decide)⟩⟩
theorem main_1_1 : Claimed_1_1 := comes_1 fun _ _ _ _ _ _ h hF => ⟨h.1, hF⟩
theorem main_1_2 : Claimed_1_2 := comes_1 fun _ _ _ _ _ _ h hF => ⟨h.2.1, hF⟩
end Jvm.Pilot.@@N@@
namespace Jvm.Pilot.@@N@@
open Jvm Jvm.ClassFile Sem Op Lib Jvm.Free Jvm.Stand Jvm.Pilot.@@N@@.Jvm.D
/-! MADE BY PROGRAM (witnessworld.py) out of the Statement's table words and the real class files: 12 classes; the members and pool entries that the words name. The judged class is class 1, her method 2. -/
namespace start1
open Jvm.ClassFile
def u (s : String) : CpInfo := .utf8 (stringToUtf16 s)
/-- a pool by its gaps: so many unusable entries, then the entry; so many at the end -/
def gap : Nat → List CpInfo → List CpInfo
  | 0, r => r
  | n + 1, r => .unusable :: gap n r
def poolList (es : List (Nat × CpInfo)) (last : Nat) : List CpInfo := es.foldr (fun e r => gap e.1 (e.2 :: r)) (gap last [])
def pool (es : List (Nat × CpInfo)) (last : Nat) : Array CpInfo := ⟨poolList es last⟩
def fileOf (pool : Array CpInfo) (this : Nat) (attrs : Array Attribute := #[]) (ms : Array MethodInfo := #[]) (fl : Nat := 33) (sup : Nat := 0) (ifs : Array Nat := #[]) (fds : Array FieldInfo := #[]) : ClassFile where
  minorVersion := 0
  majorVersion := 65
  constantPool := pool
  accessFlags := fl
  thisClass := this
  superClass := sup
  interfaces := ifs
  fields := fds
  methods := ms
  attributes := attrs
def plain (name : String) (sup : Option ClassId) : Class where
  name := name
  kind := .ordinary
  loader := none
  accessFlags := 33
  super := sup
  interfaces := #[]
  cf := none
  fields := #[]
  methods := #[]
  instanceTypes := #[]
  staticTypes := #[]
  resolved := #[]
  callSites := []
  init := .initialized
  statics := none
  mirror := none

def pool0 : Array CpInfo := pool [(5, u "<init>"), (0, u "()V"), (1, .class_ 10), (1, u "java/lang/Object")] 113

def k0m0 : Method := { name := "<init>", desc := "()V", sig := { parameters := [], returnType := none }, accessFlags := 1, code := none }
/-- java/lang/Object -/
def k0 : Class := { plain "java/lang/Object" none with
  accessFlags := 33
  interfaces := #[]
  cf := some (fileOf pool0 8 #[] #[{ accessFlags := 1, nameIndex := 5, descriptorIndex := 6, attributes := #[] }] 33 0 #[] #[])
  fields := #[]
  methods := #[k0m0]
  instanceTypes := #[]
  staticTypes := #[]
  resolved := Array.replicate 124 none
  statics := none }

def pool1 : Array CpInfo := pool [(2, .class_ 4), (1, u "java/lang/Object"), (0, u "<init>"), (0, u "()V"), (0, .fieldref 8 9), (0, .class_ 10), (0, .nameAndType 11 12), (0, u "com/example/whereas/whereas/Verb"), (0, u "DELETE"), (0, u "Lcom/example/whereas/whereas/Verb;"), (0, .fieldref 8 14), (0, .nameAndType 15 12), (0, u "ADD"), (0, .fieldref 8 17), (0, .nameAndType 18 12), (0, u "INSERT"), (0, .fieldref 8 20), (0, .nameAndType 21 12), (0, u "SUBSTITUTE"), (0, .fieldref 8 23), (0, .nameAndType 24 12), (0, u "REPLACE"), (0, .fieldref 8 26), (0, .nameAndType 27 12), (0, u "RENUMBER"), (0, .fieldref 8 29), (0, .nameAndType 30 12), (0, u "AMEND"), (0, .fieldref 8 32), (0, .nameAndType 33 12), (0, u "RESTATE"), (0, .fieldref 8 35), (0, .nameAndType 36 12), (0, u "STRIKE"), (0, .integer 2147483647), (0, .methodref 39 40), (0, .class_ 41), (0, .nameAndType 42 43), (0, u "com/example/whereas/whereas/VerbPutsInPinLaw"), (0, u "pick"), (0, u "(I)Lcom/example/whereas/whereas/Verb;"), (0, .methodref 8 45), (0, .nameAndType 46 47), (0, u "putsIn"), (0, u "()Z"), (3, u "law"), (0, u "(I)Z")] 2

def k1m0 : Method := { name := "<init>", desc := "()V", sig := { parameters := [], returnType := none }, accessFlags := 2, code := none }
def k1c1 : Code := { maxStack := 2, maxLocals := 1, code := method_2_code, exceptionTable := #[], attributes := #[] }
def k1m1 : Method := { name := "pick", desc := "(I)Lcom/example/whereas/whereas/Verb;", sig := { parameters := [.int], returnType := some (.object "com/example/whereas/whereas/Verb") }, accessFlags := 10, code := some k1c1 }
def k1c2 : Code := { maxStack := 2, maxLocals := 4, code := code, exceptionTable := #[], attributes := #[] }
def k1m2 : Method := { name := "law", desc := "(I)Z", sig := { parameters := [.int], returnType := some .boolean }, accessFlags := 9, code := some k1c2 }
/-- com/example/whereas/whereas/VerbPutsInPinLaw -/
def k1 : Class := { plain "com/example/whereas/whereas/VerbPutsInPinLaw" (some 0) with
  accessFlags := 49
  interfaces := #[]
  cf := some (fileOf pool1 39 #[] #[{ accessFlags := 2, nameIndex := 5, descriptorIndex := 6, attributes := #[] }, { accessFlags := 10, nameIndex := 42, descriptorIndex := 43, attributes := #[] }, { accessFlags := 9, nameIndex := 51, descriptorIndex := 52, attributes := #[] }] 49 2 #[] #[])
  fields := #[]
  methods := #[k1m0, k1m1, k1m2]
  instanceTypes := #[]
  staticTypes := #[]
  resolved := Array.replicate 55 none
  statics := none }

def pool2 : Array CpInfo := pool [(1, .class_ 2), (0, u "java/lang/constant/Constable"), (0, .class_ 4), (0, u "java/lang/Object")] 6

/-- java/lang/constant/Constable -/
def k2 : Class := { plain "java/lang/constant/Constable" (some 0) with
  accessFlags := 1537
  interfaces := #[]
  cf := some (fileOf pool2 1 #[] #[] 1537 3 #[] #[])
  fields := #[]
  methods := #[]
  instanceTypes := #[]
  staticTypes := #[]
  resolved := Array.replicate 11 none
  statics := none }

def pool3 : Array CpInfo := pool [(1, .class_ 2), (0, u "java/lang/Comparable"), (0, .class_ 4), (0, u "java/lang/Object")] 7

/-- java/lang/Comparable -/
def k3 : Class := { plain "java/lang/Comparable" (some 0) with
  accessFlags := 1537
  interfaces := #[]
  cf := some (fileOf pool3 1 #[] #[] 1537 3 #[] #[])
  fields := #[]
  methods := #[]
  instanceTypes := #[]
  staticTypes := #[]
  resolved := Array.replicate 12 none
  statics := none }

def pool4 : Array CpInfo := pool [(1, .class_ 2), (0, u "java/io/Serializable"), (0, .class_ 4), (0, u "java/lang/Object")] 2

/-- java/io/Serializable -/
def k4 : Class := { plain "java/io/Serializable" (some 0) with
  accessFlags := 1537
  interfaces := #[]
  cf := some (fileOf pool4 1 #[] #[] 1537 3 #[] #[])
  fields := #[]
  methods := #[]
  instanceTypes := #[]
  staticTypes := #[]
  resolved := Array.replicate 7 none
  statics := none }

def pool5 : Array CpInfo := pool [(2, .class_ 4), (1, u "java/lang/Enum"), (0, u "name"), (0, u "Ljava/lang/String;"), (2, u "ordinal"), (0, u "I"), (1, .class_ 14), (1, u "java/lang/Object"), (4, u "hash"), (86, .class_ 108), (1, u "java/lang/Enum$EnumDesc"), (2, .class_ 112), (0, u "java/lang/constant/Constable"), (0, .class_ 114), (0, u "java/lang/Comparable"), (0, .class_ 116), (0, u "java/io/Serializable")] 87

/-- java/lang/Enum -/
def k5 : Class := { plain "java/lang/Enum" (some 0) with
  accessFlags := 1057
  interfaces := #[2, 3, 4]
  cf := some (fileOf pool5 2 #[.nestMembers #[106]] #[] 1057 12 #[111, 113, 115] #[{ accessFlags := 18, nameIndex := 5, descriptorIndex := 6, attributes := #[] }, { accessFlags := 18, nameIndex := 9, descriptorIndex := 10, attributes := #[] }, { accessFlags := 2, nameIndex := 19, descriptorIndex := 10, attributes := #[] }])
  fields := #[{ name := "name", type := (.object "java/lang/String"), accessFlags := 18, slot := 0, constantValue := 0 }, { name := "ordinal", type := .int, accessFlags := 18, slot := 1, constantValue := 0 }, { name := "hash", type := .int, accessFlags := 2, slot := 2, constantValue := 0 }]
  methods := #[]
  instanceTypes := #[(.object "java/lang/String"), .int, .int]
  staticTypes := #[]
  resolved := Array.replicate 204 none
  statics := none }

def pool6 : Array CpInfo := pool [(1, .class_ 2), (0, u "com/example/whereas/whereas/Verb"), (2, u "DELETE"), (0, u "Lcom/example/whereas/whereas/Verb;"), (0, .fieldref 1 8), (0, .nameAndType 9 6), (0, u "ADD"), (0, .fieldref 1 11), (0, .nameAndType 12 6), (0, u "INSERT"), (0, .fieldref 1 14), (0, .nameAndType 15 6), (0, u "SUBSTITUTE"), (0, .fieldref 1 17), (0, .nameAndType 18 6), (0, u "REPLACE"), (2, u "RENUMBER"), (2, u "AMEND"), (0, .fieldref 1 26), (0, .nameAndType 27 6), (0, u "RESTATE"), (2, u "STRIKE"), (2, u "$VALUES"), (0, u "[Lcom/example/whereas/whereas/Verb;"), (6, .class_ 43), (1, u "java/lang/Enum"), (8, u "forms"), (0, u "[Ljava/lang/String;"), (2, u "BY_FORM"), (0, u "Ljava/util/Map;"), (60, u "IN_STEAD"), (0, u "Ljava/util/regex/Pattern;"), (11, u "()Z"), (105, u "ACTIVE"), (2, u "ANY"), (7, u "AFTER_MARKER"), (11, u "putsIn")] 25

def k6c0 : Code := { maxStack := 2, maxLocals := 1, code := prog_119_method_7_code, exceptionTable := #[], attributes := #[] }
def k6m0 : Method := { name := "putsIn", desc := "()Z", sig := { parameters := [], returnType := some .boolean }, accessFlags := 0, code := some k6c0 }
/-- com/example/whereas/whereas/Verb -/
def k6 : Class := { plain "com/example/whereas/whereas/Verb" (some 5) with
  accessFlags := 16432
  interfaces := #[]
  cf := some (fileOf pool6 1 #[] #[{ accessFlags := 0, nameIndex := 260, descriptorIndex := 131, attributes := #[] }] 16432 41 #[] #[{ accessFlags := 16409, nameIndex := 5, descriptorIndex := 6, attributes := #[] }, { accessFlags := 16409, nameIndex := 9, descriptorIndex := 6, attributes := #[] }, { accessFlags := 16409, nameIndex := 12, descriptorIndex := 6, attributes := #[] }, { accessFlags := 16409, nameIndex := 15, descriptorIndex := 6, attributes := #[] }, { accessFlags := 16409, nameIndex := 18, descriptorIndex := 6, attributes := #[] }, { accessFlags := 16409, nameIndex := 21, descriptorIndex := 6, attributes := #[] }, { accessFlags := 16409, nameIndex := 24, descriptorIndex := 6, attributes := #[] }, { accessFlags := 16409, nameIndex := 27, descriptorIndex := 6, attributes := #[] }, { accessFlags := 16409, nameIndex := 30, descriptorIndex := 6, attributes := #[] }, { accessFlags := 26, nameIndex := 56, descriptorIndex := 57, attributes := #[] }, { accessFlags := 24, nameIndex := 237, descriptorIndex := 119, attributes := #[] }, { accessFlags := 24, nameIndex := 240, descriptorIndex := 119, attributes := #[] }, { accessFlags := 24, nameIndex := 248, descriptorIndex := 119, attributes := #[] }, { accessFlags := 26, nameIndex := 118, descriptorIndex := 119, attributes := #[] }, { accessFlags := 18, nameIndex := 52, descriptorIndex := 53, attributes := #[] }, { accessFlags := 4122, nameIndex := 33, descriptorIndex := 34, attributes := #[] }])
  fields := #[{ name := "DELETE", type := (.object "com/example/whereas/whereas/Verb"), accessFlags := 16409, slot := 0, constantValue := 0 }, { name := "ADD", type := (.object "com/example/whereas/whereas/Verb"), accessFlags := 16409, slot := 1, constantValue := 0 }, { name := "INSERT", type := (.object "com/example/whereas/whereas/Verb"), accessFlags := 16409, slot := 2, constantValue := 0 }, { name := "SUBSTITUTE", type := (.object "com/example/whereas/whereas/Verb"), accessFlags := 16409, slot := 3, constantValue := 0 }, { name := "REPLACE", type := (.object "com/example/whereas/whereas/Verb"), accessFlags := 16409, slot := 4, constantValue := 0 }, { name := "RENUMBER", type := (.object "com/example/whereas/whereas/Verb"), accessFlags := 16409, slot := 5, constantValue := 0 }, { name := "AMEND", type := (.object "com/example/whereas/whereas/Verb"), accessFlags := 16409, slot := 6, constantValue := 0 }, { name := "RESTATE", type := (.object "com/example/whereas/whereas/Verb"), accessFlags := 16409, slot := 7, constantValue := 0 }, { name := "STRIKE", type := (.object "com/example/whereas/whereas/Verb"), accessFlags := 16409, slot := 8, constantValue := 0 }, { name := "BY_FORM", type := (.object "java/util/Map"), accessFlags := 26, slot := 9, constantValue := 0 }, { name := "ACTIVE", type := (.object "java/util/regex/Pattern"), accessFlags := 24, slot := 10, constantValue := 0 }, { name := "ANY", type := (.object "java/util/regex/Pattern"), accessFlags := 24, slot := 11, constantValue := 0 }, { name := "AFTER_MARKER", type := (.object "java/util/regex/Pattern"), accessFlags := 24, slot := 12, constantValue := 0 }, { name := "IN_STEAD", type := (.object "java/util/regex/Pattern"), accessFlags := 26, slot := 13, constantValue := 0 }, { name := "forms", type := (.array (.object "java/lang/String")), accessFlags := 18, slot := 3, constantValue := 0 }, { name := "$VALUES", type := (.array (.object "com/example/whereas/whereas/Verb")), accessFlags := 4122, slot := 14, constantValue := 0 }]
  methods := #[k6m0]
  instanceTypes := #[(.object "java/lang/String"), .int, .int, (.array (.object "java/lang/String"))]
  staticTypes := #[(.object "com/example/whereas/whereas/Verb"), (.object "com/example/whereas/whereas/Verb"), (.object "com/example/whereas/whereas/Verb"), (.object "com/example/whereas/whereas/Verb"), (.object "com/example/whereas/whereas/Verb"), (.object "com/example/whereas/whereas/Verb"), (.object "com/example/whereas/whereas/Verb"), (.object "com/example/whereas/whereas/Verb"), (.object "com/example/whereas/whereas/Verb"), (.object "java/util/Map"), (.object "java/util/regex/Pattern"), (.object "java/util/regex/Pattern"), (.object "java/util/regex/Pattern"), (.object "java/util/regex/Pattern"), (.array (.object "com/example/whereas/whereas/Verb"))]
  resolved := Array.replicate 286 none
  statics := some 0 }

def pool7 : Array CpInfo := pool [(1, u "java/lang/Cloneable"), (0, .class_ 1), (0, u "java/lang/Object"), (0, .class_ 3)] 3

/-- java/lang/Cloneable -/
def k7 : Class := { plain "java/lang/Cloneable" (some 0) with
  accessFlags := 1537
  interfaces := #[]
  cf := some (fileOf pool7 2 #[] #[] 1537 4 #[] #[])
  fields := #[]
  methods := #[]
  instanceTypes := #[]
  staticTypes := #[]
  resolved := Array.replicate 8 none
  statics := none }

/-- the primitive byte -/
def k8 : Class := { plain "byte" none with kind := .primitive 'B', accessFlags := 0x411 }
/-- [B -/
def k9 : Class := { plain "[B" (some 0) with kind := .array 8 .byte, interfaces := #[7, 4], accessFlags := 1041 }

/-- the primitive int -/
def k10 : Class := { plain "int" none with kind := .primitive 'I', accessFlags := 0x411 }
/-- [I -/
def k11 : Class := { plain "[I" (some 0) with kind := .array 10 .int, interfaces := #[7, 4], accessFlags := 1041 }

def heap : Heap := #[{ cls := 6, slots := #[.ref 1, .ref 2, .ref 3, .ref 4, .ref 5, .ref 6, .ref 7, .ref 8, .ref 9, .null, .null, .null, .null, .null, .null], vm := .statics 6 },
  { cls := 6, slots := #[.null, .int 0, .int 0, .null], vm := .none },
  { cls := 6, slots := #[.null, .int 1, .int 0, .null], vm := .none },
  { cls := 6, slots := #[.null, .int 2, .int 0, .null], vm := .none },
  { cls := 6, slots := #[.null, .int 3, .int 0, .null], vm := .none },
  { cls := 6, slots := #[.null, .int 4, .int 0, .null], vm := .none },
  { cls := 6, slots := #[.null, .int 5, .int 0, .null], vm := .none },
  { cls := 6, slots := #[.null, .int 6, .int 0, .null], vm := .none },
  { cls := 6, slots := #[.null, .int 7, .int 0, .null], vm := .none },
  { cls := 6, slots := #[.null, .int 8, .int 0, .null], vm := .none }]
def classes : Array Class := #[k0, k1, k2, k3, k4, k5, k6, k7, k8, k9, k10, k11]
def interned : List (Array UInt16 × Addr) := []
def slotsUsed : Nat := 51
def theMethod : MethodId := ⟨1, 2⟩
def args0 : Array Value := #[.int 5]
def aboutOver (below : List Frame) : State where
  vm := { classes := classes, interned := interned.toArray }
  heap := heap
  slotsUsed := slotsUsed
  threads := #[{ frames := .invoking theMethod args0 :: below }]
def below0 : List Frame := [.native { method := ⟨0, 0⟩, args := #[] }]
def about1 : State := aboutOver below0
def p0 : Program := .bare "" "" ""
def e0 : Env := launch0.env 0 0 0
theorem w_frames : about1.frames = Frame.invoking theMethod args0 :: below0 := rfl
set_option maxRecDepth 65536 in
theorem w_args : argsFit about1.vm theMethod args0 = true := by decide +kernel
set_option maxRecDepth 65536 in
theorem w_heap : heapFits about1 = true := by decide +kernel
set_option maxRecDepth 65536 in
theorem w_runnable : about1.curStatus? = some .runnable := by decide +kernel
set_option maxRecDepth 65536 in
theorem w_alone : about1.alone = true := by decide +kernel
set_option maxRecDepth 65536 in
theorem w_named : about1.methodNamed? x = some theMethod := by decide +kernel
set_option maxRecDepth 65536 in
theorem w_hears : about1.hears theMethod below0 = true := by decide +kernel
set_option maxRecDepth 65536 in
theorem w_ripe : about1.ripe theMethod args0 below0 = true := by decide +kernel
theorem w_running : about1.status = .running := rfl
set_option maxRecDepth 65536 in
theorem w_room : about1.hasRoom e0.platform room_1 = true :=
  launch0.hasRoom_least _ room_1 (by decide +kernel) (by decide +kernel) (by decide +kernel) (by decide +kernel) (by decide +kernel) (by decide +kernel)
theorem allAtoms_all (ts : List Jvm.Cond) (a : Array Jvm.Value) (st : Jvm.State) : (allAtoms ts).before a st = ts.all (fun c => c.before a st) := by
  induction ts with
  | nil => rfl
  | cons c t ih =>
    show (Jvm.Cond.and c (allAtoms t)).before a st = _
    rw [Jvm.Cond.before_and, ih, List.all_cons]
def words1 : List Jvm.Cond := Jvm.Cond.code x code maxLocals ret :: tables_1
/-- a 'code' word, met by the world's own term for the bytes: nothing is compared byte by byte -/
theorem code_word {y : MethodName} {bytes : ByteArray} {mx : Nat} {rt : Option FieldType} {a : Array Value} {s : State} {m : MethodId} {meth : Method} {c : Code} (h1 : s.methodNamed? y = some m) (h2 : s.vm.method? m = some meth) (h3 : meth.code = some c) (h4 : c.code = bytes)
    (h5 : (c.maxLocals == mx && c.exceptionTable.isEmpty && decide (c.maxStack ≤ mostOperands) && decide (meth.sig.returnType = rt) && !meth.locks && decide (parseMethodDescriptor y.desc = some meth.sig)) = true) : (Jvm.Cond.code y bytes mx rt).before a s = true := by
  simp only [Bool.and_eq_true, beq_iff_eq, Bool.not_eq_true', decide_eq_true_eq] at h5
  obtain ⟨⟨⟨⟨⟨g1, g2⟩, g3⟩, g4⟩, g5⟩, g6⟩ := h5
  simp [Cond.before, Cond.holds, Cond.value, h1, h2, h3, h4, g1, g2, g3, g4, g5, g6]
def isCode : Jvm.Cond → Bool
  | .code _ _ _ _ => true
  | _ => false
theorem all_split {L : List Jvm.Cond} {P : Jvm.Cond → Bool} (h1 : L.all (fun c => isCode c || P c) = true) (h2 : ∀ c ∈ L.filter isCode, P c = true) : L.all P = true := by
  refine List.all_eq_true.mpr fun c hc => ?_
  have h := List.all_eq_true.mp h1 c hc
  rcases Bool.eq_false_or_eq_true (isCode c) with hi | hi
  · exact h2 c (List.mem_filter.mpr ⟨hc, hi⟩)
  · simpa [hi] using h
set_option maxRecDepth 65536 in
theorem w_c0 : (Jvm.Cond.code x code maxLocals ret).before args0 about1 = true := code_word (m := ⟨1, 2⟩) (meth := k1m2) (c := k1c2) (by decide +kernel) rfl rfl rfl (by decide +kernel)
set_option maxRecDepth 65536 in
theorem w_c1 : (Jvm.Cond.code ({ cls := "com/example/whereas/whereas/VerbPutsInPinLaw", name := "pick", desc := "(I)Lcom/example/whereas/whereas/Verb;" } : Jvm.MethodName) method_2_code (1 : Nat) (Option.some (Jvm.ClassFile.FieldType.object "com/example/whereas/whereas/Verb"))).before args0 about1 = true := code_word (m := ⟨1, 1⟩) (meth := k1m1) (c := k1c1) (by decide +kernel) rfl rfl rfl (by decide +kernel)
set_option maxRecDepth 65536 in
theorem w_c2 : (Jvm.Cond.code ({ cls := "com/example/whereas/whereas/Verb", name := "putsIn", desc := "()Z" } : Jvm.MethodName) prog_119_method_7_code (1 : Nat) (Option.some Jvm.ClassFile.FieldType.boolean)).before args0 about1 = true := code_word (m := ⟨6, 0⟩) (meth := k6m0) (c := k6c0) (by decide +kernel) rfl rfl rfl (by decide +kernel)
def codes1 : List Jvm.Cond := [Jvm.Cond.code x code maxLocals ret, Jvm.Cond.code ({ cls := "com/example/whereas/whereas/VerbPutsInPinLaw", name := "pick", desc := "(I)Lcom/example/whereas/whereas/Verb;" } : Jvm.MethodName) method_2_code (1 : Nat) (Option.some (Jvm.ClassFile.FieldType.object "com/example/whereas/whereas/Verb")), Jvm.Cond.code ({ cls := "com/example/whereas/whereas/Verb", name := "putsIn", desc := "()Z" } : Jvm.MethodName) prog_119_method_7_code (1 : Nat) (Option.some Jvm.ClassFile.FieldType.boolean)]
set_option maxRecDepth 65536 in
theorem codes_eq : words1.filter isCode = codes1 := rfl
theorem w_codes : ∀ c ∈ words1.filter isCode, c.before args0 about1 = true := by
  rw [codes_eq]
  intro c hc
  simp only [codes1, List.mem_cons, List.not_mem_nil, or_false] at hc
  rcases hc with rfl | rfl | rfl
  · exact w_c0
  · exact w_c1
  · exact w_c2
set_option maxRecDepth 65536 in
theorem w_t1 : (words1.take 24).all (fun c => isCode c || c.before args0 about1) = true := by decide +kernel
set_option maxRecDepth 65536 in
theorem w_t2 : (words1.drop 24).all (fun c => isCode c || c.before args0 about1) = true := by decide +kernel
theorem w_tables : (allAtoms (Jvm.Cond.code x code maxLocals ret :: tables_1)).before args0 about1 = true := by
  rw [allAtoms_all]
  show words1.all (fun c => c.before args0 about1) = true
  refine all_split ?_ w_codes
  rw [← List.take_append_drop 24 words1, List.all_append, w_t1, w_t2]
  rfl
set_option maxRecDepth 65536 in
theorem w_case : (Jvm.Cond.and given_1 narrow_1).before args0 about1 = true := by decide +kernel
theorem w_applies : (headSpec (Jvm.Cond.code x code maxLocals ret :: tables_1) room_1).applies x e0.platform about1 = true :=
  (Spec.applies_iff w_frames).mpr ⟨w_running, w_runnable, w_alone, w_named, w_hears, w_ripe, w_room, w_tables⟩
theorem atStart : AtStart classFile x code maxLocals ret World_1 tables_1 room_1 Calls_1 rest_1 Pre_1 launch0 p0 e0 about1 theMethod args0 below0 :=
  ⟨lists_1, trivial, launch0.admits_env _ _ _, launch0.least_env, fairChoices_fair.cas, fairChoices_fair.clock, w_frames, w_args, w_heap, w_applies, trivial, trivial, w_case⟩
end start1
theorem witness_1 : WitnessClaimed_1 := ⟨start1.p0, start1.e0, start1.about1, start1.theMethod, start1.args0, start1.below0, start1.atStart⟩
end Jvm.Pilot.@@N@@
