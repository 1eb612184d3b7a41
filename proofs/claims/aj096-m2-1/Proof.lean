import JvmDerived
import JvmDerived.Pilot.@@N@@Statement
import JvmDerived.Pilot.@@N@@Code
set_option linter.unusedVariables false
set_option linter.unusedSimpArgs false
namespace Jvm.RoadKit
open Sem ClassFile Op Lib Jvm.Stand Jvm.Free Jvm.LawKit
section New
variable {p : Program} {l : Launch} {e : Env} {R : Room} {s : State} {m : MethodId} {args : Array Value} {below : List Frame} {meth : Method} {c : Code} {T : State} {locs : List Loc} {cells slots : Nat}
theorem retI (X : Stand p l e R s m args below meth c T locs cells slots) (hx : p.tables.exec = Jvm.exec) {pc : Nat} {Ls : Array Slot} {z : Int32} {rest : List Value} (hret : meth.sig.returnType = some .int) (hd : decode c.code pc = .ok (.ireturn, 1)) {fs : List Frame}
    (hl : ∀ (f : JFrame) (acts : List Action), f.method = m → f.locked = none → f.entered = [] → (doReturn e (T.setTop f) acts (some (.int z))).1 = T.setFrames fs) : Steps p.tables e below (T.setTop (mkF m pc Ls (.int z :: rest))) (T.setFrames fs) := by
  have hm' : T.vm.method? m = some meth := X.method'
  have hn : narrow .int (.int z) = .int z := rfl
  show Steps p.tables e below (T.setTop { method := m, pc := pc, locals := Ls, stack := _ :: rest, locked := none }) _
  jvm_step X.here [X.here.top, hx, hd, hm', hret, hn]
  first | (intro acts; rw [hl _ acts rfl rfl rfl]) | rw [hl _ _ rfl rfl rfl]
  exact Steps.refl _
end New
theorem own_sta_keep {Z : State} {h h' : Heap} {C n d : String} {w : Value} {ws : List Addr} (F : Sta Z h C n d w) (K : Keep h h' ws) (q : ∀ x ∈ ws, ∃ c : Cell, h[x]? = some c ∧ c.vm.isStatics = false) : Sta Z h' C n d w := by
  obtain ⟨cf, i, k, f, st, cell, h1, h2, h3, h4, h5, h6, h7⟩ := F
  refine ⟨cf, i, k, f, st, cell, h1, h2, h3, h4, K.2.1 st cell h5 (fun hm => ?_), h6, h7⟩
  obtain ⟨c, g1, g2⟩ := q st hm
  cases h5.symm.trans g1
  rw [h6] at g2; cases g2
theorem own_exa_ns {Z : State} {h : Heap} {a : Addr} {C : String} (F : Exa Z h a C) : ∃ c : Cell, h[a]? = some c ∧ c.vm.isStatics = false := by
  obtain ⟨cell, k, h1, -, -, h4, -⟩ := F
  exact ⟨cell, h1, h4⟩
theorem own_arv_ns {Z : State} {h : Heap} {a : Addr} {k : ClassId} {ty : FieldType} {z : Int32} {vs : List Value} {d : Value} (F : Arv Z h a k ty z vs d) : ∃ c : Cell, h[a]? = some c ∧ c.vm.isStatics = false := by
  obtain ⟨cell, A, -⟩ := F
  exact ⟨cell, A.1, A.plain⟩
theorem own_arv {Z : State} {h : Heap} {a : Addr} {k : ClassId} {ty : FieldType} {z : Int32} {vs : List Value} {d : Value} (F : Arh Z h a k ty z [] vs d) : Arv Z h a k ty z vs d := F
theorem own_eqv {Z : State} {args : Array Value} {t u : Term} {v : Value} (hv : (∃ k, v = .int k) ∨ ∃ a, v = .ref a) (hu : u.eval args Z none [] Z = some v) (h : (Jvm.Cond.eq t u).value args Z none Z [] = some true) : t.eval args Z none [] Z = some v := by
  simp only [Jvm.Cond.value, hu] at h
  cases ht : t.eval args Z none [] Z with
  | none => simp [ht] at h
  | some x => rcases hv with ⟨k, rfl⟩ | ⟨a, rfl⟩ <;> cases x <;> simp [ht] at h ⊢ <;> exact h
theorem own_len {Z : State} {args : Array Value} {t : Term} {a : Addr} {cl : Cell} {ty : FieldType} {z : Int32} (ev : t.eval args Z none [] Z = some (.ref a)) (A : Arr Z Z.heap a cl ty) (h : (Term.length t).eval args Z none [] Z = some (.int z)) : cl.slots.size < 2 ^ 31 ∧ cl.slots.size.toInt32 = z := by
  obtain ⟨a', cell, ha', hat, hv⟩ := Term.length_spec h
  cases ev.symm.trans ha'
  cases A.1.symm.trans (State.arrayAt?_spec hat).1
  cases hv
  refine ⟨?_, rfl⟩
  by_cases q : cl.slots.size < 2 ^ 31
  · exact q
  · exfalso
    simp [Term.eval, ev, hat, q] at h
end Jvm.RoadKit
namespace Jvm.Pilot.@@N@@
open Jvm Jvm.ClassFile Sem Op Lib Jvm.Free Jvm.Stand Jvm.LawKit Jvm.RoadKit Bundle Jvm.Pilot.@@N@@.Jvm.D
theorem d1_0 : decode prog_107_method_60_code 0 = .ok (.iload_n 0, 1) := by decide +kernel
theorem d1_1 : decode prog_107_method_60_code 1 = .ok (.bipush 48, 2) := by decide +kernel
theorem d1_3 : decode prog_107_method_60_code 3 = .ok (.if_icmp .lt 13, 3) := by decide +kernel
theorem d1_6 : decode prog_107_method_60_code 6 = .ok (.iload_n 0, 1) := by decide +kernel
theorem d1_7 : decode prog_107_method_60_code 7 = .ok (.bipush 57, 2) := by decide +kernel
theorem d1_9 : decode prog_107_method_60_code 9 = .ok (.if_icmp .gt 7, 3) := by decide +kernel
theorem d1_12 : decode prog_107_method_60_code 12 = .ok (.iconst 1, 1) := by decide +kernel
theorem d1_13 : decode prog_107_method_60_code 13 = .ok (.goto 4, 3) := by decide +kernel
theorem d1_16 : decode prog_107_method_60_code 16 = .ok (.iconst 0, 1) := by decide +kernel
theorem d1_17 : decode prog_107_method_60_code 17 = .ok (.ireturn, 1) := by decide +kernel
def res1 (p1 : Int32) : Int32 := if p1 < (48 : Int32) then (0 : Int32) else if (57 : Int32) < p1 then (0 : Int32) else (1 : Int32)
theorem pn0 : plainName "com/example/whereas/whereas/Text" = true := by first | (simp [plainName, overriddenIn]; done) | decide +kernel
theorem ef1 (m : MethodId) (p1 : Int32) : entryFrame m #[(.int p1)] 1 = (mkF m 0 #[.val (.int p1)] []) := by first | (simp [entryFrame, mkF, argsToLocals, Value.category]; done) | rfl
def Q1 (Z : State) (p1 : Int32) (h0 : Heap) (n0 : Nat) (v : Option Value) (h : Heap) (L : List Loc) : Prop := v = some (.int (res1 p1)) ∧ L = [] ∧ h = h0
set_option maxRecDepth 65536 in
set_option maxHeartbeats 40000000 in
theorem rm1 (l : Launch) (Z : State) (a0 : Array Value) (hw : ∀ d ∈ tables_1, d.before a0 Z = true) (ws : List Jvm.Cond) (p1 : Int32) (h0 : Heap) (n0 : Nat) (Z0 : n0 ≤ h0.size) :
    MetFree l (⟨"com/example/whereas/whereas/Text", "isDigit", "(I)Z"⟩ : MethodName) (head1 (Jvm.Cond.code (⟨"com/example/whereas/whereas/Text", "isDigit", "(I)Z"⟩ : MethodName) prog_107_method_60_code 1 (some .boolean) :: ws) ({ frames := 0, cells := 0, slots := 0, locals := 0 } : Room)) (fun a U => a = #[(.int p1)] ∧ Z.Warmed39 U.vm ∧ U.heap = h0) (fun _ _ _ _ _ => True) (fun _ U o U' => ∃ v L, o = .returned v ∧ Q1 Z p1 h0 n0 v U'.heap L ∧ FrameEnd U o U' L ({ frames := 0, cells := 0, slots := 0, locals := 0 } : Room).cells ({ frames := 0, cells := 0, slots := 0, locals := 0 } : Room).slots) := by
  refine MetFree.of_bodySF (plainFor_of_name pn0) hisR ?_
  intro p e s m args below meth c s₁ Bd hml0 hP hK
  obtain ⟨rfl, hZ, hh⟩ := hP
  have hx := Bd.exec
  have hby := Bd.bytes
  have hml : c.maxLocals = 1 := hml0
  have hown : s.vm.findClass "com/example/whereas/whereas/Text" = some m.cls := findClass_of_methodNamed Bd.named
  have hnm := (name_of_methodNamed Bd.named Bd.method).1
  have X0 : Stand p l e ({ frames := 0, cells := 0, slots := 0, locals := 0 } : Room) s m #[(.int p1)] below meth c s₁ [] 0 0 := Stand.of_body Bd
  have e0 : s₁.heap = h0 := by rw [← hh, Bd.state]; rfl
  have N0 := Fr.nil n0
  have pre0 : ∀ t, Steps p.tables e below (s₁.setTop (mkF m 0 #[.val (.int p1)] [])) t → Steps p.tables e below (s₁.setTop (entryFrame m #[(.int p1)] 1)) t := fun t k => castTop (ef1 m p1) k
  have pre1 : ∀ t, Steps p.tables e below (s₁.setTop (mkF m 3 #[.val (.int p1)] [(.int (48 : Int32)), (.int p1)])) t → Steps p.tables e below (s₁.setTop (entryFrame m #[(.int p1)] 1)) t := by
    intro t kt
    refine pre0 _ ?_
    show Steps p.tables e below (s₁.setTop (mkF m 0 #[.val (.int p1)] [])) _
    refine XS.iloadN X0.here hx rfl (hb hby d1_0) rfl ?_
    show Steps p.tables e below (s₁.setTop (mkF m 1 #[.val (.int p1)] [(.int p1)])) _
    refine XS.bipush X0.here hx rfl (hb hby d1_1) ?_
    exact kt
  by_cases hc3_2 : p1 < (48 : Int32)
  · obtain ⟨fs, hr, hrun, hended, hW, hsame⟩ := X0.leave (v := some (.int (0 : Int32))) (fun h => by rw [Bd.returns] at h; cases h)
    refine ⟨_, _, pre1 _ ?_, hrun, hended, _, _, rfl, ?_, ⟨_, rfl⟩, hW, hsame.mono (by decide) (by decide)⟩
    · show Steps p.tables e below (s₁.setTop (mkF m 3 #[.val (.int p1)] [(.int (48 : Int32)), (.int p1)])) _
      refine XS.icmpYes X0.here hx rfl (pc0 := 3) (pc' := 16) rfl (hb hby d1_3) rfl (tlt hc3_2).1 (by decide) (by decide) ?_
      show Steps p.tables e below (s₁.setTop (mkF m 16 #[.val (.int p1)] [])) _
      refine XS.iconst X0.here hx rfl (hb hby d1_16) ?_
      show Steps p.tables e below (s₁.setTop (mkF m 17 #[.val (.int p1)] [(.int (0 : Int32))])) _
      exact retN X0 hx (t := .boolean) Bd.returns (by simp) (hb hby d1_17) hr
    · show Q1 Z p1 h0 n0 _ s₁.heap _
      rw [e0]
      exact ⟨by rw [res1, if_pos hc3_2], rfl, rfl⟩
  · have pre3 : ∀ t, Steps p.tables e below (s₁.setTop (mkF m 9 #[.val (.int p1)] [(.int (57 : Int32)), (.int p1)])) t → Steps p.tables e below (s₁.setTop (entryFrame m #[(.int p1)] 1)) t := by
      intro t kt
      refine pre1 _ ?_
      show Steps p.tables e below (s₁.setTop (mkF m 3 #[.val (.int p1)] [(.int (48 : Int32)), (.int p1)])) _
      refine XS.icmpNo X0.here hx rfl (hb hby d1_3) rfl (flt hc3_2).1 ?_
      show Steps p.tables e below (s₁.setTop (mkF m 6 #[.val (.int p1)] [])) _
      refine XS.iloadN X0.here hx rfl (hb hby d1_6) rfl ?_
      show Steps p.tables e below (s₁.setTop (mkF m 7 #[.val (.int p1)] [(.int p1)])) _
      refine XS.bipush X0.here hx rfl (hb hby d1_7) ?_
      exact kt
    by_cases hc9_4 : (57 : Int32) < p1
    · obtain ⟨fs, hr, hrun, hended, hW, hsame⟩ := X0.leave (v := some (.int (0 : Int32))) (fun h => by rw [Bd.returns] at h; cases h)
      refine ⟨_, _, pre3 _ ?_, hrun, hended, _, _, rfl, ?_, ⟨_, rfl⟩, hW, hsame.mono (by decide) (by decide)⟩
      · show Steps p.tables e below (s₁.setTop (mkF m 9 #[.val (.int p1)] [(.int (57 : Int32)), (.int p1)])) _
        refine XS.icmpYes X0.here hx rfl (pc0 := 9) (pc' := 16) rfl (hb hby d1_9) rfl (tlt hc9_4).2.2.1 (by decide) (by decide) ?_
        show Steps p.tables e below (s₁.setTop (mkF m 16 #[.val (.int p1)] [])) _
        refine XS.iconst X0.here hx rfl (hb hby d1_16) ?_
        show Steps p.tables e below (s₁.setTop (mkF m 17 #[.val (.int p1)] [(.int (0 : Int32))])) _
        exact retN X0 hx (t := .boolean) Bd.returns (by simp) (hb hby d1_17) hr
      · show Q1 Z p1 h0 n0 _ s₁.heap _
        rw [e0]
        exact ⟨by rw [res1, if_neg hc3_2, if_pos hc9_4], rfl, rfl⟩
    · obtain ⟨fs, hr, hrun, hended, hW, hsame⟩ := X0.leave (v := some (.int (1 : Int32))) (fun h => by rw [Bd.returns] at h; cases h)
      refine ⟨_, _, pre3 _ ?_, hrun, hended, _, _, rfl, ?_, ⟨_, rfl⟩, hW, hsame.mono (by decide) (by decide)⟩
      · show Steps p.tables e below (s₁.setTop (mkF m 9 #[.val (.int p1)] [(.int (57 : Int32)), (.int p1)])) _
        refine XS.icmpNo X0.here hx rfl (hb hby d1_9) rfl (flt hc9_4).2.2.1 ?_
        show Steps p.tables e below (s₁.setTop (mkF m 12 #[.val (.int p1)] [])) _
        refine XS.iconst X0.here hx rfl (hb hby d1_12) ?_
        show Steps p.tables e below (s₁.setTop (mkF m 13 #[.val (.int p1)] [(.int (1 : Int32))])) _
        refine XS.goto X0.here hx rfl (pc0 := 13) (pc' := 17) rfl (hb hby d1_13) (by decide) (by decide) ?_
        show Steps p.tables e below (s₁.setTop (mkF m 17 #[.val (.int p1)] [(.int (1 : Int32))])) _
        exact retN X0 hx (t := .boolean) Bd.returns (by simp) (hb hby d1_17) hr
      · show Q1 Z p1 h0 n0 _ s₁.heap _
        rw [e0]
        exact ⟨by rw [res1, if_neg hc3_2, if_neg hc9_4], rfl, rfl⟩
def mg0_10_s0 (p1 : Int32) : Int32 := if (lcmpW ((p1.toInt64) - (48 : Int64)) (0 : Int64)) < (0 : Int32) then (0 : Int32) else if (0 : Int32) < (lcmpW ((p1.toInt64) - (48 : Int64)) (9 : Int64)) then (0 : Int32) else (1 : Int32)
def mg0_34_s0 (p1 : Int32) : Int32 := if (res1 p1) = (mg0_10_s0 p1) then (1 : Int32) else (0 : Int32)
def mg0_60_s0 (p2 : Int32) : Int32 := if (p2 &&& (15 : Int32)) < (1 : Int32) then (0 : Int32) else if (10 : Int32) < (p2 &&& (15 : Int32)) then (0 : Int32) else (1 : Int32)
def mg0_84_s0 (p2 : Int32) : Int32 := if (res1 ((47 : Int32) + (p2 &&& (15 : Int32)))) = (mg0_60_s0 p2) then (1 : Int32) else (0 : Int32)
def res0 (p1 : Int32) (p2 : Int32) : Int32 := if (mg0_34_s0 p1) = (0 : Int32) then (0 : Int32) else if (mg0_84_s0 p2) = (0 : Int32) then (0 : Int32) else (1 : Int32)
theorem pd0 : parseMethodDescriptor "(I)Z" = some ⟨[.int], some .boolean⟩ := by decide +kernel
theorem pn1 : plainName "com/example/whereas/whereas/TextIsDigitPinLaw" = true := by first | (simp [plainName, overriddenIn]; done) | decide +kernel
theorem ef0 (m : MethodId) (p1 : Int32) (p2 : Int32) : entryFrame m #[(.int p1), (.int p2)] maxLocals = (mkF m 0 #[.val (.int p1), .val (.int p2), .unset, .unset, .unset, .unset, .unset, .unset, .unset, .unset] []) := by first | (simp [entryFrame, mkF, argsToLocals, Value.category, maxLocals]; done) | rfl
def Q0 (Z : State) (p1 : Int32) (p2 : Int32) (h0 : Heap) (n0 : Nat) (v : Option Value) (h : Heap) (L : List Loc) : Prop := v = some (.int (res0 p1 p2)) ∧ Fr n0 L
set_option maxRecDepth 65536 in
set_option maxHeartbeats 40000000 in
theorem rm0 (l : Launch) (Z : State) (a0 : Array Value) (hw : ∀ d ∈ tables_1, d.before a0 Z = true) (ws : List Jvm.Cond) (p1 : Int32) (p2 : Int32) (h0 : Heap) (n0 : Nat) (Z0 : n0 ≤ h0.size) :
    MetFree l x (head1 (Jvm.Cond.code x code maxLocals ret :: ws) room_1) (fun a U => a = #[(.int p1), (.int p2)] ∧ Z.Warmed39 U.vm ∧ U.heap = h0) (fun _ _ _ _ _ => True) (fun _ U o U' => ∃ v L, o = .returned v ∧ Q0 Z p1 p2 h0 n0 v U'.heap L ∧ FrameEnd U o U' L room_1.cells room_1.slots) := by
  refine MetFree.of_bodySF (plainFor_of_name pn1) hisR ?_
  intro p e s m args below meth c s₁ Bd hml0 hP hK
  obtain ⟨rfl, hZ, hh⟩ := hP
  have hx := Bd.exec
  have hby := Bd.bytes
  have hml : c.maxLocals = 10 := hml0
  have hown : s.vm.findClass "com/example/whereas/whereas/TextIsDigitPinLaw" = some m.cls := findClass_of_methodNamed Bd.named
  have hnm := (name_of_methodNamed Bd.named Bd.method).1
  have X0 : Stand p l e room_1 s m #[(.int p1), (.int p2)] below meth c s₁ [] 0 0 := Stand.of_body Bd
  have e0 : s₁.heap = h0 := by rw [← hh, Bd.state]; rfl
  have N0 := Fr.nil n0
  have pre0 : ∀ t, Steps p.tables e below (s₁.setTop (mkF m 0 #[.val (.int p1), .val (.int p2), .unset, .unset, .unset, .unset, .unset, .unset, .unset, .unset] [])) t → Steps p.tables e below (s₁.setTop (entryFrame m #[(.int p1), (.int p2)] maxLocals)) t := fun t k => castTop (ef0 m p1 p2) k
  have pre1 : ∀ t, Steps p.tables e below (s₁.setTop (mkF m 10 #[.val (.int p1), .val (.int p2), .val (.long ((p1.toInt64) - (48 : Int64))), .second, .unset, .unset, .unset, .unset, .unset, .unset] [(.int (lcmpW ((p1.toInt64) - (48 : Int64)) (0 : Int64)))])) t → Steps p.tables e below (s₁.setTop (entryFrame m #[(.int p1), (.int p2)] maxLocals)) t := by
    intro t kt
    refine pre0 _ ?_
    show Steps p.tables e below (s₁.setTop (mkF m 0 #[.val (.int p1), .val (.int p2), .unset, .unset, .unset, .unset, .unset, .unset, .unset, .unset] [])) _
    refine XS.iloadN X0.here hx rfl (hb hby at_0) rfl ?_
    show Steps p.tables e below (s₁.setTop (mkF m 1 #[.val (.int p1), .val (.int p2), .unset, .unset, .unset, .unset, .unset, .unset, .unset, .unset] [(.int p1)])) _
    refine XS.i2l X0.here hx rfl (hb hby at_1) rfl ?_
    show Steps p.tables e below (s₁.setTop (mkF m 2 #[.val (.int p1), .val (.int p2), .unset, .unset, .unset, .unset, .unset, .unset, .unset, .unset] [(.long (p1.toInt64))])) _
    refine X0.ldc2Long hx hown (mvT hZ (hw _ (List.mem_of_getElem? (i := 0) rfl))) (g := (mkF m 2 #[.val (.int p1), .val (.int p2), .unset, .unset, .unset, .unset, .unset, .unset, .unset, .unset] [(.long (p1.toInt64))])) rfl (hb hby at_2) _ ?_
    show Steps p.tables e below (s₁.setTop (mkF m 5 #[.val (.int p1), .val (.int p2), .unset, .unset, .unset, .unset, .unset, .unset, .unset, .unset] [(.long (48 : Int64)), (.long (p1.toInt64))])) _
    refine XS.lsub X0.here hx rfl (hb hby at_5) rfl ?_
    show Steps p.tables e below (s₁.setTop (mkF m 6 #[.val (.int p1), .val (.int p2), .unset, .unset, .unset, .unset, .unset, .unset, .unset, .unset] [(.long ((p1.toInt64) - (48 : Int64)))])) _
    refine XS.lstoreN X0.here hx rfl (hb hby at_6) rfl (l' := #[.val (.int p1), .val (.int p2), .val (.long ((p1.toInt64) - (48 : Int64))), .second, .unset, .unset, .unset, .unset, .unset, .unset]) rfl ?_
    show Steps p.tables e below (s₁.setTop (mkF m 7 #[.val (.int p1), .val (.int p2), .val (.long ((p1.toInt64) - (48 : Int64))), .second, .unset, .unset, .unset, .unset, .unset, .unset] [])) _
    refine XS.lloadN X0.here hx rfl (hb hby at_7) rfl ?_
    show Steps p.tables e below (s₁.setTop (mkF m 8 #[.val (.int p1), .val (.int p2), .val (.long ((p1.toInt64) - (48 : Int64))), .second, .unset, .unset, .unset, .unset, .unset, .unset] [(.long ((p1.toInt64) - (48 : Int64)))])) _
    refine XS.lconst X0.here hx rfl (hb hby at_8) ?_
    show Steps p.tables e below (s₁.setTop (mkF m 9 #[.val (.int p1), .val (.int p2), .val (.long ((p1.toInt64) - (48 : Int64))), .second, .unset, .unset, .unset, .unset, .unset, .unset] [(.long (0 : Int64)), (.long ((p1.toInt64) - (48 : Int64)))])) _
    refine XS.lcmp X0.here hx rfl (hb hby at_9) rfl ?_
    exact kt
  have pre5 : ∀ t, Steps p.tables e below (s₁.setTop (mkF m 26 #[.val (.int p1), .val (.int p2), .val (.long ((p1.toInt64) - (48 : Int64))), .second, .unset, .unset, .unset, .unset, .unset, .unset] [(.int (mg0_10_s0 p1))])) t → Steps p.tables e below (s₁.setTop (entryFrame m #[(.int p1), (.int p2)] maxLocals)) t := by
    intro t kt
    by_cases hc10_2 : (lcmpW ((p1.toInt64) - (48 : Int64)) (0 : Int64)) < (0 : Int32)
    · rw [show (mg0_10_s0 p1) = (0 : Int32) from by rw [mg0_10_s0, if_pos hc10_2]] at kt
      refine pre1 _ ?_
      show Steps p.tables e below (s₁.setTop (mkF m 10 #[.val (.int p1), .val (.int p2), .val (.long ((p1.toInt64) - (48 : Int64))), .second, .unset, .unset, .unset, .unset, .unset, .unset] [(.int (lcmpW ((p1.toInt64) - (48 : Int64)) (0 : Int64)))])) _
      refine XS.ifYes X0.here hx rfl (pc0 := 10) (pc' := 25) rfl (hb hby at_10) rfl ((if0 _ _).trans (tlt hc10_2).1) (by decide) (by decide) ?_
      show Steps p.tables e below (s₁.setTop (mkF m 25 #[.val (.int p1), .val (.int p2), .val (.long ((p1.toInt64) - (48 : Int64))), .second, .unset, .unset, .unset, .unset, .unset, .unset] [])) _
      refine XS.iconst X0.here hx rfl (hb hby at_25) ?_
      exact kt
    · have pre3 : ∀ t, Steps p.tables e below (s₁.setTop (mkF m 18 #[.val (.int p1), .val (.int p2), .val (.long ((p1.toInt64) - (48 : Int64))), .second, .unset, .unset, .unset, .unset, .unset, .unset] [(.int (lcmpW ((p1.toInt64) - (48 : Int64)) (9 : Int64)))])) t → Steps p.tables e below (s₁.setTop (entryFrame m #[(.int p1), (.int p2)] maxLocals)) t := by
        intro t kt
        refine pre1 _ ?_
        show Steps p.tables e below (s₁.setTop (mkF m 10 #[.val (.int p1), .val (.int p2), .val (.long ((p1.toInt64) - (48 : Int64))), .second, .unset, .unset, .unset, .unset, .unset, .unset] [(.int (lcmpW ((p1.toInt64) - (48 : Int64)) (0 : Int64)))])) _
        refine XS.ifNo X0.here hx rfl (hb hby at_10) rfl ((if0 _ _).trans (flt hc10_2).1) ?_
        show Steps p.tables e below (s₁.setTop (mkF m 13 #[.val (.int p1), .val (.int p2), .val (.long ((p1.toInt64) - (48 : Int64))), .second, .unset, .unset, .unset, .unset, .unset, .unset] [])) _
        refine XS.lloadN X0.here hx rfl (hb hby at_13) rfl ?_
        show Steps p.tables e below (s₁.setTop (mkF m 14 #[.val (.int p1), .val (.int p2), .val (.long ((p1.toInt64) - (48 : Int64))), .second, .unset, .unset, .unset, .unset, .unset, .unset] [(.long ((p1.toInt64) - (48 : Int64)))])) _
        refine X0.ldc2Long hx hown (mvT hZ (hw _ (List.mem_of_getElem? (i := 5) rfl))) (g := (mkF m 14 #[.val (.int p1), .val (.int p2), .val (.long ((p1.toInt64) - (48 : Int64))), .second, .unset, .unset, .unset, .unset, .unset, .unset] [(.long ((p1.toInt64) - (48 : Int64)))])) rfl (hb hby at_14) _ ?_
        show Steps p.tables e below (s₁.setTop (mkF m 17 #[.val (.int p1), .val (.int p2), .val (.long ((p1.toInt64) - (48 : Int64))), .second, .unset, .unset, .unset, .unset, .unset, .unset] [(.long (9 : Int64)), (.long ((p1.toInt64) - (48 : Int64)))])) _
        refine XS.lcmp X0.here hx rfl (hb hby at_17) rfl ?_
        exact kt
      by_cases hc18_4 : (0 : Int32) < (lcmpW ((p1.toInt64) - (48 : Int64)) (9 : Int64))
      · rw [show (mg0_10_s0 p1) = (0 : Int32) from by rw [mg0_10_s0, if_neg hc10_2, if_pos hc18_4]] at kt
        refine pre3 _ ?_
        show Steps p.tables e below (s₁.setTop (mkF m 18 #[.val (.int p1), .val (.int p2), .val (.long ((p1.toInt64) - (48 : Int64))), .second, .unset, .unset, .unset, .unset, .unset, .unset] [(.int (lcmpW ((p1.toInt64) - (48 : Int64)) (9 : Int64)))])) _
        refine XS.ifYes X0.here hx rfl (pc0 := 18) (pc' := 25) rfl (hb hby at_18) rfl ((if0 _ _).trans (tlt hc18_4).2.2.1) (by decide) (by decide) ?_
        show Steps p.tables e below (s₁.setTop (mkF m 25 #[.val (.int p1), .val (.int p2), .val (.long ((p1.toInt64) - (48 : Int64))), .second, .unset, .unset, .unset, .unset, .unset, .unset] [])) _
        refine XS.iconst X0.here hx rfl (hb hby at_25) ?_
        exact kt
      · rw [show (mg0_10_s0 p1) = (1 : Int32) from by rw [mg0_10_s0, if_neg hc10_2, if_neg hc18_4]] at kt
        refine pre3 _ ?_
        show Steps p.tables e below (s₁.setTop (mkF m 18 #[.val (.int p1), .val (.int p2), .val (.long ((p1.toInt64) - (48 : Int64))), .second, .unset, .unset, .unset, .unset, .unset, .unset] [(.int (lcmpW ((p1.toInt64) - (48 : Int64)) (9 : Int64)))])) _
        refine XS.ifNo X0.here hx rfl (hb hby at_18) rfl ((if0 _ _).trans (flt hc18_4).2.2.1) ?_
        show Steps p.tables e below (s₁.setTop (mkF m 21 #[.val (.int p1), .val (.int p2), .val (.long ((p1.toInt64) - (48 : Int64))), .second, .unset, .unset, .unset, .unset, .unset, .unset] [])) _
        refine XS.iconst X0.here hx rfl (hb hby at_21) ?_
        show Steps p.tables e below (s₁.setTop (mkF m 22 #[.val (.int p1), .val (.int p2), .val (.long ((p1.toInt64) - (48 : Int64))), .second, .unset, .unset, .unset, .unset, .unset, .unset] [(.int (1 : Int32))])) _
        refine XS.goto X0.here hx rfl (pc0 := 22) (pc' := 26) rfl (hb hby at_22) (by decide) (by decide) ?_
        exact kt
  obtain ⟨_, _, ⟨T6, L6, k6, n6⟩, -, X6, ⟨Lc6, hQ6, l6, y6, z6⟩, st6⟩ := Jvm.LawKit.callS X0 hx (y := (⟨"com/example/whereas/whereas/Text", "isDigit", "(I)Z"⟩ : MethodName)) hown (mvT hZ (hw _ (List.mem_of_getElem? (i := 1) rfl))) (mvT hZ (hw _ (List.mem_of_getElem? (i := 2) rfl))) (mvT hZ (hw _ (List.mem_of_getElem? (i := 3) rfl))) (mvT hZ (hw _ (List.mem_of_getElem? (i := 4) rfl))) (by decide) (backOf (W := 0) (rm1 l Z a0 hw [] p1  h0 n0 (Nat.le_trans Z0 (Keep.refl h0 []).1)  ) hZ (hw _ (List.mem_of_getElem? (i := 4) rfl)) (hw _ (List.mem_of_getElem? (i := 3) rfl)) (by decide) (by decide)) (g := (mkF m 29 #[.val (.int p1), .val (.int p2), .val (.long ((p1.toInt64) - (48 : Int64))), .second, .val (.int (mg0_10_s0 p1)), .unset, .unset, .unset, .unset, .unset] [(.int p1)])) rfl (by rw [hml]; rfl) (argsL := [(.int p1)]) (rest := []) (lenOf pd0 rfl) rfl (by show 2 * 0 + _ ≤ _; exact Nat.le_of_eq rfl) (hb hby at_29) (fun _ _ => ⟨rfl, e0, (by decide : 0 + 0 ≤ _), (by decide : 0 + 0 ≤ _)⟩)
  dsimp only [Pt.U, Pt.locs, Pt.cells, Pt.slots] at X6 l6 y6 z6 st6 hQ6
  subst l6 y6 z6
  obtain ⟨rfl, rfl, e6⟩ := hQ6
  have N6 := Fr.app N0 (Fr.nil n0)
  have pre7 : ∀ t, Steps p.tables e below (T6.setTop (mkF m 34 #[.val (.int p1), .val (.int p2), .val (.long ((p1.toInt64) - (48 : Int64))), .second, .val (.int (mg0_10_s0 p1)), .unset, .unset, .unset, .unset, .unset] [(.int (mg0_10_s0 p1)), (.int (res1 p1))])) t → Steps p.tables e below (s₁.setTop (entryFrame m #[(.int p1), (.int p2)] maxLocals)) t := by
    intro t kt
    refine pre5 _ ?_
    show Steps p.tables e below (s₁.setTop (mkF m 26 #[.val (.int p1), .val (.int p2), .val (.long ((p1.toInt64) - (48 : Int64))), .second, .unset, .unset, .unset, .unset, .unset, .unset] [(.int (mg0_10_s0 p1))])) _
    refine XS.istore X0.here hx rfl (hb hby at_26) rfl (l' := #[.val (.int p1), .val (.int p2), .val (.long ((p1.toInt64) - (48 : Int64))), .second, .val (.int (mg0_10_s0 p1)), .unset, .unset, .unset, .unset, .unset]) rfl ?_
    show Steps p.tables e below (s₁.setTop (mkF m 28 #[.val (.int p1), .val (.int p2), .val (.long ((p1.toInt64) - (48 : Int64))), .second, .val (.int (mg0_10_s0 p1)), .unset, .unset, .unset, .unset, .unset] [])) _
    refine XS.iloadN X0.here hx rfl (hb hby at_28) rfl ?_
    show Steps p.tables e below (s₁.setTop (mkF m 29 #[.val (.int p1), .val (.int p2), .val (.long ((p1.toInt64) - (48 : Int64))), .second, .val (.int (mg0_10_s0 p1)), .unset, .unset, .unset, .unset, .unset] [(.int p1)])) _
    refine st6 _ ?_
    show Steps p.tables e below (T6.setTop (mkF m 32 #[.val (.int p1), .val (.int p2), .val (.long ((p1.toInt64) - (48 : Int64))), .second, .val (.int (mg0_10_s0 p1)), .unset, .unset, .unset, .unset, .unset] [(.int (res1 p1))])) _
    refine XS.iload X6.here hx rfl (hb hby at_32) rfl ?_
    exact kt
  have pre9 : ∀ t, Steps p.tables e below (T6.setTop (mkF m 42 #[.val (.int p1), .val (.int p2), .val (.long ((p1.toInt64) - (48 : Int64))), .second, .val (.int (mg0_10_s0 p1)), .unset, .unset, .unset, .unset, .unset] [(.int (mg0_34_s0 p1))])) t → Steps p.tables e below (s₁.setTop (entryFrame m #[(.int p1), (.int p2)] maxLocals)) t := by
    intro t kt
    by_cases hc34_8 : (res1 p1) = (mg0_10_s0 p1)
    · rw [show (mg0_34_s0 p1) = (1 : Int32) from by rw [mg0_34_s0, if_pos hc34_8]] at kt
      refine pre7 _ ?_
      show Steps p.tables e below (T6.setTop (mkF m 34 #[.val (.int p1), .val (.int p2), .val (.long ((p1.toInt64) - (48 : Int64))), .second, .val (.int (mg0_10_s0 p1)), .unset, .unset, .unset, .unset, .unset] [(.int (mg0_10_s0 p1)), (.int (res1 p1))])) _
      refine XS.icmpNo X6.here hx rfl (hb hby at_34) rfl (teq hc34_8).2 ?_
      show Steps p.tables e below (T6.setTop (mkF m 37 #[.val (.int p1), .val (.int p2), .val (.long ((p1.toInt64) - (48 : Int64))), .second, .val (.int (mg0_10_s0 p1)), .unset, .unset, .unset, .unset, .unset] [])) _
      refine XS.iconst X6.here hx rfl (hb hby at_37) ?_
      show Steps p.tables e below (T6.setTop (mkF m 38 #[.val (.int p1), .val (.int p2), .val (.long ((p1.toInt64) - (48 : Int64))), .second, .val (.int (mg0_10_s0 p1)), .unset, .unset, .unset, .unset, .unset] [(.int (1 : Int32))])) _
      refine XS.goto X6.here hx rfl (pc0 := 38) (pc' := 42) rfl (hb hby at_38) (by decide) (by decide) ?_
      exact kt
    · rw [show (mg0_34_s0 p1) = (0 : Int32) from by rw [mg0_34_s0, if_neg hc34_8]] at kt
      refine pre7 _ ?_
      show Steps p.tables e below (T6.setTop (mkF m 34 #[.val (.int p1), .val (.int p2), .val (.long ((p1.toInt64) - (48 : Int64))), .second, .val (.int (mg0_10_s0 p1)), .unset, .unset, .unset, .unset, .unset] [(.int (mg0_10_s0 p1)), (.int (res1 p1))])) _
      refine XS.icmpYes X6.here hx rfl (pc0 := 34) (pc' := 41) rfl (hb hby at_34) rfl (feq hc34_8).2 (by decide) (by decide) ?_
      show Steps p.tables e below (T6.setTop (mkF m 41 #[.val (.int p1), .val (.int p2), .val (.long ((p1.toInt64) - (48 : Int64))), .second, .val (.int (mg0_10_s0 p1)), .unset, .unset, .unset, .unset, .unset] [])) _
      refine XS.iconst X6.here hx rfl (hb hby at_41) ?_
      exact kt
  have pre10 : ∀ t, Steps p.tables e below (T6.setTop (mkF m 60 #[.val (.int p1), .val (.int p2), .val (.long ((p1.toInt64) - (48 : Int64))), .second, .val (.int (mg0_10_s0 p1)), .val (.int (mg0_34_s0 p1)), .val (.int (p2 &&& (15 : Int32))), .val (.int ((47 : Int32) + (p2 &&& (15 : Int32)))), .unset, .unset] [(.int (1 : Int32)), (.int (p2 &&& (15 : Int32)))])) t → Steps p.tables e below (s₁.setTop (entryFrame m #[(.int p1), (.int p2)] maxLocals)) t := by
    intro t kt
    refine pre9 _ ?_
    show Steps p.tables e below (T6.setTop (mkF m 42 #[.val (.int p1), .val (.int p2), .val (.long ((p1.toInt64) - (48 : Int64))), .second, .val (.int (mg0_10_s0 p1)), .unset, .unset, .unset, .unset, .unset] [(.int (mg0_34_s0 p1))])) _
    refine XS.istore X6.here hx rfl (hb hby at_42) rfl (l' := #[.val (.int p1), .val (.int p2), .val (.long ((p1.toInt64) - (48 : Int64))), .second, .val (.int (mg0_10_s0 p1)), .val (.int (mg0_34_s0 p1)), .unset, .unset, .unset, .unset]) rfl ?_
    show Steps p.tables e below (T6.setTop (mkF m 44 #[.val (.int p1), .val (.int p2), .val (.long ((p1.toInt64) - (48 : Int64))), .second, .val (.int (mg0_10_s0 p1)), .val (.int (mg0_34_s0 p1)), .unset, .unset, .unset, .unset] [])) _
    refine XS.iloadN X6.here hx rfl (hb hby at_44) rfl ?_
    show Steps p.tables e below (T6.setTop (mkF m 45 #[.val (.int p1), .val (.int p2), .val (.long ((p1.toInt64) - (48 : Int64))), .second, .val (.int (mg0_10_s0 p1)), .val (.int (mg0_34_s0 p1)), .unset, .unset, .unset, .unset] [(.int p2)])) _
    refine XS.bipush X6.here hx rfl (hb hby at_45) ?_
    show Steps p.tables e below (T6.setTop (mkF m 47 #[.val (.int p1), .val (.int p2), .val (.long ((p1.toInt64) - (48 : Int64))), .second, .val (.int (mg0_10_s0 p1)), .val (.int (mg0_34_s0 p1)), .unset, .unset, .unset, .unset] [(.int (15 : Int32)), (.int p2)])) _
    refine XS.iand X6.here hx rfl (hb hby at_47) rfl ?_
    show Steps p.tables e below (T6.setTop (mkF m 48 #[.val (.int p1), .val (.int p2), .val (.long ((p1.toInt64) - (48 : Int64))), .second, .val (.int (mg0_10_s0 p1)), .val (.int (mg0_34_s0 p1)), .unset, .unset, .unset, .unset] [(.int (p2 &&& (15 : Int32)))])) _
    refine XS.istore X6.here hx rfl (hb hby at_48) rfl (l' := #[.val (.int p1), .val (.int p2), .val (.long ((p1.toInt64) - (48 : Int64))), .second, .val (.int (mg0_10_s0 p1)), .val (.int (mg0_34_s0 p1)), .val (.int (p2 &&& (15 : Int32))), .unset, .unset, .unset]) rfl ?_
    show Steps p.tables e below (T6.setTop (mkF m 50 #[.val (.int p1), .val (.int p2), .val (.long ((p1.toInt64) - (48 : Int64))), .second, .val (.int (mg0_10_s0 p1)), .val (.int (mg0_34_s0 p1)), .val (.int (p2 &&& (15 : Int32))), .unset, .unset, .unset] [])) _
    refine XS.bipush X6.here hx rfl (hb hby at_50) ?_
    show Steps p.tables e below (T6.setTop (mkF m 52 #[.val (.int p1), .val (.int p2), .val (.long ((p1.toInt64) - (48 : Int64))), .second, .val (.int (mg0_10_s0 p1)), .val (.int (mg0_34_s0 p1)), .val (.int (p2 &&& (15 : Int32))), .unset, .unset, .unset] [(.int (47 : Int32))])) _
    refine XS.iload X6.here hx rfl (hb hby at_52) rfl ?_
    show Steps p.tables e below (T6.setTop (mkF m 54 #[.val (.int p1), .val (.int p2), .val (.long ((p1.toInt64) - (48 : Int64))), .second, .val (.int (mg0_10_s0 p1)), .val (.int (mg0_34_s0 p1)), .val (.int (p2 &&& (15 : Int32))), .unset, .unset, .unset] [(.int (p2 &&& (15 : Int32))), (.int (47 : Int32))])) _
    refine XS.iadd X6.here hx rfl (hb hby at_54) rfl ?_
    show Steps p.tables e below (T6.setTop (mkF m 55 #[.val (.int p1), .val (.int p2), .val (.long ((p1.toInt64) - (48 : Int64))), .second, .val (.int (mg0_10_s0 p1)), .val (.int (mg0_34_s0 p1)), .val (.int (p2 &&& (15 : Int32))), .unset, .unset, .unset] [(.int ((47 : Int32) + (p2 &&& (15 : Int32))))])) _
    refine XS.istore X6.here hx rfl (hb hby at_55) rfl (l' := #[.val (.int p1), .val (.int p2), .val (.long ((p1.toInt64) - (48 : Int64))), .second, .val (.int (mg0_10_s0 p1)), .val (.int (mg0_34_s0 p1)), .val (.int (p2 &&& (15 : Int32))), .val (.int ((47 : Int32) + (p2 &&& (15 : Int32)))), .unset, .unset]) rfl ?_
    show Steps p.tables e below (T6.setTop (mkF m 57 #[.val (.int p1), .val (.int p2), .val (.long ((p1.toInt64) - (48 : Int64))), .second, .val (.int (mg0_10_s0 p1)), .val (.int (mg0_34_s0 p1)), .val (.int (p2 &&& (15 : Int32))), .val (.int ((47 : Int32) + (p2 &&& (15 : Int32)))), .unset, .unset] [])) _
    refine XS.iload X6.here hx rfl (hb hby at_57) rfl ?_
    show Steps p.tables e below (T6.setTop (mkF m 59 #[.val (.int p1), .val (.int p2), .val (.long ((p1.toInt64) - (48 : Int64))), .second, .val (.int (mg0_10_s0 p1)), .val (.int (mg0_34_s0 p1)), .val (.int (p2 &&& (15 : Int32))), .val (.int ((47 : Int32) + (p2 &&& (15 : Int32)))), .unset, .unset] [(.int (p2 &&& (15 : Int32)))])) _
    refine XS.iconst X6.here hx rfl (hb hby at_59) ?_
    exact kt
  have pre14 : ∀ t, Steps p.tables e below (T6.setTop (mkF m 75 #[.val (.int p1), .val (.int p2), .val (.long ((p1.toInt64) - (48 : Int64))), .second, .val (.int (mg0_10_s0 p1)), .val (.int (mg0_34_s0 p1)), .val (.int (p2 &&& (15 : Int32))), .val (.int ((47 : Int32) + (p2 &&& (15 : Int32)))), .unset, .unset] [(.int (mg0_60_s0 p2))])) t → Steps p.tables e below (s₁.setTop (entryFrame m #[(.int p1), (.int p2)] maxLocals)) t := by
    intro t kt
    by_cases hc60_11 : (p2 &&& (15 : Int32)) < (1 : Int32)
    · rw [show (mg0_60_s0 p2) = (0 : Int32) from by rw [mg0_60_s0, if_pos hc60_11]] at kt
      refine pre10 _ ?_
      show Steps p.tables e below (T6.setTop (mkF m 60 #[.val (.int p1), .val (.int p2), .val (.long ((p1.toInt64) - (48 : Int64))), .second, .val (.int (mg0_10_s0 p1)), .val (.int (mg0_34_s0 p1)), .val (.int (p2 &&& (15 : Int32))), .val (.int ((47 : Int32) + (p2 &&& (15 : Int32)))), .unset, .unset] [(.int (1 : Int32)), (.int (p2 &&& (15 : Int32)))])) _
      refine XS.icmpYes X6.here hx rfl (pc0 := 60) (pc' := 74) rfl (hb hby at_60) rfl (tlt hc60_11).1 (by decide) (by decide) ?_
      show Steps p.tables e below (T6.setTop (mkF m 74 #[.val (.int p1), .val (.int p2), .val (.long ((p1.toInt64) - (48 : Int64))), .second, .val (.int (mg0_10_s0 p1)), .val (.int (mg0_34_s0 p1)), .val (.int (p2 &&& (15 : Int32))), .val (.int ((47 : Int32) + (p2 &&& (15 : Int32)))), .unset, .unset] [])) _
      refine XS.iconst X6.here hx rfl (hb hby at_74) ?_
      exact kt
    · have pre12 : ∀ t, Steps p.tables e below (T6.setTop (mkF m 67 #[.val (.int p1), .val (.int p2), .val (.long ((p1.toInt64) - (48 : Int64))), .second, .val (.int (mg0_10_s0 p1)), .val (.int (mg0_34_s0 p1)), .val (.int (p2 &&& (15 : Int32))), .val (.int ((47 : Int32) + (p2 &&& (15 : Int32)))), .unset, .unset] [(.int (10 : Int32)), (.int (p2 &&& (15 : Int32)))])) t → Steps p.tables e below (s₁.setTop (entryFrame m #[(.int p1), (.int p2)] maxLocals)) t := by
        intro t kt
        refine pre10 _ ?_
        show Steps p.tables e below (T6.setTop (mkF m 60 #[.val (.int p1), .val (.int p2), .val (.long ((p1.toInt64) - (48 : Int64))), .second, .val (.int (mg0_10_s0 p1)), .val (.int (mg0_34_s0 p1)), .val (.int (p2 &&& (15 : Int32))), .val (.int ((47 : Int32) + (p2 &&& (15 : Int32)))), .unset, .unset] [(.int (1 : Int32)), (.int (p2 &&& (15 : Int32)))])) _
        refine XS.icmpNo X6.here hx rfl (hb hby at_60) rfl (flt hc60_11).1 ?_
        show Steps p.tables e below (T6.setTop (mkF m 63 #[.val (.int p1), .val (.int p2), .val (.long ((p1.toInt64) - (48 : Int64))), .second, .val (.int (mg0_10_s0 p1)), .val (.int (mg0_34_s0 p1)), .val (.int (p2 &&& (15 : Int32))), .val (.int ((47 : Int32) + (p2 &&& (15 : Int32)))), .unset, .unset] [])) _
        refine XS.iload X6.here hx rfl (hb hby at_63) rfl ?_
        show Steps p.tables e below (T6.setTop (mkF m 65 #[.val (.int p1), .val (.int p2), .val (.long ((p1.toInt64) - (48 : Int64))), .second, .val (.int (mg0_10_s0 p1)), .val (.int (mg0_34_s0 p1)), .val (.int (p2 &&& (15 : Int32))), .val (.int ((47 : Int32) + (p2 &&& (15 : Int32)))), .unset, .unset] [(.int (p2 &&& (15 : Int32)))])) _
        refine XS.bipush X6.here hx rfl (hb hby at_65) ?_
        exact kt
      by_cases hc67_13 : (10 : Int32) < (p2 &&& (15 : Int32))
      · rw [show (mg0_60_s0 p2) = (0 : Int32) from by rw [mg0_60_s0, if_neg hc60_11, if_pos hc67_13]] at kt
        refine pre12 _ ?_
        show Steps p.tables e below (T6.setTop (mkF m 67 #[.val (.int p1), .val (.int p2), .val (.long ((p1.toInt64) - (48 : Int64))), .second, .val (.int (mg0_10_s0 p1)), .val (.int (mg0_34_s0 p1)), .val (.int (p2 &&& (15 : Int32))), .val (.int ((47 : Int32) + (p2 &&& (15 : Int32)))), .unset, .unset] [(.int (10 : Int32)), (.int (p2 &&& (15 : Int32)))])) _
        refine XS.icmpYes X6.here hx rfl (pc0 := 67) (pc' := 74) rfl (hb hby at_67) rfl (tlt hc67_13).2.2.1 (by decide) (by decide) ?_
        show Steps p.tables e below (T6.setTop (mkF m 74 #[.val (.int p1), .val (.int p2), .val (.long ((p1.toInt64) - (48 : Int64))), .second, .val (.int (mg0_10_s0 p1)), .val (.int (mg0_34_s0 p1)), .val (.int (p2 &&& (15 : Int32))), .val (.int ((47 : Int32) + (p2 &&& (15 : Int32)))), .unset, .unset] [])) _
        refine XS.iconst X6.here hx rfl (hb hby at_74) ?_
        exact kt
      · rw [show (mg0_60_s0 p2) = (1 : Int32) from by rw [mg0_60_s0, if_neg hc60_11, if_neg hc67_13]] at kt
        refine pre12 _ ?_
        show Steps p.tables e below (T6.setTop (mkF m 67 #[.val (.int p1), .val (.int p2), .val (.long ((p1.toInt64) - (48 : Int64))), .second, .val (.int (mg0_10_s0 p1)), .val (.int (mg0_34_s0 p1)), .val (.int (p2 &&& (15 : Int32))), .val (.int ((47 : Int32) + (p2 &&& (15 : Int32)))), .unset, .unset] [(.int (10 : Int32)), (.int (p2 &&& (15 : Int32)))])) _
        refine XS.icmpNo X6.here hx rfl (hb hby at_67) rfl (flt hc67_13).2.2.1 ?_
        show Steps p.tables e below (T6.setTop (mkF m 70 #[.val (.int p1), .val (.int p2), .val (.long ((p1.toInt64) - (48 : Int64))), .second, .val (.int (mg0_10_s0 p1)), .val (.int (mg0_34_s0 p1)), .val (.int (p2 &&& (15 : Int32))), .val (.int ((47 : Int32) + (p2 &&& (15 : Int32)))), .unset, .unset] [])) _
        refine XS.iconst X6.here hx rfl (hb hby at_70) ?_
        show Steps p.tables e below (T6.setTop (mkF m 71 #[.val (.int p1), .val (.int p2), .val (.long ((p1.toInt64) - (48 : Int64))), .second, .val (.int (mg0_10_s0 p1)), .val (.int (mg0_34_s0 p1)), .val (.int (p2 &&& (15 : Int32))), .val (.int ((47 : Int32) + (p2 &&& (15 : Int32)))), .unset, .unset] [(.int (1 : Int32))])) _
        refine XS.goto X6.here hx rfl (pc0 := 71) (pc' := 75) rfl (hb hby at_71) (by decide) (by decide) ?_
        exact kt
  obtain ⟨_, _, ⟨T15, L15, k15, n15⟩, -, X15, ⟨Lc15, hQ15, l15, y15, z15⟩, st15⟩ := Jvm.LawKit.callS X6 hx (y := (⟨"com/example/whereas/whereas/Text", "isDigit", "(I)Z"⟩ : MethodName)) hown (mvT hZ (hw _ (List.mem_of_getElem? (i := 1) rfl))) (mvT hZ (hw _ (List.mem_of_getElem? (i := 2) rfl))) (mvT hZ (hw _ (List.mem_of_getElem? (i := 3) rfl))) (mvT hZ (hw _ (List.mem_of_getElem? (i := 4) rfl))) (by decide) (backOf (W := 0) (rm1 l Z a0 hw [] ((47 : Int32) + (p2 &&& (15 : Int32)))  h0 n0 (Nat.le_trans Z0 (Keep.refl h0 []).1)  ) hZ (hw _ (List.mem_of_getElem? (i := 4) rfl)) (hw _ (List.mem_of_getElem? (i := 3) rfl)) (by decide) (by decide)) (g := (mkF m 79 #[.val (.int p1), .val (.int p2), .val (.long ((p1.toInt64) - (48 : Int64))), .second, .val (.int (mg0_10_s0 p1)), .val (.int (mg0_34_s0 p1)), .val (.int (p2 &&& (15 : Int32))), .val (.int ((47 : Int32) + (p2 &&& (15 : Int32)))), .val (.int (mg0_60_s0 p2)), .unset] [(.int ((47 : Int32) + (p2 &&& (15 : Int32))))])) rfl (by rw [hml]; rfl) (argsL := [(.int ((47 : Int32) + (p2 &&& (15 : Int32))))]) (rest := []) (lenOf pd0 rfl) rfl (by show 2 * 0 + _ ≤ _; exact Nat.le_of_eq rfl) (hb hby at_79) (fun _ _ => ⟨rfl, e6, (by decide : 0 + 0 ≤ _), (by decide : 0 + 0 ≤ _)⟩)
  dsimp only [Pt.U, Pt.locs, Pt.cells, Pt.slots] at X15 l15 y15 z15 st15 hQ15
  subst l15 y15 z15
  obtain ⟨rfl, rfl, e15⟩ := hQ15
  have N15 := Fr.app N6 (Fr.nil n0)
  have pre16 : ∀ t, Steps p.tables e below (T15.setTop (mkF m 84 #[.val (.int p1), .val (.int p2), .val (.long ((p1.toInt64) - (48 : Int64))), .second, .val (.int (mg0_10_s0 p1)), .val (.int (mg0_34_s0 p1)), .val (.int (p2 &&& (15 : Int32))), .val (.int ((47 : Int32) + (p2 &&& (15 : Int32)))), .val (.int (mg0_60_s0 p2)), .unset] [(.int (mg0_60_s0 p2)), (.int (res1 ((47 : Int32) + (p2 &&& (15 : Int32)))))])) t → Steps p.tables e below (s₁.setTop (entryFrame m #[(.int p1), (.int p2)] maxLocals)) t := by
    intro t kt
    refine pre14 _ ?_
    show Steps p.tables e below (T6.setTop (mkF m 75 #[.val (.int p1), .val (.int p2), .val (.long ((p1.toInt64) - (48 : Int64))), .second, .val (.int (mg0_10_s0 p1)), .val (.int (mg0_34_s0 p1)), .val (.int (p2 &&& (15 : Int32))), .val (.int ((47 : Int32) + (p2 &&& (15 : Int32)))), .unset, .unset] [(.int (mg0_60_s0 p2))])) _
    refine XS.istore X6.here hx rfl (hb hby at_75) rfl (l' := #[.val (.int p1), .val (.int p2), .val (.long ((p1.toInt64) - (48 : Int64))), .second, .val (.int (mg0_10_s0 p1)), .val (.int (mg0_34_s0 p1)), .val (.int (p2 &&& (15 : Int32))), .val (.int ((47 : Int32) + (p2 &&& (15 : Int32)))), .val (.int (mg0_60_s0 p2)), .unset]) rfl ?_
    show Steps p.tables e below (T6.setTop (mkF m 77 #[.val (.int p1), .val (.int p2), .val (.long ((p1.toInt64) - (48 : Int64))), .second, .val (.int (mg0_10_s0 p1)), .val (.int (mg0_34_s0 p1)), .val (.int (p2 &&& (15 : Int32))), .val (.int ((47 : Int32) + (p2 &&& (15 : Int32)))), .val (.int (mg0_60_s0 p2)), .unset] [])) _
    refine XS.iload X6.here hx rfl (hb hby at_77) rfl ?_
    show Steps p.tables e below (T6.setTop (mkF m 79 #[.val (.int p1), .val (.int p2), .val (.long ((p1.toInt64) - (48 : Int64))), .second, .val (.int (mg0_10_s0 p1)), .val (.int (mg0_34_s0 p1)), .val (.int (p2 &&& (15 : Int32))), .val (.int ((47 : Int32) + (p2 &&& (15 : Int32)))), .val (.int (mg0_60_s0 p2)), .unset] [(.int ((47 : Int32) + (p2 &&& (15 : Int32))))])) _
    refine st15 _ ?_
    show Steps p.tables e below (T15.setTop (mkF m 82 #[.val (.int p1), .val (.int p2), .val (.long ((p1.toInt64) - (48 : Int64))), .second, .val (.int (mg0_10_s0 p1)), .val (.int (mg0_34_s0 p1)), .val (.int (p2 &&& (15 : Int32))), .val (.int ((47 : Int32) + (p2 &&& (15 : Int32)))), .val (.int (mg0_60_s0 p2)), .unset] [(.int (res1 ((47 : Int32) + (p2 &&& (15 : Int32)))))])) _
    refine XS.iload X15.here hx rfl (hb hby at_82) rfl ?_
    exact kt
  have pre18 : ∀ t, Steps p.tables e below (T15.setTop (mkF m 92 #[.val (.int p1), .val (.int p2), .val (.long ((p1.toInt64) - (48 : Int64))), .second, .val (.int (mg0_10_s0 p1)), .val (.int (mg0_34_s0 p1)), .val (.int (p2 &&& (15 : Int32))), .val (.int ((47 : Int32) + (p2 &&& (15 : Int32)))), .val (.int (mg0_60_s0 p2)), .unset] [(.int (mg0_84_s0 p2))])) t → Steps p.tables e below (s₁.setTop (entryFrame m #[(.int p1), (.int p2)] maxLocals)) t := by
    intro t kt
    by_cases hc84_17 : (res1 ((47 : Int32) + (p2 &&& (15 : Int32)))) = (mg0_60_s0 p2)
    · rw [show (mg0_84_s0 p2) = (1 : Int32) from by rw [mg0_84_s0, if_pos hc84_17]] at kt
      refine pre16 _ ?_
      show Steps p.tables e below (T15.setTop (mkF m 84 #[.val (.int p1), .val (.int p2), .val (.long ((p1.toInt64) - (48 : Int64))), .second, .val (.int (mg0_10_s0 p1)), .val (.int (mg0_34_s0 p1)), .val (.int (p2 &&& (15 : Int32))), .val (.int ((47 : Int32) + (p2 &&& (15 : Int32)))), .val (.int (mg0_60_s0 p2)), .unset] [(.int (mg0_60_s0 p2)), (.int (res1 ((47 : Int32) + (p2 &&& (15 : Int32)))))])) _
      refine XS.icmpNo X15.here hx rfl (hb hby at_84) rfl (teq hc84_17).2 ?_
      show Steps p.tables e below (T15.setTop (mkF m 87 #[.val (.int p1), .val (.int p2), .val (.long ((p1.toInt64) - (48 : Int64))), .second, .val (.int (mg0_10_s0 p1)), .val (.int (mg0_34_s0 p1)), .val (.int (p2 &&& (15 : Int32))), .val (.int ((47 : Int32) + (p2 &&& (15 : Int32)))), .val (.int (mg0_60_s0 p2)), .unset] [])) _
      refine XS.iconst X15.here hx rfl (hb hby at_87) ?_
      show Steps p.tables e below (T15.setTop (mkF m 88 #[.val (.int p1), .val (.int p2), .val (.long ((p1.toInt64) - (48 : Int64))), .second, .val (.int (mg0_10_s0 p1)), .val (.int (mg0_34_s0 p1)), .val (.int (p2 &&& (15 : Int32))), .val (.int ((47 : Int32) + (p2 &&& (15 : Int32)))), .val (.int (mg0_60_s0 p2)), .unset] [(.int (1 : Int32))])) _
      refine XS.goto X15.here hx rfl (pc0 := 88) (pc' := 92) rfl (hb hby at_88) (by decide) (by decide) ?_
      exact kt
    · rw [show (mg0_84_s0 p2) = (0 : Int32) from by rw [mg0_84_s0, if_neg hc84_17]] at kt
      refine pre16 _ ?_
      show Steps p.tables e below (T15.setTop (mkF m 84 #[.val (.int p1), .val (.int p2), .val (.long ((p1.toInt64) - (48 : Int64))), .second, .val (.int (mg0_10_s0 p1)), .val (.int (mg0_34_s0 p1)), .val (.int (p2 &&& (15 : Int32))), .val (.int ((47 : Int32) + (p2 &&& (15 : Int32)))), .val (.int (mg0_60_s0 p2)), .unset] [(.int (mg0_60_s0 p2)), (.int (res1 ((47 : Int32) + (p2 &&& (15 : Int32)))))])) _
      refine XS.icmpYes X15.here hx rfl (pc0 := 84) (pc' := 91) rfl (hb hby at_84) rfl (feq hc84_17).2 (by decide) (by decide) ?_
      show Steps p.tables e below (T15.setTop (mkF m 91 #[.val (.int p1), .val (.int p2), .val (.long ((p1.toInt64) - (48 : Int64))), .second, .val (.int (mg0_10_s0 p1)), .val (.int (mg0_34_s0 p1)), .val (.int (p2 &&& (15 : Int32))), .val (.int ((47 : Int32) + (p2 &&& (15 : Int32)))), .val (.int (mg0_60_s0 p2)), .unset] [])) _
      refine XS.iconst X15.here hx rfl (hb hby at_91) ?_
      exact kt
  have pre19 : ∀ t, Steps p.tables e below (T15.setTop (mkF m 96 #[.val (.int p1), .val (.int p2), .val (.long ((p1.toInt64) - (48 : Int64))), .second, .val (.int (mg0_10_s0 p1)), .val (.int (mg0_34_s0 p1)), .val (.int (p2 &&& (15 : Int32))), .val (.int ((47 : Int32) + (p2 &&& (15 : Int32)))), .val (.int (mg0_60_s0 p2)), .val (.int (mg0_84_s0 p2))] [(.int (mg0_34_s0 p1))])) t → Steps p.tables e below (s₁.setTop (entryFrame m #[(.int p1), (.int p2)] maxLocals)) t := by
    intro t kt
    refine pre18 _ ?_
    show Steps p.tables e below (T15.setTop (mkF m 92 #[.val (.int p1), .val (.int p2), .val (.long ((p1.toInt64) - (48 : Int64))), .second, .val (.int (mg0_10_s0 p1)), .val (.int (mg0_34_s0 p1)), .val (.int (p2 &&& (15 : Int32))), .val (.int ((47 : Int32) + (p2 &&& (15 : Int32)))), .val (.int (mg0_60_s0 p2)), .unset] [(.int (mg0_84_s0 p2))])) _
    refine XS.istore X15.here hx rfl (hb hby at_92) rfl (l' := #[.val (.int p1), .val (.int p2), .val (.long ((p1.toInt64) - (48 : Int64))), .second, .val (.int (mg0_10_s0 p1)), .val (.int (mg0_34_s0 p1)), .val (.int (p2 &&& (15 : Int32))), .val (.int ((47 : Int32) + (p2 &&& (15 : Int32)))), .val (.int (mg0_60_s0 p2)), .val (.int (mg0_84_s0 p2))]) rfl ?_
    show Steps p.tables e below (T15.setTop (mkF m 94 #[.val (.int p1), .val (.int p2), .val (.long ((p1.toInt64) - (48 : Int64))), .second, .val (.int (mg0_10_s0 p1)), .val (.int (mg0_34_s0 p1)), .val (.int (p2 &&& (15 : Int32))), .val (.int ((47 : Int32) + (p2 &&& (15 : Int32)))), .val (.int (mg0_60_s0 p2)), .val (.int (mg0_84_s0 p2))] [])) _
    refine XS.iload X15.here hx rfl (hb hby at_94) rfl ?_
    exact kt
  by_cases hc96_20 : (mg0_34_s0 p1) = (0 : Int32)
  · obtain ⟨fs, hr, hrun, hended, hW, hsame⟩ := X15.leave (v := some (.int (0 : Int32))) (fun h => by rw [Bd.returns] at h; cases h)
    refine ⟨_, _, pre19 _ ?_, hrun, hended, _, _, rfl, ?_, ⟨_, rfl⟩, hW, hsame.mono (by decide) (by decide)⟩
    · show Steps p.tables e below (T15.setTop (mkF m 96 #[.val (.int p1), .val (.int p2), .val (.long ((p1.toInt64) - (48 : Int64))), .second, .val (.int (mg0_10_s0 p1)), .val (.int (mg0_34_s0 p1)), .val (.int (p2 &&& (15 : Int32))), .val (.int ((47 : Int32) + (p2 &&& (15 : Int32)))), .val (.int (mg0_60_s0 p2)), .val (.int (mg0_84_s0 p2))] [(.int (mg0_34_s0 p1))])) _
      refine XS.ifYes X15.here hx rfl (pc0 := 96) (pc' := 108) rfl (hb hby at_96) rfl ((if0 _ _).trans (teq hc96_20).1) (by decide) (by decide) ?_
      show Steps p.tables e below (T15.setTop (mkF m 108 #[.val (.int p1), .val (.int p2), .val (.long ((p1.toInt64) - (48 : Int64))), .second, .val (.int (mg0_10_s0 p1)), .val (.int (mg0_34_s0 p1)), .val (.int (p2 &&& (15 : Int32))), .val (.int ((47 : Int32) + (p2 &&& (15 : Int32)))), .val (.int (mg0_60_s0 p2)), .val (.int (mg0_84_s0 p2))] [])) _
      refine XS.iconst X15.here hx rfl (hb hby at_108) ?_
      show Steps p.tables e below (T15.setTop (mkF m 109 #[.val (.int p1), .val (.int p2), .val (.long ((p1.toInt64) - (48 : Int64))), .second, .val (.int (mg0_10_s0 p1)), .val (.int (mg0_34_s0 p1)), .val (.int (p2 &&& (15 : Int32))), .val (.int ((47 : Int32) + (p2 &&& (15 : Int32)))), .val (.int (mg0_60_s0 p2)), .val (.int (mg0_84_s0 p2))] [(.int (0 : Int32))])) _
      exact retN X15 hx (t := .boolean) Bd.returns (by simp) (hb hby at_109) hr
    · show Q0 Z p1 p2 h0 n0 _ T15.heap _
      rw [e15]
      exact ⟨by rw [res0, if_pos hc96_20], N15⟩
  · have pre21 : ∀ t, Steps p.tables e below (T15.setTop (mkF m 101 #[.val (.int p1), .val (.int p2), .val (.long ((p1.toInt64) - (48 : Int64))), .second, .val (.int (mg0_10_s0 p1)), .val (.int (mg0_34_s0 p1)), .val (.int (p2 &&& (15 : Int32))), .val (.int ((47 : Int32) + (p2 &&& (15 : Int32)))), .val (.int (mg0_60_s0 p2)), .val (.int (mg0_84_s0 p2))] [(.int (mg0_84_s0 p2))])) t → Steps p.tables e below (s₁.setTop (entryFrame m #[(.int p1), (.int p2)] maxLocals)) t := by
      intro t kt
      refine pre19 _ ?_
      show Steps p.tables e below (T15.setTop (mkF m 96 #[.val (.int p1), .val (.int p2), .val (.long ((p1.toInt64) - (48 : Int64))), .second, .val (.int (mg0_10_s0 p1)), .val (.int (mg0_34_s0 p1)), .val (.int (p2 &&& (15 : Int32))), .val (.int ((47 : Int32) + (p2 &&& (15 : Int32)))), .val (.int (mg0_60_s0 p2)), .val (.int (mg0_84_s0 p2))] [(.int (mg0_34_s0 p1))])) _
      refine XS.ifNo X15.here hx rfl (hb hby at_96) rfl ((if0 _ _).trans (feq hc96_20).1) ?_
      show Steps p.tables e below (T15.setTop (mkF m 99 #[.val (.int p1), .val (.int p2), .val (.long ((p1.toInt64) - (48 : Int64))), .second, .val (.int (mg0_10_s0 p1)), .val (.int (mg0_34_s0 p1)), .val (.int (p2 &&& (15 : Int32))), .val (.int ((47 : Int32) + (p2 &&& (15 : Int32)))), .val (.int (mg0_60_s0 p2)), .val (.int (mg0_84_s0 p2))] [])) _
      refine XS.iload X15.here hx rfl (hb hby at_99) rfl ?_
      exact kt
    by_cases hc101_22 : (mg0_84_s0 p2) = (0 : Int32)
    · obtain ⟨fs, hr, hrun, hended, hW, hsame⟩ := X15.leave (v := some (.int (0 : Int32))) (fun h => by rw [Bd.returns] at h; cases h)
      refine ⟨_, _, pre21 _ ?_, hrun, hended, _, _, rfl, ?_, ⟨_, rfl⟩, hW, hsame.mono (by decide) (by decide)⟩
      · show Steps p.tables e below (T15.setTop (mkF m 101 #[.val (.int p1), .val (.int p2), .val (.long ((p1.toInt64) - (48 : Int64))), .second, .val (.int (mg0_10_s0 p1)), .val (.int (mg0_34_s0 p1)), .val (.int (p2 &&& (15 : Int32))), .val (.int ((47 : Int32) + (p2 &&& (15 : Int32)))), .val (.int (mg0_60_s0 p2)), .val (.int (mg0_84_s0 p2))] [(.int (mg0_84_s0 p2))])) _
        refine XS.ifYes X15.here hx rfl (pc0 := 101) (pc' := 108) rfl (hb hby at_101) rfl ((if0 _ _).trans (teq hc101_22).1) (by decide) (by decide) ?_
        show Steps p.tables e below (T15.setTop (mkF m 108 #[.val (.int p1), .val (.int p2), .val (.long ((p1.toInt64) - (48 : Int64))), .second, .val (.int (mg0_10_s0 p1)), .val (.int (mg0_34_s0 p1)), .val (.int (p2 &&& (15 : Int32))), .val (.int ((47 : Int32) + (p2 &&& (15 : Int32)))), .val (.int (mg0_60_s0 p2)), .val (.int (mg0_84_s0 p2))] [])) _
        refine XS.iconst X15.here hx rfl (hb hby at_108) ?_
        show Steps p.tables e below (T15.setTop (mkF m 109 #[.val (.int p1), .val (.int p2), .val (.long ((p1.toInt64) - (48 : Int64))), .second, .val (.int (mg0_10_s0 p1)), .val (.int (mg0_34_s0 p1)), .val (.int (p2 &&& (15 : Int32))), .val (.int ((47 : Int32) + (p2 &&& (15 : Int32)))), .val (.int (mg0_60_s0 p2)), .val (.int (mg0_84_s0 p2))] [(.int (0 : Int32))])) _
        exact retN X15 hx (t := .boolean) Bd.returns (by simp) (hb hby at_109) hr
      · show Q0 Z p1 p2 h0 n0 _ T15.heap _
        rw [e15]
        exact ⟨by rw [res0, if_neg hc96_20, if_pos hc101_22], N15⟩
    · obtain ⟨fs, hr, hrun, hended, hW, hsame⟩ := X15.leave (v := some (.int (1 : Int32))) (fun h => by rw [Bd.returns] at h; cases h)
      refine ⟨_, _, pre21 _ ?_, hrun, hended, _, _, rfl, ?_, ⟨_, rfl⟩, hW, hsame.mono (by decide) (by decide)⟩
      · show Steps p.tables e below (T15.setTop (mkF m 101 #[.val (.int p1), .val (.int p2), .val (.long ((p1.toInt64) - (48 : Int64))), .second, .val (.int (mg0_10_s0 p1)), .val (.int (mg0_34_s0 p1)), .val (.int (p2 &&& (15 : Int32))), .val (.int ((47 : Int32) + (p2 &&& (15 : Int32)))), .val (.int (mg0_60_s0 p2)), .val (.int (mg0_84_s0 p2))] [(.int (mg0_84_s0 p2))])) _
        refine XS.ifNo X15.here hx rfl (hb hby at_101) rfl ((if0 _ _).trans (feq hc101_22).1) ?_
        show Steps p.tables e below (T15.setTop (mkF m 104 #[.val (.int p1), .val (.int p2), .val (.long ((p1.toInt64) - (48 : Int64))), .second, .val (.int (mg0_10_s0 p1)), .val (.int (mg0_34_s0 p1)), .val (.int (p2 &&& (15 : Int32))), .val (.int ((47 : Int32) + (p2 &&& (15 : Int32)))), .val (.int (mg0_60_s0 p2)), .val (.int (mg0_84_s0 p2))] [])) _
        refine XS.iconst X15.here hx rfl (hb hby at_104) ?_
        show Steps p.tables e below (T15.setTop (mkF m 105 #[.val (.int p1), .val (.int p2), .val (.long ((p1.toInt64) - (48 : Int64))), .second, .val (.int (mg0_10_s0 p1)), .val (.int (mg0_34_s0 p1)), .val (.int (p2 &&& (15 : Int32))), .val (.int ((47 : Int32) + (p2 &&& (15 : Int32)))), .val (.int (mg0_60_s0 p2)), .val (.int (mg0_84_s0 p2))] [(.int (1 : Int32))])) _
        refine XS.goto X15.here hx rfl (pc0 := 105) (pc' := 109) rfl (hb hby at_105) (by decide) (by decide) ?_
        show Steps p.tables e below (T15.setTop (mkF m 109 #[.val (.int p1), .val (.int p2), .val (.long ((p1.toInt64) - (48 : Int64))), .second, .val (.int (mg0_10_s0 p1)), .val (.int (mg0_34_s0 p1)), .val (.int (p2 &&& (15 : Int32))), .val (.int ((47 : Int32) + (p2 &&& (15 : Int32)))), .val (.int (mg0_60_s0 p2)), .val (.int (mg0_84_s0 p2))] [(.int (1 : Int32))])) _
        exact retN X15 hx (t := .boolean) Bd.returns (by simp) (hb hby at_109) hr
      · show Q0 Z p1 p2 h0 n0 _ T15.heap _
        rw [e15]
        exact ⟨by rw [res0, if_neg hc96_20, if_neg hc101_22], N15⟩
theorem own_a (p1 : Int32) : res1 p1 = mg0_10_s0 p1 := by
  have h1 := c_lsub p1.toInt64 (48 : Int64)
  have h2 := c_i2l p1
  have r1 := rng32 p1
  have r2 := rng64 (p1.toInt64 - (48 : Int64))
  have e1 : (48 : Int64).toInt = 48 := by decide
  have e2 : (9 : Int64).toInt = 9 := by decide
  have e3 : (0 : Int64).toInt = 0 := by decide
  have e4 : (48 : Int32).toInt = 48 := by decide
  have e5 : (57 : Int32).toInt = 57 := by decide
  unfold res1 mg0_10_s0
  simp only [lw_lt, lw_gt]
  simp only [Int32.lt_iff_toInt_lt, Int64.lt_iff_toInt_lt]
  repeat' split
  all_goals first | rfl | omega
theorem own_b (p2 : Int32) : res1 ((47 : Int32) + (p2 &&& (15 : Int32))) = mg0_60_s0 p2 := by
  have e : (p2 &&& (15 : Int32)).toInt = p2.toInt % (2 ^ 4 : Nat) := c_mask p2 _ 4 (by decide) (by decide)
  have h1 := c_iadd (47 : Int32) (p2 &&& (15 : Int32))
  have r2 := rng32 ((47 : Int32) + (p2 &&& (15 : Int32)))
  have e1 : (47 : Int32).toInt = 47 := by decide
  have e2 : (1 : Int32).toInt = 1 := by decide
  have e3 : (10 : Int32).toInt = 10 := by decide
  have e4 : (48 : Int32).toInt = 48 := by decide
  have e5 : (57 : Int32).toInt = 57 := by decide
  unfold res1 mg0_60_s0
  simp only [Int32.lt_iff_toInt_lt]
  repeat' split
  all_goals first | rfl | omega
theorem own_fin (p1 p2 : Int32) : (res0 p1 p2) = 1 := by
  unfold res0 mg0_34_s0 mg0_84_s0
  rw [if_pos (own_a p1), if_pos (own_b p2)]
  decide
set_option maxRecDepth 65536 in
set_option maxHeartbeats 40000000 in
theorem comes_1 {Post : Tables → Env → Array Value → State → Outcome → State → Prop} (hpost : ∀ tb e args s v u, (limb_1_1.after args s (.returned v) u = true ∧ limb_1_2.after args s (.returned v) u = true ∧ True) → FrameEnd s (.returned v) u (Jvm.fieldLocs frame_1_writes args s ++ Jvm.arrayLocs frame_1_arrays args s ++ Jvm.staticLocs frame_1_statics s) 0 0 → Post tb e args s (.returned v) u) :
    ArmFor flags0 classFile x code maxLocals ret World_1 tables_1 room_1 Calls_1 rest_1 Pre_1 Post := by
  intro l hfl _ _ p e ha hc hk s m args below hf hA hF happ hP
  obtain ⟨hcalls, hrest, hpre⟩ := hP
  obtain ⟨-, -, -, hnamed, -, -, -, hat⟩ := (Spec.applies_iff hf).mp happ
  obtain ⟨hg, hn⟩ := and_e (Cond.before_iff.mp (show (Jvm.Cond.and given_1 narrow_1).before args s = true from hpre))
  obtain ⟨ga0, gb0⟩ := and_e hg
  obtain ⟨ga1, gb1⟩ := and_e gb0
  obtain ⟨w0, w1, rfl⟩ : ∃ w0 w1 : Value, args = #[w0, w1] := by
    have hs : args.size = 2 := by simpa [Cond.value, given_1] using ga0
    obtain ⟨L⟩ := args
    match L, hs with
    | [w0, w1], _ => exact ⟨w0, w1, rfl⟩
  have hw := fun d (hd : d ∈ tables_1) => atoms_spec (ws := Jvm.Cond.code x code maxLocals ret :: tables_1) hat d (List.mem_cons_of_mem _ hd)
  have hfit : Fit s := fun {y c} hc i hi => by
    obtain ⟨ha, rfl⟩ := Array.getElem?_eq_some_iff.mp hc
    have q := List.all_eq_true.mp ((Array.all_eq_true_iff_forall_mem.mp hF) _ (Array.getElem_mem ha)) i (List.mem_range.mpr hi)
    simpa [Array.getElem?_eq_getElem hi] using q
  obtain ⟨i0, ei0⟩ := is_v ga1
  obtain rfl : w0 = (.int i0) := Option.some.inj ei0
  obtain ⟨i1, ei1⟩ := is_v gb1
  obtain rfl : w1 = (.int i1) := Option.some.inj ei1
  obtain ⟨n, o, h1, h2, h3, _, L, rfl, ⟨rfl, N⟩, hq⟩ := rm0 l s _ hw tables_1 i0 i1  s.heap s.heap.size (Nat.le_refl _)  p e ha hc hk s m _ below hf ((Spec.applies_iff_loose hf).mp happ).1 ⟨rfl, State.Warmed39.refl s, rfl⟩ trivial
  have hfin : (res0 i0 i1) = (1 : Int32) := own_fin i0 i1
  refine ⟨n, _, h1, h2, h3, hpost _ _ _ _ _ _ ⟨Cond.after_iff.mpr rfl, Cond.after_iff.mpr (eq_i res_at (Term.int_eval (1)) (by rw [hfin])), trivial⟩ ⟨hq.1, hq.2.1, (hq.2.2.sift fun y hy => Or.inr (N y hy)).mono (by decide) (by decide)⟩⟩
theorem main_1_1 : Claimed_1_1 := comes_1 fun _ _ _ _ _ _ h hF => ⟨h.1, hF⟩
theorem main_1_2 : Claimed_1_2 := comes_1 fun _ _ _ _ _ _ h hF => ⟨h.2.1, hF⟩
end Jvm.Pilot.@@N@@
namespace Jvm.Pilot.@@N@@
open Jvm Jvm.ClassFile Sem Op Lib Jvm.Free Jvm.Stand Jvm.Pilot.@@N@@.Jvm.D
/-! MADE BY PROGRAM (witnessworld.py) out of the Statement's table words and the real class files: 9 classes; the members and pool entries that the words name. The judged class is class 1, her method 1. -/
namespace start1
open Jvm.ClassFile
def u (s : String) : CpInfo := .utf8 (stringToUtf16 s)
/-- a pool by its gaps: so many unusable entries, then the entry; so many at the end -/
def gap : Nat → List CpInfo → List CpInfo
  | 0, r => r
  | n + 1, r => .unusable :: gap n r
def poolList (es : List (Nat × CpInfo)) (last : Nat) : List CpInfo := es.foldr (fun e r => gap e.1 (e.2 :: r)) (gap last [])
def pool (es : List (Nat × CpInfo)) (last : Nat) : Array CpInfo := ⟨poolList es last⟩
def fileOf (pool : Array CpInfo) (this : Nat) (attrs : Array Attribute := #[]) (ms : Array MethodInfo := #[]) (fl : Nat := 33) (sup : Nat := 0) (ifs : Array Nat := #[]) (fds : Array FieldInfo := #[]) : ClassFile where
  minorVersion := 0
  majorVersion := 65
  constantPool := pool
  accessFlags := fl
  thisClass := this
  superClass := sup
  interfaces := ifs
  fields := fds
  methods := ms
  attributes := attrs
def plain (name : String) (sup : Option ClassId) : Class where
  name := name
  kind := .ordinary
  loader := none
  accessFlags := 33
  super := sup
  interfaces := #[]
  cf := none
  fields := #[]
  methods := #[]
  instanceTypes := #[]
  staticTypes := #[]
  resolved := #[]
  callSites := []
  init := .initialized
  statics := none
  mirror := none

def pool0 : Array CpInfo := pool [(5, u "<init>"), (0, u "()V"), (1, .class_ 10), (1, u "java/lang/Object")] 113

def k0m0 : Method := { name := "<init>", desc := "()V", sig := { parameters := [], returnType := none }, accessFlags := 1, code := none }
/-- java/lang/Object -/
def k0 : Class := { plain "java/lang/Object" none with
  accessFlags := 33
  interfaces := #[]
  cf := some (fileOf pool0 8 #[] #[{ accessFlags := 1, nameIndex := 5, descriptorIndex := 6, attributes := #[] }] 33 0 #[] #[])
  fields := #[]
  methods := #[k0m0]
  instanceTypes := #[]
  staticTypes := #[]
  resolved := Array.replicate 124 none
  statics := none }

def pool1 : Array CpInfo := pool [(2, .class_ 4), (1, u "java/lang/Object"), (0, u "<init>"), (0, u "()V"), (0, .long 48), (1, .long 9), (1, .methodref 12 13), (0, .class_ 14), (0, .nameAndType 15 16), (0, u "com/example/whereas/whereas/Text"), (0, u "isDigit"), (0, u "(I)Z"), (0, .class_ 18), (0, u "com/example/whereas/whereas/TextIsDigitPinLaw"), (2, u "law"), (0, u "(II)Z")] 3

def k1m0 : Method := { name := "<init>", desc := "()V", sig := { parameters := [], returnType := none }, accessFlags := 2, code := none }
def k1c1 : Code := { maxStack := 4, maxLocals := 10, code := code, exceptionTable := #[], attributes := #[] }
def k1m1 : Method := { name := "law", desc := "(II)Z", sig := { parameters := [.int, .int], returnType := some .boolean }, accessFlags := 9, code := some k1c1 }
/-- com/example/whereas/whereas/TextIsDigitPinLaw -/
def k1 : Class := { plain "com/example/whereas/whereas/TextIsDigitPinLaw" (some 0) with
  accessFlags := 49
  interfaces := #[]
  cf := some (fileOf pool1 17 #[] #[{ accessFlags := 2, nameIndex := 5, descriptorIndex := 6, attributes := #[] }, { accessFlags := 9, nameIndex := 21, descriptorIndex := 22, attributes := #[] }] 49 2 #[] #[])
  fields := #[]
  methods := #[k1m0, k1m1]
  instanceTypes := #[]
  staticTypes := #[]
  resolved := Array.replicate 26 none
  statics := none }

def pool2 : Array CpInfo := pool [(1, .class_ 2), (0, u "com/example/whereas/whereas/Text"), (1, .class_ 6), (1, u "java/lang/Object"), (0, u "<init>"), (0, u "()V"), (62, .class_ 73), (1, u "com/example/whereas/whereas/Text$Abbreviation"), (19, u "PREPOSITIONS"), (0, u "Ljava/util/List;"), (8, u "DETERMINERS"), (0, u "Ljava/util/Set;"), (5, u "CONJUNCTIONS"), (2, u "ENCLOSED"), (0, u "Ljava/util/regex/Pattern;"), (49, u "SIGNERS_LABELS"), (18, u "DESCRIPTION_OPENERS"), (5, u "MINOR_WORDS"), (35, u "isDigit"), (0, u "(I)Z"), (34, u "SENTENCE_OPENERS"), (10, .class_ 273), (0, u "com/example/whereas/whereas/Text$Sentence"), (21, u "INITIALS"), (8, u "NAME_ENDINGS"), (5, u "TITLES"), (2, u "LEAD_INS"), (5, u "TITLES_OR_ADDRESSES"), (4, u "ABBREVIATIONS"), (5, u "TIMES_OF_DAY"), (7, u "NAMED_BY_LETTER"), (324, u "SIGNERS_LINE_READ"), (0, u "I"), (38, u "IRREGULAR_PARTICIPLES"), (12, u "PARTICIPLE"), (0, u "Ljava/lang/String;"), (2, u "SPACE"), (3, u "TYPOGRAPHIC_OPENING"), (0, u "C"), (1, u "OPENING_QUOTES"), (0, u "CLOSING_QUOTES"), (0, u "QUOTATION_MARKS"), (0, u "SENTENCE_ENDS"), (0, u "PARAGRAPH_ENDS"), (0, u "ROW"), (1, u "ELLIPSIS"), (0, u "MOST_CAPTION"), (1, u "MOST_SIGNERS_LINE"), (1, u "CLOSING_MARKS"), (0, u "IN_BRACKETS"), (2, u "IN_PARENTHESES"), (4, u "CONFORMED_SIGNATURE"), (37, .class_ 787), (0, u "com/example/whereas/whereas/Text$Stretch")] 34

def k2m0 : Method := { name := "<init>", desc := "()V", sig := { parameters := [], returnType := none }, accessFlags := 2, code := none }
def k2c1 : Code := { maxStack := 2, maxLocals := 1, code := prog_107_method_60_code, exceptionTable := #[], attributes := #[] }
def k2m1 : Method := { name := "isDigit", desc := "(I)Z", sig := { parameters := [.int], returnType := some .boolean }, accessFlags := 8, code := some k2c1 }
/-- com/example/whereas/whereas/Text -/
def k2 : Class := { plain "com/example/whereas/whereas/Text" (some 0) with
  accessFlags := 48
  interfaces := #[]
  cf := some (fileOf pool2 1 #[.nestMembers #[272, 786, 71]] #[{ accessFlags := 2, nameIndex := 7, descriptorIndex := 8, attributes := #[] }, { accessFlags := 8, nameIndex := 225, descriptorIndex := 226, attributes := #[] }] 48 4 #[] #[{ accessFlags := 24, nameIndex := 720, descriptorIndex := 717, attributes := #[] }, { accessFlags := 26, nameIndex := 724, descriptorIndex := 725, attributes := #[] }, { accessFlags := 26, nameIndex := 727, descriptorIndex := 717, attributes := #[] }, { accessFlags := 26, nameIndex := 728, descriptorIndex := 717, attributes := #[] }, { accessFlags := 26, nameIndex := 729, descriptorIndex := 717, attributes := #[] }, { accessFlags := 26, nameIndex := 730, descriptorIndex := 717, attributes := #[] }, { accessFlags := 24, nameIndex := 731, descriptorIndex := 717, attributes := #[] }, { accessFlags := 26, nameIndex := 732, descriptorIndex := 664, attributes := #[] }, { accessFlags := 26, nameIndex := 734, descriptorIndex := 664, attributes := #[] }, { accessFlags := 26, nameIndex := 735, descriptorIndex := 664, attributes := #[] }, { accessFlags := 26, nameIndex := 737, descriptorIndex := 664, attributes := #[] }, { accessFlags := 26, nameIndex := 739, descriptorIndex := 717, attributes := #[] }, { accessFlags := 24, nameIndex := 740, descriptorIndex := 717, attributes := #[] }, { accessFlags := 24, nameIndex := 743, descriptorIndex := 717, attributes := #[] }, { accessFlags := 26, nameIndex := 113, descriptorIndex := 114, attributes := #[] }, { accessFlags := 26, nameIndex := 304, descriptorIndex := 104, attributes := #[] }, { accessFlags := 26, nameIndex := 310, descriptorIndex := 104, attributes := #[] }, { accessFlags := 26, nameIndex := 319, descriptorIndex := 104, attributes := #[] }, { accessFlags := 26, nameIndex := 324, descriptorIndex := 104, attributes := #[] }, { accessFlags := 26, nameIndex := 261, descriptorIndex := 104, attributes := #[] }, { accessFlags := 26, nameIndex := 338, descriptorIndex := 104, attributes := #[] }, { accessFlags := 26, nameIndex := 313, descriptorIndex := 104, attributes := #[] }, { accessFlags := 26, nameIndex := 295, descriptorIndex := 114, attributes := #[] }, { accessFlags := 26, nameIndex := 330, descriptorIndex := 104, attributes := #[] }, { accessFlags := 24, nameIndex := 189, descriptorIndex := 104, attributes := #[] }, { accessFlags := 24, nameIndex := 164, descriptorIndex := 104, attributes := #[] }, { accessFlags := 26, nameIndex := 183, descriptorIndex := 104, attributes := #[] }, { accessFlags := 26, nameIndex := 748, descriptorIndex := 717, attributes := #[] }, { accessFlags := 24, nameIndex := 663, descriptorIndex := 664, attributes := #[] }, { accessFlags := 24, nameIndex := 93, descriptorIndex := 94, attributes := #[] }, { accessFlags := 24, nameIndex := 103, descriptorIndex := 104, attributes := #[] }, { accessFlags := 26, nameIndex := 703, descriptorIndex := 94, attributes := #[] }, { accessFlags := 24, nameIndex := 716, descriptorIndex := 717, attributes := #[] }, { accessFlags := 26, nameIndex := 110, descriptorIndex := 104, attributes := #[] }])
  fields := #[{ name := "SPACE", type := (.object "java/lang/String"), accessFlags := 24, slot := 0, constantValue := 0 }, { name := "TYPOGRAPHIC_OPENING", type := .char, accessFlags := 26, slot := 1, constantValue := 0 }, { name := "OPENING_QUOTES", type := (.object "java/lang/String"), accessFlags := 26, slot := 2, constantValue := 0 }, { name := "CLOSING_QUOTES", type := (.object "java/lang/String"), accessFlags := 26, slot := 3, constantValue := 0 }, { name := "QUOTATION_MARKS", type := (.object "java/lang/String"), accessFlags := 26, slot := 4, constantValue := 0 }, { name := "SENTENCE_ENDS", type := (.object "java/lang/String"), accessFlags := 26, slot := 5, constantValue := 0 }, { name := "PARAGRAPH_ENDS", type := (.object "java/lang/String"), accessFlags := 24, slot := 6, constantValue := 0 }, { name := "ROW", type := .int, accessFlags := 26, slot := 7, constantValue := 0 }, { name := "ELLIPSIS", type := .int, accessFlags := 26, slot := 8, constantValue := 0 }, { name := "MOST_CAPTION", type := .int, accessFlags := 26, slot := 9, constantValue := 0 }, { name := "MOST_SIGNERS_LINE", type := .int, accessFlags := 26, slot := 10, constantValue := 0 }, { name := "CLOSING_MARKS", type := (.object "java/lang/String"), accessFlags := 26, slot := 11, constantValue := 0 }, { name := "IN_BRACKETS", type := (.object "java/lang/String"), accessFlags := 24, slot := 12, constantValue := 0 }, { name := "IN_PARENTHESES", type := (.object "java/lang/String"), accessFlags := 24, slot := 13, constantValue := 0 }, { name := "ENCLOSED", type := (.object "java/util/regex/Pattern"), accessFlags := 26, slot := 14, constantValue := 0 }, { name := "NAME_ENDINGS", type := (.object "java/util/Set"), accessFlags := 26, slot := 15, constantValue := 0 }, { name := "TITLES", type := (.object "java/util/Set"), accessFlags := 26, slot := 16, constantValue := 0 }, { name := "TITLES_OR_ADDRESSES", type := (.object "java/util/Set"), accessFlags := 26, slot := 17, constantValue := 0 }, { name := "ABBREVIATIONS", type := (.object "java/util/Set"), accessFlags := 26, slot := 18, constantValue := 0 }, { name := "SENTENCE_OPENERS", type := (.object "java/util/Set"), accessFlags := 26, slot := 19, constantValue := 0 }, { name := "NAMED_BY_LETTER", type := (.object "java/util/Set"), accessFlags := 26, slot := 20, constantValue := 0 }, { name := "LEAD_INS", type := (.object "java/util/Set"), accessFlags := 26, slot := 21, constantValue := 0 }, { name := "INITIALS", type := (.object "java/util/regex/Pattern"), accessFlags := 26, slot := 22, constantValue := 0 }, { name := "TIMES_OF_DAY", type := (.object "java/util/Set"), accessFlags := 26, slot := 23, constantValue := 0 }, { name := "MINOR_WORDS", type := (.object "java/util/Set"), accessFlags := 24, slot := 24, constantValue := 0 }, { name := "SIGNERS_LABELS", type := (.object "java/util/Set"), accessFlags := 24, slot := 25, constantValue := 0 }, { name := "DESCRIPTION_OPENERS", type := (.object "java/util/Set"), accessFlags := 26, slot := 26, constantValue := 0 }, { name := "CONFORMED_SIGNATURE", type := (.object "java/lang/String"), accessFlags := 26, slot := 27, constantValue := 0 }, { name := "SIGNERS_LINE_READ", type := .int, accessFlags := 24, slot := 28, constantValue := 0 }, { name := "PREPOSITIONS", type := (.object "java/util/List"), accessFlags := 24, slot := 29, constantValue := 0 }, { name := "DETERMINERS", type := (.object "java/util/Set"), accessFlags := 24, slot := 30, constantValue := 0 }, { name := "IRREGULAR_PARTICIPLES", type := (.object "java/util/List"), accessFlags := 26, slot := 31, constantValue := 0 }, { name := "PARTICIPLE", type := (.object "java/lang/String"), accessFlags := 24, slot := 32, constantValue := 0 }, { name := "CONJUNCTIONS", type := (.object "java/util/Set"), accessFlags := 26, slot := 33, constantValue := 0 }]
  methods := #[k2m0, k2m1]
  instanceTypes := #[]
  staticTypes := #[(.object "java/lang/String"), .char, (.object "java/lang/String"), (.object "java/lang/String"), (.object "java/lang/String"), (.object "java/lang/String"), (.object "java/lang/String"), .int, .int, .int, .int, (.object "java/lang/String"), (.object "java/lang/String"), (.object "java/lang/String"), (.object "java/util/regex/Pattern"), (.object "java/util/Set"), (.object "java/util/Set"), (.object "java/util/Set"), (.object "java/util/Set"), (.object "java/util/Set"), (.object "java/util/Set"), (.object "java/util/Set"), (.object "java/util/regex/Pattern"), (.object "java/util/Set"), (.object "java/util/Set"), (.object "java/util/Set"), (.object "java/util/Set"), (.object "java/lang/String"), .int, (.object "java/util/List"), (.object "java/util/Set"), (.object "java/util/List"), (.object "java/lang/String"), (.object "java/util/Set")]
  resolved := Array.replicate 822 none
  statics := none }

def pool3 : Array CpInfo := pool [(1, u "java/lang/Cloneable"), (0, .class_ 1), (0, u "java/lang/Object"), (0, .class_ 3)] 3

/-- java/lang/Cloneable -/
def k3 : Class := { plain "java/lang/Cloneable" (some 0) with
  accessFlags := 1537
  interfaces := #[]
  cf := some (fileOf pool3 2 #[] #[] 1537 4 #[] #[])
  fields := #[]
  methods := #[]
  instanceTypes := #[]
  staticTypes := #[]
  resolved := Array.replicate 8 none
  statics := none }

def pool4 : Array CpInfo := pool [(1, u "java/io/Serializable"), (0, .class_ 1), (0, u "java/lang/Object"), (0, .class_ 3)] 3

/-- java/io/Serializable -/
def k4 : Class := { plain "java/io/Serializable" (some 0) with
  accessFlags := 1537
  interfaces := #[]
  cf := some (fileOf pool4 2 #[] #[] 1537 4 #[] #[])
  fields := #[]
  methods := #[]
  instanceTypes := #[]
  staticTypes := #[]
  resolved := Array.replicate 8 none
  statics := none }

/-- the primitive byte -/
def k5 : Class := { plain "byte" none with kind := .primitive 'B', accessFlags := 0x411 }
/-- [B -/
def k6 : Class := { plain "[B" (some 0) with kind := .array 5 .byte, interfaces := #[3, 4], accessFlags := 1041 }

/-- the primitive int -/
def k7 : Class := { plain "int" none with kind := .primitive 'I', accessFlags := 0x411 }
/-- [I -/
def k8 : Class := { plain "[I" (some 0) with kind := .array 7 .int, interfaces := #[3, 4], accessFlags := 1041 }

def heap : Heap := #[]
def classes : Array Class := #[k0, k1, k2, k3, k4, k5, k6, k7, k8]
def interned : List (Array UInt16 × Addr) := []
def slotsUsed : Nat := 0
def theMethod : MethodId := ⟨1, 1⟩
def args0 : Array Value := #[.int 5, .int 300]
def aboutOver (below : List Frame) : State where
  vm := { classes := classes, interned := interned.toArray }
  heap := heap
  slotsUsed := slotsUsed
  threads := #[{ frames := .invoking theMethod args0 :: below }]
def below0 : List Frame := [.native { method := ⟨0, 0⟩, args := #[] }]
def about1 : State := aboutOver below0
def p0 : Program := .bare "" "" ""
def e0 : Env := launch0.env 0 0 0
theorem w_frames : about1.frames = Frame.invoking theMethod args0 :: below0 := rfl
set_option maxRecDepth 65536 in
theorem w_args : argsFit about1.vm theMethod args0 = true := by decide +kernel
set_option maxRecDepth 65536 in
theorem w_heap : heapFits about1 = true := by decide +kernel
set_option maxRecDepth 65536 in
theorem w_runnable : about1.curStatus? = some .runnable := by decide +kernel
set_option maxRecDepth 65536 in
theorem w_alone : about1.alone = true := by decide +kernel
set_option maxRecDepth 65536 in
theorem w_named : about1.methodNamed? x = some theMethod := by decide +kernel
set_option maxRecDepth 65536 in
theorem w_hears : about1.hears theMethod below0 = true := by decide +kernel
set_option maxRecDepth 65536 in
theorem w_ripe : about1.ripe theMethod args0 below0 = true := by decide +kernel
theorem w_running : about1.status = .running := rfl
set_option maxRecDepth 65536 in
theorem w_room : about1.hasRoom e0.platform room_1 = true :=
  launch0.hasRoom_least _ room_1 (by decide +kernel) (by decide +kernel) (by decide +kernel) (by decide +kernel) (by decide +kernel) (by decide +kernel)
theorem allAtoms_all (ts : List Jvm.Cond) (a : Array Jvm.Value) (st : Jvm.State) : (allAtoms ts).before a st = ts.all (fun c => c.before a st) := by
  induction ts with
  | nil => rfl
  | cons c t ih =>
    show (Jvm.Cond.and c (allAtoms t)).before a st = _
    rw [Jvm.Cond.before_and, ih, List.all_cons]
def words1 : List Jvm.Cond := Jvm.Cond.code x code maxLocals ret :: tables_1
/-- a 'code' word, met by the world's own term for the bytes: nothing is compared byte by byte -/
theorem code_word {y : MethodName} {bytes : ByteArray} {mx : Nat} {rt : Option FieldType} {a : Array Value} {s : State} {m : MethodId} {meth : Method} {c : Code} (h1 : s.methodNamed? y = some m) (h2 : s.vm.method? m = some meth) (h3 : meth.code = some c) (h4 : c.code = bytes)
    (h5 : (c.maxLocals == mx && c.exceptionTable.isEmpty && decide (c.maxStack ≤ mostOperands) && decide (meth.sig.returnType = rt) && !meth.locks && decide (parseMethodDescriptor y.desc = some meth.sig)) = true) : (Jvm.Cond.code y bytes mx rt).before a s = true := by
  simp only [Bool.and_eq_true, beq_iff_eq, Bool.not_eq_true', decide_eq_true_eq] at h5
  obtain ⟨⟨⟨⟨⟨g1, g2⟩, g3⟩, g4⟩, g5⟩, g6⟩ := h5
  simp [Cond.before, Cond.holds, Cond.value, h1, h2, h3, h4, g1, g2, g3, g4, g5, g6]
def isCode : Jvm.Cond → Bool
  | .code _ _ _ _ => true
  | _ => false
theorem all_split {L : List Jvm.Cond} {P : Jvm.Cond → Bool} (h1 : L.all (fun c => isCode c || P c) = true) (h2 : ∀ c ∈ L.filter isCode, P c = true) : L.all P = true := by
  refine List.all_eq_true.mpr fun c hc => ?_
  have h := List.all_eq_true.mp h1 c hc
  rcases Bool.eq_false_or_eq_true (isCode c) with hi | hi
  · exact h2 c (List.mem_filter.mpr ⟨hc, hi⟩)
  · simpa [hi] using h
set_option maxRecDepth 65536 in
theorem w_c0 : (Jvm.Cond.code x code maxLocals ret).before args0 about1 = true := code_word (m := ⟨1, 1⟩) (meth := k1m1) (c := k1c1) (by decide +kernel) rfl rfl rfl (by decide +kernel)
set_option maxRecDepth 65536 in
theorem w_c1 : (Jvm.Cond.code ({ cls := "com/example/whereas/whereas/Text", name := "isDigit", desc := "(I)Z" } : Jvm.MethodName) prog_107_method_60_code (1 : Nat) (Option.some Jvm.ClassFile.FieldType.boolean)).before args0 about1 = true := code_word (m := ⟨2, 1⟩) (meth := k2m1) (c := k2c1) (by decide +kernel) rfl rfl rfl (by decide +kernel)
def codes1 : List Jvm.Cond := [Jvm.Cond.code x code maxLocals ret, Jvm.Cond.code ({ cls := "com/example/whereas/whereas/Text", name := "isDigit", desc := "(I)Z" } : Jvm.MethodName) prog_107_method_60_code (1 : Nat) (Option.some Jvm.ClassFile.FieldType.boolean)]
set_option maxRecDepth 65536 in
theorem codes_eq : words1.filter isCode = codes1 := rfl
theorem w_codes : ∀ c ∈ words1.filter isCode, c.before args0 about1 = true := by
  rw [codes_eq]
  intro c hc
  simp only [codes1, List.mem_cons, List.not_mem_nil, or_false] at hc
  rcases hc with rfl | rfl
  · exact w_c0
  · exact w_c1
set_option maxRecDepth 65536 in
theorem w_t1 : words1.all (fun c => isCode c || c.before args0 about1) = true := by decide +kernel
theorem w_tables : (allAtoms (Jvm.Cond.code x code maxLocals ret :: tables_1)).before args0 about1 = true := by
  rw [allAtoms_all]
  show words1.all (fun c => c.before args0 about1) = true
  refine all_split ?_ w_codes
  rw [w_t1]
set_option maxRecDepth 65536 in
theorem w_case : (Jvm.Cond.and given_1 narrow_1).before args0 about1 = true := by decide +kernel
theorem w_applies : (headSpec (Jvm.Cond.code x code maxLocals ret :: tables_1) room_1).applies x e0.platform about1 = true :=
  (Spec.applies_iff w_frames).mpr ⟨w_running, w_runnable, w_alone, w_named, w_hears, w_ripe, w_room, w_tables⟩
theorem atStart : AtStart classFile x code maxLocals ret World_1 tables_1 room_1 Calls_1 rest_1 Pre_1 launch0 p0 e0 about1 theMethod args0 below0 :=
  ⟨lists_1, trivial, launch0.admits_env _ _ _, launch0.least_env, fairChoices_fair.cas, fairChoices_fair.clock, w_frames, w_args, w_heap, w_applies, trivial, trivial, w_case⟩
end start1
theorem witness_1 : WitnessClaimed_1 := ⟨start1.p0, start1.e0, start1.about1, start1.theMethod, start1.args0, start1.below0, start1.atStart⟩
end Jvm.Pilot.@@N@@
