import JvmDerived
import JvmDerived.Pilot.@@N@@Statement
import JvmDerived.Pilot.@@N@@Code
set_option linter.unusedVariables false
set_option linter.unusedSimpArgs false
namespace Jvm.RoadKit
open Sem ClassFile Op Lib Jvm.Stand Jvm.Free Jvm.LawKit
section New
variable {p : Program} {l : Launch} {e : Env} {R : Room} {s : State} {m : MethodId} {args : Array Value} {below : List Frame} {meth : Method} {c : Code} {T : State} {locs : List Loc} {cells slots : Nat}
theorem retI (X : Stand p l e R s m args below meth c T locs cells slots) (hx : p.tables.exec = Jvm.exec) {pc : Nat} {Ls : Array Slot} {z : Int32} {rest : List Value} (hret : meth.sig.returnType = some .int) (hd : decode c.code pc = .ok (.ireturn, 1)) {fs : List Frame}
    (hl : ∀ (f : JFrame) (acts : List Action), f.method = m → f.locked = none → f.entered = [] → (doReturn e (T.setTop f) acts (some (.int z))).1 = T.setFrames fs) : Steps p.tables e below (T.setTop (mkF m pc Ls (.int z :: rest))) (T.setFrames fs) := by
  have hm' : T.vm.method? m = some meth := X.method'
  have hn : narrow .int (.int z) = .int z := rfl
  show Steps p.tables e below (T.setTop { method := m, pc := pc, locals := Ls, stack := _ :: rest, locked := none }) _
  jvm_step X.here [X.here.top, hx, hd, hm', hret, hn]
  first | (intro acts; rw [hl _ acts rfl rfl rfl]) | rw [hl _ _ rfl rfl rfl]
  exact Steps.refl _
end New
theorem own_sta_keep {Z : State} {h h' : Heap} {C n d : String} {w : Value} {ws : List Addr} (F : Sta Z h C n d w) (K : Keep h h' ws) (q : ∀ x ∈ ws, ∃ c : Cell, h[x]? = some c ∧ c.vm.isStatics = false) : Sta Z h' C n d w := by
  obtain ⟨cf, i, k, f, st, cell, h1, h2, h3, h4, h5, h6, h7⟩ := F
  refine ⟨cf, i, k, f, st, cell, h1, h2, h3, h4, K.2.1 st cell h5 (fun hm => ?_), h6, h7⟩
  obtain ⟨c, g1, g2⟩ := q st hm
  cases h5.symm.trans g1
  rw [h6] at g2; cases g2
theorem own_exa_ns {Z : State} {h : Heap} {a : Addr} {C : String} (F : Exa Z h a C) : ∃ c : Cell, h[a]? = some c ∧ c.vm.isStatics = false := by
  obtain ⟨cell, k, h1, -, -, h4, -⟩ := F
  exact ⟨cell, h1, h4⟩
theorem own_arv_ns {Z : State} {h : Heap} {a : Addr} {k : ClassId} {ty : FieldType} {z : Int32} {vs : List Value} {d : Value} (F : Arv Z h a k ty z vs d) : ∃ c : Cell, h[a]? = some c ∧ c.vm.isStatics = false := by
  obtain ⟨cell, A, -⟩ := F
  exact ⟨cell, A.1, A.plain⟩
theorem own_arv {Z : State} {h : Heap} {a : Addr} {k : ClassId} {ty : FieldType} {z : Int32} {vs : List Value} {d : Value} (F : Arh Z h a k ty z [] vs d) : Arv Z h a k ty z vs d := F
theorem own_eqv {Z : State} {args : Array Value} {t u : Term} {v : Value} (hv : (∃ k, v = .int k) ∨ ∃ a, v = .ref a) (hu : u.eval args Z none [] Z = some v) (h : (Jvm.Cond.eq t u).value args Z none Z [] = some true) : t.eval args Z none [] Z = some v := by
  simp only [Jvm.Cond.value, hu] at h
  cases ht : t.eval args Z none [] Z with
  | none => simp [ht] at h
  | some x => rcases hv with ⟨k, rfl⟩ | ⟨a, rfl⟩ <;> cases x <;> simp [ht] at h ⊢ <;> exact h
theorem own_len {Z : State} {args : Array Value} {t : Term} {a : Addr} {cl : Cell} {ty : FieldType} {z : Int32} (ev : t.eval args Z none [] Z = some (.ref a)) (A : Arr Z Z.heap a cl ty) (h : (Term.length t).eval args Z none [] Z = some (.int z)) : cl.slots.size < 2 ^ 31 ∧ cl.slots.size.toInt32 = z := by
  obtain ⟨a', cell, ha', hat, hv⟩ := Term.length_spec h
  cases ev.symm.trans ha'
  cases A.1.symm.trans (State.arrayAt?_spec hat).1
  cases hv
  refine ⟨?_, rfl⟩
  by_cases q : cl.slots.size < 2 ^ 31
  · exact q
  · exfalso
    simp [Term.eval, ev, hat, q] at h
theorem own_cut {G : Prop} {Q : Prop → Prop} (h1 : Q G) (h2 : Q G → G) : G := h2 h1
theorem own_smono {p : Program} {l : Launch} {e : Env} {R : Room} {s : State} {m : MethodId} {args : Array Value} {below : List Frame} {meth : Method} {c : Code} {T : State} {locs : List Loc} {cells slots cells' slots' : Nat} (X : Stand p l e R s m args below meth c T locs cells slots) (hc : cells ≤ cells') (hs : slots ≤ slots') : Stand p l e R s m args below meth c T locs cells' slots' :=
  { X with same := X.same.mono hc hs }
end Jvm.RoadKit
namespace Jvm.RoadKit
open Sem ClassFile Op Lib Jvm.Stand Jvm.Free Jvm.LawKit
section Dbl
variable {tb : Tables} [Ours tb] {e : Env} {below : List Frame} {T target : State} {m : MethodId} {c : Code} {g : JFrame}
theorem own_i2d (h : At T m c below) (hx : tb.exec = Jvm.exec) (hg : g.method = m) {x : Int32} {rest : List Value} (hd : decode c.code g.pc = .ok (.i2d, 1)) (hs : g.stack = .int x :: rest)
    (hr : Steps tb e below (T.setTop { g with pc := g.pc + 1, stack := .double (FP.i2d x) :: rest }) target) : Steps tb e below (T.setTop g) target := by
  subst hg
  jvm_step h [h.top, hx, hd, hs]
  exact hr
theorem own_l2d (h : At T m c below) (hx : tb.exec = Jvm.exec) (hg : g.method = m) {x : Int64} {rest : List Value} (hd : decode c.code g.pc = .ok (.l2d, 1)) (hs : g.stack = .long x :: rest)
    (hr : Steps tb e below (T.setTop { g with pc := g.pc + 1, stack := .double (FP.l2d x) :: rest }) target) : Steps tb e below (T.setTop g) target := by
  subst hg
  jvm_step h [h.top, hx, hd, hs]
  exact hr
theorem own_dadd (h : At T m c below) (hx : tb.exec = Jvm.exec) (hg : g.method = m) {x y : UInt64} {rest : List Value} (hd : decode c.code g.pc = .ok (.dadd, 1)) (hs : g.stack = .double y :: .double x :: rest) (hn : FP.dadd x y &&& 0x7fffffffffffffff ≤ 0x7ff0000000000000)
    (hr : Steps tb e below (T.setTop { g with pc := g.pc + 1, stack := .double (FP.dadd x y) :: rest }) target) : Steps tb e below (T.setTop g) target := by
  subst hg
  jvm_step h [h.top, hx, hd, hs, dadd.sem, anyNaN64, hn]
  exact hr
theorem own_dmul (h : At T m c below) (hx : tb.exec = Jvm.exec) (hg : g.method = m) {x y : UInt64} {rest : List Value} (hd : decode c.code g.pc = .ok (.dmul, 1)) (hs : g.stack = .double y :: .double x :: rest) (hn : FP.dmul x y &&& 0x7fffffffffffffff ≤ 0x7ff0000000000000)
    (hr : Steps tb e below (T.setTop { g with pc := g.pc + 1, stack := .double (FP.dmul x y) :: rest }) target) : Steps tb e below (T.setTop g) target := by
  subst hg
  jvm_step h [h.top, hx, hd, hs, dmul.sem, anyNaN64, hn]
  exact hr
theorem own_ddiv (h : At T m c below) (hx : tb.exec = Jvm.exec) (hg : g.method = m) {x y : UInt64} {rest : List Value} (hd : decode c.code g.pc = .ok (.ddiv, 1)) (hs : g.stack = .double y :: .double x :: rest) (hn : FP.ddiv x y &&& 0x7fffffffffffffff ≤ 0x7ff0000000000000)
    (hr : Steps tb e below (T.setTop { g with pc := g.pc + 1, stack := .double (FP.ddiv x y) :: rest }) target) : Steps tb e below (T.setTop g) target := by
  subst hg
  jvm_step h [h.top, hx, hd, hs, ddiv.sem, anyNaN64, hn]
  exact hr
theorem own_dcmp (h : At T m c below) (hx : tb.exec = Jvm.exec) (hg : g.method = m) {x y : UInt64} {op : CmpOp} {rest : List Value} (hd : decode c.code g.pc = .ok (.dcmp op, 1)) (hs : g.stack = .double y :: .double x :: rest)
    (hr : Steps tb e below (T.setTop { g with pc := g.pc + 1, stack := .int (cmpValue (FP.dcmp x y) op) :: rest }) target) : Steps tb e below (T.setTop g) target := by
  subst hg
  jvm_step h [h.top, hx, hd, hs]
  exact hr
theorem own_dconst0 (h : At T m c below) (hx : tb.exec = Jvm.exec) (hg : g.method = m) (hd : decode c.code g.pc = .ok (.dconst 0, 1))
    (hr : Steps tb e below (T.setTop { g with pc := g.pc + 1, stack := .double (0 : UInt64) :: g.stack }) target) : Steps tb e below (T.setTop g) target := by
  subst hg
  jvm_step h [h.top, hx, hd]
  exact hr
theorem own_dload (h : At T m c below) (hx : tb.exec = Jvm.exec) (hg : g.method = m) {k : Nat} {v : UInt64} (hd : decode c.code g.pc = .ok (.dload k, 2)) (hl : g.locals[k]? = some (.val (.double v)))
    (hr : Steps tb e below (T.setTop { g with pc := g.pc + 2, stack := .double v :: g.stack }) target) : Steps tb e below (T.setTop g) target := by
  subst hg
  jvm_step h [h.top, hx, hd, hl]
  exact hr
theorem own_dloadN (h : At T m c below) (hx : tb.exec = Jvm.exec) (hg : g.method = m) {k : Fin 4} {v : UInt64} (hd : decode c.code g.pc = .ok (.dload_n k, 1)) (hl : g.locals[k.val]? = some (.val (.double v)))
    (hr : Steps tb e below (T.setTop { g with pc := g.pc + 1, stack := .double v :: g.stack }) target) : Steps tb e below (T.setTop g) target := by
  subst hg
  jvm_step h [h.top, hx, hd, hl]
  exact hr
theorem own_dstore (h : At T m c below) (hx : tb.exec = Jvm.exec) (hg : g.method = m) {k : Nat} {x : UInt64} {rest : List Value} {l' : Array Slot} (hd : decode c.code g.pc = .ok (.dstore k, 2)) (hs : g.stack = .double x :: rest) (hl : storeLocals g.locals k (.double x) = some l')
    (hr : Steps tb e below (T.setTop { g with pc := g.pc + 2, stack := rest, locals := l' }) target) : Steps tb e below (T.setTop g) target := by
  subst hg
  jvm_step h [h.top, hx, hd, hs, hl]
  exact hr
theorem own_dup2 (h : At T m c below) (hx : tb.exec = Jvm.exec) (hg : g.method = m) {x y : Value} {rest : List Value} (hd : decode c.code g.pc = .ok (.dup2, 1)) (hs : g.stack = x :: y :: rest) (c1 : x.category = 1) (c2 : y.category = 1)
    (hr : Steps tb e below (T.setTop { g with pc := g.pc + 1, stack := x :: y :: x :: y :: rest }) target) : Steps tb e below (T.setTop g) target := by
  subst hg
  jvm_step h [h.top, hx, hd, hs, c1, c2]
  exact hr
end Dbl
end Jvm.RoadKit
namespace Jvm.Pilot.@@N@@
open Jvm Jvm.ClassFile Sem Op Lib Jvm.Free Jvm.Stand Jvm.LawKit Jvm.RoadKit Bundle Jvm.Pilot.@@N@@.Jvm.D
def own_pair (r : Int32) (x y : Value) : List Value := if r = (0 : Int32) then [x, y] else [y, x]
theorem d5_0 : decode prog_58_method_9_code 0 = .ok (.iconst 0, 1) := by decide +kernel
theorem d5_1 : decode prog_58_method_9_code 1 = .ok (.istore_n 2, 1) := by decide +kernel
theorem d5_2 : decode prog_58_method_9_code 2 = .ok (.iload_n 2, 1) := by decide +kernel
theorem d5_3 : decode prog_58_method_9_code 3 = .ok (.aload_n 0, 1) := by decide +kernel
theorem d5_4 : decode prog_58_method_9_code 4 = .ok (.arraylength, 1) := by decide +kernel
theorem d5_5 : decode prog_58_method_9_code 5 = .ok (.if_icmp .ge 18, 3) := by decide +kernel
theorem d5_23 : decode prog_58_method_9_code 23 = .ok (.iload_n 2, 1) := by decide +kernel
theorem d5_24 : decode prog_58_method_9_code 24 = .ok (.aload_n 0, 1) := by decide +kernel
theorem d5_25 : decode prog_58_method_9_code 25 = .ok (.arraylength, 1) := by decide +kernel
theorem d5_26 : decode prog_58_method_9_code 26 = .ok (.if_icmp .ge 16, 3) := by decide +kernel
theorem d5_42 : decode prog_58_method_9_code 42 = .ok (.iload_n 2, 1) := by decide +kernel
theorem d5_43 : decode prog_58_method_9_code 43 = .ok (.ineg, 1) := by decide +kernel
theorem d5_44 : decode prog_58_method_9_code 44 = .ok (.iconst 1, 1) := by decide +kernel
theorem d5_45 : decode prog_58_method_9_code 45 = .ok (.isub, 1) := by decide +kernel
theorem d5_46 : decode prog_58_method_9_code 46 = .ok (.ireturn, 1) := by decide +kernel
theorem pn0 : plainName "com/example/chartlight/chartlight/label/WeightRows" = true := by first | (simp [plainName, overriddenIn]; done) | decide +kernel
theorem ef_fnd_0a (m : MethodId) (a1 : Addr) (p2 : Int32) : entryFrame m #[(.ref a1), (.int p2)] 3 = (mkF m 0 #[.val (.ref a1), .val (.int p2), .unset] []) := by first | (simp [entryFrame, mkF, argsToLocals, Value.category]; done) | rfl
def Q_fnd_0a (Z : State) (a1 : Addr) (p2 : Int32) (ka : ClassId) (h0 : Heap) (n0 : Nat) (v : Option Value) (h : Heap) (L : List Loc) : Prop := v = some (.int (-1 : Int32)) ∧ L = [] ∧ h = h0
set_option maxRecDepth 65536 in
set_option maxHeartbeats 40000000 in
theorem rm_fnd_0a (l : Launch) (Z : State) (a0 : Array Value) (hw : ∀ d ∈ tables_1, d.before a0 Z = true) (ws : List Jvm.Cond) (a1 : Addr) (p2 : Int32) (ka : ClassId) (h0 : Heap) (n0 : Nat) (Z0 : n0 ≤ h0.size) (V_a1 : Arv Z h0 a1 ka .long (0 : Int32) [] (.long (0 : Int64))) :
    MetFree l (⟨"com/example/chartlight/chartlight/label/WeightRows", "find", "([JI)I"⟩ : MethodName) (head1 (Jvm.Cond.code (⟨"com/example/chartlight/chartlight/label/WeightRows", "find", "([JI)I"⟩ : MethodName) prog_58_method_9_code 3 (some .int) :: ws) ({ frames := 0, cells := 0, slots := 0, locals := 0 } : Room)) (fun a U => a = #[(.ref a1), (.int p2)] ∧ Z.Warmed39 U.vm ∧ U.heap = h0) (fun _ _ _ _ _ => True) (fun _ U o U' => ∃ v L, o = .returned v ∧ Q_fnd_0a Z a1 p2 ka h0 n0 v U'.heap L ∧ FrameEnd U o U' L ({ frames := 0, cells := 0, slots := 0, locals := 0 } : Room).cells ({ frames := 0, cells := 0, slots := 0, locals := 0 } : Room).slots) := by
  refine MetFree.of_bodySF (plainFor_of_name pn0) hisR ?_
  intro p e s m args below meth c s₁ Bd hml0 hP hK
  obtain ⟨rfl, hZ, hh⟩ := hP
  have hx := Bd.exec
  have hby := Bd.bytes
  have hml : c.maxLocals = 3 := hml0
  have hown : s.vm.findClass "com/example/chartlight/chartlight/label/WeightRows" = some m.cls := findClass_of_methodNamed Bd.named
  have hnm := (name_of_methodNamed Bd.named Bd.method).1
  have X0 : Stand p l e ({ frames := 0, cells := 0, slots := 0, locals := 0 } : Room) s m #[(.ref a1), (.int p2)] below meth c s₁ [] 0 0 := Stand.of_body Bd
  have e0 : s₁.heap = h0 := by rw [← hh, Bd.state]; rfl
  have N0 := Fr.nil n0
  have pre0 : ∀ t, Steps p.tables e below (s₁.setTop (mkF m 0 #[.val (.ref a1), .val (.int p2), .unset] [])) t → Steps p.tables e below (s₁.setTop (entryFrame m #[(.ref a1), (.int p2)] 3)) t := fun t k => castTop (ef_fnd_0a m a1 p2) k
  obtain ⟨cl_a1_4_1, Ar_a1_4_1, -, S_a1_4_1, N_a1_4_1, -, -⟩ := id V_a1
  obtain ⟨cl_a1_25_2, Ar_a1_25_2, -, S_a1_25_2, N_a1_25_2, -, -⟩ := id V_a1
  obtain ⟨fs, hr, hrun, hended, hW, hsame⟩ := X0.leave (v := some (.int (-1 : Int32))) (fun h => by rw [Bd.returns] at h; cases h)
  refine ⟨_, _, pre0 _ ?_, hrun, hended, _, _, rfl, ?_, ⟨_, rfl⟩, hW, hsame.mono (by decide) (by decide)⟩
  · show Steps p.tables e below (s₁.setTop (mkF m 0 #[.val (.ref a1), .val (.int p2), .unset] [])) _
    refine XS.iconst X0.here hx rfl (hb hby d5_0) ?_
    refine XS.istoreN X0.here hx rfl (hb hby d5_1) rfl (l' := #[.val (.ref a1), .val (.int p2), .val (.int (0 : Int32))]) rfl ?_
    refine XS.iloadN X0.here hx rfl (hb hby d5_2) rfl ?_
    refine XS.aloadN X0.here hx rfl (hb hby d5_3) rfl rfl ?_
    refine X0.arraylength hx (by rw [e0]; exact Ar_a1_4_1.1) (State.isArrayOf_alike hZ.alike Ar_a1_4_1.2.1) (g := (mkF m 4 #[.val (.ref a1), .val (.int p2), .val (.int (0 : Int32))] [(.ref a1), (.int (0 : Int32))])) rfl rfl (hb hby d5_4) _ ?_
    rw [len_of S_a1_4_1 N_a1_4_1]
    refine XS.icmpYes X0.here hx rfl (pc0 := 5) (pc' := 23) rfl (hb hby d5_5) rfl (flt (by decide : ¬ ((0 : Int32) < (0 : Int32)))).2.1 (by decide) (by decide) ?_
    refine XS.iloadN X0.here hx rfl (hb hby d5_23) rfl ?_
    refine XS.aloadN X0.here hx rfl (hb hby d5_24) rfl rfl ?_
    refine X0.arraylength hx (by rw [e0]; exact Ar_a1_25_2.1) (State.isArrayOf_alike hZ.alike Ar_a1_25_2.2.1) (g := (mkF m 25 #[.val (.ref a1), .val (.int p2), .val (.int (0 : Int32))] [(.ref a1), (.int (0 : Int32))])) rfl rfl (hb hby d5_25) _ ?_
    rw [len_of S_a1_25_2 N_a1_25_2]
    refine XS.icmpYes X0.here hx rfl (pc0 := 26) (pc' := 42) rfl (hb hby d5_26) rfl (flt (by decide : ¬ ((0 : Int32) < (0 : Int32)))).2.1 (by decide) (by decide) ?_
    refine XS.iloadN X0.here hx rfl (hb hby d5_42) rfl ?_
    refine XS.ineg X0.here hx rfl (hb hby d5_43) rfl ?_
    refine XS.iconst X0.here hx rfl (hb hby d5_44) ?_
    refine XS.isub X0.here hx rfl (hb hby d5_45) rfl ?_
    show Steps p.tables e below (s₁.setTop (mkF m 46 #[.val (.ref a1), .val (.int p2), .val (.int (0 : Int32))] [(.int (-1 : Int32))])) _
    exact retI X0 hx Bd.returns (hb hby d5_46) hr
  · show Q_fnd_0a Z a1 p2 ka h0 n0 _ s₁.heap _
    rw [e0]
    exact ⟨rfl, rfl, rfl⟩
theorem d5_8 : decode prog_58_method_9_code 8 = .ok (.aload_n 0, 1) := by decide +kernel
theorem d5_9 : decode prog_58_method_9_code 9 = .ok (.iload_n 2, 1) := by decide +kernel
theorem d5_10 : decode prog_58_method_9_code 10 = .ok (.laload, 1) := by decide +kernel
theorem d5_11 : decode prog_58_method_9_code 11 = .ok (.iload_n 1, 1) := by decide +kernel
theorem d5_12 : decode prog_58_method_9_code 12 = .ok (.i2l, 1) := by decide +kernel
theorem d5_13 : decode prog_58_method_9_code 13 = .ok (.lcmp, 1) := by decide +kernel
theorem d5_14 : decode prog_58_method_9_code 14 = .ok (.ifCond .ge 9, 3) := by decide +kernel
theorem d5_17 : decode prog_58_method_9_code 17 = .ok (.iinc 2 2, 3) := by decide +kernel
theorem d5_20 : decode prog_58_method_9_code 20 = .ok (.goto (-18), 3) := by decide +kernel
theorem ef_fnd_2a (m : MethodId) (a1 : Addr) (p2 : Int32) : entryFrame m #[(.ref a1), (.int p2)] 3 = (mkF m 0 #[.val (.ref a1), .val (.int p2), .unset] []) := by first | (simp [entryFrame, mkF, argsToLocals, Value.category]; done) | rfl
def Q_fnd_2a (Z : State) (a1 : Addr) (p2 : Int32) (ka : ClassId) (x0 : Int64) (x1 : Int64) (h0 : Heap) (n0 : Nat) (v : Option Value) (h : Heap) (L : List Loc) : Prop := v = some (.int (-3 : Int32)) ∧ L = [] ∧ h = h0
set_option maxRecDepth 65536 in
set_option maxHeartbeats 40000000 in
theorem rm_fnd_2a (l : Launch) (Z : State) (a0 : Array Value) (hw : ∀ d ∈ tables_1, d.before a0 Z = true) (ws : List Jvm.Cond) (a1 : Addr) (p2 : Int32) (ka : ClassId) (x0 : Int64) (x1 : Int64) (h0 : Heap) (n0 : Nat) (Z0 : n0 ≤ h0.size) (V_a1 : Arv Z h0 a1 ka .long (2 : Int32) [(.long x0), (.long x1)] (.long (0 : Int64))) (hl0 : (lcmpW x0 (p2.toInt64)) < (0 : Int32)) :
    MetFree l (⟨"com/example/chartlight/chartlight/label/WeightRows", "find", "([JI)I"⟩ : MethodName) (head1 (Jvm.Cond.code (⟨"com/example/chartlight/chartlight/label/WeightRows", "find", "([JI)I"⟩ : MethodName) prog_58_method_9_code 3 (some .int) :: ws) ({ frames := 0, cells := 0, slots := 0, locals := 0 } : Room)) (fun a U => a = #[(.ref a1), (.int p2)] ∧ Z.Warmed39 U.vm ∧ U.heap = h0) (fun _ _ _ _ _ => True) (fun _ U o U' => ∃ v L, o = .returned v ∧ Q_fnd_2a Z a1 p2 ka x0 x1 h0 n0 v U'.heap L ∧ FrameEnd U o U' L ({ frames := 0, cells := 0, slots := 0, locals := 0 } : Room).cells ({ frames := 0, cells := 0, slots := 0, locals := 0 } : Room).slots) := by
  refine MetFree.of_bodySF (plainFor_of_name pn0) hisR ?_
  intro p e s m args below meth c s₁ Bd hml0 hP hK
  obtain ⟨rfl, hZ, hh⟩ := hP
  have hx := Bd.exec
  have hby := Bd.bytes
  have hml : c.maxLocals = 3 := hml0
  have hown : s.vm.findClass "com/example/chartlight/chartlight/label/WeightRows" = some m.cls := findClass_of_methodNamed Bd.named
  have hnm := (name_of_methodNamed Bd.named Bd.method).1
  have X0 : Stand p l e ({ frames := 0, cells := 0, slots := 0, locals := 0 } : Room) s m #[(.ref a1), (.int p2)] below meth c s₁ [] 0 0 := Stand.of_body Bd
  have e0 : s₁.heap = h0 := by rw [← hh, Bd.state]; rfl
  have N0 := Fr.nil n0
  have pre0 : ∀ t, Steps p.tables e below (s₁.setTop (mkF m 0 #[.val (.ref a1), .val (.int p2), .unset] [])) t → Steps p.tables e below (s₁.setTop (entryFrame m #[(.ref a1), (.int p2)] 3)) t := fun t k => castTop (ef_fnd_2a m a1 p2) k
  obtain ⟨cl_a1_4_1, Ar_a1_4_1, -, S_a1_4_1, N_a1_4_1, -, -⟩ := id V_a1
  obtain ⟨cl_a1_10_2, Ar_a1_10_2, q_a1_10_2, S_a1_10_2, N_a1_10_2, H_a1_10_2, G_a1_10_2⟩ := id V_a1
  have hin_a1_10_2 : ¬ ((0 : Int32) < 0 ∨ cl_a1_10_2.slots.size ≤ ((0 : Int32) : Int32).toNatClampNeg) := inb_of S_a1_10_2 ⟨by decide, by decide⟩
  obtain ⟨cl_a1_4_3, Ar_a1_4_3, -, S_a1_4_3, N_a1_4_3, -, -⟩ := id V_a1
  obtain ⟨cl_a1_25_4, Ar_a1_25_4, -, S_a1_25_4, N_a1_25_4, -, -⟩ := id V_a1
  obtain ⟨fs, hr, hrun, hended, hW, hsame⟩ := X0.leave (v := some (.int (-3 : Int32))) (fun h => by rw [Bd.returns] at h; cases h)
  refine ⟨_, _, pre0 _ ?_, hrun, hended, _, _, rfl, ?_, ⟨_, rfl⟩, hW, hsame.mono (by decide) (by decide)⟩
  · show Steps p.tables e below (s₁.setTop (mkF m 0 #[.val (.ref a1), .val (.int p2), .unset] [])) _
    refine XS.iconst X0.here hx rfl (hb hby d5_0) ?_
    refine XS.istoreN X0.here hx rfl (hb hby d5_1) rfl (l' := #[.val (.ref a1), .val (.int p2), .val (.int (0 : Int32))]) rfl ?_
    refine XS.iloadN X0.here hx rfl (hb hby d5_2) rfl ?_
    refine XS.aloadN X0.here hx rfl (hb hby d5_3) rfl rfl ?_
    refine X0.arraylength hx (by rw [e0]; exact Ar_a1_4_1.1) (State.isArrayOf_alike hZ.alike Ar_a1_4_1.2.1) (g := (mkF m 4 #[.val (.ref a1), .val (.int p2), .val (.int (0 : Int32))] [(.ref a1), (.int (0 : Int32))])) rfl rfl (hb hby d5_4) _ ?_
    rw [len_of S_a1_4_1 N_a1_4_1]
    refine XS.icmpNo X0.here hx rfl (hb hby d5_5) rfl (tlt (by decide : (0 : Int32) < (2 : Int32))).2.1 ?_
    refine XS.aloadN X0.here hx rfl (hb hby d5_8) rfl rfl ?_
    refine XS.iloadN X0.here hx rfl (hb hby d5_9) rfl ?_
    refine X0.laload hx (j := (0 : Int32)) (v := (.long x0)) (by rw [e0]; exact Ar_a1_10_2.1) (State.isArrayOf_alike hZ.alike Ar_a1_10_2.2.1) Ar_a1_10_2.2.2 hin_a1_10_2 (H_a1_10_2.at hin_a1_10_2 rfl) (g := (mkF m 10 #[.val (.ref a1), .val (.int p2), .val (.int (0 : Int32))] [(.int (0 : Int32)), (.ref a1)])) rfl rfl (hb hby d5_10) _ ?_
    refine XS.iloadN X0.here hx rfl (hb hby d5_11) rfl ?_
    refine XS.i2l X0.here hx rfl (hb hby d5_12) rfl ?_
    refine XS.lcmp X0.here hx rfl (hb hby d5_13) rfl ?_
    refine XS.ifNo X0.here hx rfl (hb hby d5_14) rfl ((if0 _ _).trans (tlt hl0).2.1) ?_
    refine XS.iinc X0.here hx rfl (hb hby d5_17) rfl (l' := #[.val (.ref a1), .val (.int p2), .val (.int (2 : Int32))]) rfl ?_
    refine XS.goto X0.here hx rfl (pc0 := 20) (pc' := 2) rfl (hb hby d5_20) (by decide) (by decide) ?_
    refine XS.iloadN X0.here hx rfl (hb hby d5_2) rfl ?_
    refine XS.aloadN X0.here hx rfl (hb hby d5_3) rfl rfl ?_
    refine X0.arraylength hx (by rw [e0]; exact Ar_a1_4_3.1) (State.isArrayOf_alike hZ.alike Ar_a1_4_3.2.1) (g := (mkF m 4 #[.val (.ref a1), .val (.int p2), .val (.int (2 : Int32))] [(.ref a1), (.int (2 : Int32))])) rfl rfl (hb hby d5_4) _ ?_
    rw [len_of S_a1_4_3 N_a1_4_3]
    refine XS.icmpYes X0.here hx rfl (pc0 := 5) (pc' := 23) rfl (hb hby d5_5) rfl (flt (by decide : ¬ ((2 : Int32) < (2 : Int32)))).2.1 (by decide) (by decide) ?_
    refine XS.iloadN X0.here hx rfl (hb hby d5_23) rfl ?_
    refine XS.aloadN X0.here hx rfl (hb hby d5_24) rfl rfl ?_
    refine X0.arraylength hx (by rw [e0]; exact Ar_a1_25_4.1) (State.isArrayOf_alike hZ.alike Ar_a1_25_4.2.1) (g := (mkF m 25 #[.val (.ref a1), .val (.int p2), .val (.int (2 : Int32))] [(.ref a1), (.int (2 : Int32))])) rfl rfl (hb hby d5_25) _ ?_
    rw [len_of S_a1_25_4 N_a1_25_4]
    refine XS.icmpYes X0.here hx rfl (pc0 := 26) (pc' := 42) rfl (hb hby d5_26) rfl (flt (by decide : ¬ ((2 : Int32) < (2 : Int32)))).2.1 (by decide) (by decide) ?_
    refine XS.iloadN X0.here hx rfl (hb hby d5_42) rfl ?_
    refine XS.ineg X0.here hx rfl (hb hby d5_43) rfl ?_
    refine XS.iconst X0.here hx rfl (hb hby d5_44) ?_
    refine XS.isub X0.here hx rfl (hb hby d5_45) rfl ?_
    show Steps p.tables e below (s₁.setTop (mkF m 46 #[.val (.ref a1), .val (.int p2), .val (.int (2 : Int32))] [(.int (-3 : Int32))])) _
    exact retI X0 hx Bd.returns (hb hby d5_46) hr
  · show Q_fnd_2a Z a1 p2 ka x0 x1 h0 n0 _ s₁.heap _
    rw [e0]
    exact ⟨rfl, rfl, rfl⟩
theorem d5_29 : decode prog_58_method_9_code 29 = .ok (.aload_n 0, 1) := by decide +kernel
theorem d5_30 : decode prog_58_method_9_code 30 = .ok (.iload_n 2, 1) := by decide +kernel
theorem d5_31 : decode prog_58_method_9_code 31 = .ok (.laload, 1) := by decide +kernel
theorem d5_32 : decode prog_58_method_9_code 32 = .ok (.iload_n 1, 1) := by decide +kernel
theorem d5_33 : decode prog_58_method_9_code 33 = .ok (.i2l, 1) := by decide +kernel
theorem d5_34 : decode prog_58_method_9_code 34 = .ok (.lcmp, 1) := by decide +kernel
theorem d5_35 : decode prog_58_method_9_code 35 = .ok (.ifCond .ne 7, 3) := by decide +kernel
theorem ef_fnd_2d (m : MethodId) (a1 : Addr) (p2 : Int32) : entryFrame m #[(.ref a1), (.int p2)] 3 = (mkF m 0 #[.val (.ref a1), .val (.int p2), .unset] []) := by first | (simp [entryFrame, mkF, argsToLocals, Value.category]; done) | rfl
def Q_fnd_2d (Z : State) (a1 : Addr) (p2 : Int32) (ka : ClassId) (x0 : Int64) (x1 : Int64) (h0 : Heap) (n0 : Nat) (v : Option Value) (h : Heap) (L : List Loc) : Prop := v = some (.int (-1 : Int32)) ∧ L = [] ∧ h = h0
set_option maxRecDepth 65536 in
set_option maxHeartbeats 40000000 in
theorem rm_fnd_2d (l : Launch) (Z : State) (a0 : Array Value) (hw : ∀ d ∈ tables_1, d.before a0 Z = true) (ws : List Jvm.Cond) (a1 : Addr) (p2 : Int32) (ka : ClassId) (x0 : Int64) (x1 : Int64) (h0 : Heap) (n0 : Nat) (Z0 : n0 ≤ h0.size) (V_a1 : Arv Z h0 a1 ka .long (2 : Int32) [(.long x0), (.long x1)] (.long (0 : Int64))) (hl0 : ¬ ((lcmpW x0 (p2.toInt64)) < (0 : Int32))) (hn0 : ¬ ((lcmpW x0 (p2.toInt64)) = (0 : Int32))) :
    MetFree l (⟨"com/example/chartlight/chartlight/label/WeightRows", "find", "([JI)I"⟩ : MethodName) (head1 (Jvm.Cond.code (⟨"com/example/chartlight/chartlight/label/WeightRows", "find", "([JI)I"⟩ : MethodName) prog_58_method_9_code 3 (some .int) :: ws) ({ frames := 0, cells := 0, slots := 0, locals := 0 } : Room)) (fun a U => a = #[(.ref a1), (.int p2)] ∧ Z.Warmed39 U.vm ∧ U.heap = h0) (fun _ _ _ _ _ => True) (fun _ U o U' => ∃ v L, o = .returned v ∧ Q_fnd_2d Z a1 p2 ka x0 x1 h0 n0 v U'.heap L ∧ FrameEnd U o U' L ({ frames := 0, cells := 0, slots := 0, locals := 0 } : Room).cells ({ frames := 0, cells := 0, slots := 0, locals := 0 } : Room).slots) := by
  refine MetFree.of_bodySF (plainFor_of_name pn0) hisR ?_
  intro p e s m args below meth c s₁ Bd hml0 hP hK
  obtain ⟨rfl, hZ, hh⟩ := hP
  have hx := Bd.exec
  have hby := Bd.bytes
  have hml : c.maxLocals = 3 := hml0
  have hown : s.vm.findClass "com/example/chartlight/chartlight/label/WeightRows" = some m.cls := findClass_of_methodNamed Bd.named
  have hnm := (name_of_methodNamed Bd.named Bd.method).1
  have X0 : Stand p l e ({ frames := 0, cells := 0, slots := 0, locals := 0 } : Room) s m #[(.ref a1), (.int p2)] below meth c s₁ [] 0 0 := Stand.of_body Bd
  have e0 : s₁.heap = h0 := by rw [← hh, Bd.state]; rfl
  have N0 := Fr.nil n0
  have pre0 : ∀ t, Steps p.tables e below (s₁.setTop (mkF m 0 #[.val (.ref a1), .val (.int p2), .unset] [])) t → Steps p.tables e below (s₁.setTop (entryFrame m #[(.ref a1), (.int p2)] 3)) t := fun t k => castTop (ef_fnd_2d m a1 p2) k
  obtain ⟨cl_a1_4_1, Ar_a1_4_1, -, S_a1_4_1, N_a1_4_1, -, -⟩ := id V_a1
  obtain ⟨cl_a1_10_2, Ar_a1_10_2, q_a1_10_2, S_a1_10_2, N_a1_10_2, H_a1_10_2, G_a1_10_2⟩ := id V_a1
  have hin_a1_10_2 : ¬ ((0 : Int32) < 0 ∨ cl_a1_10_2.slots.size ≤ ((0 : Int32) : Int32).toNatClampNeg) := inb_of S_a1_10_2 ⟨by decide, by decide⟩
  obtain ⟨cl_a1_25_3, Ar_a1_25_3, -, S_a1_25_3, N_a1_25_3, -, -⟩ := id V_a1
  obtain ⟨cl_a1_31_4, Ar_a1_31_4, q_a1_31_4, S_a1_31_4, N_a1_31_4, H_a1_31_4, G_a1_31_4⟩ := id V_a1
  have hin_a1_31_4 : ¬ ((0 : Int32) < 0 ∨ cl_a1_31_4.slots.size ≤ ((0 : Int32) : Int32).toNatClampNeg) := inb_of S_a1_31_4 ⟨by decide, by decide⟩
  obtain ⟨fs, hr, hrun, hended, hW, hsame⟩ := X0.leave (v := some (.int (-1 : Int32))) (fun h => by rw [Bd.returns] at h; cases h)
  refine ⟨_, _, pre0 _ ?_, hrun, hended, _, _, rfl, ?_, ⟨_, rfl⟩, hW, hsame.mono (by decide) (by decide)⟩
  · show Steps p.tables e below (s₁.setTop (mkF m 0 #[.val (.ref a1), .val (.int p2), .unset] [])) _
    refine XS.iconst X0.here hx rfl (hb hby d5_0) ?_
    refine XS.istoreN X0.here hx rfl (hb hby d5_1) rfl (l' := #[.val (.ref a1), .val (.int p2), .val (.int (0 : Int32))]) rfl ?_
    refine XS.iloadN X0.here hx rfl (hb hby d5_2) rfl ?_
    refine XS.aloadN X0.here hx rfl (hb hby d5_3) rfl rfl ?_
    refine X0.arraylength hx (by rw [e0]; exact Ar_a1_4_1.1) (State.isArrayOf_alike hZ.alike Ar_a1_4_1.2.1) (g := (mkF m 4 #[.val (.ref a1), .val (.int p2), .val (.int (0 : Int32))] [(.ref a1), (.int (0 : Int32))])) rfl rfl (hb hby d5_4) _ ?_
    rw [len_of S_a1_4_1 N_a1_4_1]
    refine XS.icmpNo X0.here hx rfl (hb hby d5_5) rfl (tlt (by decide : (0 : Int32) < (2 : Int32))).2.1 ?_
    refine XS.aloadN X0.here hx rfl (hb hby d5_8) rfl rfl ?_
    refine XS.iloadN X0.here hx rfl (hb hby d5_9) rfl ?_
    refine X0.laload hx (j := (0 : Int32)) (v := (.long x0)) (by rw [e0]; exact Ar_a1_10_2.1) (State.isArrayOf_alike hZ.alike Ar_a1_10_2.2.1) Ar_a1_10_2.2.2 hin_a1_10_2 (H_a1_10_2.at hin_a1_10_2 rfl) (g := (mkF m 10 #[.val (.ref a1), .val (.int p2), .val (.int (0 : Int32))] [(.int (0 : Int32)), (.ref a1)])) rfl rfl (hb hby d5_10) _ ?_
    refine XS.iloadN X0.here hx rfl (hb hby d5_11) rfl ?_
    refine XS.i2l X0.here hx rfl (hb hby d5_12) rfl ?_
    refine XS.lcmp X0.here hx rfl (hb hby d5_13) rfl ?_
    refine XS.ifYes X0.here hx rfl (pc0 := 14) (pc' := 23) rfl (hb hby d5_14) rfl ((if0 _ _).trans (flt hl0).2.1) (by decide) (by decide) ?_
    refine XS.iloadN X0.here hx rfl (hb hby d5_23) rfl ?_
    refine XS.aloadN X0.here hx rfl (hb hby d5_24) rfl rfl ?_
    refine X0.arraylength hx (by rw [e0]; exact Ar_a1_25_3.1) (State.isArrayOf_alike hZ.alike Ar_a1_25_3.2.1) (g := (mkF m 25 #[.val (.ref a1), .val (.int p2), .val (.int (0 : Int32))] [(.ref a1), (.int (0 : Int32))])) rfl rfl (hb hby d5_25) _ ?_
    rw [len_of S_a1_25_3 N_a1_25_3]
    refine XS.icmpNo X0.here hx rfl (hb hby d5_26) rfl (tlt (by decide : (0 : Int32) < (2 : Int32))).2.1 ?_
    refine XS.aloadN X0.here hx rfl (hb hby d5_29) rfl rfl ?_
    refine XS.iloadN X0.here hx rfl (hb hby d5_30) rfl ?_
    refine X0.laload hx (j := (0 : Int32)) (v := (.long x0)) (by rw [e0]; exact Ar_a1_31_4.1) (State.isArrayOf_alike hZ.alike Ar_a1_31_4.2.1) Ar_a1_31_4.2.2 hin_a1_31_4 (H_a1_31_4.at hin_a1_31_4 rfl) (g := (mkF m 31 #[.val (.ref a1), .val (.int p2), .val (.int (0 : Int32))] [(.int (0 : Int32)), (.ref a1)])) rfl rfl (hb hby d5_31) _ ?_
    refine XS.iloadN X0.here hx rfl (hb hby d5_32) rfl ?_
    refine XS.i2l X0.here hx rfl (hb hby d5_33) rfl ?_
    refine XS.lcmp X0.here hx rfl (hb hby d5_34) rfl ?_
    refine XS.ifYes X0.here hx rfl (pc0 := 35) (pc' := 42) rfl (hb hby d5_35) rfl ((if0 _ _).trans (feq hn0).2) (by decide) (by decide) ?_
    refine XS.iloadN X0.here hx rfl (hb hby d5_42) rfl ?_
    refine XS.ineg X0.here hx rfl (hb hby d5_43) rfl ?_
    refine XS.iconst X0.here hx rfl (hb hby d5_44) ?_
    refine XS.isub X0.here hx rfl (hb hby d5_45) rfl ?_
    show Steps p.tables e below (s₁.setTop (mkF m 46 #[.val (.ref a1), .val (.int p2), .val (.int (0 : Int32))] [(.int (-1 : Int32))])) _
    exact retI X0 hx Bd.returns (hb hby d5_46) hr
  · show Q_fnd_2d Z a1 p2 ka x0 x1 h0 n0 _ s₁.heap _
    rw [e0]
    exact ⟨rfl, rfl, rfl⟩
theorem ef_fnd_4a (m : MethodId) (a1 : Addr) (p2 : Int32) : entryFrame m #[(.ref a1), (.int p2)] 3 = (mkF m 0 #[.val (.ref a1), .val (.int p2), .unset] []) := by first | (simp [entryFrame, mkF, argsToLocals, Value.category]; done) | rfl
def Q_fnd_4a (Z : State) (a1 : Addr) (p2 : Int32) (ka : ClassId) (x0 : Int64) (x1 : Int64) (x2 : Int64) (x3 : Int64) (h0 : Heap) (n0 : Nat) (v : Option Value) (h : Heap) (L : List Loc) : Prop := v = some (.int (-5 : Int32)) ∧ L = [] ∧ h = h0
set_option maxRecDepth 65536 in
set_option maxHeartbeats 40000000 in
theorem rm_fnd_4a (l : Launch) (Z : State) (a0 : Array Value) (hw : ∀ d ∈ tables_1, d.before a0 Z = true) (ws : List Jvm.Cond) (a1 : Addr) (p2 : Int32) (ka : ClassId) (x0 : Int64) (x1 : Int64) (x2 : Int64) (x3 : Int64) (h0 : Heap) (n0 : Nat) (Z0 : n0 ≤ h0.size) (V_a1 : Arv Z h0 a1 ka .long (4 : Int32) [(.long x0), (.long x1), (.long x2), (.long x3)] (.long (0 : Int64))) (hl0 : (lcmpW x0 (p2.toInt64)) < (0 : Int32)) (hl2 : (lcmpW x2 (p2.toInt64)) < (0 : Int32)) :
    MetFree l (⟨"com/example/chartlight/chartlight/label/WeightRows", "find", "([JI)I"⟩ : MethodName) (head1 (Jvm.Cond.code (⟨"com/example/chartlight/chartlight/label/WeightRows", "find", "([JI)I"⟩ : MethodName) prog_58_method_9_code 3 (some .int) :: ws) ({ frames := 0, cells := 0, slots := 0, locals := 0 } : Room)) (fun a U => a = #[(.ref a1), (.int p2)] ∧ Z.Warmed39 U.vm ∧ U.heap = h0) (fun _ _ _ _ _ => True) (fun _ U o U' => ∃ v L, o = .returned v ∧ Q_fnd_4a Z a1 p2 ka x0 x1 x2 x3 h0 n0 v U'.heap L ∧ FrameEnd U o U' L ({ frames := 0, cells := 0, slots := 0, locals := 0 } : Room).cells ({ frames := 0, cells := 0, slots := 0, locals := 0 } : Room).slots) := by
  refine MetFree.of_bodySF (plainFor_of_name pn0) hisR ?_
  intro p e s m args below meth c s₁ Bd hml0 hP hK
  obtain ⟨rfl, hZ, hh⟩ := hP
  have hx := Bd.exec
  have hby := Bd.bytes
  have hml : c.maxLocals = 3 := hml0
  have hown : s.vm.findClass "com/example/chartlight/chartlight/label/WeightRows" = some m.cls := findClass_of_methodNamed Bd.named
  have hnm := (name_of_methodNamed Bd.named Bd.method).1
  have X0 : Stand p l e ({ frames := 0, cells := 0, slots := 0, locals := 0 } : Room) s m #[(.ref a1), (.int p2)] below meth c s₁ [] 0 0 := Stand.of_body Bd
  have e0 : s₁.heap = h0 := by rw [← hh, Bd.state]; rfl
  have N0 := Fr.nil n0
  have pre0 : ∀ t, Steps p.tables e below (s₁.setTop (mkF m 0 #[.val (.ref a1), .val (.int p2), .unset] [])) t → Steps p.tables e below (s₁.setTop (entryFrame m #[(.ref a1), (.int p2)] 3)) t := fun t k => castTop (ef_fnd_4a m a1 p2) k
  obtain ⟨cl_a1_4_1, Ar_a1_4_1, -, S_a1_4_1, N_a1_4_1, -, -⟩ := id V_a1
  obtain ⟨cl_a1_10_2, Ar_a1_10_2, q_a1_10_2, S_a1_10_2, N_a1_10_2, H_a1_10_2, G_a1_10_2⟩ := id V_a1
  have hin_a1_10_2 : ¬ ((0 : Int32) < 0 ∨ cl_a1_10_2.slots.size ≤ ((0 : Int32) : Int32).toNatClampNeg) := inb_of S_a1_10_2 ⟨by decide, by decide⟩
  obtain ⟨cl_a1_4_3, Ar_a1_4_3, -, S_a1_4_3, N_a1_4_3, -, -⟩ := id V_a1
  obtain ⟨cl_a1_10_4, Ar_a1_10_4, q_a1_10_4, S_a1_10_4, N_a1_10_4, H_a1_10_4, G_a1_10_4⟩ := id V_a1
  have hin_a1_10_4 : ¬ ((2 : Int32) < 0 ∨ cl_a1_10_4.slots.size ≤ ((2 : Int32) : Int32).toNatClampNeg) := inb_of S_a1_10_4 ⟨by decide, by decide⟩
  obtain ⟨cl_a1_4_5, Ar_a1_4_5, -, S_a1_4_5, N_a1_4_5, -, -⟩ := id V_a1
  obtain ⟨cl_a1_25_6, Ar_a1_25_6, -, S_a1_25_6, N_a1_25_6, -, -⟩ := id V_a1
  obtain ⟨fs, hr, hrun, hended, hW, hsame⟩ := X0.leave (v := some (.int (-5 : Int32))) (fun h => by rw [Bd.returns] at h; cases h)
  refine ⟨_, _, pre0 _ ?_, hrun, hended, _, _, rfl, ?_, ⟨_, rfl⟩, hW, hsame.mono (by decide) (by decide)⟩
  · show Steps p.tables e below (s₁.setTop (mkF m 0 #[.val (.ref a1), .val (.int p2), .unset] [])) _
    refine XS.iconst X0.here hx rfl (hb hby d5_0) ?_
    refine XS.istoreN X0.here hx rfl (hb hby d5_1) rfl (l' := #[.val (.ref a1), .val (.int p2), .val (.int (0 : Int32))]) rfl ?_
    refine XS.iloadN X0.here hx rfl (hb hby d5_2) rfl ?_
    refine XS.aloadN X0.here hx rfl (hb hby d5_3) rfl rfl ?_
    refine X0.arraylength hx (by rw [e0]; exact Ar_a1_4_1.1) (State.isArrayOf_alike hZ.alike Ar_a1_4_1.2.1) (g := (mkF m 4 #[.val (.ref a1), .val (.int p2), .val (.int (0 : Int32))] [(.ref a1), (.int (0 : Int32))])) rfl rfl (hb hby d5_4) _ ?_
    rw [len_of S_a1_4_1 N_a1_4_1]
    refine XS.icmpNo X0.here hx rfl (hb hby d5_5) rfl (tlt (by decide : (0 : Int32) < (4 : Int32))).2.1 ?_
    refine XS.aloadN X0.here hx rfl (hb hby d5_8) rfl rfl ?_
    refine XS.iloadN X0.here hx rfl (hb hby d5_9) rfl ?_
    refine X0.laload hx (j := (0 : Int32)) (v := (.long x0)) (by rw [e0]; exact Ar_a1_10_2.1) (State.isArrayOf_alike hZ.alike Ar_a1_10_2.2.1) Ar_a1_10_2.2.2 hin_a1_10_2 (H_a1_10_2.at hin_a1_10_2 rfl) (g := (mkF m 10 #[.val (.ref a1), .val (.int p2), .val (.int (0 : Int32))] [(.int (0 : Int32)), (.ref a1)])) rfl rfl (hb hby d5_10) _ ?_
    refine XS.iloadN X0.here hx rfl (hb hby d5_11) rfl ?_
    refine XS.i2l X0.here hx rfl (hb hby d5_12) rfl ?_
    refine XS.lcmp X0.here hx rfl (hb hby d5_13) rfl ?_
    refine XS.ifNo X0.here hx rfl (hb hby d5_14) rfl ((if0 _ _).trans (tlt hl0).2.1) ?_
    refine XS.iinc X0.here hx rfl (hb hby d5_17) rfl (l' := #[.val (.ref a1), .val (.int p2), .val (.int (2 : Int32))]) rfl ?_
    refine XS.goto X0.here hx rfl (pc0 := 20) (pc' := 2) rfl (hb hby d5_20) (by decide) (by decide) ?_
    refine XS.iloadN X0.here hx rfl (hb hby d5_2) rfl ?_
    refine XS.aloadN X0.here hx rfl (hb hby d5_3) rfl rfl ?_
    refine X0.arraylength hx (by rw [e0]; exact Ar_a1_4_3.1) (State.isArrayOf_alike hZ.alike Ar_a1_4_3.2.1) (g := (mkF m 4 #[.val (.ref a1), .val (.int p2), .val (.int (2 : Int32))] [(.ref a1), (.int (2 : Int32))])) rfl rfl (hb hby d5_4) _ ?_
    rw [len_of S_a1_4_3 N_a1_4_3]
    refine XS.icmpNo X0.here hx rfl (hb hby d5_5) rfl (tlt (by decide : (2 : Int32) < (4 : Int32))).2.1 ?_
    refine XS.aloadN X0.here hx rfl (hb hby d5_8) rfl rfl ?_
    refine XS.iloadN X0.here hx rfl (hb hby d5_9) rfl ?_
    refine X0.laload hx (j := (2 : Int32)) (v := (.long x2)) (by rw [e0]; exact Ar_a1_10_4.1) (State.isArrayOf_alike hZ.alike Ar_a1_10_4.2.1) Ar_a1_10_4.2.2 hin_a1_10_4 (H_a1_10_4.at hin_a1_10_4 rfl) (g := (mkF m 10 #[.val (.ref a1), .val (.int p2), .val (.int (2 : Int32))] [(.int (2 : Int32)), (.ref a1)])) rfl rfl (hb hby d5_10) _ ?_
    refine XS.iloadN X0.here hx rfl (hb hby d5_11) rfl ?_
    refine XS.i2l X0.here hx rfl (hb hby d5_12) rfl ?_
    refine XS.lcmp X0.here hx rfl (hb hby d5_13) rfl ?_
    refine XS.ifNo X0.here hx rfl (hb hby d5_14) rfl ((if0 _ _).trans (tlt hl2).2.1) ?_
    refine XS.iinc X0.here hx rfl (hb hby d5_17) rfl (l' := #[.val (.ref a1), .val (.int p2), .val (.int (4 : Int32))]) rfl ?_
    refine XS.goto X0.here hx rfl (pc0 := 20) (pc' := 2) rfl (hb hby d5_20) (by decide) (by decide) ?_
    refine XS.iloadN X0.here hx rfl (hb hby d5_2) rfl ?_
    refine XS.aloadN X0.here hx rfl (hb hby d5_3) rfl rfl ?_
    refine X0.arraylength hx (by rw [e0]; exact Ar_a1_4_5.1) (State.isArrayOf_alike hZ.alike Ar_a1_4_5.2.1) (g := (mkF m 4 #[.val (.ref a1), .val (.int p2), .val (.int (4 : Int32))] [(.ref a1), (.int (4 : Int32))])) rfl rfl (hb hby d5_4) _ ?_
    rw [len_of S_a1_4_5 N_a1_4_5]
    refine XS.icmpYes X0.here hx rfl (pc0 := 5) (pc' := 23) rfl (hb hby d5_5) rfl (flt (by decide : ¬ ((4 : Int32) < (4 : Int32)))).2.1 (by decide) (by decide) ?_
    refine XS.iloadN X0.here hx rfl (hb hby d5_23) rfl ?_
    refine XS.aloadN X0.here hx rfl (hb hby d5_24) rfl rfl ?_
    refine X0.arraylength hx (by rw [e0]; exact Ar_a1_25_6.1) (State.isArrayOf_alike hZ.alike Ar_a1_25_6.2.1) (g := (mkF m 25 #[.val (.ref a1), .val (.int p2), .val (.int (4 : Int32))] [(.ref a1), (.int (4 : Int32))])) rfl rfl (hb hby d5_25) _ ?_
    rw [len_of S_a1_25_6 N_a1_25_6]
    refine XS.icmpYes X0.here hx rfl (pc0 := 26) (pc' := 42) rfl (hb hby d5_26) rfl (flt (by decide : ¬ ((4 : Int32) < (4 : Int32)))).2.1 (by decide) (by decide) ?_
    refine XS.iloadN X0.here hx rfl (hb hby d5_42) rfl ?_
    refine XS.ineg X0.here hx rfl (hb hby d5_43) rfl ?_
    refine XS.iconst X0.here hx rfl (hb hby d5_44) ?_
    refine XS.isub X0.here hx rfl (hb hby d5_45) rfl ?_
    show Steps p.tables e below (s₁.setTop (mkF m 46 #[.val (.ref a1), .val (.int p2), .val (.int (4 : Int32))] [(.int (-5 : Int32))])) _
    exact retI X0 hx Bd.returns (hb hby d5_46) hr
  · show Q_fnd_4a Z a1 p2 ka x0 x1 x2 x3 h0 n0 _ s₁.heap _
    rw [e0]
    exact ⟨rfl, rfl, rfl⟩
theorem ef_fnd_4d (m : MethodId) (a1 : Addr) (p2 : Int32) : entryFrame m #[(.ref a1), (.int p2)] 3 = (mkF m 0 #[.val (.ref a1), .val (.int p2), .unset] []) := by first | (simp [entryFrame, mkF, argsToLocals, Value.category]; done) | rfl
def Q_fnd_4d (Z : State) (a1 : Addr) (p2 : Int32) (ka : ClassId) (x0 : Int64) (x1 : Int64) (x2 : Int64) (x3 : Int64) (h0 : Heap) (n0 : Nat) (v : Option Value) (h : Heap) (L : List Loc) : Prop := v = some (.int (-1 : Int32)) ∧ L = [] ∧ h = h0
set_option maxRecDepth 65536 in
set_option maxHeartbeats 40000000 in
theorem rm_fnd_4d (l : Launch) (Z : State) (a0 : Array Value) (hw : ∀ d ∈ tables_1, d.before a0 Z = true) (ws : List Jvm.Cond) (a1 : Addr) (p2 : Int32) (ka : ClassId) (x0 : Int64) (x1 : Int64) (x2 : Int64) (x3 : Int64) (h0 : Heap) (n0 : Nat) (Z0 : n0 ≤ h0.size) (V_a1 : Arv Z h0 a1 ka .long (4 : Int32) [(.long x0), (.long x1), (.long x2), (.long x3)] (.long (0 : Int64))) (hl0 : ¬ ((lcmpW x0 (p2.toInt64)) < (0 : Int32))) (hn0 : ¬ ((lcmpW x0 (p2.toInt64)) = (0 : Int32))) :
    MetFree l (⟨"com/example/chartlight/chartlight/label/WeightRows", "find", "([JI)I"⟩ : MethodName) (head1 (Jvm.Cond.code (⟨"com/example/chartlight/chartlight/label/WeightRows", "find", "([JI)I"⟩ : MethodName) prog_58_method_9_code 3 (some .int) :: ws) ({ frames := 0, cells := 0, slots := 0, locals := 0 } : Room)) (fun a U => a = #[(.ref a1), (.int p2)] ∧ Z.Warmed39 U.vm ∧ U.heap = h0) (fun _ _ _ _ _ => True) (fun _ U o U' => ∃ v L, o = .returned v ∧ Q_fnd_4d Z a1 p2 ka x0 x1 x2 x3 h0 n0 v U'.heap L ∧ FrameEnd U o U' L ({ frames := 0, cells := 0, slots := 0, locals := 0 } : Room).cells ({ frames := 0, cells := 0, slots := 0, locals := 0 } : Room).slots) := by
  refine MetFree.of_bodySF (plainFor_of_name pn0) hisR ?_
  intro p e s m args below meth c s₁ Bd hml0 hP hK
  obtain ⟨rfl, hZ, hh⟩ := hP
  have hx := Bd.exec
  have hby := Bd.bytes
  have hml : c.maxLocals = 3 := hml0
  have hown : s.vm.findClass "com/example/chartlight/chartlight/label/WeightRows" = some m.cls := findClass_of_methodNamed Bd.named
  have hnm := (name_of_methodNamed Bd.named Bd.method).1
  have X0 : Stand p l e ({ frames := 0, cells := 0, slots := 0, locals := 0 } : Room) s m #[(.ref a1), (.int p2)] below meth c s₁ [] 0 0 := Stand.of_body Bd
  have e0 : s₁.heap = h0 := by rw [← hh, Bd.state]; rfl
  have N0 := Fr.nil n0
  have pre0 : ∀ t, Steps p.tables e below (s₁.setTop (mkF m 0 #[.val (.ref a1), .val (.int p2), .unset] [])) t → Steps p.tables e below (s₁.setTop (entryFrame m #[(.ref a1), (.int p2)] 3)) t := fun t k => castTop (ef_fnd_4d m a1 p2) k
  obtain ⟨cl_a1_4_1, Ar_a1_4_1, -, S_a1_4_1, N_a1_4_1, -, -⟩ := id V_a1
  obtain ⟨cl_a1_10_2, Ar_a1_10_2, q_a1_10_2, S_a1_10_2, N_a1_10_2, H_a1_10_2, G_a1_10_2⟩ := id V_a1
  have hin_a1_10_2 : ¬ ((0 : Int32) < 0 ∨ cl_a1_10_2.slots.size ≤ ((0 : Int32) : Int32).toNatClampNeg) := inb_of S_a1_10_2 ⟨by decide, by decide⟩
  obtain ⟨cl_a1_25_3, Ar_a1_25_3, -, S_a1_25_3, N_a1_25_3, -, -⟩ := id V_a1
  obtain ⟨cl_a1_31_4, Ar_a1_31_4, q_a1_31_4, S_a1_31_4, N_a1_31_4, H_a1_31_4, G_a1_31_4⟩ := id V_a1
  have hin_a1_31_4 : ¬ ((0 : Int32) < 0 ∨ cl_a1_31_4.slots.size ≤ ((0 : Int32) : Int32).toNatClampNeg) := inb_of S_a1_31_4 ⟨by decide, by decide⟩
  obtain ⟨fs, hr, hrun, hended, hW, hsame⟩ := X0.leave (v := some (.int (-1 : Int32))) (fun h => by rw [Bd.returns] at h; cases h)
  refine ⟨_, _, pre0 _ ?_, hrun, hended, _, _, rfl, ?_, ⟨_, rfl⟩, hW, hsame.mono (by decide) (by decide)⟩
  · show Steps p.tables e below (s₁.setTop (mkF m 0 #[.val (.ref a1), .val (.int p2), .unset] [])) _
    refine XS.iconst X0.here hx rfl (hb hby d5_0) ?_
    refine XS.istoreN X0.here hx rfl (hb hby d5_1) rfl (l' := #[.val (.ref a1), .val (.int p2), .val (.int (0 : Int32))]) rfl ?_
    refine XS.iloadN X0.here hx rfl (hb hby d5_2) rfl ?_
    refine XS.aloadN X0.here hx rfl (hb hby d5_3) rfl rfl ?_
    refine X0.arraylength hx (by rw [e0]; exact Ar_a1_4_1.1) (State.isArrayOf_alike hZ.alike Ar_a1_4_1.2.1) (g := (mkF m 4 #[.val (.ref a1), .val (.int p2), .val (.int (0 : Int32))] [(.ref a1), (.int (0 : Int32))])) rfl rfl (hb hby d5_4) _ ?_
    rw [len_of S_a1_4_1 N_a1_4_1]
    refine XS.icmpNo X0.here hx rfl (hb hby d5_5) rfl (tlt (by decide : (0 : Int32) < (4 : Int32))).2.1 ?_
    refine XS.aloadN X0.here hx rfl (hb hby d5_8) rfl rfl ?_
    refine XS.iloadN X0.here hx rfl (hb hby d5_9) rfl ?_
    refine X0.laload hx (j := (0 : Int32)) (v := (.long x0)) (by rw [e0]; exact Ar_a1_10_2.1) (State.isArrayOf_alike hZ.alike Ar_a1_10_2.2.1) Ar_a1_10_2.2.2 hin_a1_10_2 (H_a1_10_2.at hin_a1_10_2 rfl) (g := (mkF m 10 #[.val (.ref a1), .val (.int p2), .val (.int (0 : Int32))] [(.int (0 : Int32)), (.ref a1)])) rfl rfl (hb hby d5_10) _ ?_
    refine XS.iloadN X0.here hx rfl (hb hby d5_11) rfl ?_
    refine XS.i2l X0.here hx rfl (hb hby d5_12) rfl ?_
    refine XS.lcmp X0.here hx rfl (hb hby d5_13) rfl ?_
    refine XS.ifYes X0.here hx rfl (pc0 := 14) (pc' := 23) rfl (hb hby d5_14) rfl ((if0 _ _).trans (flt hl0).2.1) (by decide) (by decide) ?_
    refine XS.iloadN X0.here hx rfl (hb hby d5_23) rfl ?_
    refine XS.aloadN X0.here hx rfl (hb hby d5_24) rfl rfl ?_
    refine X0.arraylength hx (by rw [e0]; exact Ar_a1_25_3.1) (State.isArrayOf_alike hZ.alike Ar_a1_25_3.2.1) (g := (mkF m 25 #[.val (.ref a1), .val (.int p2), .val (.int (0 : Int32))] [(.ref a1), (.int (0 : Int32))])) rfl rfl (hb hby d5_25) _ ?_
    rw [len_of S_a1_25_3 N_a1_25_3]
    refine XS.icmpNo X0.here hx rfl (hb hby d5_26) rfl (tlt (by decide : (0 : Int32) < (4 : Int32))).2.1 ?_
    refine XS.aloadN X0.here hx rfl (hb hby d5_29) rfl rfl ?_
    refine XS.iloadN X0.here hx rfl (hb hby d5_30) rfl ?_
    refine X0.laload hx (j := (0 : Int32)) (v := (.long x0)) (by rw [e0]; exact Ar_a1_31_4.1) (State.isArrayOf_alike hZ.alike Ar_a1_31_4.2.1) Ar_a1_31_4.2.2 hin_a1_31_4 (H_a1_31_4.at hin_a1_31_4 rfl) (g := (mkF m 31 #[.val (.ref a1), .val (.int p2), .val (.int (0 : Int32))] [(.int (0 : Int32)), (.ref a1)])) rfl rfl (hb hby d5_31) _ ?_
    refine XS.iloadN X0.here hx rfl (hb hby d5_32) rfl ?_
    refine XS.i2l X0.here hx rfl (hb hby d5_33) rfl ?_
    refine XS.lcmp X0.here hx rfl (hb hby d5_34) rfl ?_
    refine XS.ifYes X0.here hx rfl (pc0 := 35) (pc' := 42) rfl (hb hby d5_35) rfl ((if0 _ _).trans (feq hn0).2) (by decide) (by decide) ?_
    refine XS.iloadN X0.here hx rfl (hb hby d5_42) rfl ?_
    refine XS.ineg X0.here hx rfl (hb hby d5_43) rfl ?_
    refine XS.iconst X0.here hx rfl (hb hby d5_44) ?_
    refine XS.isub X0.here hx rfl (hb hby d5_45) rfl ?_
    show Steps p.tables e below (s₁.setTop (mkF m 46 #[.val (.ref a1), .val (.int p2), .val (.int (0 : Int32))] [(.int (-1 : Int32))])) _
    exact retI X0 hx Bd.returns (hb hby d5_46) hr
  · show Q_fnd_4d Z a1 p2 ka x0 x1 x2 x3 h0 n0 _ s₁.heap _
    rw [e0]
    exact ⟨rfl, rfl, rfl⟩
theorem ef_fnd_6a (m : MethodId) (a1 : Addr) (p2 : Int32) : entryFrame m #[(.ref a1), (.int p2)] 3 = (mkF m 0 #[.val (.ref a1), .val (.int p2), .unset] []) := by first | (simp [entryFrame, mkF, argsToLocals, Value.category]; done) | rfl
def Q_fnd_6a (Z : State) (a1 : Addr) (p2 : Int32) (ka : ClassId) (x0 : Int64) (x1 : Int64) (x2 : Int64) (x3 : Int64) (x4 : Int64) (x5 : Int64) (h0 : Heap) (n0 : Nat) (v : Option Value) (h : Heap) (L : List Loc) : Prop := v = some (.int (-7 : Int32)) ∧ L = [] ∧ h = h0
set_option maxRecDepth 65536 in
set_option maxHeartbeats 40000000 in
theorem rm_fnd_6a (l : Launch) (Z : State) (a0 : Array Value) (hw : ∀ d ∈ tables_1, d.before a0 Z = true) (ws : List Jvm.Cond) (a1 : Addr) (p2 : Int32) (ka : ClassId) (x0 : Int64) (x1 : Int64) (x2 : Int64) (x3 : Int64) (x4 : Int64) (x5 : Int64) (h0 : Heap) (n0 : Nat) (Z0 : n0 ≤ h0.size) (V_a1 : Arv Z h0 a1 ka .long (6 : Int32) [(.long x0), (.long x1), (.long x2), (.long x3), (.long x4), (.long x5)] (.long (0 : Int64))) (hl0 : (lcmpW x0 (p2.toInt64)) < (0 : Int32)) (hl2 : (lcmpW x2 (p2.toInt64)) < (0 : Int32)) (hl4 : (lcmpW x4 (p2.toInt64)) < (0 : Int32)) :
    MetFree l (⟨"com/example/chartlight/chartlight/label/WeightRows", "find", "([JI)I"⟩ : MethodName) (head1 (Jvm.Cond.code (⟨"com/example/chartlight/chartlight/label/WeightRows", "find", "([JI)I"⟩ : MethodName) prog_58_method_9_code 3 (some .int) :: ws) ({ frames := 0, cells := 0, slots := 0, locals := 0 } : Room)) (fun a U => a = #[(.ref a1), (.int p2)] ∧ Z.Warmed39 U.vm ∧ U.heap = h0) (fun _ _ _ _ _ => True) (fun _ U o U' => ∃ v L, o = .returned v ∧ Q_fnd_6a Z a1 p2 ka x0 x1 x2 x3 x4 x5 h0 n0 v U'.heap L ∧ FrameEnd U o U' L ({ frames := 0, cells := 0, slots := 0, locals := 0 } : Room).cells ({ frames := 0, cells := 0, slots := 0, locals := 0 } : Room).slots) := by
  refine MetFree.of_bodySF (plainFor_of_name pn0) hisR ?_
  intro p e s m args below meth c s₁ Bd hml0 hP hK
  obtain ⟨rfl, hZ, hh⟩ := hP
  have hx := Bd.exec
  have hby := Bd.bytes
  have hml : c.maxLocals = 3 := hml0
  have hown : s.vm.findClass "com/example/chartlight/chartlight/label/WeightRows" = some m.cls := findClass_of_methodNamed Bd.named
  have hnm := (name_of_methodNamed Bd.named Bd.method).1
  have X0 : Stand p l e ({ frames := 0, cells := 0, slots := 0, locals := 0 } : Room) s m #[(.ref a1), (.int p2)] below meth c s₁ [] 0 0 := Stand.of_body Bd
  have e0 : s₁.heap = h0 := by rw [← hh, Bd.state]; rfl
  have N0 := Fr.nil n0
  have pre0 : ∀ t, Steps p.tables e below (s₁.setTop (mkF m 0 #[.val (.ref a1), .val (.int p2), .unset] [])) t → Steps p.tables e below (s₁.setTop (entryFrame m #[(.ref a1), (.int p2)] 3)) t := fun t k => castTop (ef_fnd_6a m a1 p2) k
  obtain ⟨cl_a1_4_1, Ar_a1_4_1, -, S_a1_4_1, N_a1_4_1, -, -⟩ := id V_a1
  obtain ⟨cl_a1_10_2, Ar_a1_10_2, q_a1_10_2, S_a1_10_2, N_a1_10_2, H_a1_10_2, G_a1_10_2⟩ := id V_a1
  have hin_a1_10_2 : ¬ ((0 : Int32) < 0 ∨ cl_a1_10_2.slots.size ≤ ((0 : Int32) : Int32).toNatClampNeg) := inb_of S_a1_10_2 ⟨by decide, by decide⟩
  obtain ⟨cl_a1_4_3, Ar_a1_4_3, -, S_a1_4_3, N_a1_4_3, -, -⟩ := id V_a1
  obtain ⟨cl_a1_10_4, Ar_a1_10_4, q_a1_10_4, S_a1_10_4, N_a1_10_4, H_a1_10_4, G_a1_10_4⟩ := id V_a1
  have hin_a1_10_4 : ¬ ((2 : Int32) < 0 ∨ cl_a1_10_4.slots.size ≤ ((2 : Int32) : Int32).toNatClampNeg) := inb_of S_a1_10_4 ⟨by decide, by decide⟩
  obtain ⟨cl_a1_4_5, Ar_a1_4_5, -, S_a1_4_5, N_a1_4_5, -, -⟩ := id V_a1
  obtain ⟨cl_a1_10_6, Ar_a1_10_6, q_a1_10_6, S_a1_10_6, N_a1_10_6, H_a1_10_6, G_a1_10_6⟩ := id V_a1
  have hin_a1_10_6 : ¬ ((4 : Int32) < 0 ∨ cl_a1_10_6.slots.size ≤ ((4 : Int32) : Int32).toNatClampNeg) := inb_of S_a1_10_6 ⟨by decide, by decide⟩
  obtain ⟨cl_a1_4_7, Ar_a1_4_7, -, S_a1_4_7, N_a1_4_7, -, -⟩ := id V_a1
  obtain ⟨cl_a1_25_8, Ar_a1_25_8, -, S_a1_25_8, N_a1_25_8, -, -⟩ := id V_a1
  obtain ⟨fs, hr, hrun, hended, hW, hsame⟩ := X0.leave (v := some (.int (-7 : Int32))) (fun h => by rw [Bd.returns] at h; cases h)
  refine ⟨_, _, pre0 _ ?_, hrun, hended, _, _, rfl, ?_, ⟨_, rfl⟩, hW, hsame.mono (by decide) (by decide)⟩
  · show Steps p.tables e below (s₁.setTop (mkF m 0 #[.val (.ref a1), .val (.int p2), .unset] [])) _
    refine XS.iconst X0.here hx rfl (hb hby d5_0) ?_
    refine XS.istoreN X0.here hx rfl (hb hby d5_1) rfl (l' := #[.val (.ref a1), .val (.int p2), .val (.int (0 : Int32))]) rfl ?_
    refine XS.iloadN X0.here hx rfl (hb hby d5_2) rfl ?_
    refine XS.aloadN X0.here hx rfl (hb hby d5_3) rfl rfl ?_
    refine X0.arraylength hx (by rw [e0]; exact Ar_a1_4_1.1) (State.isArrayOf_alike hZ.alike Ar_a1_4_1.2.1) (g := (mkF m 4 #[.val (.ref a1), .val (.int p2), .val (.int (0 : Int32))] [(.ref a1), (.int (0 : Int32))])) rfl rfl (hb hby d5_4) _ ?_
    rw [len_of S_a1_4_1 N_a1_4_1]
    refine XS.icmpNo X0.here hx rfl (hb hby d5_5) rfl (tlt (by decide : (0 : Int32) < (6 : Int32))).2.1 ?_
    refine XS.aloadN X0.here hx rfl (hb hby d5_8) rfl rfl ?_
    refine XS.iloadN X0.here hx rfl (hb hby d5_9) rfl ?_
    refine X0.laload hx (j := (0 : Int32)) (v := (.long x0)) (by rw [e0]; exact Ar_a1_10_2.1) (State.isArrayOf_alike hZ.alike Ar_a1_10_2.2.1) Ar_a1_10_2.2.2 hin_a1_10_2 (H_a1_10_2.at hin_a1_10_2 rfl) (g := (mkF m 10 #[.val (.ref a1), .val (.int p2), .val (.int (0 : Int32))] [(.int (0 : Int32)), (.ref a1)])) rfl rfl (hb hby d5_10) _ ?_
    refine XS.iloadN X0.here hx rfl (hb hby d5_11) rfl ?_
    refine XS.i2l X0.here hx rfl (hb hby d5_12) rfl ?_
    refine XS.lcmp X0.here hx rfl (hb hby d5_13) rfl ?_
    refine XS.ifNo X0.here hx rfl (hb hby d5_14) rfl ((if0 _ _).trans (tlt hl0).2.1) ?_
    refine XS.iinc X0.here hx rfl (hb hby d5_17) rfl (l' := #[.val (.ref a1), .val (.int p2), .val (.int (2 : Int32))]) rfl ?_
    refine XS.goto X0.here hx rfl (pc0 := 20) (pc' := 2) rfl (hb hby d5_20) (by decide) (by decide) ?_
    refine XS.iloadN X0.here hx rfl (hb hby d5_2) rfl ?_
    refine XS.aloadN X0.here hx rfl (hb hby d5_3) rfl rfl ?_
    refine X0.arraylength hx (by rw [e0]; exact Ar_a1_4_3.1) (State.isArrayOf_alike hZ.alike Ar_a1_4_3.2.1) (g := (mkF m 4 #[.val (.ref a1), .val (.int p2), .val (.int (2 : Int32))] [(.ref a1), (.int (2 : Int32))])) rfl rfl (hb hby d5_4) _ ?_
    rw [len_of S_a1_4_3 N_a1_4_3]
    refine XS.icmpNo X0.here hx rfl (hb hby d5_5) rfl (tlt (by decide : (2 : Int32) < (6 : Int32))).2.1 ?_
    refine XS.aloadN X0.here hx rfl (hb hby d5_8) rfl rfl ?_
    refine XS.iloadN X0.here hx rfl (hb hby d5_9) rfl ?_
    refine X0.laload hx (j := (2 : Int32)) (v := (.long x2)) (by rw [e0]; exact Ar_a1_10_4.1) (State.isArrayOf_alike hZ.alike Ar_a1_10_4.2.1) Ar_a1_10_4.2.2 hin_a1_10_4 (H_a1_10_4.at hin_a1_10_4 rfl) (g := (mkF m 10 #[.val (.ref a1), .val (.int p2), .val (.int (2 : Int32))] [(.int (2 : Int32)), (.ref a1)])) rfl rfl (hb hby d5_10) _ ?_
    refine XS.iloadN X0.here hx rfl (hb hby d5_11) rfl ?_
    refine XS.i2l X0.here hx rfl (hb hby d5_12) rfl ?_
    refine XS.lcmp X0.here hx rfl (hb hby d5_13) rfl ?_
    refine XS.ifNo X0.here hx rfl (hb hby d5_14) rfl ((if0 _ _).trans (tlt hl2).2.1) ?_
    refine XS.iinc X0.here hx rfl (hb hby d5_17) rfl (l' := #[.val (.ref a1), .val (.int p2), .val (.int (4 : Int32))]) rfl ?_
    refine XS.goto X0.here hx rfl (pc0 := 20) (pc' := 2) rfl (hb hby d5_20) (by decide) (by decide) ?_
    refine XS.iloadN X0.here hx rfl (hb hby d5_2) rfl ?_
    refine XS.aloadN X0.here hx rfl (hb hby d5_3) rfl rfl ?_
    refine X0.arraylength hx (by rw [e0]; exact Ar_a1_4_5.1) (State.isArrayOf_alike hZ.alike Ar_a1_4_5.2.1) (g := (mkF m 4 #[.val (.ref a1), .val (.int p2), .val (.int (4 : Int32))] [(.ref a1), (.int (4 : Int32))])) rfl rfl (hb hby d5_4) _ ?_
    rw [len_of S_a1_4_5 N_a1_4_5]
    refine XS.icmpNo X0.here hx rfl (hb hby d5_5) rfl (tlt (by decide : (4 : Int32) < (6 : Int32))).2.1 ?_
    refine XS.aloadN X0.here hx rfl (hb hby d5_8) rfl rfl ?_
    refine XS.iloadN X0.here hx rfl (hb hby d5_9) rfl ?_
    refine X0.laload hx (j := (4 : Int32)) (v := (.long x4)) (by rw [e0]; exact Ar_a1_10_6.1) (State.isArrayOf_alike hZ.alike Ar_a1_10_6.2.1) Ar_a1_10_6.2.2 hin_a1_10_6 (H_a1_10_6.at hin_a1_10_6 rfl) (g := (mkF m 10 #[.val (.ref a1), .val (.int p2), .val (.int (4 : Int32))] [(.int (4 : Int32)), (.ref a1)])) rfl rfl (hb hby d5_10) _ ?_
    refine XS.iloadN X0.here hx rfl (hb hby d5_11) rfl ?_
    refine XS.i2l X0.here hx rfl (hb hby d5_12) rfl ?_
    refine XS.lcmp X0.here hx rfl (hb hby d5_13) rfl ?_
    refine XS.ifNo X0.here hx rfl (hb hby d5_14) rfl ((if0 _ _).trans (tlt hl4).2.1) ?_
    refine XS.iinc X0.here hx rfl (hb hby d5_17) rfl (l' := #[.val (.ref a1), .val (.int p2), .val (.int (6 : Int32))]) rfl ?_
    show Steps p.tables e below (s₁.setTop (mkF m 20 #[.val (.ref a1), .val (.int p2), .val (.int (6 : Int32))] [])) _
    refine XS.goto X0.here hx rfl (pc0 := 20) (pc' := 2) rfl (hb hby d5_20) (by decide) (by decide) ?_
    refine XS.iloadN X0.here hx rfl (hb hby d5_2) rfl ?_
    refine XS.aloadN X0.here hx rfl (hb hby d5_3) rfl rfl ?_
    refine X0.arraylength hx (by rw [e0]; exact Ar_a1_4_7.1) (State.isArrayOf_alike hZ.alike Ar_a1_4_7.2.1) (g := (mkF m 4 #[.val (.ref a1), .val (.int p2), .val (.int (6 : Int32))] [(.ref a1), (.int (6 : Int32))])) rfl rfl (hb hby d5_4) _ ?_
    rw [len_of S_a1_4_7 N_a1_4_7]
    refine XS.icmpYes X0.here hx rfl (pc0 := 5) (pc' := 23) rfl (hb hby d5_5) rfl (flt (by decide : ¬ ((6 : Int32) < (6 : Int32)))).2.1 (by decide) (by decide) ?_
    refine XS.iloadN X0.here hx rfl (hb hby d5_23) rfl ?_
    refine XS.aloadN X0.here hx rfl (hb hby d5_24) rfl rfl ?_
    refine X0.arraylength hx (by rw [e0]; exact Ar_a1_25_8.1) (State.isArrayOf_alike hZ.alike Ar_a1_25_8.2.1) (g := (mkF m 25 #[.val (.ref a1), .val (.int p2), .val (.int (6 : Int32))] [(.ref a1), (.int (6 : Int32))])) rfl rfl (hb hby d5_25) _ ?_
    rw [len_of S_a1_25_8 N_a1_25_8]
    refine XS.icmpYes X0.here hx rfl (pc0 := 26) (pc' := 42) rfl (hb hby d5_26) rfl (flt (by decide : ¬ ((6 : Int32) < (6 : Int32)))).2.1 (by decide) (by decide) ?_
    refine XS.iloadN X0.here hx rfl (hb hby d5_42) rfl ?_
    refine XS.ineg X0.here hx rfl (hb hby d5_43) rfl ?_
    refine XS.iconst X0.here hx rfl (hb hby d5_44) ?_
    refine XS.isub X0.here hx rfl (hb hby d5_45) rfl ?_
    show Steps p.tables e below (s₁.setTop (mkF m 46 #[.val (.ref a1), .val (.int p2), .val (.int (6 : Int32))] [(.int (-7 : Int32))])) _
    exact retI X0 hx Bd.returns (hb hby d5_46) hr
  · show Q_fnd_6a Z a1 p2 ka x0 x1 x2 x3 x4 x5 h0 n0 _ s₁.heap _
    rw [e0]
    exact ⟨rfl, rfl, rfl⟩
theorem ef_fnd_6d (m : MethodId) (a1 : Addr) (p2 : Int32) : entryFrame m #[(.ref a1), (.int p2)] 3 = (mkF m 0 #[.val (.ref a1), .val (.int p2), .unset] []) := by first | (simp [entryFrame, mkF, argsToLocals, Value.category]; done) | rfl
def Q_fnd_6d (Z : State) (a1 : Addr) (p2 : Int32) (ka : ClassId) (x0 : Int64) (x1 : Int64) (x2 : Int64) (x3 : Int64) (x4 : Int64) (x5 : Int64) (h0 : Heap) (n0 : Nat) (v : Option Value) (h : Heap) (L : List Loc) : Prop := v = some (.int (-1 : Int32)) ∧ L = [] ∧ h = h0
set_option maxRecDepth 65536 in
set_option maxHeartbeats 40000000 in
theorem rm_fnd_6d (l : Launch) (Z : State) (a0 : Array Value) (hw : ∀ d ∈ tables_1, d.before a0 Z = true) (ws : List Jvm.Cond) (a1 : Addr) (p2 : Int32) (ka : ClassId) (x0 : Int64) (x1 : Int64) (x2 : Int64) (x3 : Int64) (x4 : Int64) (x5 : Int64) (h0 : Heap) (n0 : Nat) (Z0 : n0 ≤ h0.size) (V_a1 : Arv Z h0 a1 ka .long (6 : Int32) [(.long x0), (.long x1), (.long x2), (.long x3), (.long x4), (.long x5)] (.long (0 : Int64))) (hl0 : ¬ ((lcmpW x0 (p2.toInt64)) < (0 : Int32))) (hn0 : ¬ ((lcmpW x0 (p2.toInt64)) = (0 : Int32))) :
    MetFree l (⟨"com/example/chartlight/chartlight/label/WeightRows", "find", "([JI)I"⟩ : MethodName) (head1 (Jvm.Cond.code (⟨"com/example/chartlight/chartlight/label/WeightRows", "find", "([JI)I"⟩ : MethodName) prog_58_method_9_code 3 (some .int) :: ws) ({ frames := 0, cells := 0, slots := 0, locals := 0 } : Room)) (fun a U => a = #[(.ref a1), (.int p2)] ∧ Z.Warmed39 U.vm ∧ U.heap = h0) (fun _ _ _ _ _ => True) (fun _ U o U' => ∃ v L, o = .returned v ∧ Q_fnd_6d Z a1 p2 ka x0 x1 x2 x3 x4 x5 h0 n0 v U'.heap L ∧ FrameEnd U o U' L ({ frames := 0, cells := 0, slots := 0, locals := 0 } : Room).cells ({ frames := 0, cells := 0, slots := 0, locals := 0 } : Room).slots) := by
  refine MetFree.of_bodySF (plainFor_of_name pn0) hisR ?_
  intro p e s m args below meth c s₁ Bd hml0 hP hK
  obtain ⟨rfl, hZ, hh⟩ := hP
  have hx := Bd.exec
  have hby := Bd.bytes
  have hml : c.maxLocals = 3 := hml0
  have hown : s.vm.findClass "com/example/chartlight/chartlight/label/WeightRows" = some m.cls := findClass_of_methodNamed Bd.named
  have hnm := (name_of_methodNamed Bd.named Bd.method).1
  have X0 : Stand p l e ({ frames := 0, cells := 0, slots := 0, locals := 0 } : Room) s m #[(.ref a1), (.int p2)] below meth c s₁ [] 0 0 := Stand.of_body Bd
  have e0 : s₁.heap = h0 := by rw [← hh, Bd.state]; rfl
  have N0 := Fr.nil n0
  have pre0 : ∀ t, Steps p.tables e below (s₁.setTop (mkF m 0 #[.val (.ref a1), .val (.int p2), .unset] [])) t → Steps p.tables e below (s₁.setTop (entryFrame m #[(.ref a1), (.int p2)] 3)) t := fun t k => castTop (ef_fnd_6d m a1 p2) k
  obtain ⟨cl_a1_4_1, Ar_a1_4_1, -, S_a1_4_1, N_a1_4_1, -, -⟩ := id V_a1
  obtain ⟨cl_a1_10_2, Ar_a1_10_2, q_a1_10_2, S_a1_10_2, N_a1_10_2, H_a1_10_2, G_a1_10_2⟩ := id V_a1
  have hin_a1_10_2 : ¬ ((0 : Int32) < 0 ∨ cl_a1_10_2.slots.size ≤ ((0 : Int32) : Int32).toNatClampNeg) := inb_of S_a1_10_2 ⟨by decide, by decide⟩
  obtain ⟨cl_a1_25_3, Ar_a1_25_3, -, S_a1_25_3, N_a1_25_3, -, -⟩ := id V_a1
  obtain ⟨cl_a1_31_4, Ar_a1_31_4, q_a1_31_4, S_a1_31_4, N_a1_31_4, H_a1_31_4, G_a1_31_4⟩ := id V_a1
  have hin_a1_31_4 : ¬ ((0 : Int32) < 0 ∨ cl_a1_31_4.slots.size ≤ ((0 : Int32) : Int32).toNatClampNeg) := inb_of S_a1_31_4 ⟨by decide, by decide⟩
  obtain ⟨fs, hr, hrun, hended, hW, hsame⟩ := X0.leave (v := some (.int (-1 : Int32))) (fun h => by rw [Bd.returns] at h; cases h)
  refine ⟨_, _, pre0 _ ?_, hrun, hended, _, _, rfl, ?_, ⟨_, rfl⟩, hW, hsame.mono (by decide) (by decide)⟩
  · show Steps p.tables e below (s₁.setTop (mkF m 0 #[.val (.ref a1), .val (.int p2), .unset] [])) _
    refine XS.iconst X0.here hx rfl (hb hby d5_0) ?_
    refine XS.istoreN X0.here hx rfl (hb hby d5_1) rfl (l' := #[.val (.ref a1), .val (.int p2), .val (.int (0 : Int32))]) rfl ?_
    refine XS.iloadN X0.here hx rfl (hb hby d5_2) rfl ?_
    refine XS.aloadN X0.here hx rfl (hb hby d5_3) rfl rfl ?_
    refine X0.arraylength hx (by rw [e0]; exact Ar_a1_4_1.1) (State.isArrayOf_alike hZ.alike Ar_a1_4_1.2.1) (g := (mkF m 4 #[.val (.ref a1), .val (.int p2), .val (.int (0 : Int32))] [(.ref a1), (.int (0 : Int32))])) rfl rfl (hb hby d5_4) _ ?_
    rw [len_of S_a1_4_1 N_a1_4_1]
    refine XS.icmpNo X0.here hx rfl (hb hby d5_5) rfl (tlt (by decide : (0 : Int32) < (6 : Int32))).2.1 ?_
    refine XS.aloadN X0.here hx rfl (hb hby d5_8) rfl rfl ?_
    refine XS.iloadN X0.here hx rfl (hb hby d5_9) rfl ?_
    refine X0.laload hx (j := (0 : Int32)) (v := (.long x0)) (by rw [e0]; exact Ar_a1_10_2.1) (State.isArrayOf_alike hZ.alike Ar_a1_10_2.2.1) Ar_a1_10_2.2.2 hin_a1_10_2 (H_a1_10_2.at hin_a1_10_2 rfl) (g := (mkF m 10 #[.val (.ref a1), .val (.int p2), .val (.int (0 : Int32))] [(.int (0 : Int32)), (.ref a1)])) rfl rfl (hb hby d5_10) _ ?_
    refine XS.iloadN X0.here hx rfl (hb hby d5_11) rfl ?_
    refine XS.i2l X0.here hx rfl (hb hby d5_12) rfl ?_
    refine XS.lcmp X0.here hx rfl (hb hby d5_13) rfl ?_
    refine XS.ifYes X0.here hx rfl (pc0 := 14) (pc' := 23) rfl (hb hby d5_14) rfl ((if0 _ _).trans (flt hl0).2.1) (by decide) (by decide) ?_
    refine XS.iloadN X0.here hx rfl (hb hby d5_23) rfl ?_
    refine XS.aloadN X0.here hx rfl (hb hby d5_24) rfl rfl ?_
    refine X0.arraylength hx (by rw [e0]; exact Ar_a1_25_3.1) (State.isArrayOf_alike hZ.alike Ar_a1_25_3.2.1) (g := (mkF m 25 #[.val (.ref a1), .val (.int p2), .val (.int (0 : Int32))] [(.ref a1), (.int (0 : Int32))])) rfl rfl (hb hby d5_25) _ ?_
    rw [len_of S_a1_25_3 N_a1_25_3]
    refine XS.icmpNo X0.here hx rfl (hb hby d5_26) rfl (tlt (by decide : (0 : Int32) < (6 : Int32))).2.1 ?_
    refine XS.aloadN X0.here hx rfl (hb hby d5_29) rfl rfl ?_
    refine XS.iloadN X0.here hx rfl (hb hby d5_30) rfl ?_
    refine X0.laload hx (j := (0 : Int32)) (v := (.long x0)) (by rw [e0]; exact Ar_a1_31_4.1) (State.isArrayOf_alike hZ.alike Ar_a1_31_4.2.1) Ar_a1_31_4.2.2 hin_a1_31_4 (H_a1_31_4.at hin_a1_31_4 rfl) (g := (mkF m 31 #[.val (.ref a1), .val (.int p2), .val (.int (0 : Int32))] [(.int (0 : Int32)), (.ref a1)])) rfl rfl (hb hby d5_31) _ ?_
    refine XS.iloadN X0.here hx rfl (hb hby d5_32) rfl ?_
    refine XS.i2l X0.here hx rfl (hb hby d5_33) rfl ?_
    refine XS.lcmp X0.here hx rfl (hb hby d5_34) rfl ?_
    refine XS.ifYes X0.here hx rfl (pc0 := 35) (pc' := 42) rfl (hb hby d5_35) rfl ((if0 _ _).trans (feq hn0).2) (by decide) (by decide) ?_
    refine XS.iloadN X0.here hx rfl (hb hby d5_42) rfl ?_
    refine XS.ineg X0.here hx rfl (hb hby d5_43) rfl ?_
    refine XS.iconst X0.here hx rfl (hb hby d5_44) ?_
    refine XS.isub X0.here hx rfl (hb hby d5_45) rfl ?_
    show Steps p.tables e below (s₁.setTop (mkF m 46 #[.val (.ref a1), .val (.int p2), .val (.int (0 : Int32))] [(.int (-1 : Int32))])) _
    exact retI X0 hx Bd.returns (hb hby d5_46) hr
  · show Q_fnd_6d Z a1 p2 ka x0 x1 x2 x3 x4 x5 h0 n0 _ s₁.heap _
    rw [e0]
    exact ⟨rfl, rfl, rfl⟩
theorem d4_0 : decode prog_58_method_7_code 0 = .ok (.aload_n 0, 1) := by decide +kernel
theorem d4_1 : decode prog_58_method_7_code 1 = .ok (.getfield 9, 3) := by decide +kernel
theorem d4_4 : decode prog_58_method_7_code 4 = .ok (.iload_n 1, 1) := by decide +kernel
theorem d4_5 : decode prog_58_method_7_code 5 = .ok (.aaload, 1) := by decide +kernel
theorem d4_6 : decode prog_58_method_7_code 6 = .ok (.astore 5, 2) := by decide +kernel
theorem d4_8 : decode prog_58_method_7_code 8 = .ok (.aload 5, 2) := by decide +kernel
theorem d4_10 : decode prog_58_method_7_code 10 = .ok (.iload_n 2, 1) := by decide +kernel
theorem d4_11 : decode prog_58_method_7_code 11 = .ok (.invokestatic 39, 3) := by decide +kernel
theorem d4_14 : decode prog_58_method_7_code 14 = .ok (.istore 6, 2) := by decide +kernel
theorem d4_16 : decode prog_58_method_7_code 16 = .ok (.iload 6, 2) := by decide +kernel
theorem d4_18 : decode prog_58_method_7_code 18 = .ok (.ifCond .lt 24, 3) := by decide +kernel
theorem d4_42 : decode prog_58_method_7_code 42 = .ok (.iload 6, 2) := by decide +kernel
theorem d4_44 : decode prog_58_method_7_code 44 = .ok (.ineg, 1) := by decide +kernel
theorem d4_45 : decode prog_58_method_7_code 45 = .ok (.iconst 1, 1) := by decide +kernel
theorem d4_46 : decode prog_58_method_7_code 46 = .ok (.isub, 1) := by decide +kernel
theorem d4_47 : decode prog_58_method_7_code 47 = .ok (.istore 7, 2) := by decide +kernel
theorem d4_49 : decode prog_58_method_7_code 49 = .ok (.aload 5, 2) := by decide +kernel
theorem d4_51 : decode prog_58_method_7_code 51 = .ok (.arraylength, 1) := by decide +kernel
theorem d4_52 : decode prog_58_method_7_code 52 = .ok (.iconst 2, 1) := by decide +kernel
theorem d4_53 : decode prog_58_method_7_code 53 = .ok (.iadd, 1) := by decide +kernel
theorem d4_54 : decode prog_58_method_7_code 54 = .ok (.newarray .long, 2) := by decide +kernel
theorem d4_56 : decode prog_58_method_7_code 56 = .ok (.astore 8, 2) := by decide +kernel
theorem d4_58 : decode prog_58_method_7_code 58 = .ok (.aload 5, 2) := by decide +kernel
theorem d4_60 : decode prog_58_method_7_code 60 = .ok (.iconst 0, 1) := by decide +kernel
theorem d4_61 : decode prog_58_method_7_code 61 = .ok (.aload 8, 2) := by decide +kernel
theorem d4_63 : decode prog_58_method_7_code 63 = .ok (.iconst 0, 1) := by decide +kernel
theorem d4_64 : decode prog_58_method_7_code 64 = .ok (.iload 7, 2) := by decide +kernel
theorem d4_66 : decode prog_58_method_7_code 66 = .ok (.invokestatic 47, 3) := by decide +kernel
theorem d4_69 : decode prog_58_method_7_code 69 = .ok (.aload 8, 2) := by decide +kernel
theorem d4_71 : decode prog_58_method_7_code 71 = .ok (.iload 7, 2) := by decide +kernel
theorem d4_73 : decode prog_58_method_7_code 73 = .ok (.iload_n 2, 1) := by decide +kernel
theorem d4_74 : decode prog_58_method_7_code 74 = .ok (.i2l, 1) := by decide +kernel
theorem d4_75 : decode prog_58_method_7_code 75 = .ok (.lastore, 1) := by decide +kernel
theorem d4_76 : decode prog_58_method_7_code 76 = .ok (.aload 8, 2) := by decide +kernel
theorem d4_78 : decode prog_58_method_7_code 78 = .ok (.iload 7, 2) := by decide +kernel
theorem d4_80 : decode prog_58_method_7_code 80 = .ok (.iconst 1, 1) := by decide +kernel
theorem d4_81 : decode prog_58_method_7_code 81 = .ok (.iadd, 1) := by decide +kernel
theorem d4_82 : decode prog_58_method_7_code 82 = .ok (.lload_n 3, 1) := by decide +kernel
theorem d4_83 : decode prog_58_method_7_code 83 = .ok (.lastore, 1) := by decide +kernel
theorem d4_84 : decode prog_58_method_7_code 84 = .ok (.aload 5, 2) := by decide +kernel
theorem d4_86 : decode prog_58_method_7_code 86 = .ok (.iload 7, 2) := by decide +kernel
theorem d4_88 : decode prog_58_method_7_code 88 = .ok (.aload 8, 2) := by decide +kernel
theorem d4_90 : decode prog_58_method_7_code 90 = .ok (.iload 7, 2) := by decide +kernel
theorem d4_92 : decode prog_58_method_7_code 92 = .ok (.iconst 2, 1) := by decide +kernel
theorem d4_93 : decode prog_58_method_7_code 93 = .ok (.iadd, 1) := by decide +kernel
theorem d4_94 : decode prog_58_method_7_code 94 = .ok (.aload 5, 2) := by decide +kernel
theorem d4_96 : decode prog_58_method_7_code 96 = .ok (.arraylength, 1) := by decide +kernel
theorem d4_97 : decode prog_58_method_7_code 97 = .ok (.iload 7, 2) := by decide +kernel
theorem d4_99 : decode prog_58_method_7_code 99 = .ok (.isub, 1) := by decide +kernel
theorem d4_100 : decode prog_58_method_7_code 100 = .ok (.invokestatic 47, 3) := by decide +kernel
theorem d4_103 : decode prog_58_method_7_code 103 = .ok (.aload_n 0, 1) := by decide +kernel
theorem d4_104 : decode prog_58_method_7_code 104 = .ok (.getfield 9, 3) := by decide +kernel
theorem d4_107 : decode prog_58_method_7_code 107 = .ok (.iload_n 1, 1) := by decide +kernel
theorem d4_108 : decode prog_58_method_7_code 108 = .ok (.aload 8, 2) := by decide +kernel
theorem d4_110 : decode prog_58_method_7_code 110 = .ok (.aastore, 1) := by decide +kernel
theorem d4_111 : decode prog_58_method_7_code 111 = .ok (.return_, 1) := by decide +kernel
theorem pd0 : parseMethodDescriptor "([JI)I" = some ⟨[(.array .long), .int], some .int⟩ := by decide +kernel
theorem ef_add_0a (m : MethodId) (a1 : Addr) (p2 : Int32) (p3 : Int32) (q4 : Int64) : entryFrame m #[(.ref a1), (.int p2), (.int p3), (.long q4)] 9 = (mkF m 0 #[.val (.ref a1), .val (.int p2), .val (.int p3), .val (.long q4), .second, .unset, .unset, .unset, .unset] []) := by first | (simp [entryFrame, mkF, argsToLocals, Value.category]; done) | rfl
def Q_add_0a (Z : State) (a1 : Addr) (p2 : Int32) (p3 : Int32) (q4 : Int64) (rr : Addr) (kr : ClassId) (ro : Addr) (sg : Addr) (ka : ClassId) (h0 : Heap) (n0 : Nat) (v : Option Value) (h : Heap) (L : List Loc) : Prop := ∃ (b5 : Addr) (k5 : ClassId), v = none ∧ Fr n0 L ∧ Keep h0 h [rr] ∧ h0.size ≤ b5 ∧ Arv Z h rr kr (.array .long) (2 : Int32) (own_pair p2 (.ref b5) (.ref sg)) .null ∧ Exa Z h rr "[[J" ∧ Arv Z h b5 k5 .long (2 : Int32) [(.long (p3.toInt64)), (.long q4)] (.long (0 : Int64)) ∧ Exa Z h b5 "[J"
set_option maxRecDepth 65536 in
set_option maxHeartbeats 40000000 in
theorem rm_add_0a (l : Launch) (Z : State) (a0 : Array Value) (hw : ∀ d ∈ tables_1, d.before a0 Z = true) (ws : List Jvm.Cond) (a1 : Addr) (p2 : Int32) (p3 : Int32) (q4 : Int64) (rr : Addr) (kr : ClassId) (ro : Addr) (sg : Addr) (ka : ClassId) (h0 : Heap) (n0 : Nat) (Z0 : n0 ≤ h0.size) (F_rows : Fld Z h0 a1 "com/example/chartlight/chartlight/label/WeightRows" "_rows" "[[J" (.ref rr)) (V_rr : Arv Z h0 rr kr (.array .long) (2 : Int32) (own_pair p2 (.ref ro) (.ref sg)) .null) (E_rr : Exa Z h0 rr "[[J") (V_ro : Arv Z h0 ro ka .long (0 : Int32) [] (.long (0 : Int64))) (g_rr : n0 ≤ rr) (hri : p2 = (0 : Int32) ∨ p2 = (1 : Int32)) (hO : OvrA Z kr .long "[J") (hne_r : ro ≠ rr) :
    MetFree l (⟨"com/example/chartlight/chartlight/label/WeightRows", "add", "(IIJ)V"⟩ : MethodName) (head1 (Jvm.Cond.code (⟨"com/example/chartlight/chartlight/label/WeightRows", "add", "(IIJ)V"⟩ : MethodName) prog_58_method_7_code 9 none :: ws) ({ frames := 1, cells := 1, slots := 8, locals := 18 } : Room)) (fun a U => a = #[(.ref a1), (.int p2), (.int p3), (.long q4)] ∧ Z.Warmed39 U.vm ∧ U.heap = h0) (fun _ _ _ _ _ => True) (fun _ U o U' => ∃ v L, o = .returned v ∧ Q_add_0a Z a1 p2 p3 q4 rr kr ro sg ka h0 n0 v U'.heap L ∧ FrameEnd U o U' L ({ frames := 1, cells := 1, slots := 8, locals := 18 } : Room).cells ({ frames := 1, cells := 1, slots := 8, locals := 18 } : Room).slots) := by
  refine MetFree.of_bodySF (plainFor_of_name pn0) hisR ?_
  intro p e s m args below meth c s₁ Bd hml0 hP hK
  obtain ⟨rfl, hZ, hh⟩ := hP
  have hx := Bd.exec
  have hby := Bd.bytes
  have hml : c.maxLocals = 9 := hml0
  have hown : s.vm.findClass "com/example/chartlight/chartlight/label/WeightRows" = some m.cls := findClass_of_methodNamed Bd.named
  have hnm := (name_of_methodNamed Bd.named Bd.method).1
  have X0 : Stand p l e ({ frames := 1, cells := 1, slots := 8, locals := 18 } : Room) s m #[(.ref a1), (.int p2), (.int p3), (.long q4)] below meth c s₁ [] 0 0 := Stand.of_body Bd
  have e0 : s₁.heap = h0 := by rw [← hh, Bd.state]; rfl
  have N0 := Fr.nil n0
  have pre0 : ∀ t, Steps p.tables e below (s₁.setTop (mkF m 0 #[.val (.ref a1), .val (.int p2), .val (.int p3), .val (.long q4), .second, .unset, .unset, .unset, .unset] [])) t → Steps p.tables e below (s₁.setTop (entryFrame m #[(.ref a1), (.int p2), (.int p3), (.long q4)] 9)) t := fun t k => castTop (ef_add_0a m a1 p2 p3 q4) k
  obtain ⟨T1, X1, e1, st1⟩ := getF X0 hx hZ hown (host := "") (Or.inl (hw _ (List.mem_of_getElem? (i := 11) rfl))) Via.refl e0 F_rows (g := (mkF m 1 #[.val (.ref a1), .val (.int p2), .val (.int p3), .val (.long q4), .second, .unset, .unset, .unset, .unset] [(.ref a1)])) rfl rfl (hb hby d4_1)
  obtain ⟨cl_rr_5_2, Ar_rr_5_2, q_rr_5_2, S_rr_5_2, N_rr_5_2, H_rr_5_2, G_rr_5_2⟩ := id V_rr
  have hin_rr_5_2 : ¬ (p2 < 0 ∨ cl_rr_5_2.slots.size ≤ (p2 : Int32).toNatClampNeg) := by rcases hri with rfl | rfl <;> exact inb_of S_rr_5_2 ⟨by decide, by decide⟩
  obtain ⟨_, _, ⟨T3, L3, k3, n3⟩, -, X3, ⟨Lc3, hQ3, l3, y3, z3⟩, st3⟩ := Jvm.LawKit.callS X1 hx (y := (⟨"com/example/chartlight/chartlight/label/WeightRows", "find", "([JI)I"⟩ : MethodName)) hown (mvT hZ (hw _ (List.mem_of_getElem? (i := 27) rfl))) (mvT hZ (hw _ (List.mem_of_getElem? (i := 28) rfl))) (mvT hZ (hw _ (List.mem_of_getElem? (i := 2) rfl))) (mvT hZ (hw _ (List.mem_of_getElem? (i := 29) rfl))) (by decide) (backOf (W := 0) (rm_fnd_0a l Z a0 hw [] ro p3 ka h0 n0 (Nat.le_trans Z0 (Keep.refl h0 [rr]).1) V_ro ) hZ (hw _ (List.mem_of_getElem? (i := 29) rfl)) (hw _ (List.mem_of_getElem? (i := 2) rfl)) (by decide) (by decide)) (g := (mkF m 11 #[.val (.ref a1), .val (.int p2), .val (.int p3), .val (.long q4), .second, .val (.ref ro), .unset, .unset, .unset] [(.int p3), (.ref ro)])) rfl (by rw [hml]; rfl) (argsL := [(.ref ro), (.int p3)]) (rest := []) (lenOf pd0 rfl) rfl (by show 2 * 0 + _ ≤ _; exact Nat.le_of_eq rfl) (hb hby d4_11) (fun _ _ => ⟨rfl, e1, (by decide : 0 + 0 ≤ _), (by decide : 0 + 0 ≤ _)⟩)
  dsimp only [Pt.U, Pt.locs, Pt.cells, Pt.slots] at X3 l3 y3 z3 st3 hQ3
  subst l3 y3 z3
  obtain ⟨rfl, rfl, e3⟩ := hQ3
  have N3 := Fr.app N0 (Fr.nil n0)
  obtain ⟨cl_ro_51_4, Ar_ro_51_4, -, S_ro_51_4, N_ro_51_4, -, -⟩ := id V_ro
  obtain ⟨T5, h5, k5, X5, e5, E5, A5, B5, st5⟩ := newPE X3 hx hZ (hw _ (List.mem_of_getElem? (i := 30) rfl)) e3 (g := (mkF m 54 #[.val (.ref a1), .val (.int p2), .val (.int p3), .val (.long q4), .second, .val (.ref ro), .val (.int (-1 : Int32)), .val (.int (0 : Int32)), .unset] [(.int (2 : Int32))])) rfl (hb hby d4_54) rfl (by decide) (cap := 2) (by decide) (by decide) (by decide) (by decide) (ad := "[J") (by decide)
  obtain ⟨b5, g5⟩ : ∃ z, z = h0.size := ⟨_, rfl⟩
  rw [← g5] at A5 B5 st5
  have sz_b5 : h0.size ≤ b5 := Nat.le_trans (Keep.refl h0 [rr]).1 (Nat.le_of_eq g5.symm)
  have g_b5 : n0 ≤ b5 := Nat.le_trans Z0 sz_b5
  have K5 : Keep h0 h5 [rr] := (Keep.refl h0 [rr]).ext E5
  have V_b5 : Arv Z h5 b5 k5 .long (2 : Int32) [(.long (0 : Int64)), (.long (0 : Int64))] (.long (0 : Int64)) := (Arv.new A5 (by decide)).pad (pad_rep [] (.long (0 : Int64)) 2)
  obtain ⟨T6, h6, L6, X6, e6, N6, K6, V6, st6⟩ := cpA X5 hx hZ hown (hw _ (List.mem_of_getElem? (i := 31) rfl)) (hw _ (List.mem_of_getElem? (i := 34) rfl)) (hw _ (List.mem_of_getElem? (i := 32) rfl)) (hw _ (List.mem_of_getElem? (i := 33) rfl)) e5 (V_ro.ext E5) V_b5 (us := []) (Or.inl ⟨rfl, rfl⟩) (by decide) (by decide) (by decide) (by decide) (by decide) rfl (Nat.le_of_ble_eq_true rfl) N3 g_b5 (g := (mkF m 66 #[.val (.ref a1), .val (.int p2), .val (.int p3), .val (.long q4), .second, .val (.ref ro), .val (.int (-1 : Int32)), .val (.int (0 : Int32)), .val (.ref b5)] [(.int (0 : Int32)), (.int (0 : Int32)), (.ref b5), (.int (0 : Int32)), (.ref ro)])) rfl (by rw [hml]; rfl) rfl (hb hby d4_66) (by decide) (W := 0) (by show 2 * 0 + _ ≤ _; exact Nat.le_of_eq rfl) (by decide)
  have VV6 : Arv Z h6 b5 k5 .long (2 : Int32) [(.long (0 : Int64)), (.long (0 : Int64))] (.long (0 : Int64)) := V6
  have KK6 : Keep h0 h6 [rr] := K5.trans K6 (allS (Or.inr sz_b5) all0)
  obtain ⟨cl_b5_75_7, Ar_b5_75_7, q_b5_75_7, S_b5_75_7, N_b5_75_7, H_b5_75_7, G_b5_75_7⟩ := id VV6
  have hin_b5_75_7 : ¬ ((0 : Int32) < 0 ∨ cl_b5_75_7.slots.size ≤ ((0 : Int32) : Int32).toNatClampNeg) := inb_of S_b5_75_7 ⟨by decide, by decide⟩
  obtain ⟨T8, h8, X8, e8, W8, st8⟩ := stJ X6 hx hZ e6 Ar_b5_75_7 (j := (0 : Int32)) hin_b5_75_7 (g := (mkF m 75 #[.val (.ref a1), .val (.int p2), .val (.int p3), .val (.long q4), .second, .val (.ref ro), .val (.int (-1 : Int32)), .val (.int (0 : Int32)), .val (.ref b5)] [(.long (p3.toInt64)), (.int (0 : Int32)), (.ref b5)])) rfl rfl (hb hby d4_75)
  have V_b5_75_7 : Arv Z h8 b5 k5 .long (2 : Int32) [(.long (p3.toInt64)), (.long (0 : Int64))] (.long (0 : Int64)) := Arv.set Ar_b5_75_7 q_b5_75_7 S_b5_75_7 N_b5_75_7 H_b5_75_7 G_b5_75_7 rfl W8 0 rfl (Nat.le_of_ble_eq_true rfl)
  have K8 : Keep h0 h8 [rr] := KK6.wr W8 (Or.inr sz_b5)
  have N8 := Fr.snoc X8 N6 g_b5
  obtain ⟨cl_b5_83_9, Ar_b5_83_9, q_b5_83_9, S_b5_83_9, N_b5_83_9, H_b5_83_9, G_b5_83_9⟩ := id V_b5_75_7
  have hin_b5_83_9 : ¬ ((1 : Int32) < 0 ∨ cl_b5_83_9.slots.size ≤ ((1 : Int32) : Int32).toNatClampNeg) := inb_of S_b5_83_9 ⟨by decide, by decide⟩
  obtain ⟨T10, h10, X10, e10, W10, st10⟩ := stJ X8 hx hZ e8 Ar_b5_83_9 (j := (1 : Int32)) hin_b5_83_9 (g := (mkF m 83 #[.val (.ref a1), .val (.int p2), .val (.int p3), .val (.long q4), .second, .val (.ref ro), .val (.int (-1 : Int32)), .val (.int (0 : Int32)), .val (.ref b5)] [(.long q4), (.int (1 : Int32)), (.ref b5)])) rfl rfl (hb hby d4_83)
  have V_b5_83_9 : Arv Z h10 b5 k5 .long (2 : Int32) [(.long (p3.toInt64)), (.long q4)] (.long (0 : Int64)) := Arv.set Ar_b5_83_9 q_b5_83_9 S_b5_83_9 N_b5_83_9 H_b5_83_9 G_b5_83_9 rfl W10 1 rfl (Nat.le_of_ble_eq_true rfl)
  have K10 : Keep h0 h10 [rr] := K8.wr W10 (Or.inr sz_b5)
  have N10 := Fr.snoc X10 N8 g_b5
  obtain ⟨cl_ro_96_11, Ar_ro_96_11, -, S_ro_96_11, N_ro_96_11, -, -⟩ := id ((((V_ro.ext E5).keep K6 (ninS (Nat.ne_of_lt (Nat.lt_of_lt_of_le V_ro.lt (Nat.le_of_eq g5.symm))) nin0)).other W8 (Nat.ne_of_lt (Nat.lt_of_lt_of_le V_ro.lt (Nat.le_of_eq g5.symm)))).other W10 (Nat.ne_of_lt (Nat.lt_of_lt_of_le V_ro.lt (Nat.le_of_eq g5.symm))))
  obtain ⟨T12, h12, L12, X12, e12, N12, K12, V12, st12⟩ := cpA X10 hx hZ hown (hw _ (List.mem_of_getElem? (i := 31) rfl)) (hw _ (List.mem_of_getElem? (i := 34) rfl)) (hw _ (List.mem_of_getElem? (i := 32) rfl)) (hw _ (List.mem_of_getElem? (i := 33) rfl)) e10 ((((V_ro.ext E5).keep K6 (ninS (Nat.ne_of_lt (Nat.lt_of_lt_of_le V_ro.lt (Nat.le_of_eq g5.symm))) nin0)).other W8 (Nat.ne_of_lt (Nat.lt_of_lt_of_le V_ro.lt (Nat.le_of_eq g5.symm)))).other W10 (Nat.ne_of_lt (Nat.lt_of_lt_of_le V_ro.lt (Nat.le_of_eq g5.symm)))) V_b5_83_9 (us := []) (Or.inl ⟨rfl, rfl⟩) (by decide) (by decide) (by decide) (by decide) (by decide) rfl (Nat.le_of_ble_eq_true rfl) N10 g_b5 (g := (mkF m 100 #[.val (.ref a1), .val (.int p2), .val (.int p3), .val (.long q4), .second, .val (.ref ro), .val (.int (-1 : Int32)), .val (.int (0 : Int32)), .val (.ref b5)] [(.int (0 : Int32)), (.int (2 : Int32)), (.ref b5), (.int (0 : Int32)), (.ref ro)])) rfl (by rw [hml]; rfl) rfl (hb hby d4_100) (by decide) (W := 0) (by show 2 * 0 + _ ≤ _; exact Nat.le_of_eq rfl) (by decide)
  have VV12 : Arv Z h12 b5 k5 .long (2 : Int32) [(.long (p3.toInt64)), (.long q4)] (.long (0 : Int64)) := V12
  have KK12 : Keep h0 h12 [rr] := K10.trans K12 (allS (Or.inr sz_b5) all0)
  obtain ⟨T13, X13, e13, st13⟩ := getF X12 hx hZ hown (host := "") (Or.inl (hw _ (List.mem_of_getElem? (i := 11) rfl))) Via.refl e12 (((((F_rows.ext E5).keep K6 (ninS (Nat.ne_of_lt (Nat.lt_of_lt_of_le F_rows.lt (Nat.le_of_eq g5.symm))) nin0)).other W8 (Or.inl (Nat.ne_of_lt (Nat.lt_of_lt_of_le F_rows.lt (Nat.le_of_eq g5.symm))))).other W10 (Or.inl (Nat.ne_of_lt (Nat.lt_of_lt_of_le F_rows.lt (Nat.le_of_eq g5.symm))))).keep K12 (ninS (Nat.ne_of_lt (Nat.lt_of_lt_of_le F_rows.lt (Nat.le_of_eq g5.symm))) nin0)) (g := (mkF m 104 #[.val (.ref a1), .val (.int p2), .val (.int p3), .val (.long q4), .second, .val (.ref ro), .val (.int (-1 : Int32)), .val (.int (0 : Int32)), .val (.ref b5)] [(.ref a1)])) rfl rfl (hb hby d4_104)
  obtain ⟨cl_rr_110_14, Ar_rr_110_14, q_rr_110_14, S_rr_110_14, N_rr_110_14, H_rr_110_14, G_rr_110_14⟩ := id (((((V_rr.ext E5).keep K6 (ninS (Nat.ne_of_lt (Nat.lt_of_lt_of_le V_rr.lt (Nat.le_of_eq g5.symm))) nin0)).other W8 (Nat.ne_of_lt (Nat.lt_of_lt_of_le V_rr.lt (Nat.le_of_eq g5.symm)))).other W10 (Nat.ne_of_lt (Nat.lt_of_lt_of_le V_rr.lt (Nat.le_of_eq g5.symm)))).keep K12 (ninS (Nat.ne_of_lt (Nat.lt_of_lt_of_le V_rr.lt (Nat.le_of_eq g5.symm))) nin0))
  have hin_rr_110_14 : ¬ (p2 < 0 ∨ cl_rr_110_14.slots.size ≤ (p2 : Int32).toNatClampNeg) := by rcases hri with rfl | rfl <;> exact inb_of S_rr_110_14 ⟨by decide, by decide⟩
  obtain ⟨T15, h15, X15, e15, W15, st15⟩ := stR X13 hx hZ e13 Ar_rr_110_14 (j := p2) hin_rr_110_14 rfl (Sto.ofVA Ar_rr_110_14 q_rr_110_14 hO (Ins.self ((((B5.keep K6).wr W8).wr W10).keep K12))) (g := (mkF m 110 #[.val (.ref a1), .val (.int p2), .val (.int p3), .val (.long q4), .second, .val (.ref ro), .val (.int (-1 : Int32)), .val (.int (0 : Int32)), .val (.ref b5)] [(.ref b5), (.int p2), (.ref rr)])) rfl rfl (hb hby d4_110)
  have V_rr_110_14 : Arv Z h15 rr kr (.array .long) (2 : Int32) (own_pair p2 (.ref b5) (.ref sg)) .null := by
    rcases hri with rfl | rfl
    · exact Arv.set Ar_rr_110_14 q_rr_110_14 S_rr_110_14 N_rr_110_14 H_rr_110_14 G_rr_110_14 rfl W15 0 rfl (Nat.le_of_ble_eq_true rfl)
    · exact Arv.set Ar_rr_110_14 q_rr_110_14 S_rr_110_14 N_rr_110_14 H_rr_110_14 G_rr_110_14 rfl W15 1 rfl (Nat.le_of_ble_eq_true rfl)
  have K15 : Keep h0 h15 [rr] := KK12.wr W15 (Or.inl (List.mem_of_getElem? (i := 0) rfl))
  have N15 := Fr.snoc X15 N12 g_rr
  obtain ⟨fs, hr, hrun, hended, hW, hsame⟩ := X15.leave (v := none) (fun _ => rfl)
  refine ⟨_, _, pre0 _ ?_, hrun, hended, _, _, rfl, ?_, ⟨_, rfl⟩, hW, hsame.mono (by decide) (by decide)⟩
  · show Steps p.tables e below (s₁.setTop (mkF m 0 #[.val (.ref a1), .val (.int p2), .val (.int p3), .val (.long q4), .second, .unset, .unset, .unset, .unset] [])) _
    refine XS.aloadN X0.here hx rfl (hb hby d4_0) rfl rfl ?_
    show Steps p.tables e below (s₁.setTop (mkF m 1 #[.val (.ref a1), .val (.int p2), .val (.int p3), .val (.long q4), .second, .unset, .unset, .unset, .unset] [(.ref a1)])) _
    refine st1 _ ?_
    refine XS.iloadN X1.here hx rfl (hb hby d4_4) rfl ?_
    refine X1.aaload hx (j := p2) (v := (.ref ro)) (by rw [e1]; exact Ar_rr_5_2.1) (State.isArrayOf_alike hZ.alike Ar_rr_5_2.2.1) rfl Ar_rr_5_2.2.2 hin_rr_5_2 (by rcases hri with rfl | rfl <;> exact H_rr_5_2.at hin_rr_5_2 rfl) (g := (mkF m 5 #[.val (.ref a1), .val (.int p2), .val (.int p3), .val (.long q4), .second, .unset, .unset, .unset, .unset] [(.int p2), (.ref rr)])) rfl rfl (hb hby d4_5) _ ?_
    refine XS.astore X1.here hx rfl (hb hby d4_6) rfl rfl (l' := #[.val (.ref a1), .val (.int p2), .val (.int p3), .val (.long q4), .second, .val (.ref ro), .unset, .unset, .unset]) rfl ?_
    refine XS.aload X1.here hx rfl (hb hby d4_8) rfl rfl ?_
    refine XS.iloadN X1.here hx rfl (hb hby d4_10) rfl ?_
    show Steps p.tables e below (T1.setTop (mkF m 11 #[.val (.ref a1), .val (.int p2), .val (.int p3), .val (.long q4), .second, .val (.ref ro), .unset, .unset, .unset] [(.int p3), (.ref ro)])) _
    refine st3 _ ?_
    refine XS.istore X3.here hx rfl (hb hby d4_14) rfl (l' := #[.val (.ref a1), .val (.int p2), .val (.int p3), .val (.long q4), .second, .val (.ref ro), .val (.int (-1 : Int32)), .unset, .unset]) rfl ?_
    refine XS.iload X3.here hx rfl (hb hby d4_16) rfl ?_
    refine XS.ifYes X3.here hx rfl (pc0 := 18) (pc' := 42) rfl (hb hby d4_18) rfl ((if0 _ _).trans (tlt (by decide : (-1 : Int32) < (0 : Int32))).1) (by decide) (by decide) ?_
    refine XS.iload X3.here hx rfl (hb hby d4_42) rfl ?_
    refine XS.ineg X3.here hx rfl (hb hby d4_44) rfl ?_
    refine XS.iconst X3.here hx rfl (hb hby d4_45) ?_
    refine XS.isub X3.here hx rfl (hb hby d4_46) rfl ?_
    refine XS.istore X3.here hx rfl (hb hby d4_47) rfl (l' := #[.val (.ref a1), .val (.int p2), .val (.int p3), .val (.long q4), .second, .val (.ref ro), .val (.int (-1 : Int32)), .val (.int (0 : Int32)), .unset]) rfl ?_
    refine XS.aload X3.here hx rfl (hb hby d4_49) rfl rfl ?_
    refine X3.arraylength hx (by rw [e3]; exact Ar_ro_51_4.1) (State.isArrayOf_alike hZ.alike Ar_ro_51_4.2.1) (g := (mkF m 51 #[.val (.ref a1), .val (.int p2), .val (.int p3), .val (.long q4), .second, .val (.ref ro), .val (.int (-1 : Int32)), .val (.int (0 : Int32)), .unset] [(.ref ro)])) rfl rfl (hb hby d4_51) _ ?_
    rw [len_of S_ro_51_4 N_ro_51_4]
    refine XS.iconst X3.here hx rfl (hb hby d4_52) ?_
    refine XS.iadd X3.here hx rfl (hb hby d4_53) rfl ?_
    show Steps p.tables e below (T3.setTop (mkF m 54 #[.val (.ref a1), .val (.int p2), .val (.int p3), .val (.long q4), .second, .val (.ref ro), .val (.int (-1 : Int32)), .val (.int (0 : Int32)), .unset] [(.int (2 : Int32))])) _
    refine st5 _ ?_
    refine XS.astore X5.here hx rfl (hb hby d4_56) rfl rfl (l' := #[.val (.ref a1), .val (.int p2), .val (.int p3), .val (.long q4), .second, .val (.ref ro), .val (.int (-1 : Int32)), .val (.int (0 : Int32)), .val (.ref b5)]) rfl ?_
    refine XS.aload X5.here hx rfl (hb hby d4_58) rfl rfl ?_
    refine XS.iconst X5.here hx rfl (hb hby d4_60) ?_
    refine XS.aload X5.here hx rfl (hb hby d4_61) rfl rfl ?_
    refine XS.iconst X5.here hx rfl (hb hby d4_63) ?_
    refine XS.iload X5.here hx rfl (hb hby d4_64) rfl ?_
    show Steps p.tables e below (T5.setTop (mkF m 66 #[.val (.ref a1), .val (.int p2), .val (.int p3), .val (.long q4), .second, .val (.ref ro), .val (.int (-1 : Int32)), .val (.int (0 : Int32)), .val (.ref b5)] [(.int (0 : Int32)), (.int (0 : Int32)), (.ref b5), (.int (0 : Int32)), (.ref ro)])) _
    refine st6 _ ?_
    refine XS.aload X6.here hx rfl (hb hby d4_69) rfl rfl ?_
    refine XS.iload X6.here hx rfl (hb hby d4_71) rfl ?_
    refine XS.iloadN X6.here hx rfl (hb hby d4_73) rfl ?_
    refine XS.i2l X6.here hx rfl (hb hby d4_74) rfl ?_
    show Steps p.tables e below (T6.setTop (mkF m 75 #[.val (.ref a1), .val (.int p2), .val (.int p3), .val (.long q4), .second, .val (.ref ro), .val (.int (-1 : Int32)), .val (.int (0 : Int32)), .val (.ref b5)] [(.long (p3.toInt64)), (.int (0 : Int32)), (.ref b5)])) _
    refine st8 _ ?_
    refine XS.aload X8.here hx rfl (hb hby d4_76) rfl rfl ?_
    refine XS.iload X8.here hx rfl (hb hby d4_78) rfl ?_
    refine XS.iconst X8.here hx rfl (hb hby d4_80) ?_
    refine XS.iadd X8.here hx rfl (hb hby d4_81) rfl ?_
    refine XS.lloadN X8.here hx rfl (hb hby d4_82) rfl ?_
    show Steps p.tables e below (T8.setTop (mkF m 83 #[.val (.ref a1), .val (.int p2), .val (.int p3), .val (.long q4), .second, .val (.ref ro), .val (.int (-1 : Int32)), .val (.int (0 : Int32)), .val (.ref b5)] [(.long q4), (.int (1 : Int32)), (.ref b5)])) _
    refine st10 _ ?_
    refine XS.aload X10.here hx rfl (hb hby d4_84) rfl rfl ?_
    refine XS.iload X10.here hx rfl (hb hby d4_86) rfl ?_
    refine XS.aload X10.here hx rfl (hb hby d4_88) rfl rfl ?_
    refine XS.iload X10.here hx rfl (hb hby d4_90) rfl ?_
    refine XS.iconst X10.here hx rfl (hb hby d4_92) ?_
    refine XS.iadd X10.here hx rfl (hb hby d4_93) rfl ?_
    refine XS.aload X10.here hx rfl (hb hby d4_94) rfl rfl ?_
    show Steps p.tables e below (T10.setTop (mkF m 96 #[.val (.ref a1), .val (.int p2), .val (.int p3), .val (.long q4), .second, .val (.ref ro), .val (.int (-1 : Int32)), .val (.int (0 : Int32)), .val (.ref b5)] [(.ref ro), (.int (2 : Int32)), (.ref b5), (.int (0 : Int32)), (.ref ro)])) _
    refine X10.arraylength hx (by rw [e10]; exact Ar_ro_96_11.1) (State.isArrayOf_alike hZ.alike Ar_ro_96_11.2.1) (g := (mkF m 96 #[.val (.ref a1), .val (.int p2), .val (.int p3), .val (.long q4), .second, .val (.ref ro), .val (.int (-1 : Int32)), .val (.int (0 : Int32)), .val (.ref b5)] [(.ref ro), (.int (2 : Int32)), (.ref b5), (.int (0 : Int32)), (.ref ro)])) rfl rfl (hb hby d4_96) _ ?_
    rw [len_of S_ro_96_11 N_ro_96_11]
    refine XS.iload X10.here hx rfl (hb hby d4_97) rfl ?_
    refine XS.isub X10.here hx rfl (hb hby d4_99) rfl ?_
    show Steps p.tables e below (T10.setTop (mkF m 100 #[.val (.ref a1), .val (.int p2), .val (.int p3), .val (.long q4), .second, .val (.ref ro), .val (.int (-1 : Int32)), .val (.int (0 : Int32)), .val (.ref b5)] [(.int (0 : Int32)), (.int (2 : Int32)), (.ref b5), (.int (0 : Int32)), (.ref ro)])) _
    refine st12 _ ?_
    refine XS.aloadN X12.here hx rfl (hb hby d4_103) rfl rfl ?_
    show Steps p.tables e below (T12.setTop (mkF m 104 #[.val (.ref a1), .val (.int p2), .val (.int p3), .val (.long q4), .second, .val (.ref ro), .val (.int (-1 : Int32)), .val (.int (0 : Int32)), .val (.ref b5)] [(.ref a1)])) _
    refine st13 _ ?_
    refine XS.iloadN X13.here hx rfl (hb hby d4_107) rfl ?_
    refine XS.aload X13.here hx rfl (hb hby d4_108) rfl rfl ?_
    show Steps p.tables e below (T13.setTop (mkF m 110 #[.val (.ref a1), .val (.int p2), .val (.int p3), .val (.long q4), .second, .val (.ref ro), .val (.int (-1 : Int32)), .val (.int (0 : Int32)), .val (.ref b5)] [(.ref b5), (.int p2), (.ref rr)])) _
    refine st15 _ ?_
    show Steps p.tables e below (T15.setTop (mkF m 111 #[.val (.ref a1), .val (.int p2), .val (.int p3), .val (.long q4), .second, .val (.ref ro), .val (.int (-1 : Int32)), .val (.int (0 : Int32)), .val (.ref b5)] [])) _
    exact X15.returnOut hx Bd.returns (hb hby d4_111) hr
  · show Q_add_0a Z a1 p2 p3 q4 rr kr ro sg ka h0 n0 _ T15.heap _
    rw [e15]
    exact ⟨b5, k5, rfl, N15, K15, sz_b5, V_rr_110_14, ((((((E_rr.ext E5).keep K6).wr W8).wr W10).keep K12).wr W15), (VV12.other W15 (Ne.symm (Nat.ne_of_lt (Nat.lt_of_lt_of_le E_rr.lt (Nat.le_of_eq g5.symm))))), (((((B5.keep K6).wr W8).wr W10).keep K12).wr W15)⟩
theorem ef_add_2a (m : MethodId) (a1 : Addr) (p2 : Int32) (p3 : Int32) (q4 : Int64) : entryFrame m #[(.ref a1), (.int p2), (.int p3), (.long q4)] 9 = (mkF m 0 #[.val (.ref a1), .val (.int p2), .val (.int p3), .val (.long q4), .second, .unset, .unset, .unset, .unset] []) := by first | (simp [entryFrame, mkF, argsToLocals, Value.category]; done) | rfl
def Q_add_2a (Z : State) (a1 : Addr) (p2 : Int32) (p3 : Int32) (q4 : Int64) (rr : Addr) (kr : ClassId) (ro : Addr) (sg : Addr) (ka : ClassId) (x0 : Int64) (x1 : Int64) (h0 : Heap) (n0 : Nat) (v : Option Value) (h : Heap) (L : List Loc) : Prop := ∃ (b5 : Addr) (k5 : ClassId), v = none ∧ Fr n0 L ∧ Keep h0 h [rr] ∧ h0.size ≤ b5 ∧ Arv Z h rr kr (.array .long) (2 : Int32) (own_pair p2 (.ref b5) (.ref sg)) .null ∧ Exa Z h rr "[[J" ∧ Arv Z h b5 k5 .long (4 : Int32) [(.long x0), (.long x1), (.long (p3.toInt64)), (.long q4)] (.long (0 : Int64)) ∧ Exa Z h b5 "[J"
set_option maxRecDepth 65536 in
set_option maxHeartbeats 40000000 in
theorem rm_add_2a (l : Launch) (Z : State) (a0 : Array Value) (hw : ∀ d ∈ tables_1, d.before a0 Z = true) (ws : List Jvm.Cond) (a1 : Addr) (p2 : Int32) (p3 : Int32) (q4 : Int64) (rr : Addr) (kr : ClassId) (ro : Addr) (sg : Addr) (ka : ClassId) (x0 : Int64) (x1 : Int64) (h0 : Heap) (n0 : Nat) (Z0 : n0 ≤ h0.size) (F_rows : Fld Z h0 a1 "com/example/chartlight/chartlight/label/WeightRows" "_rows" "[[J" (.ref rr)) (V_rr : Arv Z h0 rr kr (.array .long) (2 : Int32) (own_pair p2 (.ref ro) (.ref sg)) .null) (E_rr : Exa Z h0 rr "[[J") (V_ro : Arv Z h0 ro ka .long (2 : Int32) [(.long x0), (.long x1)] (.long (0 : Int64))) (g_rr : n0 ≤ rr) (hri : p2 = (0 : Int32) ∨ p2 = (1 : Int32)) (hO : OvrA Z kr .long "[J") (hne_r : ro ≠ rr) (hl0 : (lcmpW x0 (p3.toInt64)) < (0 : Int32)) :
    MetFree l (⟨"com/example/chartlight/chartlight/label/WeightRows", "add", "(IIJ)V"⟩ : MethodName) (head1 (Jvm.Cond.code (⟨"com/example/chartlight/chartlight/label/WeightRows", "add", "(IIJ)V"⟩ : MethodName) prog_58_method_7_code 9 none :: ws) ({ frames := 1, cells := 1, slots := 8, locals := 18 } : Room)) (fun a U => a = #[(.ref a1), (.int p2), (.int p3), (.long q4)] ∧ Z.Warmed39 U.vm ∧ U.heap = h0) (fun _ _ _ _ _ => True) (fun _ U o U' => ∃ v L, o = .returned v ∧ Q_add_2a Z a1 p2 p3 q4 rr kr ro sg ka x0 x1 h0 n0 v U'.heap L ∧ FrameEnd U o U' L ({ frames := 1, cells := 1, slots := 8, locals := 18 } : Room).cells ({ frames := 1, cells := 1, slots := 8, locals := 18 } : Room).slots) := by
  refine MetFree.of_bodySF (plainFor_of_name pn0) hisR ?_
  intro p e s m args below meth c s₁ Bd hml0 hP hK
  obtain ⟨rfl, hZ, hh⟩ := hP
  have hx := Bd.exec
  have hby := Bd.bytes
  have hml : c.maxLocals = 9 := hml0
  have hown : s.vm.findClass "com/example/chartlight/chartlight/label/WeightRows" = some m.cls := findClass_of_methodNamed Bd.named
  have hnm := (name_of_methodNamed Bd.named Bd.method).1
  have X0 : Stand p l e ({ frames := 1, cells := 1, slots := 8, locals := 18 } : Room) s m #[(.ref a1), (.int p2), (.int p3), (.long q4)] below meth c s₁ [] 0 0 := Stand.of_body Bd
  have e0 : s₁.heap = h0 := by rw [← hh, Bd.state]; rfl
  have N0 := Fr.nil n0
  have pre0 : ∀ t, Steps p.tables e below (s₁.setTop (mkF m 0 #[.val (.ref a1), .val (.int p2), .val (.int p3), .val (.long q4), .second, .unset, .unset, .unset, .unset] [])) t → Steps p.tables e below (s₁.setTop (entryFrame m #[(.ref a1), (.int p2), (.int p3), (.long q4)] 9)) t := fun t k => castTop (ef_add_2a m a1 p2 p3 q4) k
  obtain ⟨T1, X1, e1, st1⟩ := getF X0 hx hZ hown (host := "") (Or.inl (hw _ (List.mem_of_getElem? (i := 11) rfl))) Via.refl e0 F_rows (g := (mkF m 1 #[.val (.ref a1), .val (.int p2), .val (.int p3), .val (.long q4), .second, .unset, .unset, .unset, .unset] [(.ref a1)])) rfl rfl (hb hby d4_1)
  obtain ⟨cl_rr_5_2, Ar_rr_5_2, q_rr_5_2, S_rr_5_2, N_rr_5_2, H_rr_5_2, G_rr_5_2⟩ := id V_rr
  have hin_rr_5_2 : ¬ (p2 < 0 ∨ cl_rr_5_2.slots.size ≤ (p2 : Int32).toNatClampNeg) := by rcases hri with rfl | rfl <;> exact inb_of S_rr_5_2 ⟨by decide, by decide⟩
  obtain ⟨_, _, ⟨T3, L3, k3, n3⟩, -, X3, ⟨Lc3, hQ3, l3, y3, z3⟩, st3⟩ := Jvm.LawKit.callS X1 hx (y := (⟨"com/example/chartlight/chartlight/label/WeightRows", "find", "([JI)I"⟩ : MethodName)) hown (mvT hZ (hw _ (List.mem_of_getElem? (i := 27) rfl))) (mvT hZ (hw _ (List.mem_of_getElem? (i := 28) rfl))) (mvT hZ (hw _ (List.mem_of_getElem? (i := 2) rfl))) (mvT hZ (hw _ (List.mem_of_getElem? (i := 29) rfl))) (by decide) (backOf (W := 0) (rm_fnd_2a l Z a0 hw [] ro p3 ka x0 x1 h0 n0 (Nat.le_trans Z0 (Keep.refl h0 [rr]).1) V_ro (hl0 : (lcmpW x0 (p3.toInt64)) < (0 : Int32))) hZ (hw _ (List.mem_of_getElem? (i := 29) rfl)) (hw _ (List.mem_of_getElem? (i := 2) rfl)) (by decide) (by decide)) (g := (mkF m 11 #[.val (.ref a1), .val (.int p2), .val (.int p3), .val (.long q4), .second, .val (.ref ro), .unset, .unset, .unset] [(.int p3), (.ref ro)])) rfl (by rw [hml]; rfl) (argsL := [(.ref ro), (.int p3)]) (rest := []) (lenOf pd0 rfl) rfl (by show 2 * 0 + _ ≤ _; exact Nat.le_of_eq rfl) (hb hby d4_11) (fun _ _ => ⟨rfl, e1, (by decide : 0 + 0 ≤ _), (by decide : 0 + 0 ≤ _)⟩)
  dsimp only [Pt.U, Pt.locs, Pt.cells, Pt.slots] at X3 l3 y3 z3 st3 hQ3
  subst l3 y3 z3
  obtain ⟨rfl, rfl, e3⟩ := hQ3
  have N3 := Fr.app N0 (Fr.nil n0)
  obtain ⟨cl_ro_51_4, Ar_ro_51_4, -, S_ro_51_4, N_ro_51_4, -, -⟩ := id V_ro
  obtain ⟨T5, h5, k5, X5, e5, E5, A5, B5, st5⟩ := newPE X3 hx hZ (hw _ (List.mem_of_getElem? (i := 30) rfl)) e3 (g := (mkF m 54 #[.val (.ref a1), .val (.int p2), .val (.int p3), .val (.long q4), .second, .val (.ref ro), .val (.int (-3 : Int32)), .val (.int (2 : Int32)), .unset] [(.int (4 : Int32))])) rfl (hb hby d4_54) rfl (by decide) (cap := 4) (by decide) (by decide) (by decide) (by decide) (ad := "[J") (by decide)
  obtain ⟨b5, g5⟩ : ∃ z, z = h0.size := ⟨_, rfl⟩
  rw [← g5] at A5 B5 st5
  have sz_b5 : h0.size ≤ b5 := Nat.le_trans (Keep.refl h0 [rr]).1 (Nat.le_of_eq g5.symm)
  have g_b5 : n0 ≤ b5 := Nat.le_trans Z0 sz_b5
  have K5 : Keep h0 h5 [rr] := (Keep.refl h0 [rr]).ext E5
  have V_b5 : Arv Z h5 b5 k5 .long (4 : Int32) [(.long (0 : Int64)), (.long (0 : Int64)), (.long (0 : Int64)), (.long (0 : Int64))] (.long (0 : Int64)) := (Arv.new A5 (by decide)).pad (pad_rep [] (.long (0 : Int64)) 4)
  obtain ⟨T6, h6, L6, X6, e6, N6, K6, V6, st6⟩ := cpA X5 hx hZ hown (hw _ (List.mem_of_getElem? (i := 31) rfl)) (hw _ (List.mem_of_getElem? (i := 34) rfl)) (hw _ (List.mem_of_getElem? (i := 32) rfl)) (hw _ (List.mem_of_getElem? (i := 33) rfl)) e5 (V_ro.ext E5) V_b5 (us := [(.long x0), (.long x1)]) (Or.inl ⟨rfl, rfl⟩) (by decide) (by decide) (by decide) (by decide) (by decide) rfl (Nat.le_of_ble_eq_true rfl) N3 g_b5 (g := (mkF m 66 #[.val (.ref a1), .val (.int p2), .val (.int p3), .val (.long q4), .second, .val (.ref ro), .val (.int (-3 : Int32)), .val (.int (2 : Int32)), .val (.ref b5)] [(.int (2 : Int32)), (.int (0 : Int32)), (.ref b5), (.int (0 : Int32)), (.ref ro)])) rfl (by rw [hml]; rfl) rfl (hb hby d4_66) (by decide) (W := 0) (by show 2 * 0 + _ ≤ _; exact Nat.le_of_eq rfl) (by decide)
  have VV6 : Arv Z h6 b5 k5 .long (4 : Int32) [(.long x0), (.long x1), (.long (0 : Int64)), (.long (0 : Int64))] (.long (0 : Int64)) := V6
  have KK6 : Keep h0 h6 [rr] := K5.trans K6 (allS (Or.inr sz_b5) all0)
  obtain ⟨cl_b5_75_7, Ar_b5_75_7, q_b5_75_7, S_b5_75_7, N_b5_75_7, H_b5_75_7, G_b5_75_7⟩ := id VV6
  have hin_b5_75_7 : ¬ ((2 : Int32) < 0 ∨ cl_b5_75_7.slots.size ≤ ((2 : Int32) : Int32).toNatClampNeg) := inb_of S_b5_75_7 ⟨by decide, by decide⟩
  obtain ⟨T8, h8, X8, e8, W8, st8⟩ := stJ X6 hx hZ e6 Ar_b5_75_7 (j := (2 : Int32)) hin_b5_75_7 (g := (mkF m 75 #[.val (.ref a1), .val (.int p2), .val (.int p3), .val (.long q4), .second, .val (.ref ro), .val (.int (-3 : Int32)), .val (.int (2 : Int32)), .val (.ref b5)] [(.long (p3.toInt64)), (.int (2 : Int32)), (.ref b5)])) rfl rfl (hb hby d4_75)
  have V_b5_75_7 : Arv Z h8 b5 k5 .long (4 : Int32) [(.long x0), (.long x1), (.long (p3.toInt64)), (.long (0 : Int64))] (.long (0 : Int64)) := Arv.set Ar_b5_75_7 q_b5_75_7 S_b5_75_7 N_b5_75_7 H_b5_75_7 G_b5_75_7 rfl W8 2 rfl (Nat.le_of_ble_eq_true rfl)
  have K8 : Keep h0 h8 [rr] := KK6.wr W8 (Or.inr sz_b5)
  have N8 := Fr.snoc X8 N6 g_b5
  obtain ⟨cl_b5_83_9, Ar_b5_83_9, q_b5_83_9, S_b5_83_9, N_b5_83_9, H_b5_83_9, G_b5_83_9⟩ := id V_b5_75_7
  have hin_b5_83_9 : ¬ ((3 : Int32) < 0 ∨ cl_b5_83_9.slots.size ≤ ((3 : Int32) : Int32).toNatClampNeg) := inb_of S_b5_83_9 ⟨by decide, by decide⟩
  obtain ⟨T10, h10, X10, e10, W10, st10⟩ := stJ X8 hx hZ e8 Ar_b5_83_9 (j := (3 : Int32)) hin_b5_83_9 (g := (mkF m 83 #[.val (.ref a1), .val (.int p2), .val (.int p3), .val (.long q4), .second, .val (.ref ro), .val (.int (-3 : Int32)), .val (.int (2 : Int32)), .val (.ref b5)] [(.long q4), (.int (3 : Int32)), (.ref b5)])) rfl rfl (hb hby d4_83)
  have V_b5_83_9 : Arv Z h10 b5 k5 .long (4 : Int32) [(.long x0), (.long x1), (.long (p3.toInt64)), (.long q4)] (.long (0 : Int64)) := Arv.set Ar_b5_83_9 q_b5_83_9 S_b5_83_9 N_b5_83_9 H_b5_83_9 G_b5_83_9 rfl W10 3 rfl (Nat.le_of_ble_eq_true rfl)
  have K10 : Keep h0 h10 [rr] := K8.wr W10 (Or.inr sz_b5)
  have N10 := Fr.snoc X10 N8 g_b5
  obtain ⟨cl_ro_96_11, Ar_ro_96_11, -, S_ro_96_11, N_ro_96_11, -, -⟩ := id ((((V_ro.ext E5).keep K6 (ninS (Nat.ne_of_lt (Nat.lt_of_lt_of_le V_ro.lt (Nat.le_of_eq g5.symm))) nin0)).other W8 (Nat.ne_of_lt (Nat.lt_of_lt_of_le V_ro.lt (Nat.le_of_eq g5.symm)))).other W10 (Nat.ne_of_lt (Nat.lt_of_lt_of_le V_ro.lt (Nat.le_of_eq g5.symm))))
  obtain ⟨T12, h12, L12, X12, e12, N12, K12, V12, st12⟩ := cpA X10 hx hZ hown (hw _ (List.mem_of_getElem? (i := 31) rfl)) (hw _ (List.mem_of_getElem? (i := 34) rfl)) (hw _ (List.mem_of_getElem? (i := 32) rfl)) (hw _ (List.mem_of_getElem? (i := 33) rfl)) e10 ((((V_ro.ext E5).keep K6 (ninS (Nat.ne_of_lt (Nat.lt_of_lt_of_le V_ro.lt (Nat.le_of_eq g5.symm))) nin0)).other W8 (Nat.ne_of_lt (Nat.lt_of_lt_of_le V_ro.lt (Nat.le_of_eq g5.symm)))).other W10 (Nat.ne_of_lt (Nat.lt_of_lt_of_le V_ro.lt (Nat.le_of_eq g5.symm)))) V_b5_83_9 (us := []) (Or.inl ⟨rfl, rfl⟩) (by decide) (by decide) (by decide) (by decide) (by decide) rfl (Nat.le_of_ble_eq_true rfl) N10 g_b5 (g := (mkF m 100 #[.val (.ref a1), .val (.int p2), .val (.int p3), .val (.long q4), .second, .val (.ref ro), .val (.int (-3 : Int32)), .val (.int (2 : Int32)), .val (.ref b5)] [(.int (0 : Int32)), (.int (4 : Int32)), (.ref b5), (.int (2 : Int32)), (.ref ro)])) rfl (by rw [hml]; rfl) rfl (hb hby d4_100) (by decide) (W := 0) (by show 2 * 0 + _ ≤ _; exact Nat.le_of_eq rfl) (by decide)
  have VV12 : Arv Z h12 b5 k5 .long (4 : Int32) [(.long x0), (.long x1), (.long (p3.toInt64)), (.long q4)] (.long (0 : Int64)) := V12
  have KK12 : Keep h0 h12 [rr] := K10.trans K12 (allS (Or.inr sz_b5) all0)
  obtain ⟨T13, X13, e13, st13⟩ := getF X12 hx hZ hown (host := "") (Or.inl (hw _ (List.mem_of_getElem? (i := 11) rfl))) Via.refl e12 (((((F_rows.ext E5).keep K6 (ninS (Nat.ne_of_lt (Nat.lt_of_lt_of_le F_rows.lt (Nat.le_of_eq g5.symm))) nin0)).other W8 (Or.inl (Nat.ne_of_lt (Nat.lt_of_lt_of_le F_rows.lt (Nat.le_of_eq g5.symm))))).other W10 (Or.inl (Nat.ne_of_lt (Nat.lt_of_lt_of_le F_rows.lt (Nat.le_of_eq g5.symm))))).keep K12 (ninS (Nat.ne_of_lt (Nat.lt_of_lt_of_le F_rows.lt (Nat.le_of_eq g5.symm))) nin0)) (g := (mkF m 104 #[.val (.ref a1), .val (.int p2), .val (.int p3), .val (.long q4), .second, .val (.ref ro), .val (.int (-3 : Int32)), .val (.int (2 : Int32)), .val (.ref b5)] [(.ref a1)])) rfl rfl (hb hby d4_104)
  obtain ⟨cl_rr_110_14, Ar_rr_110_14, q_rr_110_14, S_rr_110_14, N_rr_110_14, H_rr_110_14, G_rr_110_14⟩ := id (((((V_rr.ext E5).keep K6 (ninS (Nat.ne_of_lt (Nat.lt_of_lt_of_le V_rr.lt (Nat.le_of_eq g5.symm))) nin0)).other W8 (Nat.ne_of_lt (Nat.lt_of_lt_of_le V_rr.lt (Nat.le_of_eq g5.symm)))).other W10 (Nat.ne_of_lt (Nat.lt_of_lt_of_le V_rr.lt (Nat.le_of_eq g5.symm)))).keep K12 (ninS (Nat.ne_of_lt (Nat.lt_of_lt_of_le V_rr.lt (Nat.le_of_eq g5.symm))) nin0))
  have hin_rr_110_14 : ¬ (p2 < 0 ∨ cl_rr_110_14.slots.size ≤ (p2 : Int32).toNatClampNeg) := by rcases hri with rfl | rfl <;> exact inb_of S_rr_110_14 ⟨by decide, by decide⟩
  obtain ⟨T15, h15, X15, e15, W15, st15⟩ := stR X13 hx hZ e13 Ar_rr_110_14 (j := p2) hin_rr_110_14 rfl (Sto.ofVA Ar_rr_110_14 q_rr_110_14 hO (Ins.self ((((B5.keep K6).wr W8).wr W10).keep K12))) (g := (mkF m 110 #[.val (.ref a1), .val (.int p2), .val (.int p3), .val (.long q4), .second, .val (.ref ro), .val (.int (-3 : Int32)), .val (.int (2 : Int32)), .val (.ref b5)] [(.ref b5), (.int p2), (.ref rr)])) rfl rfl (hb hby d4_110)
  have V_rr_110_14 : Arv Z h15 rr kr (.array .long) (2 : Int32) (own_pair p2 (.ref b5) (.ref sg)) .null := by
    rcases hri with rfl | rfl
    · exact Arv.set Ar_rr_110_14 q_rr_110_14 S_rr_110_14 N_rr_110_14 H_rr_110_14 G_rr_110_14 rfl W15 0 rfl (Nat.le_of_ble_eq_true rfl)
    · exact Arv.set Ar_rr_110_14 q_rr_110_14 S_rr_110_14 N_rr_110_14 H_rr_110_14 G_rr_110_14 rfl W15 1 rfl (Nat.le_of_ble_eq_true rfl)
  have K15 : Keep h0 h15 [rr] := KK12.wr W15 (Or.inl (List.mem_of_getElem? (i := 0) rfl))
  have N15 := Fr.snoc X15 N12 g_rr
  obtain ⟨fs, hr, hrun, hended, hW, hsame⟩ := X15.leave (v := none) (fun _ => rfl)
  refine ⟨_, _, pre0 _ ?_, hrun, hended, _, _, rfl, ?_, ⟨_, rfl⟩, hW, hsame.mono (by decide) (by decide)⟩
  · show Steps p.tables e below (s₁.setTop (mkF m 0 #[.val (.ref a1), .val (.int p2), .val (.int p3), .val (.long q4), .second, .unset, .unset, .unset, .unset] [])) _
    refine XS.aloadN X0.here hx rfl (hb hby d4_0) rfl rfl ?_
    show Steps p.tables e below (s₁.setTop (mkF m 1 #[.val (.ref a1), .val (.int p2), .val (.int p3), .val (.long q4), .second, .unset, .unset, .unset, .unset] [(.ref a1)])) _
    refine st1 _ ?_
    refine XS.iloadN X1.here hx rfl (hb hby d4_4) rfl ?_
    refine X1.aaload hx (j := p2) (v := (.ref ro)) (by rw [e1]; exact Ar_rr_5_2.1) (State.isArrayOf_alike hZ.alike Ar_rr_5_2.2.1) rfl Ar_rr_5_2.2.2 hin_rr_5_2 (by rcases hri with rfl | rfl <;> exact H_rr_5_2.at hin_rr_5_2 rfl) (g := (mkF m 5 #[.val (.ref a1), .val (.int p2), .val (.int p3), .val (.long q4), .second, .unset, .unset, .unset, .unset] [(.int p2), (.ref rr)])) rfl rfl (hb hby d4_5) _ ?_
    refine XS.astore X1.here hx rfl (hb hby d4_6) rfl rfl (l' := #[.val (.ref a1), .val (.int p2), .val (.int p3), .val (.long q4), .second, .val (.ref ro), .unset, .unset, .unset]) rfl ?_
    refine XS.aload X1.here hx rfl (hb hby d4_8) rfl rfl ?_
    refine XS.iloadN X1.here hx rfl (hb hby d4_10) rfl ?_
    show Steps p.tables e below (T1.setTop (mkF m 11 #[.val (.ref a1), .val (.int p2), .val (.int p3), .val (.long q4), .second, .val (.ref ro), .unset, .unset, .unset] [(.int p3), (.ref ro)])) _
    refine st3 _ ?_
    refine XS.istore X3.here hx rfl (hb hby d4_14) rfl (l' := #[.val (.ref a1), .val (.int p2), .val (.int p3), .val (.long q4), .second, .val (.ref ro), .val (.int (-3 : Int32)), .unset, .unset]) rfl ?_
    refine XS.iload X3.here hx rfl (hb hby d4_16) rfl ?_
    refine XS.ifYes X3.here hx rfl (pc0 := 18) (pc' := 42) rfl (hb hby d4_18) rfl ((if0 _ _).trans (tlt (by decide : (-3 : Int32) < (0 : Int32))).1) (by decide) (by decide) ?_
    refine XS.iload X3.here hx rfl (hb hby d4_42) rfl ?_
    refine XS.ineg X3.here hx rfl (hb hby d4_44) rfl ?_
    refine XS.iconst X3.here hx rfl (hb hby d4_45) ?_
    refine XS.isub X3.here hx rfl (hb hby d4_46) rfl ?_
    refine XS.istore X3.here hx rfl (hb hby d4_47) rfl (l' := #[.val (.ref a1), .val (.int p2), .val (.int p3), .val (.long q4), .second, .val (.ref ro), .val (.int (-3 : Int32)), .val (.int (2 : Int32)), .unset]) rfl ?_
    refine XS.aload X3.here hx rfl (hb hby d4_49) rfl rfl ?_
    refine X3.arraylength hx (by rw [e3]; exact Ar_ro_51_4.1) (State.isArrayOf_alike hZ.alike Ar_ro_51_4.2.1) (g := (mkF m 51 #[.val (.ref a1), .val (.int p2), .val (.int p3), .val (.long q4), .second, .val (.ref ro), .val (.int (-3 : Int32)), .val (.int (2 : Int32)), .unset] [(.ref ro)])) rfl rfl (hb hby d4_51) _ ?_
    rw [len_of S_ro_51_4 N_ro_51_4]
    refine XS.iconst X3.here hx rfl (hb hby d4_52) ?_
    refine XS.iadd X3.here hx rfl (hb hby d4_53) rfl ?_
    show Steps p.tables e below (T3.setTop (mkF m 54 #[.val (.ref a1), .val (.int p2), .val (.int p3), .val (.long q4), .second, .val (.ref ro), .val (.int (-3 : Int32)), .val (.int (2 : Int32)), .unset] [(.int (4 : Int32))])) _
    refine st5 _ ?_
    refine XS.astore X5.here hx rfl (hb hby d4_56) rfl rfl (l' := #[.val (.ref a1), .val (.int p2), .val (.int p3), .val (.long q4), .second, .val (.ref ro), .val (.int (-3 : Int32)), .val (.int (2 : Int32)), .val (.ref b5)]) rfl ?_
    refine XS.aload X5.here hx rfl (hb hby d4_58) rfl rfl ?_
    refine XS.iconst X5.here hx rfl (hb hby d4_60) ?_
    refine XS.aload X5.here hx rfl (hb hby d4_61) rfl rfl ?_
    refine XS.iconst X5.here hx rfl (hb hby d4_63) ?_
    refine XS.iload X5.here hx rfl (hb hby d4_64) rfl ?_
    show Steps p.tables e below (T5.setTop (mkF m 66 #[.val (.ref a1), .val (.int p2), .val (.int p3), .val (.long q4), .second, .val (.ref ro), .val (.int (-3 : Int32)), .val (.int (2 : Int32)), .val (.ref b5)] [(.int (2 : Int32)), (.int (0 : Int32)), (.ref b5), (.int (0 : Int32)), (.ref ro)])) _
    refine st6 _ ?_
    refine XS.aload X6.here hx rfl (hb hby d4_69) rfl rfl ?_
    refine XS.iload X6.here hx rfl (hb hby d4_71) rfl ?_
    refine XS.iloadN X6.here hx rfl (hb hby d4_73) rfl ?_
    refine XS.i2l X6.here hx rfl (hb hby d4_74) rfl ?_
    show Steps p.tables e below (T6.setTop (mkF m 75 #[.val (.ref a1), .val (.int p2), .val (.int p3), .val (.long q4), .second, .val (.ref ro), .val (.int (-3 : Int32)), .val (.int (2 : Int32)), .val (.ref b5)] [(.long (p3.toInt64)), (.int (2 : Int32)), (.ref b5)])) _
    refine st8 _ ?_
    refine XS.aload X8.here hx rfl (hb hby d4_76) rfl rfl ?_
    refine XS.iload X8.here hx rfl (hb hby d4_78) rfl ?_
    refine XS.iconst X8.here hx rfl (hb hby d4_80) ?_
    refine XS.iadd X8.here hx rfl (hb hby d4_81) rfl ?_
    refine XS.lloadN X8.here hx rfl (hb hby d4_82) rfl ?_
    show Steps p.tables e below (T8.setTop (mkF m 83 #[.val (.ref a1), .val (.int p2), .val (.int p3), .val (.long q4), .second, .val (.ref ro), .val (.int (-3 : Int32)), .val (.int (2 : Int32)), .val (.ref b5)] [(.long q4), (.int (3 : Int32)), (.ref b5)])) _
    refine st10 _ ?_
    refine XS.aload X10.here hx rfl (hb hby d4_84) rfl rfl ?_
    refine XS.iload X10.here hx rfl (hb hby d4_86) rfl ?_
    refine XS.aload X10.here hx rfl (hb hby d4_88) rfl rfl ?_
    refine XS.iload X10.here hx rfl (hb hby d4_90) rfl ?_
    refine XS.iconst X10.here hx rfl (hb hby d4_92) ?_
    refine XS.iadd X10.here hx rfl (hb hby d4_93) rfl ?_
    refine XS.aload X10.here hx rfl (hb hby d4_94) rfl rfl ?_
    show Steps p.tables e below (T10.setTop (mkF m 96 #[.val (.ref a1), .val (.int p2), .val (.int p3), .val (.long q4), .second, .val (.ref ro), .val (.int (-3 : Int32)), .val (.int (2 : Int32)), .val (.ref b5)] [(.ref ro), (.int (4 : Int32)), (.ref b5), (.int (2 : Int32)), (.ref ro)])) _
    refine X10.arraylength hx (by rw [e10]; exact Ar_ro_96_11.1) (State.isArrayOf_alike hZ.alike Ar_ro_96_11.2.1) (g := (mkF m 96 #[.val (.ref a1), .val (.int p2), .val (.int p3), .val (.long q4), .second, .val (.ref ro), .val (.int (-3 : Int32)), .val (.int (2 : Int32)), .val (.ref b5)] [(.ref ro), (.int (4 : Int32)), (.ref b5), (.int (2 : Int32)), (.ref ro)])) rfl rfl (hb hby d4_96) _ ?_
    rw [len_of S_ro_96_11 N_ro_96_11]
    refine XS.iload X10.here hx rfl (hb hby d4_97) rfl ?_
    refine XS.isub X10.here hx rfl (hb hby d4_99) rfl ?_
    show Steps p.tables e below (T10.setTop (mkF m 100 #[.val (.ref a1), .val (.int p2), .val (.int p3), .val (.long q4), .second, .val (.ref ro), .val (.int (-3 : Int32)), .val (.int (2 : Int32)), .val (.ref b5)] [(.int (0 : Int32)), (.int (4 : Int32)), (.ref b5), (.int (2 : Int32)), (.ref ro)])) _
    refine st12 _ ?_
    refine XS.aloadN X12.here hx rfl (hb hby d4_103) rfl rfl ?_
    show Steps p.tables e below (T12.setTop (mkF m 104 #[.val (.ref a1), .val (.int p2), .val (.int p3), .val (.long q4), .second, .val (.ref ro), .val (.int (-3 : Int32)), .val (.int (2 : Int32)), .val (.ref b5)] [(.ref a1)])) _
    refine st13 _ ?_
    refine XS.iloadN X13.here hx rfl (hb hby d4_107) rfl ?_
    refine XS.aload X13.here hx rfl (hb hby d4_108) rfl rfl ?_
    show Steps p.tables e below (T13.setTop (mkF m 110 #[.val (.ref a1), .val (.int p2), .val (.int p3), .val (.long q4), .second, .val (.ref ro), .val (.int (-3 : Int32)), .val (.int (2 : Int32)), .val (.ref b5)] [(.ref b5), (.int p2), (.ref rr)])) _
    refine st15 _ ?_
    show Steps p.tables e below (T15.setTop (mkF m 111 #[.val (.ref a1), .val (.int p2), .val (.int p3), .val (.long q4), .second, .val (.ref ro), .val (.int (-3 : Int32)), .val (.int (2 : Int32)), .val (.ref b5)] [])) _
    exact X15.returnOut hx Bd.returns (hb hby d4_111) hr
  · show Q_add_2a Z a1 p2 p3 q4 rr kr ro sg ka x0 x1 h0 n0 _ T15.heap _
    rw [e15]
    exact ⟨b5, k5, rfl, N15, K15, sz_b5, V_rr_110_14, ((((((E_rr.ext E5).keep K6).wr W8).wr W10).keep K12).wr W15), (VV12.other W15 (Ne.symm (Nat.ne_of_lt (Nat.lt_of_lt_of_le E_rr.lt (Nat.le_of_eq g5.symm))))), (((((B5.keep K6).wr W8).wr W10).keep K12).wr W15)⟩
theorem ef_add_2d (m : MethodId) (a1 : Addr) (p2 : Int32) (p3 : Int32) (q4 : Int64) : entryFrame m #[(.ref a1), (.int p2), (.int p3), (.long q4)] 9 = (mkF m 0 #[.val (.ref a1), .val (.int p2), .val (.int p3), .val (.long q4), .second, .unset, .unset, .unset, .unset] []) := by first | (simp [entryFrame, mkF, argsToLocals, Value.category]; done) | rfl
def Q_add_2d (Z : State) (a1 : Addr) (p2 : Int32) (p3 : Int32) (q4 : Int64) (rr : Addr) (kr : ClassId) (ro : Addr) (sg : Addr) (ka : ClassId) (x0 : Int64) (x1 : Int64) (h0 : Heap) (n0 : Nat) (v : Option Value) (h : Heap) (L : List Loc) : Prop := ∃ (b5 : Addr) (k5 : ClassId), v = none ∧ Fr n0 L ∧ Keep h0 h [rr] ∧ h0.size ≤ b5 ∧ Arv Z h rr kr (.array .long) (2 : Int32) (own_pair p2 (.ref b5) (.ref sg)) .null ∧ Exa Z h rr "[[J" ∧ Arv Z h b5 k5 .long (4 : Int32) [(.long (p3.toInt64)), (.long q4), (.long x0), (.long x1)] (.long (0 : Int64)) ∧ Exa Z h b5 "[J"
set_option maxRecDepth 65536 in
set_option maxHeartbeats 40000000 in
theorem rm_add_2d (l : Launch) (Z : State) (a0 : Array Value) (hw : ∀ d ∈ tables_1, d.before a0 Z = true) (ws : List Jvm.Cond) (a1 : Addr) (p2 : Int32) (p3 : Int32) (q4 : Int64) (rr : Addr) (kr : ClassId) (ro : Addr) (sg : Addr) (ka : ClassId) (x0 : Int64) (x1 : Int64) (h0 : Heap) (n0 : Nat) (Z0 : n0 ≤ h0.size) (F_rows : Fld Z h0 a1 "com/example/chartlight/chartlight/label/WeightRows" "_rows" "[[J" (.ref rr)) (V_rr : Arv Z h0 rr kr (.array .long) (2 : Int32) (own_pair p2 (.ref ro) (.ref sg)) .null) (E_rr : Exa Z h0 rr "[[J") (V_ro : Arv Z h0 ro ka .long (2 : Int32) [(.long x0), (.long x1)] (.long (0 : Int64))) (g_rr : n0 ≤ rr) (hri : p2 = (0 : Int32) ∨ p2 = (1 : Int32)) (hO : OvrA Z kr .long "[J") (hne_r : ro ≠ rr) (hl0 : ¬ ((lcmpW x0 (p3.toInt64)) < (0 : Int32))) (hn0 : ¬ ((lcmpW x0 (p3.toInt64)) = (0 : Int32))) :
    MetFree l (⟨"com/example/chartlight/chartlight/label/WeightRows", "add", "(IIJ)V"⟩ : MethodName) (head1 (Jvm.Cond.code (⟨"com/example/chartlight/chartlight/label/WeightRows", "add", "(IIJ)V"⟩ : MethodName) prog_58_method_7_code 9 none :: ws) ({ frames := 1, cells := 1, slots := 8, locals := 18 } : Room)) (fun a U => a = #[(.ref a1), (.int p2), (.int p3), (.long q4)] ∧ Z.Warmed39 U.vm ∧ U.heap = h0) (fun _ _ _ _ _ => True) (fun _ U o U' => ∃ v L, o = .returned v ∧ Q_add_2d Z a1 p2 p3 q4 rr kr ro sg ka x0 x1 h0 n0 v U'.heap L ∧ FrameEnd U o U' L ({ frames := 1, cells := 1, slots := 8, locals := 18 } : Room).cells ({ frames := 1, cells := 1, slots := 8, locals := 18 } : Room).slots) := by
  refine MetFree.of_bodySF (plainFor_of_name pn0) hisR ?_
  intro p e s m args below meth c s₁ Bd hml0 hP hK
  obtain ⟨rfl, hZ, hh⟩ := hP
  have hx := Bd.exec
  have hby := Bd.bytes
  have hml : c.maxLocals = 9 := hml0
  have hown : s.vm.findClass "com/example/chartlight/chartlight/label/WeightRows" = some m.cls := findClass_of_methodNamed Bd.named
  have hnm := (name_of_methodNamed Bd.named Bd.method).1
  have X0 : Stand p l e ({ frames := 1, cells := 1, slots := 8, locals := 18 } : Room) s m #[(.ref a1), (.int p2), (.int p3), (.long q4)] below meth c s₁ [] 0 0 := Stand.of_body Bd
  have e0 : s₁.heap = h0 := by rw [← hh, Bd.state]; rfl
  have N0 := Fr.nil n0
  have pre0 : ∀ t, Steps p.tables e below (s₁.setTop (mkF m 0 #[.val (.ref a1), .val (.int p2), .val (.int p3), .val (.long q4), .second, .unset, .unset, .unset, .unset] [])) t → Steps p.tables e below (s₁.setTop (entryFrame m #[(.ref a1), (.int p2), (.int p3), (.long q4)] 9)) t := fun t k => castTop (ef_add_2d m a1 p2 p3 q4) k
  obtain ⟨T1, X1, e1, st1⟩ := getF X0 hx hZ hown (host := "") (Or.inl (hw _ (List.mem_of_getElem? (i := 11) rfl))) Via.refl e0 F_rows (g := (mkF m 1 #[.val (.ref a1), .val (.int p2), .val (.int p3), .val (.long q4), .second, .unset, .unset, .unset, .unset] [(.ref a1)])) rfl rfl (hb hby d4_1)
  obtain ⟨cl_rr_5_2, Ar_rr_5_2, q_rr_5_2, S_rr_5_2, N_rr_5_2, H_rr_5_2, G_rr_5_2⟩ := id V_rr
  have hin_rr_5_2 : ¬ (p2 < 0 ∨ cl_rr_5_2.slots.size ≤ (p2 : Int32).toNatClampNeg) := by rcases hri with rfl | rfl <;> exact inb_of S_rr_5_2 ⟨by decide, by decide⟩
  obtain ⟨_, _, ⟨T3, L3, k3, n3⟩, -, X3, ⟨Lc3, hQ3, l3, y3, z3⟩, st3⟩ := Jvm.LawKit.callS X1 hx (y := (⟨"com/example/chartlight/chartlight/label/WeightRows", "find", "([JI)I"⟩ : MethodName)) hown (mvT hZ (hw _ (List.mem_of_getElem? (i := 27) rfl))) (mvT hZ (hw _ (List.mem_of_getElem? (i := 28) rfl))) (mvT hZ (hw _ (List.mem_of_getElem? (i := 2) rfl))) (mvT hZ (hw _ (List.mem_of_getElem? (i := 29) rfl))) (by decide) (backOf (W := 0) (rm_fnd_2d l Z a0 hw [] ro p3 ka x0 x1 h0 n0 (Nat.le_trans Z0 (Keep.refl h0 [rr]).1) V_ro (hl0 : ¬ ((lcmpW x0 (p3.toInt64)) < (0 : Int32))) (hn0 : ¬ ((lcmpW x0 (p3.toInt64)) = (0 : Int32)))) hZ (hw _ (List.mem_of_getElem? (i := 29) rfl)) (hw _ (List.mem_of_getElem? (i := 2) rfl)) (by decide) (by decide)) (g := (mkF m 11 #[.val (.ref a1), .val (.int p2), .val (.int p3), .val (.long q4), .second, .val (.ref ro), .unset, .unset, .unset] [(.int p3), (.ref ro)])) rfl (by rw [hml]; rfl) (argsL := [(.ref ro), (.int p3)]) (rest := []) (lenOf pd0 rfl) rfl (by show 2 * 0 + _ ≤ _; exact Nat.le_of_eq rfl) (hb hby d4_11) (fun _ _ => ⟨rfl, e1, (by decide : 0 + 0 ≤ _), (by decide : 0 + 0 ≤ _)⟩)
  dsimp only [Pt.U, Pt.locs, Pt.cells, Pt.slots] at X3 l3 y3 z3 st3 hQ3
  subst l3 y3 z3
  obtain ⟨rfl, rfl, e3⟩ := hQ3
  have N3 := Fr.app N0 (Fr.nil n0)
  obtain ⟨cl_ro_51_4, Ar_ro_51_4, -, S_ro_51_4, N_ro_51_4, -, -⟩ := id V_ro
  obtain ⟨T5, h5, k5, X5, e5, E5, A5, B5, st5⟩ := newPE X3 hx hZ (hw _ (List.mem_of_getElem? (i := 30) rfl)) e3 (g := (mkF m 54 #[.val (.ref a1), .val (.int p2), .val (.int p3), .val (.long q4), .second, .val (.ref ro), .val (.int (-1 : Int32)), .val (.int (0 : Int32)), .unset] [(.int (4 : Int32))])) rfl (hb hby d4_54) rfl (by decide) (cap := 4) (by decide) (by decide) (by decide) (by decide) (ad := "[J") (by decide)
  obtain ⟨b5, g5⟩ : ∃ z, z = h0.size := ⟨_, rfl⟩
  rw [← g5] at A5 B5 st5
  have sz_b5 : h0.size ≤ b5 := Nat.le_trans (Keep.refl h0 [rr]).1 (Nat.le_of_eq g5.symm)
  have g_b5 : n0 ≤ b5 := Nat.le_trans Z0 sz_b5
  have K5 : Keep h0 h5 [rr] := (Keep.refl h0 [rr]).ext E5
  have V_b5 : Arv Z h5 b5 k5 .long (4 : Int32) [(.long (0 : Int64)), (.long (0 : Int64)), (.long (0 : Int64)), (.long (0 : Int64))] (.long (0 : Int64)) := (Arv.new A5 (by decide)).pad (pad_rep [] (.long (0 : Int64)) 4)
  obtain ⟨T6, h6, L6, X6, e6, N6, K6, V6, st6⟩ := cpA X5 hx hZ hown (hw _ (List.mem_of_getElem? (i := 31) rfl)) (hw _ (List.mem_of_getElem? (i := 34) rfl)) (hw _ (List.mem_of_getElem? (i := 32) rfl)) (hw _ (List.mem_of_getElem? (i := 33) rfl)) e5 (V_ro.ext E5) V_b5 (us := []) (Or.inl ⟨rfl, rfl⟩) (by decide) (by decide) (by decide) (by decide) (by decide) rfl (Nat.le_of_ble_eq_true rfl) N3 g_b5 (g := (mkF m 66 #[.val (.ref a1), .val (.int p2), .val (.int p3), .val (.long q4), .second, .val (.ref ro), .val (.int (-1 : Int32)), .val (.int (0 : Int32)), .val (.ref b5)] [(.int (0 : Int32)), (.int (0 : Int32)), (.ref b5), (.int (0 : Int32)), (.ref ro)])) rfl (by rw [hml]; rfl) rfl (hb hby d4_66) (by decide) (W := 0) (by show 2 * 0 + _ ≤ _; exact Nat.le_of_eq rfl) (by decide)
  have VV6 : Arv Z h6 b5 k5 .long (4 : Int32) [(.long (0 : Int64)), (.long (0 : Int64)), (.long (0 : Int64)), (.long (0 : Int64))] (.long (0 : Int64)) := V6
  have KK6 : Keep h0 h6 [rr] := K5.trans K6 (allS (Or.inr sz_b5) all0)
  obtain ⟨cl_b5_75_7, Ar_b5_75_7, q_b5_75_7, S_b5_75_7, N_b5_75_7, H_b5_75_7, G_b5_75_7⟩ := id VV6
  have hin_b5_75_7 : ¬ ((0 : Int32) < 0 ∨ cl_b5_75_7.slots.size ≤ ((0 : Int32) : Int32).toNatClampNeg) := inb_of S_b5_75_7 ⟨by decide, by decide⟩
  obtain ⟨T8, h8, X8, e8, W8, st8⟩ := stJ X6 hx hZ e6 Ar_b5_75_7 (j := (0 : Int32)) hin_b5_75_7 (g := (mkF m 75 #[.val (.ref a1), .val (.int p2), .val (.int p3), .val (.long q4), .second, .val (.ref ro), .val (.int (-1 : Int32)), .val (.int (0 : Int32)), .val (.ref b5)] [(.long (p3.toInt64)), (.int (0 : Int32)), (.ref b5)])) rfl rfl (hb hby d4_75)
  have V_b5_75_7 : Arv Z h8 b5 k5 .long (4 : Int32) [(.long (p3.toInt64)), (.long (0 : Int64)), (.long (0 : Int64)), (.long (0 : Int64))] (.long (0 : Int64)) := Arv.set Ar_b5_75_7 q_b5_75_7 S_b5_75_7 N_b5_75_7 H_b5_75_7 G_b5_75_7 rfl W8 0 rfl (Nat.le_of_ble_eq_true rfl)
  have K8 : Keep h0 h8 [rr] := KK6.wr W8 (Or.inr sz_b5)
  have N8 := Fr.snoc X8 N6 g_b5
  obtain ⟨cl_b5_83_9, Ar_b5_83_9, q_b5_83_9, S_b5_83_9, N_b5_83_9, H_b5_83_9, G_b5_83_9⟩ := id V_b5_75_7
  have hin_b5_83_9 : ¬ ((1 : Int32) < 0 ∨ cl_b5_83_9.slots.size ≤ ((1 : Int32) : Int32).toNatClampNeg) := inb_of S_b5_83_9 ⟨by decide, by decide⟩
  obtain ⟨T10, h10, X10, e10, W10, st10⟩ := stJ X8 hx hZ e8 Ar_b5_83_9 (j := (1 : Int32)) hin_b5_83_9 (g := (mkF m 83 #[.val (.ref a1), .val (.int p2), .val (.int p3), .val (.long q4), .second, .val (.ref ro), .val (.int (-1 : Int32)), .val (.int (0 : Int32)), .val (.ref b5)] [(.long q4), (.int (1 : Int32)), (.ref b5)])) rfl rfl (hb hby d4_83)
  have V_b5_83_9 : Arv Z h10 b5 k5 .long (4 : Int32) [(.long (p3.toInt64)), (.long q4), (.long (0 : Int64)), (.long (0 : Int64))] (.long (0 : Int64)) := Arv.set Ar_b5_83_9 q_b5_83_9 S_b5_83_9 N_b5_83_9 H_b5_83_9 G_b5_83_9 rfl W10 1 rfl (Nat.le_of_ble_eq_true rfl)
  have K10 : Keep h0 h10 [rr] := K8.wr W10 (Or.inr sz_b5)
  have N10 := Fr.snoc X10 N8 g_b5
  obtain ⟨cl_ro_96_11, Ar_ro_96_11, -, S_ro_96_11, N_ro_96_11, -, -⟩ := id ((((V_ro.ext E5).keep K6 (ninS (Nat.ne_of_lt (Nat.lt_of_lt_of_le V_ro.lt (Nat.le_of_eq g5.symm))) nin0)).other W8 (Nat.ne_of_lt (Nat.lt_of_lt_of_le V_ro.lt (Nat.le_of_eq g5.symm)))).other W10 (Nat.ne_of_lt (Nat.lt_of_lt_of_le V_ro.lt (Nat.le_of_eq g5.symm))))
  obtain ⟨T12, h12, L12, X12, e12, N12, K12, V12, st12⟩ := cpA X10 hx hZ hown (hw _ (List.mem_of_getElem? (i := 31) rfl)) (hw _ (List.mem_of_getElem? (i := 34) rfl)) (hw _ (List.mem_of_getElem? (i := 32) rfl)) (hw _ (List.mem_of_getElem? (i := 33) rfl)) e10 ((((V_ro.ext E5).keep K6 (ninS (Nat.ne_of_lt (Nat.lt_of_lt_of_le V_ro.lt (Nat.le_of_eq g5.symm))) nin0)).other W8 (Nat.ne_of_lt (Nat.lt_of_lt_of_le V_ro.lt (Nat.le_of_eq g5.symm)))).other W10 (Nat.ne_of_lt (Nat.lt_of_lt_of_le V_ro.lt (Nat.le_of_eq g5.symm)))) V_b5_83_9 (us := [(.long x0), (.long x1)]) (Or.inl ⟨rfl, rfl⟩) (by decide) (by decide) (by decide) (by decide) (by decide) rfl (Nat.le_of_ble_eq_true rfl) N10 g_b5 (g := (mkF m 100 #[.val (.ref a1), .val (.int p2), .val (.int p3), .val (.long q4), .second, .val (.ref ro), .val (.int (-1 : Int32)), .val (.int (0 : Int32)), .val (.ref b5)] [(.int (2 : Int32)), (.int (2 : Int32)), (.ref b5), (.int (0 : Int32)), (.ref ro)])) rfl (by rw [hml]; rfl) rfl (hb hby d4_100) (by decide) (W := 0) (by show 2 * 0 + _ ≤ _; exact Nat.le_of_eq rfl) (by decide)
  have VV12 : Arv Z h12 b5 k5 .long (4 : Int32) [(.long (p3.toInt64)), (.long q4), (.long x0), (.long x1)] (.long (0 : Int64)) := V12
  have KK12 : Keep h0 h12 [rr] := K10.trans K12 (allS (Or.inr sz_b5) all0)
  obtain ⟨T13, X13, e13, st13⟩ := getF X12 hx hZ hown (host := "") (Or.inl (hw _ (List.mem_of_getElem? (i := 11) rfl))) Via.refl e12 (((((F_rows.ext E5).keep K6 (ninS (Nat.ne_of_lt (Nat.lt_of_lt_of_le F_rows.lt (Nat.le_of_eq g5.symm))) nin0)).other W8 (Or.inl (Nat.ne_of_lt (Nat.lt_of_lt_of_le F_rows.lt (Nat.le_of_eq g5.symm))))).other W10 (Or.inl (Nat.ne_of_lt (Nat.lt_of_lt_of_le F_rows.lt (Nat.le_of_eq g5.symm))))).keep K12 (ninS (Nat.ne_of_lt (Nat.lt_of_lt_of_le F_rows.lt (Nat.le_of_eq g5.symm))) nin0)) (g := (mkF m 104 #[.val (.ref a1), .val (.int p2), .val (.int p3), .val (.long q4), .second, .val (.ref ro), .val (.int (-1 : Int32)), .val (.int (0 : Int32)), .val (.ref b5)] [(.ref a1)])) rfl rfl (hb hby d4_104)
  obtain ⟨cl_rr_110_14, Ar_rr_110_14, q_rr_110_14, S_rr_110_14, N_rr_110_14, H_rr_110_14, G_rr_110_14⟩ := id (((((V_rr.ext E5).keep K6 (ninS (Nat.ne_of_lt (Nat.lt_of_lt_of_le V_rr.lt (Nat.le_of_eq g5.symm))) nin0)).other W8 (Nat.ne_of_lt (Nat.lt_of_lt_of_le V_rr.lt (Nat.le_of_eq g5.symm)))).other W10 (Nat.ne_of_lt (Nat.lt_of_lt_of_le V_rr.lt (Nat.le_of_eq g5.symm)))).keep K12 (ninS (Nat.ne_of_lt (Nat.lt_of_lt_of_le V_rr.lt (Nat.le_of_eq g5.symm))) nin0))
  have hin_rr_110_14 : ¬ (p2 < 0 ∨ cl_rr_110_14.slots.size ≤ (p2 : Int32).toNatClampNeg) := by rcases hri with rfl | rfl <;> exact inb_of S_rr_110_14 ⟨by decide, by decide⟩
  obtain ⟨T15, h15, X15, e15, W15, st15⟩ := stR X13 hx hZ e13 Ar_rr_110_14 (j := p2) hin_rr_110_14 rfl (Sto.ofVA Ar_rr_110_14 q_rr_110_14 hO (Ins.self ((((B5.keep K6).wr W8).wr W10).keep K12))) (g := (mkF m 110 #[.val (.ref a1), .val (.int p2), .val (.int p3), .val (.long q4), .second, .val (.ref ro), .val (.int (-1 : Int32)), .val (.int (0 : Int32)), .val (.ref b5)] [(.ref b5), (.int p2), (.ref rr)])) rfl rfl (hb hby d4_110)
  have V_rr_110_14 : Arv Z h15 rr kr (.array .long) (2 : Int32) (own_pair p2 (.ref b5) (.ref sg)) .null := by
    rcases hri with rfl | rfl
    · exact Arv.set Ar_rr_110_14 q_rr_110_14 S_rr_110_14 N_rr_110_14 H_rr_110_14 G_rr_110_14 rfl W15 0 rfl (Nat.le_of_ble_eq_true rfl)
    · exact Arv.set Ar_rr_110_14 q_rr_110_14 S_rr_110_14 N_rr_110_14 H_rr_110_14 G_rr_110_14 rfl W15 1 rfl (Nat.le_of_ble_eq_true rfl)
  have K15 : Keep h0 h15 [rr] := KK12.wr W15 (Or.inl (List.mem_of_getElem? (i := 0) rfl))
  have N15 := Fr.snoc X15 N12 g_rr
  obtain ⟨fs, hr, hrun, hended, hW, hsame⟩ := X15.leave (v := none) (fun _ => rfl)
  refine ⟨_, _, pre0 _ ?_, hrun, hended, _, _, rfl, ?_, ⟨_, rfl⟩, hW, hsame.mono (by decide) (by decide)⟩
  · show Steps p.tables e below (s₁.setTop (mkF m 0 #[.val (.ref a1), .val (.int p2), .val (.int p3), .val (.long q4), .second, .unset, .unset, .unset, .unset] [])) _
    refine XS.aloadN X0.here hx rfl (hb hby d4_0) rfl rfl ?_
    show Steps p.tables e below (s₁.setTop (mkF m 1 #[.val (.ref a1), .val (.int p2), .val (.int p3), .val (.long q4), .second, .unset, .unset, .unset, .unset] [(.ref a1)])) _
    refine st1 _ ?_
    refine XS.iloadN X1.here hx rfl (hb hby d4_4) rfl ?_
    refine X1.aaload hx (j := p2) (v := (.ref ro)) (by rw [e1]; exact Ar_rr_5_2.1) (State.isArrayOf_alike hZ.alike Ar_rr_5_2.2.1) rfl Ar_rr_5_2.2.2 hin_rr_5_2 (by rcases hri with rfl | rfl <;> exact H_rr_5_2.at hin_rr_5_2 rfl) (g := (mkF m 5 #[.val (.ref a1), .val (.int p2), .val (.int p3), .val (.long q4), .second, .unset, .unset, .unset, .unset] [(.int p2), (.ref rr)])) rfl rfl (hb hby d4_5) _ ?_
    refine XS.astore X1.here hx rfl (hb hby d4_6) rfl rfl (l' := #[.val (.ref a1), .val (.int p2), .val (.int p3), .val (.long q4), .second, .val (.ref ro), .unset, .unset, .unset]) rfl ?_
    refine XS.aload X1.here hx rfl (hb hby d4_8) rfl rfl ?_
    refine XS.iloadN X1.here hx rfl (hb hby d4_10) rfl ?_
    show Steps p.tables e below (T1.setTop (mkF m 11 #[.val (.ref a1), .val (.int p2), .val (.int p3), .val (.long q4), .second, .val (.ref ro), .unset, .unset, .unset] [(.int p3), (.ref ro)])) _
    refine st3 _ ?_
    refine XS.istore X3.here hx rfl (hb hby d4_14) rfl (l' := #[.val (.ref a1), .val (.int p2), .val (.int p3), .val (.long q4), .second, .val (.ref ro), .val (.int (-1 : Int32)), .unset, .unset]) rfl ?_
    refine XS.iload X3.here hx rfl (hb hby d4_16) rfl ?_
    refine XS.ifYes X3.here hx rfl (pc0 := 18) (pc' := 42) rfl (hb hby d4_18) rfl ((if0 _ _).trans (tlt (by decide : (-1 : Int32) < (0 : Int32))).1) (by decide) (by decide) ?_
    refine XS.iload X3.here hx rfl (hb hby d4_42) rfl ?_
    refine XS.ineg X3.here hx rfl (hb hby d4_44) rfl ?_
    refine XS.iconst X3.here hx rfl (hb hby d4_45) ?_
    refine XS.isub X3.here hx rfl (hb hby d4_46) rfl ?_
    refine XS.istore X3.here hx rfl (hb hby d4_47) rfl (l' := #[.val (.ref a1), .val (.int p2), .val (.int p3), .val (.long q4), .second, .val (.ref ro), .val (.int (-1 : Int32)), .val (.int (0 : Int32)), .unset]) rfl ?_
    refine XS.aload X3.here hx rfl (hb hby d4_49) rfl rfl ?_
    refine X3.arraylength hx (by rw [e3]; exact Ar_ro_51_4.1) (State.isArrayOf_alike hZ.alike Ar_ro_51_4.2.1) (g := (mkF m 51 #[.val (.ref a1), .val (.int p2), .val (.int p3), .val (.long q4), .second, .val (.ref ro), .val (.int (-1 : Int32)), .val (.int (0 : Int32)), .unset] [(.ref ro)])) rfl rfl (hb hby d4_51) _ ?_
    rw [len_of S_ro_51_4 N_ro_51_4]
    refine XS.iconst X3.here hx rfl (hb hby d4_52) ?_
    refine XS.iadd X3.here hx rfl (hb hby d4_53) rfl ?_
    show Steps p.tables e below (T3.setTop (mkF m 54 #[.val (.ref a1), .val (.int p2), .val (.int p3), .val (.long q4), .second, .val (.ref ro), .val (.int (-1 : Int32)), .val (.int (0 : Int32)), .unset] [(.int (4 : Int32))])) _
    refine st5 _ ?_
    refine XS.astore X5.here hx rfl (hb hby d4_56) rfl rfl (l' := #[.val (.ref a1), .val (.int p2), .val (.int p3), .val (.long q4), .second, .val (.ref ro), .val (.int (-1 : Int32)), .val (.int (0 : Int32)), .val (.ref b5)]) rfl ?_
    refine XS.aload X5.here hx rfl (hb hby d4_58) rfl rfl ?_
    refine XS.iconst X5.here hx rfl (hb hby d4_60) ?_
    refine XS.aload X5.here hx rfl (hb hby d4_61) rfl rfl ?_
    refine XS.iconst X5.here hx rfl (hb hby d4_63) ?_
    refine XS.iload X5.here hx rfl (hb hby d4_64) rfl ?_
    show Steps p.tables e below (T5.setTop (mkF m 66 #[.val (.ref a1), .val (.int p2), .val (.int p3), .val (.long q4), .second, .val (.ref ro), .val (.int (-1 : Int32)), .val (.int (0 : Int32)), .val (.ref b5)] [(.int (0 : Int32)), (.int (0 : Int32)), (.ref b5), (.int (0 : Int32)), (.ref ro)])) _
    refine st6 _ ?_
    refine XS.aload X6.here hx rfl (hb hby d4_69) rfl rfl ?_
    refine XS.iload X6.here hx rfl (hb hby d4_71) rfl ?_
    refine XS.iloadN X6.here hx rfl (hb hby d4_73) rfl ?_
    refine XS.i2l X6.here hx rfl (hb hby d4_74) rfl ?_
    show Steps p.tables e below (T6.setTop (mkF m 75 #[.val (.ref a1), .val (.int p2), .val (.int p3), .val (.long q4), .second, .val (.ref ro), .val (.int (-1 : Int32)), .val (.int (0 : Int32)), .val (.ref b5)] [(.long (p3.toInt64)), (.int (0 : Int32)), (.ref b5)])) _
    refine st8 _ ?_
    refine XS.aload X8.here hx rfl (hb hby d4_76) rfl rfl ?_
    refine XS.iload X8.here hx rfl (hb hby d4_78) rfl ?_
    refine XS.iconst X8.here hx rfl (hb hby d4_80) ?_
    refine XS.iadd X8.here hx rfl (hb hby d4_81) rfl ?_
    refine XS.lloadN X8.here hx rfl (hb hby d4_82) rfl ?_
    show Steps p.tables e below (T8.setTop (mkF m 83 #[.val (.ref a1), .val (.int p2), .val (.int p3), .val (.long q4), .second, .val (.ref ro), .val (.int (-1 : Int32)), .val (.int (0 : Int32)), .val (.ref b5)] [(.long q4), (.int (1 : Int32)), (.ref b5)])) _
    refine st10 _ ?_
    refine XS.aload X10.here hx rfl (hb hby d4_84) rfl rfl ?_
    refine XS.iload X10.here hx rfl (hb hby d4_86) rfl ?_
    refine XS.aload X10.here hx rfl (hb hby d4_88) rfl rfl ?_
    refine XS.iload X10.here hx rfl (hb hby d4_90) rfl ?_
    refine XS.iconst X10.here hx rfl (hb hby d4_92) ?_
    refine XS.iadd X10.here hx rfl (hb hby d4_93) rfl ?_
    refine XS.aload X10.here hx rfl (hb hby d4_94) rfl rfl ?_
    show Steps p.tables e below (T10.setTop (mkF m 96 #[.val (.ref a1), .val (.int p2), .val (.int p3), .val (.long q4), .second, .val (.ref ro), .val (.int (-1 : Int32)), .val (.int (0 : Int32)), .val (.ref b5)] [(.ref ro), (.int (2 : Int32)), (.ref b5), (.int (0 : Int32)), (.ref ro)])) _
    refine X10.arraylength hx (by rw [e10]; exact Ar_ro_96_11.1) (State.isArrayOf_alike hZ.alike Ar_ro_96_11.2.1) (g := (mkF m 96 #[.val (.ref a1), .val (.int p2), .val (.int p3), .val (.long q4), .second, .val (.ref ro), .val (.int (-1 : Int32)), .val (.int (0 : Int32)), .val (.ref b5)] [(.ref ro), (.int (2 : Int32)), (.ref b5), (.int (0 : Int32)), (.ref ro)])) rfl rfl (hb hby d4_96) _ ?_
    rw [len_of S_ro_96_11 N_ro_96_11]
    refine XS.iload X10.here hx rfl (hb hby d4_97) rfl ?_
    refine XS.isub X10.here hx rfl (hb hby d4_99) rfl ?_
    show Steps p.tables e below (T10.setTop (mkF m 100 #[.val (.ref a1), .val (.int p2), .val (.int p3), .val (.long q4), .second, .val (.ref ro), .val (.int (-1 : Int32)), .val (.int (0 : Int32)), .val (.ref b5)] [(.int (2 : Int32)), (.int (2 : Int32)), (.ref b5), (.int (0 : Int32)), (.ref ro)])) _
    refine st12 _ ?_
    refine XS.aloadN X12.here hx rfl (hb hby d4_103) rfl rfl ?_
    show Steps p.tables e below (T12.setTop (mkF m 104 #[.val (.ref a1), .val (.int p2), .val (.int p3), .val (.long q4), .second, .val (.ref ro), .val (.int (-1 : Int32)), .val (.int (0 : Int32)), .val (.ref b5)] [(.ref a1)])) _
    refine st13 _ ?_
    refine XS.iloadN X13.here hx rfl (hb hby d4_107) rfl ?_
    refine XS.aload X13.here hx rfl (hb hby d4_108) rfl rfl ?_
    show Steps p.tables e below (T13.setTop (mkF m 110 #[.val (.ref a1), .val (.int p2), .val (.int p3), .val (.long q4), .second, .val (.ref ro), .val (.int (-1 : Int32)), .val (.int (0 : Int32)), .val (.ref b5)] [(.ref b5), (.int p2), (.ref rr)])) _
    refine st15 _ ?_
    show Steps p.tables e below (T15.setTop (mkF m 111 #[.val (.ref a1), .val (.int p2), .val (.int p3), .val (.long q4), .second, .val (.ref ro), .val (.int (-1 : Int32)), .val (.int (0 : Int32)), .val (.ref b5)] [])) _
    exact X15.returnOut hx Bd.returns (hb hby d4_111) hr
  · show Q_add_2d Z a1 p2 p3 q4 rr kr ro sg ka x0 x1 h0 n0 _ T15.heap _
    rw [e15]
    exact ⟨b5, k5, rfl, N15, K15, sz_b5, V_rr_110_14, ((((((E_rr.ext E5).keep K6).wr W8).wr W10).keep K12).wr W15), (VV12.other W15 (Ne.symm (Nat.ne_of_lt (Nat.lt_of_lt_of_le E_rr.lt (Nat.le_of_eq g5.symm))))), (((((B5.keep K6).wr W8).wr W10).keep K12).wr W15)⟩
theorem ef_add_4a (m : MethodId) (a1 : Addr) (p2 : Int32) (p3 : Int32) (q4 : Int64) : entryFrame m #[(.ref a1), (.int p2), (.int p3), (.long q4)] 9 = (mkF m 0 #[.val (.ref a1), .val (.int p2), .val (.int p3), .val (.long q4), .second, .unset, .unset, .unset, .unset] []) := by first | (simp [entryFrame, mkF, argsToLocals, Value.category]; done) | rfl
def Q_add_4a (Z : State) (a1 : Addr) (p2 : Int32) (p3 : Int32) (q4 : Int64) (rr : Addr) (kr : ClassId) (ro : Addr) (sg : Addr) (ka : ClassId) (x0 : Int64) (x1 : Int64) (x2 : Int64) (x3 : Int64) (h0 : Heap) (n0 : Nat) (v : Option Value) (h : Heap) (L : List Loc) : Prop := ∃ (b5 : Addr) (k5 : ClassId), v = none ∧ Fr n0 L ∧ Keep h0 h [rr] ∧ h0.size ≤ b5 ∧ Arv Z h rr kr (.array .long) (2 : Int32) (own_pair p2 (.ref b5) (.ref sg)) .null ∧ Exa Z h rr "[[J" ∧ Arv Z h b5 k5 .long (6 : Int32) [(.long x0), (.long x1), (.long x2), (.long x3), (.long (p3.toInt64)), (.long q4)] (.long (0 : Int64)) ∧ Exa Z h b5 "[J"
set_option maxRecDepth 65536 in
set_option maxHeartbeats 40000000 in
theorem rm_add_4a (l : Launch) (Z : State) (a0 : Array Value) (hw : ∀ d ∈ tables_1, d.before a0 Z = true) (ws : List Jvm.Cond) (a1 : Addr) (p2 : Int32) (p3 : Int32) (q4 : Int64) (rr : Addr) (kr : ClassId) (ro : Addr) (sg : Addr) (ka : ClassId) (x0 : Int64) (x1 : Int64) (x2 : Int64) (x3 : Int64) (h0 : Heap) (n0 : Nat) (Z0 : n0 ≤ h0.size) (F_rows : Fld Z h0 a1 "com/example/chartlight/chartlight/label/WeightRows" "_rows" "[[J" (.ref rr)) (V_rr : Arv Z h0 rr kr (.array .long) (2 : Int32) (own_pair p2 (.ref ro) (.ref sg)) .null) (E_rr : Exa Z h0 rr "[[J") (V_ro : Arv Z h0 ro ka .long (4 : Int32) [(.long x0), (.long x1), (.long x2), (.long x3)] (.long (0 : Int64))) (g_rr : n0 ≤ rr) (hri : p2 = (0 : Int32) ∨ p2 = (1 : Int32)) (hO : OvrA Z kr .long "[J") (hne_r : ro ≠ rr) (hl0 : (lcmpW x0 (p3.toInt64)) < (0 : Int32)) (hl2 : (lcmpW x2 (p3.toInt64)) < (0 : Int32)) :
    MetFree l (⟨"com/example/chartlight/chartlight/label/WeightRows", "add", "(IIJ)V"⟩ : MethodName) (head1 (Jvm.Cond.code (⟨"com/example/chartlight/chartlight/label/WeightRows", "add", "(IIJ)V"⟩ : MethodName) prog_58_method_7_code 9 none :: ws) ({ frames := 1, cells := 1, slots := 8, locals := 18 } : Room)) (fun a U => a = #[(.ref a1), (.int p2), (.int p3), (.long q4)] ∧ Z.Warmed39 U.vm ∧ U.heap = h0) (fun _ _ _ _ _ => True) (fun _ U o U' => ∃ v L, o = .returned v ∧ Q_add_4a Z a1 p2 p3 q4 rr kr ro sg ka x0 x1 x2 x3 h0 n0 v U'.heap L ∧ FrameEnd U o U' L ({ frames := 1, cells := 1, slots := 8, locals := 18 } : Room).cells ({ frames := 1, cells := 1, slots := 8, locals := 18 } : Room).slots) := by
  refine MetFree.of_bodySF (plainFor_of_name pn0) hisR ?_
  intro p e s m args below meth c s₁ Bd hml0 hP hK
  obtain ⟨rfl, hZ, hh⟩ := hP
  have hx := Bd.exec
  have hby := Bd.bytes
  have hml : c.maxLocals = 9 := hml0
  have hown : s.vm.findClass "com/example/chartlight/chartlight/label/WeightRows" = some m.cls := findClass_of_methodNamed Bd.named
  have hnm := (name_of_methodNamed Bd.named Bd.method).1
  have X0 : Stand p l e ({ frames := 1, cells := 1, slots := 8, locals := 18 } : Room) s m #[(.ref a1), (.int p2), (.int p3), (.long q4)] below meth c s₁ [] 0 0 := Stand.of_body Bd
  have e0 : s₁.heap = h0 := by rw [← hh, Bd.state]; rfl
  have N0 := Fr.nil n0
  have pre0 : ∀ t, Steps p.tables e below (s₁.setTop (mkF m 0 #[.val (.ref a1), .val (.int p2), .val (.int p3), .val (.long q4), .second, .unset, .unset, .unset, .unset] [])) t → Steps p.tables e below (s₁.setTop (entryFrame m #[(.ref a1), (.int p2), (.int p3), (.long q4)] 9)) t := fun t k => castTop (ef_add_4a m a1 p2 p3 q4) k
  obtain ⟨T1, X1, e1, st1⟩ := getF X0 hx hZ hown (host := "") (Or.inl (hw _ (List.mem_of_getElem? (i := 11) rfl))) Via.refl e0 F_rows (g := (mkF m 1 #[.val (.ref a1), .val (.int p2), .val (.int p3), .val (.long q4), .second, .unset, .unset, .unset, .unset] [(.ref a1)])) rfl rfl (hb hby d4_1)
  obtain ⟨cl_rr_5_2, Ar_rr_5_2, q_rr_5_2, S_rr_5_2, N_rr_5_2, H_rr_5_2, G_rr_5_2⟩ := id V_rr
  have hin_rr_5_2 : ¬ (p2 < 0 ∨ cl_rr_5_2.slots.size ≤ (p2 : Int32).toNatClampNeg) := by rcases hri with rfl | rfl <;> exact inb_of S_rr_5_2 ⟨by decide, by decide⟩
  obtain ⟨_, _, ⟨T3, L3, k3, n3⟩, -, X3, ⟨Lc3, hQ3, l3, y3, z3⟩, st3⟩ := Jvm.LawKit.callS X1 hx (y := (⟨"com/example/chartlight/chartlight/label/WeightRows", "find", "([JI)I"⟩ : MethodName)) hown (mvT hZ (hw _ (List.mem_of_getElem? (i := 27) rfl))) (mvT hZ (hw _ (List.mem_of_getElem? (i := 28) rfl))) (mvT hZ (hw _ (List.mem_of_getElem? (i := 2) rfl))) (mvT hZ (hw _ (List.mem_of_getElem? (i := 29) rfl))) (by decide) (backOf (W := 0) (rm_fnd_4a l Z a0 hw [] ro p3 ka x0 x1 x2 x3 h0 n0 (Nat.le_trans Z0 (Keep.refl h0 [rr]).1) V_ro (hl0 : (lcmpW x0 (p3.toInt64)) < (0 : Int32)) (hl2 : (lcmpW x2 (p3.toInt64)) < (0 : Int32))) hZ (hw _ (List.mem_of_getElem? (i := 29) rfl)) (hw _ (List.mem_of_getElem? (i := 2) rfl)) (by decide) (by decide)) (g := (mkF m 11 #[.val (.ref a1), .val (.int p2), .val (.int p3), .val (.long q4), .second, .val (.ref ro), .unset, .unset, .unset] [(.int p3), (.ref ro)])) rfl (by rw [hml]; rfl) (argsL := [(.ref ro), (.int p3)]) (rest := []) (lenOf pd0 rfl) rfl (by show 2 * 0 + _ ≤ _; exact Nat.le_of_eq rfl) (hb hby d4_11) (fun _ _ => ⟨rfl, e1, (by decide : 0 + 0 ≤ _), (by decide : 0 + 0 ≤ _)⟩)
  dsimp only [Pt.U, Pt.locs, Pt.cells, Pt.slots] at X3 l3 y3 z3 st3 hQ3
  subst l3 y3 z3
  obtain ⟨rfl, rfl, e3⟩ := hQ3
  have N3 := Fr.app N0 (Fr.nil n0)
  obtain ⟨cl_ro_51_4, Ar_ro_51_4, -, S_ro_51_4, N_ro_51_4, -, -⟩ := id V_ro
  obtain ⟨T5, h5, k5, X5, e5, E5, A5, B5, st5⟩ := newPE X3 hx hZ (hw _ (List.mem_of_getElem? (i := 30) rfl)) e3 (g := (mkF m 54 #[.val (.ref a1), .val (.int p2), .val (.int p3), .val (.long q4), .second, .val (.ref ro), .val (.int (-5 : Int32)), .val (.int (4 : Int32)), .unset] [(.int (6 : Int32))])) rfl (hb hby d4_54) rfl (by decide) (cap := 6) (by decide) (by decide) (by decide) (by decide) (ad := "[J") (by decide)
  obtain ⟨b5, g5⟩ : ∃ z, z = h0.size := ⟨_, rfl⟩
  rw [← g5] at A5 B5 st5
  have sz_b5 : h0.size ≤ b5 := Nat.le_trans (Keep.refl h0 [rr]).1 (Nat.le_of_eq g5.symm)
  have g_b5 : n0 ≤ b5 := Nat.le_trans Z0 sz_b5
  have K5 : Keep h0 h5 [rr] := (Keep.refl h0 [rr]).ext E5
  have V_b5 : Arv Z h5 b5 k5 .long (6 : Int32) [(.long (0 : Int64)), (.long (0 : Int64)), (.long (0 : Int64)), (.long (0 : Int64)), (.long (0 : Int64)), (.long (0 : Int64))] (.long (0 : Int64)) := (Arv.new A5 (by decide)).pad (pad_rep [] (.long (0 : Int64)) 6)
  obtain ⟨T6, h6, L6, X6, e6, N6, K6, V6, st6⟩ := cpA X5 hx hZ hown (hw _ (List.mem_of_getElem? (i := 31) rfl)) (hw _ (List.mem_of_getElem? (i := 34) rfl)) (hw _ (List.mem_of_getElem? (i := 32) rfl)) (hw _ (List.mem_of_getElem? (i := 33) rfl)) e5 (V_ro.ext E5) V_b5 (us := [(.long x0), (.long x1), (.long x2), (.long x3)]) (Or.inl ⟨rfl, rfl⟩) (by decide) (by decide) (by decide) (by decide) (by decide) rfl (Nat.le_of_ble_eq_true rfl) N3 g_b5 (g := (mkF m 66 #[.val (.ref a1), .val (.int p2), .val (.int p3), .val (.long q4), .second, .val (.ref ro), .val (.int (-5 : Int32)), .val (.int (4 : Int32)), .val (.ref b5)] [(.int (4 : Int32)), (.int (0 : Int32)), (.ref b5), (.int (0 : Int32)), (.ref ro)])) rfl (by rw [hml]; rfl) rfl (hb hby d4_66) (by decide) (W := 0) (by show 2 * 0 + _ ≤ _; exact Nat.le_of_eq rfl) (by decide)
  have VV6 : Arv Z h6 b5 k5 .long (6 : Int32) [(.long x0), (.long x1), (.long x2), (.long x3), (.long (0 : Int64)), (.long (0 : Int64))] (.long (0 : Int64)) := V6
  have KK6 : Keep h0 h6 [rr] := K5.trans K6 (allS (Or.inr sz_b5) all0)
  obtain ⟨cl_b5_75_7, Ar_b5_75_7, q_b5_75_7, S_b5_75_7, N_b5_75_7, H_b5_75_7, G_b5_75_7⟩ := id VV6
  have hin_b5_75_7 : ¬ ((4 : Int32) < 0 ∨ cl_b5_75_7.slots.size ≤ ((4 : Int32) : Int32).toNatClampNeg) := inb_of S_b5_75_7 ⟨by decide, by decide⟩
  obtain ⟨T8, h8, X8, e8, W8, st8⟩ := stJ X6 hx hZ e6 Ar_b5_75_7 (j := (4 : Int32)) hin_b5_75_7 (g := (mkF m 75 #[.val (.ref a1), .val (.int p2), .val (.int p3), .val (.long q4), .second, .val (.ref ro), .val (.int (-5 : Int32)), .val (.int (4 : Int32)), .val (.ref b5)] [(.long (p3.toInt64)), (.int (4 : Int32)), (.ref b5)])) rfl rfl (hb hby d4_75)
  have V_b5_75_7 : Arv Z h8 b5 k5 .long (6 : Int32) [(.long x0), (.long x1), (.long x2), (.long x3), (.long (p3.toInt64)), (.long (0 : Int64))] (.long (0 : Int64)) := Arv.set Ar_b5_75_7 q_b5_75_7 S_b5_75_7 N_b5_75_7 H_b5_75_7 G_b5_75_7 rfl W8 4 rfl (Nat.le_of_ble_eq_true rfl)
  have K8 : Keep h0 h8 [rr] := KK6.wr W8 (Or.inr sz_b5)
  have N8 := Fr.snoc X8 N6 g_b5
  obtain ⟨cl_b5_83_9, Ar_b5_83_9, q_b5_83_9, S_b5_83_9, N_b5_83_9, H_b5_83_9, G_b5_83_9⟩ := id V_b5_75_7
  have hin_b5_83_9 : ¬ ((5 : Int32) < 0 ∨ cl_b5_83_9.slots.size ≤ ((5 : Int32) : Int32).toNatClampNeg) := inb_of S_b5_83_9 ⟨by decide, by decide⟩
  obtain ⟨T10, h10, X10, e10, W10, st10⟩ := stJ X8 hx hZ e8 Ar_b5_83_9 (j := (5 : Int32)) hin_b5_83_9 (g := (mkF m 83 #[.val (.ref a1), .val (.int p2), .val (.int p3), .val (.long q4), .second, .val (.ref ro), .val (.int (-5 : Int32)), .val (.int (4 : Int32)), .val (.ref b5)] [(.long q4), (.int (5 : Int32)), (.ref b5)])) rfl rfl (hb hby d4_83)
  have V_b5_83_9 : Arv Z h10 b5 k5 .long (6 : Int32) [(.long x0), (.long x1), (.long x2), (.long x3), (.long (p3.toInt64)), (.long q4)] (.long (0 : Int64)) := Arv.set Ar_b5_83_9 q_b5_83_9 S_b5_83_9 N_b5_83_9 H_b5_83_9 G_b5_83_9 rfl W10 5 rfl (Nat.le_of_ble_eq_true rfl)
  have K10 : Keep h0 h10 [rr] := K8.wr W10 (Or.inr sz_b5)
  have N10 := Fr.snoc X10 N8 g_b5
  obtain ⟨cl_ro_96_11, Ar_ro_96_11, -, S_ro_96_11, N_ro_96_11, -, -⟩ := id ((((V_ro.ext E5).keep K6 (ninS (Nat.ne_of_lt (Nat.lt_of_lt_of_le V_ro.lt (Nat.le_of_eq g5.symm))) nin0)).other W8 (Nat.ne_of_lt (Nat.lt_of_lt_of_le V_ro.lt (Nat.le_of_eq g5.symm)))).other W10 (Nat.ne_of_lt (Nat.lt_of_lt_of_le V_ro.lt (Nat.le_of_eq g5.symm))))
  obtain ⟨T12, h12, L12, X12, e12, N12, K12, V12, st12⟩ := cpA X10 hx hZ hown (hw _ (List.mem_of_getElem? (i := 31) rfl)) (hw _ (List.mem_of_getElem? (i := 34) rfl)) (hw _ (List.mem_of_getElem? (i := 32) rfl)) (hw _ (List.mem_of_getElem? (i := 33) rfl)) e10 ((((V_ro.ext E5).keep K6 (ninS (Nat.ne_of_lt (Nat.lt_of_lt_of_le V_ro.lt (Nat.le_of_eq g5.symm))) nin0)).other W8 (Nat.ne_of_lt (Nat.lt_of_lt_of_le V_ro.lt (Nat.le_of_eq g5.symm)))).other W10 (Nat.ne_of_lt (Nat.lt_of_lt_of_le V_ro.lt (Nat.le_of_eq g5.symm)))) V_b5_83_9 (us := []) (Or.inl ⟨rfl, rfl⟩) (by decide) (by decide) (by decide) (by decide) (by decide) rfl (Nat.le_of_ble_eq_true rfl) N10 g_b5 (g := (mkF m 100 #[.val (.ref a1), .val (.int p2), .val (.int p3), .val (.long q4), .second, .val (.ref ro), .val (.int (-5 : Int32)), .val (.int (4 : Int32)), .val (.ref b5)] [(.int (0 : Int32)), (.int (6 : Int32)), (.ref b5), (.int (4 : Int32)), (.ref ro)])) rfl (by rw [hml]; rfl) rfl (hb hby d4_100) (by decide) (W := 0) (by show 2 * 0 + _ ≤ _; exact Nat.le_of_eq rfl) (by decide)
  have VV12 : Arv Z h12 b5 k5 .long (6 : Int32) [(.long x0), (.long x1), (.long x2), (.long x3), (.long (p3.toInt64)), (.long q4)] (.long (0 : Int64)) := V12
  have KK12 : Keep h0 h12 [rr] := K10.trans K12 (allS (Or.inr sz_b5) all0)
  obtain ⟨T13, X13, e13, st13⟩ := getF X12 hx hZ hown (host := "") (Or.inl (hw _ (List.mem_of_getElem? (i := 11) rfl))) Via.refl e12 (((((F_rows.ext E5).keep K6 (ninS (Nat.ne_of_lt (Nat.lt_of_lt_of_le F_rows.lt (Nat.le_of_eq g5.symm))) nin0)).other W8 (Or.inl (Nat.ne_of_lt (Nat.lt_of_lt_of_le F_rows.lt (Nat.le_of_eq g5.symm))))).other W10 (Or.inl (Nat.ne_of_lt (Nat.lt_of_lt_of_le F_rows.lt (Nat.le_of_eq g5.symm))))).keep K12 (ninS (Nat.ne_of_lt (Nat.lt_of_lt_of_le F_rows.lt (Nat.le_of_eq g5.symm))) nin0)) (g := (mkF m 104 #[.val (.ref a1), .val (.int p2), .val (.int p3), .val (.long q4), .second, .val (.ref ro), .val (.int (-5 : Int32)), .val (.int (4 : Int32)), .val (.ref b5)] [(.ref a1)])) rfl rfl (hb hby d4_104)
  obtain ⟨cl_rr_110_14, Ar_rr_110_14, q_rr_110_14, S_rr_110_14, N_rr_110_14, H_rr_110_14, G_rr_110_14⟩ := id (((((V_rr.ext E5).keep K6 (ninS (Nat.ne_of_lt (Nat.lt_of_lt_of_le V_rr.lt (Nat.le_of_eq g5.symm))) nin0)).other W8 (Nat.ne_of_lt (Nat.lt_of_lt_of_le V_rr.lt (Nat.le_of_eq g5.symm)))).other W10 (Nat.ne_of_lt (Nat.lt_of_lt_of_le V_rr.lt (Nat.le_of_eq g5.symm)))).keep K12 (ninS (Nat.ne_of_lt (Nat.lt_of_lt_of_le V_rr.lt (Nat.le_of_eq g5.symm))) nin0))
  have hin_rr_110_14 : ¬ (p2 < 0 ∨ cl_rr_110_14.slots.size ≤ (p2 : Int32).toNatClampNeg) := by rcases hri with rfl | rfl <;> exact inb_of S_rr_110_14 ⟨by decide, by decide⟩
  obtain ⟨T15, h15, X15, e15, W15, st15⟩ := stR X13 hx hZ e13 Ar_rr_110_14 (j := p2) hin_rr_110_14 rfl (Sto.ofVA Ar_rr_110_14 q_rr_110_14 hO (Ins.self ((((B5.keep K6).wr W8).wr W10).keep K12))) (g := (mkF m 110 #[.val (.ref a1), .val (.int p2), .val (.int p3), .val (.long q4), .second, .val (.ref ro), .val (.int (-5 : Int32)), .val (.int (4 : Int32)), .val (.ref b5)] [(.ref b5), (.int p2), (.ref rr)])) rfl rfl (hb hby d4_110)
  have V_rr_110_14 : Arv Z h15 rr kr (.array .long) (2 : Int32) (own_pair p2 (.ref b5) (.ref sg)) .null := by
    rcases hri with rfl | rfl
    · exact Arv.set Ar_rr_110_14 q_rr_110_14 S_rr_110_14 N_rr_110_14 H_rr_110_14 G_rr_110_14 rfl W15 0 rfl (Nat.le_of_ble_eq_true rfl)
    · exact Arv.set Ar_rr_110_14 q_rr_110_14 S_rr_110_14 N_rr_110_14 H_rr_110_14 G_rr_110_14 rfl W15 1 rfl (Nat.le_of_ble_eq_true rfl)
  have K15 : Keep h0 h15 [rr] := KK12.wr W15 (Or.inl (List.mem_of_getElem? (i := 0) rfl))
  have N15 := Fr.snoc X15 N12 g_rr
  obtain ⟨fs, hr, hrun, hended, hW, hsame⟩ := X15.leave (v := none) (fun _ => rfl)
  refine ⟨_, _, pre0 _ ?_, hrun, hended, _, _, rfl, ?_, ⟨_, rfl⟩, hW, hsame.mono (by decide) (by decide)⟩
  · show Steps p.tables e below (s₁.setTop (mkF m 0 #[.val (.ref a1), .val (.int p2), .val (.int p3), .val (.long q4), .second, .unset, .unset, .unset, .unset] [])) _
    refine XS.aloadN X0.here hx rfl (hb hby d4_0) rfl rfl ?_
    show Steps p.tables e below (s₁.setTop (mkF m 1 #[.val (.ref a1), .val (.int p2), .val (.int p3), .val (.long q4), .second, .unset, .unset, .unset, .unset] [(.ref a1)])) _
    refine st1 _ ?_
    refine XS.iloadN X1.here hx rfl (hb hby d4_4) rfl ?_
    refine X1.aaload hx (j := p2) (v := (.ref ro)) (by rw [e1]; exact Ar_rr_5_2.1) (State.isArrayOf_alike hZ.alike Ar_rr_5_2.2.1) rfl Ar_rr_5_2.2.2 hin_rr_5_2 (by rcases hri with rfl | rfl <;> exact H_rr_5_2.at hin_rr_5_2 rfl) (g := (mkF m 5 #[.val (.ref a1), .val (.int p2), .val (.int p3), .val (.long q4), .second, .unset, .unset, .unset, .unset] [(.int p2), (.ref rr)])) rfl rfl (hb hby d4_5) _ ?_
    refine XS.astore X1.here hx rfl (hb hby d4_6) rfl rfl (l' := #[.val (.ref a1), .val (.int p2), .val (.int p3), .val (.long q4), .second, .val (.ref ro), .unset, .unset, .unset]) rfl ?_
    refine XS.aload X1.here hx rfl (hb hby d4_8) rfl rfl ?_
    refine XS.iloadN X1.here hx rfl (hb hby d4_10) rfl ?_
    show Steps p.tables e below (T1.setTop (mkF m 11 #[.val (.ref a1), .val (.int p2), .val (.int p3), .val (.long q4), .second, .val (.ref ro), .unset, .unset, .unset] [(.int p3), (.ref ro)])) _
    refine st3 _ ?_
    refine XS.istore X3.here hx rfl (hb hby d4_14) rfl (l' := #[.val (.ref a1), .val (.int p2), .val (.int p3), .val (.long q4), .second, .val (.ref ro), .val (.int (-5 : Int32)), .unset, .unset]) rfl ?_
    refine XS.iload X3.here hx rfl (hb hby d4_16) rfl ?_
    refine XS.ifYes X3.here hx rfl (pc0 := 18) (pc' := 42) rfl (hb hby d4_18) rfl ((if0 _ _).trans (tlt (by decide : (-5 : Int32) < (0 : Int32))).1) (by decide) (by decide) ?_
    refine XS.iload X3.here hx rfl (hb hby d4_42) rfl ?_
    refine XS.ineg X3.here hx rfl (hb hby d4_44) rfl ?_
    refine XS.iconst X3.here hx rfl (hb hby d4_45) ?_
    refine XS.isub X3.here hx rfl (hb hby d4_46) rfl ?_
    refine XS.istore X3.here hx rfl (hb hby d4_47) rfl (l' := #[.val (.ref a1), .val (.int p2), .val (.int p3), .val (.long q4), .second, .val (.ref ro), .val (.int (-5 : Int32)), .val (.int (4 : Int32)), .unset]) rfl ?_
    refine XS.aload X3.here hx rfl (hb hby d4_49) rfl rfl ?_
    refine X3.arraylength hx (by rw [e3]; exact Ar_ro_51_4.1) (State.isArrayOf_alike hZ.alike Ar_ro_51_4.2.1) (g := (mkF m 51 #[.val (.ref a1), .val (.int p2), .val (.int p3), .val (.long q4), .second, .val (.ref ro), .val (.int (-5 : Int32)), .val (.int (4 : Int32)), .unset] [(.ref ro)])) rfl rfl (hb hby d4_51) _ ?_
    rw [len_of S_ro_51_4 N_ro_51_4]
    refine XS.iconst X3.here hx rfl (hb hby d4_52) ?_
    refine XS.iadd X3.here hx rfl (hb hby d4_53) rfl ?_
    show Steps p.tables e below (T3.setTop (mkF m 54 #[.val (.ref a1), .val (.int p2), .val (.int p3), .val (.long q4), .second, .val (.ref ro), .val (.int (-5 : Int32)), .val (.int (4 : Int32)), .unset] [(.int (6 : Int32))])) _
    refine st5 _ ?_
    refine XS.astore X5.here hx rfl (hb hby d4_56) rfl rfl (l' := #[.val (.ref a1), .val (.int p2), .val (.int p3), .val (.long q4), .second, .val (.ref ro), .val (.int (-5 : Int32)), .val (.int (4 : Int32)), .val (.ref b5)]) rfl ?_
    refine XS.aload X5.here hx rfl (hb hby d4_58) rfl rfl ?_
    refine XS.iconst X5.here hx rfl (hb hby d4_60) ?_
    refine XS.aload X5.here hx rfl (hb hby d4_61) rfl rfl ?_
    refine XS.iconst X5.here hx rfl (hb hby d4_63) ?_
    refine XS.iload X5.here hx rfl (hb hby d4_64) rfl ?_
    show Steps p.tables e below (T5.setTop (mkF m 66 #[.val (.ref a1), .val (.int p2), .val (.int p3), .val (.long q4), .second, .val (.ref ro), .val (.int (-5 : Int32)), .val (.int (4 : Int32)), .val (.ref b5)] [(.int (4 : Int32)), (.int (0 : Int32)), (.ref b5), (.int (0 : Int32)), (.ref ro)])) _
    refine st6 _ ?_
    refine XS.aload X6.here hx rfl (hb hby d4_69) rfl rfl ?_
    refine XS.iload X6.here hx rfl (hb hby d4_71) rfl ?_
    refine XS.iloadN X6.here hx rfl (hb hby d4_73) rfl ?_
    refine XS.i2l X6.here hx rfl (hb hby d4_74) rfl ?_
    show Steps p.tables e below (T6.setTop (mkF m 75 #[.val (.ref a1), .val (.int p2), .val (.int p3), .val (.long q4), .second, .val (.ref ro), .val (.int (-5 : Int32)), .val (.int (4 : Int32)), .val (.ref b5)] [(.long (p3.toInt64)), (.int (4 : Int32)), (.ref b5)])) _
    refine st8 _ ?_
    refine XS.aload X8.here hx rfl (hb hby d4_76) rfl rfl ?_
    refine XS.iload X8.here hx rfl (hb hby d4_78) rfl ?_
    refine XS.iconst X8.here hx rfl (hb hby d4_80) ?_
    refine XS.iadd X8.here hx rfl (hb hby d4_81) rfl ?_
    refine XS.lloadN X8.here hx rfl (hb hby d4_82) rfl ?_
    show Steps p.tables e below (T8.setTop (mkF m 83 #[.val (.ref a1), .val (.int p2), .val (.int p3), .val (.long q4), .second, .val (.ref ro), .val (.int (-5 : Int32)), .val (.int (4 : Int32)), .val (.ref b5)] [(.long q4), (.int (5 : Int32)), (.ref b5)])) _
    refine st10 _ ?_
    refine XS.aload X10.here hx rfl (hb hby d4_84) rfl rfl ?_
    refine XS.iload X10.here hx rfl (hb hby d4_86) rfl ?_
    refine XS.aload X10.here hx rfl (hb hby d4_88) rfl rfl ?_
    refine XS.iload X10.here hx rfl (hb hby d4_90) rfl ?_
    refine XS.iconst X10.here hx rfl (hb hby d4_92) ?_
    refine XS.iadd X10.here hx rfl (hb hby d4_93) rfl ?_
    refine XS.aload X10.here hx rfl (hb hby d4_94) rfl rfl ?_
    show Steps p.tables e below (T10.setTop (mkF m 96 #[.val (.ref a1), .val (.int p2), .val (.int p3), .val (.long q4), .second, .val (.ref ro), .val (.int (-5 : Int32)), .val (.int (4 : Int32)), .val (.ref b5)] [(.ref ro), (.int (6 : Int32)), (.ref b5), (.int (4 : Int32)), (.ref ro)])) _
    refine X10.arraylength hx (by rw [e10]; exact Ar_ro_96_11.1) (State.isArrayOf_alike hZ.alike Ar_ro_96_11.2.1) (g := (mkF m 96 #[.val (.ref a1), .val (.int p2), .val (.int p3), .val (.long q4), .second, .val (.ref ro), .val (.int (-5 : Int32)), .val (.int (4 : Int32)), .val (.ref b5)] [(.ref ro), (.int (6 : Int32)), (.ref b5), (.int (4 : Int32)), (.ref ro)])) rfl rfl (hb hby d4_96) _ ?_
    rw [len_of S_ro_96_11 N_ro_96_11]
    refine XS.iload X10.here hx rfl (hb hby d4_97) rfl ?_
    refine XS.isub X10.here hx rfl (hb hby d4_99) rfl ?_
    show Steps p.tables e below (T10.setTop (mkF m 100 #[.val (.ref a1), .val (.int p2), .val (.int p3), .val (.long q4), .second, .val (.ref ro), .val (.int (-5 : Int32)), .val (.int (4 : Int32)), .val (.ref b5)] [(.int (0 : Int32)), (.int (6 : Int32)), (.ref b5), (.int (4 : Int32)), (.ref ro)])) _
    refine st12 _ ?_
    refine XS.aloadN X12.here hx rfl (hb hby d4_103) rfl rfl ?_
    show Steps p.tables e below (T12.setTop (mkF m 104 #[.val (.ref a1), .val (.int p2), .val (.int p3), .val (.long q4), .second, .val (.ref ro), .val (.int (-5 : Int32)), .val (.int (4 : Int32)), .val (.ref b5)] [(.ref a1)])) _
    refine st13 _ ?_
    refine XS.iloadN X13.here hx rfl (hb hby d4_107) rfl ?_
    refine XS.aload X13.here hx rfl (hb hby d4_108) rfl rfl ?_
    show Steps p.tables e below (T13.setTop (mkF m 110 #[.val (.ref a1), .val (.int p2), .val (.int p3), .val (.long q4), .second, .val (.ref ro), .val (.int (-5 : Int32)), .val (.int (4 : Int32)), .val (.ref b5)] [(.ref b5), (.int p2), (.ref rr)])) _
    refine st15 _ ?_
    show Steps p.tables e below (T15.setTop (mkF m 111 #[.val (.ref a1), .val (.int p2), .val (.int p3), .val (.long q4), .second, .val (.ref ro), .val (.int (-5 : Int32)), .val (.int (4 : Int32)), .val (.ref b5)] [])) _
    exact X15.returnOut hx Bd.returns (hb hby d4_111) hr
  · show Q_add_4a Z a1 p2 p3 q4 rr kr ro sg ka x0 x1 x2 x3 h0 n0 _ T15.heap _
    rw [e15]
    exact ⟨b5, k5, rfl, N15, K15, sz_b5, V_rr_110_14, ((((((E_rr.ext E5).keep K6).wr W8).wr W10).keep K12).wr W15), (VV12.other W15 (Ne.symm (Nat.ne_of_lt (Nat.lt_of_lt_of_le E_rr.lt (Nat.le_of_eq g5.symm))))), (((((B5.keep K6).wr W8).wr W10).keep K12).wr W15)⟩
theorem ef_add_4d (m : MethodId) (a1 : Addr) (p2 : Int32) (p3 : Int32) (q4 : Int64) : entryFrame m #[(.ref a1), (.int p2), (.int p3), (.long q4)] 9 = (mkF m 0 #[.val (.ref a1), .val (.int p2), .val (.int p3), .val (.long q4), .second, .unset, .unset, .unset, .unset] []) := by first | (simp [entryFrame, mkF, argsToLocals, Value.category]; done) | rfl
def Q_add_4d (Z : State) (a1 : Addr) (p2 : Int32) (p3 : Int32) (q4 : Int64) (rr : Addr) (kr : ClassId) (ro : Addr) (sg : Addr) (ka : ClassId) (x0 : Int64) (x1 : Int64) (x2 : Int64) (x3 : Int64) (h0 : Heap) (n0 : Nat) (v : Option Value) (h : Heap) (L : List Loc) : Prop := ∃ (b5 : Addr) (k5 : ClassId), v = none ∧ Fr n0 L ∧ Keep h0 h [rr] ∧ h0.size ≤ b5 ∧ Arv Z h rr kr (.array .long) (2 : Int32) (own_pair p2 (.ref b5) (.ref sg)) .null ∧ Exa Z h rr "[[J" ∧ Arv Z h b5 k5 .long (6 : Int32) [(.long (p3.toInt64)), (.long q4), (.long x0), (.long x1), (.long x2), (.long x3)] (.long (0 : Int64)) ∧ Exa Z h b5 "[J"
set_option maxRecDepth 65536 in
set_option maxHeartbeats 40000000 in
theorem rm_add_4d (l : Launch) (Z : State) (a0 : Array Value) (hw : ∀ d ∈ tables_1, d.before a0 Z = true) (ws : List Jvm.Cond) (a1 : Addr) (p2 : Int32) (p3 : Int32) (q4 : Int64) (rr : Addr) (kr : ClassId) (ro : Addr) (sg : Addr) (ka : ClassId) (x0 : Int64) (x1 : Int64) (x2 : Int64) (x3 : Int64) (h0 : Heap) (n0 : Nat) (Z0 : n0 ≤ h0.size) (F_rows : Fld Z h0 a1 "com/example/chartlight/chartlight/label/WeightRows" "_rows" "[[J" (.ref rr)) (V_rr : Arv Z h0 rr kr (.array .long) (2 : Int32) (own_pair p2 (.ref ro) (.ref sg)) .null) (E_rr : Exa Z h0 rr "[[J") (V_ro : Arv Z h0 ro ka .long (4 : Int32) [(.long x0), (.long x1), (.long x2), (.long x3)] (.long (0 : Int64))) (g_rr : n0 ≤ rr) (hri : p2 = (0 : Int32) ∨ p2 = (1 : Int32)) (hO : OvrA Z kr .long "[J") (hne_r : ro ≠ rr) (hl0 : ¬ ((lcmpW x0 (p3.toInt64)) < (0 : Int32))) (hn0 : ¬ ((lcmpW x0 (p3.toInt64)) = (0 : Int32))) :
    MetFree l (⟨"com/example/chartlight/chartlight/label/WeightRows", "add", "(IIJ)V"⟩ : MethodName) (head1 (Jvm.Cond.code (⟨"com/example/chartlight/chartlight/label/WeightRows", "add", "(IIJ)V"⟩ : MethodName) prog_58_method_7_code 9 none :: ws) ({ frames := 1, cells := 1, slots := 8, locals := 18 } : Room)) (fun a U => a = #[(.ref a1), (.int p2), (.int p3), (.long q4)] ∧ Z.Warmed39 U.vm ∧ U.heap = h0) (fun _ _ _ _ _ => True) (fun _ U o U' => ∃ v L, o = .returned v ∧ Q_add_4d Z a1 p2 p3 q4 rr kr ro sg ka x0 x1 x2 x3 h0 n0 v U'.heap L ∧ FrameEnd U o U' L ({ frames := 1, cells := 1, slots := 8, locals := 18 } : Room).cells ({ frames := 1, cells := 1, slots := 8, locals := 18 } : Room).slots) := by
  refine MetFree.of_bodySF (plainFor_of_name pn0) hisR ?_
  intro p e s m args below meth c s₁ Bd hml0 hP hK
  obtain ⟨rfl, hZ, hh⟩ := hP
  have hx := Bd.exec
  have hby := Bd.bytes
  have hml : c.maxLocals = 9 := hml0
  have hown : s.vm.findClass "com/example/chartlight/chartlight/label/WeightRows" = some m.cls := findClass_of_methodNamed Bd.named
  have hnm := (name_of_methodNamed Bd.named Bd.method).1
  have X0 : Stand p l e ({ frames := 1, cells := 1, slots := 8, locals := 18 } : Room) s m #[(.ref a1), (.int p2), (.int p3), (.long q4)] below meth c s₁ [] 0 0 := Stand.of_body Bd
  have e0 : s₁.heap = h0 := by rw [← hh, Bd.state]; rfl
  have N0 := Fr.nil n0
  have pre0 : ∀ t, Steps p.tables e below (s₁.setTop (mkF m 0 #[.val (.ref a1), .val (.int p2), .val (.int p3), .val (.long q4), .second, .unset, .unset, .unset, .unset] [])) t → Steps p.tables e below (s₁.setTop (entryFrame m #[(.ref a1), (.int p2), (.int p3), (.long q4)] 9)) t := fun t k => castTop (ef_add_4d m a1 p2 p3 q4) k
  obtain ⟨T1, X1, e1, st1⟩ := getF X0 hx hZ hown (host := "") (Or.inl (hw _ (List.mem_of_getElem? (i := 11) rfl))) Via.refl e0 F_rows (g := (mkF m 1 #[.val (.ref a1), .val (.int p2), .val (.int p3), .val (.long q4), .second, .unset, .unset, .unset, .unset] [(.ref a1)])) rfl rfl (hb hby d4_1)
  obtain ⟨cl_rr_5_2, Ar_rr_5_2, q_rr_5_2, S_rr_5_2, N_rr_5_2, H_rr_5_2, G_rr_5_2⟩ := id V_rr
  have hin_rr_5_2 : ¬ (p2 < 0 ∨ cl_rr_5_2.slots.size ≤ (p2 : Int32).toNatClampNeg) := by rcases hri with rfl | rfl <;> exact inb_of S_rr_5_2 ⟨by decide, by decide⟩
  obtain ⟨_, _, ⟨T3, L3, k3, n3⟩, -, X3, ⟨Lc3, hQ3, l3, y3, z3⟩, st3⟩ := Jvm.LawKit.callS X1 hx (y := (⟨"com/example/chartlight/chartlight/label/WeightRows", "find", "([JI)I"⟩ : MethodName)) hown (mvT hZ (hw _ (List.mem_of_getElem? (i := 27) rfl))) (mvT hZ (hw _ (List.mem_of_getElem? (i := 28) rfl))) (mvT hZ (hw _ (List.mem_of_getElem? (i := 2) rfl))) (mvT hZ (hw _ (List.mem_of_getElem? (i := 29) rfl))) (by decide) (backOf (W := 0) (rm_fnd_4d l Z a0 hw [] ro p3 ka x0 x1 x2 x3 h0 n0 (Nat.le_trans Z0 (Keep.refl h0 [rr]).1) V_ro (hl0 : ¬ ((lcmpW x0 (p3.toInt64)) < (0 : Int32))) (hn0 : ¬ ((lcmpW x0 (p3.toInt64)) = (0 : Int32)))) hZ (hw _ (List.mem_of_getElem? (i := 29) rfl)) (hw _ (List.mem_of_getElem? (i := 2) rfl)) (by decide) (by decide)) (g := (mkF m 11 #[.val (.ref a1), .val (.int p2), .val (.int p3), .val (.long q4), .second, .val (.ref ro), .unset, .unset, .unset] [(.int p3), (.ref ro)])) rfl (by rw [hml]; rfl) (argsL := [(.ref ro), (.int p3)]) (rest := []) (lenOf pd0 rfl) rfl (by show 2 * 0 + _ ≤ _; exact Nat.le_of_eq rfl) (hb hby d4_11) (fun _ _ => ⟨rfl, e1, (by decide : 0 + 0 ≤ _), (by decide : 0 + 0 ≤ _)⟩)
  dsimp only [Pt.U, Pt.locs, Pt.cells, Pt.slots] at X3 l3 y3 z3 st3 hQ3
  subst l3 y3 z3
  obtain ⟨rfl, rfl, e3⟩ := hQ3
  have N3 := Fr.app N0 (Fr.nil n0)
  obtain ⟨cl_ro_51_4, Ar_ro_51_4, -, S_ro_51_4, N_ro_51_4, -, -⟩ := id V_ro
  obtain ⟨T5, h5, k5, X5, e5, E5, A5, B5, st5⟩ := newPE X3 hx hZ (hw _ (List.mem_of_getElem? (i := 30) rfl)) e3 (g := (mkF m 54 #[.val (.ref a1), .val (.int p2), .val (.int p3), .val (.long q4), .second, .val (.ref ro), .val (.int (-1 : Int32)), .val (.int (0 : Int32)), .unset] [(.int (6 : Int32))])) rfl (hb hby d4_54) rfl (by decide) (cap := 6) (by decide) (by decide) (by decide) (by decide) (ad := "[J") (by decide)
  obtain ⟨b5, g5⟩ : ∃ z, z = h0.size := ⟨_, rfl⟩
  rw [← g5] at A5 B5 st5
  have sz_b5 : h0.size ≤ b5 := Nat.le_trans (Keep.refl h0 [rr]).1 (Nat.le_of_eq g5.symm)
  have g_b5 : n0 ≤ b5 := Nat.le_trans Z0 sz_b5
  have K5 : Keep h0 h5 [rr] := (Keep.refl h0 [rr]).ext E5
  have V_b5 : Arv Z h5 b5 k5 .long (6 : Int32) [(.long (0 : Int64)), (.long (0 : Int64)), (.long (0 : Int64)), (.long (0 : Int64)), (.long (0 : Int64)), (.long (0 : Int64))] (.long (0 : Int64)) := (Arv.new A5 (by decide)).pad (pad_rep [] (.long (0 : Int64)) 6)
  obtain ⟨T6, h6, L6, X6, e6, N6, K6, V6, st6⟩ := cpA X5 hx hZ hown (hw _ (List.mem_of_getElem? (i := 31) rfl)) (hw _ (List.mem_of_getElem? (i := 34) rfl)) (hw _ (List.mem_of_getElem? (i := 32) rfl)) (hw _ (List.mem_of_getElem? (i := 33) rfl)) e5 (V_ro.ext E5) V_b5 (us := []) (Or.inl ⟨rfl, rfl⟩) (by decide) (by decide) (by decide) (by decide) (by decide) rfl (Nat.le_of_ble_eq_true rfl) N3 g_b5 (g := (mkF m 66 #[.val (.ref a1), .val (.int p2), .val (.int p3), .val (.long q4), .second, .val (.ref ro), .val (.int (-1 : Int32)), .val (.int (0 : Int32)), .val (.ref b5)] [(.int (0 : Int32)), (.int (0 : Int32)), (.ref b5), (.int (0 : Int32)), (.ref ro)])) rfl (by rw [hml]; rfl) rfl (hb hby d4_66) (by decide) (W := 0) (by show 2 * 0 + _ ≤ _; exact Nat.le_of_eq rfl) (by decide)
  have VV6 : Arv Z h6 b5 k5 .long (6 : Int32) [(.long (0 : Int64)), (.long (0 : Int64)), (.long (0 : Int64)), (.long (0 : Int64)), (.long (0 : Int64)), (.long (0 : Int64))] (.long (0 : Int64)) := V6
  have KK6 : Keep h0 h6 [rr] := K5.trans K6 (allS (Or.inr sz_b5) all0)
  obtain ⟨cl_b5_75_7, Ar_b5_75_7, q_b5_75_7, S_b5_75_7, N_b5_75_7, H_b5_75_7, G_b5_75_7⟩ := id VV6
  have hin_b5_75_7 : ¬ ((0 : Int32) < 0 ∨ cl_b5_75_7.slots.size ≤ ((0 : Int32) : Int32).toNatClampNeg) := inb_of S_b5_75_7 ⟨by decide, by decide⟩
  obtain ⟨T8, h8, X8, e8, W8, st8⟩ := stJ X6 hx hZ e6 Ar_b5_75_7 (j := (0 : Int32)) hin_b5_75_7 (g := (mkF m 75 #[.val (.ref a1), .val (.int p2), .val (.int p3), .val (.long q4), .second, .val (.ref ro), .val (.int (-1 : Int32)), .val (.int (0 : Int32)), .val (.ref b5)] [(.long (p3.toInt64)), (.int (0 : Int32)), (.ref b5)])) rfl rfl (hb hby d4_75)
  have V_b5_75_7 : Arv Z h8 b5 k5 .long (6 : Int32) [(.long (p3.toInt64)), (.long (0 : Int64)), (.long (0 : Int64)), (.long (0 : Int64)), (.long (0 : Int64)), (.long (0 : Int64))] (.long (0 : Int64)) := Arv.set Ar_b5_75_7 q_b5_75_7 S_b5_75_7 N_b5_75_7 H_b5_75_7 G_b5_75_7 rfl W8 0 rfl (Nat.le_of_ble_eq_true rfl)
  have K8 : Keep h0 h8 [rr] := KK6.wr W8 (Or.inr sz_b5)
  have N8 := Fr.snoc X8 N6 g_b5
  obtain ⟨cl_b5_83_9, Ar_b5_83_9, q_b5_83_9, S_b5_83_9, N_b5_83_9, H_b5_83_9, G_b5_83_9⟩ := id V_b5_75_7
  have hin_b5_83_9 : ¬ ((1 : Int32) < 0 ∨ cl_b5_83_9.slots.size ≤ ((1 : Int32) : Int32).toNatClampNeg) := inb_of S_b5_83_9 ⟨by decide, by decide⟩
  obtain ⟨T10, h10, X10, e10, W10, st10⟩ := stJ X8 hx hZ e8 Ar_b5_83_9 (j := (1 : Int32)) hin_b5_83_9 (g := (mkF m 83 #[.val (.ref a1), .val (.int p2), .val (.int p3), .val (.long q4), .second, .val (.ref ro), .val (.int (-1 : Int32)), .val (.int (0 : Int32)), .val (.ref b5)] [(.long q4), (.int (1 : Int32)), (.ref b5)])) rfl rfl (hb hby d4_83)
  have V_b5_83_9 : Arv Z h10 b5 k5 .long (6 : Int32) [(.long (p3.toInt64)), (.long q4), (.long (0 : Int64)), (.long (0 : Int64)), (.long (0 : Int64)), (.long (0 : Int64))] (.long (0 : Int64)) := Arv.set Ar_b5_83_9 q_b5_83_9 S_b5_83_9 N_b5_83_9 H_b5_83_9 G_b5_83_9 rfl W10 1 rfl (Nat.le_of_ble_eq_true rfl)
  have K10 : Keep h0 h10 [rr] := K8.wr W10 (Or.inr sz_b5)
  have N10 := Fr.snoc X10 N8 g_b5
  obtain ⟨cl_ro_96_11, Ar_ro_96_11, -, S_ro_96_11, N_ro_96_11, -, -⟩ := id ((((V_ro.ext E5).keep K6 (ninS (Nat.ne_of_lt (Nat.lt_of_lt_of_le V_ro.lt (Nat.le_of_eq g5.symm))) nin0)).other W8 (Nat.ne_of_lt (Nat.lt_of_lt_of_le V_ro.lt (Nat.le_of_eq g5.symm)))).other W10 (Nat.ne_of_lt (Nat.lt_of_lt_of_le V_ro.lt (Nat.le_of_eq g5.symm))))
  obtain ⟨T12, h12, L12, X12, e12, N12, K12, V12, st12⟩ := cpA X10 hx hZ hown (hw _ (List.mem_of_getElem? (i := 31) rfl)) (hw _ (List.mem_of_getElem? (i := 34) rfl)) (hw _ (List.mem_of_getElem? (i := 32) rfl)) (hw _ (List.mem_of_getElem? (i := 33) rfl)) e10 ((((V_ro.ext E5).keep K6 (ninS (Nat.ne_of_lt (Nat.lt_of_lt_of_le V_ro.lt (Nat.le_of_eq g5.symm))) nin0)).other W8 (Nat.ne_of_lt (Nat.lt_of_lt_of_le V_ro.lt (Nat.le_of_eq g5.symm)))).other W10 (Nat.ne_of_lt (Nat.lt_of_lt_of_le V_ro.lt (Nat.le_of_eq g5.symm)))) V_b5_83_9 (us := [(.long x0), (.long x1), (.long x2), (.long x3)]) (Or.inl ⟨rfl, rfl⟩) (by decide) (by decide) (by decide) (by decide) (by decide) rfl (Nat.le_of_ble_eq_true rfl) N10 g_b5 (g := (mkF m 100 #[.val (.ref a1), .val (.int p2), .val (.int p3), .val (.long q4), .second, .val (.ref ro), .val (.int (-1 : Int32)), .val (.int (0 : Int32)), .val (.ref b5)] [(.int (4 : Int32)), (.int (2 : Int32)), (.ref b5), (.int (0 : Int32)), (.ref ro)])) rfl (by rw [hml]; rfl) rfl (hb hby d4_100) (by decide) (W := 0) (by show 2 * 0 + _ ≤ _; exact Nat.le_of_eq rfl) (by decide)
  have VV12 : Arv Z h12 b5 k5 .long (6 : Int32) [(.long (p3.toInt64)), (.long q4), (.long x0), (.long x1), (.long x2), (.long x3)] (.long (0 : Int64)) := V12
  have KK12 : Keep h0 h12 [rr] := K10.trans K12 (allS (Or.inr sz_b5) all0)
  obtain ⟨T13, X13, e13, st13⟩ := getF X12 hx hZ hown (host := "") (Or.inl (hw _ (List.mem_of_getElem? (i := 11) rfl))) Via.refl e12 (((((F_rows.ext E5).keep K6 (ninS (Nat.ne_of_lt (Nat.lt_of_lt_of_le F_rows.lt (Nat.le_of_eq g5.symm))) nin0)).other W8 (Or.inl (Nat.ne_of_lt (Nat.lt_of_lt_of_le F_rows.lt (Nat.le_of_eq g5.symm))))).other W10 (Or.inl (Nat.ne_of_lt (Nat.lt_of_lt_of_le F_rows.lt (Nat.le_of_eq g5.symm))))).keep K12 (ninS (Nat.ne_of_lt (Nat.lt_of_lt_of_le F_rows.lt (Nat.le_of_eq g5.symm))) nin0)) (g := (mkF m 104 #[.val (.ref a1), .val (.int p2), .val (.int p3), .val (.long q4), .second, .val (.ref ro), .val (.int (-1 : Int32)), .val (.int (0 : Int32)), .val (.ref b5)] [(.ref a1)])) rfl rfl (hb hby d4_104)
  obtain ⟨cl_rr_110_14, Ar_rr_110_14, q_rr_110_14, S_rr_110_14, N_rr_110_14, H_rr_110_14, G_rr_110_14⟩ := id (((((V_rr.ext E5).keep K6 (ninS (Nat.ne_of_lt (Nat.lt_of_lt_of_le V_rr.lt (Nat.le_of_eq g5.symm))) nin0)).other W8 (Nat.ne_of_lt (Nat.lt_of_lt_of_le V_rr.lt (Nat.le_of_eq g5.symm)))).other W10 (Nat.ne_of_lt (Nat.lt_of_lt_of_le V_rr.lt (Nat.le_of_eq g5.symm)))).keep K12 (ninS (Nat.ne_of_lt (Nat.lt_of_lt_of_le V_rr.lt (Nat.le_of_eq g5.symm))) nin0))
  have hin_rr_110_14 : ¬ (p2 < 0 ∨ cl_rr_110_14.slots.size ≤ (p2 : Int32).toNatClampNeg) := by rcases hri with rfl | rfl <;> exact inb_of S_rr_110_14 ⟨by decide, by decide⟩
  obtain ⟨T15, h15, X15, e15, W15, st15⟩ := stR X13 hx hZ e13 Ar_rr_110_14 (j := p2) hin_rr_110_14 rfl (Sto.ofVA Ar_rr_110_14 q_rr_110_14 hO (Ins.self ((((B5.keep K6).wr W8).wr W10).keep K12))) (g := (mkF m 110 #[.val (.ref a1), .val (.int p2), .val (.int p3), .val (.long q4), .second, .val (.ref ro), .val (.int (-1 : Int32)), .val (.int (0 : Int32)), .val (.ref b5)] [(.ref b5), (.int p2), (.ref rr)])) rfl rfl (hb hby d4_110)
  have V_rr_110_14 : Arv Z h15 rr kr (.array .long) (2 : Int32) (own_pair p2 (.ref b5) (.ref sg)) .null := by
    rcases hri with rfl | rfl
    · exact Arv.set Ar_rr_110_14 q_rr_110_14 S_rr_110_14 N_rr_110_14 H_rr_110_14 G_rr_110_14 rfl W15 0 rfl (Nat.le_of_ble_eq_true rfl)
    · exact Arv.set Ar_rr_110_14 q_rr_110_14 S_rr_110_14 N_rr_110_14 H_rr_110_14 G_rr_110_14 rfl W15 1 rfl (Nat.le_of_ble_eq_true rfl)
  have K15 : Keep h0 h15 [rr] := KK12.wr W15 (Or.inl (List.mem_of_getElem? (i := 0) rfl))
  have N15 := Fr.snoc X15 N12 g_rr
  obtain ⟨fs, hr, hrun, hended, hW, hsame⟩ := X15.leave (v := none) (fun _ => rfl)
  refine ⟨_, _, pre0 _ ?_, hrun, hended, _, _, rfl, ?_, ⟨_, rfl⟩, hW, hsame.mono (by decide) (by decide)⟩
  · show Steps p.tables e below (s₁.setTop (mkF m 0 #[.val (.ref a1), .val (.int p2), .val (.int p3), .val (.long q4), .second, .unset, .unset, .unset, .unset] [])) _
    refine XS.aloadN X0.here hx rfl (hb hby d4_0) rfl rfl ?_
    show Steps p.tables e below (s₁.setTop (mkF m 1 #[.val (.ref a1), .val (.int p2), .val (.int p3), .val (.long q4), .second, .unset, .unset, .unset, .unset] [(.ref a1)])) _
    refine st1 _ ?_
    refine XS.iloadN X1.here hx rfl (hb hby d4_4) rfl ?_
    refine X1.aaload hx (j := p2) (v := (.ref ro)) (by rw [e1]; exact Ar_rr_5_2.1) (State.isArrayOf_alike hZ.alike Ar_rr_5_2.2.1) rfl Ar_rr_5_2.2.2 hin_rr_5_2 (by rcases hri with rfl | rfl <;> exact H_rr_5_2.at hin_rr_5_2 rfl) (g := (mkF m 5 #[.val (.ref a1), .val (.int p2), .val (.int p3), .val (.long q4), .second, .unset, .unset, .unset, .unset] [(.int p2), (.ref rr)])) rfl rfl (hb hby d4_5) _ ?_
    refine XS.astore X1.here hx rfl (hb hby d4_6) rfl rfl (l' := #[.val (.ref a1), .val (.int p2), .val (.int p3), .val (.long q4), .second, .val (.ref ro), .unset, .unset, .unset]) rfl ?_
    refine XS.aload X1.here hx rfl (hb hby d4_8) rfl rfl ?_
    refine XS.iloadN X1.here hx rfl (hb hby d4_10) rfl ?_
    show Steps p.tables e below (T1.setTop (mkF m 11 #[.val (.ref a1), .val (.int p2), .val (.int p3), .val (.long q4), .second, .val (.ref ro), .unset, .unset, .unset] [(.int p3), (.ref ro)])) _
    refine st3 _ ?_
    refine XS.istore X3.here hx rfl (hb hby d4_14) rfl (l' := #[.val (.ref a1), .val (.int p2), .val (.int p3), .val (.long q4), .second, .val (.ref ro), .val (.int (-1 : Int32)), .unset, .unset]) rfl ?_
    refine XS.iload X3.here hx rfl (hb hby d4_16) rfl ?_
    refine XS.ifYes X3.here hx rfl (pc0 := 18) (pc' := 42) rfl (hb hby d4_18) rfl ((if0 _ _).trans (tlt (by decide : (-1 : Int32) < (0 : Int32))).1) (by decide) (by decide) ?_
    refine XS.iload X3.here hx rfl (hb hby d4_42) rfl ?_
    refine XS.ineg X3.here hx rfl (hb hby d4_44) rfl ?_
    refine XS.iconst X3.here hx rfl (hb hby d4_45) ?_
    refine XS.isub X3.here hx rfl (hb hby d4_46) rfl ?_
    refine XS.istore X3.here hx rfl (hb hby d4_47) rfl (l' := #[.val (.ref a1), .val (.int p2), .val (.int p3), .val (.long q4), .second, .val (.ref ro), .val (.int (-1 : Int32)), .val (.int (0 : Int32)), .unset]) rfl ?_
    refine XS.aload X3.here hx rfl (hb hby d4_49) rfl rfl ?_
    refine X3.arraylength hx (by rw [e3]; exact Ar_ro_51_4.1) (State.isArrayOf_alike hZ.alike Ar_ro_51_4.2.1) (g := (mkF m 51 #[.val (.ref a1), .val (.int p2), .val (.int p3), .val (.long q4), .second, .val (.ref ro), .val (.int (-1 : Int32)), .val (.int (0 : Int32)), .unset] [(.ref ro)])) rfl rfl (hb hby d4_51) _ ?_
    rw [len_of S_ro_51_4 N_ro_51_4]
    refine XS.iconst X3.here hx rfl (hb hby d4_52) ?_
    refine XS.iadd X3.here hx rfl (hb hby d4_53) rfl ?_
    show Steps p.tables e below (T3.setTop (mkF m 54 #[.val (.ref a1), .val (.int p2), .val (.int p3), .val (.long q4), .second, .val (.ref ro), .val (.int (-1 : Int32)), .val (.int (0 : Int32)), .unset] [(.int (6 : Int32))])) _
    refine st5 _ ?_
    refine XS.astore X5.here hx rfl (hb hby d4_56) rfl rfl (l' := #[.val (.ref a1), .val (.int p2), .val (.int p3), .val (.long q4), .second, .val (.ref ro), .val (.int (-1 : Int32)), .val (.int (0 : Int32)), .val (.ref b5)]) rfl ?_
    refine XS.aload X5.here hx rfl (hb hby d4_58) rfl rfl ?_
    refine XS.iconst X5.here hx rfl (hb hby d4_60) ?_
    refine XS.aload X5.here hx rfl (hb hby d4_61) rfl rfl ?_
    refine XS.iconst X5.here hx rfl (hb hby d4_63) ?_
    refine XS.iload X5.here hx rfl (hb hby d4_64) rfl ?_
    show Steps p.tables e below (T5.setTop (mkF m 66 #[.val (.ref a1), .val (.int p2), .val (.int p3), .val (.long q4), .second, .val (.ref ro), .val (.int (-1 : Int32)), .val (.int (0 : Int32)), .val (.ref b5)] [(.int (0 : Int32)), (.int (0 : Int32)), (.ref b5), (.int (0 : Int32)), (.ref ro)])) _
    refine st6 _ ?_
    refine XS.aload X6.here hx rfl (hb hby d4_69) rfl rfl ?_
    refine XS.iload X6.here hx rfl (hb hby d4_71) rfl ?_
    refine XS.iloadN X6.here hx rfl (hb hby d4_73) rfl ?_
    refine XS.i2l X6.here hx rfl (hb hby d4_74) rfl ?_
    show Steps p.tables e below (T6.setTop (mkF m 75 #[.val (.ref a1), .val (.int p2), .val (.int p3), .val (.long q4), .second, .val (.ref ro), .val (.int (-1 : Int32)), .val (.int (0 : Int32)), .val (.ref b5)] [(.long (p3.toInt64)), (.int (0 : Int32)), (.ref b5)])) _
    refine st8 _ ?_
    refine XS.aload X8.here hx rfl (hb hby d4_76) rfl rfl ?_
    refine XS.iload X8.here hx rfl (hb hby d4_78) rfl ?_
    refine XS.iconst X8.here hx rfl (hb hby d4_80) ?_
    refine XS.iadd X8.here hx rfl (hb hby d4_81) rfl ?_
    refine XS.lloadN X8.here hx rfl (hb hby d4_82) rfl ?_
    show Steps p.tables e below (T8.setTop (mkF m 83 #[.val (.ref a1), .val (.int p2), .val (.int p3), .val (.long q4), .second, .val (.ref ro), .val (.int (-1 : Int32)), .val (.int (0 : Int32)), .val (.ref b5)] [(.long q4), (.int (1 : Int32)), (.ref b5)])) _
    refine st10 _ ?_
    refine XS.aload X10.here hx rfl (hb hby d4_84) rfl rfl ?_
    refine XS.iload X10.here hx rfl (hb hby d4_86) rfl ?_
    refine XS.aload X10.here hx rfl (hb hby d4_88) rfl rfl ?_
    refine XS.iload X10.here hx rfl (hb hby d4_90) rfl ?_
    refine XS.iconst X10.here hx rfl (hb hby d4_92) ?_
    refine XS.iadd X10.here hx rfl (hb hby d4_93) rfl ?_
    refine XS.aload X10.here hx rfl (hb hby d4_94) rfl rfl ?_
    show Steps p.tables e below (T10.setTop (mkF m 96 #[.val (.ref a1), .val (.int p2), .val (.int p3), .val (.long q4), .second, .val (.ref ro), .val (.int (-1 : Int32)), .val (.int (0 : Int32)), .val (.ref b5)] [(.ref ro), (.int (2 : Int32)), (.ref b5), (.int (0 : Int32)), (.ref ro)])) _
    refine X10.arraylength hx (by rw [e10]; exact Ar_ro_96_11.1) (State.isArrayOf_alike hZ.alike Ar_ro_96_11.2.1) (g := (mkF m 96 #[.val (.ref a1), .val (.int p2), .val (.int p3), .val (.long q4), .second, .val (.ref ro), .val (.int (-1 : Int32)), .val (.int (0 : Int32)), .val (.ref b5)] [(.ref ro), (.int (2 : Int32)), (.ref b5), (.int (0 : Int32)), (.ref ro)])) rfl rfl (hb hby d4_96) _ ?_
    rw [len_of S_ro_96_11 N_ro_96_11]
    refine XS.iload X10.here hx rfl (hb hby d4_97) rfl ?_
    refine XS.isub X10.here hx rfl (hb hby d4_99) rfl ?_
    show Steps p.tables e below (T10.setTop (mkF m 100 #[.val (.ref a1), .val (.int p2), .val (.int p3), .val (.long q4), .second, .val (.ref ro), .val (.int (-1 : Int32)), .val (.int (0 : Int32)), .val (.ref b5)] [(.int (4 : Int32)), (.int (2 : Int32)), (.ref b5), (.int (0 : Int32)), (.ref ro)])) _
    refine st12 _ ?_
    refine XS.aloadN X12.here hx rfl (hb hby d4_103) rfl rfl ?_
    show Steps p.tables e below (T12.setTop (mkF m 104 #[.val (.ref a1), .val (.int p2), .val (.int p3), .val (.long q4), .second, .val (.ref ro), .val (.int (-1 : Int32)), .val (.int (0 : Int32)), .val (.ref b5)] [(.ref a1)])) _
    refine st13 _ ?_
    refine XS.iloadN X13.here hx rfl (hb hby d4_107) rfl ?_
    refine XS.aload X13.here hx rfl (hb hby d4_108) rfl rfl ?_
    show Steps p.tables e below (T13.setTop (mkF m 110 #[.val (.ref a1), .val (.int p2), .val (.int p3), .val (.long q4), .second, .val (.ref ro), .val (.int (-1 : Int32)), .val (.int (0 : Int32)), .val (.ref b5)] [(.ref b5), (.int p2), (.ref rr)])) _
    refine st15 _ ?_
    show Steps p.tables e below (T15.setTop (mkF m 111 #[.val (.ref a1), .val (.int p2), .val (.int p3), .val (.long q4), .second, .val (.ref ro), .val (.int (-1 : Int32)), .val (.int (0 : Int32)), .val (.ref b5)] [])) _
    exact X15.returnOut hx Bd.returns (hb hby d4_111) hr
  · show Q_add_4d Z a1 p2 p3 q4 rr kr ro sg ka x0 x1 x2 x3 h0 n0 _ T15.heap _
    rw [e15]
    exact ⟨b5, k5, rfl, N15, K15, sz_b5, V_rr_110_14, ((((((E_rr.ext E5).keep K6).wr W8).wr W10).keep K12).wr W15), (VV12.other W15 (Ne.symm (Nat.ne_of_lt (Nat.lt_of_lt_of_le E_rr.lt (Nat.le_of_eq g5.symm))))), (((((B5.keep K6).wr W8).wr W10).keep K12).wr W15)⟩
theorem ef_add_6a (m : MethodId) (a1 : Addr) (p2 : Int32) (p3 : Int32) (q4 : Int64) : entryFrame m #[(.ref a1), (.int p2), (.int p3), (.long q4)] 9 = (mkF m 0 #[.val (.ref a1), .val (.int p2), .val (.int p3), .val (.long q4), .second, .unset, .unset, .unset, .unset] []) := by first | (simp [entryFrame, mkF, argsToLocals, Value.category]; done) | rfl
def Q_add_6a (Z : State) (a1 : Addr) (p2 : Int32) (p3 : Int32) (q4 : Int64) (rr : Addr) (kr : ClassId) (ro : Addr) (sg : Addr) (ka : ClassId) (x0 : Int64) (x1 : Int64) (x2 : Int64) (x3 : Int64) (x4 : Int64) (x5 : Int64) (h0 : Heap) (n0 : Nat) (v : Option Value) (h : Heap) (L : List Loc) : Prop := ∃ (b5 : Addr) (k5 : ClassId), v = none ∧ Fr n0 L ∧ Keep h0 h [rr] ∧ h0.size ≤ b5 ∧ Arv Z h rr kr (.array .long) (2 : Int32) (own_pair p2 (.ref b5) (.ref sg)) .null ∧ Exa Z h rr "[[J" ∧ Arv Z h b5 k5 .long (8 : Int32) [(.long x0), (.long x1), (.long x2), (.long x3), (.long x4), (.long x5), (.long (p3.toInt64)), (.long q4)] (.long (0 : Int64)) ∧ Exa Z h b5 "[J"
set_option maxRecDepth 65536 in
set_option maxHeartbeats 40000000 in
theorem rm_add_6a (l : Launch) (Z : State) (a0 : Array Value) (hw : ∀ d ∈ tables_1, d.before a0 Z = true) (ws : List Jvm.Cond) (a1 : Addr) (p2 : Int32) (p3 : Int32) (q4 : Int64) (rr : Addr) (kr : ClassId) (ro : Addr) (sg : Addr) (ka : ClassId) (x0 : Int64) (x1 : Int64) (x2 : Int64) (x3 : Int64) (x4 : Int64) (x5 : Int64) (h0 : Heap) (n0 : Nat) (Z0 : n0 ≤ h0.size) (F_rows : Fld Z h0 a1 "com/example/chartlight/chartlight/label/WeightRows" "_rows" "[[J" (.ref rr)) (V_rr : Arv Z h0 rr kr (.array .long) (2 : Int32) (own_pair p2 (.ref ro) (.ref sg)) .null) (E_rr : Exa Z h0 rr "[[J") (V_ro : Arv Z h0 ro ka .long (6 : Int32) [(.long x0), (.long x1), (.long x2), (.long x3), (.long x4), (.long x5)] (.long (0 : Int64))) (g_rr : n0 ≤ rr) (hri : p2 = (0 : Int32) ∨ p2 = (1 : Int32)) (hO : OvrA Z kr .long "[J") (hne_r : ro ≠ rr) (hl0 : (lcmpW x0 (p3.toInt64)) < (0 : Int32)) (hl2 : (lcmpW x2 (p3.toInt64)) < (0 : Int32)) (hl4 : (lcmpW x4 (p3.toInt64)) < (0 : Int32)) :
    MetFree l (⟨"com/example/chartlight/chartlight/label/WeightRows", "add", "(IIJ)V"⟩ : MethodName) (head1 (Jvm.Cond.code (⟨"com/example/chartlight/chartlight/label/WeightRows", "add", "(IIJ)V"⟩ : MethodName) prog_58_method_7_code 9 none :: ws) ({ frames := 1, cells := 1, slots := 8, locals := 18 } : Room)) (fun a U => a = #[(.ref a1), (.int p2), (.int p3), (.long q4)] ∧ Z.Warmed39 U.vm ∧ U.heap = h0) (fun _ _ _ _ _ => True) (fun _ U o U' => ∃ v L, o = .returned v ∧ Q_add_6a Z a1 p2 p3 q4 rr kr ro sg ka x0 x1 x2 x3 x4 x5 h0 n0 v U'.heap L ∧ FrameEnd U o U' L ({ frames := 1, cells := 1, slots := 8, locals := 18 } : Room).cells ({ frames := 1, cells := 1, slots := 8, locals := 18 } : Room).slots) := by
  refine MetFree.of_bodySF (plainFor_of_name pn0) hisR ?_
  intro p e s m args below meth c s₁ Bd hml0 hP hK
  obtain ⟨rfl, hZ, hh⟩ := hP
  have hx := Bd.exec
  have hby := Bd.bytes
  have hml : c.maxLocals = 9 := hml0
  have hown : s.vm.findClass "com/example/chartlight/chartlight/label/WeightRows" = some m.cls := findClass_of_methodNamed Bd.named
  have hnm := (name_of_methodNamed Bd.named Bd.method).1
  have X0 : Stand p l e ({ frames := 1, cells := 1, slots := 8, locals := 18 } : Room) s m #[(.ref a1), (.int p2), (.int p3), (.long q4)] below meth c s₁ [] 0 0 := Stand.of_body Bd
  have e0 : s₁.heap = h0 := by rw [← hh, Bd.state]; rfl
  have N0 := Fr.nil n0
  have pre0 : ∀ t, Steps p.tables e below (s₁.setTop (mkF m 0 #[.val (.ref a1), .val (.int p2), .val (.int p3), .val (.long q4), .second, .unset, .unset, .unset, .unset] [])) t → Steps p.tables e below (s₁.setTop (entryFrame m #[(.ref a1), (.int p2), (.int p3), (.long q4)] 9)) t := fun t k => castTop (ef_add_6a m a1 p2 p3 q4) k
  obtain ⟨T1, X1, e1, st1⟩ := getF X0 hx hZ hown (host := "") (Or.inl (hw _ (List.mem_of_getElem? (i := 11) rfl))) Via.refl e0 F_rows (g := (mkF m 1 #[.val (.ref a1), .val (.int p2), .val (.int p3), .val (.long q4), .second, .unset, .unset, .unset, .unset] [(.ref a1)])) rfl rfl (hb hby d4_1)
  obtain ⟨cl_rr_5_2, Ar_rr_5_2, q_rr_5_2, S_rr_5_2, N_rr_5_2, H_rr_5_2, G_rr_5_2⟩ := id V_rr
  have hin_rr_5_2 : ¬ (p2 < 0 ∨ cl_rr_5_2.slots.size ≤ (p2 : Int32).toNatClampNeg) := by rcases hri with rfl | rfl <;> exact inb_of S_rr_5_2 ⟨by decide, by decide⟩
  obtain ⟨_, _, ⟨T3, L3, k3, n3⟩, -, X3, ⟨Lc3, hQ3, l3, y3, z3⟩, st3⟩ := Jvm.LawKit.callS X1 hx (y := (⟨"com/example/chartlight/chartlight/label/WeightRows", "find", "([JI)I"⟩ : MethodName)) hown (mvT hZ (hw _ (List.mem_of_getElem? (i := 27) rfl))) (mvT hZ (hw _ (List.mem_of_getElem? (i := 28) rfl))) (mvT hZ (hw _ (List.mem_of_getElem? (i := 2) rfl))) (mvT hZ (hw _ (List.mem_of_getElem? (i := 29) rfl))) (by decide) (backOf (W := 0) (rm_fnd_6a l Z a0 hw [] ro p3 ka x0 x1 x2 x3 x4 x5 h0 n0 (Nat.le_trans Z0 (Keep.refl h0 [rr]).1) V_ro (hl0 : (lcmpW x0 (p3.toInt64)) < (0 : Int32)) (hl2 : (lcmpW x2 (p3.toInt64)) < (0 : Int32)) (hl4 : (lcmpW x4 (p3.toInt64)) < (0 : Int32))) hZ (hw _ (List.mem_of_getElem? (i := 29) rfl)) (hw _ (List.mem_of_getElem? (i := 2) rfl)) (by decide) (by decide)) (g := (mkF m 11 #[.val (.ref a1), .val (.int p2), .val (.int p3), .val (.long q4), .second, .val (.ref ro), .unset, .unset, .unset] [(.int p3), (.ref ro)])) rfl (by rw [hml]; rfl) (argsL := [(.ref ro), (.int p3)]) (rest := []) (lenOf pd0 rfl) rfl (by show 2 * 0 + _ ≤ _; exact Nat.le_of_eq rfl) (hb hby d4_11) (fun _ _ => ⟨rfl, e1, (by decide : 0 + 0 ≤ _), (by decide : 0 + 0 ≤ _)⟩)
  dsimp only [Pt.U, Pt.locs, Pt.cells, Pt.slots] at X3 l3 y3 z3 st3 hQ3
  subst l3 y3 z3
  obtain ⟨rfl, rfl, e3⟩ := hQ3
  have N3 := Fr.app N0 (Fr.nil n0)
  obtain ⟨cl_ro_51_4, Ar_ro_51_4, -, S_ro_51_4, N_ro_51_4, -, -⟩ := id V_ro
  obtain ⟨T5, h5, k5, X5, e5, E5, A5, B5, st5⟩ := newPE X3 hx hZ (hw _ (List.mem_of_getElem? (i := 30) rfl)) e3 (g := (mkF m 54 #[.val (.ref a1), .val (.int p2), .val (.int p3), .val (.long q4), .second, .val (.ref ro), .val (.int (-7 : Int32)), .val (.int (6 : Int32)), .unset] [(.int (8 : Int32))])) rfl (hb hby d4_54) rfl (by decide) (cap := 8) (by decide) (by decide) (by decide) (by decide) (ad := "[J") (by decide)
  obtain ⟨b5, g5⟩ : ∃ z, z = h0.size := ⟨_, rfl⟩
  rw [← g5] at A5 B5 st5
  have sz_b5 : h0.size ≤ b5 := Nat.le_trans (Keep.refl h0 [rr]).1 (Nat.le_of_eq g5.symm)
  have g_b5 : n0 ≤ b5 := Nat.le_trans Z0 sz_b5
  have K5 : Keep h0 h5 [rr] := (Keep.refl h0 [rr]).ext E5
  have V_b5 : Arv Z h5 b5 k5 .long (8 : Int32) [(.long (0 : Int64)), (.long (0 : Int64)), (.long (0 : Int64)), (.long (0 : Int64)), (.long (0 : Int64)), (.long (0 : Int64)), (.long (0 : Int64)), (.long (0 : Int64))] (.long (0 : Int64)) := (Arv.new A5 (by decide)).pad (pad_rep [] (.long (0 : Int64)) 8)
  obtain ⟨T6, h6, L6, X6, e6, N6, K6, V6, st6⟩ := cpA X5 hx hZ hown (hw _ (List.mem_of_getElem? (i := 31) rfl)) (hw _ (List.mem_of_getElem? (i := 34) rfl)) (hw _ (List.mem_of_getElem? (i := 32) rfl)) (hw _ (List.mem_of_getElem? (i := 33) rfl)) e5 (V_ro.ext E5) V_b5 (us := [(.long x0), (.long x1), (.long x2), (.long x3), (.long x4), (.long x5)]) (Or.inl ⟨rfl, rfl⟩) (by decide) (by decide) (by decide) (by decide) (by decide) rfl (Nat.le_of_ble_eq_true rfl) N3 g_b5 (g := (mkF m 66 #[.val (.ref a1), .val (.int p2), .val (.int p3), .val (.long q4), .second, .val (.ref ro), .val (.int (-7 : Int32)), .val (.int (6 : Int32)), .val (.ref b5)] [(.int (6 : Int32)), (.int (0 : Int32)), (.ref b5), (.int (0 : Int32)), (.ref ro)])) rfl (by rw [hml]; rfl) rfl (hb hby d4_66) (by decide) (W := 0) (by show 2 * 0 + _ ≤ _; exact Nat.le_of_eq rfl) (by decide)
  have VV6 : Arv Z h6 b5 k5 .long (8 : Int32) [(.long x0), (.long x1), (.long x2), (.long x3), (.long x4), (.long x5), (.long (0 : Int64)), (.long (0 : Int64))] (.long (0 : Int64)) := V6
  have KK6 : Keep h0 h6 [rr] := K5.trans K6 (allS (Or.inr sz_b5) all0)
  obtain ⟨cl_b5_75_7, Ar_b5_75_7, q_b5_75_7, S_b5_75_7, N_b5_75_7, H_b5_75_7, G_b5_75_7⟩ := id VV6
  have hin_b5_75_7 : ¬ ((6 : Int32) < 0 ∨ cl_b5_75_7.slots.size ≤ ((6 : Int32) : Int32).toNatClampNeg) := inb_of S_b5_75_7 ⟨by decide, by decide⟩
  obtain ⟨T8, h8, X8, e8, W8, st8⟩ := stJ X6 hx hZ e6 Ar_b5_75_7 (j := (6 : Int32)) hin_b5_75_7 (g := (mkF m 75 #[.val (.ref a1), .val (.int p2), .val (.int p3), .val (.long q4), .second, .val (.ref ro), .val (.int (-7 : Int32)), .val (.int (6 : Int32)), .val (.ref b5)] [(.long (p3.toInt64)), (.int (6 : Int32)), (.ref b5)])) rfl rfl (hb hby d4_75)
  have V_b5_75_7 : Arv Z h8 b5 k5 .long (8 : Int32) [(.long x0), (.long x1), (.long x2), (.long x3), (.long x4), (.long x5), (.long (p3.toInt64)), (.long (0 : Int64))] (.long (0 : Int64)) := Arv.set Ar_b5_75_7 q_b5_75_7 S_b5_75_7 N_b5_75_7 H_b5_75_7 G_b5_75_7 rfl W8 6 rfl (Nat.le_of_ble_eq_true rfl)
  have K8 : Keep h0 h8 [rr] := KK6.wr W8 (Or.inr sz_b5)
  have N8 := Fr.snoc X8 N6 g_b5
  obtain ⟨cl_b5_83_9, Ar_b5_83_9, q_b5_83_9, S_b5_83_9, N_b5_83_9, H_b5_83_9, G_b5_83_9⟩ := id V_b5_75_7
  have hin_b5_83_9 : ¬ ((7 : Int32) < 0 ∨ cl_b5_83_9.slots.size ≤ ((7 : Int32) : Int32).toNatClampNeg) := inb_of S_b5_83_9 ⟨by decide, by decide⟩
  obtain ⟨T10, h10, X10, e10, W10, st10⟩ := stJ X8 hx hZ e8 Ar_b5_83_9 (j := (7 : Int32)) hin_b5_83_9 (g := (mkF m 83 #[.val (.ref a1), .val (.int p2), .val (.int p3), .val (.long q4), .second, .val (.ref ro), .val (.int (-7 : Int32)), .val (.int (6 : Int32)), .val (.ref b5)] [(.long q4), (.int (7 : Int32)), (.ref b5)])) rfl rfl (hb hby d4_83)
  have V_b5_83_9 : Arv Z h10 b5 k5 .long (8 : Int32) [(.long x0), (.long x1), (.long x2), (.long x3), (.long x4), (.long x5), (.long (p3.toInt64)), (.long q4)] (.long (0 : Int64)) := Arv.set Ar_b5_83_9 q_b5_83_9 S_b5_83_9 N_b5_83_9 H_b5_83_9 G_b5_83_9 rfl W10 7 rfl (Nat.le_of_ble_eq_true rfl)
  have K10 : Keep h0 h10 [rr] := K8.wr W10 (Or.inr sz_b5)
  have N10 := Fr.snoc X10 N8 g_b5
  obtain ⟨cl_ro_96_11, Ar_ro_96_11, -, S_ro_96_11, N_ro_96_11, -, -⟩ := id ((((V_ro.ext E5).keep K6 (ninS (Nat.ne_of_lt (Nat.lt_of_lt_of_le V_ro.lt (Nat.le_of_eq g5.symm))) nin0)).other W8 (Nat.ne_of_lt (Nat.lt_of_lt_of_le V_ro.lt (Nat.le_of_eq g5.symm)))).other W10 (Nat.ne_of_lt (Nat.lt_of_lt_of_le V_ro.lt (Nat.le_of_eq g5.symm))))
  obtain ⟨T12, h12, L12, X12, e12, N12, K12, V12, st12⟩ := cpA X10 hx hZ hown (hw _ (List.mem_of_getElem? (i := 31) rfl)) (hw _ (List.mem_of_getElem? (i := 34) rfl)) (hw _ (List.mem_of_getElem? (i := 32) rfl)) (hw _ (List.mem_of_getElem? (i := 33) rfl)) e10 ((((V_ro.ext E5).keep K6 (ninS (Nat.ne_of_lt (Nat.lt_of_lt_of_le V_ro.lt (Nat.le_of_eq g5.symm))) nin0)).other W8 (Nat.ne_of_lt (Nat.lt_of_lt_of_le V_ro.lt (Nat.le_of_eq g5.symm)))).other W10 (Nat.ne_of_lt (Nat.lt_of_lt_of_le V_ro.lt (Nat.le_of_eq g5.symm)))) V_b5_83_9 (us := []) (Or.inl ⟨rfl, rfl⟩) (by decide) (by decide) (by decide) (by decide) (by decide) rfl (Nat.le_of_ble_eq_true rfl) N10 g_b5 (g := (mkF m 100 #[.val (.ref a1), .val (.int p2), .val (.int p3), .val (.long q4), .second, .val (.ref ro), .val (.int (-7 : Int32)), .val (.int (6 : Int32)), .val (.ref b5)] [(.int (0 : Int32)), (.int (8 : Int32)), (.ref b5), (.int (6 : Int32)), (.ref ro)])) rfl (by rw [hml]; rfl) rfl (hb hby d4_100) (by decide) (W := 0) (by show 2 * 0 + _ ≤ _; exact Nat.le_of_eq rfl) (by decide)
  have VV12 : Arv Z h12 b5 k5 .long (8 : Int32) [(.long x0), (.long x1), (.long x2), (.long x3), (.long x4), (.long x5), (.long (p3.toInt64)), (.long q4)] (.long (0 : Int64)) := V12
  have KK12 : Keep h0 h12 [rr] := K10.trans K12 (allS (Or.inr sz_b5) all0)
  obtain ⟨T13, X13, e13, st13⟩ := getF X12 hx hZ hown (host := "") (Or.inl (hw _ (List.mem_of_getElem? (i := 11) rfl))) Via.refl e12 (((((F_rows.ext E5).keep K6 (ninS (Nat.ne_of_lt (Nat.lt_of_lt_of_le F_rows.lt (Nat.le_of_eq g5.symm))) nin0)).other W8 (Or.inl (Nat.ne_of_lt (Nat.lt_of_lt_of_le F_rows.lt (Nat.le_of_eq g5.symm))))).other W10 (Or.inl (Nat.ne_of_lt (Nat.lt_of_lt_of_le F_rows.lt (Nat.le_of_eq g5.symm))))).keep K12 (ninS (Nat.ne_of_lt (Nat.lt_of_lt_of_le F_rows.lt (Nat.le_of_eq g5.symm))) nin0)) (g := (mkF m 104 #[.val (.ref a1), .val (.int p2), .val (.int p3), .val (.long q4), .second, .val (.ref ro), .val (.int (-7 : Int32)), .val (.int (6 : Int32)), .val (.ref b5)] [(.ref a1)])) rfl rfl (hb hby d4_104)
  obtain ⟨cl_rr_110_14, Ar_rr_110_14, q_rr_110_14, S_rr_110_14, N_rr_110_14, H_rr_110_14, G_rr_110_14⟩ := id (((((V_rr.ext E5).keep K6 (ninS (Nat.ne_of_lt (Nat.lt_of_lt_of_le V_rr.lt (Nat.le_of_eq g5.symm))) nin0)).other W8 (Nat.ne_of_lt (Nat.lt_of_lt_of_le V_rr.lt (Nat.le_of_eq g5.symm)))).other W10 (Nat.ne_of_lt (Nat.lt_of_lt_of_le V_rr.lt (Nat.le_of_eq g5.symm)))).keep K12 (ninS (Nat.ne_of_lt (Nat.lt_of_lt_of_le V_rr.lt (Nat.le_of_eq g5.symm))) nin0))
  have hin_rr_110_14 : ¬ (p2 < 0 ∨ cl_rr_110_14.slots.size ≤ (p2 : Int32).toNatClampNeg) := by rcases hri with rfl | rfl <;> exact inb_of S_rr_110_14 ⟨by decide, by decide⟩
  obtain ⟨T15, h15, X15, e15, W15, st15⟩ := stR X13 hx hZ e13 Ar_rr_110_14 (j := p2) hin_rr_110_14 rfl (Sto.ofVA Ar_rr_110_14 q_rr_110_14 hO (Ins.self ((((B5.keep K6).wr W8).wr W10).keep K12))) (g := (mkF m 110 #[.val (.ref a1), .val (.int p2), .val (.int p3), .val (.long q4), .second, .val (.ref ro), .val (.int (-7 : Int32)), .val (.int (6 : Int32)), .val (.ref b5)] [(.ref b5), (.int p2), (.ref rr)])) rfl rfl (hb hby d4_110)
  have V_rr_110_14 : Arv Z h15 rr kr (.array .long) (2 : Int32) (own_pair p2 (.ref b5) (.ref sg)) .null := by
    rcases hri with rfl | rfl
    · exact Arv.set Ar_rr_110_14 q_rr_110_14 S_rr_110_14 N_rr_110_14 H_rr_110_14 G_rr_110_14 rfl W15 0 rfl (Nat.le_of_ble_eq_true rfl)
    · exact Arv.set Ar_rr_110_14 q_rr_110_14 S_rr_110_14 N_rr_110_14 H_rr_110_14 G_rr_110_14 rfl W15 1 rfl (Nat.le_of_ble_eq_true rfl)
  have K15 : Keep h0 h15 [rr] := KK12.wr W15 (Or.inl (List.mem_of_getElem? (i := 0) rfl))
  have N15 := Fr.snoc X15 N12 g_rr
  obtain ⟨fs, hr, hrun, hended, hW, hsame⟩ := X15.leave (v := none) (fun _ => rfl)
  refine ⟨_, _, pre0 _ ?_, hrun, hended, _, _, rfl, ?_, ⟨_, rfl⟩, hW, hsame.mono (by decide) (by decide)⟩
  · show Steps p.tables e below (s₁.setTop (mkF m 0 #[.val (.ref a1), .val (.int p2), .val (.int p3), .val (.long q4), .second, .unset, .unset, .unset, .unset] [])) _
    refine XS.aloadN X0.here hx rfl (hb hby d4_0) rfl rfl ?_
    show Steps p.tables e below (s₁.setTop (mkF m 1 #[.val (.ref a1), .val (.int p2), .val (.int p3), .val (.long q4), .second, .unset, .unset, .unset, .unset] [(.ref a1)])) _
    refine st1 _ ?_
    refine XS.iloadN X1.here hx rfl (hb hby d4_4) rfl ?_
    refine X1.aaload hx (j := p2) (v := (.ref ro)) (by rw [e1]; exact Ar_rr_5_2.1) (State.isArrayOf_alike hZ.alike Ar_rr_5_2.2.1) rfl Ar_rr_5_2.2.2 hin_rr_5_2 (by rcases hri with rfl | rfl <;> exact H_rr_5_2.at hin_rr_5_2 rfl) (g := (mkF m 5 #[.val (.ref a1), .val (.int p2), .val (.int p3), .val (.long q4), .second, .unset, .unset, .unset, .unset] [(.int p2), (.ref rr)])) rfl rfl (hb hby d4_5) _ ?_
    refine XS.astore X1.here hx rfl (hb hby d4_6) rfl rfl (l' := #[.val (.ref a1), .val (.int p2), .val (.int p3), .val (.long q4), .second, .val (.ref ro), .unset, .unset, .unset]) rfl ?_
    refine XS.aload X1.here hx rfl (hb hby d4_8) rfl rfl ?_
    refine XS.iloadN X1.here hx rfl (hb hby d4_10) rfl ?_
    show Steps p.tables e below (T1.setTop (mkF m 11 #[.val (.ref a1), .val (.int p2), .val (.int p3), .val (.long q4), .second, .val (.ref ro), .unset, .unset, .unset] [(.int p3), (.ref ro)])) _
    refine st3 _ ?_
    refine XS.istore X3.here hx rfl (hb hby d4_14) rfl (l' := #[.val (.ref a1), .val (.int p2), .val (.int p3), .val (.long q4), .second, .val (.ref ro), .val (.int (-7 : Int32)), .unset, .unset]) rfl ?_
    refine XS.iload X3.here hx rfl (hb hby d4_16) rfl ?_
    refine XS.ifYes X3.here hx rfl (pc0 := 18) (pc' := 42) rfl (hb hby d4_18) rfl ((if0 _ _).trans (tlt (by decide : (-7 : Int32) < (0 : Int32))).1) (by decide) (by decide) ?_
    refine XS.iload X3.here hx rfl (hb hby d4_42) rfl ?_
    refine XS.ineg X3.here hx rfl (hb hby d4_44) rfl ?_
    refine XS.iconst X3.here hx rfl (hb hby d4_45) ?_
    refine XS.isub X3.here hx rfl (hb hby d4_46) rfl ?_
    refine XS.istore X3.here hx rfl (hb hby d4_47) rfl (l' := #[.val (.ref a1), .val (.int p2), .val (.int p3), .val (.long q4), .second, .val (.ref ro), .val (.int (-7 : Int32)), .val (.int (6 : Int32)), .unset]) rfl ?_
    refine XS.aload X3.here hx rfl (hb hby d4_49) rfl rfl ?_
    refine X3.arraylength hx (by rw [e3]; exact Ar_ro_51_4.1) (State.isArrayOf_alike hZ.alike Ar_ro_51_4.2.1) (g := (mkF m 51 #[.val (.ref a1), .val (.int p2), .val (.int p3), .val (.long q4), .second, .val (.ref ro), .val (.int (-7 : Int32)), .val (.int (6 : Int32)), .unset] [(.ref ro)])) rfl rfl (hb hby d4_51) _ ?_
    rw [len_of S_ro_51_4 N_ro_51_4]
    refine XS.iconst X3.here hx rfl (hb hby d4_52) ?_
    refine XS.iadd X3.here hx rfl (hb hby d4_53) rfl ?_
    show Steps p.tables e below (T3.setTop (mkF m 54 #[.val (.ref a1), .val (.int p2), .val (.int p3), .val (.long q4), .second, .val (.ref ro), .val (.int (-7 : Int32)), .val (.int (6 : Int32)), .unset] [(.int (8 : Int32))])) _
    refine st5 _ ?_
    refine XS.astore X5.here hx rfl (hb hby d4_56) rfl rfl (l' := #[.val (.ref a1), .val (.int p2), .val (.int p3), .val (.long q4), .second, .val (.ref ro), .val (.int (-7 : Int32)), .val (.int (6 : Int32)), .val (.ref b5)]) rfl ?_
    refine XS.aload X5.here hx rfl (hb hby d4_58) rfl rfl ?_
    refine XS.iconst X5.here hx rfl (hb hby d4_60) ?_
    refine XS.aload X5.here hx rfl (hb hby d4_61) rfl rfl ?_
    refine XS.iconst X5.here hx rfl (hb hby d4_63) ?_
    refine XS.iload X5.here hx rfl (hb hby d4_64) rfl ?_
    show Steps p.tables e below (T5.setTop (mkF m 66 #[.val (.ref a1), .val (.int p2), .val (.int p3), .val (.long q4), .second, .val (.ref ro), .val (.int (-7 : Int32)), .val (.int (6 : Int32)), .val (.ref b5)] [(.int (6 : Int32)), (.int (0 : Int32)), (.ref b5), (.int (0 : Int32)), (.ref ro)])) _
    refine st6 _ ?_
    refine XS.aload X6.here hx rfl (hb hby d4_69) rfl rfl ?_
    refine XS.iload X6.here hx rfl (hb hby d4_71) rfl ?_
    refine XS.iloadN X6.here hx rfl (hb hby d4_73) rfl ?_
    refine XS.i2l X6.here hx rfl (hb hby d4_74) rfl ?_
    show Steps p.tables e below (T6.setTop (mkF m 75 #[.val (.ref a1), .val (.int p2), .val (.int p3), .val (.long q4), .second, .val (.ref ro), .val (.int (-7 : Int32)), .val (.int (6 : Int32)), .val (.ref b5)] [(.long (p3.toInt64)), (.int (6 : Int32)), (.ref b5)])) _
    refine st8 _ ?_
    refine XS.aload X8.here hx rfl (hb hby d4_76) rfl rfl ?_
    refine XS.iload X8.here hx rfl (hb hby d4_78) rfl ?_
    refine XS.iconst X8.here hx rfl (hb hby d4_80) ?_
    refine XS.iadd X8.here hx rfl (hb hby d4_81) rfl ?_
    refine XS.lloadN X8.here hx rfl (hb hby d4_82) rfl ?_
    show Steps p.tables e below (T8.setTop (mkF m 83 #[.val (.ref a1), .val (.int p2), .val (.int p3), .val (.long q4), .second, .val (.ref ro), .val (.int (-7 : Int32)), .val (.int (6 : Int32)), .val (.ref b5)] [(.long q4), (.int (7 : Int32)), (.ref b5)])) _
    refine st10 _ ?_
    refine XS.aload X10.here hx rfl (hb hby d4_84) rfl rfl ?_
    refine XS.iload X10.here hx rfl (hb hby d4_86) rfl ?_
    refine XS.aload X10.here hx rfl (hb hby d4_88) rfl rfl ?_
    refine XS.iload X10.here hx rfl (hb hby d4_90) rfl ?_
    refine XS.iconst X10.here hx rfl (hb hby d4_92) ?_
    refine XS.iadd X10.here hx rfl (hb hby d4_93) rfl ?_
    refine XS.aload X10.here hx rfl (hb hby d4_94) rfl rfl ?_
    show Steps p.tables e below (T10.setTop (mkF m 96 #[.val (.ref a1), .val (.int p2), .val (.int p3), .val (.long q4), .second, .val (.ref ro), .val (.int (-7 : Int32)), .val (.int (6 : Int32)), .val (.ref b5)] [(.ref ro), (.int (8 : Int32)), (.ref b5), (.int (6 : Int32)), (.ref ro)])) _
    refine X10.arraylength hx (by rw [e10]; exact Ar_ro_96_11.1) (State.isArrayOf_alike hZ.alike Ar_ro_96_11.2.1) (g := (mkF m 96 #[.val (.ref a1), .val (.int p2), .val (.int p3), .val (.long q4), .second, .val (.ref ro), .val (.int (-7 : Int32)), .val (.int (6 : Int32)), .val (.ref b5)] [(.ref ro), (.int (8 : Int32)), (.ref b5), (.int (6 : Int32)), (.ref ro)])) rfl rfl (hb hby d4_96) _ ?_
    rw [len_of S_ro_96_11 N_ro_96_11]
    refine XS.iload X10.here hx rfl (hb hby d4_97) rfl ?_
    refine XS.isub X10.here hx rfl (hb hby d4_99) rfl ?_
    show Steps p.tables e below (T10.setTop (mkF m 100 #[.val (.ref a1), .val (.int p2), .val (.int p3), .val (.long q4), .second, .val (.ref ro), .val (.int (-7 : Int32)), .val (.int (6 : Int32)), .val (.ref b5)] [(.int (0 : Int32)), (.int (8 : Int32)), (.ref b5), (.int (6 : Int32)), (.ref ro)])) _
    refine st12 _ ?_
    refine XS.aloadN X12.here hx rfl (hb hby d4_103) rfl rfl ?_
    show Steps p.tables e below (T12.setTop (mkF m 104 #[.val (.ref a1), .val (.int p2), .val (.int p3), .val (.long q4), .second, .val (.ref ro), .val (.int (-7 : Int32)), .val (.int (6 : Int32)), .val (.ref b5)] [(.ref a1)])) _
    refine st13 _ ?_
    refine XS.iloadN X13.here hx rfl (hb hby d4_107) rfl ?_
    refine XS.aload X13.here hx rfl (hb hby d4_108) rfl rfl ?_
    show Steps p.tables e below (T13.setTop (mkF m 110 #[.val (.ref a1), .val (.int p2), .val (.int p3), .val (.long q4), .second, .val (.ref ro), .val (.int (-7 : Int32)), .val (.int (6 : Int32)), .val (.ref b5)] [(.ref b5), (.int p2), (.ref rr)])) _
    refine st15 _ ?_
    show Steps p.tables e below (T15.setTop (mkF m 111 #[.val (.ref a1), .val (.int p2), .val (.int p3), .val (.long q4), .second, .val (.ref ro), .val (.int (-7 : Int32)), .val (.int (6 : Int32)), .val (.ref b5)] [])) _
    exact X15.returnOut hx Bd.returns (hb hby d4_111) hr
  · show Q_add_6a Z a1 p2 p3 q4 rr kr ro sg ka x0 x1 x2 x3 x4 x5 h0 n0 _ T15.heap _
    rw [e15]
    exact ⟨b5, k5, rfl, N15, K15, sz_b5, V_rr_110_14, ((((((E_rr.ext E5).keep K6).wr W8).wr W10).keep K12).wr W15), (VV12.other W15 (Ne.symm (Nat.ne_of_lt (Nat.lt_of_lt_of_le E_rr.lt (Nat.le_of_eq g5.symm))))), (((((B5.keep K6).wr W8).wr W10).keep K12).wr W15)⟩
theorem ef_add_6d (m : MethodId) (a1 : Addr) (p2 : Int32) (p3 : Int32) (q4 : Int64) : entryFrame m #[(.ref a1), (.int p2), (.int p3), (.long q4)] 9 = (mkF m 0 #[.val (.ref a1), .val (.int p2), .val (.int p3), .val (.long q4), .second, .unset, .unset, .unset, .unset] []) := by first | (simp [entryFrame, mkF, argsToLocals, Value.category]; done) | rfl
def Q_add_6d (Z : State) (a1 : Addr) (p2 : Int32) (p3 : Int32) (q4 : Int64) (rr : Addr) (kr : ClassId) (ro : Addr) (sg : Addr) (ka : ClassId) (x0 : Int64) (x1 : Int64) (x2 : Int64) (x3 : Int64) (x4 : Int64) (x5 : Int64) (h0 : Heap) (n0 : Nat) (v : Option Value) (h : Heap) (L : List Loc) : Prop := ∃ (b5 : Addr) (k5 : ClassId), v = none ∧ Fr n0 L ∧ Keep h0 h [rr] ∧ h0.size ≤ b5 ∧ Arv Z h rr kr (.array .long) (2 : Int32) (own_pair p2 (.ref b5) (.ref sg)) .null ∧ Exa Z h rr "[[J" ∧ Arv Z h b5 k5 .long (8 : Int32) [(.long (p3.toInt64)), (.long q4), (.long x0), (.long x1), (.long x2), (.long x3), (.long x4), (.long x5)] (.long (0 : Int64)) ∧ Exa Z h b5 "[J"
set_option maxRecDepth 65536 in
set_option maxHeartbeats 40000000 in
theorem rm_add_6d (l : Launch) (Z : State) (a0 : Array Value) (hw : ∀ d ∈ tables_1, d.before a0 Z = true) (ws : List Jvm.Cond) (a1 : Addr) (p2 : Int32) (p3 : Int32) (q4 : Int64) (rr : Addr) (kr : ClassId) (ro : Addr) (sg : Addr) (ka : ClassId) (x0 : Int64) (x1 : Int64) (x2 : Int64) (x3 : Int64) (x4 : Int64) (x5 : Int64) (h0 : Heap) (n0 : Nat) (Z0 : n0 ≤ h0.size) (F_rows : Fld Z h0 a1 "com/example/chartlight/chartlight/label/WeightRows" "_rows" "[[J" (.ref rr)) (V_rr : Arv Z h0 rr kr (.array .long) (2 : Int32) (own_pair p2 (.ref ro) (.ref sg)) .null) (E_rr : Exa Z h0 rr "[[J") (V_ro : Arv Z h0 ro ka .long (6 : Int32) [(.long x0), (.long x1), (.long x2), (.long x3), (.long x4), (.long x5)] (.long (0 : Int64))) (g_rr : n0 ≤ rr) (hri : p2 = (0 : Int32) ∨ p2 = (1 : Int32)) (hO : OvrA Z kr .long "[J") (hne_r : ro ≠ rr) (hl0 : ¬ ((lcmpW x0 (p3.toInt64)) < (0 : Int32))) (hn0 : ¬ ((lcmpW x0 (p3.toInt64)) = (0 : Int32))) :
    MetFree l (⟨"com/example/chartlight/chartlight/label/WeightRows", "add", "(IIJ)V"⟩ : MethodName) (head1 (Jvm.Cond.code (⟨"com/example/chartlight/chartlight/label/WeightRows", "add", "(IIJ)V"⟩ : MethodName) prog_58_method_7_code 9 none :: ws) ({ frames := 1, cells := 1, slots := 8, locals := 18 } : Room)) (fun a U => a = #[(.ref a1), (.int p2), (.int p3), (.long q4)] ∧ Z.Warmed39 U.vm ∧ U.heap = h0) (fun _ _ _ _ _ => True) (fun _ U o U' => ∃ v L, o = .returned v ∧ Q_add_6d Z a1 p2 p3 q4 rr kr ro sg ka x0 x1 x2 x3 x4 x5 h0 n0 v U'.heap L ∧ FrameEnd U o U' L ({ frames := 1, cells := 1, slots := 8, locals := 18 } : Room).cells ({ frames := 1, cells := 1, slots := 8, locals := 18 } : Room).slots) := by
  refine MetFree.of_bodySF (plainFor_of_name pn0) hisR ?_
  intro p e s m args below meth c s₁ Bd hml0 hP hK
  obtain ⟨rfl, hZ, hh⟩ := hP
  have hx := Bd.exec
  have hby := Bd.bytes
  have hml : c.maxLocals = 9 := hml0
  have hown : s.vm.findClass "com/example/chartlight/chartlight/label/WeightRows" = some m.cls := findClass_of_methodNamed Bd.named
  have hnm := (name_of_methodNamed Bd.named Bd.method).1
  have X0 : Stand p l e ({ frames := 1, cells := 1, slots := 8, locals := 18 } : Room) s m #[(.ref a1), (.int p2), (.int p3), (.long q4)] below meth c s₁ [] 0 0 := Stand.of_body Bd
  have e0 : s₁.heap = h0 := by rw [← hh, Bd.state]; rfl
  have N0 := Fr.nil n0
  have pre0 : ∀ t, Steps p.tables e below (s₁.setTop (mkF m 0 #[.val (.ref a1), .val (.int p2), .val (.int p3), .val (.long q4), .second, .unset, .unset, .unset, .unset] [])) t → Steps p.tables e below (s₁.setTop (entryFrame m #[(.ref a1), (.int p2), (.int p3), (.long q4)] 9)) t := fun t k => castTop (ef_add_6d m a1 p2 p3 q4) k
  obtain ⟨T1, X1, e1, st1⟩ := getF X0 hx hZ hown (host := "") (Or.inl (hw _ (List.mem_of_getElem? (i := 11) rfl))) Via.refl e0 F_rows (g := (mkF m 1 #[.val (.ref a1), .val (.int p2), .val (.int p3), .val (.long q4), .second, .unset, .unset, .unset, .unset] [(.ref a1)])) rfl rfl (hb hby d4_1)
  obtain ⟨cl_rr_5_2, Ar_rr_5_2, q_rr_5_2, S_rr_5_2, N_rr_5_2, H_rr_5_2, G_rr_5_2⟩ := id V_rr
  have hin_rr_5_2 : ¬ (p2 < 0 ∨ cl_rr_5_2.slots.size ≤ (p2 : Int32).toNatClampNeg) := by rcases hri with rfl | rfl <;> exact inb_of S_rr_5_2 ⟨by decide, by decide⟩
  obtain ⟨_, _, ⟨T3, L3, k3, n3⟩, -, X3, ⟨Lc3, hQ3, l3, y3, z3⟩, st3⟩ := Jvm.LawKit.callS X1 hx (y := (⟨"com/example/chartlight/chartlight/label/WeightRows", "find", "([JI)I"⟩ : MethodName)) hown (mvT hZ (hw _ (List.mem_of_getElem? (i := 27) rfl))) (mvT hZ (hw _ (List.mem_of_getElem? (i := 28) rfl))) (mvT hZ (hw _ (List.mem_of_getElem? (i := 2) rfl))) (mvT hZ (hw _ (List.mem_of_getElem? (i := 29) rfl))) (by decide) (backOf (W := 0) (rm_fnd_6d l Z a0 hw [] ro p3 ka x0 x1 x2 x3 x4 x5 h0 n0 (Nat.le_trans Z0 (Keep.refl h0 [rr]).1) V_ro (hl0 : ¬ ((lcmpW x0 (p3.toInt64)) < (0 : Int32))) (hn0 : ¬ ((lcmpW x0 (p3.toInt64)) = (0 : Int32)))) hZ (hw _ (List.mem_of_getElem? (i := 29) rfl)) (hw _ (List.mem_of_getElem? (i := 2) rfl)) (by decide) (by decide)) (g := (mkF m 11 #[.val (.ref a1), .val (.int p2), .val (.int p3), .val (.long q4), .second, .val (.ref ro), .unset, .unset, .unset] [(.int p3), (.ref ro)])) rfl (by rw [hml]; rfl) (argsL := [(.ref ro), (.int p3)]) (rest := []) (lenOf pd0 rfl) rfl (by show 2 * 0 + _ ≤ _; exact Nat.le_of_eq rfl) (hb hby d4_11) (fun _ _ => ⟨rfl, e1, (by decide : 0 + 0 ≤ _), (by decide : 0 + 0 ≤ _)⟩)
  dsimp only [Pt.U, Pt.locs, Pt.cells, Pt.slots] at X3 l3 y3 z3 st3 hQ3
  subst l3 y3 z3
  obtain ⟨rfl, rfl, e3⟩ := hQ3
  have N3 := Fr.app N0 (Fr.nil n0)
  obtain ⟨cl_ro_51_4, Ar_ro_51_4, -, S_ro_51_4, N_ro_51_4, -, -⟩ := id V_ro
  obtain ⟨T5, h5, k5, X5, e5, E5, A5, B5, st5⟩ := newPE X3 hx hZ (hw _ (List.mem_of_getElem? (i := 30) rfl)) e3 (g := (mkF m 54 #[.val (.ref a1), .val (.int p2), .val (.int p3), .val (.long q4), .second, .val (.ref ro), .val (.int (-1 : Int32)), .val (.int (0 : Int32)), .unset] [(.int (8 : Int32))])) rfl (hb hby d4_54) rfl (by decide) (cap := 8) (by decide) (by decide) (by decide) (by decide) (ad := "[J") (by decide)
  obtain ⟨b5, g5⟩ : ∃ z, z = h0.size := ⟨_, rfl⟩
  rw [← g5] at A5 B5 st5
  have sz_b5 : h0.size ≤ b5 := Nat.le_trans (Keep.refl h0 [rr]).1 (Nat.le_of_eq g5.symm)
  have g_b5 : n0 ≤ b5 := Nat.le_trans Z0 sz_b5
  have K5 : Keep h0 h5 [rr] := (Keep.refl h0 [rr]).ext E5
  have V_b5 : Arv Z h5 b5 k5 .long (8 : Int32) [(.long (0 : Int64)), (.long (0 : Int64)), (.long (0 : Int64)), (.long (0 : Int64)), (.long (0 : Int64)), (.long (0 : Int64)), (.long (0 : Int64)), (.long (0 : Int64))] (.long (0 : Int64)) := (Arv.new A5 (by decide)).pad (pad_rep [] (.long (0 : Int64)) 8)
  obtain ⟨T6, h6, L6, X6, e6, N6, K6, V6, st6⟩ := cpA X5 hx hZ hown (hw _ (List.mem_of_getElem? (i := 31) rfl)) (hw _ (List.mem_of_getElem? (i := 34) rfl)) (hw _ (List.mem_of_getElem? (i := 32) rfl)) (hw _ (List.mem_of_getElem? (i := 33) rfl)) e5 (V_ro.ext E5) V_b5 (us := []) (Or.inl ⟨rfl, rfl⟩) (by decide) (by decide) (by decide) (by decide) (by decide) rfl (Nat.le_of_ble_eq_true rfl) N3 g_b5 (g := (mkF m 66 #[.val (.ref a1), .val (.int p2), .val (.int p3), .val (.long q4), .second, .val (.ref ro), .val (.int (-1 : Int32)), .val (.int (0 : Int32)), .val (.ref b5)] [(.int (0 : Int32)), (.int (0 : Int32)), (.ref b5), (.int (0 : Int32)), (.ref ro)])) rfl (by rw [hml]; rfl) rfl (hb hby d4_66) (by decide) (W := 0) (by show 2 * 0 + _ ≤ _; exact Nat.le_of_eq rfl) (by decide)
  have VV6 : Arv Z h6 b5 k5 .long (8 : Int32) [(.long (0 : Int64)), (.long (0 : Int64)), (.long (0 : Int64)), (.long (0 : Int64)), (.long (0 : Int64)), (.long (0 : Int64)), (.long (0 : Int64)), (.long (0 : Int64))] (.long (0 : Int64)) := V6
  have KK6 : Keep h0 h6 [rr] := K5.trans K6 (allS (Or.inr sz_b5) all0)
  obtain ⟨cl_b5_75_7, Ar_b5_75_7, q_b5_75_7, S_b5_75_7, N_b5_75_7, H_b5_75_7, G_b5_75_7⟩ := id VV6
  have hin_b5_75_7 : ¬ ((0 : Int32) < 0 ∨ cl_b5_75_7.slots.size ≤ ((0 : Int32) : Int32).toNatClampNeg) := inb_of S_b5_75_7 ⟨by decide, by decide⟩
  obtain ⟨T8, h8, X8, e8, W8, st8⟩ := stJ X6 hx hZ e6 Ar_b5_75_7 (j := (0 : Int32)) hin_b5_75_7 (g := (mkF m 75 #[.val (.ref a1), .val (.int p2), .val (.int p3), .val (.long q4), .second, .val (.ref ro), .val (.int (-1 : Int32)), .val (.int (0 : Int32)), .val (.ref b5)] [(.long (p3.toInt64)), (.int (0 : Int32)), (.ref b5)])) rfl rfl (hb hby d4_75)
  have V_b5_75_7 : Arv Z h8 b5 k5 .long (8 : Int32) [(.long (p3.toInt64)), (.long (0 : Int64)), (.long (0 : Int64)), (.long (0 : Int64)), (.long (0 : Int64)), (.long (0 : Int64)), (.long (0 : Int64)), (.long (0 : Int64))] (.long (0 : Int64)) := Arv.set Ar_b5_75_7 q_b5_75_7 S_b5_75_7 N_b5_75_7 H_b5_75_7 G_b5_75_7 rfl W8 0 rfl (Nat.le_of_ble_eq_true rfl)
  have K8 : Keep h0 h8 [rr] := KK6.wr W8 (Or.inr sz_b5)
  have N8 := Fr.snoc X8 N6 g_b5
  obtain ⟨cl_b5_83_9, Ar_b5_83_9, q_b5_83_9, S_b5_83_9, N_b5_83_9, H_b5_83_9, G_b5_83_9⟩ := id V_b5_75_7
  have hin_b5_83_9 : ¬ ((1 : Int32) < 0 ∨ cl_b5_83_9.slots.size ≤ ((1 : Int32) : Int32).toNatClampNeg) := inb_of S_b5_83_9 ⟨by decide, by decide⟩
  obtain ⟨T10, h10, X10, e10, W10, st10⟩ := stJ X8 hx hZ e8 Ar_b5_83_9 (j := (1 : Int32)) hin_b5_83_9 (g := (mkF m 83 #[.val (.ref a1), .val (.int p2), .val (.int p3), .val (.long q4), .second, .val (.ref ro), .val (.int (-1 : Int32)), .val (.int (0 : Int32)), .val (.ref b5)] [(.long q4), (.int (1 : Int32)), (.ref b5)])) rfl rfl (hb hby d4_83)
  have V_b5_83_9 : Arv Z h10 b5 k5 .long (8 : Int32) [(.long (p3.toInt64)), (.long q4), (.long (0 : Int64)), (.long (0 : Int64)), (.long (0 : Int64)), (.long (0 : Int64)), (.long (0 : Int64)), (.long (0 : Int64))] (.long (0 : Int64)) := Arv.set Ar_b5_83_9 q_b5_83_9 S_b5_83_9 N_b5_83_9 H_b5_83_9 G_b5_83_9 rfl W10 1 rfl (Nat.le_of_ble_eq_true rfl)
  have K10 : Keep h0 h10 [rr] := K8.wr W10 (Or.inr sz_b5)
  have N10 := Fr.snoc X10 N8 g_b5
  obtain ⟨cl_ro_96_11, Ar_ro_96_11, -, S_ro_96_11, N_ro_96_11, -, -⟩ := id ((((V_ro.ext E5).keep K6 (ninS (Nat.ne_of_lt (Nat.lt_of_lt_of_le V_ro.lt (Nat.le_of_eq g5.symm))) nin0)).other W8 (Nat.ne_of_lt (Nat.lt_of_lt_of_le V_ro.lt (Nat.le_of_eq g5.symm)))).other W10 (Nat.ne_of_lt (Nat.lt_of_lt_of_le V_ro.lt (Nat.le_of_eq g5.symm))))
  obtain ⟨T12, h12, L12, X12, e12, N12, K12, V12, st12⟩ := cpA X10 hx hZ hown (hw _ (List.mem_of_getElem? (i := 31) rfl)) (hw _ (List.mem_of_getElem? (i := 34) rfl)) (hw _ (List.mem_of_getElem? (i := 32) rfl)) (hw _ (List.mem_of_getElem? (i := 33) rfl)) e10 ((((V_ro.ext E5).keep K6 (ninS (Nat.ne_of_lt (Nat.lt_of_lt_of_le V_ro.lt (Nat.le_of_eq g5.symm))) nin0)).other W8 (Nat.ne_of_lt (Nat.lt_of_lt_of_le V_ro.lt (Nat.le_of_eq g5.symm)))).other W10 (Nat.ne_of_lt (Nat.lt_of_lt_of_le V_ro.lt (Nat.le_of_eq g5.symm)))) V_b5_83_9 (us := [(.long x0), (.long x1), (.long x2), (.long x3), (.long x4), (.long x5)]) (Or.inl ⟨rfl, rfl⟩) (by decide) (by decide) (by decide) (by decide) (by decide) rfl (Nat.le_of_ble_eq_true rfl) N10 g_b5 (g := (mkF m 100 #[.val (.ref a1), .val (.int p2), .val (.int p3), .val (.long q4), .second, .val (.ref ro), .val (.int (-1 : Int32)), .val (.int (0 : Int32)), .val (.ref b5)] [(.int (6 : Int32)), (.int (2 : Int32)), (.ref b5), (.int (0 : Int32)), (.ref ro)])) rfl (by rw [hml]; rfl) rfl (hb hby d4_100) (by decide) (W := 0) (by show 2 * 0 + _ ≤ _; exact Nat.le_of_eq rfl) (by decide)
  have VV12 : Arv Z h12 b5 k5 .long (8 : Int32) [(.long (p3.toInt64)), (.long q4), (.long x0), (.long x1), (.long x2), (.long x3), (.long x4), (.long x5)] (.long (0 : Int64)) := V12
  have KK12 : Keep h0 h12 [rr] := K10.trans K12 (allS (Or.inr sz_b5) all0)
  obtain ⟨T13, X13, e13, st13⟩ := getF X12 hx hZ hown (host := "") (Or.inl (hw _ (List.mem_of_getElem? (i := 11) rfl))) Via.refl e12 (((((F_rows.ext E5).keep K6 (ninS (Nat.ne_of_lt (Nat.lt_of_lt_of_le F_rows.lt (Nat.le_of_eq g5.symm))) nin0)).other W8 (Or.inl (Nat.ne_of_lt (Nat.lt_of_lt_of_le F_rows.lt (Nat.le_of_eq g5.symm))))).other W10 (Or.inl (Nat.ne_of_lt (Nat.lt_of_lt_of_le F_rows.lt (Nat.le_of_eq g5.symm))))).keep K12 (ninS (Nat.ne_of_lt (Nat.lt_of_lt_of_le F_rows.lt (Nat.le_of_eq g5.symm))) nin0)) (g := (mkF m 104 #[.val (.ref a1), .val (.int p2), .val (.int p3), .val (.long q4), .second, .val (.ref ro), .val (.int (-1 : Int32)), .val (.int (0 : Int32)), .val (.ref b5)] [(.ref a1)])) rfl rfl (hb hby d4_104)
  obtain ⟨cl_rr_110_14, Ar_rr_110_14, q_rr_110_14, S_rr_110_14, N_rr_110_14, H_rr_110_14, G_rr_110_14⟩ := id (((((V_rr.ext E5).keep K6 (ninS (Nat.ne_of_lt (Nat.lt_of_lt_of_le V_rr.lt (Nat.le_of_eq g5.symm))) nin0)).other W8 (Nat.ne_of_lt (Nat.lt_of_lt_of_le V_rr.lt (Nat.le_of_eq g5.symm)))).other W10 (Nat.ne_of_lt (Nat.lt_of_lt_of_le V_rr.lt (Nat.le_of_eq g5.symm)))).keep K12 (ninS (Nat.ne_of_lt (Nat.lt_of_lt_of_le V_rr.lt (Nat.le_of_eq g5.symm))) nin0))
  have hin_rr_110_14 : ¬ (p2 < 0 ∨ cl_rr_110_14.slots.size ≤ (p2 : Int32).toNatClampNeg) := by rcases hri with rfl | rfl <;> exact inb_of S_rr_110_14 ⟨by decide, by decide⟩
  obtain ⟨T15, h15, X15, e15, W15, st15⟩ := stR X13 hx hZ e13 Ar_rr_110_14 (j := p2) hin_rr_110_14 rfl (Sto.ofVA Ar_rr_110_14 q_rr_110_14 hO (Ins.self ((((B5.keep K6).wr W8).wr W10).keep K12))) (g := (mkF m 110 #[.val (.ref a1), .val (.int p2), .val (.int p3), .val (.long q4), .second, .val (.ref ro), .val (.int (-1 : Int32)), .val (.int (0 : Int32)), .val (.ref b5)] [(.ref b5), (.int p2), (.ref rr)])) rfl rfl (hb hby d4_110)
  have V_rr_110_14 : Arv Z h15 rr kr (.array .long) (2 : Int32) (own_pair p2 (.ref b5) (.ref sg)) .null := by
    rcases hri with rfl | rfl
    · exact Arv.set Ar_rr_110_14 q_rr_110_14 S_rr_110_14 N_rr_110_14 H_rr_110_14 G_rr_110_14 rfl W15 0 rfl (Nat.le_of_ble_eq_true rfl)
    · exact Arv.set Ar_rr_110_14 q_rr_110_14 S_rr_110_14 N_rr_110_14 H_rr_110_14 G_rr_110_14 rfl W15 1 rfl (Nat.le_of_ble_eq_true rfl)
  have K15 : Keep h0 h15 [rr] := KK12.wr W15 (Or.inl (List.mem_of_getElem? (i := 0) rfl))
  have N15 := Fr.snoc X15 N12 g_rr
  obtain ⟨fs, hr, hrun, hended, hW, hsame⟩ := X15.leave (v := none) (fun _ => rfl)
  refine ⟨_, _, pre0 _ ?_, hrun, hended, _, _, rfl, ?_, ⟨_, rfl⟩, hW, hsame.mono (by decide) (by decide)⟩
  · show Steps p.tables e below (s₁.setTop (mkF m 0 #[.val (.ref a1), .val (.int p2), .val (.int p3), .val (.long q4), .second, .unset, .unset, .unset, .unset] [])) _
    refine XS.aloadN X0.here hx rfl (hb hby d4_0) rfl rfl ?_
    show Steps p.tables e below (s₁.setTop (mkF m 1 #[.val (.ref a1), .val (.int p2), .val (.int p3), .val (.long q4), .second, .unset, .unset, .unset, .unset] [(.ref a1)])) _
    refine st1 _ ?_
    refine XS.iloadN X1.here hx rfl (hb hby d4_4) rfl ?_
    refine X1.aaload hx (j := p2) (v := (.ref ro)) (by rw [e1]; exact Ar_rr_5_2.1) (State.isArrayOf_alike hZ.alike Ar_rr_5_2.2.1) rfl Ar_rr_5_2.2.2 hin_rr_5_2 (by rcases hri with rfl | rfl <;> exact H_rr_5_2.at hin_rr_5_2 rfl) (g := (mkF m 5 #[.val (.ref a1), .val (.int p2), .val (.int p3), .val (.long q4), .second, .unset, .unset, .unset, .unset] [(.int p2), (.ref rr)])) rfl rfl (hb hby d4_5) _ ?_
    refine XS.astore X1.here hx rfl (hb hby d4_6) rfl rfl (l' := #[.val (.ref a1), .val (.int p2), .val (.int p3), .val (.long q4), .second, .val (.ref ro), .unset, .unset, .unset]) rfl ?_
    refine XS.aload X1.here hx rfl (hb hby d4_8) rfl rfl ?_
    refine XS.iloadN X1.here hx rfl (hb hby d4_10) rfl ?_
    show Steps p.tables e below (T1.setTop (mkF m 11 #[.val (.ref a1), .val (.int p2), .val (.int p3), .val (.long q4), .second, .val (.ref ro), .unset, .unset, .unset] [(.int p3), (.ref ro)])) _
    refine st3 _ ?_
    refine XS.istore X3.here hx rfl (hb hby d4_14) rfl (l' := #[.val (.ref a1), .val (.int p2), .val (.int p3), .val (.long q4), .second, .val (.ref ro), .val (.int (-1 : Int32)), .unset, .unset]) rfl ?_
    refine XS.iload X3.here hx rfl (hb hby d4_16) rfl ?_
    refine XS.ifYes X3.here hx rfl (pc0 := 18) (pc' := 42) rfl (hb hby d4_18) rfl ((if0 _ _).trans (tlt (by decide : (-1 : Int32) < (0 : Int32))).1) (by decide) (by decide) ?_
    refine XS.iload X3.here hx rfl (hb hby d4_42) rfl ?_
    refine XS.ineg X3.here hx rfl (hb hby d4_44) rfl ?_
    refine XS.iconst X3.here hx rfl (hb hby d4_45) ?_
    refine XS.isub X3.here hx rfl (hb hby d4_46) rfl ?_
    refine XS.istore X3.here hx rfl (hb hby d4_47) rfl (l' := #[.val (.ref a1), .val (.int p2), .val (.int p3), .val (.long q4), .second, .val (.ref ro), .val (.int (-1 : Int32)), .val (.int (0 : Int32)), .unset]) rfl ?_
    refine XS.aload X3.here hx rfl (hb hby d4_49) rfl rfl ?_
    refine X3.arraylength hx (by rw [e3]; exact Ar_ro_51_4.1) (State.isArrayOf_alike hZ.alike Ar_ro_51_4.2.1) (g := (mkF m 51 #[.val (.ref a1), .val (.int p2), .val (.int p3), .val (.long q4), .second, .val (.ref ro), .val (.int (-1 : Int32)), .val (.int (0 : Int32)), .unset] [(.ref ro)])) rfl rfl (hb hby d4_51) _ ?_
    rw [len_of S_ro_51_4 N_ro_51_4]
    refine XS.iconst X3.here hx rfl (hb hby d4_52) ?_
    refine XS.iadd X3.here hx rfl (hb hby d4_53) rfl ?_
    show Steps p.tables e below (T3.setTop (mkF m 54 #[.val (.ref a1), .val (.int p2), .val (.int p3), .val (.long q4), .second, .val (.ref ro), .val (.int (-1 : Int32)), .val (.int (0 : Int32)), .unset] [(.int (8 : Int32))])) _
    refine st5 _ ?_
    refine XS.astore X5.here hx rfl (hb hby d4_56) rfl rfl (l' := #[.val (.ref a1), .val (.int p2), .val (.int p3), .val (.long q4), .second, .val (.ref ro), .val (.int (-1 : Int32)), .val (.int (0 : Int32)), .val (.ref b5)]) rfl ?_
    refine XS.aload X5.here hx rfl (hb hby d4_58) rfl rfl ?_
    refine XS.iconst X5.here hx rfl (hb hby d4_60) ?_
    refine XS.aload X5.here hx rfl (hb hby d4_61) rfl rfl ?_
    refine XS.iconst X5.here hx rfl (hb hby d4_63) ?_
    refine XS.iload X5.here hx rfl (hb hby d4_64) rfl ?_
    show Steps p.tables e below (T5.setTop (mkF m 66 #[.val (.ref a1), .val (.int p2), .val (.int p3), .val (.long q4), .second, .val (.ref ro), .val (.int (-1 : Int32)), .val (.int (0 : Int32)), .val (.ref b5)] [(.int (0 : Int32)), (.int (0 : Int32)), (.ref b5), (.int (0 : Int32)), (.ref ro)])) _
    refine st6 _ ?_
    refine XS.aload X6.here hx rfl (hb hby d4_69) rfl rfl ?_
    refine XS.iload X6.here hx rfl (hb hby d4_71) rfl ?_
    refine XS.iloadN X6.here hx rfl (hb hby d4_73) rfl ?_
    refine XS.i2l X6.here hx rfl (hb hby d4_74) rfl ?_
    show Steps p.tables e below (T6.setTop (mkF m 75 #[.val (.ref a1), .val (.int p2), .val (.int p3), .val (.long q4), .second, .val (.ref ro), .val (.int (-1 : Int32)), .val (.int (0 : Int32)), .val (.ref b5)] [(.long (p3.toInt64)), (.int (0 : Int32)), (.ref b5)])) _
    refine st8 _ ?_
    refine XS.aload X8.here hx rfl (hb hby d4_76) rfl rfl ?_
    refine XS.iload X8.here hx rfl (hb hby d4_78) rfl ?_
    refine XS.iconst X8.here hx rfl (hb hby d4_80) ?_
    refine XS.iadd X8.here hx rfl (hb hby d4_81) rfl ?_
    refine XS.lloadN X8.here hx rfl (hb hby d4_82) rfl ?_
    show Steps p.tables e below (T8.setTop (mkF m 83 #[.val (.ref a1), .val (.int p2), .val (.int p3), .val (.long q4), .second, .val (.ref ro), .val (.int (-1 : Int32)), .val (.int (0 : Int32)), .val (.ref b5)] [(.long q4), (.int (1 : Int32)), (.ref b5)])) _
    refine st10 _ ?_
    refine XS.aload X10.here hx rfl (hb hby d4_84) rfl rfl ?_
    refine XS.iload X10.here hx rfl (hb hby d4_86) rfl ?_
    refine XS.aload X10.here hx rfl (hb hby d4_88) rfl rfl ?_
    refine XS.iload X10.here hx rfl (hb hby d4_90) rfl ?_
    refine XS.iconst X10.here hx rfl (hb hby d4_92) ?_
    refine XS.iadd X10.here hx rfl (hb hby d4_93) rfl ?_
    refine XS.aload X10.here hx rfl (hb hby d4_94) rfl rfl ?_
    show Steps p.tables e below (T10.setTop (mkF m 96 #[.val (.ref a1), .val (.int p2), .val (.int p3), .val (.long q4), .second, .val (.ref ro), .val (.int (-1 : Int32)), .val (.int (0 : Int32)), .val (.ref b5)] [(.ref ro), (.int (2 : Int32)), (.ref b5), (.int (0 : Int32)), (.ref ro)])) _
    refine X10.arraylength hx (by rw [e10]; exact Ar_ro_96_11.1) (State.isArrayOf_alike hZ.alike Ar_ro_96_11.2.1) (g := (mkF m 96 #[.val (.ref a1), .val (.int p2), .val (.int p3), .val (.long q4), .second, .val (.ref ro), .val (.int (-1 : Int32)), .val (.int (0 : Int32)), .val (.ref b5)] [(.ref ro), (.int (2 : Int32)), (.ref b5), (.int (0 : Int32)), (.ref ro)])) rfl rfl (hb hby d4_96) _ ?_
    rw [len_of S_ro_96_11 N_ro_96_11]
    refine XS.iload X10.here hx rfl (hb hby d4_97) rfl ?_
    refine XS.isub X10.here hx rfl (hb hby d4_99) rfl ?_
    show Steps p.tables e below (T10.setTop (mkF m 100 #[.val (.ref a1), .val (.int p2), .val (.int p3), .val (.long q4), .second, .val (.ref ro), .val (.int (-1 : Int32)), .val (.int (0 : Int32)), .val (.ref b5)] [(.int (6 : Int32)), (.int (2 : Int32)), (.ref b5), (.int (0 : Int32)), (.ref ro)])) _
    refine st12 _ ?_
    refine XS.aloadN X12.here hx rfl (hb hby d4_103) rfl rfl ?_
    show Steps p.tables e below (T12.setTop (mkF m 104 #[.val (.ref a1), .val (.int p2), .val (.int p3), .val (.long q4), .second, .val (.ref ro), .val (.int (-1 : Int32)), .val (.int (0 : Int32)), .val (.ref b5)] [(.ref a1)])) _
    refine st13 _ ?_
    refine XS.iloadN X13.here hx rfl (hb hby d4_107) rfl ?_
    refine XS.aload X13.here hx rfl (hb hby d4_108) rfl rfl ?_
    show Steps p.tables e below (T13.setTop (mkF m 110 #[.val (.ref a1), .val (.int p2), .val (.int p3), .val (.long q4), .second, .val (.ref ro), .val (.int (-1 : Int32)), .val (.int (0 : Int32)), .val (.ref b5)] [(.ref b5), (.int p2), (.ref rr)])) _
    refine st15 _ ?_
    show Steps p.tables e below (T15.setTop (mkF m 111 #[.val (.ref a1), .val (.int p2), .val (.int p3), .val (.long q4), .second, .val (.ref ro), .val (.int (-1 : Int32)), .val (.int (0 : Int32)), .val (.ref b5)] [])) _
    exact X15.returnOut hx Bd.returns (hb hby d4_111) hr
  · show Q_add_6d Z a1 p2 p3 q4 rr kr ro sg ka x0 x1 x2 x3 x4 x5 h0 n0 _ T15.heap _
    rw [e15]
    exact ⟨b5, k5, rfl, N15, K15, sz_b5, V_rr_110_14, ((((((E_rr.ext E5).keep K6).wr W8).wr W10).keep K12).wr W15), (VV12.other W15 (Ne.symm (Nat.ne_of_lt (Nat.lt_of_lt_of_le E_rr.lt (Nat.le_of_eq g5.symm))))), (((((B5.keep K6).wr W8).wr W10).keep K12).wr W15)⟩
theorem d7_0 : decode prog_58_method_8_code 0 = .ok (.aload_n 0, 1) := by decide +kernel
theorem d7_1 : decode prog_58_method_8_code 1 = .ok (.getfield 9, 3) := by decide +kernel
theorem d7_4 : decode prog_58_method_8_code 4 = .ok (.iload_n 1, 1) := by decide +kernel
theorem d7_5 : decode prog_58_method_8_code 5 = .ok (.aaload, 1) := by decide +kernel
theorem d7_6 : decode prog_58_method_8_code 6 = .ok (.astore_n 3, 1) := by decide +kernel
theorem d7_7 : decode prog_58_method_8_code 7 = .ok (.iconst 0, 1) := by decide +kernel
theorem d7_8 : decode prog_58_method_8_code 8 = .ok (.istore 4, 2) := by decide +kernel
theorem d7_10 : decode prog_58_method_8_code 10 = .ok (.iload 4, 2) := by decide +kernel
theorem d7_12 : decode prog_58_method_8_code 12 = .ok (.aload_n 3, 1) := by decide +kernel
theorem d7_13 : decode prog_58_method_8_code 13 = .ok (.arraylength, 1) := by decide +kernel
theorem d7_14 : decode prog_58_method_8_code 14 = .ok (.if_icmp .ge 26, 3) := by decide +kernel
theorem d7_40 : decode prog_58_method_8_code 40 = .ok (.return_, 1) := by decide +kernel
theorem ef_ato_0 (m : MethodId) (a1 : Addr) (p2 : Int32) (a3 : Addr) : entryFrame m #[(.ref a1), (.int p2), (.ref a3)] 5 = (mkF m 0 #[.val (.ref a1), .val (.int p2), .val (.ref a3), .unset, .unset] []) := by first | (simp [entryFrame, mkF, argsToLocals, Value.category]; done) | rfl
def Q_ato_0 (Z : State) (a1 : Addr) (p2 : Int32) (a3 : Addr) (rr : Addr) (kr : ClassId) (ro : Addr) (sg : Addr) (ka : ClassId) (qa : Int64) (qb : Int64) (qc : Int64) (qd : Int64) (kd : ClassId) (ed0 : UInt64) (ed1 : UInt64) (ed2 : UInt64) (ed3 : UInt64) (h0 : Heap) (n0 : Nat) (v : Option Value) (h : Heap) (L : List Loc) : Prop := v = none ∧ L = [] ∧ h = h0
set_option maxRecDepth 65536 in
set_option maxHeartbeats 40000000 in
theorem rm_ato_0 (l : Launch) (Z : State) (a0 : Array Value) (hw : ∀ d ∈ tables_1, d.before a0 Z = true) (ws : List Jvm.Cond) (a1 : Addr) (p2 : Int32) (a3 : Addr) (rr : Addr) (kr : ClassId) (ro : Addr) (sg : Addr) (ka : ClassId) (qa : Int64) (qb : Int64) (qc : Int64) (qd : Int64) (kd : ClassId) (ed0 : UInt64) (ed1 : UInt64) (ed2 : UInt64) (ed3 : UInt64) (h0 : Heap) (n0 : Nat) (Z0 : n0 ≤ h0.size) (F_rows : Fld Z h0 a1 "com/example/chartlight/chartlight/label/WeightRows" "_rows" "[[J" (.ref rr)) (V_rr : Arv Z h0 rr kr (.array .long) (2 : Int32) (own_pair p2 (.ref ro) (.ref sg)) .null) (V_ro : Arv Z h0 ro ka .long (0 : Int32) [] (.long (0 : Int64))) (V_a3 : Arv Z h0 a3 kd .double (4 : Int32) [(.double ed0), (.double ed1), (.double ed2), (.double ed3)] (.double (0 : UInt64))) (hri : p2 = (0 : Int32) ∨ p2 = (1 : Int32)) (hne_s : ro ≠ a3) :
    MetFree l (⟨"com/example/chartlight/chartlight/label/WeightRows", "addTo", "(I[D)V"⟩ : MethodName) (head1 (Jvm.Cond.code (⟨"com/example/chartlight/chartlight/label/WeightRows", "addTo", "(I[D)V"⟩ : MethodName) prog_58_method_8_code 5 none :: ws) ({ frames := 0, cells := 0, slots := 0, locals := 0 } : Room)) (fun a U => a = #[(.ref a1), (.int p2), (.ref a3)] ∧ Z.Warmed39 U.vm ∧ U.heap = h0) (fun _ _ _ _ _ => True) (fun _ U o U' => ∃ v L, o = .returned v ∧ Q_ato_0 Z a1 p2 a3 rr kr ro sg ka qa qb qc qd kd ed0 ed1 ed2 ed3 h0 n0 v U'.heap L ∧ FrameEnd U o U' L ({ frames := 0, cells := 0, slots := 0, locals := 0 } : Room).cells ({ frames := 0, cells := 0, slots := 0, locals := 0 } : Room).slots) := by
  refine MetFree.of_bodySF (plainFor_of_name pn0) hisR ?_
  intro p e s m args below meth c s₁ Bd hml0 hP hK
  obtain ⟨rfl, hZ, hh⟩ := hP
  have hx := Bd.exec
  have hby := Bd.bytes
  have hml : c.maxLocals = 5 := hml0
  have hown : s.vm.findClass "com/example/chartlight/chartlight/label/WeightRows" = some m.cls := findClass_of_methodNamed Bd.named
  have hnm := (name_of_methodNamed Bd.named Bd.method).1
  have X0 : Stand p l e ({ frames := 0, cells := 0, slots := 0, locals := 0 } : Room) s m #[(.ref a1), (.int p2), (.ref a3)] below meth c s₁ [] 0 0 := Stand.of_body Bd
  have e0 : s₁.heap = h0 := by rw [← hh, Bd.state]; rfl
  have N0 := Fr.nil n0
  have pre0 : ∀ t, Steps p.tables e below (s₁.setTop (mkF m 0 #[.val (.ref a1), .val (.int p2), .val (.ref a3), .unset, .unset] [])) t → Steps p.tables e below (s₁.setTop (entryFrame m #[(.ref a1), (.int p2), (.ref a3)] 5)) t := fun t k => castTop (ef_ato_0 m a1 p2 a3) k
  obtain ⟨T1, X1, e1, st1⟩ := getF X0 hx hZ hown (host := "") (Or.inl (hw _ (List.mem_of_getElem? (i := 11) rfl))) Via.refl e0 F_rows (g := (mkF m 1 #[.val (.ref a1), .val (.int p2), .val (.ref a3), .unset, .unset] [(.ref a1)])) rfl rfl (hb hby d7_1)
  obtain ⟨cl_rr_5_2, Ar_rr_5_2, q_rr_5_2, S_rr_5_2, N_rr_5_2, H_rr_5_2, G_rr_5_2⟩ := id V_rr
  have hin_rr_5_2 : ¬ (p2 < 0 ∨ cl_rr_5_2.slots.size ≤ (p2 : Int32).toNatClampNeg) := by rcases hri with rfl | rfl <;> exact inb_of S_rr_5_2 ⟨by decide, by decide⟩
  obtain ⟨cl_ro_13_3, Ar_ro_13_3, -, S_ro_13_3, N_ro_13_3, -, -⟩ := id V_ro
  obtain ⟨fs, hr, hrun, hended, hW, hsame⟩ := X1.leave (v := none) (fun _ => rfl)
  refine ⟨_, _, pre0 _ ?_, hrun, hended, _, _, rfl, ?_, ⟨_, rfl⟩, hW, hsame.mono (by decide) (by decide)⟩
  · show Steps p.tables e below (s₁.setTop (mkF m 0 #[.val (.ref a1), .val (.int p2), .val (.ref a3), .unset, .unset] [])) _
    refine XS.aloadN X0.here hx rfl (hb hby d7_0) rfl rfl ?_
    show Steps p.tables e below (s₁.setTop (mkF m 1 #[.val (.ref a1), .val (.int p2), .val (.ref a3), .unset, .unset] [(.ref a1)])) _
    refine st1 _ ?_
    refine XS.iloadN X1.here hx rfl (hb hby d7_4) rfl ?_
    refine X1.aaload hx (j := p2) (v := (.ref ro)) (by rw [e1]; exact Ar_rr_5_2.1) (State.isArrayOf_alike hZ.alike Ar_rr_5_2.2.1) rfl Ar_rr_5_2.2.2 hin_rr_5_2 (by rcases hri with rfl | rfl <;> exact H_rr_5_2.at hin_rr_5_2 rfl) (g := (mkF m 5 #[.val (.ref a1), .val (.int p2), .val (.ref a3), .unset, .unset] [(.int p2), (.ref rr)])) rfl rfl (hb hby d7_5) _ ?_
    refine XS.astoreN X1.here hx rfl (hb hby d7_6) rfl rfl (l' := #[.val (.ref a1), .val (.int p2), .val (.ref a3), .val (.ref ro), .unset]) rfl ?_
    refine XS.iconst X1.here hx rfl (hb hby d7_7) ?_
    refine XS.istore X1.here hx rfl (hb hby d7_8) rfl (l' := #[.val (.ref a1), .val (.int p2), .val (.ref a3), .val (.ref ro), .val (.int (0 : Int32))]) rfl ?_
    refine XS.iload X1.here hx rfl (hb hby d7_10) rfl ?_
    refine XS.aloadN X1.here hx rfl (hb hby d7_12) rfl rfl ?_
    refine X1.arraylength hx (by rw [e1]; exact Ar_ro_13_3.1) (State.isArrayOf_alike hZ.alike Ar_ro_13_3.2.1) (g := (mkF m 13 #[.val (.ref a1), .val (.int p2), .val (.ref a3), .val (.ref ro), .val (.int (0 : Int32))] [(.ref ro), (.int (0 : Int32))])) rfl rfl (hb hby d7_13) _ ?_
    rw [len_of S_ro_13_3 N_ro_13_3]
    refine XS.icmpYes X1.here hx rfl (pc0 := 14) (pc' := 40) rfl (hb hby d7_14) rfl (flt (by decide : ¬ ((0 : Int32) < (0 : Int32)))).2.1 (by decide) (by decide) ?_
    show Steps p.tables e below (T1.setTop (mkF m 40 #[.val (.ref a1), .val (.int p2), .val (.ref a3), .val (.ref ro), .val (.int (0 : Int32))] [])) _
    exact X1.returnOut hx Bd.returns (hb hby d7_40) hr
  · show Q_ato_0 Z a1 p2 a3 rr kr ro sg ka qa qb qc qd kd ed0 ed1 ed2 ed3 h0 n0 _ T1.heap _
    rw [e1]
    exact ⟨rfl, rfl, rfl⟩
theorem d7_17 : decode prog_58_method_8_code 17 = .ok (.aload_n 2, 1) := by decide +kernel
theorem d7_18 : decode prog_58_method_8_code 18 = .ok (.aload_n 3, 1) := by decide +kernel
theorem d7_19 : decode prog_58_method_8_code 19 = .ok (.iload 4, 2) := by decide +kernel
theorem d7_21 : decode prog_58_method_8_code 21 = .ok (.laload, 1) := by decide +kernel
theorem d7_22 : decode prog_58_method_8_code 22 = .ok (.l2i, 1) := by decide +kernel
theorem d7_23 : decode prog_58_method_8_code 23 = .ok (.dup2, 1) := by decide +kernel
theorem d7_24 : decode prog_58_method_8_code 24 = .ok (.daload, 1) := by decide +kernel
theorem d7_25 : decode prog_58_method_8_code 25 = .ok (.aload_n 3, 1) := by decide +kernel
theorem d7_26 : decode prog_58_method_8_code 26 = .ok (.iload 4, 2) := by decide +kernel
theorem d7_28 : decode prog_58_method_8_code 28 = .ok (.iconst 1, 1) := by decide +kernel
theorem d7_29 : decode prog_58_method_8_code 29 = .ok (.iadd, 1) := by decide +kernel
theorem d7_30 : decode prog_58_method_8_code 30 = .ok (.laload, 1) := by decide +kernel
theorem d7_31 : decode prog_58_method_8_code 31 = .ok (.l2d, 1) := by decide +kernel
theorem d7_32 : decode prog_58_method_8_code 32 = .ok (.dadd, 1) := by decide +kernel
theorem d7_33 : decode prog_58_method_8_code 33 = .ok (.dastore, 1) := by decide +kernel
theorem d7_34 : decode prog_58_method_8_code 34 = .ok (.iinc 4 2, 3) := by decide +kernel
theorem d7_37 : decode prog_58_method_8_code 37 = .ok (.goto (-27), 3) := by decide +kernel
theorem ef_ato_1 (m : MethodId) (a1 : Addr) (p2 : Int32) (a3 : Addr) : entryFrame m #[(.ref a1), (.int p2), (.ref a3)] 5 = (mkF m 0 #[.val (.ref a1), .val (.int p2), .val (.ref a3), .unset, .unset] []) := by first | (simp [entryFrame, mkF, argsToLocals, Value.category]; done) | rfl
def Q_ato_1 (Z : State) (a1 : Addr) (p2 : Int32) (a3 : Addr) (rr : Addr) (kr : ClassId) (ro : Addr) (sg : Addr) (ka : ClassId) (qa : Int64) (qb : Int64) (qc : Int64) (qd : Int64) (kd : ClassId) (ed0 : UInt64) (ed1 : UInt64) (ed2 : UInt64) (ed3 : UInt64) (h0 : Heap) (n0 : Nat) (v : Option Value) (h : Heap) (L : List Loc) : Prop := v = none ∧ Fr n0 L ∧ Keep h0 h [a3] ∧ Arv Z h a3 kd .double (4 : Int32) [(.double (FP.dadd ed0 (FP.l2d qa))), (.double ed1), (.double ed2), (.double ed3)] (.double (0 : UInt64))
set_option maxRecDepth 65536 in
set_option maxHeartbeats 40000000 in
theorem rm_ato_1 (l : Launch) (Z : State) (a0 : Array Value) (hw : ∀ d ∈ tables_1, d.before a0 Z = true) (ws : List Jvm.Cond) (a1 : Addr) (p2 : Int32) (a3 : Addr) (rr : Addr) (kr : ClassId) (ro : Addr) (sg : Addr) (ka : ClassId) (qa : Int64) (qb : Int64) (qc : Int64) (qd : Int64) (kd : ClassId) (ed0 : UInt64) (ed1 : UInt64) (ed2 : UInt64) (ed3 : UInt64) (h0 : Heap) (n0 : Nat) (Z0 : n0 ≤ h0.size) (F_rows : Fld Z h0 a1 "com/example/chartlight/chartlight/label/WeightRows" "_rows" "[[J" (.ref rr)) (V_rr : Arv Z h0 rr kr (.array .long) (2 : Int32) (own_pair p2 (.ref ro) (.ref sg)) .null) (V_ro : Arv Z h0 ro ka .long (2 : Int32) [(.long (0 : Int64)), (.long qa)] (.long (0 : Int64))) (V_a3 : Arv Z h0 a3 kd .double (4 : Int32) [(.double ed0), (.double ed1), (.double ed2), (.double ed3)] (.double (0 : UInt64))) (g_a3 : n0 ≤ a3) (hri : p2 = (0 : Int32) ∨ p2 = (1 : Int32)) (hne_s : ro ≠ a3) (hn0 : FP.dadd ed0 (FP.l2d qa) &&& 0x7fffffffffffffff ≤ 0x7ff0000000000000) :
    MetFree l (⟨"com/example/chartlight/chartlight/label/WeightRows", "addTo", "(I[D)V"⟩ : MethodName) (head1 (Jvm.Cond.code (⟨"com/example/chartlight/chartlight/label/WeightRows", "addTo", "(I[D)V"⟩ : MethodName) prog_58_method_8_code 5 none :: ws) ({ frames := 0, cells := 0, slots := 0, locals := 0 } : Room)) (fun a U => a = #[(.ref a1), (.int p2), (.ref a3)] ∧ Z.Warmed39 U.vm ∧ U.heap = h0) (fun _ _ _ _ _ => True) (fun _ U o U' => ∃ v L, o = .returned v ∧ Q_ato_1 Z a1 p2 a3 rr kr ro sg ka qa qb qc qd kd ed0 ed1 ed2 ed3 h0 n0 v U'.heap L ∧ FrameEnd U o U' L ({ frames := 0, cells := 0, slots := 0, locals := 0 } : Room).cells ({ frames := 0, cells := 0, slots := 0, locals := 0 } : Room).slots) := by
  refine MetFree.of_bodySF (plainFor_of_name pn0) hisR ?_
  intro p e s m args below meth c s₁ Bd hml0 hP hK
  obtain ⟨rfl, hZ, hh⟩ := hP
  have hx := Bd.exec
  have hby := Bd.bytes
  have hml : c.maxLocals = 5 := hml0
  have hown : s.vm.findClass "com/example/chartlight/chartlight/label/WeightRows" = some m.cls := findClass_of_methodNamed Bd.named
  have hnm := (name_of_methodNamed Bd.named Bd.method).1
  have X0 : Stand p l e ({ frames := 0, cells := 0, slots := 0, locals := 0 } : Room) s m #[(.ref a1), (.int p2), (.ref a3)] below meth c s₁ [] 0 0 := Stand.of_body Bd
  have e0 : s₁.heap = h0 := by rw [← hh, Bd.state]; rfl
  have N0 := Fr.nil n0
  have pre0 : ∀ t, Steps p.tables e below (s₁.setTop (mkF m 0 #[.val (.ref a1), .val (.int p2), .val (.ref a3), .unset, .unset] [])) t → Steps p.tables e below (s₁.setTop (entryFrame m #[(.ref a1), (.int p2), (.ref a3)] 5)) t := fun t k => castTop (ef_ato_1 m a1 p2 a3) k
  obtain ⟨T1, X1, e1, st1⟩ := getF X0 hx hZ hown (host := "") (Or.inl (hw _ (List.mem_of_getElem? (i := 11) rfl))) Via.refl e0 F_rows (g := (mkF m 1 #[.val (.ref a1), .val (.int p2), .val (.ref a3), .unset, .unset] [(.ref a1)])) rfl rfl (hb hby d7_1)
  obtain ⟨cl_rr_5_2, Ar_rr_5_2, q_rr_5_2, S_rr_5_2, N_rr_5_2, H_rr_5_2, G_rr_5_2⟩ := id V_rr
  have hin_rr_5_2 : ¬ (p2 < 0 ∨ cl_rr_5_2.slots.size ≤ (p2 : Int32).toNatClampNeg) := by rcases hri with rfl | rfl <;> exact inb_of S_rr_5_2 ⟨by decide, by decide⟩
  obtain ⟨cl_ro_13_3, Ar_ro_13_3, -, S_ro_13_3, N_ro_13_3, -, -⟩ := id V_ro
  obtain ⟨cl_ro_21_4, Ar_ro_21_4, q_ro_21_4, S_ro_21_4, N_ro_21_4, H_ro_21_4, G_ro_21_4⟩ := id V_ro
  have hin_ro_21_4 : ¬ ((0 : Int32) < 0 ∨ cl_ro_21_4.slots.size ≤ ((0 : Int32) : Int32).toNatClampNeg) := inb_of S_ro_21_4 ⟨by decide, by decide⟩
  obtain ⟨cl_a3_24_5, Ar_a3_24_5, q_a3_24_5, S_a3_24_5, N_a3_24_5, H_a3_24_5, G_a3_24_5⟩ := id V_a3
  have hin_a3_24_5 : ¬ ((0 : Int32) < 0 ∨ cl_a3_24_5.slots.size ≤ ((0 : Int32) : Int32).toNatClampNeg) := inb_of S_a3_24_5 ⟨by decide, by decide⟩
  obtain ⟨cl_ro_30_6, Ar_ro_30_6, q_ro_30_6, S_ro_30_6, N_ro_30_6, H_ro_30_6, G_ro_30_6⟩ := id V_ro
  have hin_ro_30_6 : ¬ ((1 : Int32) < 0 ∨ cl_ro_30_6.slots.size ≤ ((1 : Int32) : Int32).toNatClampNeg) := inb_of S_ro_30_6 ⟨by decide, by decide⟩
  obtain ⟨cl_a3_33_7, Ar_a3_33_7, q_a3_33_7, S_a3_33_7, N_a3_33_7, H_a3_33_7, G_a3_33_7⟩ := id V_a3
  have hin_a3_33_7 : ¬ ((0 : Int32) < 0 ∨ cl_a3_33_7.slots.size ≤ ((0 : Int32) : Int32).toNatClampNeg) := inb_of S_a3_33_7 ⟨by decide, by decide⟩
  obtain ⟨T8, h8, X8, e8, W8, st8⟩ := stD X1 hx hZ e1 Ar_a3_33_7 (j := (0 : Int32)) hin_a3_33_7 (g := (mkF m 33 #[.val (.ref a1), .val (.int p2), .val (.ref a3), .val (.ref ro), .val (.int (0 : Int32))] [(.double (FP.dadd ed0 (FP.l2d qa))), (.int (0 : Int32)), (.ref a3)])) rfl rfl (hb hby d7_33)
  have V_a3_33_7 : Arv Z h8 a3 kd .double (4 : Int32) [(.double (FP.dadd ed0 (FP.l2d qa))), (.double ed1), (.double ed2), (.double ed3)] (.double (0 : UInt64)) := Arv.set Ar_a3_33_7 q_a3_33_7 S_a3_33_7 N_a3_33_7 H_a3_33_7 G_a3_33_7 rfl W8 0 rfl (Nat.le_of_ble_eq_true rfl)
  have K8 : Keep h0 h8 [a3] := (Keep.refl h0 [a3]).wr W8 (Or.inl (List.mem_of_getElem? (i := 0) rfl))
  have N8 := Fr.snoc X8 N0 g_a3
  obtain ⟨cl_ro_13_9, Ar_ro_13_9, -, S_ro_13_9, N_ro_13_9, -, -⟩ := id (V_ro.other W8 hne_s)
  obtain ⟨fs, hr, hrun, hended, hW, hsame⟩ := X8.leave (v := none) (fun _ => rfl)
  refine ⟨_, _, pre0 _ ?_, hrun, hended, _, _, rfl, ?_, ⟨_, rfl⟩, hW, hsame.mono (by decide) (by decide)⟩
  · show Steps p.tables e below (s₁.setTop (mkF m 0 #[.val (.ref a1), .val (.int p2), .val (.ref a3), .unset, .unset] [])) _
    refine XS.aloadN X0.here hx rfl (hb hby d7_0) rfl rfl ?_
    show Steps p.tables e below (s₁.setTop (mkF m 1 #[.val (.ref a1), .val (.int p2), .val (.ref a3), .unset, .unset] [(.ref a1)])) _
    refine st1 _ ?_
    refine XS.iloadN X1.here hx rfl (hb hby d7_4) rfl ?_
    refine X1.aaload hx (j := p2) (v := (.ref ro)) (by rw [e1]; exact Ar_rr_5_2.1) (State.isArrayOf_alike hZ.alike Ar_rr_5_2.2.1) rfl Ar_rr_5_2.2.2 hin_rr_5_2 (by rcases hri with rfl | rfl <;> exact H_rr_5_2.at hin_rr_5_2 rfl) (g := (mkF m 5 #[.val (.ref a1), .val (.int p2), .val (.ref a3), .unset, .unset] [(.int p2), (.ref rr)])) rfl rfl (hb hby d7_5) _ ?_
    refine XS.astoreN X1.here hx rfl (hb hby d7_6) rfl rfl (l' := #[.val (.ref a1), .val (.int p2), .val (.ref a3), .val (.ref ro), .unset]) rfl ?_
    refine XS.iconst X1.here hx rfl (hb hby d7_7) ?_
    refine XS.istore X1.here hx rfl (hb hby d7_8) rfl (l' := #[.val (.ref a1), .val (.int p2), .val (.ref a3), .val (.ref ro), .val (.int (0 : Int32))]) rfl ?_
    refine XS.iload X1.here hx rfl (hb hby d7_10) rfl ?_
    refine XS.aloadN X1.here hx rfl (hb hby d7_12) rfl rfl ?_
    refine X1.arraylength hx (by rw [e1]; exact Ar_ro_13_3.1) (State.isArrayOf_alike hZ.alike Ar_ro_13_3.2.1) (g := (mkF m 13 #[.val (.ref a1), .val (.int p2), .val (.ref a3), .val (.ref ro), .val (.int (0 : Int32))] [(.ref ro), (.int (0 : Int32))])) rfl rfl (hb hby d7_13) _ ?_
    rw [len_of S_ro_13_3 N_ro_13_3]
    refine XS.icmpNo X1.here hx rfl (hb hby d7_14) rfl (tlt (by decide : (0 : Int32) < (2 : Int32))).2.1 ?_
    refine XS.aloadN X1.here hx rfl (hb hby d7_17) rfl rfl ?_
    refine XS.aloadN X1.here hx rfl (hb hby d7_18) rfl rfl ?_
    refine XS.iload X1.here hx rfl (hb hby d7_19) rfl ?_
    refine X1.laload hx (j := (0 : Int32)) (v := (.long (0 : Int64))) (by rw [e1]; exact Ar_ro_21_4.1) (State.isArrayOf_alike hZ.alike Ar_ro_21_4.2.1) Ar_ro_21_4.2.2 hin_ro_21_4 (H_ro_21_4.at hin_ro_21_4 rfl) (g := (mkF m 21 #[.val (.ref a1), .val (.int p2), .val (.ref a3), .val (.ref ro), .val (.int (0 : Int32))] [(.int (0 : Int32)), (.ref ro), (.ref a3)])) rfl rfl (hb hby d7_21) _ ?_
    refine XS.l2i X1.here hx rfl (hb hby d7_22) rfl ?_
    refine own_dup2 X1.here hx rfl (hb hby d7_23) rfl rfl rfl ?_
    refine X1.daload hx (j := (0 : Int32)) (v := (.double ed0)) (by rw [e1]; exact Ar_a3_24_5.1) (State.isArrayOf_alike hZ.alike Ar_a3_24_5.2.1) Ar_a3_24_5.2.2 hin_a3_24_5 (H_a3_24_5.at hin_a3_24_5 rfl) (g := (mkF m 24 #[.val (.ref a1), .val (.int p2), .val (.ref a3), .val (.ref ro), .val (.int (0 : Int32))] [(.int (0 : Int32)), (.ref a3), (.int (0 : Int32)), (.ref a3)])) rfl rfl (hb hby d7_24) _ ?_
    refine XS.aloadN X1.here hx rfl (hb hby d7_25) rfl rfl ?_
    refine XS.iload X1.here hx rfl (hb hby d7_26) rfl ?_
    refine XS.iconst X1.here hx rfl (hb hby d7_28) ?_
    refine XS.iadd X1.here hx rfl (hb hby d7_29) rfl ?_
    refine X1.laload hx (j := (1 : Int32)) (v := (.long qa)) (by rw [e1]; exact Ar_ro_30_6.1) (State.isArrayOf_alike hZ.alike Ar_ro_30_6.2.1) Ar_ro_30_6.2.2 hin_ro_30_6 (H_ro_30_6.at hin_ro_30_6 rfl) (g := (mkF m 30 #[.val (.ref a1), .val (.int p2), .val (.ref a3), .val (.ref ro), .val (.int (0 : Int32))] [(.int (1 : Int32)), (.ref ro), (.double ed0), (.int (0 : Int32)), (.ref a3)])) rfl rfl (hb hby d7_30) _ ?_
    refine own_l2d X1.here hx rfl (hb hby d7_31) rfl ?_
    refine own_dadd X1.here hx rfl (hb hby d7_32) rfl hn0 ?_
    show Steps p.tables e below (T1.setTop (mkF m 33 #[.val (.ref a1), .val (.int p2), .val (.ref a3), .val (.ref ro), .val (.int (0 : Int32))] [(.double (FP.dadd ed0 (FP.l2d qa))), (.int (0 : Int32)), (.ref a3)])) _
    refine st8 _ ?_
    refine XS.iinc X8.here hx rfl (hb hby d7_34) rfl (l' := #[.val (.ref a1), .val (.int p2), .val (.ref a3), .val (.ref ro), .val (.int (2 : Int32))]) rfl ?_
    refine XS.goto X8.here hx rfl (pc0 := 37) (pc' := 10) rfl (hb hby d7_37) (by decide) (by decide) ?_
    refine XS.iload X8.here hx rfl (hb hby d7_10) rfl ?_
    refine XS.aloadN X8.here hx rfl (hb hby d7_12) rfl rfl ?_
    refine X8.arraylength hx (by rw [e8]; exact Ar_ro_13_9.1) (State.isArrayOf_alike hZ.alike Ar_ro_13_9.2.1) (g := (mkF m 13 #[.val (.ref a1), .val (.int p2), .val (.ref a3), .val (.ref ro), .val (.int (2 : Int32))] [(.ref ro), (.int (2 : Int32))])) rfl rfl (hb hby d7_13) _ ?_
    rw [len_of S_ro_13_9 N_ro_13_9]
    refine XS.icmpYes X8.here hx rfl (pc0 := 14) (pc' := 40) rfl (hb hby d7_14) rfl (flt (by decide : ¬ ((2 : Int32) < (2 : Int32)))).2.1 (by decide) (by decide) ?_
    show Steps p.tables e below (T8.setTop (mkF m 40 #[.val (.ref a1), .val (.int p2), .val (.ref a3), .val (.ref ro), .val (.int (2 : Int32))] [])) _
    exact X8.returnOut hx Bd.returns (hb hby d7_40) hr
  · show Q_ato_1 Z a1 p2 a3 rr kr ro sg ka qa qb qc qd kd ed0 ed1 ed2 ed3 h0 n0 _ T8.heap _
    rw [e8]
    exact ⟨rfl, N8, K8, V_a3_33_7⟩
theorem ef_ato_2 (m : MethodId) (a1 : Addr) (p2 : Int32) (a3 : Addr) : entryFrame m #[(.ref a1), (.int p2), (.ref a3)] 5 = (mkF m 0 #[.val (.ref a1), .val (.int p2), .val (.ref a3), .unset, .unset] []) := by first | (simp [entryFrame, mkF, argsToLocals, Value.category]; done) | rfl
def Q_ato_2 (Z : State) (a1 : Addr) (p2 : Int32) (a3 : Addr) (rr : Addr) (kr : ClassId) (ro : Addr) (sg : Addr) (ka : ClassId) (qa : Int64) (qb : Int64) (qc : Int64) (qd : Int64) (kd : ClassId) (ed0 : UInt64) (ed1 : UInt64) (ed2 : UInt64) (ed3 : UInt64) (h0 : Heap) (n0 : Nat) (v : Option Value) (h : Heap) (L : List Loc) : Prop := v = none ∧ Fr n0 L ∧ Keep h0 h [a3] ∧ Arv Z h a3 kd .double (4 : Int32) [(.double ed0), (.double (FP.dadd ed1 (FP.l2d qb))), (.double ed2), (.double ed3)] (.double (0 : UInt64))
set_option maxRecDepth 65536 in
set_option maxHeartbeats 40000000 in
theorem rm_ato_2 (l : Launch) (Z : State) (a0 : Array Value) (hw : ∀ d ∈ tables_1, d.before a0 Z = true) (ws : List Jvm.Cond) (a1 : Addr) (p2 : Int32) (a3 : Addr) (rr : Addr) (kr : ClassId) (ro : Addr) (sg : Addr) (ka : ClassId) (qa : Int64) (qb : Int64) (qc : Int64) (qd : Int64) (kd : ClassId) (ed0 : UInt64) (ed1 : UInt64) (ed2 : UInt64) (ed3 : UInt64) (h0 : Heap) (n0 : Nat) (Z0 : n0 ≤ h0.size) (F_rows : Fld Z h0 a1 "com/example/chartlight/chartlight/label/WeightRows" "_rows" "[[J" (.ref rr)) (V_rr : Arv Z h0 rr kr (.array .long) (2 : Int32) (own_pair p2 (.ref ro) (.ref sg)) .null) (V_ro : Arv Z h0 ro ka .long (2 : Int32) [(.long (1 : Int64)), (.long qb)] (.long (0 : Int64))) (V_a3 : Arv Z h0 a3 kd .double (4 : Int32) [(.double ed0), (.double ed1), (.double ed2), (.double ed3)] (.double (0 : UInt64))) (g_a3 : n0 ≤ a3) (hri : p2 = (0 : Int32) ∨ p2 = (1 : Int32)) (hne_s : ro ≠ a3) (hn1 : FP.dadd ed1 (FP.l2d qb) &&& 0x7fffffffffffffff ≤ 0x7ff0000000000000) :
    MetFree l (⟨"com/example/chartlight/chartlight/label/WeightRows", "addTo", "(I[D)V"⟩ : MethodName) (head1 (Jvm.Cond.code (⟨"com/example/chartlight/chartlight/label/WeightRows", "addTo", "(I[D)V"⟩ : MethodName) prog_58_method_8_code 5 none :: ws) ({ frames := 0, cells := 0, slots := 0, locals := 0 } : Room)) (fun a U => a = #[(.ref a1), (.int p2), (.ref a3)] ∧ Z.Warmed39 U.vm ∧ U.heap = h0) (fun _ _ _ _ _ => True) (fun _ U o U' => ∃ v L, o = .returned v ∧ Q_ato_2 Z a1 p2 a3 rr kr ro sg ka qa qb qc qd kd ed0 ed1 ed2 ed3 h0 n0 v U'.heap L ∧ FrameEnd U o U' L ({ frames := 0, cells := 0, slots := 0, locals := 0 } : Room).cells ({ frames := 0, cells := 0, slots := 0, locals := 0 } : Room).slots) := by
  refine MetFree.of_bodySF (plainFor_of_name pn0) hisR ?_
  intro p e s m args below meth c s₁ Bd hml0 hP hK
  obtain ⟨rfl, hZ, hh⟩ := hP
  have hx := Bd.exec
  have hby := Bd.bytes
  have hml : c.maxLocals = 5 := hml0
  have hown : s.vm.findClass "com/example/chartlight/chartlight/label/WeightRows" = some m.cls := findClass_of_methodNamed Bd.named
  have hnm := (name_of_methodNamed Bd.named Bd.method).1
  have X0 : Stand p l e ({ frames := 0, cells := 0, slots := 0, locals := 0 } : Room) s m #[(.ref a1), (.int p2), (.ref a3)] below meth c s₁ [] 0 0 := Stand.of_body Bd
  have e0 : s₁.heap = h0 := by rw [← hh, Bd.state]; rfl
  have N0 := Fr.nil n0
  have pre0 : ∀ t, Steps p.tables e below (s₁.setTop (mkF m 0 #[.val (.ref a1), .val (.int p2), .val (.ref a3), .unset, .unset] [])) t → Steps p.tables e below (s₁.setTop (entryFrame m #[(.ref a1), (.int p2), (.ref a3)] 5)) t := fun t k => castTop (ef_ato_2 m a1 p2 a3) k
  obtain ⟨T1, X1, e1, st1⟩ := getF X0 hx hZ hown (host := "") (Or.inl (hw _ (List.mem_of_getElem? (i := 11) rfl))) Via.refl e0 F_rows (g := (mkF m 1 #[.val (.ref a1), .val (.int p2), .val (.ref a3), .unset, .unset] [(.ref a1)])) rfl rfl (hb hby d7_1)
  obtain ⟨cl_rr_5_2, Ar_rr_5_2, q_rr_5_2, S_rr_5_2, N_rr_5_2, H_rr_5_2, G_rr_5_2⟩ := id V_rr
  have hin_rr_5_2 : ¬ (p2 < 0 ∨ cl_rr_5_2.slots.size ≤ (p2 : Int32).toNatClampNeg) := by rcases hri with rfl | rfl <;> exact inb_of S_rr_5_2 ⟨by decide, by decide⟩
  obtain ⟨cl_ro_13_3, Ar_ro_13_3, -, S_ro_13_3, N_ro_13_3, -, -⟩ := id V_ro
  obtain ⟨cl_ro_21_4, Ar_ro_21_4, q_ro_21_4, S_ro_21_4, N_ro_21_4, H_ro_21_4, G_ro_21_4⟩ := id V_ro
  have hin_ro_21_4 : ¬ ((0 : Int32) < 0 ∨ cl_ro_21_4.slots.size ≤ ((0 : Int32) : Int32).toNatClampNeg) := inb_of S_ro_21_4 ⟨by decide, by decide⟩
  obtain ⟨cl_a3_24_5, Ar_a3_24_5, q_a3_24_5, S_a3_24_5, N_a3_24_5, H_a3_24_5, G_a3_24_5⟩ := id V_a3
  have hin_a3_24_5 : ¬ ((1 : Int32) < 0 ∨ cl_a3_24_5.slots.size ≤ ((1 : Int32) : Int32).toNatClampNeg) := inb_of S_a3_24_5 ⟨by decide, by decide⟩
  obtain ⟨cl_ro_30_6, Ar_ro_30_6, q_ro_30_6, S_ro_30_6, N_ro_30_6, H_ro_30_6, G_ro_30_6⟩ := id V_ro
  have hin_ro_30_6 : ¬ ((1 : Int32) < 0 ∨ cl_ro_30_6.slots.size ≤ ((1 : Int32) : Int32).toNatClampNeg) := inb_of S_ro_30_6 ⟨by decide, by decide⟩
  obtain ⟨cl_a3_33_7, Ar_a3_33_7, q_a3_33_7, S_a3_33_7, N_a3_33_7, H_a3_33_7, G_a3_33_7⟩ := id V_a3
  have hin_a3_33_7 : ¬ ((1 : Int32) < 0 ∨ cl_a3_33_7.slots.size ≤ ((1 : Int32) : Int32).toNatClampNeg) := inb_of S_a3_33_7 ⟨by decide, by decide⟩
  obtain ⟨T8, h8, X8, e8, W8, st8⟩ := stD X1 hx hZ e1 Ar_a3_33_7 (j := (1 : Int32)) hin_a3_33_7 (g := (mkF m 33 #[.val (.ref a1), .val (.int p2), .val (.ref a3), .val (.ref ro), .val (.int (0 : Int32))] [(.double (FP.dadd ed1 (FP.l2d qb))), (.int (1 : Int32)), (.ref a3)])) rfl rfl (hb hby d7_33)
  have V_a3_33_7 : Arv Z h8 a3 kd .double (4 : Int32) [(.double ed0), (.double (FP.dadd ed1 (FP.l2d qb))), (.double ed2), (.double ed3)] (.double (0 : UInt64)) := Arv.set Ar_a3_33_7 q_a3_33_7 S_a3_33_7 N_a3_33_7 H_a3_33_7 G_a3_33_7 rfl W8 1 rfl (Nat.le_of_ble_eq_true rfl)
  have K8 : Keep h0 h8 [a3] := (Keep.refl h0 [a3]).wr W8 (Or.inl (List.mem_of_getElem? (i := 0) rfl))
  have N8 := Fr.snoc X8 N0 g_a3
  obtain ⟨cl_ro_13_9, Ar_ro_13_9, -, S_ro_13_9, N_ro_13_9, -, -⟩ := id (V_ro.other W8 hne_s)
  obtain ⟨fs, hr, hrun, hended, hW, hsame⟩ := X8.leave (v := none) (fun _ => rfl)
  refine ⟨_, _, pre0 _ ?_, hrun, hended, _, _, rfl, ?_, ⟨_, rfl⟩, hW, hsame.mono (by decide) (by decide)⟩
  · show Steps p.tables e below (s₁.setTop (mkF m 0 #[.val (.ref a1), .val (.int p2), .val (.ref a3), .unset, .unset] [])) _
    refine XS.aloadN X0.here hx rfl (hb hby d7_0) rfl rfl ?_
    show Steps p.tables e below (s₁.setTop (mkF m 1 #[.val (.ref a1), .val (.int p2), .val (.ref a3), .unset, .unset] [(.ref a1)])) _
    refine st1 _ ?_
    refine XS.iloadN X1.here hx rfl (hb hby d7_4) rfl ?_
    refine X1.aaload hx (j := p2) (v := (.ref ro)) (by rw [e1]; exact Ar_rr_5_2.1) (State.isArrayOf_alike hZ.alike Ar_rr_5_2.2.1) rfl Ar_rr_5_2.2.2 hin_rr_5_2 (by rcases hri with rfl | rfl <;> exact H_rr_5_2.at hin_rr_5_2 rfl) (g := (mkF m 5 #[.val (.ref a1), .val (.int p2), .val (.ref a3), .unset, .unset] [(.int p2), (.ref rr)])) rfl rfl (hb hby d7_5) _ ?_
    refine XS.astoreN X1.here hx rfl (hb hby d7_6) rfl rfl (l' := #[.val (.ref a1), .val (.int p2), .val (.ref a3), .val (.ref ro), .unset]) rfl ?_
    refine XS.iconst X1.here hx rfl (hb hby d7_7) ?_
    refine XS.istore X1.here hx rfl (hb hby d7_8) rfl (l' := #[.val (.ref a1), .val (.int p2), .val (.ref a3), .val (.ref ro), .val (.int (0 : Int32))]) rfl ?_
    refine XS.iload X1.here hx rfl (hb hby d7_10) rfl ?_
    refine XS.aloadN X1.here hx rfl (hb hby d7_12) rfl rfl ?_
    refine X1.arraylength hx (by rw [e1]; exact Ar_ro_13_3.1) (State.isArrayOf_alike hZ.alike Ar_ro_13_3.2.1) (g := (mkF m 13 #[.val (.ref a1), .val (.int p2), .val (.ref a3), .val (.ref ro), .val (.int (0 : Int32))] [(.ref ro), (.int (0 : Int32))])) rfl rfl (hb hby d7_13) _ ?_
    rw [len_of S_ro_13_3 N_ro_13_3]
    refine XS.icmpNo X1.here hx rfl (hb hby d7_14) rfl (tlt (by decide : (0 : Int32) < (2 : Int32))).2.1 ?_
    refine XS.aloadN X1.here hx rfl (hb hby d7_17) rfl rfl ?_
    refine XS.aloadN X1.here hx rfl (hb hby d7_18) rfl rfl ?_
    refine XS.iload X1.here hx rfl (hb hby d7_19) rfl ?_
    refine X1.laload hx (j := (0 : Int32)) (v := (.long (1 : Int64))) (by rw [e1]; exact Ar_ro_21_4.1) (State.isArrayOf_alike hZ.alike Ar_ro_21_4.2.1) Ar_ro_21_4.2.2 hin_ro_21_4 (H_ro_21_4.at hin_ro_21_4 rfl) (g := (mkF m 21 #[.val (.ref a1), .val (.int p2), .val (.ref a3), .val (.ref ro), .val (.int (0 : Int32))] [(.int (0 : Int32)), (.ref ro), (.ref a3)])) rfl rfl (hb hby d7_21) _ ?_
    refine XS.l2i X1.here hx rfl (hb hby d7_22) rfl ?_
    refine own_dup2 X1.here hx rfl (hb hby d7_23) rfl rfl rfl ?_
    refine X1.daload hx (j := (1 : Int32)) (v := (.double ed1)) (by rw [e1]; exact Ar_a3_24_5.1) (State.isArrayOf_alike hZ.alike Ar_a3_24_5.2.1) Ar_a3_24_5.2.2 hin_a3_24_5 (H_a3_24_5.at hin_a3_24_5 rfl) (g := (mkF m 24 #[.val (.ref a1), .val (.int p2), .val (.ref a3), .val (.ref ro), .val (.int (0 : Int32))] [(.int (1 : Int32)), (.ref a3), (.int (1 : Int32)), (.ref a3)])) rfl rfl (hb hby d7_24) _ ?_
    refine XS.aloadN X1.here hx rfl (hb hby d7_25) rfl rfl ?_
    refine XS.iload X1.here hx rfl (hb hby d7_26) rfl ?_
    refine XS.iconst X1.here hx rfl (hb hby d7_28) ?_
    refine XS.iadd X1.here hx rfl (hb hby d7_29) rfl ?_
    refine X1.laload hx (j := (1 : Int32)) (v := (.long qb)) (by rw [e1]; exact Ar_ro_30_6.1) (State.isArrayOf_alike hZ.alike Ar_ro_30_6.2.1) Ar_ro_30_6.2.2 hin_ro_30_6 (H_ro_30_6.at hin_ro_30_6 rfl) (g := (mkF m 30 #[.val (.ref a1), .val (.int p2), .val (.ref a3), .val (.ref ro), .val (.int (0 : Int32))] [(.int (1 : Int32)), (.ref ro), (.double ed1), (.int (1 : Int32)), (.ref a3)])) rfl rfl (hb hby d7_30) _ ?_
    refine own_l2d X1.here hx rfl (hb hby d7_31) rfl ?_
    refine own_dadd X1.here hx rfl (hb hby d7_32) rfl hn1 ?_
    show Steps p.tables e below (T1.setTop (mkF m 33 #[.val (.ref a1), .val (.int p2), .val (.ref a3), .val (.ref ro), .val (.int (0 : Int32))] [(.double (FP.dadd ed1 (FP.l2d qb))), (.int (1 : Int32)), (.ref a3)])) _
    refine st8 _ ?_
    refine XS.iinc X8.here hx rfl (hb hby d7_34) rfl (l' := #[.val (.ref a1), .val (.int p2), .val (.ref a3), .val (.ref ro), .val (.int (2 : Int32))]) rfl ?_
    refine XS.goto X8.here hx rfl (pc0 := 37) (pc' := 10) rfl (hb hby d7_37) (by decide) (by decide) ?_
    refine XS.iload X8.here hx rfl (hb hby d7_10) rfl ?_
    refine XS.aloadN X8.here hx rfl (hb hby d7_12) rfl rfl ?_
    refine X8.arraylength hx (by rw [e8]; exact Ar_ro_13_9.1) (State.isArrayOf_alike hZ.alike Ar_ro_13_9.2.1) (g := (mkF m 13 #[.val (.ref a1), .val (.int p2), .val (.ref a3), .val (.ref ro), .val (.int (2 : Int32))] [(.ref ro), (.int (2 : Int32))])) rfl rfl (hb hby d7_13) _ ?_
    rw [len_of S_ro_13_9 N_ro_13_9]
    refine XS.icmpYes X8.here hx rfl (pc0 := 14) (pc' := 40) rfl (hb hby d7_14) rfl (flt (by decide : ¬ ((2 : Int32) < (2 : Int32)))).2.1 (by decide) (by decide) ?_
    show Steps p.tables e below (T8.setTop (mkF m 40 #[.val (.ref a1), .val (.int p2), .val (.ref a3), .val (.ref ro), .val (.int (2 : Int32))] [])) _
    exact X8.returnOut hx Bd.returns (hb hby d7_40) hr
  · show Q_ato_2 Z a1 p2 a3 rr kr ro sg ka qa qb qc qd kd ed0 ed1 ed2 ed3 h0 n0 _ T8.heap _
    rw [e8]
    exact ⟨rfl, N8, K8, V_a3_33_7⟩
theorem ef_ato_3 (m : MethodId) (a1 : Addr) (p2 : Int32) (a3 : Addr) : entryFrame m #[(.ref a1), (.int p2), (.ref a3)] 5 = (mkF m 0 #[.val (.ref a1), .val (.int p2), .val (.ref a3), .unset, .unset] []) := by first | (simp [entryFrame, mkF, argsToLocals, Value.category]; done) | rfl
def Q_ato_3 (Z : State) (a1 : Addr) (p2 : Int32) (a3 : Addr) (rr : Addr) (kr : ClassId) (ro : Addr) (sg : Addr) (ka : ClassId) (qa : Int64) (qb : Int64) (qc : Int64) (qd : Int64) (kd : ClassId) (ed0 : UInt64) (ed1 : UInt64) (ed2 : UInt64) (ed3 : UInt64) (h0 : Heap) (n0 : Nat) (v : Option Value) (h : Heap) (L : List Loc) : Prop := v = none ∧ Fr n0 L ∧ Keep h0 h [a3] ∧ Arv Z h a3 kd .double (4 : Int32) [(.double (FP.dadd ed0 (FP.l2d qa))), (.double (FP.dadd ed1 (FP.l2d qb))), (.double ed2), (.double ed3)] (.double (0 : UInt64))
set_option maxRecDepth 65536 in
set_option maxHeartbeats 40000000 in
theorem rm_ato_3 (l : Launch) (Z : State) (a0 : Array Value) (hw : ∀ d ∈ tables_1, d.before a0 Z = true) (ws : List Jvm.Cond) (a1 : Addr) (p2 : Int32) (a3 : Addr) (rr : Addr) (kr : ClassId) (ro : Addr) (sg : Addr) (ka : ClassId) (qa : Int64) (qb : Int64) (qc : Int64) (qd : Int64) (kd : ClassId) (ed0 : UInt64) (ed1 : UInt64) (ed2 : UInt64) (ed3 : UInt64) (h0 : Heap) (n0 : Nat) (Z0 : n0 ≤ h0.size) (F_rows : Fld Z h0 a1 "com/example/chartlight/chartlight/label/WeightRows" "_rows" "[[J" (.ref rr)) (V_rr : Arv Z h0 rr kr (.array .long) (2 : Int32) (own_pair p2 (.ref ro) (.ref sg)) .null) (V_ro : Arv Z h0 ro ka .long (4 : Int32) [(.long (0 : Int64)), (.long qa), (.long (1 : Int64)), (.long qb)] (.long (0 : Int64))) (V_a3 : Arv Z h0 a3 kd .double (4 : Int32) [(.double ed0), (.double ed1), (.double ed2), (.double ed3)] (.double (0 : UInt64))) (g_a3 : n0 ≤ a3) (hri : p2 = (0 : Int32) ∨ p2 = (1 : Int32)) (hne_s : ro ≠ a3) (hn0 : FP.dadd ed0 (FP.l2d qa) &&& 0x7fffffffffffffff ≤ 0x7ff0000000000000) (hn1 : FP.dadd ed1 (FP.l2d qb) &&& 0x7fffffffffffffff ≤ 0x7ff0000000000000) :
    MetFree l (⟨"com/example/chartlight/chartlight/label/WeightRows", "addTo", "(I[D)V"⟩ : MethodName) (head1 (Jvm.Cond.code (⟨"com/example/chartlight/chartlight/label/WeightRows", "addTo", "(I[D)V"⟩ : MethodName) prog_58_method_8_code 5 none :: ws) ({ frames := 0, cells := 0, slots := 0, locals := 0 } : Room)) (fun a U => a = #[(.ref a1), (.int p2), (.ref a3)] ∧ Z.Warmed39 U.vm ∧ U.heap = h0) (fun _ _ _ _ _ => True) (fun _ U o U' => ∃ v L, o = .returned v ∧ Q_ato_3 Z a1 p2 a3 rr kr ro sg ka qa qb qc qd kd ed0 ed1 ed2 ed3 h0 n0 v U'.heap L ∧ FrameEnd U o U' L ({ frames := 0, cells := 0, slots := 0, locals := 0 } : Room).cells ({ frames := 0, cells := 0, slots := 0, locals := 0 } : Room).slots) := by
  refine MetFree.of_bodySF (plainFor_of_name pn0) hisR ?_
  intro p e s m args below meth c s₁ Bd hml0 hP hK
  obtain ⟨rfl, hZ, hh⟩ := hP
  have hx := Bd.exec
  have hby := Bd.bytes
  have hml : c.maxLocals = 5 := hml0
  have hown : s.vm.findClass "com/example/chartlight/chartlight/label/WeightRows" = some m.cls := findClass_of_methodNamed Bd.named
  have hnm := (name_of_methodNamed Bd.named Bd.method).1
  have X0 : Stand p l e ({ frames := 0, cells := 0, slots := 0, locals := 0 } : Room) s m #[(.ref a1), (.int p2), (.ref a3)] below meth c s₁ [] 0 0 := Stand.of_body Bd
  have e0 : s₁.heap = h0 := by rw [← hh, Bd.state]; rfl
  have N0 := Fr.nil n0
  have pre0 : ∀ t, Steps p.tables e below (s₁.setTop (mkF m 0 #[.val (.ref a1), .val (.int p2), .val (.ref a3), .unset, .unset] [])) t → Steps p.tables e below (s₁.setTop (entryFrame m #[(.ref a1), (.int p2), (.ref a3)] 5)) t := fun t k => castTop (ef_ato_3 m a1 p2 a3) k
  obtain ⟨T1, X1, e1, st1⟩ := getF X0 hx hZ hown (host := "") (Or.inl (hw _ (List.mem_of_getElem? (i := 11) rfl))) Via.refl e0 F_rows (g := (mkF m 1 #[.val (.ref a1), .val (.int p2), .val (.ref a3), .unset, .unset] [(.ref a1)])) rfl rfl (hb hby d7_1)
  obtain ⟨cl_rr_5_2, Ar_rr_5_2, q_rr_5_2, S_rr_5_2, N_rr_5_2, H_rr_5_2, G_rr_5_2⟩ := id V_rr
  have hin_rr_5_2 : ¬ (p2 < 0 ∨ cl_rr_5_2.slots.size ≤ (p2 : Int32).toNatClampNeg) := by rcases hri with rfl | rfl <;> exact inb_of S_rr_5_2 ⟨by decide, by decide⟩
  obtain ⟨cl_ro_13_3, Ar_ro_13_3, -, S_ro_13_3, N_ro_13_3, -, -⟩ := id V_ro
  obtain ⟨cl_ro_21_4, Ar_ro_21_4, q_ro_21_4, S_ro_21_4, N_ro_21_4, H_ro_21_4, G_ro_21_4⟩ := id V_ro
  have hin_ro_21_4 : ¬ ((0 : Int32) < 0 ∨ cl_ro_21_4.slots.size ≤ ((0 : Int32) : Int32).toNatClampNeg) := inb_of S_ro_21_4 ⟨by decide, by decide⟩
  obtain ⟨cl_a3_24_5, Ar_a3_24_5, q_a3_24_5, S_a3_24_5, N_a3_24_5, H_a3_24_5, G_a3_24_5⟩ := id V_a3
  have hin_a3_24_5 : ¬ ((0 : Int32) < 0 ∨ cl_a3_24_5.slots.size ≤ ((0 : Int32) : Int32).toNatClampNeg) := inb_of S_a3_24_5 ⟨by decide, by decide⟩
  obtain ⟨cl_ro_30_6, Ar_ro_30_6, q_ro_30_6, S_ro_30_6, N_ro_30_6, H_ro_30_6, G_ro_30_6⟩ := id V_ro
  have hin_ro_30_6 : ¬ ((1 : Int32) < 0 ∨ cl_ro_30_6.slots.size ≤ ((1 : Int32) : Int32).toNatClampNeg) := inb_of S_ro_30_6 ⟨by decide, by decide⟩
  obtain ⟨cl_a3_33_7, Ar_a3_33_7, q_a3_33_7, S_a3_33_7, N_a3_33_7, H_a3_33_7, G_a3_33_7⟩ := id V_a3
  have hin_a3_33_7 : ¬ ((0 : Int32) < 0 ∨ cl_a3_33_7.slots.size ≤ ((0 : Int32) : Int32).toNatClampNeg) := inb_of S_a3_33_7 ⟨by decide, by decide⟩
  obtain ⟨T8, h8, X8, e8, W8, st8⟩ := stD X1 hx hZ e1 Ar_a3_33_7 (j := (0 : Int32)) hin_a3_33_7 (g := (mkF m 33 #[.val (.ref a1), .val (.int p2), .val (.ref a3), .val (.ref ro), .val (.int (0 : Int32))] [(.double (FP.dadd ed0 (FP.l2d qa))), (.int (0 : Int32)), (.ref a3)])) rfl rfl (hb hby d7_33)
  have V_a3_33_7 : Arv Z h8 a3 kd .double (4 : Int32) [(.double (FP.dadd ed0 (FP.l2d qa))), (.double ed1), (.double ed2), (.double ed3)] (.double (0 : UInt64)) := Arv.set Ar_a3_33_7 q_a3_33_7 S_a3_33_7 N_a3_33_7 H_a3_33_7 G_a3_33_7 rfl W8 0 rfl (Nat.le_of_ble_eq_true rfl)
  have K8 : Keep h0 h8 [a3] := (Keep.refl h0 [a3]).wr W8 (Or.inl (List.mem_of_getElem? (i := 0) rfl))
  have N8 := Fr.snoc X8 N0 g_a3
  obtain ⟨cl_ro_13_9, Ar_ro_13_9, -, S_ro_13_9, N_ro_13_9, -, -⟩ := id (V_ro.other W8 hne_s)
  obtain ⟨cl_ro_21_10, Ar_ro_21_10, q_ro_21_10, S_ro_21_10, N_ro_21_10, H_ro_21_10, G_ro_21_10⟩ := id (V_ro.other W8 hne_s)
  have hin_ro_21_10 : ¬ ((2 : Int32) < 0 ∨ cl_ro_21_10.slots.size ≤ ((2 : Int32) : Int32).toNatClampNeg) := inb_of S_ro_21_10 ⟨by decide, by decide⟩
  obtain ⟨cl_a3_24_11, Ar_a3_24_11, q_a3_24_11, S_a3_24_11, N_a3_24_11, H_a3_24_11, G_a3_24_11⟩ := id V_a3_33_7
  have hin_a3_24_11 : ¬ ((1 : Int32) < 0 ∨ cl_a3_24_11.slots.size ≤ ((1 : Int32) : Int32).toNatClampNeg) := inb_of S_a3_24_11 ⟨by decide, by decide⟩
  obtain ⟨cl_ro_30_12, Ar_ro_30_12, q_ro_30_12, S_ro_30_12, N_ro_30_12, H_ro_30_12, G_ro_30_12⟩ := id (V_ro.other W8 hne_s)
  have hin_ro_30_12 : ¬ ((3 : Int32) < 0 ∨ cl_ro_30_12.slots.size ≤ ((3 : Int32) : Int32).toNatClampNeg) := inb_of S_ro_30_12 ⟨by decide, by decide⟩
  obtain ⟨cl_a3_33_13, Ar_a3_33_13, q_a3_33_13, S_a3_33_13, N_a3_33_13, H_a3_33_13, G_a3_33_13⟩ := id V_a3_33_7
  have hin_a3_33_13 : ¬ ((1 : Int32) < 0 ∨ cl_a3_33_13.slots.size ≤ ((1 : Int32) : Int32).toNatClampNeg) := inb_of S_a3_33_13 ⟨by decide, by decide⟩
  obtain ⟨T14, h14, X14, e14, W14, st14⟩ := stD X8 hx hZ e8 Ar_a3_33_13 (j := (1 : Int32)) hin_a3_33_13 (g := (mkF m 33 #[.val (.ref a1), .val (.int p2), .val (.ref a3), .val (.ref ro), .val (.int (2 : Int32))] [(.double (FP.dadd ed1 (FP.l2d qb))), (.int (1 : Int32)), (.ref a3)])) rfl rfl (hb hby d7_33)
  have V_a3_33_13 : Arv Z h14 a3 kd .double (4 : Int32) [(.double (FP.dadd ed0 (FP.l2d qa))), (.double (FP.dadd ed1 (FP.l2d qb))), (.double ed2), (.double ed3)] (.double (0 : UInt64)) := Arv.set Ar_a3_33_13 q_a3_33_13 S_a3_33_13 N_a3_33_13 H_a3_33_13 G_a3_33_13 rfl W14 1 rfl (Nat.le_of_ble_eq_true rfl)
  have K14 : Keep h0 h14 [a3] := K8.wr W14 (Or.inl (List.mem_of_getElem? (i := 0) rfl))
  have N14 := Fr.snoc X14 N8 g_a3
  obtain ⟨cl_ro_13_15, Ar_ro_13_15, -, S_ro_13_15, N_ro_13_15, -, -⟩ := id ((V_ro.other W8 hne_s).other W14 hne_s)
  obtain ⟨fs, hr, hrun, hended, hW, hsame⟩ := X14.leave (v := none) (fun _ => rfl)
  refine ⟨_, _, pre0 _ ?_, hrun, hended, _, _, rfl, ?_, ⟨_, rfl⟩, hW, hsame.mono (by decide) (by decide)⟩
  · show Steps p.tables e below (s₁.setTop (mkF m 0 #[.val (.ref a1), .val (.int p2), .val (.ref a3), .unset, .unset] [])) _
    refine XS.aloadN X0.here hx rfl (hb hby d7_0) rfl rfl ?_
    show Steps p.tables e below (s₁.setTop (mkF m 1 #[.val (.ref a1), .val (.int p2), .val (.ref a3), .unset, .unset] [(.ref a1)])) _
    refine st1 _ ?_
    refine XS.iloadN X1.here hx rfl (hb hby d7_4) rfl ?_
    refine X1.aaload hx (j := p2) (v := (.ref ro)) (by rw [e1]; exact Ar_rr_5_2.1) (State.isArrayOf_alike hZ.alike Ar_rr_5_2.2.1) rfl Ar_rr_5_2.2.2 hin_rr_5_2 (by rcases hri with rfl | rfl <;> exact H_rr_5_2.at hin_rr_5_2 rfl) (g := (mkF m 5 #[.val (.ref a1), .val (.int p2), .val (.ref a3), .unset, .unset] [(.int p2), (.ref rr)])) rfl rfl (hb hby d7_5) _ ?_
    refine XS.astoreN X1.here hx rfl (hb hby d7_6) rfl rfl (l' := #[.val (.ref a1), .val (.int p2), .val (.ref a3), .val (.ref ro), .unset]) rfl ?_
    refine XS.iconst X1.here hx rfl (hb hby d7_7) ?_
    refine XS.istore X1.here hx rfl (hb hby d7_8) rfl (l' := #[.val (.ref a1), .val (.int p2), .val (.ref a3), .val (.ref ro), .val (.int (0 : Int32))]) rfl ?_
    refine XS.iload X1.here hx rfl (hb hby d7_10) rfl ?_
    refine XS.aloadN X1.here hx rfl (hb hby d7_12) rfl rfl ?_
    refine X1.arraylength hx (by rw [e1]; exact Ar_ro_13_3.1) (State.isArrayOf_alike hZ.alike Ar_ro_13_3.2.1) (g := (mkF m 13 #[.val (.ref a1), .val (.int p2), .val (.ref a3), .val (.ref ro), .val (.int (0 : Int32))] [(.ref ro), (.int (0 : Int32))])) rfl rfl (hb hby d7_13) _ ?_
    rw [len_of S_ro_13_3 N_ro_13_3]
    refine XS.icmpNo X1.here hx rfl (hb hby d7_14) rfl (tlt (by decide : (0 : Int32) < (4 : Int32))).2.1 ?_
    refine XS.aloadN X1.here hx rfl (hb hby d7_17) rfl rfl ?_
    refine XS.aloadN X1.here hx rfl (hb hby d7_18) rfl rfl ?_
    refine XS.iload X1.here hx rfl (hb hby d7_19) rfl ?_
    refine X1.laload hx (j := (0 : Int32)) (v := (.long (0 : Int64))) (by rw [e1]; exact Ar_ro_21_4.1) (State.isArrayOf_alike hZ.alike Ar_ro_21_4.2.1) Ar_ro_21_4.2.2 hin_ro_21_4 (H_ro_21_4.at hin_ro_21_4 rfl) (g := (mkF m 21 #[.val (.ref a1), .val (.int p2), .val (.ref a3), .val (.ref ro), .val (.int (0 : Int32))] [(.int (0 : Int32)), (.ref ro), (.ref a3)])) rfl rfl (hb hby d7_21) _ ?_
    refine XS.l2i X1.here hx rfl (hb hby d7_22) rfl ?_
    refine own_dup2 X1.here hx rfl (hb hby d7_23) rfl rfl rfl ?_
    refine X1.daload hx (j := (0 : Int32)) (v := (.double ed0)) (by rw [e1]; exact Ar_a3_24_5.1) (State.isArrayOf_alike hZ.alike Ar_a3_24_5.2.1) Ar_a3_24_5.2.2 hin_a3_24_5 (H_a3_24_5.at hin_a3_24_5 rfl) (g := (mkF m 24 #[.val (.ref a1), .val (.int p2), .val (.ref a3), .val (.ref ro), .val (.int (0 : Int32))] [(.int (0 : Int32)), (.ref a3), (.int (0 : Int32)), (.ref a3)])) rfl rfl (hb hby d7_24) _ ?_
    refine XS.aloadN X1.here hx rfl (hb hby d7_25) rfl rfl ?_
    refine XS.iload X1.here hx rfl (hb hby d7_26) rfl ?_
    refine XS.iconst X1.here hx rfl (hb hby d7_28) ?_
    refine XS.iadd X1.here hx rfl (hb hby d7_29) rfl ?_
    refine X1.laload hx (j := (1 : Int32)) (v := (.long qa)) (by rw [e1]; exact Ar_ro_30_6.1) (State.isArrayOf_alike hZ.alike Ar_ro_30_6.2.1) Ar_ro_30_6.2.2 hin_ro_30_6 (H_ro_30_6.at hin_ro_30_6 rfl) (g := (mkF m 30 #[.val (.ref a1), .val (.int p2), .val (.ref a3), .val (.ref ro), .val (.int (0 : Int32))] [(.int (1 : Int32)), (.ref ro), (.double ed0), (.int (0 : Int32)), (.ref a3)])) rfl rfl (hb hby d7_30) _ ?_
    refine own_l2d X1.here hx rfl (hb hby d7_31) rfl ?_
    refine own_dadd X1.here hx rfl (hb hby d7_32) rfl hn0 ?_
    show Steps p.tables e below (T1.setTop (mkF m 33 #[.val (.ref a1), .val (.int p2), .val (.ref a3), .val (.ref ro), .val (.int (0 : Int32))] [(.double (FP.dadd ed0 (FP.l2d qa))), (.int (0 : Int32)), (.ref a3)])) _
    refine st8 _ ?_
    refine XS.iinc X8.here hx rfl (hb hby d7_34) rfl (l' := #[.val (.ref a1), .val (.int p2), .val (.ref a3), .val (.ref ro), .val (.int (2 : Int32))]) rfl ?_
    refine XS.goto X8.here hx rfl (pc0 := 37) (pc' := 10) rfl (hb hby d7_37) (by decide) (by decide) ?_
    refine XS.iload X8.here hx rfl (hb hby d7_10) rfl ?_
    refine XS.aloadN X8.here hx rfl (hb hby d7_12) rfl rfl ?_
    refine X8.arraylength hx (by rw [e8]; exact Ar_ro_13_9.1) (State.isArrayOf_alike hZ.alike Ar_ro_13_9.2.1) (g := (mkF m 13 #[.val (.ref a1), .val (.int p2), .val (.ref a3), .val (.ref ro), .val (.int (2 : Int32))] [(.ref ro), (.int (2 : Int32))])) rfl rfl (hb hby d7_13) _ ?_
    rw [len_of S_ro_13_9 N_ro_13_9]
    refine XS.icmpNo X8.here hx rfl (hb hby d7_14) rfl (tlt (by decide : (2 : Int32) < (4 : Int32))).2.1 ?_
    refine XS.aloadN X8.here hx rfl (hb hby d7_17) rfl rfl ?_
    refine XS.aloadN X8.here hx rfl (hb hby d7_18) rfl rfl ?_
    refine XS.iload X8.here hx rfl (hb hby d7_19) rfl ?_
    refine X8.laload hx (j := (2 : Int32)) (v := (.long (1 : Int64))) (by rw [e8]; exact Ar_ro_21_10.1) (State.isArrayOf_alike hZ.alike Ar_ro_21_10.2.1) Ar_ro_21_10.2.2 hin_ro_21_10 (H_ro_21_10.at hin_ro_21_10 rfl) (g := (mkF m 21 #[.val (.ref a1), .val (.int p2), .val (.ref a3), .val (.ref ro), .val (.int (2 : Int32))] [(.int (2 : Int32)), (.ref ro), (.ref a3)])) rfl rfl (hb hby d7_21) _ ?_
    refine XS.l2i X8.here hx rfl (hb hby d7_22) rfl ?_
    refine own_dup2 X8.here hx rfl (hb hby d7_23) rfl rfl rfl ?_
    refine X8.daload hx (j := (1 : Int32)) (v := (.double ed1)) (by rw [e8]; exact Ar_a3_24_11.1) (State.isArrayOf_alike hZ.alike Ar_a3_24_11.2.1) Ar_a3_24_11.2.2 hin_a3_24_11 (H_a3_24_11.at hin_a3_24_11 rfl) (g := (mkF m 24 #[.val (.ref a1), .val (.int p2), .val (.ref a3), .val (.ref ro), .val (.int (2 : Int32))] [(.int (1 : Int32)), (.ref a3), (.int (1 : Int32)), (.ref a3)])) rfl rfl (hb hby d7_24) _ ?_
    refine XS.aloadN X8.here hx rfl (hb hby d7_25) rfl rfl ?_
    refine XS.iload X8.here hx rfl (hb hby d7_26) rfl ?_
    refine XS.iconst X8.here hx rfl (hb hby d7_28) ?_
    show Steps p.tables e below (T8.setTop (mkF m 29 #[.val (.ref a1), .val (.int p2), .val (.ref a3), .val (.ref ro), .val (.int (2 : Int32))] [(.int (1 : Int32)), (.int (2 : Int32)), (.ref ro), (.double ed1), (.int (1 : Int32)), (.ref a3)])) _
    refine XS.iadd X8.here hx rfl (hb hby d7_29) rfl ?_
    refine X8.laload hx (j := (3 : Int32)) (v := (.long qb)) (by rw [e8]; exact Ar_ro_30_12.1) (State.isArrayOf_alike hZ.alike Ar_ro_30_12.2.1) Ar_ro_30_12.2.2 hin_ro_30_12 (H_ro_30_12.at hin_ro_30_12 rfl) (g := (mkF m 30 #[.val (.ref a1), .val (.int p2), .val (.ref a3), .val (.ref ro), .val (.int (2 : Int32))] [(.int (3 : Int32)), (.ref ro), (.double ed1), (.int (1 : Int32)), (.ref a3)])) rfl rfl (hb hby d7_30) _ ?_
    refine own_l2d X8.here hx rfl (hb hby d7_31) rfl ?_
    refine own_dadd X8.here hx rfl (hb hby d7_32) rfl hn1 ?_
    show Steps p.tables e below (T8.setTop (mkF m 33 #[.val (.ref a1), .val (.int p2), .val (.ref a3), .val (.ref ro), .val (.int (2 : Int32))] [(.double (FP.dadd ed1 (FP.l2d qb))), (.int (1 : Int32)), (.ref a3)])) _
    refine st14 _ ?_
    refine XS.iinc X14.here hx rfl (hb hby d7_34) rfl (l' := #[.val (.ref a1), .val (.int p2), .val (.ref a3), .val (.ref ro), .val (.int (4 : Int32))]) rfl ?_
    refine XS.goto X14.here hx rfl (pc0 := 37) (pc' := 10) rfl (hb hby d7_37) (by decide) (by decide) ?_
    refine XS.iload X14.here hx rfl (hb hby d7_10) rfl ?_
    refine XS.aloadN X14.here hx rfl (hb hby d7_12) rfl rfl ?_
    refine X14.arraylength hx (by rw [e14]; exact Ar_ro_13_15.1) (State.isArrayOf_alike hZ.alike Ar_ro_13_15.2.1) (g := (mkF m 13 #[.val (.ref a1), .val (.int p2), .val (.ref a3), .val (.ref ro), .val (.int (4 : Int32))] [(.ref ro), (.int (4 : Int32))])) rfl rfl (hb hby d7_13) _ ?_
    rw [len_of S_ro_13_15 N_ro_13_15]
    refine XS.icmpYes X14.here hx rfl (pc0 := 14) (pc' := 40) rfl (hb hby d7_14) rfl (flt (by decide : ¬ ((4 : Int32) < (4 : Int32)))).2.1 (by decide) (by decide) ?_
    show Steps p.tables e below (T14.setTop (mkF m 40 #[.val (.ref a1), .val (.int p2), .val (.ref a3), .val (.ref ro), .val (.int (4 : Int32))] [])) _
    exact X14.returnOut hx Bd.returns (hb hby d7_40) hr
  · show Q_ato_3 Z a1 p2 a3 rr kr ro sg ka qa qb qc qd kd ed0 ed1 ed2 ed3 h0 n0 _ T14.heap _
    rw [e14]
    exact ⟨rfl, N14, K14, V_a3_33_13⟩
theorem ef_ato_4 (m : MethodId) (a1 : Addr) (p2 : Int32) (a3 : Addr) : entryFrame m #[(.ref a1), (.int p2), (.ref a3)] 5 = (mkF m 0 #[.val (.ref a1), .val (.int p2), .val (.ref a3), .unset, .unset] []) := by first | (simp [entryFrame, mkF, argsToLocals, Value.category]; done) | rfl
def Q_ato_4 (Z : State) (a1 : Addr) (p2 : Int32) (a3 : Addr) (rr : Addr) (kr : ClassId) (ro : Addr) (sg : Addr) (ka : ClassId) (qa : Int64) (qb : Int64) (qc : Int64) (qd : Int64) (kd : ClassId) (ed0 : UInt64) (ed1 : UInt64) (ed2 : UInt64) (ed3 : UInt64) (h0 : Heap) (n0 : Nat) (v : Option Value) (h : Heap) (L : List Loc) : Prop := v = none ∧ Fr n0 L ∧ Keep h0 h [a3] ∧ Arv Z h a3 kd .double (4 : Int32) [(.double ed0), (.double ed1), (.double (FP.dadd ed2 (FP.l2d qc))), (.double ed3)] (.double (0 : UInt64))
set_option maxRecDepth 65536 in
set_option maxHeartbeats 40000000 in
theorem rm_ato_4 (l : Launch) (Z : State) (a0 : Array Value) (hw : ∀ d ∈ tables_1, d.before a0 Z = true) (ws : List Jvm.Cond) (a1 : Addr) (p2 : Int32) (a3 : Addr) (rr : Addr) (kr : ClassId) (ro : Addr) (sg : Addr) (ka : ClassId) (qa : Int64) (qb : Int64) (qc : Int64) (qd : Int64) (kd : ClassId) (ed0 : UInt64) (ed1 : UInt64) (ed2 : UInt64) (ed3 : UInt64) (h0 : Heap) (n0 : Nat) (Z0 : n0 ≤ h0.size) (F_rows : Fld Z h0 a1 "com/example/chartlight/chartlight/label/WeightRows" "_rows" "[[J" (.ref rr)) (V_rr : Arv Z h0 rr kr (.array .long) (2 : Int32) (own_pair p2 (.ref ro) (.ref sg)) .null) (V_ro : Arv Z h0 ro ka .long (2 : Int32) [(.long (2 : Int64)), (.long qc)] (.long (0 : Int64))) (V_a3 : Arv Z h0 a3 kd .double (4 : Int32) [(.double ed0), (.double ed1), (.double ed2), (.double ed3)] (.double (0 : UInt64))) (g_a3 : n0 ≤ a3) (hri : p2 = (0 : Int32) ∨ p2 = (1 : Int32)) (hne_s : ro ≠ a3) (hn2 : FP.dadd ed2 (FP.l2d qc) &&& 0x7fffffffffffffff ≤ 0x7ff0000000000000) :
    MetFree l (⟨"com/example/chartlight/chartlight/label/WeightRows", "addTo", "(I[D)V"⟩ : MethodName) (head1 (Jvm.Cond.code (⟨"com/example/chartlight/chartlight/label/WeightRows", "addTo", "(I[D)V"⟩ : MethodName) prog_58_method_8_code 5 none :: ws) ({ frames := 0, cells := 0, slots := 0, locals := 0 } : Room)) (fun a U => a = #[(.ref a1), (.int p2), (.ref a3)] ∧ Z.Warmed39 U.vm ∧ U.heap = h0) (fun _ _ _ _ _ => True) (fun _ U o U' => ∃ v L, o = .returned v ∧ Q_ato_4 Z a1 p2 a3 rr kr ro sg ka qa qb qc qd kd ed0 ed1 ed2 ed3 h0 n0 v U'.heap L ∧ FrameEnd U o U' L ({ frames := 0, cells := 0, slots := 0, locals := 0 } : Room).cells ({ frames := 0, cells := 0, slots := 0, locals := 0 } : Room).slots) := by
  refine MetFree.of_bodySF (plainFor_of_name pn0) hisR ?_
  intro p e s m args below meth c s₁ Bd hml0 hP hK
  obtain ⟨rfl, hZ, hh⟩ := hP
  have hx := Bd.exec
  have hby := Bd.bytes
  have hml : c.maxLocals = 5 := hml0
  have hown : s.vm.findClass "com/example/chartlight/chartlight/label/WeightRows" = some m.cls := findClass_of_methodNamed Bd.named
  have hnm := (name_of_methodNamed Bd.named Bd.method).1
  have X0 : Stand p l e ({ frames := 0, cells := 0, slots := 0, locals := 0 } : Room) s m #[(.ref a1), (.int p2), (.ref a3)] below meth c s₁ [] 0 0 := Stand.of_body Bd
  have e0 : s₁.heap = h0 := by rw [← hh, Bd.state]; rfl
  have N0 := Fr.nil n0
  have pre0 : ∀ t, Steps p.tables e below (s₁.setTop (mkF m 0 #[.val (.ref a1), .val (.int p2), .val (.ref a3), .unset, .unset] [])) t → Steps p.tables e below (s₁.setTop (entryFrame m #[(.ref a1), (.int p2), (.ref a3)] 5)) t := fun t k => castTop (ef_ato_4 m a1 p2 a3) k
  obtain ⟨T1, X1, e1, st1⟩ := getF X0 hx hZ hown (host := "") (Or.inl (hw _ (List.mem_of_getElem? (i := 11) rfl))) Via.refl e0 F_rows (g := (mkF m 1 #[.val (.ref a1), .val (.int p2), .val (.ref a3), .unset, .unset] [(.ref a1)])) rfl rfl (hb hby d7_1)
  obtain ⟨cl_rr_5_2, Ar_rr_5_2, q_rr_5_2, S_rr_5_2, N_rr_5_2, H_rr_5_2, G_rr_5_2⟩ := id V_rr
  have hin_rr_5_2 : ¬ (p2 < 0 ∨ cl_rr_5_2.slots.size ≤ (p2 : Int32).toNatClampNeg) := by rcases hri with rfl | rfl <;> exact inb_of S_rr_5_2 ⟨by decide, by decide⟩
  obtain ⟨cl_ro_13_3, Ar_ro_13_3, -, S_ro_13_3, N_ro_13_3, -, -⟩ := id V_ro
  obtain ⟨cl_ro_21_4, Ar_ro_21_4, q_ro_21_4, S_ro_21_4, N_ro_21_4, H_ro_21_4, G_ro_21_4⟩ := id V_ro
  have hin_ro_21_4 : ¬ ((0 : Int32) < 0 ∨ cl_ro_21_4.slots.size ≤ ((0 : Int32) : Int32).toNatClampNeg) := inb_of S_ro_21_4 ⟨by decide, by decide⟩
  obtain ⟨cl_a3_24_5, Ar_a3_24_5, q_a3_24_5, S_a3_24_5, N_a3_24_5, H_a3_24_5, G_a3_24_5⟩ := id V_a3
  have hin_a3_24_5 : ¬ ((2 : Int32) < 0 ∨ cl_a3_24_5.slots.size ≤ ((2 : Int32) : Int32).toNatClampNeg) := inb_of S_a3_24_5 ⟨by decide, by decide⟩
  obtain ⟨cl_ro_30_6, Ar_ro_30_6, q_ro_30_6, S_ro_30_6, N_ro_30_6, H_ro_30_6, G_ro_30_6⟩ := id V_ro
  have hin_ro_30_6 : ¬ ((1 : Int32) < 0 ∨ cl_ro_30_6.slots.size ≤ ((1 : Int32) : Int32).toNatClampNeg) := inb_of S_ro_30_6 ⟨by decide, by decide⟩
  obtain ⟨cl_a3_33_7, Ar_a3_33_7, q_a3_33_7, S_a3_33_7, N_a3_33_7, H_a3_33_7, G_a3_33_7⟩ := id V_a3
  have hin_a3_33_7 : ¬ ((2 : Int32) < 0 ∨ cl_a3_33_7.slots.size ≤ ((2 : Int32) : Int32).toNatClampNeg) := inb_of S_a3_33_7 ⟨by decide, by decide⟩
  obtain ⟨T8, h8, X8, e8, W8, st8⟩ := stD X1 hx hZ e1 Ar_a3_33_7 (j := (2 : Int32)) hin_a3_33_7 (g := (mkF m 33 #[.val (.ref a1), .val (.int p2), .val (.ref a3), .val (.ref ro), .val (.int (0 : Int32))] [(.double (FP.dadd ed2 (FP.l2d qc))), (.int (2 : Int32)), (.ref a3)])) rfl rfl (hb hby d7_33)
  have V_a3_33_7 : Arv Z h8 a3 kd .double (4 : Int32) [(.double ed0), (.double ed1), (.double (FP.dadd ed2 (FP.l2d qc))), (.double ed3)] (.double (0 : UInt64)) := Arv.set Ar_a3_33_7 q_a3_33_7 S_a3_33_7 N_a3_33_7 H_a3_33_7 G_a3_33_7 rfl W8 2 rfl (Nat.le_of_ble_eq_true rfl)
  have K8 : Keep h0 h8 [a3] := (Keep.refl h0 [a3]).wr W8 (Or.inl (List.mem_of_getElem? (i := 0) rfl))
  have N8 := Fr.snoc X8 N0 g_a3
  obtain ⟨cl_ro_13_9, Ar_ro_13_9, -, S_ro_13_9, N_ro_13_9, -, -⟩ := id (V_ro.other W8 hne_s)
  obtain ⟨fs, hr, hrun, hended, hW, hsame⟩ := X8.leave (v := none) (fun _ => rfl)
  refine ⟨_, _, pre0 _ ?_, hrun, hended, _, _, rfl, ?_, ⟨_, rfl⟩, hW, hsame.mono (by decide) (by decide)⟩
  · show Steps p.tables e below (s₁.setTop (mkF m 0 #[.val (.ref a1), .val (.int p2), .val (.ref a3), .unset, .unset] [])) _
    refine XS.aloadN X0.here hx rfl (hb hby d7_0) rfl rfl ?_
    show Steps p.tables e below (s₁.setTop (mkF m 1 #[.val (.ref a1), .val (.int p2), .val (.ref a3), .unset, .unset] [(.ref a1)])) _
    refine st1 _ ?_
    refine XS.iloadN X1.here hx rfl (hb hby d7_4) rfl ?_
    refine X1.aaload hx (j := p2) (v := (.ref ro)) (by rw [e1]; exact Ar_rr_5_2.1) (State.isArrayOf_alike hZ.alike Ar_rr_5_2.2.1) rfl Ar_rr_5_2.2.2 hin_rr_5_2 (by rcases hri with rfl | rfl <;> exact H_rr_5_2.at hin_rr_5_2 rfl) (g := (mkF m 5 #[.val (.ref a1), .val (.int p2), .val (.ref a3), .unset, .unset] [(.int p2), (.ref rr)])) rfl rfl (hb hby d7_5) _ ?_
    refine XS.astoreN X1.here hx rfl (hb hby d7_6) rfl rfl (l' := #[.val (.ref a1), .val (.int p2), .val (.ref a3), .val (.ref ro), .unset]) rfl ?_
    refine XS.iconst X1.here hx rfl (hb hby d7_7) ?_
    refine XS.istore X1.here hx rfl (hb hby d7_8) rfl (l' := #[.val (.ref a1), .val (.int p2), .val (.ref a3), .val (.ref ro), .val (.int (0 : Int32))]) rfl ?_
    refine XS.iload X1.here hx rfl (hb hby d7_10) rfl ?_
    refine XS.aloadN X1.here hx rfl (hb hby d7_12) rfl rfl ?_
    refine X1.arraylength hx (by rw [e1]; exact Ar_ro_13_3.1) (State.isArrayOf_alike hZ.alike Ar_ro_13_3.2.1) (g := (mkF m 13 #[.val (.ref a1), .val (.int p2), .val (.ref a3), .val (.ref ro), .val (.int (0 : Int32))] [(.ref ro), (.int (0 : Int32))])) rfl rfl (hb hby d7_13) _ ?_
    rw [len_of S_ro_13_3 N_ro_13_3]
    refine XS.icmpNo X1.here hx rfl (hb hby d7_14) rfl (tlt (by decide : (0 : Int32) < (2 : Int32))).2.1 ?_
    refine XS.aloadN X1.here hx rfl (hb hby d7_17) rfl rfl ?_
    refine XS.aloadN X1.here hx rfl (hb hby d7_18) rfl rfl ?_
    refine XS.iload X1.here hx rfl (hb hby d7_19) rfl ?_
    refine X1.laload hx (j := (0 : Int32)) (v := (.long (2 : Int64))) (by rw [e1]; exact Ar_ro_21_4.1) (State.isArrayOf_alike hZ.alike Ar_ro_21_4.2.1) Ar_ro_21_4.2.2 hin_ro_21_4 (H_ro_21_4.at hin_ro_21_4 rfl) (g := (mkF m 21 #[.val (.ref a1), .val (.int p2), .val (.ref a3), .val (.ref ro), .val (.int (0 : Int32))] [(.int (0 : Int32)), (.ref ro), (.ref a3)])) rfl rfl (hb hby d7_21) _ ?_
    refine XS.l2i X1.here hx rfl (hb hby d7_22) rfl ?_
    refine own_dup2 X1.here hx rfl (hb hby d7_23) rfl rfl rfl ?_
    refine X1.daload hx (j := (2 : Int32)) (v := (.double ed2)) (by rw [e1]; exact Ar_a3_24_5.1) (State.isArrayOf_alike hZ.alike Ar_a3_24_5.2.1) Ar_a3_24_5.2.2 hin_a3_24_5 (H_a3_24_5.at hin_a3_24_5 rfl) (g := (mkF m 24 #[.val (.ref a1), .val (.int p2), .val (.ref a3), .val (.ref ro), .val (.int (0 : Int32))] [(.int (2 : Int32)), (.ref a3), (.int (2 : Int32)), (.ref a3)])) rfl rfl (hb hby d7_24) _ ?_
    refine XS.aloadN X1.here hx rfl (hb hby d7_25) rfl rfl ?_
    refine XS.iload X1.here hx rfl (hb hby d7_26) rfl ?_
    refine XS.iconst X1.here hx rfl (hb hby d7_28) ?_
    refine XS.iadd X1.here hx rfl (hb hby d7_29) rfl ?_
    refine X1.laload hx (j := (1 : Int32)) (v := (.long qc)) (by rw [e1]; exact Ar_ro_30_6.1) (State.isArrayOf_alike hZ.alike Ar_ro_30_6.2.1) Ar_ro_30_6.2.2 hin_ro_30_6 (H_ro_30_6.at hin_ro_30_6 rfl) (g := (mkF m 30 #[.val (.ref a1), .val (.int p2), .val (.ref a3), .val (.ref ro), .val (.int (0 : Int32))] [(.int (1 : Int32)), (.ref ro), (.double ed2), (.int (2 : Int32)), (.ref a3)])) rfl rfl (hb hby d7_30) _ ?_
    refine own_l2d X1.here hx rfl (hb hby d7_31) rfl ?_
    refine own_dadd X1.here hx rfl (hb hby d7_32) rfl hn2 ?_
    show Steps p.tables e below (T1.setTop (mkF m 33 #[.val (.ref a1), .val (.int p2), .val (.ref a3), .val (.ref ro), .val (.int (0 : Int32))] [(.double (FP.dadd ed2 (FP.l2d qc))), (.int (2 : Int32)), (.ref a3)])) _
    refine st8 _ ?_
    refine XS.iinc X8.here hx rfl (hb hby d7_34) rfl (l' := #[.val (.ref a1), .val (.int p2), .val (.ref a3), .val (.ref ro), .val (.int (2 : Int32))]) rfl ?_
    refine XS.goto X8.here hx rfl (pc0 := 37) (pc' := 10) rfl (hb hby d7_37) (by decide) (by decide) ?_
    refine XS.iload X8.here hx rfl (hb hby d7_10) rfl ?_
    refine XS.aloadN X8.here hx rfl (hb hby d7_12) rfl rfl ?_
    refine X8.arraylength hx (by rw [e8]; exact Ar_ro_13_9.1) (State.isArrayOf_alike hZ.alike Ar_ro_13_9.2.1) (g := (mkF m 13 #[.val (.ref a1), .val (.int p2), .val (.ref a3), .val (.ref ro), .val (.int (2 : Int32))] [(.ref ro), (.int (2 : Int32))])) rfl rfl (hb hby d7_13) _ ?_
    rw [len_of S_ro_13_9 N_ro_13_9]
    refine XS.icmpYes X8.here hx rfl (pc0 := 14) (pc' := 40) rfl (hb hby d7_14) rfl (flt (by decide : ¬ ((2 : Int32) < (2 : Int32)))).2.1 (by decide) (by decide) ?_
    show Steps p.tables e below (T8.setTop (mkF m 40 #[.val (.ref a1), .val (.int p2), .val (.ref a3), .val (.ref ro), .val (.int (2 : Int32))] [])) _
    exact X8.returnOut hx Bd.returns (hb hby d7_40) hr
  · show Q_ato_4 Z a1 p2 a3 rr kr ro sg ka qa qb qc qd kd ed0 ed1 ed2 ed3 h0 n0 _ T8.heap _
    rw [e8]
    exact ⟨rfl, N8, K8, V_a3_33_7⟩
theorem ef_ato_5 (m : MethodId) (a1 : Addr) (p2 : Int32) (a3 : Addr) : entryFrame m #[(.ref a1), (.int p2), (.ref a3)] 5 = (mkF m 0 #[.val (.ref a1), .val (.int p2), .val (.ref a3), .unset, .unset] []) := by first | (simp [entryFrame, mkF, argsToLocals, Value.category]; done) | rfl
def Q_ato_5 (Z : State) (a1 : Addr) (p2 : Int32) (a3 : Addr) (rr : Addr) (kr : ClassId) (ro : Addr) (sg : Addr) (ka : ClassId) (qa : Int64) (qb : Int64) (qc : Int64) (qd : Int64) (kd : ClassId) (ed0 : UInt64) (ed1 : UInt64) (ed2 : UInt64) (ed3 : UInt64) (h0 : Heap) (n0 : Nat) (v : Option Value) (h : Heap) (L : List Loc) : Prop := v = none ∧ Fr n0 L ∧ Keep h0 h [a3] ∧ Arv Z h a3 kd .double (4 : Int32) [(.double (FP.dadd ed0 (FP.l2d qa))), (.double ed1), (.double (FP.dadd ed2 (FP.l2d qc))), (.double ed3)] (.double (0 : UInt64))
set_option maxRecDepth 65536 in
set_option maxHeartbeats 40000000 in
theorem rm_ato_5 (l : Launch) (Z : State) (a0 : Array Value) (hw : ∀ d ∈ tables_1, d.before a0 Z = true) (ws : List Jvm.Cond) (a1 : Addr) (p2 : Int32) (a3 : Addr) (rr : Addr) (kr : ClassId) (ro : Addr) (sg : Addr) (ka : ClassId) (qa : Int64) (qb : Int64) (qc : Int64) (qd : Int64) (kd : ClassId) (ed0 : UInt64) (ed1 : UInt64) (ed2 : UInt64) (ed3 : UInt64) (h0 : Heap) (n0 : Nat) (Z0 : n0 ≤ h0.size) (F_rows : Fld Z h0 a1 "com/example/chartlight/chartlight/label/WeightRows" "_rows" "[[J" (.ref rr)) (V_rr : Arv Z h0 rr kr (.array .long) (2 : Int32) (own_pair p2 (.ref ro) (.ref sg)) .null) (V_ro : Arv Z h0 ro ka .long (4 : Int32) [(.long (0 : Int64)), (.long qa), (.long (2 : Int64)), (.long qc)] (.long (0 : Int64))) (V_a3 : Arv Z h0 a3 kd .double (4 : Int32) [(.double ed0), (.double ed1), (.double ed2), (.double ed3)] (.double (0 : UInt64))) (g_a3 : n0 ≤ a3) (hri : p2 = (0 : Int32) ∨ p2 = (1 : Int32)) (hne_s : ro ≠ a3) (hn0 : FP.dadd ed0 (FP.l2d qa) &&& 0x7fffffffffffffff ≤ 0x7ff0000000000000) (hn2 : FP.dadd ed2 (FP.l2d qc) &&& 0x7fffffffffffffff ≤ 0x7ff0000000000000) :
    MetFree l (⟨"com/example/chartlight/chartlight/label/WeightRows", "addTo", "(I[D)V"⟩ : MethodName) (head1 (Jvm.Cond.code (⟨"com/example/chartlight/chartlight/label/WeightRows", "addTo", "(I[D)V"⟩ : MethodName) prog_58_method_8_code 5 none :: ws) ({ frames := 0, cells := 0, slots := 0, locals := 0 } : Room)) (fun a U => a = #[(.ref a1), (.int p2), (.ref a3)] ∧ Z.Warmed39 U.vm ∧ U.heap = h0) (fun _ _ _ _ _ => True) (fun _ U o U' => ∃ v L, o = .returned v ∧ Q_ato_5 Z a1 p2 a3 rr kr ro sg ka qa qb qc qd kd ed0 ed1 ed2 ed3 h0 n0 v U'.heap L ∧ FrameEnd U o U' L ({ frames := 0, cells := 0, slots := 0, locals := 0 } : Room).cells ({ frames := 0, cells := 0, slots := 0, locals := 0 } : Room).slots) := by
  refine MetFree.of_bodySF (plainFor_of_name pn0) hisR ?_
  intro p e s m args below meth c s₁ Bd hml0 hP hK
  obtain ⟨rfl, hZ, hh⟩ := hP
  have hx := Bd.exec
  have hby := Bd.bytes
  have hml : c.maxLocals = 5 := hml0
  have hown : s.vm.findClass "com/example/chartlight/chartlight/label/WeightRows" = some m.cls := findClass_of_methodNamed Bd.named
  have hnm := (name_of_methodNamed Bd.named Bd.method).1
  have X0 : Stand p l e ({ frames := 0, cells := 0, slots := 0, locals := 0 } : Room) s m #[(.ref a1), (.int p2), (.ref a3)] below meth c s₁ [] 0 0 := Stand.of_body Bd
  have e0 : s₁.heap = h0 := by rw [← hh, Bd.state]; rfl
  have N0 := Fr.nil n0
  have pre0 : ∀ t, Steps p.tables e below (s₁.setTop (mkF m 0 #[.val (.ref a1), .val (.int p2), .val (.ref a3), .unset, .unset] [])) t → Steps p.tables e below (s₁.setTop (entryFrame m #[(.ref a1), (.int p2), (.ref a3)] 5)) t := fun t k => castTop (ef_ato_5 m a1 p2 a3) k
  obtain ⟨T1, X1, e1, st1⟩ := getF X0 hx hZ hown (host := "") (Or.inl (hw _ (List.mem_of_getElem? (i := 11) rfl))) Via.refl e0 F_rows (g := (mkF m 1 #[.val (.ref a1), .val (.int p2), .val (.ref a3), .unset, .unset] [(.ref a1)])) rfl rfl (hb hby d7_1)
  obtain ⟨cl_rr_5_2, Ar_rr_5_2, q_rr_5_2, S_rr_5_2, N_rr_5_2, H_rr_5_2, G_rr_5_2⟩ := id V_rr
  have hin_rr_5_2 : ¬ (p2 < 0 ∨ cl_rr_5_2.slots.size ≤ (p2 : Int32).toNatClampNeg) := by rcases hri with rfl | rfl <;> exact inb_of S_rr_5_2 ⟨by decide, by decide⟩
  obtain ⟨cl_ro_13_3, Ar_ro_13_3, -, S_ro_13_3, N_ro_13_3, -, -⟩ := id V_ro
  obtain ⟨cl_ro_21_4, Ar_ro_21_4, q_ro_21_4, S_ro_21_4, N_ro_21_4, H_ro_21_4, G_ro_21_4⟩ := id V_ro
  have hin_ro_21_4 : ¬ ((0 : Int32) < 0 ∨ cl_ro_21_4.slots.size ≤ ((0 : Int32) : Int32).toNatClampNeg) := inb_of S_ro_21_4 ⟨by decide, by decide⟩
  obtain ⟨cl_a3_24_5, Ar_a3_24_5, q_a3_24_5, S_a3_24_5, N_a3_24_5, H_a3_24_5, G_a3_24_5⟩ := id V_a3
  have hin_a3_24_5 : ¬ ((0 : Int32) < 0 ∨ cl_a3_24_5.slots.size ≤ ((0 : Int32) : Int32).toNatClampNeg) := inb_of S_a3_24_5 ⟨by decide, by decide⟩
  obtain ⟨cl_ro_30_6, Ar_ro_30_6, q_ro_30_6, S_ro_30_6, N_ro_30_6, H_ro_30_6, G_ro_30_6⟩ := id V_ro
  have hin_ro_30_6 : ¬ ((1 : Int32) < 0 ∨ cl_ro_30_6.slots.size ≤ ((1 : Int32) : Int32).toNatClampNeg) := inb_of S_ro_30_6 ⟨by decide, by decide⟩
  obtain ⟨cl_a3_33_7, Ar_a3_33_7, q_a3_33_7, S_a3_33_7, N_a3_33_7, H_a3_33_7, G_a3_33_7⟩ := id V_a3
  have hin_a3_33_7 : ¬ ((0 : Int32) < 0 ∨ cl_a3_33_7.slots.size ≤ ((0 : Int32) : Int32).toNatClampNeg) := inb_of S_a3_33_7 ⟨by decide, by decide⟩
  obtain ⟨T8, h8, X8, e8, W8, st8⟩ := stD X1 hx hZ e1 Ar_a3_33_7 (j := (0 : Int32)) hin_a3_33_7 (g := (mkF m 33 #[.val (.ref a1), .val (.int p2), .val (.ref a3), .val (.ref ro), .val (.int (0 : Int32))] [(.double (FP.dadd ed0 (FP.l2d qa))), (.int (0 : Int32)), (.ref a3)])) rfl rfl (hb hby d7_33)
  have V_a3_33_7 : Arv Z h8 a3 kd .double (4 : Int32) [(.double (FP.dadd ed0 (FP.l2d qa))), (.double ed1), (.double ed2), (.double ed3)] (.double (0 : UInt64)) := Arv.set Ar_a3_33_7 q_a3_33_7 S_a3_33_7 N_a3_33_7 H_a3_33_7 G_a3_33_7 rfl W8 0 rfl (Nat.le_of_ble_eq_true rfl)
  have K8 : Keep h0 h8 [a3] := (Keep.refl h0 [a3]).wr W8 (Or.inl (List.mem_of_getElem? (i := 0) rfl))
  have N8 := Fr.snoc X8 N0 g_a3
  obtain ⟨cl_ro_13_9, Ar_ro_13_9, -, S_ro_13_9, N_ro_13_9, -, -⟩ := id (V_ro.other W8 hne_s)
  obtain ⟨cl_ro_21_10, Ar_ro_21_10, q_ro_21_10, S_ro_21_10, N_ro_21_10, H_ro_21_10, G_ro_21_10⟩ := id (V_ro.other W8 hne_s)
  have hin_ro_21_10 : ¬ ((2 : Int32) < 0 ∨ cl_ro_21_10.slots.size ≤ ((2 : Int32) : Int32).toNatClampNeg) := inb_of S_ro_21_10 ⟨by decide, by decide⟩
  obtain ⟨cl_a3_24_11, Ar_a3_24_11, q_a3_24_11, S_a3_24_11, N_a3_24_11, H_a3_24_11, G_a3_24_11⟩ := id V_a3_33_7
  have hin_a3_24_11 : ¬ ((2 : Int32) < 0 ∨ cl_a3_24_11.slots.size ≤ ((2 : Int32) : Int32).toNatClampNeg) := inb_of S_a3_24_11 ⟨by decide, by decide⟩
  obtain ⟨cl_ro_30_12, Ar_ro_30_12, q_ro_30_12, S_ro_30_12, N_ro_30_12, H_ro_30_12, G_ro_30_12⟩ := id (V_ro.other W8 hne_s)
  have hin_ro_30_12 : ¬ ((3 : Int32) < 0 ∨ cl_ro_30_12.slots.size ≤ ((3 : Int32) : Int32).toNatClampNeg) := inb_of S_ro_30_12 ⟨by decide, by decide⟩
  obtain ⟨cl_a3_33_13, Ar_a3_33_13, q_a3_33_13, S_a3_33_13, N_a3_33_13, H_a3_33_13, G_a3_33_13⟩ := id V_a3_33_7
  have hin_a3_33_13 : ¬ ((2 : Int32) < 0 ∨ cl_a3_33_13.slots.size ≤ ((2 : Int32) : Int32).toNatClampNeg) := inb_of S_a3_33_13 ⟨by decide, by decide⟩
  obtain ⟨T14, h14, X14, e14, W14, st14⟩ := stD X8 hx hZ e8 Ar_a3_33_13 (j := (2 : Int32)) hin_a3_33_13 (g := (mkF m 33 #[.val (.ref a1), .val (.int p2), .val (.ref a3), .val (.ref ro), .val (.int (2 : Int32))] [(.double (FP.dadd ed2 (FP.l2d qc))), (.int (2 : Int32)), (.ref a3)])) rfl rfl (hb hby d7_33)
  have V_a3_33_13 : Arv Z h14 a3 kd .double (4 : Int32) [(.double (FP.dadd ed0 (FP.l2d qa))), (.double ed1), (.double (FP.dadd ed2 (FP.l2d qc))), (.double ed3)] (.double (0 : UInt64)) := Arv.set Ar_a3_33_13 q_a3_33_13 S_a3_33_13 N_a3_33_13 H_a3_33_13 G_a3_33_13 rfl W14 2 rfl (Nat.le_of_ble_eq_true rfl)
  have K14 : Keep h0 h14 [a3] := K8.wr W14 (Or.inl (List.mem_of_getElem? (i := 0) rfl))
  have N14 := Fr.snoc X14 N8 g_a3
  obtain ⟨cl_ro_13_15, Ar_ro_13_15, -, S_ro_13_15, N_ro_13_15, -, -⟩ := id ((V_ro.other W8 hne_s).other W14 hne_s)
  obtain ⟨fs, hr, hrun, hended, hW, hsame⟩ := X14.leave (v := none) (fun _ => rfl)
  refine ⟨_, _, pre0 _ ?_, hrun, hended, _, _, rfl, ?_, ⟨_, rfl⟩, hW, hsame.mono (by decide) (by decide)⟩
  · show Steps p.tables e below (s₁.setTop (mkF m 0 #[.val (.ref a1), .val (.int p2), .val (.ref a3), .unset, .unset] [])) _
    refine XS.aloadN X0.here hx rfl (hb hby d7_0) rfl rfl ?_
    show Steps p.tables e below (s₁.setTop (mkF m 1 #[.val (.ref a1), .val (.int p2), .val (.ref a3), .unset, .unset] [(.ref a1)])) _
    refine st1 _ ?_
    refine XS.iloadN X1.here hx rfl (hb hby d7_4) rfl ?_
    refine X1.aaload hx (j := p2) (v := (.ref ro)) (by rw [e1]; exact Ar_rr_5_2.1) (State.isArrayOf_alike hZ.alike Ar_rr_5_2.2.1) rfl Ar_rr_5_2.2.2 hin_rr_5_2 (by rcases hri with rfl | rfl <;> exact H_rr_5_2.at hin_rr_5_2 rfl) (g := (mkF m 5 #[.val (.ref a1), .val (.int p2), .val (.ref a3), .unset, .unset] [(.int p2), (.ref rr)])) rfl rfl (hb hby d7_5) _ ?_
    refine XS.astoreN X1.here hx rfl (hb hby d7_6) rfl rfl (l' := #[.val (.ref a1), .val (.int p2), .val (.ref a3), .val (.ref ro), .unset]) rfl ?_
    refine XS.iconst X1.here hx rfl (hb hby d7_7) ?_
    refine XS.istore X1.here hx rfl (hb hby d7_8) rfl (l' := #[.val (.ref a1), .val (.int p2), .val (.ref a3), .val (.ref ro), .val (.int (0 : Int32))]) rfl ?_
    refine XS.iload X1.here hx rfl (hb hby d7_10) rfl ?_
    refine XS.aloadN X1.here hx rfl (hb hby d7_12) rfl rfl ?_
    refine X1.arraylength hx (by rw [e1]; exact Ar_ro_13_3.1) (State.isArrayOf_alike hZ.alike Ar_ro_13_3.2.1) (g := (mkF m 13 #[.val (.ref a1), .val (.int p2), .val (.ref a3), .val (.ref ro), .val (.int (0 : Int32))] [(.ref ro), (.int (0 : Int32))])) rfl rfl (hb hby d7_13) _ ?_
    rw [len_of S_ro_13_3 N_ro_13_3]
    refine XS.icmpNo X1.here hx rfl (hb hby d7_14) rfl (tlt (by decide : (0 : Int32) < (4 : Int32))).2.1 ?_
    refine XS.aloadN X1.here hx rfl (hb hby d7_17) rfl rfl ?_
    refine XS.aloadN X1.here hx rfl (hb hby d7_18) rfl rfl ?_
    refine XS.iload X1.here hx rfl (hb hby d7_19) rfl ?_
    refine X1.laload hx (j := (0 : Int32)) (v := (.long (0 : Int64))) (by rw [e1]; exact Ar_ro_21_4.1) (State.isArrayOf_alike hZ.alike Ar_ro_21_4.2.1) Ar_ro_21_4.2.2 hin_ro_21_4 (H_ro_21_4.at hin_ro_21_4 rfl) (g := (mkF m 21 #[.val (.ref a1), .val (.int p2), .val (.ref a3), .val (.ref ro), .val (.int (0 : Int32))] [(.int (0 : Int32)), (.ref ro), (.ref a3)])) rfl rfl (hb hby d7_21) _ ?_
    refine XS.l2i X1.here hx rfl (hb hby d7_22) rfl ?_
    refine own_dup2 X1.here hx rfl (hb hby d7_23) rfl rfl rfl ?_
    refine X1.daload hx (j := (0 : Int32)) (v := (.double ed0)) (by rw [e1]; exact Ar_a3_24_5.1) (State.isArrayOf_alike hZ.alike Ar_a3_24_5.2.1) Ar_a3_24_5.2.2 hin_a3_24_5 (H_a3_24_5.at hin_a3_24_5 rfl) (g := (mkF m 24 #[.val (.ref a1), .val (.int p2), .val (.ref a3), .val (.ref ro), .val (.int (0 : Int32))] [(.int (0 : Int32)), (.ref a3), (.int (0 : Int32)), (.ref a3)])) rfl rfl (hb hby d7_24) _ ?_
    refine XS.aloadN X1.here hx rfl (hb hby d7_25) rfl rfl ?_
    refine XS.iload X1.here hx rfl (hb hby d7_26) rfl ?_
    refine XS.iconst X1.here hx rfl (hb hby d7_28) ?_
    refine XS.iadd X1.here hx rfl (hb hby d7_29) rfl ?_
    refine X1.laload hx (j := (1 : Int32)) (v := (.long qa)) (by rw [e1]; exact Ar_ro_30_6.1) (State.isArrayOf_alike hZ.alike Ar_ro_30_6.2.1) Ar_ro_30_6.2.2 hin_ro_30_6 (H_ro_30_6.at hin_ro_30_6 rfl) (g := (mkF m 30 #[.val (.ref a1), .val (.int p2), .val (.ref a3), .val (.ref ro), .val (.int (0 : Int32))] [(.int (1 : Int32)), (.ref ro), (.double ed0), (.int (0 : Int32)), (.ref a3)])) rfl rfl (hb hby d7_30) _ ?_
    refine own_l2d X1.here hx rfl (hb hby d7_31) rfl ?_
    refine own_dadd X1.here hx rfl (hb hby d7_32) rfl hn0 ?_
    show Steps p.tables e below (T1.setTop (mkF m 33 #[.val (.ref a1), .val (.int p2), .val (.ref a3), .val (.ref ro), .val (.int (0 : Int32))] [(.double (FP.dadd ed0 (FP.l2d qa))), (.int (0 : Int32)), (.ref a3)])) _
    refine st8 _ ?_
    refine XS.iinc X8.here hx rfl (hb hby d7_34) rfl (l' := #[.val (.ref a1), .val (.int p2), .val (.ref a3), .val (.ref ro), .val (.int (2 : Int32))]) rfl ?_
    refine XS.goto X8.here hx rfl (pc0 := 37) (pc' := 10) rfl (hb hby d7_37) (by decide) (by decide) ?_
    refine XS.iload X8.here hx rfl (hb hby d7_10) rfl ?_
    refine XS.aloadN X8.here hx rfl (hb hby d7_12) rfl rfl ?_
    refine X8.arraylength hx (by rw [e8]; exact Ar_ro_13_9.1) (State.isArrayOf_alike hZ.alike Ar_ro_13_9.2.1) (g := (mkF m 13 #[.val (.ref a1), .val (.int p2), .val (.ref a3), .val (.ref ro), .val (.int (2 : Int32))] [(.ref ro), (.int (2 : Int32))])) rfl rfl (hb hby d7_13) _ ?_
    rw [len_of S_ro_13_9 N_ro_13_9]
    refine XS.icmpNo X8.here hx rfl (hb hby d7_14) rfl (tlt (by decide : (2 : Int32) < (4 : Int32))).2.1 ?_
    refine XS.aloadN X8.here hx rfl (hb hby d7_17) rfl rfl ?_
    refine XS.aloadN X8.here hx rfl (hb hby d7_18) rfl rfl ?_
    refine XS.iload X8.here hx rfl (hb hby d7_19) rfl ?_
    refine X8.laload hx (j := (2 : Int32)) (v := (.long (2 : Int64))) (by rw [e8]; exact Ar_ro_21_10.1) (State.isArrayOf_alike hZ.alike Ar_ro_21_10.2.1) Ar_ro_21_10.2.2 hin_ro_21_10 (H_ro_21_10.at hin_ro_21_10 rfl) (g := (mkF m 21 #[.val (.ref a1), .val (.int p2), .val (.ref a3), .val (.ref ro), .val (.int (2 : Int32))] [(.int (2 : Int32)), (.ref ro), (.ref a3)])) rfl rfl (hb hby d7_21) _ ?_
    refine XS.l2i X8.here hx rfl (hb hby d7_22) rfl ?_
    refine own_dup2 X8.here hx rfl (hb hby d7_23) rfl rfl rfl ?_
    refine X8.daload hx (j := (2 : Int32)) (v := (.double ed2)) (by rw [e8]; exact Ar_a3_24_11.1) (State.isArrayOf_alike hZ.alike Ar_a3_24_11.2.1) Ar_a3_24_11.2.2 hin_a3_24_11 (H_a3_24_11.at hin_a3_24_11 rfl) (g := (mkF m 24 #[.val (.ref a1), .val (.int p2), .val (.ref a3), .val (.ref ro), .val (.int (2 : Int32))] [(.int (2 : Int32)), (.ref a3), (.int (2 : Int32)), (.ref a3)])) rfl rfl (hb hby d7_24) _ ?_
    refine XS.aloadN X8.here hx rfl (hb hby d7_25) rfl rfl ?_
    refine XS.iload X8.here hx rfl (hb hby d7_26) rfl ?_
    refine XS.iconst X8.here hx rfl (hb hby d7_28) ?_
    show Steps p.tables e below (T8.setTop (mkF m 29 #[.val (.ref a1), .val (.int p2), .val (.ref a3), .val (.ref ro), .val (.int (2 : Int32))] [(.int (1 : Int32)), (.int (2 : Int32)), (.ref ro), (.double ed2), (.int (2 : Int32)), (.ref a3)])) _
    refine XS.iadd X8.here hx rfl (hb hby d7_29) rfl ?_
    refine X8.laload hx (j := (3 : Int32)) (v := (.long qc)) (by rw [e8]; exact Ar_ro_30_12.1) (State.isArrayOf_alike hZ.alike Ar_ro_30_12.2.1) Ar_ro_30_12.2.2 hin_ro_30_12 (H_ro_30_12.at hin_ro_30_12 rfl) (g := (mkF m 30 #[.val (.ref a1), .val (.int p2), .val (.ref a3), .val (.ref ro), .val (.int (2 : Int32))] [(.int (3 : Int32)), (.ref ro), (.double ed2), (.int (2 : Int32)), (.ref a3)])) rfl rfl (hb hby d7_30) _ ?_
    refine own_l2d X8.here hx rfl (hb hby d7_31) rfl ?_
    refine own_dadd X8.here hx rfl (hb hby d7_32) rfl hn2 ?_
    show Steps p.tables e below (T8.setTop (mkF m 33 #[.val (.ref a1), .val (.int p2), .val (.ref a3), .val (.ref ro), .val (.int (2 : Int32))] [(.double (FP.dadd ed2 (FP.l2d qc))), (.int (2 : Int32)), (.ref a3)])) _
    refine st14 _ ?_
    refine XS.iinc X14.here hx rfl (hb hby d7_34) rfl (l' := #[.val (.ref a1), .val (.int p2), .val (.ref a3), .val (.ref ro), .val (.int (4 : Int32))]) rfl ?_
    refine XS.goto X14.here hx rfl (pc0 := 37) (pc' := 10) rfl (hb hby d7_37) (by decide) (by decide) ?_
    refine XS.iload X14.here hx rfl (hb hby d7_10) rfl ?_
    refine XS.aloadN X14.here hx rfl (hb hby d7_12) rfl rfl ?_
    refine X14.arraylength hx (by rw [e14]; exact Ar_ro_13_15.1) (State.isArrayOf_alike hZ.alike Ar_ro_13_15.2.1) (g := (mkF m 13 #[.val (.ref a1), .val (.int p2), .val (.ref a3), .val (.ref ro), .val (.int (4 : Int32))] [(.ref ro), (.int (4 : Int32))])) rfl rfl (hb hby d7_13) _ ?_
    rw [len_of S_ro_13_15 N_ro_13_15]
    refine XS.icmpYes X14.here hx rfl (pc0 := 14) (pc' := 40) rfl (hb hby d7_14) rfl (flt (by decide : ¬ ((4 : Int32) < (4 : Int32)))).2.1 (by decide) (by decide) ?_
    show Steps p.tables e below (T14.setTop (mkF m 40 #[.val (.ref a1), .val (.int p2), .val (.ref a3), .val (.ref ro), .val (.int (4 : Int32))] [])) _
    exact X14.returnOut hx Bd.returns (hb hby d7_40) hr
  · show Q_ato_5 Z a1 p2 a3 rr kr ro sg ka qa qb qc qd kd ed0 ed1 ed2 ed3 h0 n0 _ T14.heap _
    rw [e14]
    exact ⟨rfl, N14, K14, V_a3_33_13⟩
theorem ef_ato_6 (m : MethodId) (a1 : Addr) (p2 : Int32) (a3 : Addr) : entryFrame m #[(.ref a1), (.int p2), (.ref a3)] 5 = (mkF m 0 #[.val (.ref a1), .val (.int p2), .val (.ref a3), .unset, .unset] []) := by first | (simp [entryFrame, mkF, argsToLocals, Value.category]; done) | rfl
def Q_ato_6 (Z : State) (a1 : Addr) (p2 : Int32) (a3 : Addr) (rr : Addr) (kr : ClassId) (ro : Addr) (sg : Addr) (ka : ClassId) (qa : Int64) (qb : Int64) (qc : Int64) (qd : Int64) (kd : ClassId) (ed0 : UInt64) (ed1 : UInt64) (ed2 : UInt64) (ed3 : UInt64) (h0 : Heap) (n0 : Nat) (v : Option Value) (h : Heap) (L : List Loc) : Prop := v = none ∧ Fr n0 L ∧ Keep h0 h [a3] ∧ Arv Z h a3 kd .double (4 : Int32) [(.double ed0), (.double (FP.dadd ed1 (FP.l2d qb))), (.double (FP.dadd ed2 (FP.l2d qc))), (.double ed3)] (.double (0 : UInt64))
set_option maxRecDepth 65536 in
set_option maxHeartbeats 40000000 in
theorem rm_ato_6 (l : Launch) (Z : State) (a0 : Array Value) (hw : ∀ d ∈ tables_1, d.before a0 Z = true) (ws : List Jvm.Cond) (a1 : Addr) (p2 : Int32) (a3 : Addr) (rr : Addr) (kr : ClassId) (ro : Addr) (sg : Addr) (ka : ClassId) (qa : Int64) (qb : Int64) (qc : Int64) (qd : Int64) (kd : ClassId) (ed0 : UInt64) (ed1 : UInt64) (ed2 : UInt64) (ed3 : UInt64) (h0 : Heap) (n0 : Nat) (Z0 : n0 ≤ h0.size) (F_rows : Fld Z h0 a1 "com/example/chartlight/chartlight/label/WeightRows" "_rows" "[[J" (.ref rr)) (V_rr : Arv Z h0 rr kr (.array .long) (2 : Int32) (own_pair p2 (.ref ro) (.ref sg)) .null) (V_ro : Arv Z h0 ro ka .long (4 : Int32) [(.long (1 : Int64)), (.long qb), (.long (2 : Int64)), (.long qc)] (.long (0 : Int64))) (V_a3 : Arv Z h0 a3 kd .double (4 : Int32) [(.double ed0), (.double ed1), (.double ed2), (.double ed3)] (.double (0 : UInt64))) (g_a3 : n0 ≤ a3) (hri : p2 = (0 : Int32) ∨ p2 = (1 : Int32)) (hne_s : ro ≠ a3) (hn1 : FP.dadd ed1 (FP.l2d qb) &&& 0x7fffffffffffffff ≤ 0x7ff0000000000000) (hn2 : FP.dadd ed2 (FP.l2d qc) &&& 0x7fffffffffffffff ≤ 0x7ff0000000000000) :
    MetFree l (⟨"com/example/chartlight/chartlight/label/WeightRows", "addTo", "(I[D)V"⟩ : MethodName) (head1 (Jvm.Cond.code (⟨"com/example/chartlight/chartlight/label/WeightRows", "addTo", "(I[D)V"⟩ : MethodName) prog_58_method_8_code 5 none :: ws) ({ frames := 0, cells := 0, slots := 0, locals := 0 } : Room)) (fun a U => a = #[(.ref a1), (.int p2), (.ref a3)] ∧ Z.Warmed39 U.vm ∧ U.heap = h0) (fun _ _ _ _ _ => True) (fun _ U o U' => ∃ v L, o = .returned v ∧ Q_ato_6 Z a1 p2 a3 rr kr ro sg ka qa qb qc qd kd ed0 ed1 ed2 ed3 h0 n0 v U'.heap L ∧ FrameEnd U o U' L ({ frames := 0, cells := 0, slots := 0, locals := 0 } : Room).cells ({ frames := 0, cells := 0, slots := 0, locals := 0 } : Room).slots) := by
  refine MetFree.of_bodySF (plainFor_of_name pn0) hisR ?_
  intro p e s m args below meth c s₁ Bd hml0 hP hK
  obtain ⟨rfl, hZ, hh⟩ := hP
  have hx := Bd.exec
  have hby := Bd.bytes
  have hml : c.maxLocals = 5 := hml0
  have hown : s.vm.findClass "com/example/chartlight/chartlight/label/WeightRows" = some m.cls := findClass_of_methodNamed Bd.named
  have hnm := (name_of_methodNamed Bd.named Bd.method).1
  have X0 : Stand p l e ({ frames := 0, cells := 0, slots := 0, locals := 0 } : Room) s m #[(.ref a1), (.int p2), (.ref a3)] below meth c s₁ [] 0 0 := Stand.of_body Bd
  have e0 : s₁.heap = h0 := by rw [← hh, Bd.state]; rfl
  have N0 := Fr.nil n0
  have pre0 : ∀ t, Steps p.tables e below (s₁.setTop (mkF m 0 #[.val (.ref a1), .val (.int p2), .val (.ref a3), .unset, .unset] [])) t → Steps p.tables e below (s₁.setTop (entryFrame m #[(.ref a1), (.int p2), (.ref a3)] 5)) t := fun t k => castTop (ef_ato_6 m a1 p2 a3) k
  obtain ⟨T1, X1, e1, st1⟩ := getF X0 hx hZ hown (host := "") (Or.inl (hw _ (List.mem_of_getElem? (i := 11) rfl))) Via.refl e0 F_rows (g := (mkF m 1 #[.val (.ref a1), .val (.int p2), .val (.ref a3), .unset, .unset] [(.ref a1)])) rfl rfl (hb hby d7_1)
  obtain ⟨cl_rr_5_2, Ar_rr_5_2, q_rr_5_2, S_rr_5_2, N_rr_5_2, H_rr_5_2, G_rr_5_2⟩ := id V_rr
  have hin_rr_5_2 : ¬ (p2 < 0 ∨ cl_rr_5_2.slots.size ≤ (p2 : Int32).toNatClampNeg) := by rcases hri with rfl | rfl <;> exact inb_of S_rr_5_2 ⟨by decide, by decide⟩
  obtain ⟨cl_ro_13_3, Ar_ro_13_3, -, S_ro_13_3, N_ro_13_3, -, -⟩ := id V_ro
  obtain ⟨cl_ro_21_4, Ar_ro_21_4, q_ro_21_4, S_ro_21_4, N_ro_21_4, H_ro_21_4, G_ro_21_4⟩ := id V_ro
  have hin_ro_21_4 : ¬ ((0 : Int32) < 0 ∨ cl_ro_21_4.slots.size ≤ ((0 : Int32) : Int32).toNatClampNeg) := inb_of S_ro_21_4 ⟨by decide, by decide⟩
  obtain ⟨cl_a3_24_5, Ar_a3_24_5, q_a3_24_5, S_a3_24_5, N_a3_24_5, H_a3_24_5, G_a3_24_5⟩ := id V_a3
  have hin_a3_24_5 : ¬ ((1 : Int32) < 0 ∨ cl_a3_24_5.slots.size ≤ ((1 : Int32) : Int32).toNatClampNeg) := inb_of S_a3_24_5 ⟨by decide, by decide⟩
  obtain ⟨cl_ro_30_6, Ar_ro_30_6, q_ro_30_6, S_ro_30_6, N_ro_30_6, H_ro_30_6, G_ro_30_6⟩ := id V_ro
  have hin_ro_30_6 : ¬ ((1 : Int32) < 0 ∨ cl_ro_30_6.slots.size ≤ ((1 : Int32) : Int32).toNatClampNeg) := inb_of S_ro_30_6 ⟨by decide, by decide⟩
  obtain ⟨cl_a3_33_7, Ar_a3_33_7, q_a3_33_7, S_a3_33_7, N_a3_33_7, H_a3_33_7, G_a3_33_7⟩ := id V_a3
  have hin_a3_33_7 : ¬ ((1 : Int32) < 0 ∨ cl_a3_33_7.slots.size ≤ ((1 : Int32) : Int32).toNatClampNeg) := inb_of S_a3_33_7 ⟨by decide, by decide⟩
  obtain ⟨T8, h8, X8, e8, W8, st8⟩ := stD X1 hx hZ e1 Ar_a3_33_7 (j := (1 : Int32)) hin_a3_33_7 (g := (mkF m 33 #[.val (.ref a1), .val (.int p2), .val (.ref a3), .val (.ref ro), .val (.int (0 : Int32))] [(.double (FP.dadd ed1 (FP.l2d qb))), (.int (1 : Int32)), (.ref a3)])) rfl rfl (hb hby d7_33)
  have V_a3_33_7 : Arv Z h8 a3 kd .double (4 : Int32) [(.double ed0), (.double (FP.dadd ed1 (FP.l2d qb))), (.double ed2), (.double ed3)] (.double (0 : UInt64)) := Arv.set Ar_a3_33_7 q_a3_33_7 S_a3_33_7 N_a3_33_7 H_a3_33_7 G_a3_33_7 rfl W8 1 rfl (Nat.le_of_ble_eq_true rfl)
  have K8 : Keep h0 h8 [a3] := (Keep.refl h0 [a3]).wr W8 (Or.inl (List.mem_of_getElem? (i := 0) rfl))
  have N8 := Fr.snoc X8 N0 g_a3
  obtain ⟨cl_ro_13_9, Ar_ro_13_9, -, S_ro_13_9, N_ro_13_9, -, -⟩ := id (V_ro.other W8 hne_s)
  obtain ⟨cl_ro_21_10, Ar_ro_21_10, q_ro_21_10, S_ro_21_10, N_ro_21_10, H_ro_21_10, G_ro_21_10⟩ := id (V_ro.other W8 hne_s)
  have hin_ro_21_10 : ¬ ((2 : Int32) < 0 ∨ cl_ro_21_10.slots.size ≤ ((2 : Int32) : Int32).toNatClampNeg) := inb_of S_ro_21_10 ⟨by decide, by decide⟩
  obtain ⟨cl_a3_24_11, Ar_a3_24_11, q_a3_24_11, S_a3_24_11, N_a3_24_11, H_a3_24_11, G_a3_24_11⟩ := id V_a3_33_7
  have hin_a3_24_11 : ¬ ((2 : Int32) < 0 ∨ cl_a3_24_11.slots.size ≤ ((2 : Int32) : Int32).toNatClampNeg) := inb_of S_a3_24_11 ⟨by decide, by decide⟩
  obtain ⟨cl_ro_30_12, Ar_ro_30_12, q_ro_30_12, S_ro_30_12, N_ro_30_12, H_ro_30_12, G_ro_30_12⟩ := id (V_ro.other W8 hne_s)
  have hin_ro_30_12 : ¬ ((3 : Int32) < 0 ∨ cl_ro_30_12.slots.size ≤ ((3 : Int32) : Int32).toNatClampNeg) := inb_of S_ro_30_12 ⟨by decide, by decide⟩
  obtain ⟨cl_a3_33_13, Ar_a3_33_13, q_a3_33_13, S_a3_33_13, N_a3_33_13, H_a3_33_13, G_a3_33_13⟩ := id V_a3_33_7
  have hin_a3_33_13 : ¬ ((2 : Int32) < 0 ∨ cl_a3_33_13.slots.size ≤ ((2 : Int32) : Int32).toNatClampNeg) := inb_of S_a3_33_13 ⟨by decide, by decide⟩
  obtain ⟨T14, h14, X14, e14, W14, st14⟩ := stD X8 hx hZ e8 Ar_a3_33_13 (j := (2 : Int32)) hin_a3_33_13 (g := (mkF m 33 #[.val (.ref a1), .val (.int p2), .val (.ref a3), .val (.ref ro), .val (.int (2 : Int32))] [(.double (FP.dadd ed2 (FP.l2d qc))), (.int (2 : Int32)), (.ref a3)])) rfl rfl (hb hby d7_33)
  have V_a3_33_13 : Arv Z h14 a3 kd .double (4 : Int32) [(.double ed0), (.double (FP.dadd ed1 (FP.l2d qb))), (.double (FP.dadd ed2 (FP.l2d qc))), (.double ed3)] (.double (0 : UInt64)) := Arv.set Ar_a3_33_13 q_a3_33_13 S_a3_33_13 N_a3_33_13 H_a3_33_13 G_a3_33_13 rfl W14 2 rfl (Nat.le_of_ble_eq_true rfl)
  have K14 : Keep h0 h14 [a3] := K8.wr W14 (Or.inl (List.mem_of_getElem? (i := 0) rfl))
  have N14 := Fr.snoc X14 N8 g_a3
  obtain ⟨cl_ro_13_15, Ar_ro_13_15, -, S_ro_13_15, N_ro_13_15, -, -⟩ := id ((V_ro.other W8 hne_s).other W14 hne_s)
  obtain ⟨fs, hr, hrun, hended, hW, hsame⟩ := X14.leave (v := none) (fun _ => rfl)
  refine ⟨_, _, pre0 _ ?_, hrun, hended, _, _, rfl, ?_, ⟨_, rfl⟩, hW, hsame.mono (by decide) (by decide)⟩
  · show Steps p.tables e below (s₁.setTop (mkF m 0 #[.val (.ref a1), .val (.int p2), .val (.ref a3), .unset, .unset] [])) _
    refine XS.aloadN X0.here hx rfl (hb hby d7_0) rfl rfl ?_
    show Steps p.tables e below (s₁.setTop (mkF m 1 #[.val (.ref a1), .val (.int p2), .val (.ref a3), .unset, .unset] [(.ref a1)])) _
    refine st1 _ ?_
    refine XS.iloadN X1.here hx rfl (hb hby d7_4) rfl ?_
    refine X1.aaload hx (j := p2) (v := (.ref ro)) (by rw [e1]; exact Ar_rr_5_2.1) (State.isArrayOf_alike hZ.alike Ar_rr_5_2.2.1) rfl Ar_rr_5_2.2.2 hin_rr_5_2 (by rcases hri with rfl | rfl <;> exact H_rr_5_2.at hin_rr_5_2 rfl) (g := (mkF m 5 #[.val (.ref a1), .val (.int p2), .val (.ref a3), .unset, .unset] [(.int p2), (.ref rr)])) rfl rfl (hb hby d7_5) _ ?_
    refine XS.astoreN X1.here hx rfl (hb hby d7_6) rfl rfl (l' := #[.val (.ref a1), .val (.int p2), .val (.ref a3), .val (.ref ro), .unset]) rfl ?_
    refine XS.iconst X1.here hx rfl (hb hby d7_7) ?_
    refine XS.istore X1.here hx rfl (hb hby d7_8) rfl (l' := #[.val (.ref a1), .val (.int p2), .val (.ref a3), .val (.ref ro), .val (.int (0 : Int32))]) rfl ?_
    refine XS.iload X1.here hx rfl (hb hby d7_10) rfl ?_
    refine XS.aloadN X1.here hx rfl (hb hby d7_12) rfl rfl ?_
    refine X1.arraylength hx (by rw [e1]; exact Ar_ro_13_3.1) (State.isArrayOf_alike hZ.alike Ar_ro_13_3.2.1) (g := (mkF m 13 #[.val (.ref a1), .val (.int p2), .val (.ref a3), .val (.ref ro), .val (.int (0 : Int32))] [(.ref ro), (.int (0 : Int32))])) rfl rfl (hb hby d7_13) _ ?_
    rw [len_of S_ro_13_3 N_ro_13_3]
    refine XS.icmpNo X1.here hx rfl (hb hby d7_14) rfl (tlt (by decide : (0 : Int32) < (4 : Int32))).2.1 ?_
    refine XS.aloadN X1.here hx rfl (hb hby d7_17) rfl rfl ?_
    refine XS.aloadN X1.here hx rfl (hb hby d7_18) rfl rfl ?_
    refine XS.iload X1.here hx rfl (hb hby d7_19) rfl ?_
    refine X1.laload hx (j := (0 : Int32)) (v := (.long (1 : Int64))) (by rw [e1]; exact Ar_ro_21_4.1) (State.isArrayOf_alike hZ.alike Ar_ro_21_4.2.1) Ar_ro_21_4.2.2 hin_ro_21_4 (H_ro_21_4.at hin_ro_21_4 rfl) (g := (mkF m 21 #[.val (.ref a1), .val (.int p2), .val (.ref a3), .val (.ref ro), .val (.int (0 : Int32))] [(.int (0 : Int32)), (.ref ro), (.ref a3)])) rfl rfl (hb hby d7_21) _ ?_
    refine XS.l2i X1.here hx rfl (hb hby d7_22) rfl ?_
    refine own_dup2 X1.here hx rfl (hb hby d7_23) rfl rfl rfl ?_
    refine X1.daload hx (j := (1 : Int32)) (v := (.double ed1)) (by rw [e1]; exact Ar_a3_24_5.1) (State.isArrayOf_alike hZ.alike Ar_a3_24_5.2.1) Ar_a3_24_5.2.2 hin_a3_24_5 (H_a3_24_5.at hin_a3_24_5 rfl) (g := (mkF m 24 #[.val (.ref a1), .val (.int p2), .val (.ref a3), .val (.ref ro), .val (.int (0 : Int32))] [(.int (1 : Int32)), (.ref a3), (.int (1 : Int32)), (.ref a3)])) rfl rfl (hb hby d7_24) _ ?_
    refine XS.aloadN X1.here hx rfl (hb hby d7_25) rfl rfl ?_
    refine XS.iload X1.here hx rfl (hb hby d7_26) rfl ?_
    refine XS.iconst X1.here hx rfl (hb hby d7_28) ?_
    refine XS.iadd X1.here hx rfl (hb hby d7_29) rfl ?_
    refine X1.laload hx (j := (1 : Int32)) (v := (.long qb)) (by rw [e1]; exact Ar_ro_30_6.1) (State.isArrayOf_alike hZ.alike Ar_ro_30_6.2.1) Ar_ro_30_6.2.2 hin_ro_30_6 (H_ro_30_6.at hin_ro_30_6 rfl) (g := (mkF m 30 #[.val (.ref a1), .val (.int p2), .val (.ref a3), .val (.ref ro), .val (.int (0 : Int32))] [(.int (1 : Int32)), (.ref ro), (.double ed1), (.int (1 : Int32)), (.ref a3)])) rfl rfl (hb hby d7_30) _ ?_
    refine own_l2d X1.here hx rfl (hb hby d7_31) rfl ?_
    refine own_dadd X1.here hx rfl (hb hby d7_32) rfl hn1 ?_
    show Steps p.tables e below (T1.setTop (mkF m 33 #[.val (.ref a1), .val (.int p2), .val (.ref a3), .val (.ref ro), .val (.int (0 : Int32))] [(.double (FP.dadd ed1 (FP.l2d qb))), (.int (1 : Int32)), (.ref a3)])) _
    refine st8 _ ?_
    refine XS.iinc X8.here hx rfl (hb hby d7_34) rfl (l' := #[.val (.ref a1), .val (.int p2), .val (.ref a3), .val (.ref ro), .val (.int (2 : Int32))]) rfl ?_
    refine XS.goto X8.here hx rfl (pc0 := 37) (pc' := 10) rfl (hb hby d7_37) (by decide) (by decide) ?_
    refine XS.iload X8.here hx rfl (hb hby d7_10) rfl ?_
    refine XS.aloadN X8.here hx rfl (hb hby d7_12) rfl rfl ?_
    refine X8.arraylength hx (by rw [e8]; exact Ar_ro_13_9.1) (State.isArrayOf_alike hZ.alike Ar_ro_13_9.2.1) (g := (mkF m 13 #[.val (.ref a1), .val (.int p2), .val (.ref a3), .val (.ref ro), .val (.int (2 : Int32))] [(.ref ro), (.int (2 : Int32))])) rfl rfl (hb hby d7_13) _ ?_
    rw [len_of S_ro_13_9 N_ro_13_9]
    refine XS.icmpNo X8.here hx rfl (hb hby d7_14) rfl (tlt (by decide : (2 : Int32) < (4 : Int32))).2.1 ?_
    refine XS.aloadN X8.here hx rfl (hb hby d7_17) rfl rfl ?_
    refine XS.aloadN X8.here hx rfl (hb hby d7_18) rfl rfl ?_
    refine XS.iload X8.here hx rfl (hb hby d7_19) rfl ?_
    refine X8.laload hx (j := (2 : Int32)) (v := (.long (2 : Int64))) (by rw [e8]; exact Ar_ro_21_10.1) (State.isArrayOf_alike hZ.alike Ar_ro_21_10.2.1) Ar_ro_21_10.2.2 hin_ro_21_10 (H_ro_21_10.at hin_ro_21_10 rfl) (g := (mkF m 21 #[.val (.ref a1), .val (.int p2), .val (.ref a3), .val (.ref ro), .val (.int (2 : Int32))] [(.int (2 : Int32)), (.ref ro), (.ref a3)])) rfl rfl (hb hby d7_21) _ ?_
    refine XS.l2i X8.here hx rfl (hb hby d7_22) rfl ?_
    refine own_dup2 X8.here hx rfl (hb hby d7_23) rfl rfl rfl ?_
    refine X8.daload hx (j := (2 : Int32)) (v := (.double ed2)) (by rw [e8]; exact Ar_a3_24_11.1) (State.isArrayOf_alike hZ.alike Ar_a3_24_11.2.1) Ar_a3_24_11.2.2 hin_a3_24_11 (H_a3_24_11.at hin_a3_24_11 rfl) (g := (mkF m 24 #[.val (.ref a1), .val (.int p2), .val (.ref a3), .val (.ref ro), .val (.int (2 : Int32))] [(.int (2 : Int32)), (.ref a3), (.int (2 : Int32)), (.ref a3)])) rfl rfl (hb hby d7_24) _ ?_
    refine XS.aloadN X8.here hx rfl (hb hby d7_25) rfl rfl ?_
    refine XS.iload X8.here hx rfl (hb hby d7_26) rfl ?_
    refine XS.iconst X8.here hx rfl (hb hby d7_28) ?_
    show Steps p.tables e below (T8.setTop (mkF m 29 #[.val (.ref a1), .val (.int p2), .val (.ref a3), .val (.ref ro), .val (.int (2 : Int32))] [(.int (1 : Int32)), (.int (2 : Int32)), (.ref ro), (.double ed2), (.int (2 : Int32)), (.ref a3)])) _
    refine XS.iadd X8.here hx rfl (hb hby d7_29) rfl ?_
    refine X8.laload hx (j := (3 : Int32)) (v := (.long qc)) (by rw [e8]; exact Ar_ro_30_12.1) (State.isArrayOf_alike hZ.alike Ar_ro_30_12.2.1) Ar_ro_30_12.2.2 hin_ro_30_12 (H_ro_30_12.at hin_ro_30_12 rfl) (g := (mkF m 30 #[.val (.ref a1), .val (.int p2), .val (.ref a3), .val (.ref ro), .val (.int (2 : Int32))] [(.int (3 : Int32)), (.ref ro), (.double ed2), (.int (2 : Int32)), (.ref a3)])) rfl rfl (hb hby d7_30) _ ?_
    refine own_l2d X8.here hx rfl (hb hby d7_31) rfl ?_
    refine own_dadd X8.here hx rfl (hb hby d7_32) rfl hn2 ?_
    show Steps p.tables e below (T8.setTop (mkF m 33 #[.val (.ref a1), .val (.int p2), .val (.ref a3), .val (.ref ro), .val (.int (2 : Int32))] [(.double (FP.dadd ed2 (FP.l2d qc))), (.int (2 : Int32)), (.ref a3)])) _
    refine st14 _ ?_
    refine XS.iinc X14.here hx rfl (hb hby d7_34) rfl (l' := #[.val (.ref a1), .val (.int p2), .val (.ref a3), .val (.ref ro), .val (.int (4 : Int32))]) rfl ?_
    refine XS.goto X14.here hx rfl (pc0 := 37) (pc' := 10) rfl (hb hby d7_37) (by decide) (by decide) ?_
    refine XS.iload X14.here hx rfl (hb hby d7_10) rfl ?_
    refine XS.aloadN X14.here hx rfl (hb hby d7_12) rfl rfl ?_
    refine X14.arraylength hx (by rw [e14]; exact Ar_ro_13_15.1) (State.isArrayOf_alike hZ.alike Ar_ro_13_15.2.1) (g := (mkF m 13 #[.val (.ref a1), .val (.int p2), .val (.ref a3), .val (.ref ro), .val (.int (4 : Int32))] [(.ref ro), (.int (4 : Int32))])) rfl rfl (hb hby d7_13) _ ?_
    rw [len_of S_ro_13_15 N_ro_13_15]
    refine XS.icmpYes X14.here hx rfl (pc0 := 14) (pc' := 40) rfl (hb hby d7_14) rfl (flt (by decide : ¬ ((4 : Int32) < (4 : Int32)))).2.1 (by decide) (by decide) ?_
    show Steps p.tables e below (T14.setTop (mkF m 40 #[.val (.ref a1), .val (.int p2), .val (.ref a3), .val (.ref ro), .val (.int (4 : Int32))] [])) _
    exact X14.returnOut hx Bd.returns (hb hby d7_40) hr
  · show Q_ato_6 Z a1 p2 a3 rr kr ro sg ka qa qb qc qd kd ed0 ed1 ed2 ed3 h0 n0 _ T14.heap _
    rw [e14]
    exact ⟨rfl, N14, K14, V_a3_33_13⟩
theorem ef_ato_7 (m : MethodId) (a1 : Addr) (p2 : Int32) (a3 : Addr) : entryFrame m #[(.ref a1), (.int p2), (.ref a3)] 5 = (mkF m 0 #[.val (.ref a1), .val (.int p2), .val (.ref a3), .unset, .unset] []) := by first | (simp [entryFrame, mkF, argsToLocals, Value.category]; done) | rfl
def Q_ato_7 (Z : State) (a1 : Addr) (p2 : Int32) (a3 : Addr) (rr : Addr) (kr : ClassId) (ro : Addr) (sg : Addr) (ka : ClassId) (qa : Int64) (qb : Int64) (qc : Int64) (qd : Int64) (kd : ClassId) (ed0 : UInt64) (ed1 : UInt64) (ed2 : UInt64) (ed3 : UInt64) (h0 : Heap) (n0 : Nat) (v : Option Value) (h : Heap) (L : List Loc) : Prop := v = none ∧ Fr n0 L ∧ Keep h0 h [a3] ∧ Arv Z h a3 kd .double (4 : Int32) [(.double (FP.dadd ed0 (FP.l2d qa))), (.double (FP.dadd ed1 (FP.l2d qb))), (.double (FP.dadd ed2 (FP.l2d qc))), (.double ed3)] (.double (0 : UInt64))
set_option maxRecDepth 65536 in
set_option maxHeartbeats 40000000 in
theorem rm_ato_7 (l : Launch) (Z : State) (a0 : Array Value) (hw : ∀ d ∈ tables_1, d.before a0 Z = true) (ws : List Jvm.Cond) (a1 : Addr) (p2 : Int32) (a3 : Addr) (rr : Addr) (kr : ClassId) (ro : Addr) (sg : Addr) (ka : ClassId) (qa : Int64) (qb : Int64) (qc : Int64) (qd : Int64) (kd : ClassId) (ed0 : UInt64) (ed1 : UInt64) (ed2 : UInt64) (ed3 : UInt64) (h0 : Heap) (n0 : Nat) (Z0 : n0 ≤ h0.size) (F_rows : Fld Z h0 a1 "com/example/chartlight/chartlight/label/WeightRows" "_rows" "[[J" (.ref rr)) (V_rr : Arv Z h0 rr kr (.array .long) (2 : Int32) (own_pair p2 (.ref ro) (.ref sg)) .null) (V_ro : Arv Z h0 ro ka .long (6 : Int32) [(.long (0 : Int64)), (.long qa), (.long (1 : Int64)), (.long qb), (.long (2 : Int64)), (.long qc)] (.long (0 : Int64))) (V_a3 : Arv Z h0 a3 kd .double (4 : Int32) [(.double ed0), (.double ed1), (.double ed2), (.double ed3)] (.double (0 : UInt64))) (g_a3 : n0 ≤ a3) (hri : p2 = (0 : Int32) ∨ p2 = (1 : Int32)) (hne_s : ro ≠ a3) (hn0 : FP.dadd ed0 (FP.l2d qa) &&& 0x7fffffffffffffff ≤ 0x7ff0000000000000) (hn1 : FP.dadd ed1 (FP.l2d qb) &&& 0x7fffffffffffffff ≤ 0x7ff0000000000000) (hn2 : FP.dadd ed2 (FP.l2d qc) &&& 0x7fffffffffffffff ≤ 0x7ff0000000000000) :
    MetFree l (⟨"com/example/chartlight/chartlight/label/WeightRows", "addTo", "(I[D)V"⟩ : MethodName) (head1 (Jvm.Cond.code (⟨"com/example/chartlight/chartlight/label/WeightRows", "addTo", "(I[D)V"⟩ : MethodName) prog_58_method_8_code 5 none :: ws) ({ frames := 0, cells := 0, slots := 0, locals := 0 } : Room)) (fun a U => a = #[(.ref a1), (.int p2), (.ref a3)] ∧ Z.Warmed39 U.vm ∧ U.heap = h0) (fun _ _ _ _ _ => True) (fun _ U o U' => ∃ v L, o = .returned v ∧ Q_ato_7 Z a1 p2 a3 rr kr ro sg ka qa qb qc qd kd ed0 ed1 ed2 ed3 h0 n0 v U'.heap L ∧ FrameEnd U o U' L ({ frames := 0, cells := 0, slots := 0, locals := 0 } : Room).cells ({ frames := 0, cells := 0, slots := 0, locals := 0 } : Room).slots) := by
  refine MetFree.of_bodySF (plainFor_of_name pn0) hisR ?_
  intro p e s m args below meth c s₁ Bd hml0 hP hK
  obtain ⟨rfl, hZ, hh⟩ := hP
  have hx := Bd.exec
  have hby := Bd.bytes
  have hml : c.maxLocals = 5 := hml0
  have hown : s.vm.findClass "com/example/chartlight/chartlight/label/WeightRows" = some m.cls := findClass_of_methodNamed Bd.named
  have hnm := (name_of_methodNamed Bd.named Bd.method).1
  have X0 : Stand p l e ({ frames := 0, cells := 0, slots := 0, locals := 0 } : Room) s m #[(.ref a1), (.int p2), (.ref a3)] below meth c s₁ [] 0 0 := Stand.of_body Bd
  have e0 : s₁.heap = h0 := by rw [← hh, Bd.state]; rfl
  have N0 := Fr.nil n0
  have pre0 : ∀ t, Steps p.tables e below (s₁.setTop (mkF m 0 #[.val (.ref a1), .val (.int p2), .val (.ref a3), .unset, .unset] [])) t → Steps p.tables e below (s₁.setTop (entryFrame m #[(.ref a1), (.int p2), (.ref a3)] 5)) t := fun t k => castTop (ef_ato_7 m a1 p2 a3) k
  obtain ⟨T1, X1, e1, st1⟩ := getF X0 hx hZ hown (host := "") (Or.inl (hw _ (List.mem_of_getElem? (i := 11) rfl))) Via.refl e0 F_rows (g := (mkF m 1 #[.val (.ref a1), .val (.int p2), .val (.ref a3), .unset, .unset] [(.ref a1)])) rfl rfl (hb hby d7_1)
  obtain ⟨cl_rr_5_2, Ar_rr_5_2, q_rr_5_2, S_rr_5_2, N_rr_5_2, H_rr_5_2, G_rr_5_2⟩ := id V_rr
  have hin_rr_5_2 : ¬ (p2 < 0 ∨ cl_rr_5_2.slots.size ≤ (p2 : Int32).toNatClampNeg) := by rcases hri with rfl | rfl <;> exact inb_of S_rr_5_2 ⟨by decide, by decide⟩
  obtain ⟨cl_ro_13_3, Ar_ro_13_3, -, S_ro_13_3, N_ro_13_3, -, -⟩ := id V_ro
  obtain ⟨cl_ro_21_4, Ar_ro_21_4, q_ro_21_4, S_ro_21_4, N_ro_21_4, H_ro_21_4, G_ro_21_4⟩ := id V_ro
  have hin_ro_21_4 : ¬ ((0 : Int32) < 0 ∨ cl_ro_21_4.slots.size ≤ ((0 : Int32) : Int32).toNatClampNeg) := inb_of S_ro_21_4 ⟨by decide, by decide⟩
  obtain ⟨cl_a3_24_5, Ar_a3_24_5, q_a3_24_5, S_a3_24_5, N_a3_24_5, H_a3_24_5, G_a3_24_5⟩ := id V_a3
  have hin_a3_24_5 : ¬ ((0 : Int32) < 0 ∨ cl_a3_24_5.slots.size ≤ ((0 : Int32) : Int32).toNatClampNeg) := inb_of S_a3_24_5 ⟨by decide, by decide⟩
  obtain ⟨cl_ro_30_6, Ar_ro_30_6, q_ro_30_6, S_ro_30_6, N_ro_30_6, H_ro_30_6, G_ro_30_6⟩ := id V_ro
  have hin_ro_30_6 : ¬ ((1 : Int32) < 0 ∨ cl_ro_30_6.slots.size ≤ ((1 : Int32) : Int32).toNatClampNeg) := inb_of S_ro_30_6 ⟨by decide, by decide⟩
  obtain ⟨cl_a3_33_7, Ar_a3_33_7, q_a3_33_7, S_a3_33_7, N_a3_33_7, H_a3_33_7, G_a3_33_7⟩ := id V_a3
  have hin_a3_33_7 : ¬ ((0 : Int32) < 0 ∨ cl_a3_33_7.slots.size ≤ ((0 : Int32) : Int32).toNatClampNeg) := inb_of S_a3_33_7 ⟨by decide, by decide⟩
  obtain ⟨T8, h8, X8, e8, W8, st8⟩ := stD X1 hx hZ e1 Ar_a3_33_7 (j := (0 : Int32)) hin_a3_33_7 (g := (mkF m 33 #[.val (.ref a1), .val (.int p2), .val (.ref a3), .val (.ref ro), .val (.int (0 : Int32))] [(.double (FP.dadd ed0 (FP.l2d qa))), (.int (0 : Int32)), (.ref a3)])) rfl rfl (hb hby d7_33)
  have V_a3_33_7 : Arv Z h8 a3 kd .double (4 : Int32) [(.double (FP.dadd ed0 (FP.l2d qa))), (.double ed1), (.double ed2), (.double ed3)] (.double (0 : UInt64)) := Arv.set Ar_a3_33_7 q_a3_33_7 S_a3_33_7 N_a3_33_7 H_a3_33_7 G_a3_33_7 rfl W8 0 rfl (Nat.le_of_ble_eq_true rfl)
  have K8 : Keep h0 h8 [a3] := (Keep.refl h0 [a3]).wr W8 (Or.inl (List.mem_of_getElem? (i := 0) rfl))
  have N8 := Fr.snoc X8 N0 g_a3
  obtain ⟨cl_ro_13_9, Ar_ro_13_9, -, S_ro_13_9, N_ro_13_9, -, -⟩ := id (V_ro.other W8 hne_s)
  obtain ⟨cl_ro_21_10, Ar_ro_21_10, q_ro_21_10, S_ro_21_10, N_ro_21_10, H_ro_21_10, G_ro_21_10⟩ := id (V_ro.other W8 hne_s)
  have hin_ro_21_10 : ¬ ((2 : Int32) < 0 ∨ cl_ro_21_10.slots.size ≤ ((2 : Int32) : Int32).toNatClampNeg) := inb_of S_ro_21_10 ⟨by decide, by decide⟩
  obtain ⟨cl_a3_24_11, Ar_a3_24_11, q_a3_24_11, S_a3_24_11, N_a3_24_11, H_a3_24_11, G_a3_24_11⟩ := id V_a3_33_7
  have hin_a3_24_11 : ¬ ((1 : Int32) < 0 ∨ cl_a3_24_11.slots.size ≤ ((1 : Int32) : Int32).toNatClampNeg) := inb_of S_a3_24_11 ⟨by decide, by decide⟩
  obtain ⟨cl_ro_30_12, Ar_ro_30_12, q_ro_30_12, S_ro_30_12, N_ro_30_12, H_ro_30_12, G_ro_30_12⟩ := id (V_ro.other W8 hne_s)
  have hin_ro_30_12 : ¬ ((3 : Int32) < 0 ∨ cl_ro_30_12.slots.size ≤ ((3 : Int32) : Int32).toNatClampNeg) := inb_of S_ro_30_12 ⟨by decide, by decide⟩
  obtain ⟨cl_a3_33_13, Ar_a3_33_13, q_a3_33_13, S_a3_33_13, N_a3_33_13, H_a3_33_13, G_a3_33_13⟩ := id V_a3_33_7
  have hin_a3_33_13 : ¬ ((1 : Int32) < 0 ∨ cl_a3_33_13.slots.size ≤ ((1 : Int32) : Int32).toNatClampNeg) := inb_of S_a3_33_13 ⟨by decide, by decide⟩
  obtain ⟨T14, h14, X14, e14, W14, st14⟩ := stD X8 hx hZ e8 Ar_a3_33_13 (j := (1 : Int32)) hin_a3_33_13 (g := (mkF m 33 #[.val (.ref a1), .val (.int p2), .val (.ref a3), .val (.ref ro), .val (.int (2 : Int32))] [(.double (FP.dadd ed1 (FP.l2d qb))), (.int (1 : Int32)), (.ref a3)])) rfl rfl (hb hby d7_33)
  have V_a3_33_13 : Arv Z h14 a3 kd .double (4 : Int32) [(.double (FP.dadd ed0 (FP.l2d qa))), (.double (FP.dadd ed1 (FP.l2d qb))), (.double ed2), (.double ed3)] (.double (0 : UInt64)) := Arv.set Ar_a3_33_13 q_a3_33_13 S_a3_33_13 N_a3_33_13 H_a3_33_13 G_a3_33_13 rfl W14 1 rfl (Nat.le_of_ble_eq_true rfl)
  have K14 : Keep h0 h14 [a3] := K8.wr W14 (Or.inl (List.mem_of_getElem? (i := 0) rfl))
  have N14 := Fr.snoc X14 N8 g_a3
  obtain ⟨cl_ro_13_15, Ar_ro_13_15, -, S_ro_13_15, N_ro_13_15, -, -⟩ := id ((V_ro.other W8 hne_s).other W14 hne_s)
  obtain ⟨cl_ro_21_16, Ar_ro_21_16, q_ro_21_16, S_ro_21_16, N_ro_21_16, H_ro_21_16, G_ro_21_16⟩ := id ((V_ro.other W8 hne_s).other W14 hne_s)
  have hin_ro_21_16 : ¬ ((4 : Int32) < 0 ∨ cl_ro_21_16.slots.size ≤ ((4 : Int32) : Int32).toNatClampNeg) := inb_of S_ro_21_16 ⟨by decide, by decide⟩
  obtain ⟨cl_a3_24_17, Ar_a3_24_17, q_a3_24_17, S_a3_24_17, N_a3_24_17, H_a3_24_17, G_a3_24_17⟩ := id V_a3_33_13
  have hin_a3_24_17 : ¬ ((2 : Int32) < 0 ∨ cl_a3_24_17.slots.size ≤ ((2 : Int32) : Int32).toNatClampNeg) := inb_of S_a3_24_17 ⟨by decide, by decide⟩
  obtain ⟨cl_ro_30_18, Ar_ro_30_18, q_ro_30_18, S_ro_30_18, N_ro_30_18, H_ro_30_18, G_ro_30_18⟩ := id ((V_ro.other W8 hne_s).other W14 hne_s)
  have hin_ro_30_18 : ¬ ((5 : Int32) < 0 ∨ cl_ro_30_18.slots.size ≤ ((5 : Int32) : Int32).toNatClampNeg) := inb_of S_ro_30_18 ⟨by decide, by decide⟩
  obtain ⟨cl_a3_33_19, Ar_a3_33_19, q_a3_33_19, S_a3_33_19, N_a3_33_19, H_a3_33_19, G_a3_33_19⟩ := id V_a3_33_13
  have hin_a3_33_19 : ¬ ((2 : Int32) < 0 ∨ cl_a3_33_19.slots.size ≤ ((2 : Int32) : Int32).toNatClampNeg) := inb_of S_a3_33_19 ⟨by decide, by decide⟩
  obtain ⟨T20, h20, X20, e20, W20, st20⟩ := stD X14 hx hZ e14 Ar_a3_33_19 (j := (2 : Int32)) hin_a3_33_19 (g := (mkF m 33 #[.val (.ref a1), .val (.int p2), .val (.ref a3), .val (.ref ro), .val (.int (4 : Int32))] [(.double (FP.dadd ed2 (FP.l2d qc))), (.int (2 : Int32)), (.ref a3)])) rfl rfl (hb hby d7_33)
  have V_a3_33_19 : Arv Z h20 a3 kd .double (4 : Int32) [(.double (FP.dadd ed0 (FP.l2d qa))), (.double (FP.dadd ed1 (FP.l2d qb))), (.double (FP.dadd ed2 (FP.l2d qc))), (.double ed3)] (.double (0 : UInt64)) := Arv.set Ar_a3_33_19 q_a3_33_19 S_a3_33_19 N_a3_33_19 H_a3_33_19 G_a3_33_19 rfl W20 2 rfl (Nat.le_of_ble_eq_true rfl)
  have K20 : Keep h0 h20 [a3] := K14.wr W20 (Or.inl (List.mem_of_getElem? (i := 0) rfl))
  have N20 := Fr.snoc X20 N14 g_a3
  obtain ⟨cl_ro_13_21, Ar_ro_13_21, -, S_ro_13_21, N_ro_13_21, -, -⟩ := id (((V_ro.other W8 hne_s).other W14 hne_s).other W20 hne_s)
  obtain ⟨fs, hr, hrun, hended, hW, hsame⟩ := X20.leave (v := none) (fun _ => rfl)
  refine ⟨_, _, pre0 _ ?_, hrun, hended, _, _, rfl, ?_, ⟨_, rfl⟩, hW, hsame.mono (by decide) (by decide)⟩
  · show Steps p.tables e below (s₁.setTop (mkF m 0 #[.val (.ref a1), .val (.int p2), .val (.ref a3), .unset, .unset] [])) _
    refine XS.aloadN X0.here hx rfl (hb hby d7_0) rfl rfl ?_
    show Steps p.tables e below (s₁.setTop (mkF m 1 #[.val (.ref a1), .val (.int p2), .val (.ref a3), .unset, .unset] [(.ref a1)])) _
    refine st1 _ ?_
    refine XS.iloadN X1.here hx rfl (hb hby d7_4) rfl ?_
    refine X1.aaload hx (j := p2) (v := (.ref ro)) (by rw [e1]; exact Ar_rr_5_2.1) (State.isArrayOf_alike hZ.alike Ar_rr_5_2.2.1) rfl Ar_rr_5_2.2.2 hin_rr_5_2 (by rcases hri with rfl | rfl <;> exact H_rr_5_2.at hin_rr_5_2 rfl) (g := (mkF m 5 #[.val (.ref a1), .val (.int p2), .val (.ref a3), .unset, .unset] [(.int p2), (.ref rr)])) rfl rfl (hb hby d7_5) _ ?_
    refine XS.astoreN X1.here hx rfl (hb hby d7_6) rfl rfl (l' := #[.val (.ref a1), .val (.int p2), .val (.ref a3), .val (.ref ro), .unset]) rfl ?_
    refine XS.iconst X1.here hx rfl (hb hby d7_7) ?_
    refine XS.istore X1.here hx rfl (hb hby d7_8) rfl (l' := #[.val (.ref a1), .val (.int p2), .val (.ref a3), .val (.ref ro), .val (.int (0 : Int32))]) rfl ?_
    refine XS.iload X1.here hx rfl (hb hby d7_10) rfl ?_
    refine XS.aloadN X1.here hx rfl (hb hby d7_12) rfl rfl ?_
    refine X1.arraylength hx (by rw [e1]; exact Ar_ro_13_3.1) (State.isArrayOf_alike hZ.alike Ar_ro_13_3.2.1) (g := (mkF m 13 #[.val (.ref a1), .val (.int p2), .val (.ref a3), .val (.ref ro), .val (.int (0 : Int32))] [(.ref ro), (.int (0 : Int32))])) rfl rfl (hb hby d7_13) _ ?_
    rw [len_of S_ro_13_3 N_ro_13_3]
    refine XS.icmpNo X1.here hx rfl (hb hby d7_14) rfl (tlt (by decide : (0 : Int32) < (6 : Int32))).2.1 ?_
    refine XS.aloadN X1.here hx rfl (hb hby d7_17) rfl rfl ?_
    refine XS.aloadN X1.here hx rfl (hb hby d7_18) rfl rfl ?_
    refine XS.iload X1.here hx rfl (hb hby d7_19) rfl ?_
    refine X1.laload hx (j := (0 : Int32)) (v := (.long (0 : Int64))) (by rw [e1]; exact Ar_ro_21_4.1) (State.isArrayOf_alike hZ.alike Ar_ro_21_4.2.1) Ar_ro_21_4.2.2 hin_ro_21_4 (H_ro_21_4.at hin_ro_21_4 rfl) (g := (mkF m 21 #[.val (.ref a1), .val (.int p2), .val (.ref a3), .val (.ref ro), .val (.int (0 : Int32))] [(.int (0 : Int32)), (.ref ro), (.ref a3)])) rfl rfl (hb hby d7_21) _ ?_
    refine XS.l2i X1.here hx rfl (hb hby d7_22) rfl ?_
    refine own_dup2 X1.here hx rfl (hb hby d7_23) rfl rfl rfl ?_
    refine X1.daload hx (j := (0 : Int32)) (v := (.double ed0)) (by rw [e1]; exact Ar_a3_24_5.1) (State.isArrayOf_alike hZ.alike Ar_a3_24_5.2.1) Ar_a3_24_5.2.2 hin_a3_24_5 (H_a3_24_5.at hin_a3_24_5 rfl) (g := (mkF m 24 #[.val (.ref a1), .val (.int p2), .val (.ref a3), .val (.ref ro), .val (.int (0 : Int32))] [(.int (0 : Int32)), (.ref a3), (.int (0 : Int32)), (.ref a3)])) rfl rfl (hb hby d7_24) _ ?_
    refine XS.aloadN X1.here hx rfl (hb hby d7_25) rfl rfl ?_
    refine XS.iload X1.here hx rfl (hb hby d7_26) rfl ?_
    refine XS.iconst X1.here hx rfl (hb hby d7_28) ?_
    refine XS.iadd X1.here hx rfl (hb hby d7_29) rfl ?_
    refine X1.laload hx (j := (1 : Int32)) (v := (.long qa)) (by rw [e1]; exact Ar_ro_30_6.1) (State.isArrayOf_alike hZ.alike Ar_ro_30_6.2.1) Ar_ro_30_6.2.2 hin_ro_30_6 (H_ro_30_6.at hin_ro_30_6 rfl) (g := (mkF m 30 #[.val (.ref a1), .val (.int p2), .val (.ref a3), .val (.ref ro), .val (.int (0 : Int32))] [(.int (1 : Int32)), (.ref ro), (.double ed0), (.int (0 : Int32)), (.ref a3)])) rfl rfl (hb hby d7_30) _ ?_
    refine own_l2d X1.here hx rfl (hb hby d7_31) rfl ?_
    refine own_dadd X1.here hx rfl (hb hby d7_32) rfl hn0 ?_
    show Steps p.tables e below (T1.setTop (mkF m 33 #[.val (.ref a1), .val (.int p2), .val (.ref a3), .val (.ref ro), .val (.int (0 : Int32))] [(.double (FP.dadd ed0 (FP.l2d qa))), (.int (0 : Int32)), (.ref a3)])) _
    refine st8 _ ?_
    refine XS.iinc X8.here hx rfl (hb hby d7_34) rfl (l' := #[.val (.ref a1), .val (.int p2), .val (.ref a3), .val (.ref ro), .val (.int (2 : Int32))]) rfl ?_
    refine XS.goto X8.here hx rfl (pc0 := 37) (pc' := 10) rfl (hb hby d7_37) (by decide) (by decide) ?_
    refine XS.iload X8.here hx rfl (hb hby d7_10) rfl ?_
    refine XS.aloadN X8.here hx rfl (hb hby d7_12) rfl rfl ?_
    refine X8.arraylength hx (by rw [e8]; exact Ar_ro_13_9.1) (State.isArrayOf_alike hZ.alike Ar_ro_13_9.2.1) (g := (mkF m 13 #[.val (.ref a1), .val (.int p2), .val (.ref a3), .val (.ref ro), .val (.int (2 : Int32))] [(.ref ro), (.int (2 : Int32))])) rfl rfl (hb hby d7_13) _ ?_
    rw [len_of S_ro_13_9 N_ro_13_9]
    refine XS.icmpNo X8.here hx rfl (hb hby d7_14) rfl (tlt (by decide : (2 : Int32) < (6 : Int32))).2.1 ?_
    refine XS.aloadN X8.here hx rfl (hb hby d7_17) rfl rfl ?_
    refine XS.aloadN X8.here hx rfl (hb hby d7_18) rfl rfl ?_
    refine XS.iload X8.here hx rfl (hb hby d7_19) rfl ?_
    refine X8.laload hx (j := (2 : Int32)) (v := (.long (1 : Int64))) (by rw [e8]; exact Ar_ro_21_10.1) (State.isArrayOf_alike hZ.alike Ar_ro_21_10.2.1) Ar_ro_21_10.2.2 hin_ro_21_10 (H_ro_21_10.at hin_ro_21_10 rfl) (g := (mkF m 21 #[.val (.ref a1), .val (.int p2), .val (.ref a3), .val (.ref ro), .val (.int (2 : Int32))] [(.int (2 : Int32)), (.ref ro), (.ref a3)])) rfl rfl (hb hby d7_21) _ ?_
    refine XS.l2i X8.here hx rfl (hb hby d7_22) rfl ?_
    refine own_dup2 X8.here hx rfl (hb hby d7_23) rfl rfl rfl ?_
    refine X8.daload hx (j := (1 : Int32)) (v := (.double ed1)) (by rw [e8]; exact Ar_a3_24_11.1) (State.isArrayOf_alike hZ.alike Ar_a3_24_11.2.1) Ar_a3_24_11.2.2 hin_a3_24_11 (H_a3_24_11.at hin_a3_24_11 rfl) (g := (mkF m 24 #[.val (.ref a1), .val (.int p2), .val (.ref a3), .val (.ref ro), .val (.int (2 : Int32))] [(.int (1 : Int32)), (.ref a3), (.int (1 : Int32)), (.ref a3)])) rfl rfl (hb hby d7_24) _ ?_
    refine XS.aloadN X8.here hx rfl (hb hby d7_25) rfl rfl ?_
    refine XS.iload X8.here hx rfl (hb hby d7_26) rfl ?_
    refine XS.iconst X8.here hx rfl (hb hby d7_28) ?_
    show Steps p.tables e below (T8.setTop (mkF m 29 #[.val (.ref a1), .val (.int p2), .val (.ref a3), .val (.ref ro), .val (.int (2 : Int32))] [(.int (1 : Int32)), (.int (2 : Int32)), (.ref ro), (.double ed1), (.int (1 : Int32)), (.ref a3)])) _
    refine XS.iadd X8.here hx rfl (hb hby d7_29) rfl ?_
    refine X8.laload hx (j := (3 : Int32)) (v := (.long qb)) (by rw [e8]; exact Ar_ro_30_12.1) (State.isArrayOf_alike hZ.alike Ar_ro_30_12.2.1) Ar_ro_30_12.2.2 hin_ro_30_12 (H_ro_30_12.at hin_ro_30_12 rfl) (g := (mkF m 30 #[.val (.ref a1), .val (.int p2), .val (.ref a3), .val (.ref ro), .val (.int (2 : Int32))] [(.int (3 : Int32)), (.ref ro), (.double ed1), (.int (1 : Int32)), (.ref a3)])) rfl rfl (hb hby d7_30) _ ?_
    refine own_l2d X8.here hx rfl (hb hby d7_31) rfl ?_
    refine own_dadd X8.here hx rfl (hb hby d7_32) rfl hn1 ?_
    show Steps p.tables e below (T8.setTop (mkF m 33 #[.val (.ref a1), .val (.int p2), .val (.ref a3), .val (.ref ro), .val (.int (2 : Int32))] [(.double (FP.dadd ed1 (FP.l2d qb))), (.int (1 : Int32)), (.ref a3)])) _
    refine st14 _ ?_
    refine XS.iinc X14.here hx rfl (hb hby d7_34) rfl (l' := #[.val (.ref a1), .val (.int p2), .val (.ref a3), .val (.ref ro), .val (.int (4 : Int32))]) rfl ?_
    refine XS.goto X14.here hx rfl (pc0 := 37) (pc' := 10) rfl (hb hby d7_37) (by decide) (by decide) ?_
    refine XS.iload X14.here hx rfl (hb hby d7_10) rfl ?_
    refine XS.aloadN X14.here hx rfl (hb hby d7_12) rfl rfl ?_
    refine X14.arraylength hx (by rw [e14]; exact Ar_ro_13_15.1) (State.isArrayOf_alike hZ.alike Ar_ro_13_15.2.1) (g := (mkF m 13 #[.val (.ref a1), .val (.int p2), .val (.ref a3), .val (.ref ro), .val (.int (4 : Int32))] [(.ref ro), (.int (4 : Int32))])) rfl rfl (hb hby d7_13) _ ?_
    rw [len_of S_ro_13_15 N_ro_13_15]
    refine XS.icmpNo X14.here hx rfl (hb hby d7_14) rfl (tlt (by decide : (4 : Int32) < (6 : Int32))).2.1 ?_
    refine XS.aloadN X14.here hx rfl (hb hby d7_17) rfl rfl ?_
    refine XS.aloadN X14.here hx rfl (hb hby d7_18) rfl rfl ?_
    refine XS.iload X14.here hx rfl (hb hby d7_19) rfl ?_
    refine X14.laload hx (j := (4 : Int32)) (v := (.long (2 : Int64))) (by rw [e14]; exact Ar_ro_21_16.1) (State.isArrayOf_alike hZ.alike Ar_ro_21_16.2.1) Ar_ro_21_16.2.2 hin_ro_21_16 (H_ro_21_16.at hin_ro_21_16 rfl) (g := (mkF m 21 #[.val (.ref a1), .val (.int p2), .val (.ref a3), .val (.ref ro), .val (.int (4 : Int32))] [(.int (4 : Int32)), (.ref ro), (.ref a3)])) rfl rfl (hb hby d7_21) _ ?_
    refine XS.l2i X14.here hx rfl (hb hby d7_22) rfl ?_
    refine own_dup2 X14.here hx rfl (hb hby d7_23) rfl rfl rfl ?_
    refine X14.daload hx (j := (2 : Int32)) (v := (.double ed2)) (by rw [e14]; exact Ar_a3_24_17.1) (State.isArrayOf_alike hZ.alike Ar_a3_24_17.2.1) Ar_a3_24_17.2.2 hin_a3_24_17 (H_a3_24_17.at hin_a3_24_17 rfl) (g := (mkF m 24 #[.val (.ref a1), .val (.int p2), .val (.ref a3), .val (.ref ro), .val (.int (4 : Int32))] [(.int (2 : Int32)), (.ref a3), (.int (2 : Int32)), (.ref a3)])) rfl rfl (hb hby d7_24) _ ?_
    refine XS.aloadN X14.here hx rfl (hb hby d7_25) rfl rfl ?_
    refine XS.iload X14.here hx rfl (hb hby d7_26) rfl ?_
    refine XS.iconst X14.here hx rfl (hb hby d7_28) ?_
    refine XS.iadd X14.here hx rfl (hb hby d7_29) rfl ?_
    refine X14.laload hx (j := (5 : Int32)) (v := (.long qc)) (by rw [e14]; exact Ar_ro_30_18.1) (State.isArrayOf_alike hZ.alike Ar_ro_30_18.2.1) Ar_ro_30_18.2.2 hin_ro_30_18 (H_ro_30_18.at hin_ro_30_18 rfl) (g := (mkF m 30 #[.val (.ref a1), .val (.int p2), .val (.ref a3), .val (.ref ro), .val (.int (4 : Int32))] [(.int (5 : Int32)), (.ref ro), (.double ed2), (.int (2 : Int32)), (.ref a3)])) rfl rfl (hb hby d7_30) _ ?_
    refine own_l2d X14.here hx rfl (hb hby d7_31) rfl ?_
    refine own_dadd X14.here hx rfl (hb hby d7_32) rfl hn2 ?_
    show Steps p.tables e below (T14.setTop (mkF m 33 #[.val (.ref a1), .val (.int p2), .val (.ref a3), .val (.ref ro), .val (.int (4 : Int32))] [(.double (FP.dadd ed2 (FP.l2d qc))), (.int (2 : Int32)), (.ref a3)])) _
    refine st20 _ ?_
    refine XS.iinc X20.here hx rfl (hb hby d7_34) rfl (l' := #[.val (.ref a1), .val (.int p2), .val (.ref a3), .val (.ref ro), .val (.int (6 : Int32))]) rfl ?_
    refine XS.goto X20.here hx rfl (pc0 := 37) (pc' := 10) rfl (hb hby d7_37) (by decide) (by decide) ?_
    refine XS.iload X20.here hx rfl (hb hby d7_10) rfl ?_
    refine XS.aloadN X20.here hx rfl (hb hby d7_12) rfl rfl ?_
    refine X20.arraylength hx (by rw [e20]; exact Ar_ro_13_21.1) (State.isArrayOf_alike hZ.alike Ar_ro_13_21.2.1) (g := (mkF m 13 #[.val (.ref a1), .val (.int p2), .val (.ref a3), .val (.ref ro), .val (.int (6 : Int32))] [(.ref ro), (.int (6 : Int32))])) rfl rfl (hb hby d7_13) _ ?_
    rw [len_of S_ro_13_21 N_ro_13_21]
    refine XS.icmpYes X20.here hx rfl (pc0 := 14) (pc' := 40) rfl (hb hby d7_14) rfl (flt (by decide : ¬ ((6 : Int32) < (6 : Int32)))).2.1 (by decide) (by decide) ?_
    show Steps p.tables e below (T20.setTop (mkF m 40 #[.val (.ref a1), .val (.int p2), .val (.ref a3), .val (.ref ro), .val (.int (6 : Int32))] [])) _
    exact X20.returnOut hx Bd.returns (hb hby d7_40) hr
  · show Q_ato_7 Z a1 p2 a3 rr kr ro sg ka qa qb qc qd kd ed0 ed1 ed2 ed3 h0 n0 _ T20.heap _
    rw [e20]
    exact ⟨rfl, N20, K20, V_a3_33_19⟩
theorem ef_ato_8 (m : MethodId) (a1 : Addr) (p2 : Int32) (a3 : Addr) : entryFrame m #[(.ref a1), (.int p2), (.ref a3)] 5 = (mkF m 0 #[.val (.ref a1), .val (.int p2), .val (.ref a3), .unset, .unset] []) := by first | (simp [entryFrame, mkF, argsToLocals, Value.category]; done) | rfl
def Q_ato_8 (Z : State) (a1 : Addr) (p2 : Int32) (a3 : Addr) (rr : Addr) (kr : ClassId) (ro : Addr) (sg : Addr) (ka : ClassId) (qa : Int64) (qb : Int64) (qc : Int64) (qd : Int64) (kd : ClassId) (ed0 : UInt64) (ed1 : UInt64) (ed2 : UInt64) (ed3 : UInt64) (h0 : Heap) (n0 : Nat) (v : Option Value) (h : Heap) (L : List Loc) : Prop := v = none ∧ Fr n0 L ∧ Keep h0 h [a3] ∧ Arv Z h a3 kd .double (4 : Int32) [(.double ed0), (.double ed1), (.double ed2), (.double (FP.dadd ed3 (FP.l2d qd)))] (.double (0 : UInt64))
set_option maxRecDepth 65536 in
set_option maxHeartbeats 40000000 in
theorem rm_ato_8 (l : Launch) (Z : State) (a0 : Array Value) (hw : ∀ d ∈ tables_1, d.before a0 Z = true) (ws : List Jvm.Cond) (a1 : Addr) (p2 : Int32) (a3 : Addr) (rr : Addr) (kr : ClassId) (ro : Addr) (sg : Addr) (ka : ClassId) (qa : Int64) (qb : Int64) (qc : Int64) (qd : Int64) (kd : ClassId) (ed0 : UInt64) (ed1 : UInt64) (ed2 : UInt64) (ed3 : UInt64) (h0 : Heap) (n0 : Nat) (Z0 : n0 ≤ h0.size) (F_rows : Fld Z h0 a1 "com/example/chartlight/chartlight/label/WeightRows" "_rows" "[[J" (.ref rr)) (V_rr : Arv Z h0 rr kr (.array .long) (2 : Int32) (own_pair p2 (.ref ro) (.ref sg)) .null) (V_ro : Arv Z h0 ro ka .long (2 : Int32) [(.long (3 : Int64)), (.long qd)] (.long (0 : Int64))) (V_a3 : Arv Z h0 a3 kd .double (4 : Int32) [(.double ed0), (.double ed1), (.double ed2), (.double ed3)] (.double (0 : UInt64))) (g_a3 : n0 ≤ a3) (hri : p2 = (0 : Int32) ∨ p2 = (1 : Int32)) (hne_s : ro ≠ a3) (hn3 : FP.dadd ed3 (FP.l2d qd) &&& 0x7fffffffffffffff ≤ 0x7ff0000000000000) :
    MetFree l (⟨"com/example/chartlight/chartlight/label/WeightRows", "addTo", "(I[D)V"⟩ : MethodName) (head1 (Jvm.Cond.code (⟨"com/example/chartlight/chartlight/label/WeightRows", "addTo", "(I[D)V"⟩ : MethodName) prog_58_method_8_code 5 none :: ws) ({ frames := 0, cells := 0, slots := 0, locals := 0 } : Room)) (fun a U => a = #[(.ref a1), (.int p2), (.ref a3)] ∧ Z.Warmed39 U.vm ∧ U.heap = h0) (fun _ _ _ _ _ => True) (fun _ U o U' => ∃ v L, o = .returned v ∧ Q_ato_8 Z a1 p2 a3 rr kr ro sg ka qa qb qc qd kd ed0 ed1 ed2 ed3 h0 n0 v U'.heap L ∧ FrameEnd U o U' L ({ frames := 0, cells := 0, slots := 0, locals := 0 } : Room).cells ({ frames := 0, cells := 0, slots := 0, locals := 0 } : Room).slots) := by
  refine MetFree.of_bodySF (plainFor_of_name pn0) hisR ?_
  intro p e s m args below meth c s₁ Bd hml0 hP hK
  obtain ⟨rfl, hZ, hh⟩ := hP
  have hx := Bd.exec
  have hby := Bd.bytes
  have hml : c.maxLocals = 5 := hml0
  have hown : s.vm.findClass "com/example/chartlight/chartlight/label/WeightRows" = some m.cls := findClass_of_methodNamed Bd.named
  have hnm := (name_of_methodNamed Bd.named Bd.method).1
  have X0 : Stand p l e ({ frames := 0, cells := 0, slots := 0, locals := 0 } : Room) s m #[(.ref a1), (.int p2), (.ref a3)] below meth c s₁ [] 0 0 := Stand.of_body Bd
  have e0 : s₁.heap = h0 := by rw [← hh, Bd.state]; rfl
  have N0 := Fr.nil n0
  have pre0 : ∀ t, Steps p.tables e below (s₁.setTop (mkF m 0 #[.val (.ref a1), .val (.int p2), .val (.ref a3), .unset, .unset] [])) t → Steps p.tables e below (s₁.setTop (entryFrame m #[(.ref a1), (.int p2), (.ref a3)] 5)) t := fun t k => castTop (ef_ato_8 m a1 p2 a3) k
  obtain ⟨T1, X1, e1, st1⟩ := getF X0 hx hZ hown (host := "") (Or.inl (hw _ (List.mem_of_getElem? (i := 11) rfl))) Via.refl e0 F_rows (g := (mkF m 1 #[.val (.ref a1), .val (.int p2), .val (.ref a3), .unset, .unset] [(.ref a1)])) rfl rfl (hb hby d7_1)
  obtain ⟨cl_rr_5_2, Ar_rr_5_2, q_rr_5_2, S_rr_5_2, N_rr_5_2, H_rr_5_2, G_rr_5_2⟩ := id V_rr
  have hin_rr_5_2 : ¬ (p2 < 0 ∨ cl_rr_5_2.slots.size ≤ (p2 : Int32).toNatClampNeg) := by rcases hri with rfl | rfl <;> exact inb_of S_rr_5_2 ⟨by decide, by decide⟩
  obtain ⟨cl_ro_13_3, Ar_ro_13_3, -, S_ro_13_3, N_ro_13_3, -, -⟩ := id V_ro
  obtain ⟨cl_ro_21_4, Ar_ro_21_4, q_ro_21_4, S_ro_21_4, N_ro_21_4, H_ro_21_4, G_ro_21_4⟩ := id V_ro
  have hin_ro_21_4 : ¬ ((0 : Int32) < 0 ∨ cl_ro_21_4.slots.size ≤ ((0 : Int32) : Int32).toNatClampNeg) := inb_of S_ro_21_4 ⟨by decide, by decide⟩
  obtain ⟨cl_a3_24_5, Ar_a3_24_5, q_a3_24_5, S_a3_24_5, N_a3_24_5, H_a3_24_5, G_a3_24_5⟩ := id V_a3
  have hin_a3_24_5 : ¬ ((3 : Int32) < 0 ∨ cl_a3_24_5.slots.size ≤ ((3 : Int32) : Int32).toNatClampNeg) := inb_of S_a3_24_5 ⟨by decide, by decide⟩
  obtain ⟨cl_ro_30_6, Ar_ro_30_6, q_ro_30_6, S_ro_30_6, N_ro_30_6, H_ro_30_6, G_ro_30_6⟩ := id V_ro
  have hin_ro_30_6 : ¬ ((1 : Int32) < 0 ∨ cl_ro_30_6.slots.size ≤ ((1 : Int32) : Int32).toNatClampNeg) := inb_of S_ro_30_6 ⟨by decide, by decide⟩
  obtain ⟨cl_a3_33_7, Ar_a3_33_7, q_a3_33_7, S_a3_33_7, N_a3_33_7, H_a3_33_7, G_a3_33_7⟩ := id V_a3
  have hin_a3_33_7 : ¬ ((3 : Int32) < 0 ∨ cl_a3_33_7.slots.size ≤ ((3 : Int32) : Int32).toNatClampNeg) := inb_of S_a3_33_7 ⟨by decide, by decide⟩
  obtain ⟨T8, h8, X8, e8, W8, st8⟩ := stD X1 hx hZ e1 Ar_a3_33_7 (j := (3 : Int32)) hin_a3_33_7 (g := (mkF m 33 #[.val (.ref a1), .val (.int p2), .val (.ref a3), .val (.ref ro), .val (.int (0 : Int32))] [(.double (FP.dadd ed3 (FP.l2d qd))), (.int (3 : Int32)), (.ref a3)])) rfl rfl (hb hby d7_33)
  have V_a3_33_7 : Arv Z h8 a3 kd .double (4 : Int32) [(.double ed0), (.double ed1), (.double ed2), (.double (FP.dadd ed3 (FP.l2d qd)))] (.double (0 : UInt64)) := Arv.set Ar_a3_33_7 q_a3_33_7 S_a3_33_7 N_a3_33_7 H_a3_33_7 G_a3_33_7 rfl W8 3 rfl (Nat.le_of_ble_eq_true rfl)
  have K8 : Keep h0 h8 [a3] := (Keep.refl h0 [a3]).wr W8 (Or.inl (List.mem_of_getElem? (i := 0) rfl))
  have N8 := Fr.snoc X8 N0 g_a3
  obtain ⟨cl_ro_13_9, Ar_ro_13_9, -, S_ro_13_9, N_ro_13_9, -, -⟩ := id (V_ro.other W8 hne_s)
  obtain ⟨fs, hr, hrun, hended, hW, hsame⟩ := X8.leave (v := none) (fun _ => rfl)
  refine ⟨_, _, pre0 _ ?_, hrun, hended, _, _, rfl, ?_, ⟨_, rfl⟩, hW, hsame.mono (by decide) (by decide)⟩
  · show Steps p.tables e below (s₁.setTop (mkF m 0 #[.val (.ref a1), .val (.int p2), .val (.ref a3), .unset, .unset] [])) _
    refine XS.aloadN X0.here hx rfl (hb hby d7_0) rfl rfl ?_
    show Steps p.tables e below (s₁.setTop (mkF m 1 #[.val (.ref a1), .val (.int p2), .val (.ref a3), .unset, .unset] [(.ref a1)])) _
    refine st1 _ ?_
    refine XS.iloadN X1.here hx rfl (hb hby d7_4) rfl ?_
    refine X1.aaload hx (j := p2) (v := (.ref ro)) (by rw [e1]; exact Ar_rr_5_2.1) (State.isArrayOf_alike hZ.alike Ar_rr_5_2.2.1) rfl Ar_rr_5_2.2.2 hin_rr_5_2 (by rcases hri with rfl | rfl <;> exact H_rr_5_2.at hin_rr_5_2 rfl) (g := (mkF m 5 #[.val (.ref a1), .val (.int p2), .val (.ref a3), .unset, .unset] [(.int p2), (.ref rr)])) rfl rfl (hb hby d7_5) _ ?_
    refine XS.astoreN X1.here hx rfl (hb hby d7_6) rfl rfl (l' := #[.val (.ref a1), .val (.int p2), .val (.ref a3), .val (.ref ro), .unset]) rfl ?_
    refine XS.iconst X1.here hx rfl (hb hby d7_7) ?_
    refine XS.istore X1.here hx rfl (hb hby d7_8) rfl (l' := #[.val (.ref a1), .val (.int p2), .val (.ref a3), .val (.ref ro), .val (.int (0 : Int32))]) rfl ?_
    refine XS.iload X1.here hx rfl (hb hby d7_10) rfl ?_
    refine XS.aloadN X1.here hx rfl (hb hby d7_12) rfl rfl ?_
    refine X1.arraylength hx (by rw [e1]; exact Ar_ro_13_3.1) (State.isArrayOf_alike hZ.alike Ar_ro_13_3.2.1) (g := (mkF m 13 #[.val (.ref a1), .val (.int p2), .val (.ref a3), .val (.ref ro), .val (.int (0 : Int32))] [(.ref ro), (.int (0 : Int32))])) rfl rfl (hb hby d7_13) _ ?_
    rw [len_of S_ro_13_3 N_ro_13_3]
    refine XS.icmpNo X1.here hx rfl (hb hby d7_14) rfl (tlt (by decide : (0 : Int32) < (2 : Int32))).2.1 ?_
    refine XS.aloadN X1.here hx rfl (hb hby d7_17) rfl rfl ?_
    refine XS.aloadN X1.here hx rfl (hb hby d7_18) rfl rfl ?_
    refine XS.iload X1.here hx rfl (hb hby d7_19) rfl ?_
    refine X1.laload hx (j := (0 : Int32)) (v := (.long (3 : Int64))) (by rw [e1]; exact Ar_ro_21_4.1) (State.isArrayOf_alike hZ.alike Ar_ro_21_4.2.1) Ar_ro_21_4.2.2 hin_ro_21_4 (H_ro_21_4.at hin_ro_21_4 rfl) (g := (mkF m 21 #[.val (.ref a1), .val (.int p2), .val (.ref a3), .val (.ref ro), .val (.int (0 : Int32))] [(.int (0 : Int32)), (.ref ro), (.ref a3)])) rfl rfl (hb hby d7_21) _ ?_
    refine XS.l2i X1.here hx rfl (hb hby d7_22) rfl ?_
    refine own_dup2 X1.here hx rfl (hb hby d7_23) rfl rfl rfl ?_
    refine X1.daload hx (j := (3 : Int32)) (v := (.double ed3)) (by rw [e1]; exact Ar_a3_24_5.1) (State.isArrayOf_alike hZ.alike Ar_a3_24_5.2.1) Ar_a3_24_5.2.2 hin_a3_24_5 (H_a3_24_5.at hin_a3_24_5 rfl) (g := (mkF m 24 #[.val (.ref a1), .val (.int p2), .val (.ref a3), .val (.ref ro), .val (.int (0 : Int32))] [(.int (3 : Int32)), (.ref a3), (.int (3 : Int32)), (.ref a3)])) rfl rfl (hb hby d7_24) _ ?_
    refine XS.aloadN X1.here hx rfl (hb hby d7_25) rfl rfl ?_
    refine XS.iload X1.here hx rfl (hb hby d7_26) rfl ?_
    refine XS.iconst X1.here hx rfl (hb hby d7_28) ?_
    refine XS.iadd X1.here hx rfl (hb hby d7_29) rfl ?_
    refine X1.laload hx (j := (1 : Int32)) (v := (.long qd)) (by rw [e1]; exact Ar_ro_30_6.1) (State.isArrayOf_alike hZ.alike Ar_ro_30_6.2.1) Ar_ro_30_6.2.2 hin_ro_30_6 (H_ro_30_6.at hin_ro_30_6 rfl) (g := (mkF m 30 #[.val (.ref a1), .val (.int p2), .val (.ref a3), .val (.ref ro), .val (.int (0 : Int32))] [(.int (1 : Int32)), (.ref ro), (.double ed3), (.int (3 : Int32)), (.ref a3)])) rfl rfl (hb hby d7_30) _ ?_
    refine own_l2d X1.here hx rfl (hb hby d7_31) rfl ?_
    refine own_dadd X1.here hx rfl (hb hby d7_32) rfl hn3 ?_
    show Steps p.tables e below (T1.setTop (mkF m 33 #[.val (.ref a1), .val (.int p2), .val (.ref a3), .val (.ref ro), .val (.int (0 : Int32))] [(.double (FP.dadd ed3 (FP.l2d qd))), (.int (3 : Int32)), (.ref a3)])) _
    refine st8 _ ?_
    refine XS.iinc X8.here hx rfl (hb hby d7_34) rfl (l' := #[.val (.ref a1), .val (.int p2), .val (.ref a3), .val (.ref ro), .val (.int (2 : Int32))]) rfl ?_
    refine XS.goto X8.here hx rfl (pc0 := 37) (pc' := 10) rfl (hb hby d7_37) (by decide) (by decide) ?_
    refine XS.iload X8.here hx rfl (hb hby d7_10) rfl ?_
    refine XS.aloadN X8.here hx rfl (hb hby d7_12) rfl rfl ?_
    refine X8.arraylength hx (by rw [e8]; exact Ar_ro_13_9.1) (State.isArrayOf_alike hZ.alike Ar_ro_13_9.2.1) (g := (mkF m 13 #[.val (.ref a1), .val (.int p2), .val (.ref a3), .val (.ref ro), .val (.int (2 : Int32))] [(.ref ro), (.int (2 : Int32))])) rfl rfl (hb hby d7_13) _ ?_
    rw [len_of S_ro_13_9 N_ro_13_9]
    refine XS.icmpYes X8.here hx rfl (pc0 := 14) (pc' := 40) rfl (hb hby d7_14) rfl (flt (by decide : ¬ ((2 : Int32) < (2 : Int32)))).2.1 (by decide) (by decide) ?_
    show Steps p.tables e below (T8.setTop (mkF m 40 #[.val (.ref a1), .val (.int p2), .val (.ref a3), .val (.ref ro), .val (.int (2 : Int32))] [])) _
    exact X8.returnOut hx Bd.returns (hb hby d7_40) hr
  · show Q_ato_8 Z a1 p2 a3 rr kr ro sg ka qa qb qc qd kd ed0 ed1 ed2 ed3 h0 n0 _ T8.heap _
    rw [e8]
    exact ⟨rfl, N8, K8, V_a3_33_7⟩
theorem ef_ato_9 (m : MethodId) (a1 : Addr) (p2 : Int32) (a3 : Addr) : entryFrame m #[(.ref a1), (.int p2), (.ref a3)] 5 = (mkF m 0 #[.val (.ref a1), .val (.int p2), .val (.ref a3), .unset, .unset] []) := by first | (simp [entryFrame, mkF, argsToLocals, Value.category]; done) | rfl
def Q_ato_9 (Z : State) (a1 : Addr) (p2 : Int32) (a3 : Addr) (rr : Addr) (kr : ClassId) (ro : Addr) (sg : Addr) (ka : ClassId) (qa : Int64) (qb : Int64) (qc : Int64) (qd : Int64) (kd : ClassId) (ed0 : UInt64) (ed1 : UInt64) (ed2 : UInt64) (ed3 : UInt64) (h0 : Heap) (n0 : Nat) (v : Option Value) (h : Heap) (L : List Loc) : Prop := v = none ∧ Fr n0 L ∧ Keep h0 h [a3] ∧ Arv Z h a3 kd .double (4 : Int32) [(.double (FP.dadd ed0 (FP.l2d qa))), (.double ed1), (.double ed2), (.double (FP.dadd ed3 (FP.l2d qd)))] (.double (0 : UInt64))
set_option maxRecDepth 65536 in
set_option maxHeartbeats 40000000 in
theorem rm_ato_9 (l : Launch) (Z : State) (a0 : Array Value) (hw : ∀ d ∈ tables_1, d.before a0 Z = true) (ws : List Jvm.Cond) (a1 : Addr) (p2 : Int32) (a3 : Addr) (rr : Addr) (kr : ClassId) (ro : Addr) (sg : Addr) (ka : ClassId) (qa : Int64) (qb : Int64) (qc : Int64) (qd : Int64) (kd : ClassId) (ed0 : UInt64) (ed1 : UInt64) (ed2 : UInt64) (ed3 : UInt64) (h0 : Heap) (n0 : Nat) (Z0 : n0 ≤ h0.size) (F_rows : Fld Z h0 a1 "com/example/chartlight/chartlight/label/WeightRows" "_rows" "[[J" (.ref rr)) (V_rr : Arv Z h0 rr kr (.array .long) (2 : Int32) (own_pair p2 (.ref ro) (.ref sg)) .null) (V_ro : Arv Z h0 ro ka .long (4 : Int32) [(.long (0 : Int64)), (.long qa), (.long (3 : Int64)), (.long qd)] (.long (0 : Int64))) (V_a3 : Arv Z h0 a3 kd .double (4 : Int32) [(.double ed0), (.double ed1), (.double ed2), (.double ed3)] (.double (0 : UInt64))) (g_a3 : n0 ≤ a3) (hri : p2 = (0 : Int32) ∨ p2 = (1 : Int32)) (hne_s : ro ≠ a3) (hn0 : FP.dadd ed0 (FP.l2d qa) &&& 0x7fffffffffffffff ≤ 0x7ff0000000000000) (hn3 : FP.dadd ed3 (FP.l2d qd) &&& 0x7fffffffffffffff ≤ 0x7ff0000000000000) :
    MetFree l (⟨"com/example/chartlight/chartlight/label/WeightRows", "addTo", "(I[D)V"⟩ : MethodName) (head1 (Jvm.Cond.code (⟨"com/example/chartlight/chartlight/label/WeightRows", "addTo", "(I[D)V"⟩ : MethodName) prog_58_method_8_code 5 none :: ws) ({ frames := 0, cells := 0, slots := 0, locals := 0 } : Room)) (fun a U => a = #[(.ref a1), (.int p2), (.ref a3)] ∧ Z.Warmed39 U.vm ∧ U.heap = h0) (fun _ _ _ _ _ => True) (fun _ U o U' => ∃ v L, o = .returned v ∧ Q_ato_9 Z a1 p2 a3 rr kr ro sg ka qa qb qc qd kd ed0 ed1 ed2 ed3 h0 n0 v U'.heap L ∧ FrameEnd U o U' L ({ frames := 0, cells := 0, slots := 0, locals := 0 } : Room).cells ({ frames := 0, cells := 0, slots := 0, locals := 0 } : Room).slots) := by
  refine MetFree.of_bodySF (plainFor_of_name pn0) hisR ?_
  intro p e s m args below meth c s₁ Bd hml0 hP hK
  obtain ⟨rfl, hZ, hh⟩ := hP
  have hx := Bd.exec
  have hby := Bd.bytes
  have hml : c.maxLocals = 5 := hml0
  have hown : s.vm.findClass "com/example/chartlight/chartlight/label/WeightRows" = some m.cls := findClass_of_methodNamed Bd.named
  have hnm := (name_of_methodNamed Bd.named Bd.method).1
  have X0 : Stand p l e ({ frames := 0, cells := 0, slots := 0, locals := 0 } : Room) s m #[(.ref a1), (.int p2), (.ref a3)] below meth c s₁ [] 0 0 := Stand.of_body Bd
  have e0 : s₁.heap = h0 := by rw [← hh, Bd.state]; rfl
  have N0 := Fr.nil n0
  have pre0 : ∀ t, Steps p.tables e below (s₁.setTop (mkF m 0 #[.val (.ref a1), .val (.int p2), .val (.ref a3), .unset, .unset] [])) t → Steps p.tables e below (s₁.setTop (entryFrame m #[(.ref a1), (.int p2), (.ref a3)] 5)) t := fun t k => castTop (ef_ato_9 m a1 p2 a3) k
  obtain ⟨T1, X1, e1, st1⟩ := getF X0 hx hZ hown (host := "") (Or.inl (hw _ (List.mem_of_getElem? (i := 11) rfl))) Via.refl e0 F_rows (g := (mkF m 1 #[.val (.ref a1), .val (.int p2), .val (.ref a3), .unset, .unset] [(.ref a1)])) rfl rfl (hb hby d7_1)
  obtain ⟨cl_rr_5_2, Ar_rr_5_2, q_rr_5_2, S_rr_5_2, N_rr_5_2, H_rr_5_2, G_rr_5_2⟩ := id V_rr
  have hin_rr_5_2 : ¬ (p2 < 0 ∨ cl_rr_5_2.slots.size ≤ (p2 : Int32).toNatClampNeg) := by rcases hri with rfl | rfl <;> exact inb_of S_rr_5_2 ⟨by decide, by decide⟩
  obtain ⟨cl_ro_13_3, Ar_ro_13_3, -, S_ro_13_3, N_ro_13_3, -, -⟩ := id V_ro
  obtain ⟨cl_ro_21_4, Ar_ro_21_4, q_ro_21_4, S_ro_21_4, N_ro_21_4, H_ro_21_4, G_ro_21_4⟩ := id V_ro
  have hin_ro_21_4 : ¬ ((0 : Int32) < 0 ∨ cl_ro_21_4.slots.size ≤ ((0 : Int32) : Int32).toNatClampNeg) := inb_of S_ro_21_4 ⟨by decide, by decide⟩
  obtain ⟨cl_a3_24_5, Ar_a3_24_5, q_a3_24_5, S_a3_24_5, N_a3_24_5, H_a3_24_5, G_a3_24_5⟩ := id V_a3
  have hin_a3_24_5 : ¬ ((0 : Int32) < 0 ∨ cl_a3_24_5.slots.size ≤ ((0 : Int32) : Int32).toNatClampNeg) := inb_of S_a3_24_5 ⟨by decide, by decide⟩
  obtain ⟨cl_ro_30_6, Ar_ro_30_6, q_ro_30_6, S_ro_30_6, N_ro_30_6, H_ro_30_6, G_ro_30_6⟩ := id V_ro
  have hin_ro_30_6 : ¬ ((1 : Int32) < 0 ∨ cl_ro_30_6.slots.size ≤ ((1 : Int32) : Int32).toNatClampNeg) := inb_of S_ro_30_6 ⟨by decide, by decide⟩
  obtain ⟨cl_a3_33_7, Ar_a3_33_7, q_a3_33_7, S_a3_33_7, N_a3_33_7, H_a3_33_7, G_a3_33_7⟩ := id V_a3
  have hin_a3_33_7 : ¬ ((0 : Int32) < 0 ∨ cl_a3_33_7.slots.size ≤ ((0 : Int32) : Int32).toNatClampNeg) := inb_of S_a3_33_7 ⟨by decide, by decide⟩
  obtain ⟨T8, h8, X8, e8, W8, st8⟩ := stD X1 hx hZ e1 Ar_a3_33_7 (j := (0 : Int32)) hin_a3_33_7 (g := (mkF m 33 #[.val (.ref a1), .val (.int p2), .val (.ref a3), .val (.ref ro), .val (.int (0 : Int32))] [(.double (FP.dadd ed0 (FP.l2d qa))), (.int (0 : Int32)), (.ref a3)])) rfl rfl (hb hby d7_33)
  have V_a3_33_7 : Arv Z h8 a3 kd .double (4 : Int32) [(.double (FP.dadd ed0 (FP.l2d qa))), (.double ed1), (.double ed2), (.double ed3)] (.double (0 : UInt64)) := Arv.set Ar_a3_33_7 q_a3_33_7 S_a3_33_7 N_a3_33_7 H_a3_33_7 G_a3_33_7 rfl W8 0 rfl (Nat.le_of_ble_eq_true rfl)
  have K8 : Keep h0 h8 [a3] := (Keep.refl h0 [a3]).wr W8 (Or.inl (List.mem_of_getElem? (i := 0) rfl))
  have N8 := Fr.snoc X8 N0 g_a3
  obtain ⟨cl_ro_13_9, Ar_ro_13_9, -, S_ro_13_9, N_ro_13_9, -, -⟩ := id (V_ro.other W8 hne_s)
  obtain ⟨cl_ro_21_10, Ar_ro_21_10, q_ro_21_10, S_ro_21_10, N_ro_21_10, H_ro_21_10, G_ro_21_10⟩ := id (V_ro.other W8 hne_s)
  have hin_ro_21_10 : ¬ ((2 : Int32) < 0 ∨ cl_ro_21_10.slots.size ≤ ((2 : Int32) : Int32).toNatClampNeg) := inb_of S_ro_21_10 ⟨by decide, by decide⟩
  obtain ⟨cl_a3_24_11, Ar_a3_24_11, q_a3_24_11, S_a3_24_11, N_a3_24_11, H_a3_24_11, G_a3_24_11⟩ := id V_a3_33_7
  have hin_a3_24_11 : ¬ ((3 : Int32) < 0 ∨ cl_a3_24_11.slots.size ≤ ((3 : Int32) : Int32).toNatClampNeg) := inb_of S_a3_24_11 ⟨by decide, by decide⟩
  obtain ⟨cl_ro_30_12, Ar_ro_30_12, q_ro_30_12, S_ro_30_12, N_ro_30_12, H_ro_30_12, G_ro_30_12⟩ := id (V_ro.other W8 hne_s)
  have hin_ro_30_12 : ¬ ((3 : Int32) < 0 ∨ cl_ro_30_12.slots.size ≤ ((3 : Int32) : Int32).toNatClampNeg) := inb_of S_ro_30_12 ⟨by decide, by decide⟩
  obtain ⟨cl_a3_33_13, Ar_a3_33_13, q_a3_33_13, S_a3_33_13, N_a3_33_13, H_a3_33_13, G_a3_33_13⟩ := id V_a3_33_7
  have hin_a3_33_13 : ¬ ((3 : Int32) < 0 ∨ cl_a3_33_13.slots.size ≤ ((3 : Int32) : Int32).toNatClampNeg) := inb_of S_a3_33_13 ⟨by decide, by decide⟩
  obtain ⟨T14, h14, X14, e14, W14, st14⟩ := stD X8 hx hZ e8 Ar_a3_33_13 (j := (3 : Int32)) hin_a3_33_13 (g := (mkF m 33 #[.val (.ref a1), .val (.int p2), .val (.ref a3), .val (.ref ro), .val (.int (2 : Int32))] [(.double (FP.dadd ed3 (FP.l2d qd))), (.int (3 : Int32)), (.ref a3)])) rfl rfl (hb hby d7_33)
  have V_a3_33_13 : Arv Z h14 a3 kd .double (4 : Int32) [(.double (FP.dadd ed0 (FP.l2d qa))), (.double ed1), (.double ed2), (.double (FP.dadd ed3 (FP.l2d qd)))] (.double (0 : UInt64)) := Arv.set Ar_a3_33_13 q_a3_33_13 S_a3_33_13 N_a3_33_13 H_a3_33_13 G_a3_33_13 rfl W14 3 rfl (Nat.le_of_ble_eq_true rfl)
  have K14 : Keep h0 h14 [a3] := K8.wr W14 (Or.inl (List.mem_of_getElem? (i := 0) rfl))
  have N14 := Fr.snoc X14 N8 g_a3
  obtain ⟨cl_ro_13_15, Ar_ro_13_15, -, S_ro_13_15, N_ro_13_15, -, -⟩ := id ((V_ro.other W8 hne_s).other W14 hne_s)
  obtain ⟨fs, hr, hrun, hended, hW, hsame⟩ := X14.leave (v := none) (fun _ => rfl)
  refine ⟨_, _, pre0 _ ?_, hrun, hended, _, _, rfl, ?_, ⟨_, rfl⟩, hW, hsame.mono (by decide) (by decide)⟩
  · show Steps p.tables e below (s₁.setTop (mkF m 0 #[.val (.ref a1), .val (.int p2), .val (.ref a3), .unset, .unset] [])) _
    refine XS.aloadN X0.here hx rfl (hb hby d7_0) rfl rfl ?_
    show Steps p.tables e below (s₁.setTop (mkF m 1 #[.val (.ref a1), .val (.int p2), .val (.ref a3), .unset, .unset] [(.ref a1)])) _
    refine st1 _ ?_
    refine XS.iloadN X1.here hx rfl (hb hby d7_4) rfl ?_
    refine X1.aaload hx (j := p2) (v := (.ref ro)) (by rw [e1]; exact Ar_rr_5_2.1) (State.isArrayOf_alike hZ.alike Ar_rr_5_2.2.1) rfl Ar_rr_5_2.2.2 hin_rr_5_2 (by rcases hri with rfl | rfl <;> exact H_rr_5_2.at hin_rr_5_2 rfl) (g := (mkF m 5 #[.val (.ref a1), .val (.int p2), .val (.ref a3), .unset, .unset] [(.int p2), (.ref rr)])) rfl rfl (hb hby d7_5) _ ?_
    refine XS.astoreN X1.here hx rfl (hb hby d7_6) rfl rfl (l' := #[.val (.ref a1), .val (.int p2), .val (.ref a3), .val (.ref ro), .unset]) rfl ?_
    refine XS.iconst X1.here hx rfl (hb hby d7_7) ?_
    refine XS.istore X1.here hx rfl (hb hby d7_8) rfl (l' := #[.val (.ref a1), .val (.int p2), .val (.ref a3), .val (.ref ro), .val (.int (0 : Int32))]) rfl ?_
    refine XS.iload X1.here hx rfl (hb hby d7_10) rfl ?_
    refine XS.aloadN X1.here hx rfl (hb hby d7_12) rfl rfl ?_
    refine X1.arraylength hx (by rw [e1]; exact Ar_ro_13_3.1) (State.isArrayOf_alike hZ.alike Ar_ro_13_3.2.1) (g := (mkF m 13 #[.val (.ref a1), .val (.int p2), .val (.ref a3), .val (.ref ro), .val (.int (0 : Int32))] [(.ref ro), (.int (0 : Int32))])) rfl rfl (hb hby d7_13) _ ?_
    rw [len_of S_ro_13_3 N_ro_13_3]
    refine XS.icmpNo X1.here hx rfl (hb hby d7_14) rfl (tlt (by decide : (0 : Int32) < (4 : Int32))).2.1 ?_
    refine XS.aloadN X1.here hx rfl (hb hby d7_17) rfl rfl ?_
    refine XS.aloadN X1.here hx rfl (hb hby d7_18) rfl rfl ?_
    refine XS.iload X1.here hx rfl (hb hby d7_19) rfl ?_
    refine X1.laload hx (j := (0 : Int32)) (v := (.long (0 : Int64))) (by rw [e1]; exact Ar_ro_21_4.1) (State.isArrayOf_alike hZ.alike Ar_ro_21_4.2.1) Ar_ro_21_4.2.2 hin_ro_21_4 (H_ro_21_4.at hin_ro_21_4 rfl) (g := (mkF m 21 #[.val (.ref a1), .val (.int p2), .val (.ref a3), .val (.ref ro), .val (.int (0 : Int32))] [(.int (0 : Int32)), (.ref ro), (.ref a3)])) rfl rfl (hb hby d7_21) _ ?_
    refine XS.l2i X1.here hx rfl (hb hby d7_22) rfl ?_
    refine own_dup2 X1.here hx rfl (hb hby d7_23) rfl rfl rfl ?_
    refine X1.daload hx (j := (0 : Int32)) (v := (.double ed0)) (by rw [e1]; exact Ar_a3_24_5.1) (State.isArrayOf_alike hZ.alike Ar_a3_24_5.2.1) Ar_a3_24_5.2.2 hin_a3_24_5 (H_a3_24_5.at hin_a3_24_5 rfl) (g := (mkF m 24 #[.val (.ref a1), .val (.int p2), .val (.ref a3), .val (.ref ro), .val (.int (0 : Int32))] [(.int (0 : Int32)), (.ref a3), (.int (0 : Int32)), (.ref a3)])) rfl rfl (hb hby d7_24) _ ?_
    refine XS.aloadN X1.here hx rfl (hb hby d7_25) rfl rfl ?_
    refine XS.iload X1.here hx rfl (hb hby d7_26) rfl ?_
    refine XS.iconst X1.here hx rfl (hb hby d7_28) ?_
    refine XS.iadd X1.here hx rfl (hb hby d7_29) rfl ?_
    refine X1.laload hx (j := (1 : Int32)) (v := (.long qa)) (by rw [e1]; exact Ar_ro_30_6.1) (State.isArrayOf_alike hZ.alike Ar_ro_30_6.2.1) Ar_ro_30_6.2.2 hin_ro_30_6 (H_ro_30_6.at hin_ro_30_6 rfl) (g := (mkF m 30 #[.val (.ref a1), .val (.int p2), .val (.ref a3), .val (.ref ro), .val (.int (0 : Int32))] [(.int (1 : Int32)), (.ref ro), (.double ed0), (.int (0 : Int32)), (.ref a3)])) rfl rfl (hb hby d7_30) _ ?_
    refine own_l2d X1.here hx rfl (hb hby d7_31) rfl ?_
    refine own_dadd X1.here hx rfl (hb hby d7_32) rfl hn0 ?_
    show Steps p.tables e below (T1.setTop (mkF m 33 #[.val (.ref a1), .val (.int p2), .val (.ref a3), .val (.ref ro), .val (.int (0 : Int32))] [(.double (FP.dadd ed0 (FP.l2d qa))), (.int (0 : Int32)), (.ref a3)])) _
    refine st8 _ ?_
    refine XS.iinc X8.here hx rfl (hb hby d7_34) rfl (l' := #[.val (.ref a1), .val (.int p2), .val (.ref a3), .val (.ref ro), .val (.int (2 : Int32))]) rfl ?_
    refine XS.goto X8.here hx rfl (pc0 := 37) (pc' := 10) rfl (hb hby d7_37) (by decide) (by decide) ?_
    refine XS.iload X8.here hx rfl (hb hby d7_10) rfl ?_
    refine XS.aloadN X8.here hx rfl (hb hby d7_12) rfl rfl ?_
    refine X8.arraylength hx (by rw [e8]; exact Ar_ro_13_9.1) (State.isArrayOf_alike hZ.alike Ar_ro_13_9.2.1) (g := (mkF m 13 #[.val (.ref a1), .val (.int p2), .val (.ref a3), .val (.ref ro), .val (.int (2 : Int32))] [(.ref ro), (.int (2 : Int32))])) rfl rfl (hb hby d7_13) _ ?_
    rw [len_of S_ro_13_9 N_ro_13_9]
    refine XS.icmpNo X8.here hx rfl (hb hby d7_14) rfl (tlt (by decide : (2 : Int32) < (4 : Int32))).2.1 ?_
    refine XS.aloadN X8.here hx rfl (hb hby d7_17) rfl rfl ?_
    refine XS.aloadN X8.here hx rfl (hb hby d7_18) rfl rfl ?_
    refine XS.iload X8.here hx rfl (hb hby d7_19) rfl ?_
    refine X8.laload hx (j := (2 : Int32)) (v := (.long (3 : Int64))) (by rw [e8]; exact Ar_ro_21_10.1) (State.isArrayOf_alike hZ.alike Ar_ro_21_10.2.1) Ar_ro_21_10.2.2 hin_ro_21_10 (H_ro_21_10.at hin_ro_21_10 rfl) (g := (mkF m 21 #[.val (.ref a1), .val (.int p2), .val (.ref a3), .val (.ref ro), .val (.int (2 : Int32))] [(.int (2 : Int32)), (.ref ro), (.ref a3)])) rfl rfl (hb hby d7_21) _ ?_
    refine XS.l2i X8.here hx rfl (hb hby d7_22) rfl ?_
    refine own_dup2 X8.here hx rfl (hb hby d7_23) rfl rfl rfl ?_
    refine X8.daload hx (j := (3 : Int32)) (v := (.double ed3)) (by rw [e8]; exact Ar_a3_24_11.1) (State.isArrayOf_alike hZ.alike Ar_a3_24_11.2.1) Ar_a3_24_11.2.2 hin_a3_24_11 (H_a3_24_11.at hin_a3_24_11 rfl) (g := (mkF m 24 #[.val (.ref a1), .val (.int p2), .val (.ref a3), .val (.ref ro), .val (.int (2 : Int32))] [(.int (3 : Int32)), (.ref a3), (.int (3 : Int32)), (.ref a3)])) rfl rfl (hb hby d7_24) _ ?_
    refine XS.aloadN X8.here hx rfl (hb hby d7_25) rfl rfl ?_
    refine XS.iload X8.here hx rfl (hb hby d7_26) rfl ?_
    refine XS.iconst X8.here hx rfl (hb hby d7_28) ?_
    show Steps p.tables e below (T8.setTop (mkF m 29 #[.val (.ref a1), .val (.int p2), .val (.ref a3), .val (.ref ro), .val (.int (2 : Int32))] [(.int (1 : Int32)), (.int (2 : Int32)), (.ref ro), (.double ed3), (.int (3 : Int32)), (.ref a3)])) _
    refine XS.iadd X8.here hx rfl (hb hby d7_29) rfl ?_
    refine X8.laload hx (j := (3 : Int32)) (v := (.long qd)) (by rw [e8]; exact Ar_ro_30_12.1) (State.isArrayOf_alike hZ.alike Ar_ro_30_12.2.1) Ar_ro_30_12.2.2 hin_ro_30_12 (H_ro_30_12.at hin_ro_30_12 rfl) (g := (mkF m 30 #[.val (.ref a1), .val (.int p2), .val (.ref a3), .val (.ref ro), .val (.int (2 : Int32))] [(.int (3 : Int32)), (.ref ro), (.double ed3), (.int (3 : Int32)), (.ref a3)])) rfl rfl (hb hby d7_30) _ ?_
    refine own_l2d X8.here hx rfl (hb hby d7_31) rfl ?_
    refine own_dadd X8.here hx rfl (hb hby d7_32) rfl hn3 ?_
    show Steps p.tables e below (T8.setTop (mkF m 33 #[.val (.ref a1), .val (.int p2), .val (.ref a3), .val (.ref ro), .val (.int (2 : Int32))] [(.double (FP.dadd ed3 (FP.l2d qd))), (.int (3 : Int32)), (.ref a3)])) _
    refine st14 _ ?_
    refine XS.iinc X14.here hx rfl (hb hby d7_34) rfl (l' := #[.val (.ref a1), .val (.int p2), .val (.ref a3), .val (.ref ro), .val (.int (4 : Int32))]) rfl ?_
    refine XS.goto X14.here hx rfl (pc0 := 37) (pc' := 10) rfl (hb hby d7_37) (by decide) (by decide) ?_
    refine XS.iload X14.here hx rfl (hb hby d7_10) rfl ?_
    refine XS.aloadN X14.here hx rfl (hb hby d7_12) rfl rfl ?_
    refine X14.arraylength hx (by rw [e14]; exact Ar_ro_13_15.1) (State.isArrayOf_alike hZ.alike Ar_ro_13_15.2.1) (g := (mkF m 13 #[.val (.ref a1), .val (.int p2), .val (.ref a3), .val (.ref ro), .val (.int (4 : Int32))] [(.ref ro), (.int (4 : Int32))])) rfl rfl (hb hby d7_13) _ ?_
    rw [len_of S_ro_13_15 N_ro_13_15]
    refine XS.icmpYes X14.here hx rfl (pc0 := 14) (pc' := 40) rfl (hb hby d7_14) rfl (flt (by decide : ¬ ((4 : Int32) < (4 : Int32)))).2.1 (by decide) (by decide) ?_
    show Steps p.tables e below (T14.setTop (mkF m 40 #[.val (.ref a1), .val (.int p2), .val (.ref a3), .val (.ref ro), .val (.int (4 : Int32))] [])) _
    exact X14.returnOut hx Bd.returns (hb hby d7_40) hr
  · show Q_ato_9 Z a1 p2 a3 rr kr ro sg ka qa qb qc qd kd ed0 ed1 ed2 ed3 h0 n0 _ T14.heap _
    rw [e14]
    exact ⟨rfl, N14, K14, V_a3_33_13⟩
theorem ef_ato_10 (m : MethodId) (a1 : Addr) (p2 : Int32) (a3 : Addr) : entryFrame m #[(.ref a1), (.int p2), (.ref a3)] 5 = (mkF m 0 #[.val (.ref a1), .val (.int p2), .val (.ref a3), .unset, .unset] []) := by first | (simp [entryFrame, mkF, argsToLocals, Value.category]; done) | rfl
def Q_ato_10 (Z : State) (a1 : Addr) (p2 : Int32) (a3 : Addr) (rr : Addr) (kr : ClassId) (ro : Addr) (sg : Addr) (ka : ClassId) (qa : Int64) (qb : Int64) (qc : Int64) (qd : Int64) (kd : ClassId) (ed0 : UInt64) (ed1 : UInt64) (ed2 : UInt64) (ed3 : UInt64) (h0 : Heap) (n0 : Nat) (v : Option Value) (h : Heap) (L : List Loc) : Prop := v = none ∧ Fr n0 L ∧ Keep h0 h [a3] ∧ Arv Z h a3 kd .double (4 : Int32) [(.double ed0), (.double (FP.dadd ed1 (FP.l2d qb))), (.double ed2), (.double (FP.dadd ed3 (FP.l2d qd)))] (.double (0 : UInt64))
set_option maxRecDepth 65536 in
set_option maxHeartbeats 40000000 in
theorem rm_ato_10 (l : Launch) (Z : State) (a0 : Array Value) (hw : ∀ d ∈ tables_1, d.before a0 Z = true) (ws : List Jvm.Cond) (a1 : Addr) (p2 : Int32) (a3 : Addr) (rr : Addr) (kr : ClassId) (ro : Addr) (sg : Addr) (ka : ClassId) (qa : Int64) (qb : Int64) (qc : Int64) (qd : Int64) (kd : ClassId) (ed0 : UInt64) (ed1 : UInt64) (ed2 : UInt64) (ed3 : UInt64) (h0 : Heap) (n0 : Nat) (Z0 : n0 ≤ h0.size) (F_rows : Fld Z h0 a1 "com/example/chartlight/chartlight/label/WeightRows" "_rows" "[[J" (.ref rr)) (V_rr : Arv Z h0 rr kr (.array .long) (2 : Int32) (own_pair p2 (.ref ro) (.ref sg)) .null) (V_ro : Arv Z h0 ro ka .long (4 : Int32) [(.long (1 : Int64)), (.long qb), (.long (3 : Int64)), (.long qd)] (.long (0 : Int64))) (V_a3 : Arv Z h0 a3 kd .double (4 : Int32) [(.double ed0), (.double ed1), (.double ed2), (.double ed3)] (.double (0 : UInt64))) (g_a3 : n0 ≤ a3) (hri : p2 = (0 : Int32) ∨ p2 = (1 : Int32)) (hne_s : ro ≠ a3) (hn1 : FP.dadd ed1 (FP.l2d qb) &&& 0x7fffffffffffffff ≤ 0x7ff0000000000000) (hn3 : FP.dadd ed3 (FP.l2d qd) &&& 0x7fffffffffffffff ≤ 0x7ff0000000000000) :
    MetFree l (⟨"com/example/chartlight/chartlight/label/WeightRows", "addTo", "(I[D)V"⟩ : MethodName) (head1 (Jvm.Cond.code (⟨"com/example/chartlight/chartlight/label/WeightRows", "addTo", "(I[D)V"⟩ : MethodName) prog_58_method_8_code 5 none :: ws) ({ frames := 0, cells := 0, slots := 0, locals := 0 } : Room)) (fun a U => a = #[(.ref a1), (.int p2), (.ref a3)] ∧ Z.Warmed39 U.vm ∧ U.heap = h0) (fun _ _ _ _ _ => True) (fun _ U o U' => ∃ v L, o = .returned v ∧ Q_ato_10 Z a1 p2 a3 rr kr ro sg ka qa qb qc qd kd ed0 ed1 ed2 ed3 h0 n0 v U'.heap L ∧ FrameEnd U o U' L ({ frames := 0, cells := 0, slots := 0, locals := 0 } : Room).cells ({ frames := 0, cells := 0, slots := 0, locals := 0 } : Room).slots) := by
  refine MetFree.of_bodySF (plainFor_of_name pn0) hisR ?_
  intro p e s m args below meth c s₁ Bd hml0 hP hK
  obtain ⟨rfl, hZ, hh⟩ := hP
  have hx := Bd.exec
  have hby := Bd.bytes
  have hml : c.maxLocals = 5 := hml0
  have hown : s.vm.findClass "com/example/chartlight/chartlight/label/WeightRows" = some m.cls := findClass_of_methodNamed Bd.named
  have hnm := (name_of_methodNamed Bd.named Bd.method).1
  have X0 : Stand p l e ({ frames := 0, cells := 0, slots := 0, locals := 0 } : Room) s m #[(.ref a1), (.int p2), (.ref a3)] below meth c s₁ [] 0 0 := Stand.of_body Bd
  have e0 : s₁.heap = h0 := by rw [← hh, Bd.state]; rfl
  have N0 := Fr.nil n0
  have pre0 : ∀ t, Steps p.tables e below (s₁.setTop (mkF m 0 #[.val (.ref a1), .val (.int p2), .val (.ref a3), .unset, .unset] [])) t → Steps p.tables e below (s₁.setTop (entryFrame m #[(.ref a1), (.int p2), (.ref a3)] 5)) t := fun t k => castTop (ef_ato_10 m a1 p2 a3) k
  obtain ⟨T1, X1, e1, st1⟩ := getF X0 hx hZ hown (host := "") (Or.inl (hw _ (List.mem_of_getElem? (i := 11) rfl))) Via.refl e0 F_rows (g := (mkF m 1 #[.val (.ref a1), .val (.int p2), .val (.ref a3), .unset, .unset] [(.ref a1)])) rfl rfl (hb hby d7_1)
  obtain ⟨cl_rr_5_2, Ar_rr_5_2, q_rr_5_2, S_rr_5_2, N_rr_5_2, H_rr_5_2, G_rr_5_2⟩ := id V_rr
  have hin_rr_5_2 : ¬ (p2 < 0 ∨ cl_rr_5_2.slots.size ≤ (p2 : Int32).toNatClampNeg) := by rcases hri with rfl | rfl <;> exact inb_of S_rr_5_2 ⟨by decide, by decide⟩
  obtain ⟨cl_ro_13_3, Ar_ro_13_3, -, S_ro_13_3, N_ro_13_3, -, -⟩ := id V_ro
  obtain ⟨cl_ro_21_4, Ar_ro_21_4, q_ro_21_4, S_ro_21_4, N_ro_21_4, H_ro_21_4, G_ro_21_4⟩ := id V_ro
  have hin_ro_21_4 : ¬ ((0 : Int32) < 0 ∨ cl_ro_21_4.slots.size ≤ ((0 : Int32) : Int32).toNatClampNeg) := inb_of S_ro_21_4 ⟨by decide, by decide⟩
  obtain ⟨cl_a3_24_5, Ar_a3_24_5, q_a3_24_5, S_a3_24_5, N_a3_24_5, H_a3_24_5, G_a3_24_5⟩ := id V_a3
  have hin_a3_24_5 : ¬ ((1 : Int32) < 0 ∨ cl_a3_24_5.slots.size ≤ ((1 : Int32) : Int32).toNatClampNeg) := inb_of S_a3_24_5 ⟨by decide, by decide⟩
  obtain ⟨cl_ro_30_6, Ar_ro_30_6, q_ro_30_6, S_ro_30_6, N_ro_30_6, H_ro_30_6, G_ro_30_6⟩ := id V_ro
  have hin_ro_30_6 : ¬ ((1 : Int32) < 0 ∨ cl_ro_30_6.slots.size ≤ ((1 : Int32) : Int32).toNatClampNeg) := inb_of S_ro_30_6 ⟨by decide, by decide⟩
  obtain ⟨cl_a3_33_7, Ar_a3_33_7, q_a3_33_7, S_a3_33_7, N_a3_33_7, H_a3_33_7, G_a3_33_7⟩ := id V_a3
  have hin_a3_33_7 : ¬ ((1 : Int32) < 0 ∨ cl_a3_33_7.slots.size ≤ ((1 : Int32) : Int32).toNatClampNeg) := inb_of S_a3_33_7 ⟨by decide, by decide⟩
  obtain ⟨T8, h8, X8, e8, W8, st8⟩ := stD X1 hx hZ e1 Ar_a3_33_7 (j := (1 : Int32)) hin_a3_33_7 (g := (mkF m 33 #[.val (.ref a1), .val (.int p2), .val (.ref a3), .val (.ref ro), .val (.int (0 : Int32))] [(.double (FP.dadd ed1 (FP.l2d qb))), (.int (1 : Int32)), (.ref a3)])) rfl rfl (hb hby d7_33)
  have V_a3_33_7 : Arv Z h8 a3 kd .double (4 : Int32) [(.double ed0), (.double (FP.dadd ed1 (FP.l2d qb))), (.double ed2), (.double ed3)] (.double (0 : UInt64)) := Arv.set Ar_a3_33_7 q_a3_33_7 S_a3_33_7 N_a3_33_7 H_a3_33_7 G_a3_33_7 rfl W8 1 rfl (Nat.le_of_ble_eq_true rfl)
  have K8 : Keep h0 h8 [a3] := (Keep.refl h0 [a3]).wr W8 (Or.inl (List.mem_of_getElem? (i := 0) rfl))
  have N8 := Fr.snoc X8 N0 g_a3
  obtain ⟨cl_ro_13_9, Ar_ro_13_9, -, S_ro_13_9, N_ro_13_9, -, -⟩ := id (V_ro.other W8 hne_s)
  obtain ⟨cl_ro_21_10, Ar_ro_21_10, q_ro_21_10, S_ro_21_10, N_ro_21_10, H_ro_21_10, G_ro_21_10⟩ := id (V_ro.other W8 hne_s)
  have hin_ro_21_10 : ¬ ((2 : Int32) < 0 ∨ cl_ro_21_10.slots.size ≤ ((2 : Int32) : Int32).toNatClampNeg) := inb_of S_ro_21_10 ⟨by decide, by decide⟩
  obtain ⟨cl_a3_24_11, Ar_a3_24_11, q_a3_24_11, S_a3_24_11, N_a3_24_11, H_a3_24_11, G_a3_24_11⟩ := id V_a3_33_7
  have hin_a3_24_11 : ¬ ((3 : Int32) < 0 ∨ cl_a3_24_11.slots.size ≤ ((3 : Int32) : Int32).toNatClampNeg) := inb_of S_a3_24_11 ⟨by decide, by decide⟩
  obtain ⟨cl_ro_30_12, Ar_ro_30_12, q_ro_30_12, S_ro_30_12, N_ro_30_12, H_ro_30_12, G_ro_30_12⟩ := id (V_ro.other W8 hne_s)
  have hin_ro_30_12 : ¬ ((3 : Int32) < 0 ∨ cl_ro_30_12.slots.size ≤ ((3 : Int32) : Int32).toNatClampNeg) := inb_of S_ro_30_12 ⟨by decide, by decide⟩
  obtain ⟨cl_a3_33_13, Ar_a3_33_13, q_a3_33_13, S_a3_33_13, N_a3_33_13, H_a3_33_13, G_a3_33_13⟩ := id V_a3_33_7
  have hin_a3_33_13 : ¬ ((3 : Int32) < 0 ∨ cl_a3_33_13.slots.size ≤ ((3 : Int32) : Int32).toNatClampNeg) := inb_of S_a3_33_13 ⟨by decide, by decide⟩
  obtain ⟨T14, h14, X14, e14, W14, st14⟩ := stD X8 hx hZ e8 Ar_a3_33_13 (j := (3 : Int32)) hin_a3_33_13 (g := (mkF m 33 #[.val (.ref a1), .val (.int p2), .val (.ref a3), .val (.ref ro), .val (.int (2 : Int32))] [(.double (FP.dadd ed3 (FP.l2d qd))), (.int (3 : Int32)), (.ref a3)])) rfl rfl (hb hby d7_33)
  have V_a3_33_13 : Arv Z h14 a3 kd .double (4 : Int32) [(.double ed0), (.double (FP.dadd ed1 (FP.l2d qb))), (.double ed2), (.double (FP.dadd ed3 (FP.l2d qd)))] (.double (0 : UInt64)) := Arv.set Ar_a3_33_13 q_a3_33_13 S_a3_33_13 N_a3_33_13 H_a3_33_13 G_a3_33_13 rfl W14 3 rfl (Nat.le_of_ble_eq_true rfl)
  have K14 : Keep h0 h14 [a3] := K8.wr W14 (Or.inl (List.mem_of_getElem? (i := 0) rfl))
  have N14 := Fr.snoc X14 N8 g_a3
  obtain ⟨cl_ro_13_15, Ar_ro_13_15, -, S_ro_13_15, N_ro_13_15, -, -⟩ := id ((V_ro.other W8 hne_s).other W14 hne_s)
  obtain ⟨fs, hr, hrun, hended, hW, hsame⟩ := X14.leave (v := none) (fun _ => rfl)
  refine ⟨_, _, pre0 _ ?_, hrun, hended, _, _, rfl, ?_, ⟨_, rfl⟩, hW, hsame.mono (by decide) (by decide)⟩
  · show Steps p.tables e below (s₁.setTop (mkF m 0 #[.val (.ref a1), .val (.int p2), .val (.ref a3), .unset, .unset] [])) _
    refine XS.aloadN X0.here hx rfl (hb hby d7_0) rfl rfl ?_
    show Steps p.tables e below (s₁.setTop (mkF m 1 #[.val (.ref a1), .val (.int p2), .val (.ref a3), .unset, .unset] [(.ref a1)])) _
    refine st1 _ ?_
    refine XS.iloadN X1.here hx rfl (hb hby d7_4) rfl ?_
    refine X1.aaload hx (j := p2) (v := (.ref ro)) (by rw [e1]; exact Ar_rr_5_2.1) (State.isArrayOf_alike hZ.alike Ar_rr_5_2.2.1) rfl Ar_rr_5_2.2.2 hin_rr_5_2 (by rcases hri with rfl | rfl <;> exact H_rr_5_2.at hin_rr_5_2 rfl) (g := (mkF m 5 #[.val (.ref a1), .val (.int p2), .val (.ref a3), .unset, .unset] [(.int p2), (.ref rr)])) rfl rfl (hb hby d7_5) _ ?_
    refine XS.astoreN X1.here hx rfl (hb hby d7_6) rfl rfl (l' := #[.val (.ref a1), .val (.int p2), .val (.ref a3), .val (.ref ro), .unset]) rfl ?_
    refine XS.iconst X1.here hx rfl (hb hby d7_7) ?_
    refine XS.istore X1.here hx rfl (hb hby d7_8) rfl (l' := #[.val (.ref a1), .val (.int p2), .val (.ref a3), .val (.ref ro), .val (.int (0 : Int32))]) rfl ?_
    refine XS.iload X1.here hx rfl (hb hby d7_10) rfl ?_
    refine XS.aloadN X1.here hx rfl (hb hby d7_12) rfl rfl ?_
    refine X1.arraylength hx (by rw [e1]; exact Ar_ro_13_3.1) (State.isArrayOf_alike hZ.alike Ar_ro_13_3.2.1) (g := (mkF m 13 #[.val (.ref a1), .val (.int p2), .val (.ref a3), .val (.ref ro), .val (.int (0 : Int32))] [(.ref ro), (.int (0 : Int32))])) rfl rfl (hb hby d7_13) _ ?_
    rw [len_of S_ro_13_3 N_ro_13_3]
    refine XS.icmpNo X1.here hx rfl (hb hby d7_14) rfl (tlt (by decide : (0 : Int32) < (4 : Int32))).2.1 ?_
    refine XS.aloadN X1.here hx rfl (hb hby d7_17) rfl rfl ?_
    refine XS.aloadN X1.here hx rfl (hb hby d7_18) rfl rfl ?_
    refine XS.iload X1.here hx rfl (hb hby d7_19) rfl ?_
    refine X1.laload hx (j := (0 : Int32)) (v := (.long (1 : Int64))) (by rw [e1]; exact Ar_ro_21_4.1) (State.isArrayOf_alike hZ.alike Ar_ro_21_4.2.1) Ar_ro_21_4.2.2 hin_ro_21_4 (H_ro_21_4.at hin_ro_21_4 rfl) (g := (mkF m 21 #[.val (.ref a1), .val (.int p2), .val (.ref a3), .val (.ref ro), .val (.int (0 : Int32))] [(.int (0 : Int32)), (.ref ro), (.ref a3)])) rfl rfl (hb hby d7_21) _ ?_
    refine XS.l2i X1.here hx rfl (hb hby d7_22) rfl ?_
    refine own_dup2 X1.here hx rfl (hb hby d7_23) rfl rfl rfl ?_
    refine X1.daload hx (j := (1 : Int32)) (v := (.double ed1)) (by rw [e1]; exact Ar_a3_24_5.1) (State.isArrayOf_alike hZ.alike Ar_a3_24_5.2.1) Ar_a3_24_5.2.2 hin_a3_24_5 (H_a3_24_5.at hin_a3_24_5 rfl) (g := (mkF m 24 #[.val (.ref a1), .val (.int p2), .val (.ref a3), .val (.ref ro), .val (.int (0 : Int32))] [(.int (1 : Int32)), (.ref a3), (.int (1 : Int32)), (.ref a3)])) rfl rfl (hb hby d7_24) _ ?_
    refine XS.aloadN X1.here hx rfl (hb hby d7_25) rfl rfl ?_
    refine XS.iload X1.here hx rfl (hb hby d7_26) rfl ?_
    refine XS.iconst X1.here hx rfl (hb hby d7_28) ?_
    refine XS.iadd X1.here hx rfl (hb hby d7_29) rfl ?_
    refine X1.laload hx (j := (1 : Int32)) (v := (.long qb)) (by rw [e1]; exact Ar_ro_30_6.1) (State.isArrayOf_alike hZ.alike Ar_ro_30_6.2.1) Ar_ro_30_6.2.2 hin_ro_30_6 (H_ro_30_6.at hin_ro_30_6 rfl) (g := (mkF m 30 #[.val (.ref a1), .val (.int p2), .val (.ref a3), .val (.ref ro), .val (.int (0 : Int32))] [(.int (1 : Int32)), (.ref ro), (.double ed1), (.int (1 : Int32)), (.ref a3)])) rfl rfl (hb hby d7_30) _ ?_
    refine own_l2d X1.here hx rfl (hb hby d7_31) rfl ?_
    refine own_dadd X1.here hx rfl (hb hby d7_32) rfl hn1 ?_
    show Steps p.tables e below (T1.setTop (mkF m 33 #[.val (.ref a1), .val (.int p2), .val (.ref a3), .val (.ref ro), .val (.int (0 : Int32))] [(.double (FP.dadd ed1 (FP.l2d qb))), (.int (1 : Int32)), (.ref a3)])) _
    refine st8 _ ?_
    refine XS.iinc X8.here hx rfl (hb hby d7_34) rfl (l' := #[.val (.ref a1), .val (.int p2), .val (.ref a3), .val (.ref ro), .val (.int (2 : Int32))]) rfl ?_
    refine XS.goto X8.here hx rfl (pc0 := 37) (pc' := 10) rfl (hb hby d7_37) (by decide) (by decide) ?_
    refine XS.iload X8.here hx rfl (hb hby d7_10) rfl ?_
    refine XS.aloadN X8.here hx rfl (hb hby d7_12) rfl rfl ?_
    refine X8.arraylength hx (by rw [e8]; exact Ar_ro_13_9.1) (State.isArrayOf_alike hZ.alike Ar_ro_13_9.2.1) (g := (mkF m 13 #[.val (.ref a1), .val (.int p2), .val (.ref a3), .val (.ref ro), .val (.int (2 : Int32))] [(.ref ro), (.int (2 : Int32))])) rfl rfl (hb hby d7_13) _ ?_
    rw [len_of S_ro_13_9 N_ro_13_9]
    refine XS.icmpNo X8.here hx rfl (hb hby d7_14) rfl (tlt (by decide : (2 : Int32) < (4 : Int32))).2.1 ?_
    refine XS.aloadN X8.here hx rfl (hb hby d7_17) rfl rfl ?_
    refine XS.aloadN X8.here hx rfl (hb hby d7_18) rfl rfl ?_
    refine XS.iload X8.here hx rfl (hb hby d7_19) rfl ?_
    refine X8.laload hx (j := (2 : Int32)) (v := (.long (3 : Int64))) (by rw [e8]; exact Ar_ro_21_10.1) (State.isArrayOf_alike hZ.alike Ar_ro_21_10.2.1) Ar_ro_21_10.2.2 hin_ro_21_10 (H_ro_21_10.at hin_ro_21_10 rfl) (g := (mkF m 21 #[.val (.ref a1), .val (.int p2), .val (.ref a3), .val (.ref ro), .val (.int (2 : Int32))] [(.int (2 : Int32)), (.ref ro), (.ref a3)])) rfl rfl (hb hby d7_21) _ ?_
    refine XS.l2i X8.here hx rfl (hb hby d7_22) rfl ?_
    refine own_dup2 X8.here hx rfl (hb hby d7_23) rfl rfl rfl ?_
    refine X8.daload hx (j := (3 : Int32)) (v := (.double ed3)) (by rw [e8]; exact Ar_a3_24_11.1) (State.isArrayOf_alike hZ.alike Ar_a3_24_11.2.1) Ar_a3_24_11.2.2 hin_a3_24_11 (H_a3_24_11.at hin_a3_24_11 rfl) (g := (mkF m 24 #[.val (.ref a1), .val (.int p2), .val (.ref a3), .val (.ref ro), .val (.int (2 : Int32))] [(.int (3 : Int32)), (.ref a3), (.int (3 : Int32)), (.ref a3)])) rfl rfl (hb hby d7_24) _ ?_
    refine XS.aloadN X8.here hx rfl (hb hby d7_25) rfl rfl ?_
    refine XS.iload X8.here hx rfl (hb hby d7_26) rfl ?_
    refine XS.iconst X8.here hx rfl (hb hby d7_28) ?_
    show Steps p.tables e below (T8.setTop (mkF m 29 #[.val (.ref a1), .val (.int p2), .val (.ref a3), .val (.ref ro), .val (.int (2 : Int32))] [(.int (1 : Int32)), (.int (2 : Int32)), (.ref ro), (.double ed3), (.int (3 : Int32)), (.ref a3)])) _
    refine XS.iadd X8.here hx rfl (hb hby d7_29) rfl ?_
    refine X8.laload hx (j := (3 : Int32)) (v := (.long qd)) (by rw [e8]; exact Ar_ro_30_12.1) (State.isArrayOf_alike hZ.alike Ar_ro_30_12.2.1) Ar_ro_30_12.2.2 hin_ro_30_12 (H_ro_30_12.at hin_ro_30_12 rfl) (g := (mkF m 30 #[.val (.ref a1), .val (.int p2), .val (.ref a3), .val (.ref ro), .val (.int (2 : Int32))] [(.int (3 : Int32)), (.ref ro), (.double ed3), (.int (3 : Int32)), (.ref a3)])) rfl rfl (hb hby d7_30) _ ?_
    refine own_l2d X8.here hx rfl (hb hby d7_31) rfl ?_
    refine own_dadd X8.here hx rfl (hb hby d7_32) rfl hn3 ?_
    show Steps p.tables e below (T8.setTop (mkF m 33 #[.val (.ref a1), .val (.int p2), .val (.ref a3), .val (.ref ro), .val (.int (2 : Int32))] [(.double (FP.dadd ed3 (FP.l2d qd))), (.int (3 : Int32)), (.ref a3)])) _
    refine st14 _ ?_
    refine XS.iinc X14.here hx rfl (hb hby d7_34) rfl (l' := #[.val (.ref a1), .val (.int p2), .val (.ref a3), .val (.ref ro), .val (.int (4 : Int32))]) rfl ?_
    refine XS.goto X14.here hx rfl (pc0 := 37) (pc' := 10) rfl (hb hby d7_37) (by decide) (by decide) ?_
    refine XS.iload X14.here hx rfl (hb hby d7_10) rfl ?_
    refine XS.aloadN X14.here hx rfl (hb hby d7_12) rfl rfl ?_
    refine X14.arraylength hx (by rw [e14]; exact Ar_ro_13_15.1) (State.isArrayOf_alike hZ.alike Ar_ro_13_15.2.1) (g := (mkF m 13 #[.val (.ref a1), .val (.int p2), .val (.ref a3), .val (.ref ro), .val (.int (4 : Int32))] [(.ref ro), (.int (4 : Int32))])) rfl rfl (hb hby d7_13) _ ?_
    rw [len_of S_ro_13_15 N_ro_13_15]
    refine XS.icmpYes X14.here hx rfl (pc0 := 14) (pc' := 40) rfl (hb hby d7_14) rfl (flt (by decide : ¬ ((4 : Int32) < (4 : Int32)))).2.1 (by decide) (by decide) ?_
    show Steps p.tables e below (T14.setTop (mkF m 40 #[.val (.ref a1), .val (.int p2), .val (.ref a3), .val (.ref ro), .val (.int (4 : Int32))] [])) _
    exact X14.returnOut hx Bd.returns (hb hby d7_40) hr
  · show Q_ato_10 Z a1 p2 a3 rr kr ro sg ka qa qb qc qd kd ed0 ed1 ed2 ed3 h0 n0 _ T14.heap _
    rw [e14]
    exact ⟨rfl, N14, K14, V_a3_33_13⟩
theorem ef_ato_11 (m : MethodId) (a1 : Addr) (p2 : Int32) (a3 : Addr) : entryFrame m #[(.ref a1), (.int p2), (.ref a3)] 5 = (mkF m 0 #[.val (.ref a1), .val (.int p2), .val (.ref a3), .unset, .unset] []) := by first | (simp [entryFrame, mkF, argsToLocals, Value.category]; done) | rfl
def Q_ato_11 (Z : State) (a1 : Addr) (p2 : Int32) (a3 : Addr) (rr : Addr) (kr : ClassId) (ro : Addr) (sg : Addr) (ka : ClassId) (qa : Int64) (qb : Int64) (qc : Int64) (qd : Int64) (kd : ClassId) (ed0 : UInt64) (ed1 : UInt64) (ed2 : UInt64) (ed3 : UInt64) (h0 : Heap) (n0 : Nat) (v : Option Value) (h : Heap) (L : List Loc) : Prop := v = none ∧ Fr n0 L ∧ Keep h0 h [a3] ∧ Arv Z h a3 kd .double (4 : Int32) [(.double (FP.dadd ed0 (FP.l2d qa))), (.double (FP.dadd ed1 (FP.l2d qb))), (.double ed2), (.double (FP.dadd ed3 (FP.l2d qd)))] (.double (0 : UInt64))
set_option maxRecDepth 65536 in
set_option maxHeartbeats 40000000 in
theorem rm_ato_11 (l : Launch) (Z : State) (a0 : Array Value) (hw : ∀ d ∈ tables_1, d.before a0 Z = true) (ws : List Jvm.Cond) (a1 : Addr) (p2 : Int32) (a3 : Addr) (rr : Addr) (kr : ClassId) (ro : Addr) (sg : Addr) (ka : ClassId) (qa : Int64) (qb : Int64) (qc : Int64) (qd : Int64) (kd : ClassId) (ed0 : UInt64) (ed1 : UInt64) (ed2 : UInt64) (ed3 : UInt64) (h0 : Heap) (n0 : Nat) (Z0 : n0 ≤ h0.size) (F_rows : Fld Z h0 a1 "com/example/chartlight/chartlight/label/WeightRows" "_rows" "[[J" (.ref rr)) (V_rr : Arv Z h0 rr kr (.array .long) (2 : Int32) (own_pair p2 (.ref ro) (.ref sg)) .null) (V_ro : Arv Z h0 ro ka .long (6 : Int32) [(.long (0 : Int64)), (.long qa), (.long (1 : Int64)), (.long qb), (.long (3 : Int64)), (.long qd)] (.long (0 : Int64))) (V_a3 : Arv Z h0 a3 kd .double (4 : Int32) [(.double ed0), (.double ed1), (.double ed2), (.double ed3)] (.double (0 : UInt64))) (g_a3 : n0 ≤ a3) (hri : p2 = (0 : Int32) ∨ p2 = (1 : Int32)) (hne_s : ro ≠ a3) (hn0 : FP.dadd ed0 (FP.l2d qa) &&& 0x7fffffffffffffff ≤ 0x7ff0000000000000) (hn1 : FP.dadd ed1 (FP.l2d qb) &&& 0x7fffffffffffffff ≤ 0x7ff0000000000000) (hn3 : FP.dadd ed3 (FP.l2d qd) &&& 0x7fffffffffffffff ≤ 0x7ff0000000000000) :
    MetFree l (⟨"com/example/chartlight/chartlight/label/WeightRows", "addTo", "(I[D)V"⟩ : MethodName) (head1 (Jvm.Cond.code (⟨"com/example/chartlight/chartlight/label/WeightRows", "addTo", "(I[D)V"⟩ : MethodName) prog_58_method_8_code 5 none :: ws) ({ frames := 0, cells := 0, slots := 0, locals := 0 } : Room)) (fun a U => a = #[(.ref a1), (.int p2), (.ref a3)] ∧ Z.Warmed39 U.vm ∧ U.heap = h0) (fun _ _ _ _ _ => True) (fun _ U o U' => ∃ v L, o = .returned v ∧ Q_ato_11 Z a1 p2 a3 rr kr ro sg ka qa qb qc qd kd ed0 ed1 ed2 ed3 h0 n0 v U'.heap L ∧ FrameEnd U o U' L ({ frames := 0, cells := 0, slots := 0, locals := 0 } : Room).cells ({ frames := 0, cells := 0, slots := 0, locals := 0 } : Room).slots) := by
  refine MetFree.of_bodySF (plainFor_of_name pn0) hisR ?_
  intro p e s m args below meth c s₁ Bd hml0 hP hK
  obtain ⟨rfl, hZ, hh⟩ := hP
  have hx := Bd.exec
  have hby := Bd.bytes
  have hml : c.maxLocals = 5 := hml0
  have hown : s.vm.findClass "com/example/chartlight/chartlight/label/WeightRows" = some m.cls := findClass_of_methodNamed Bd.named
  have hnm := (name_of_methodNamed Bd.named Bd.method).1
  have X0 : Stand p l e ({ frames := 0, cells := 0, slots := 0, locals := 0 } : Room) s m #[(.ref a1), (.int p2), (.ref a3)] below meth c s₁ [] 0 0 := Stand.of_body Bd
  have e0 : s₁.heap = h0 := by rw [← hh, Bd.state]; rfl
  have N0 := Fr.nil n0
  have pre0 : ∀ t, Steps p.tables e below (s₁.setTop (mkF m 0 #[.val (.ref a1), .val (.int p2), .val (.ref a3), .unset, .unset] [])) t → Steps p.tables e below (s₁.setTop (entryFrame m #[(.ref a1), (.int p2), (.ref a3)] 5)) t := fun t k => castTop (ef_ato_11 m a1 p2 a3) k
  obtain ⟨T1, X1, e1, st1⟩ := getF X0 hx hZ hown (host := "") (Or.inl (hw _ (List.mem_of_getElem? (i := 11) rfl))) Via.refl e0 F_rows (g := (mkF m 1 #[.val (.ref a1), .val (.int p2), .val (.ref a3), .unset, .unset] [(.ref a1)])) rfl rfl (hb hby d7_1)
  obtain ⟨cl_rr_5_2, Ar_rr_5_2, q_rr_5_2, S_rr_5_2, N_rr_5_2, H_rr_5_2, G_rr_5_2⟩ := id V_rr
  have hin_rr_5_2 : ¬ (p2 < 0 ∨ cl_rr_5_2.slots.size ≤ (p2 : Int32).toNatClampNeg) := by rcases hri with rfl | rfl <;> exact inb_of S_rr_5_2 ⟨by decide, by decide⟩
  obtain ⟨cl_ro_13_3, Ar_ro_13_3, -, S_ro_13_3, N_ro_13_3, -, -⟩ := id V_ro
  obtain ⟨cl_ro_21_4, Ar_ro_21_4, q_ro_21_4, S_ro_21_4, N_ro_21_4, H_ro_21_4, G_ro_21_4⟩ := id V_ro
  have hin_ro_21_4 : ¬ ((0 : Int32) < 0 ∨ cl_ro_21_4.slots.size ≤ ((0 : Int32) : Int32).toNatClampNeg) := inb_of S_ro_21_4 ⟨by decide, by decide⟩
  obtain ⟨cl_a3_24_5, Ar_a3_24_5, q_a3_24_5, S_a3_24_5, N_a3_24_5, H_a3_24_5, G_a3_24_5⟩ := id V_a3
  have hin_a3_24_5 : ¬ ((0 : Int32) < 0 ∨ cl_a3_24_5.slots.size ≤ ((0 : Int32) : Int32).toNatClampNeg) := inb_of S_a3_24_5 ⟨by decide, by decide⟩
  obtain ⟨cl_ro_30_6, Ar_ro_30_6, q_ro_30_6, S_ro_30_6, N_ro_30_6, H_ro_30_6, G_ro_30_6⟩ := id V_ro
  have hin_ro_30_6 : ¬ ((1 : Int32) < 0 ∨ cl_ro_30_6.slots.size ≤ ((1 : Int32) : Int32).toNatClampNeg) := inb_of S_ro_30_6 ⟨by decide, by decide⟩
  obtain ⟨cl_a3_33_7, Ar_a3_33_7, q_a3_33_7, S_a3_33_7, N_a3_33_7, H_a3_33_7, G_a3_33_7⟩ := id V_a3
  have hin_a3_33_7 : ¬ ((0 : Int32) < 0 ∨ cl_a3_33_7.slots.size ≤ ((0 : Int32) : Int32).toNatClampNeg) := inb_of S_a3_33_7 ⟨by decide, by decide⟩
  obtain ⟨T8, h8, X8, e8, W8, st8⟩ := stD X1 hx hZ e1 Ar_a3_33_7 (j := (0 : Int32)) hin_a3_33_7 (g := (mkF m 33 #[.val (.ref a1), .val (.int p2), .val (.ref a3), .val (.ref ro), .val (.int (0 : Int32))] [(.double (FP.dadd ed0 (FP.l2d qa))), (.int (0 : Int32)), (.ref a3)])) rfl rfl (hb hby d7_33)
  have V_a3_33_7 : Arv Z h8 a3 kd .double (4 : Int32) [(.double (FP.dadd ed0 (FP.l2d qa))), (.double ed1), (.double ed2), (.double ed3)] (.double (0 : UInt64)) := Arv.set Ar_a3_33_7 q_a3_33_7 S_a3_33_7 N_a3_33_7 H_a3_33_7 G_a3_33_7 rfl W8 0 rfl (Nat.le_of_ble_eq_true rfl)
  have K8 : Keep h0 h8 [a3] := (Keep.refl h0 [a3]).wr W8 (Or.inl (List.mem_of_getElem? (i := 0) rfl))
  have N8 := Fr.snoc X8 N0 g_a3
  obtain ⟨cl_ro_13_9, Ar_ro_13_9, -, S_ro_13_9, N_ro_13_9, -, -⟩ := id (V_ro.other W8 hne_s)
  obtain ⟨cl_ro_21_10, Ar_ro_21_10, q_ro_21_10, S_ro_21_10, N_ro_21_10, H_ro_21_10, G_ro_21_10⟩ := id (V_ro.other W8 hne_s)
  have hin_ro_21_10 : ¬ ((2 : Int32) < 0 ∨ cl_ro_21_10.slots.size ≤ ((2 : Int32) : Int32).toNatClampNeg) := inb_of S_ro_21_10 ⟨by decide, by decide⟩
  obtain ⟨cl_a3_24_11, Ar_a3_24_11, q_a3_24_11, S_a3_24_11, N_a3_24_11, H_a3_24_11, G_a3_24_11⟩ := id V_a3_33_7
  have hin_a3_24_11 : ¬ ((1 : Int32) < 0 ∨ cl_a3_24_11.slots.size ≤ ((1 : Int32) : Int32).toNatClampNeg) := inb_of S_a3_24_11 ⟨by decide, by decide⟩
  obtain ⟨cl_ro_30_12, Ar_ro_30_12, q_ro_30_12, S_ro_30_12, N_ro_30_12, H_ro_30_12, G_ro_30_12⟩ := id (V_ro.other W8 hne_s)
  have hin_ro_30_12 : ¬ ((3 : Int32) < 0 ∨ cl_ro_30_12.slots.size ≤ ((3 : Int32) : Int32).toNatClampNeg) := inb_of S_ro_30_12 ⟨by decide, by decide⟩
  obtain ⟨cl_a3_33_13, Ar_a3_33_13, q_a3_33_13, S_a3_33_13, N_a3_33_13, H_a3_33_13, G_a3_33_13⟩ := id V_a3_33_7
  have hin_a3_33_13 : ¬ ((1 : Int32) < 0 ∨ cl_a3_33_13.slots.size ≤ ((1 : Int32) : Int32).toNatClampNeg) := inb_of S_a3_33_13 ⟨by decide, by decide⟩
  obtain ⟨T14, h14, X14, e14, W14, st14⟩ := stD X8 hx hZ e8 Ar_a3_33_13 (j := (1 : Int32)) hin_a3_33_13 (g := (mkF m 33 #[.val (.ref a1), .val (.int p2), .val (.ref a3), .val (.ref ro), .val (.int (2 : Int32))] [(.double (FP.dadd ed1 (FP.l2d qb))), (.int (1 : Int32)), (.ref a3)])) rfl rfl (hb hby d7_33)
  have V_a3_33_13 : Arv Z h14 a3 kd .double (4 : Int32) [(.double (FP.dadd ed0 (FP.l2d qa))), (.double (FP.dadd ed1 (FP.l2d qb))), (.double ed2), (.double ed3)] (.double (0 : UInt64)) := Arv.set Ar_a3_33_13 q_a3_33_13 S_a3_33_13 N_a3_33_13 H_a3_33_13 G_a3_33_13 rfl W14 1 rfl (Nat.le_of_ble_eq_true rfl)
  have K14 : Keep h0 h14 [a3] := K8.wr W14 (Or.inl (List.mem_of_getElem? (i := 0) rfl))
  have N14 := Fr.snoc X14 N8 g_a3
  obtain ⟨cl_ro_13_15, Ar_ro_13_15, -, S_ro_13_15, N_ro_13_15, -, -⟩ := id ((V_ro.other W8 hne_s).other W14 hne_s)
  obtain ⟨cl_ro_21_16, Ar_ro_21_16, q_ro_21_16, S_ro_21_16, N_ro_21_16, H_ro_21_16, G_ro_21_16⟩ := id ((V_ro.other W8 hne_s).other W14 hne_s)
  have hin_ro_21_16 : ¬ ((4 : Int32) < 0 ∨ cl_ro_21_16.slots.size ≤ ((4 : Int32) : Int32).toNatClampNeg) := inb_of S_ro_21_16 ⟨by decide, by decide⟩
  obtain ⟨cl_a3_24_17, Ar_a3_24_17, q_a3_24_17, S_a3_24_17, N_a3_24_17, H_a3_24_17, G_a3_24_17⟩ := id V_a3_33_13
  have hin_a3_24_17 : ¬ ((3 : Int32) < 0 ∨ cl_a3_24_17.slots.size ≤ ((3 : Int32) : Int32).toNatClampNeg) := inb_of S_a3_24_17 ⟨by decide, by decide⟩
  obtain ⟨cl_ro_30_18, Ar_ro_30_18, q_ro_30_18, S_ro_30_18, N_ro_30_18, H_ro_30_18, G_ro_30_18⟩ := id ((V_ro.other W8 hne_s).other W14 hne_s)
  have hin_ro_30_18 : ¬ ((5 : Int32) < 0 ∨ cl_ro_30_18.slots.size ≤ ((5 : Int32) : Int32).toNatClampNeg) := inb_of S_ro_30_18 ⟨by decide, by decide⟩
  obtain ⟨cl_a3_33_19, Ar_a3_33_19, q_a3_33_19, S_a3_33_19, N_a3_33_19, H_a3_33_19, G_a3_33_19⟩ := id V_a3_33_13
  have hin_a3_33_19 : ¬ ((3 : Int32) < 0 ∨ cl_a3_33_19.slots.size ≤ ((3 : Int32) : Int32).toNatClampNeg) := inb_of S_a3_33_19 ⟨by decide, by decide⟩
  obtain ⟨T20, h20, X20, e20, W20, st20⟩ := stD X14 hx hZ e14 Ar_a3_33_19 (j := (3 : Int32)) hin_a3_33_19 (g := (mkF m 33 #[.val (.ref a1), .val (.int p2), .val (.ref a3), .val (.ref ro), .val (.int (4 : Int32))] [(.double (FP.dadd ed3 (FP.l2d qd))), (.int (3 : Int32)), (.ref a3)])) rfl rfl (hb hby d7_33)
  have V_a3_33_19 : Arv Z h20 a3 kd .double (4 : Int32) [(.double (FP.dadd ed0 (FP.l2d qa))), (.double (FP.dadd ed1 (FP.l2d qb))), (.double ed2), (.double (FP.dadd ed3 (FP.l2d qd)))] (.double (0 : UInt64)) := Arv.set Ar_a3_33_19 q_a3_33_19 S_a3_33_19 N_a3_33_19 H_a3_33_19 G_a3_33_19 rfl W20 3 rfl (Nat.le_of_ble_eq_true rfl)
  have K20 : Keep h0 h20 [a3] := K14.wr W20 (Or.inl (List.mem_of_getElem? (i := 0) rfl))
  have N20 := Fr.snoc X20 N14 g_a3
  obtain ⟨cl_ro_13_21, Ar_ro_13_21, -, S_ro_13_21, N_ro_13_21, -, -⟩ := id (((V_ro.other W8 hne_s).other W14 hne_s).other W20 hne_s)
  obtain ⟨fs, hr, hrun, hended, hW, hsame⟩ := X20.leave (v := none) (fun _ => rfl)
  refine ⟨_, _, pre0 _ ?_, hrun, hended, _, _, rfl, ?_, ⟨_, rfl⟩, hW, hsame.mono (by decide) (by decide)⟩
  · show Steps p.tables e below (s₁.setTop (mkF m 0 #[.val (.ref a1), .val (.int p2), .val (.ref a3), .unset, .unset] [])) _
    refine XS.aloadN X0.here hx rfl (hb hby d7_0) rfl rfl ?_
    show Steps p.tables e below (s₁.setTop (mkF m 1 #[.val (.ref a1), .val (.int p2), .val (.ref a3), .unset, .unset] [(.ref a1)])) _
    refine st1 _ ?_
    refine XS.iloadN X1.here hx rfl (hb hby d7_4) rfl ?_
    refine X1.aaload hx (j := p2) (v := (.ref ro)) (by rw [e1]; exact Ar_rr_5_2.1) (State.isArrayOf_alike hZ.alike Ar_rr_5_2.2.1) rfl Ar_rr_5_2.2.2 hin_rr_5_2 (by rcases hri with rfl | rfl <;> exact H_rr_5_2.at hin_rr_5_2 rfl) (g := (mkF m 5 #[.val (.ref a1), .val (.int p2), .val (.ref a3), .unset, .unset] [(.int p2), (.ref rr)])) rfl rfl (hb hby d7_5) _ ?_
    refine XS.astoreN X1.here hx rfl (hb hby d7_6) rfl rfl (l' := #[.val (.ref a1), .val (.int p2), .val (.ref a3), .val (.ref ro), .unset]) rfl ?_
    refine XS.iconst X1.here hx rfl (hb hby d7_7) ?_
    refine XS.istore X1.here hx rfl (hb hby d7_8) rfl (l' := #[.val (.ref a1), .val (.int p2), .val (.ref a3), .val (.ref ro), .val (.int (0 : Int32))]) rfl ?_
    refine XS.iload X1.here hx rfl (hb hby d7_10) rfl ?_
    refine XS.aloadN X1.here hx rfl (hb hby d7_12) rfl rfl ?_
    refine X1.arraylength hx (by rw [e1]; exact Ar_ro_13_3.1) (State.isArrayOf_alike hZ.alike Ar_ro_13_3.2.1) (g := (mkF m 13 #[.val (.ref a1), .val (.int p2), .val (.ref a3), .val (.ref ro), .val (.int (0 : Int32))] [(.ref ro), (.int (0 : Int32))])) rfl rfl (hb hby d7_13) _ ?_
    rw [len_of S_ro_13_3 N_ro_13_3]
    refine XS.icmpNo X1.here hx rfl (hb hby d7_14) rfl (tlt (by decide : (0 : Int32) < (6 : Int32))).2.1 ?_
    refine XS.aloadN X1.here hx rfl (hb hby d7_17) rfl rfl ?_
    refine XS.aloadN X1.here hx rfl (hb hby d7_18) rfl rfl ?_
    refine XS.iload X1.here hx rfl (hb hby d7_19) rfl ?_
    refine X1.laload hx (j := (0 : Int32)) (v := (.long (0 : Int64))) (by rw [e1]; exact Ar_ro_21_4.1) (State.isArrayOf_alike hZ.alike Ar_ro_21_4.2.1) Ar_ro_21_4.2.2 hin_ro_21_4 (H_ro_21_4.at hin_ro_21_4 rfl) (g := (mkF m 21 #[.val (.ref a1), .val (.int p2), .val (.ref a3), .val (.ref ro), .val (.int (0 : Int32))] [(.int (0 : Int32)), (.ref ro), (.ref a3)])) rfl rfl (hb hby d7_21) _ ?_
    refine XS.l2i X1.here hx rfl (hb hby d7_22) rfl ?_
    refine own_dup2 X1.here hx rfl (hb hby d7_23) rfl rfl rfl ?_
    refine X1.daload hx (j := (0 : Int32)) (v := (.double ed0)) (by rw [e1]; exact Ar_a3_24_5.1) (State.isArrayOf_alike hZ.alike Ar_a3_24_5.2.1) Ar_a3_24_5.2.2 hin_a3_24_5 (H_a3_24_5.at hin_a3_24_5 rfl) (g := (mkF m 24 #[.val (.ref a1), .val (.int p2), .val (.ref a3), .val (.ref ro), .val (.int (0 : Int32))] [(.int (0 : Int32)), (.ref a3), (.int (0 : Int32)), (.ref a3)])) rfl rfl (hb hby d7_24) _ ?_
    refine XS.aloadN X1.here hx rfl (hb hby d7_25) rfl rfl ?_
    refine XS.iload X1.here hx rfl (hb hby d7_26) rfl ?_
    refine XS.iconst X1.here hx rfl (hb hby d7_28) ?_
    refine XS.iadd X1.here hx rfl (hb hby d7_29) rfl ?_
    refine X1.laload hx (j := (1 : Int32)) (v := (.long qa)) (by rw [e1]; exact Ar_ro_30_6.1) (State.isArrayOf_alike hZ.alike Ar_ro_30_6.2.1) Ar_ro_30_6.2.2 hin_ro_30_6 (H_ro_30_6.at hin_ro_30_6 rfl) (g := (mkF m 30 #[.val (.ref a1), .val (.int p2), .val (.ref a3), .val (.ref ro), .val (.int (0 : Int32))] [(.int (1 : Int32)), (.ref ro), (.double ed0), (.int (0 : Int32)), (.ref a3)])) rfl rfl (hb hby d7_30) _ ?_
    refine own_l2d X1.here hx rfl (hb hby d7_31) rfl ?_
    refine own_dadd X1.here hx rfl (hb hby d7_32) rfl hn0 ?_
    show Steps p.tables e below (T1.setTop (mkF m 33 #[.val (.ref a1), .val (.int p2), .val (.ref a3), .val (.ref ro), .val (.int (0 : Int32))] [(.double (FP.dadd ed0 (FP.l2d qa))), (.int (0 : Int32)), (.ref a3)])) _
    refine st8 _ ?_
    refine XS.iinc X8.here hx rfl (hb hby d7_34) rfl (l' := #[.val (.ref a1), .val (.int p2), .val (.ref a3), .val (.ref ro), .val (.int (2 : Int32))]) rfl ?_
    refine XS.goto X8.here hx rfl (pc0 := 37) (pc' := 10) rfl (hb hby d7_37) (by decide) (by decide) ?_
    refine XS.iload X8.here hx rfl (hb hby d7_10) rfl ?_
    refine XS.aloadN X8.here hx rfl (hb hby d7_12) rfl rfl ?_
    refine X8.arraylength hx (by rw [e8]; exact Ar_ro_13_9.1) (State.isArrayOf_alike hZ.alike Ar_ro_13_9.2.1) (g := (mkF m 13 #[.val (.ref a1), .val (.int p2), .val (.ref a3), .val (.ref ro), .val (.int (2 : Int32))] [(.ref ro), (.int (2 : Int32))])) rfl rfl (hb hby d7_13) _ ?_
    rw [len_of S_ro_13_9 N_ro_13_9]
    refine XS.icmpNo X8.here hx rfl (hb hby d7_14) rfl (tlt (by decide : (2 : Int32) < (6 : Int32))).2.1 ?_
    refine XS.aloadN X8.here hx rfl (hb hby d7_17) rfl rfl ?_
    refine XS.aloadN X8.here hx rfl (hb hby d7_18) rfl rfl ?_
    refine XS.iload X8.here hx rfl (hb hby d7_19) rfl ?_
    refine X8.laload hx (j := (2 : Int32)) (v := (.long (1 : Int64))) (by rw [e8]; exact Ar_ro_21_10.1) (State.isArrayOf_alike hZ.alike Ar_ro_21_10.2.1) Ar_ro_21_10.2.2 hin_ro_21_10 (H_ro_21_10.at hin_ro_21_10 rfl) (g := (mkF m 21 #[.val (.ref a1), .val (.int p2), .val (.ref a3), .val (.ref ro), .val (.int (2 : Int32))] [(.int (2 : Int32)), (.ref ro), (.ref a3)])) rfl rfl (hb hby d7_21) _ ?_
    refine XS.l2i X8.here hx rfl (hb hby d7_22) rfl ?_
    refine own_dup2 X8.here hx rfl (hb hby d7_23) rfl rfl rfl ?_
    refine X8.daload hx (j := (1 : Int32)) (v := (.double ed1)) (by rw [e8]; exact Ar_a3_24_11.1) (State.isArrayOf_alike hZ.alike Ar_a3_24_11.2.1) Ar_a3_24_11.2.2 hin_a3_24_11 (H_a3_24_11.at hin_a3_24_11 rfl) (g := (mkF m 24 #[.val (.ref a1), .val (.int p2), .val (.ref a3), .val (.ref ro), .val (.int (2 : Int32))] [(.int (1 : Int32)), (.ref a3), (.int (1 : Int32)), (.ref a3)])) rfl rfl (hb hby d7_24) _ ?_
    refine XS.aloadN X8.here hx rfl (hb hby d7_25) rfl rfl ?_
    refine XS.iload X8.here hx rfl (hb hby d7_26) rfl ?_
    refine XS.iconst X8.here hx rfl (hb hby d7_28) ?_
    show Steps p.tables e below (T8.setTop (mkF m 29 #[.val (.ref a1), .val (.int p2), .val (.ref a3), .val (.ref ro), .val (.int (2 : Int32))] [(.int (1 : Int32)), (.int (2 : Int32)), (.ref ro), (.double ed1), (.int (1 : Int32)), (.ref a3)])) _
    refine XS.iadd X8.here hx rfl (hb hby d7_29) rfl ?_
    refine X8.laload hx (j := (3 : Int32)) (v := (.long qb)) (by rw [e8]; exact Ar_ro_30_12.1) (State.isArrayOf_alike hZ.alike Ar_ro_30_12.2.1) Ar_ro_30_12.2.2 hin_ro_30_12 (H_ro_30_12.at hin_ro_30_12 rfl) (g := (mkF m 30 #[.val (.ref a1), .val (.int p2), .val (.ref a3), .val (.ref ro), .val (.int (2 : Int32))] [(.int (3 : Int32)), (.ref ro), (.double ed1), (.int (1 : Int32)), (.ref a3)])) rfl rfl (hb hby d7_30) _ ?_
    refine own_l2d X8.here hx rfl (hb hby d7_31) rfl ?_
    refine own_dadd X8.here hx rfl (hb hby d7_32) rfl hn1 ?_
    show Steps p.tables e below (T8.setTop (mkF m 33 #[.val (.ref a1), .val (.int p2), .val (.ref a3), .val (.ref ro), .val (.int (2 : Int32))] [(.double (FP.dadd ed1 (FP.l2d qb))), (.int (1 : Int32)), (.ref a3)])) _
    refine st14 _ ?_
    refine XS.iinc X14.here hx rfl (hb hby d7_34) rfl (l' := #[.val (.ref a1), .val (.int p2), .val (.ref a3), .val (.ref ro), .val (.int (4 : Int32))]) rfl ?_
    refine XS.goto X14.here hx rfl (pc0 := 37) (pc' := 10) rfl (hb hby d7_37) (by decide) (by decide) ?_
    refine XS.iload X14.here hx rfl (hb hby d7_10) rfl ?_
    refine XS.aloadN X14.here hx rfl (hb hby d7_12) rfl rfl ?_
    refine X14.arraylength hx (by rw [e14]; exact Ar_ro_13_15.1) (State.isArrayOf_alike hZ.alike Ar_ro_13_15.2.1) (g := (mkF m 13 #[.val (.ref a1), .val (.int p2), .val (.ref a3), .val (.ref ro), .val (.int (4 : Int32))] [(.ref ro), (.int (4 : Int32))])) rfl rfl (hb hby d7_13) _ ?_
    rw [len_of S_ro_13_15 N_ro_13_15]
    refine XS.icmpNo X14.here hx rfl (hb hby d7_14) rfl (tlt (by decide : (4 : Int32) < (6 : Int32))).2.1 ?_
    refine XS.aloadN X14.here hx rfl (hb hby d7_17) rfl rfl ?_
    refine XS.aloadN X14.here hx rfl (hb hby d7_18) rfl rfl ?_
    refine XS.iload X14.here hx rfl (hb hby d7_19) rfl ?_
    refine X14.laload hx (j := (4 : Int32)) (v := (.long (3 : Int64))) (by rw [e14]; exact Ar_ro_21_16.1) (State.isArrayOf_alike hZ.alike Ar_ro_21_16.2.1) Ar_ro_21_16.2.2 hin_ro_21_16 (H_ro_21_16.at hin_ro_21_16 rfl) (g := (mkF m 21 #[.val (.ref a1), .val (.int p2), .val (.ref a3), .val (.ref ro), .val (.int (4 : Int32))] [(.int (4 : Int32)), (.ref ro), (.ref a3)])) rfl rfl (hb hby d7_21) _ ?_
    refine XS.l2i X14.here hx rfl (hb hby d7_22) rfl ?_
    refine own_dup2 X14.here hx rfl (hb hby d7_23) rfl rfl rfl ?_
    refine X14.daload hx (j := (3 : Int32)) (v := (.double ed3)) (by rw [e14]; exact Ar_a3_24_17.1) (State.isArrayOf_alike hZ.alike Ar_a3_24_17.2.1) Ar_a3_24_17.2.2 hin_a3_24_17 (H_a3_24_17.at hin_a3_24_17 rfl) (g := (mkF m 24 #[.val (.ref a1), .val (.int p2), .val (.ref a3), .val (.ref ro), .val (.int (4 : Int32))] [(.int (3 : Int32)), (.ref a3), (.int (3 : Int32)), (.ref a3)])) rfl rfl (hb hby d7_24) _ ?_
    refine XS.aloadN X14.here hx rfl (hb hby d7_25) rfl rfl ?_
    refine XS.iload X14.here hx rfl (hb hby d7_26) rfl ?_
    refine XS.iconst X14.here hx rfl (hb hby d7_28) ?_
    refine XS.iadd X14.here hx rfl (hb hby d7_29) rfl ?_
    refine X14.laload hx (j := (5 : Int32)) (v := (.long qd)) (by rw [e14]; exact Ar_ro_30_18.1) (State.isArrayOf_alike hZ.alike Ar_ro_30_18.2.1) Ar_ro_30_18.2.2 hin_ro_30_18 (H_ro_30_18.at hin_ro_30_18 rfl) (g := (mkF m 30 #[.val (.ref a1), .val (.int p2), .val (.ref a3), .val (.ref ro), .val (.int (4 : Int32))] [(.int (5 : Int32)), (.ref ro), (.double ed3), (.int (3 : Int32)), (.ref a3)])) rfl rfl (hb hby d7_30) _ ?_
    refine own_l2d X14.here hx rfl (hb hby d7_31) rfl ?_
    refine own_dadd X14.here hx rfl (hb hby d7_32) rfl hn3 ?_
    show Steps p.tables e below (T14.setTop (mkF m 33 #[.val (.ref a1), .val (.int p2), .val (.ref a3), .val (.ref ro), .val (.int (4 : Int32))] [(.double (FP.dadd ed3 (FP.l2d qd))), (.int (3 : Int32)), (.ref a3)])) _
    refine st20 _ ?_
    refine XS.iinc X20.here hx rfl (hb hby d7_34) rfl (l' := #[.val (.ref a1), .val (.int p2), .val (.ref a3), .val (.ref ro), .val (.int (6 : Int32))]) rfl ?_
    refine XS.goto X20.here hx rfl (pc0 := 37) (pc' := 10) rfl (hb hby d7_37) (by decide) (by decide) ?_
    refine XS.iload X20.here hx rfl (hb hby d7_10) rfl ?_
    refine XS.aloadN X20.here hx rfl (hb hby d7_12) rfl rfl ?_
    refine X20.arraylength hx (by rw [e20]; exact Ar_ro_13_21.1) (State.isArrayOf_alike hZ.alike Ar_ro_13_21.2.1) (g := (mkF m 13 #[.val (.ref a1), .val (.int p2), .val (.ref a3), .val (.ref ro), .val (.int (6 : Int32))] [(.ref ro), (.int (6 : Int32))])) rfl rfl (hb hby d7_13) _ ?_
    rw [len_of S_ro_13_21 N_ro_13_21]
    refine XS.icmpYes X20.here hx rfl (pc0 := 14) (pc' := 40) rfl (hb hby d7_14) rfl (flt (by decide : ¬ ((6 : Int32) < (6 : Int32)))).2.1 (by decide) (by decide) ?_
    show Steps p.tables e below (T20.setTop (mkF m 40 #[.val (.ref a1), .val (.int p2), .val (.ref a3), .val (.ref ro), .val (.int (6 : Int32))] [])) _
    exact X20.returnOut hx Bd.returns (hb hby d7_40) hr
  · show Q_ato_11 Z a1 p2 a3 rr kr ro sg ka qa qb qc qd kd ed0 ed1 ed2 ed3 h0 n0 _ T20.heap _
    rw [e20]
    exact ⟨rfl, N20, K20, V_a3_33_19⟩
theorem ef_ato_12 (m : MethodId) (a1 : Addr) (p2 : Int32) (a3 : Addr) : entryFrame m #[(.ref a1), (.int p2), (.ref a3)] 5 = (mkF m 0 #[.val (.ref a1), .val (.int p2), .val (.ref a3), .unset, .unset] []) := by first | (simp [entryFrame, mkF, argsToLocals, Value.category]; done) | rfl
def Q_ato_12 (Z : State) (a1 : Addr) (p2 : Int32) (a3 : Addr) (rr : Addr) (kr : ClassId) (ro : Addr) (sg : Addr) (ka : ClassId) (qa : Int64) (qb : Int64) (qc : Int64) (qd : Int64) (kd : ClassId) (ed0 : UInt64) (ed1 : UInt64) (ed2 : UInt64) (ed3 : UInt64) (h0 : Heap) (n0 : Nat) (v : Option Value) (h : Heap) (L : List Loc) : Prop := v = none ∧ Fr n0 L ∧ Keep h0 h [a3] ∧ Arv Z h a3 kd .double (4 : Int32) [(.double ed0), (.double ed1), (.double (FP.dadd ed2 (FP.l2d qc))), (.double (FP.dadd ed3 (FP.l2d qd)))] (.double (0 : UInt64))
set_option maxRecDepth 65536 in
set_option maxHeartbeats 40000000 in
theorem rm_ato_12 (l : Launch) (Z : State) (a0 : Array Value) (hw : ∀ d ∈ tables_1, d.before a0 Z = true) (ws : List Jvm.Cond) (a1 : Addr) (p2 : Int32) (a3 : Addr) (rr : Addr) (kr : ClassId) (ro : Addr) (sg : Addr) (ka : ClassId) (qa : Int64) (qb : Int64) (qc : Int64) (qd : Int64) (kd : ClassId) (ed0 : UInt64) (ed1 : UInt64) (ed2 : UInt64) (ed3 : UInt64) (h0 : Heap) (n0 : Nat) (Z0 : n0 ≤ h0.size) (F_rows : Fld Z h0 a1 "com/example/chartlight/chartlight/label/WeightRows" "_rows" "[[J" (.ref rr)) (V_rr : Arv Z h0 rr kr (.array .long) (2 : Int32) (own_pair p2 (.ref ro) (.ref sg)) .null) (V_ro : Arv Z h0 ro ka .long (4 : Int32) [(.long (2 : Int64)), (.long qc), (.long (3 : Int64)), (.long qd)] (.long (0 : Int64))) (V_a3 : Arv Z h0 a3 kd .double (4 : Int32) [(.double ed0), (.double ed1), (.double ed2), (.double ed3)] (.double (0 : UInt64))) (g_a3 : n0 ≤ a3) (hri : p2 = (0 : Int32) ∨ p2 = (1 : Int32)) (hne_s : ro ≠ a3) (hn2 : FP.dadd ed2 (FP.l2d qc) &&& 0x7fffffffffffffff ≤ 0x7ff0000000000000) (hn3 : FP.dadd ed3 (FP.l2d qd) &&& 0x7fffffffffffffff ≤ 0x7ff0000000000000) :
    MetFree l (⟨"com/example/chartlight/chartlight/label/WeightRows", "addTo", "(I[D)V"⟩ : MethodName) (head1 (Jvm.Cond.code (⟨"com/example/chartlight/chartlight/label/WeightRows", "addTo", "(I[D)V"⟩ : MethodName) prog_58_method_8_code 5 none :: ws) ({ frames := 0, cells := 0, slots := 0, locals := 0 } : Room)) (fun a U => a = #[(.ref a1), (.int p2), (.ref a3)] ∧ Z.Warmed39 U.vm ∧ U.heap = h0) (fun _ _ _ _ _ => True) (fun _ U o U' => ∃ v L, o = .returned v ∧ Q_ato_12 Z a1 p2 a3 rr kr ro sg ka qa qb qc qd kd ed0 ed1 ed2 ed3 h0 n0 v U'.heap L ∧ FrameEnd U o U' L ({ frames := 0, cells := 0, slots := 0, locals := 0 } : Room).cells ({ frames := 0, cells := 0, slots := 0, locals := 0 } : Room).slots) := by
  refine MetFree.of_bodySF (plainFor_of_name pn0) hisR ?_
  intro p e s m args below meth c s₁ Bd hml0 hP hK
  obtain ⟨rfl, hZ, hh⟩ := hP
  have hx := Bd.exec
  have hby := Bd.bytes
  have hml : c.maxLocals = 5 := hml0
  have hown : s.vm.findClass "com/example/chartlight/chartlight/label/WeightRows" = some m.cls := findClass_of_methodNamed Bd.named
  have hnm := (name_of_methodNamed Bd.named Bd.method).1
  have X0 : Stand p l e ({ frames := 0, cells := 0, slots := 0, locals := 0 } : Room) s m #[(.ref a1), (.int p2), (.ref a3)] below meth c s₁ [] 0 0 := Stand.of_body Bd
  have e0 : s₁.heap = h0 := by rw [← hh, Bd.state]; rfl
  have N0 := Fr.nil n0
  have pre0 : ∀ t, Steps p.tables e below (s₁.setTop (mkF m 0 #[.val (.ref a1), .val (.int p2), .val (.ref a3), .unset, .unset] [])) t → Steps p.tables e below (s₁.setTop (entryFrame m #[(.ref a1), (.int p2), (.ref a3)] 5)) t := fun t k => castTop (ef_ato_12 m a1 p2 a3) k
  obtain ⟨T1, X1, e1, st1⟩ := getF X0 hx hZ hown (host := "") (Or.inl (hw _ (List.mem_of_getElem? (i := 11) rfl))) Via.refl e0 F_rows (g := (mkF m 1 #[.val (.ref a1), .val (.int p2), .val (.ref a3), .unset, .unset] [(.ref a1)])) rfl rfl (hb hby d7_1)
  obtain ⟨cl_rr_5_2, Ar_rr_5_2, q_rr_5_2, S_rr_5_2, N_rr_5_2, H_rr_5_2, G_rr_5_2⟩ := id V_rr
  have hin_rr_5_2 : ¬ (p2 < 0 ∨ cl_rr_5_2.slots.size ≤ (p2 : Int32).toNatClampNeg) := by rcases hri with rfl | rfl <;> exact inb_of S_rr_5_2 ⟨by decide, by decide⟩
  obtain ⟨cl_ro_13_3, Ar_ro_13_3, -, S_ro_13_3, N_ro_13_3, -, -⟩ := id V_ro
  obtain ⟨cl_ro_21_4, Ar_ro_21_4, q_ro_21_4, S_ro_21_4, N_ro_21_4, H_ro_21_4, G_ro_21_4⟩ := id V_ro
  have hin_ro_21_4 : ¬ ((0 : Int32) < 0 ∨ cl_ro_21_4.slots.size ≤ ((0 : Int32) : Int32).toNatClampNeg) := inb_of S_ro_21_4 ⟨by decide, by decide⟩
  obtain ⟨cl_a3_24_5, Ar_a3_24_5, q_a3_24_5, S_a3_24_5, N_a3_24_5, H_a3_24_5, G_a3_24_5⟩ := id V_a3
  have hin_a3_24_5 : ¬ ((2 : Int32) < 0 ∨ cl_a3_24_5.slots.size ≤ ((2 : Int32) : Int32).toNatClampNeg) := inb_of S_a3_24_5 ⟨by decide, by decide⟩
  obtain ⟨cl_ro_30_6, Ar_ro_30_6, q_ro_30_6, S_ro_30_6, N_ro_30_6, H_ro_30_6, G_ro_30_6⟩ := id V_ro
  have hin_ro_30_6 : ¬ ((1 : Int32) < 0 ∨ cl_ro_30_6.slots.size ≤ ((1 : Int32) : Int32).toNatClampNeg) := inb_of S_ro_30_6 ⟨by decide, by decide⟩
  obtain ⟨cl_a3_33_7, Ar_a3_33_7, q_a3_33_7, S_a3_33_7, N_a3_33_7, H_a3_33_7, G_a3_33_7⟩ := id V_a3
  have hin_a3_33_7 : ¬ ((2 : Int32) < 0 ∨ cl_a3_33_7.slots.size ≤ ((2 : Int32) : Int32).toNatClampNeg) := inb_of S_a3_33_7 ⟨by decide, by decide⟩
  obtain ⟨T8, h8, X8, e8, W8, st8⟩ := stD X1 hx hZ e1 Ar_a3_33_7 (j := (2 : Int32)) hin_a3_33_7 (g := (mkF m 33 #[.val (.ref a1), .val (.int p2), .val (.ref a3), .val (.ref ro), .val (.int (0 : Int32))] [(.double (FP.dadd ed2 (FP.l2d qc))), (.int (2 : Int32)), (.ref a3)])) rfl rfl (hb hby d7_33)
  have V_a3_33_7 : Arv Z h8 a3 kd .double (4 : Int32) [(.double ed0), (.double ed1), (.double (FP.dadd ed2 (FP.l2d qc))), (.double ed3)] (.double (0 : UInt64)) := Arv.set Ar_a3_33_7 q_a3_33_7 S_a3_33_7 N_a3_33_7 H_a3_33_7 G_a3_33_7 rfl W8 2 rfl (Nat.le_of_ble_eq_true rfl)
  have K8 : Keep h0 h8 [a3] := (Keep.refl h0 [a3]).wr W8 (Or.inl (List.mem_of_getElem? (i := 0) rfl))
  have N8 := Fr.snoc X8 N0 g_a3
  obtain ⟨cl_ro_13_9, Ar_ro_13_9, -, S_ro_13_9, N_ro_13_9, -, -⟩ := id (V_ro.other W8 hne_s)
  obtain ⟨cl_ro_21_10, Ar_ro_21_10, q_ro_21_10, S_ro_21_10, N_ro_21_10, H_ro_21_10, G_ro_21_10⟩ := id (V_ro.other W8 hne_s)
  have hin_ro_21_10 : ¬ ((2 : Int32) < 0 ∨ cl_ro_21_10.slots.size ≤ ((2 : Int32) : Int32).toNatClampNeg) := inb_of S_ro_21_10 ⟨by decide, by decide⟩
  obtain ⟨cl_a3_24_11, Ar_a3_24_11, q_a3_24_11, S_a3_24_11, N_a3_24_11, H_a3_24_11, G_a3_24_11⟩ := id V_a3_33_7
  have hin_a3_24_11 : ¬ ((3 : Int32) < 0 ∨ cl_a3_24_11.slots.size ≤ ((3 : Int32) : Int32).toNatClampNeg) := inb_of S_a3_24_11 ⟨by decide, by decide⟩
  obtain ⟨cl_ro_30_12, Ar_ro_30_12, q_ro_30_12, S_ro_30_12, N_ro_30_12, H_ro_30_12, G_ro_30_12⟩ := id (V_ro.other W8 hne_s)
  have hin_ro_30_12 : ¬ ((3 : Int32) < 0 ∨ cl_ro_30_12.slots.size ≤ ((3 : Int32) : Int32).toNatClampNeg) := inb_of S_ro_30_12 ⟨by decide, by decide⟩
  obtain ⟨cl_a3_33_13, Ar_a3_33_13, q_a3_33_13, S_a3_33_13, N_a3_33_13, H_a3_33_13, G_a3_33_13⟩ := id V_a3_33_7
  have hin_a3_33_13 : ¬ ((3 : Int32) < 0 ∨ cl_a3_33_13.slots.size ≤ ((3 : Int32) : Int32).toNatClampNeg) := inb_of S_a3_33_13 ⟨by decide, by decide⟩
  obtain ⟨T14, h14, X14, e14, W14, st14⟩ := stD X8 hx hZ e8 Ar_a3_33_13 (j := (3 : Int32)) hin_a3_33_13 (g := (mkF m 33 #[.val (.ref a1), .val (.int p2), .val (.ref a3), .val (.ref ro), .val (.int (2 : Int32))] [(.double (FP.dadd ed3 (FP.l2d qd))), (.int (3 : Int32)), (.ref a3)])) rfl rfl (hb hby d7_33)
  have V_a3_33_13 : Arv Z h14 a3 kd .double (4 : Int32) [(.double ed0), (.double ed1), (.double (FP.dadd ed2 (FP.l2d qc))), (.double (FP.dadd ed3 (FP.l2d qd)))] (.double (0 : UInt64)) := Arv.set Ar_a3_33_13 q_a3_33_13 S_a3_33_13 N_a3_33_13 H_a3_33_13 G_a3_33_13 rfl W14 3 rfl (Nat.le_of_ble_eq_true rfl)
  have K14 : Keep h0 h14 [a3] := K8.wr W14 (Or.inl (List.mem_of_getElem? (i := 0) rfl))
  have N14 := Fr.snoc X14 N8 g_a3
  obtain ⟨cl_ro_13_15, Ar_ro_13_15, -, S_ro_13_15, N_ro_13_15, -, -⟩ := id ((V_ro.other W8 hne_s).other W14 hne_s)
  obtain ⟨fs, hr, hrun, hended, hW, hsame⟩ := X14.leave (v := none) (fun _ => rfl)
  refine ⟨_, _, pre0 _ ?_, hrun, hended, _, _, rfl, ?_, ⟨_, rfl⟩, hW, hsame.mono (by decide) (by decide)⟩
  · show Steps p.tables e below (s₁.setTop (mkF m 0 #[.val (.ref a1), .val (.int p2), .val (.ref a3), .unset, .unset] [])) _
    refine XS.aloadN X0.here hx rfl (hb hby d7_0) rfl rfl ?_
    show Steps p.tables e below (s₁.setTop (mkF m 1 #[.val (.ref a1), .val (.int p2), .val (.ref a3), .unset, .unset] [(.ref a1)])) _
    refine st1 _ ?_
    refine XS.iloadN X1.here hx rfl (hb hby d7_4) rfl ?_
    refine X1.aaload hx (j := p2) (v := (.ref ro)) (by rw [e1]; exact Ar_rr_5_2.1) (State.isArrayOf_alike hZ.alike Ar_rr_5_2.2.1) rfl Ar_rr_5_2.2.2 hin_rr_5_2 (by rcases hri with rfl | rfl <;> exact H_rr_5_2.at hin_rr_5_2 rfl) (g := (mkF m 5 #[.val (.ref a1), .val (.int p2), .val (.ref a3), .unset, .unset] [(.int p2), (.ref rr)])) rfl rfl (hb hby d7_5) _ ?_
    refine XS.astoreN X1.here hx rfl (hb hby d7_6) rfl rfl (l' := #[.val (.ref a1), .val (.int p2), .val (.ref a3), .val (.ref ro), .unset]) rfl ?_
    refine XS.iconst X1.here hx rfl (hb hby d7_7) ?_
    refine XS.istore X1.here hx rfl (hb hby d7_8) rfl (l' := #[.val (.ref a1), .val (.int p2), .val (.ref a3), .val (.ref ro), .val (.int (0 : Int32))]) rfl ?_
    refine XS.iload X1.here hx rfl (hb hby d7_10) rfl ?_
    refine XS.aloadN X1.here hx rfl (hb hby d7_12) rfl rfl ?_
    refine X1.arraylength hx (by rw [e1]; exact Ar_ro_13_3.1) (State.isArrayOf_alike hZ.alike Ar_ro_13_3.2.1) (g := (mkF m 13 #[.val (.ref a1), .val (.int p2), .val (.ref a3), .val (.ref ro), .val (.int (0 : Int32))] [(.ref ro), (.int (0 : Int32))])) rfl rfl (hb hby d7_13) _ ?_
    rw [len_of S_ro_13_3 N_ro_13_3]
    refine XS.icmpNo X1.here hx rfl (hb hby d7_14) rfl (tlt (by decide : (0 : Int32) < (4 : Int32))).2.1 ?_
    refine XS.aloadN X1.here hx rfl (hb hby d7_17) rfl rfl ?_
    refine XS.aloadN X1.here hx rfl (hb hby d7_18) rfl rfl ?_
    refine XS.iload X1.here hx rfl (hb hby d7_19) rfl ?_
    refine X1.laload hx (j := (0 : Int32)) (v := (.long (2 : Int64))) (by rw [e1]; exact Ar_ro_21_4.1) (State.isArrayOf_alike hZ.alike Ar_ro_21_4.2.1) Ar_ro_21_4.2.2 hin_ro_21_4 (H_ro_21_4.at hin_ro_21_4 rfl) (g := (mkF m 21 #[.val (.ref a1), .val (.int p2), .val (.ref a3), .val (.ref ro), .val (.int (0 : Int32))] [(.int (0 : Int32)), (.ref ro), (.ref a3)])) rfl rfl (hb hby d7_21) _ ?_
    refine XS.l2i X1.here hx rfl (hb hby d7_22) rfl ?_
    refine own_dup2 X1.here hx rfl (hb hby d7_23) rfl rfl rfl ?_
    refine X1.daload hx (j := (2 : Int32)) (v := (.double ed2)) (by rw [e1]; exact Ar_a3_24_5.1) (State.isArrayOf_alike hZ.alike Ar_a3_24_5.2.1) Ar_a3_24_5.2.2 hin_a3_24_5 (H_a3_24_5.at hin_a3_24_5 rfl) (g := (mkF m 24 #[.val (.ref a1), .val (.int p2), .val (.ref a3), .val (.ref ro), .val (.int (0 : Int32))] [(.int (2 : Int32)), (.ref a3), (.int (2 : Int32)), (.ref a3)])) rfl rfl (hb hby d7_24) _ ?_
    refine XS.aloadN X1.here hx rfl (hb hby d7_25) rfl rfl ?_
    refine XS.iload X1.here hx rfl (hb hby d7_26) rfl ?_
    refine XS.iconst X1.here hx rfl (hb hby d7_28) ?_
    refine XS.iadd X1.here hx rfl (hb hby d7_29) rfl ?_
    refine X1.laload hx (j := (1 : Int32)) (v := (.long qc)) (by rw [e1]; exact Ar_ro_30_6.1) (State.isArrayOf_alike hZ.alike Ar_ro_30_6.2.1) Ar_ro_30_6.2.2 hin_ro_30_6 (H_ro_30_6.at hin_ro_30_6 rfl) (g := (mkF m 30 #[.val (.ref a1), .val (.int p2), .val (.ref a3), .val (.ref ro), .val (.int (0 : Int32))] [(.int (1 : Int32)), (.ref ro), (.double ed2), (.int (2 : Int32)), (.ref a3)])) rfl rfl (hb hby d7_30) _ ?_
    refine own_l2d X1.here hx rfl (hb hby d7_31) rfl ?_
    refine own_dadd X1.here hx rfl (hb hby d7_32) rfl hn2 ?_
    show Steps p.tables e below (T1.setTop (mkF m 33 #[.val (.ref a1), .val (.int p2), .val (.ref a3), .val (.ref ro), .val (.int (0 : Int32))] [(.double (FP.dadd ed2 (FP.l2d qc))), (.int (2 : Int32)), (.ref a3)])) _
    refine st8 _ ?_
    refine XS.iinc X8.here hx rfl (hb hby d7_34) rfl (l' := #[.val (.ref a1), .val (.int p2), .val (.ref a3), .val (.ref ro), .val (.int (2 : Int32))]) rfl ?_
    refine XS.goto X8.here hx rfl (pc0 := 37) (pc' := 10) rfl (hb hby d7_37) (by decide) (by decide) ?_
    refine XS.iload X8.here hx rfl (hb hby d7_10) rfl ?_
    refine XS.aloadN X8.here hx rfl (hb hby d7_12) rfl rfl ?_
    refine X8.arraylength hx (by rw [e8]; exact Ar_ro_13_9.1) (State.isArrayOf_alike hZ.alike Ar_ro_13_9.2.1) (g := (mkF m 13 #[.val (.ref a1), .val (.int p2), .val (.ref a3), .val (.ref ro), .val (.int (2 : Int32))] [(.ref ro), (.int (2 : Int32))])) rfl rfl (hb hby d7_13) _ ?_
    rw [len_of S_ro_13_9 N_ro_13_9]
    refine XS.icmpNo X8.here hx rfl (hb hby d7_14) rfl (tlt (by decide : (2 : Int32) < (4 : Int32))).2.1 ?_
    refine XS.aloadN X8.here hx rfl (hb hby d7_17) rfl rfl ?_
    refine XS.aloadN X8.here hx rfl (hb hby d7_18) rfl rfl ?_
    refine XS.iload X8.here hx rfl (hb hby d7_19) rfl ?_
    refine X8.laload hx (j := (2 : Int32)) (v := (.long (3 : Int64))) (by rw [e8]; exact Ar_ro_21_10.1) (State.isArrayOf_alike hZ.alike Ar_ro_21_10.2.1) Ar_ro_21_10.2.2 hin_ro_21_10 (H_ro_21_10.at hin_ro_21_10 rfl) (g := (mkF m 21 #[.val (.ref a1), .val (.int p2), .val (.ref a3), .val (.ref ro), .val (.int (2 : Int32))] [(.int (2 : Int32)), (.ref ro), (.ref a3)])) rfl rfl (hb hby d7_21) _ ?_
    refine XS.l2i X8.here hx rfl (hb hby d7_22) rfl ?_
    refine own_dup2 X8.here hx rfl (hb hby d7_23) rfl rfl rfl ?_
    refine X8.daload hx (j := (3 : Int32)) (v := (.double ed3)) (by rw [e8]; exact Ar_a3_24_11.1) (State.isArrayOf_alike hZ.alike Ar_a3_24_11.2.1) Ar_a3_24_11.2.2 hin_a3_24_11 (H_a3_24_11.at hin_a3_24_11 rfl) (g := (mkF m 24 #[.val (.ref a1), .val (.int p2), .val (.ref a3), .val (.ref ro), .val (.int (2 : Int32))] [(.int (3 : Int32)), (.ref a3), (.int (3 : Int32)), (.ref a3)])) rfl rfl (hb hby d7_24) _ ?_
    refine XS.aloadN X8.here hx rfl (hb hby d7_25) rfl rfl ?_
    refine XS.iload X8.here hx rfl (hb hby d7_26) rfl ?_
    refine XS.iconst X8.here hx rfl (hb hby d7_28) ?_
    show Steps p.tables e below (T8.setTop (mkF m 29 #[.val (.ref a1), .val (.int p2), .val (.ref a3), .val (.ref ro), .val (.int (2 : Int32))] [(.int (1 : Int32)), (.int (2 : Int32)), (.ref ro), (.double ed3), (.int (3 : Int32)), (.ref a3)])) _
    refine XS.iadd X8.here hx rfl (hb hby d7_29) rfl ?_
    refine X8.laload hx (j := (3 : Int32)) (v := (.long qd)) (by rw [e8]; exact Ar_ro_30_12.1) (State.isArrayOf_alike hZ.alike Ar_ro_30_12.2.1) Ar_ro_30_12.2.2 hin_ro_30_12 (H_ro_30_12.at hin_ro_30_12 rfl) (g := (mkF m 30 #[.val (.ref a1), .val (.int p2), .val (.ref a3), .val (.ref ro), .val (.int (2 : Int32))] [(.int (3 : Int32)), (.ref ro), (.double ed3), (.int (3 : Int32)), (.ref a3)])) rfl rfl (hb hby d7_30) _ ?_
    refine own_l2d X8.here hx rfl (hb hby d7_31) rfl ?_
    refine own_dadd X8.here hx rfl (hb hby d7_32) rfl hn3 ?_
    show Steps p.tables e below (T8.setTop (mkF m 33 #[.val (.ref a1), .val (.int p2), .val (.ref a3), .val (.ref ro), .val (.int (2 : Int32))] [(.double (FP.dadd ed3 (FP.l2d qd))), (.int (3 : Int32)), (.ref a3)])) _
    refine st14 _ ?_
    refine XS.iinc X14.here hx rfl (hb hby d7_34) rfl (l' := #[.val (.ref a1), .val (.int p2), .val (.ref a3), .val (.ref ro), .val (.int (4 : Int32))]) rfl ?_
    refine XS.goto X14.here hx rfl (pc0 := 37) (pc' := 10) rfl (hb hby d7_37) (by decide) (by decide) ?_
    refine XS.iload X14.here hx rfl (hb hby d7_10) rfl ?_
    refine XS.aloadN X14.here hx rfl (hb hby d7_12) rfl rfl ?_
    refine X14.arraylength hx (by rw [e14]; exact Ar_ro_13_15.1) (State.isArrayOf_alike hZ.alike Ar_ro_13_15.2.1) (g := (mkF m 13 #[.val (.ref a1), .val (.int p2), .val (.ref a3), .val (.ref ro), .val (.int (4 : Int32))] [(.ref ro), (.int (4 : Int32))])) rfl rfl (hb hby d7_13) _ ?_
    rw [len_of S_ro_13_15 N_ro_13_15]
    refine XS.icmpYes X14.here hx rfl (pc0 := 14) (pc' := 40) rfl (hb hby d7_14) rfl (flt (by decide : ¬ ((4 : Int32) < (4 : Int32)))).2.1 (by decide) (by decide) ?_
    show Steps p.tables e below (T14.setTop (mkF m 40 #[.val (.ref a1), .val (.int p2), .val (.ref a3), .val (.ref ro), .val (.int (4 : Int32))] [])) _
    exact X14.returnOut hx Bd.returns (hb hby d7_40) hr
  · show Q_ato_12 Z a1 p2 a3 rr kr ro sg ka qa qb qc qd kd ed0 ed1 ed2 ed3 h0 n0 _ T14.heap _
    rw [e14]
    exact ⟨rfl, N14, K14, V_a3_33_13⟩
theorem ef_ato_13 (m : MethodId) (a1 : Addr) (p2 : Int32) (a3 : Addr) : entryFrame m #[(.ref a1), (.int p2), (.ref a3)] 5 = (mkF m 0 #[.val (.ref a1), .val (.int p2), .val (.ref a3), .unset, .unset] []) := by first | (simp [entryFrame, mkF, argsToLocals, Value.category]; done) | rfl
def Q_ato_13 (Z : State) (a1 : Addr) (p2 : Int32) (a3 : Addr) (rr : Addr) (kr : ClassId) (ro : Addr) (sg : Addr) (ka : ClassId) (qa : Int64) (qb : Int64) (qc : Int64) (qd : Int64) (kd : ClassId) (ed0 : UInt64) (ed1 : UInt64) (ed2 : UInt64) (ed3 : UInt64) (h0 : Heap) (n0 : Nat) (v : Option Value) (h : Heap) (L : List Loc) : Prop := v = none ∧ Fr n0 L ∧ Keep h0 h [a3] ∧ Arv Z h a3 kd .double (4 : Int32) [(.double (FP.dadd ed0 (FP.l2d qa))), (.double ed1), (.double (FP.dadd ed2 (FP.l2d qc))), (.double (FP.dadd ed3 (FP.l2d qd)))] (.double (0 : UInt64))
set_option maxRecDepth 65536 in
set_option maxHeartbeats 40000000 in
theorem rm_ato_13 (l : Launch) (Z : State) (a0 : Array Value) (hw : ∀ d ∈ tables_1, d.before a0 Z = true) (ws : List Jvm.Cond) (a1 : Addr) (p2 : Int32) (a3 : Addr) (rr : Addr) (kr : ClassId) (ro : Addr) (sg : Addr) (ka : ClassId) (qa : Int64) (qb : Int64) (qc : Int64) (qd : Int64) (kd : ClassId) (ed0 : UInt64) (ed1 : UInt64) (ed2 : UInt64) (ed3 : UInt64) (h0 : Heap) (n0 : Nat) (Z0 : n0 ≤ h0.size) (F_rows : Fld Z h0 a1 "com/example/chartlight/chartlight/label/WeightRows" "_rows" "[[J" (.ref rr)) (V_rr : Arv Z h0 rr kr (.array .long) (2 : Int32) (own_pair p2 (.ref ro) (.ref sg)) .null) (V_ro : Arv Z h0 ro ka .long (6 : Int32) [(.long (0 : Int64)), (.long qa), (.long (2 : Int64)), (.long qc), (.long (3 : Int64)), (.long qd)] (.long (0 : Int64))) (V_a3 : Arv Z h0 a3 kd .double (4 : Int32) [(.double ed0), (.double ed1), (.double ed2), (.double ed3)] (.double (0 : UInt64))) (g_a3 : n0 ≤ a3) (hri : p2 = (0 : Int32) ∨ p2 = (1 : Int32)) (hne_s : ro ≠ a3) (hn0 : FP.dadd ed0 (FP.l2d qa) &&& 0x7fffffffffffffff ≤ 0x7ff0000000000000) (hn2 : FP.dadd ed2 (FP.l2d qc) &&& 0x7fffffffffffffff ≤ 0x7ff0000000000000) (hn3 : FP.dadd ed3 (FP.l2d qd) &&& 0x7fffffffffffffff ≤ 0x7ff0000000000000) :
    MetFree l (⟨"com/example/chartlight/chartlight/label/WeightRows", "addTo", "(I[D)V"⟩ : MethodName) (head1 (Jvm.Cond.code (⟨"com/example/chartlight/chartlight/label/WeightRows", "addTo", "(I[D)V"⟩ : MethodName) prog_58_method_8_code 5 none :: ws) ({ frames := 0, cells := 0, slots := 0, locals := 0 } : Room)) (fun a U => a = #[(.ref a1), (.int p2), (.ref a3)] ∧ Z.Warmed39 U.vm ∧ U.heap = h0) (fun _ _ _ _ _ => True) (fun _ U o U' => ∃ v L, o = .returned v ∧ Q_ato_13 Z a1 p2 a3 rr kr ro sg ka qa qb qc qd kd ed0 ed1 ed2 ed3 h0 n0 v U'.heap L ∧ FrameEnd U o U' L ({ frames := 0, cells := 0, slots := 0, locals := 0 } : Room).cells ({ frames := 0, cells := 0, slots := 0, locals := 0 } : Room).slots) := by
  refine MetFree.of_bodySF (plainFor_of_name pn0) hisR ?_
  intro p e s m args below meth c s₁ Bd hml0 hP hK
  obtain ⟨rfl, hZ, hh⟩ := hP
  have hx := Bd.exec
  have hby := Bd.bytes
  have hml : c.maxLocals = 5 := hml0
  have hown : s.vm.findClass "com/example/chartlight/chartlight/label/WeightRows" = some m.cls := findClass_of_methodNamed Bd.named
  have hnm := (name_of_methodNamed Bd.named Bd.method).1
  have X0 : Stand p l e ({ frames := 0, cells := 0, slots := 0, locals := 0 } : Room) s m #[(.ref a1), (.int p2), (.ref a3)] below meth c s₁ [] 0 0 := Stand.of_body Bd
  have e0 : s₁.heap = h0 := by rw [← hh, Bd.state]; rfl
  have N0 := Fr.nil n0
  have pre0 : ∀ t, Steps p.tables e below (s₁.setTop (mkF m 0 #[.val (.ref a1), .val (.int p2), .val (.ref a3), .unset, .unset] [])) t → Steps p.tables e below (s₁.setTop (entryFrame m #[(.ref a1), (.int p2), (.ref a3)] 5)) t := fun t k => castTop (ef_ato_13 m a1 p2 a3) k
  obtain ⟨T1, X1, e1, st1⟩ := getF X0 hx hZ hown (host := "") (Or.inl (hw _ (List.mem_of_getElem? (i := 11) rfl))) Via.refl e0 F_rows (g := (mkF m 1 #[.val (.ref a1), .val (.int p2), .val (.ref a3), .unset, .unset] [(.ref a1)])) rfl rfl (hb hby d7_1)
  obtain ⟨cl_rr_5_2, Ar_rr_5_2, q_rr_5_2, S_rr_5_2, N_rr_5_2, H_rr_5_2, G_rr_5_2⟩ := id V_rr
  have hin_rr_5_2 : ¬ (p2 < 0 ∨ cl_rr_5_2.slots.size ≤ (p2 : Int32).toNatClampNeg) := by rcases hri with rfl | rfl <;> exact inb_of S_rr_5_2 ⟨by decide, by decide⟩
  obtain ⟨cl_ro_13_3, Ar_ro_13_3, -, S_ro_13_3, N_ro_13_3, -, -⟩ := id V_ro
  obtain ⟨cl_ro_21_4, Ar_ro_21_4, q_ro_21_4, S_ro_21_4, N_ro_21_4, H_ro_21_4, G_ro_21_4⟩ := id V_ro
  have hin_ro_21_4 : ¬ ((0 : Int32) < 0 ∨ cl_ro_21_4.slots.size ≤ ((0 : Int32) : Int32).toNatClampNeg) := inb_of S_ro_21_4 ⟨by decide, by decide⟩
  obtain ⟨cl_a3_24_5, Ar_a3_24_5, q_a3_24_5, S_a3_24_5, N_a3_24_5, H_a3_24_5, G_a3_24_5⟩ := id V_a3
  have hin_a3_24_5 : ¬ ((0 : Int32) < 0 ∨ cl_a3_24_5.slots.size ≤ ((0 : Int32) : Int32).toNatClampNeg) := inb_of S_a3_24_5 ⟨by decide, by decide⟩
  obtain ⟨cl_ro_30_6, Ar_ro_30_6, q_ro_30_6, S_ro_30_6, N_ro_30_6, H_ro_30_6, G_ro_30_6⟩ := id V_ro
  have hin_ro_30_6 : ¬ ((1 : Int32) < 0 ∨ cl_ro_30_6.slots.size ≤ ((1 : Int32) : Int32).toNatClampNeg) := inb_of S_ro_30_6 ⟨by decide, by decide⟩
  obtain ⟨cl_a3_33_7, Ar_a3_33_7, q_a3_33_7, S_a3_33_7, N_a3_33_7, H_a3_33_7, G_a3_33_7⟩ := id V_a3
  have hin_a3_33_7 : ¬ ((0 : Int32) < 0 ∨ cl_a3_33_7.slots.size ≤ ((0 : Int32) : Int32).toNatClampNeg) := inb_of S_a3_33_7 ⟨by decide, by decide⟩
  obtain ⟨T8, h8, X8, e8, W8, st8⟩ := stD X1 hx hZ e1 Ar_a3_33_7 (j := (0 : Int32)) hin_a3_33_7 (g := (mkF m 33 #[.val (.ref a1), .val (.int p2), .val (.ref a3), .val (.ref ro), .val (.int (0 : Int32))] [(.double (FP.dadd ed0 (FP.l2d qa))), (.int (0 : Int32)), (.ref a3)])) rfl rfl (hb hby d7_33)
  have V_a3_33_7 : Arv Z h8 a3 kd .double (4 : Int32) [(.double (FP.dadd ed0 (FP.l2d qa))), (.double ed1), (.double ed2), (.double ed3)] (.double (0 : UInt64)) := Arv.set Ar_a3_33_7 q_a3_33_7 S_a3_33_7 N_a3_33_7 H_a3_33_7 G_a3_33_7 rfl W8 0 rfl (Nat.le_of_ble_eq_true rfl)
  have K8 : Keep h0 h8 [a3] := (Keep.refl h0 [a3]).wr W8 (Or.inl (List.mem_of_getElem? (i := 0) rfl))
  have N8 := Fr.snoc X8 N0 g_a3
  obtain ⟨cl_ro_13_9, Ar_ro_13_9, -, S_ro_13_9, N_ro_13_9, -, -⟩ := id (V_ro.other W8 hne_s)
  obtain ⟨cl_ro_21_10, Ar_ro_21_10, q_ro_21_10, S_ro_21_10, N_ro_21_10, H_ro_21_10, G_ro_21_10⟩ := id (V_ro.other W8 hne_s)
  have hin_ro_21_10 : ¬ ((2 : Int32) < 0 ∨ cl_ro_21_10.slots.size ≤ ((2 : Int32) : Int32).toNatClampNeg) := inb_of S_ro_21_10 ⟨by decide, by decide⟩
  obtain ⟨cl_a3_24_11, Ar_a3_24_11, q_a3_24_11, S_a3_24_11, N_a3_24_11, H_a3_24_11, G_a3_24_11⟩ := id V_a3_33_7
  have hin_a3_24_11 : ¬ ((2 : Int32) < 0 ∨ cl_a3_24_11.slots.size ≤ ((2 : Int32) : Int32).toNatClampNeg) := inb_of S_a3_24_11 ⟨by decide, by decide⟩
  obtain ⟨cl_ro_30_12, Ar_ro_30_12, q_ro_30_12, S_ro_30_12, N_ro_30_12, H_ro_30_12, G_ro_30_12⟩ := id (V_ro.other W8 hne_s)
  have hin_ro_30_12 : ¬ ((3 : Int32) < 0 ∨ cl_ro_30_12.slots.size ≤ ((3 : Int32) : Int32).toNatClampNeg) := inb_of S_ro_30_12 ⟨by decide, by decide⟩
  obtain ⟨cl_a3_33_13, Ar_a3_33_13, q_a3_33_13, S_a3_33_13, N_a3_33_13, H_a3_33_13, G_a3_33_13⟩ := id V_a3_33_7
  have hin_a3_33_13 : ¬ ((2 : Int32) < 0 ∨ cl_a3_33_13.slots.size ≤ ((2 : Int32) : Int32).toNatClampNeg) := inb_of S_a3_33_13 ⟨by decide, by decide⟩
  obtain ⟨T14, h14, X14, e14, W14, st14⟩ := stD X8 hx hZ e8 Ar_a3_33_13 (j := (2 : Int32)) hin_a3_33_13 (g := (mkF m 33 #[.val (.ref a1), .val (.int p2), .val (.ref a3), .val (.ref ro), .val (.int (2 : Int32))] [(.double (FP.dadd ed2 (FP.l2d qc))), (.int (2 : Int32)), (.ref a3)])) rfl rfl (hb hby d7_33)
  have V_a3_33_13 : Arv Z h14 a3 kd .double (4 : Int32) [(.double (FP.dadd ed0 (FP.l2d qa))), (.double ed1), (.double (FP.dadd ed2 (FP.l2d qc))), (.double ed3)] (.double (0 : UInt64)) := Arv.set Ar_a3_33_13 q_a3_33_13 S_a3_33_13 N_a3_33_13 H_a3_33_13 G_a3_33_13 rfl W14 2 rfl (Nat.le_of_ble_eq_true rfl)
  have K14 : Keep h0 h14 [a3] := K8.wr W14 (Or.inl (List.mem_of_getElem? (i := 0) rfl))
  have N14 := Fr.snoc X14 N8 g_a3
  obtain ⟨cl_ro_13_15, Ar_ro_13_15, -, S_ro_13_15, N_ro_13_15, -, -⟩ := id ((V_ro.other W8 hne_s).other W14 hne_s)
  obtain ⟨cl_ro_21_16, Ar_ro_21_16, q_ro_21_16, S_ro_21_16, N_ro_21_16, H_ro_21_16, G_ro_21_16⟩ := id ((V_ro.other W8 hne_s).other W14 hne_s)
  have hin_ro_21_16 : ¬ ((4 : Int32) < 0 ∨ cl_ro_21_16.slots.size ≤ ((4 : Int32) : Int32).toNatClampNeg) := inb_of S_ro_21_16 ⟨by decide, by decide⟩
  obtain ⟨cl_a3_24_17, Ar_a3_24_17, q_a3_24_17, S_a3_24_17, N_a3_24_17, H_a3_24_17, G_a3_24_17⟩ := id V_a3_33_13
  have hin_a3_24_17 : ¬ ((3 : Int32) < 0 ∨ cl_a3_24_17.slots.size ≤ ((3 : Int32) : Int32).toNatClampNeg) := inb_of S_a3_24_17 ⟨by decide, by decide⟩
  obtain ⟨cl_ro_30_18, Ar_ro_30_18, q_ro_30_18, S_ro_30_18, N_ro_30_18, H_ro_30_18, G_ro_30_18⟩ := id ((V_ro.other W8 hne_s).other W14 hne_s)
  have hin_ro_30_18 : ¬ ((5 : Int32) < 0 ∨ cl_ro_30_18.slots.size ≤ ((5 : Int32) : Int32).toNatClampNeg) := inb_of S_ro_30_18 ⟨by decide, by decide⟩
  obtain ⟨cl_a3_33_19, Ar_a3_33_19, q_a3_33_19, S_a3_33_19, N_a3_33_19, H_a3_33_19, G_a3_33_19⟩ := id V_a3_33_13
  have hin_a3_33_19 : ¬ ((3 : Int32) < 0 ∨ cl_a3_33_19.slots.size ≤ ((3 : Int32) : Int32).toNatClampNeg) := inb_of S_a3_33_19 ⟨by decide, by decide⟩
  obtain ⟨T20, h20, X20, e20, W20, st20⟩ := stD X14 hx hZ e14 Ar_a3_33_19 (j := (3 : Int32)) hin_a3_33_19 (g := (mkF m 33 #[.val (.ref a1), .val (.int p2), .val (.ref a3), .val (.ref ro), .val (.int (4 : Int32))] [(.double (FP.dadd ed3 (FP.l2d qd))), (.int (3 : Int32)), (.ref a3)])) rfl rfl (hb hby d7_33)
  have V_a3_33_19 : Arv Z h20 a3 kd .double (4 : Int32) [(.double (FP.dadd ed0 (FP.l2d qa))), (.double ed1), (.double (FP.dadd ed2 (FP.l2d qc))), (.double (FP.dadd ed3 (FP.l2d qd)))] (.double (0 : UInt64)) := Arv.set Ar_a3_33_19 q_a3_33_19 S_a3_33_19 N_a3_33_19 H_a3_33_19 G_a3_33_19 rfl W20 3 rfl (Nat.le_of_ble_eq_true rfl)
  have K20 : Keep h0 h20 [a3] := K14.wr W20 (Or.inl (List.mem_of_getElem? (i := 0) rfl))
  have N20 := Fr.snoc X20 N14 g_a3
  obtain ⟨cl_ro_13_21, Ar_ro_13_21, -, S_ro_13_21, N_ro_13_21, -, -⟩ := id (((V_ro.other W8 hne_s).other W14 hne_s).other W20 hne_s)
  obtain ⟨fs, hr, hrun, hended, hW, hsame⟩ := X20.leave (v := none) (fun _ => rfl)
  refine ⟨_, _, pre0 _ ?_, hrun, hended, _, _, rfl, ?_, ⟨_, rfl⟩, hW, hsame.mono (by decide) (by decide)⟩
  · show Steps p.tables e below (s₁.setTop (mkF m 0 #[.val (.ref a1), .val (.int p2), .val (.ref a3), .unset, .unset] [])) _
    refine XS.aloadN X0.here hx rfl (hb hby d7_0) rfl rfl ?_
    show Steps p.tables e below (s₁.setTop (mkF m 1 #[.val (.ref a1), .val (.int p2), .val (.ref a3), .unset, .unset] [(.ref a1)])) _
    refine st1 _ ?_
    refine XS.iloadN X1.here hx rfl (hb hby d7_4) rfl ?_
    refine X1.aaload hx (j := p2) (v := (.ref ro)) (by rw [e1]; exact Ar_rr_5_2.1) (State.isArrayOf_alike hZ.alike Ar_rr_5_2.2.1) rfl Ar_rr_5_2.2.2 hin_rr_5_2 (by rcases hri with rfl | rfl <;> exact H_rr_5_2.at hin_rr_5_2 rfl) (g := (mkF m 5 #[.val (.ref a1), .val (.int p2), .val (.ref a3), .unset, .unset] [(.int p2), (.ref rr)])) rfl rfl (hb hby d7_5) _ ?_
    refine XS.astoreN X1.here hx rfl (hb hby d7_6) rfl rfl (l' := #[.val (.ref a1), .val (.int p2), .val (.ref a3), .val (.ref ro), .unset]) rfl ?_
    refine XS.iconst X1.here hx rfl (hb hby d7_7) ?_
    refine XS.istore X1.here hx rfl (hb hby d7_8) rfl (l' := #[.val (.ref a1), .val (.int p2), .val (.ref a3), .val (.ref ro), .val (.int (0 : Int32))]) rfl ?_
    refine XS.iload X1.here hx rfl (hb hby d7_10) rfl ?_
    refine XS.aloadN X1.here hx rfl (hb hby d7_12) rfl rfl ?_
    refine X1.arraylength hx (by rw [e1]; exact Ar_ro_13_3.1) (State.isArrayOf_alike hZ.alike Ar_ro_13_3.2.1) (g := (mkF m 13 #[.val (.ref a1), .val (.int p2), .val (.ref a3), .val (.ref ro), .val (.int (0 : Int32))] [(.ref ro), (.int (0 : Int32))])) rfl rfl (hb hby d7_13) _ ?_
    rw [len_of S_ro_13_3 N_ro_13_3]
    refine XS.icmpNo X1.here hx rfl (hb hby d7_14) rfl (tlt (by decide : (0 : Int32) < (6 : Int32))).2.1 ?_
    refine XS.aloadN X1.here hx rfl (hb hby d7_17) rfl rfl ?_
    refine XS.aloadN X1.here hx rfl (hb hby d7_18) rfl rfl ?_
    refine XS.iload X1.here hx rfl (hb hby d7_19) rfl ?_
    refine X1.laload hx (j := (0 : Int32)) (v := (.long (0 : Int64))) (by rw [e1]; exact Ar_ro_21_4.1) (State.isArrayOf_alike hZ.alike Ar_ro_21_4.2.1) Ar_ro_21_4.2.2 hin_ro_21_4 (H_ro_21_4.at hin_ro_21_4 rfl) (g := (mkF m 21 #[.val (.ref a1), .val (.int p2), .val (.ref a3), .val (.ref ro), .val (.int (0 : Int32))] [(.int (0 : Int32)), (.ref ro), (.ref a3)])) rfl rfl (hb hby d7_21) _ ?_
    refine XS.l2i X1.here hx rfl (hb hby d7_22) rfl ?_
    refine own_dup2 X1.here hx rfl (hb hby d7_23) rfl rfl rfl ?_
    refine X1.daload hx (j := (0 : Int32)) (v := (.double ed0)) (by rw [e1]; exact Ar_a3_24_5.1) (State.isArrayOf_alike hZ.alike Ar_a3_24_5.2.1) Ar_a3_24_5.2.2 hin_a3_24_5 (H_a3_24_5.at hin_a3_24_5 rfl) (g := (mkF m 24 #[.val (.ref a1), .val (.int p2), .val (.ref a3), .val (.ref ro), .val (.int (0 : Int32))] [(.int (0 : Int32)), (.ref a3), (.int (0 : Int32)), (.ref a3)])) rfl rfl (hb hby d7_24) _ ?_
    refine XS.aloadN X1.here hx rfl (hb hby d7_25) rfl rfl ?_
    refine XS.iload X1.here hx rfl (hb hby d7_26) rfl ?_
    refine XS.iconst X1.here hx rfl (hb hby d7_28) ?_
    refine XS.iadd X1.here hx rfl (hb hby d7_29) rfl ?_
    refine X1.laload hx (j := (1 : Int32)) (v := (.long qa)) (by rw [e1]; exact Ar_ro_30_6.1) (State.isArrayOf_alike hZ.alike Ar_ro_30_6.2.1) Ar_ro_30_6.2.2 hin_ro_30_6 (H_ro_30_6.at hin_ro_30_6 rfl) (g := (mkF m 30 #[.val (.ref a1), .val (.int p2), .val (.ref a3), .val (.ref ro), .val (.int (0 : Int32))] [(.int (1 : Int32)), (.ref ro), (.double ed0), (.int (0 : Int32)), (.ref a3)])) rfl rfl (hb hby d7_30) _ ?_
    refine own_l2d X1.here hx rfl (hb hby d7_31) rfl ?_
    refine own_dadd X1.here hx rfl (hb hby d7_32) rfl hn0 ?_
    show Steps p.tables e below (T1.setTop (mkF m 33 #[.val (.ref a1), .val (.int p2), .val (.ref a3), .val (.ref ro), .val (.int (0 : Int32))] [(.double (FP.dadd ed0 (FP.l2d qa))), (.int (0 : Int32)), (.ref a3)])) _
    refine st8 _ ?_
    refine XS.iinc X8.here hx rfl (hb hby d7_34) rfl (l' := #[.val (.ref a1), .val (.int p2), .val (.ref a3), .val (.ref ro), .val (.int (2 : Int32))]) rfl ?_
    refine XS.goto X8.here hx rfl (pc0 := 37) (pc' := 10) rfl (hb hby d7_37) (by decide) (by decide) ?_
    refine XS.iload X8.here hx rfl (hb hby d7_10) rfl ?_
    refine XS.aloadN X8.here hx rfl (hb hby d7_12) rfl rfl ?_
    refine X8.arraylength hx (by rw [e8]; exact Ar_ro_13_9.1) (State.isArrayOf_alike hZ.alike Ar_ro_13_9.2.1) (g := (mkF m 13 #[.val (.ref a1), .val (.int p2), .val (.ref a3), .val (.ref ro), .val (.int (2 : Int32))] [(.ref ro), (.int (2 : Int32))])) rfl rfl (hb hby d7_13) _ ?_
    rw [len_of S_ro_13_9 N_ro_13_9]
    refine XS.icmpNo X8.here hx rfl (hb hby d7_14) rfl (tlt (by decide : (2 : Int32) < (6 : Int32))).2.1 ?_
    refine XS.aloadN X8.here hx rfl (hb hby d7_17) rfl rfl ?_
    refine XS.aloadN X8.here hx rfl (hb hby d7_18) rfl rfl ?_
    refine XS.iload X8.here hx rfl (hb hby d7_19) rfl ?_
    refine X8.laload hx (j := (2 : Int32)) (v := (.long (2 : Int64))) (by rw [e8]; exact Ar_ro_21_10.1) (State.isArrayOf_alike hZ.alike Ar_ro_21_10.2.1) Ar_ro_21_10.2.2 hin_ro_21_10 (H_ro_21_10.at hin_ro_21_10 rfl) (g := (mkF m 21 #[.val (.ref a1), .val (.int p2), .val (.ref a3), .val (.ref ro), .val (.int (2 : Int32))] [(.int (2 : Int32)), (.ref ro), (.ref a3)])) rfl rfl (hb hby d7_21) _ ?_
    refine XS.l2i X8.here hx rfl (hb hby d7_22) rfl ?_
    refine own_dup2 X8.here hx rfl (hb hby d7_23) rfl rfl rfl ?_
    refine X8.daload hx (j := (2 : Int32)) (v := (.double ed2)) (by rw [e8]; exact Ar_a3_24_11.1) (State.isArrayOf_alike hZ.alike Ar_a3_24_11.2.1) Ar_a3_24_11.2.2 hin_a3_24_11 (H_a3_24_11.at hin_a3_24_11 rfl) (g := (mkF m 24 #[.val (.ref a1), .val (.int p2), .val (.ref a3), .val (.ref ro), .val (.int (2 : Int32))] [(.int (2 : Int32)), (.ref a3), (.int (2 : Int32)), (.ref a3)])) rfl rfl (hb hby d7_24) _ ?_
    refine XS.aloadN X8.here hx rfl (hb hby d7_25) rfl rfl ?_
    refine XS.iload X8.here hx rfl (hb hby d7_26) rfl ?_
    refine XS.iconst X8.here hx rfl (hb hby d7_28) ?_
    show Steps p.tables e below (T8.setTop (mkF m 29 #[.val (.ref a1), .val (.int p2), .val (.ref a3), .val (.ref ro), .val (.int (2 : Int32))] [(.int (1 : Int32)), (.int (2 : Int32)), (.ref ro), (.double ed2), (.int (2 : Int32)), (.ref a3)])) _
    refine XS.iadd X8.here hx rfl (hb hby d7_29) rfl ?_
    refine X8.laload hx (j := (3 : Int32)) (v := (.long qc)) (by rw [e8]; exact Ar_ro_30_12.1) (State.isArrayOf_alike hZ.alike Ar_ro_30_12.2.1) Ar_ro_30_12.2.2 hin_ro_30_12 (H_ro_30_12.at hin_ro_30_12 rfl) (g := (mkF m 30 #[.val (.ref a1), .val (.int p2), .val (.ref a3), .val (.ref ro), .val (.int (2 : Int32))] [(.int (3 : Int32)), (.ref ro), (.double ed2), (.int (2 : Int32)), (.ref a3)])) rfl rfl (hb hby d7_30) _ ?_
    refine own_l2d X8.here hx rfl (hb hby d7_31) rfl ?_
    refine own_dadd X8.here hx rfl (hb hby d7_32) rfl hn2 ?_
    show Steps p.tables e below (T8.setTop (mkF m 33 #[.val (.ref a1), .val (.int p2), .val (.ref a3), .val (.ref ro), .val (.int (2 : Int32))] [(.double (FP.dadd ed2 (FP.l2d qc))), (.int (2 : Int32)), (.ref a3)])) _
    refine st14 _ ?_
    refine XS.iinc X14.here hx rfl (hb hby d7_34) rfl (l' := #[.val (.ref a1), .val (.int p2), .val (.ref a3), .val (.ref ro), .val (.int (4 : Int32))]) rfl ?_
    refine XS.goto X14.here hx rfl (pc0 := 37) (pc' := 10) rfl (hb hby d7_37) (by decide) (by decide) ?_
    refine XS.iload X14.here hx rfl (hb hby d7_10) rfl ?_
    refine XS.aloadN X14.here hx rfl (hb hby d7_12) rfl rfl ?_
    refine X14.arraylength hx (by rw [e14]; exact Ar_ro_13_15.1) (State.isArrayOf_alike hZ.alike Ar_ro_13_15.2.1) (g := (mkF m 13 #[.val (.ref a1), .val (.int p2), .val (.ref a3), .val (.ref ro), .val (.int (4 : Int32))] [(.ref ro), (.int (4 : Int32))])) rfl rfl (hb hby d7_13) _ ?_
    rw [len_of S_ro_13_15 N_ro_13_15]
    refine XS.icmpNo X14.here hx rfl (hb hby d7_14) rfl (tlt (by decide : (4 : Int32) < (6 : Int32))).2.1 ?_
    refine XS.aloadN X14.here hx rfl (hb hby d7_17) rfl rfl ?_
    refine XS.aloadN X14.here hx rfl (hb hby d7_18) rfl rfl ?_
    refine XS.iload X14.here hx rfl (hb hby d7_19) rfl ?_
    refine X14.laload hx (j := (4 : Int32)) (v := (.long (3 : Int64))) (by rw [e14]; exact Ar_ro_21_16.1) (State.isArrayOf_alike hZ.alike Ar_ro_21_16.2.1) Ar_ro_21_16.2.2 hin_ro_21_16 (H_ro_21_16.at hin_ro_21_16 rfl) (g := (mkF m 21 #[.val (.ref a1), .val (.int p2), .val (.ref a3), .val (.ref ro), .val (.int (4 : Int32))] [(.int (4 : Int32)), (.ref ro), (.ref a3)])) rfl rfl (hb hby d7_21) _ ?_
    refine XS.l2i X14.here hx rfl (hb hby d7_22) rfl ?_
    refine own_dup2 X14.here hx rfl (hb hby d7_23) rfl rfl rfl ?_
    refine X14.daload hx (j := (3 : Int32)) (v := (.double ed3)) (by rw [e14]; exact Ar_a3_24_17.1) (State.isArrayOf_alike hZ.alike Ar_a3_24_17.2.1) Ar_a3_24_17.2.2 hin_a3_24_17 (H_a3_24_17.at hin_a3_24_17 rfl) (g := (mkF m 24 #[.val (.ref a1), .val (.int p2), .val (.ref a3), .val (.ref ro), .val (.int (4 : Int32))] [(.int (3 : Int32)), (.ref a3), (.int (3 : Int32)), (.ref a3)])) rfl rfl (hb hby d7_24) _ ?_
    refine XS.aloadN X14.here hx rfl (hb hby d7_25) rfl rfl ?_
    refine XS.iload X14.here hx rfl (hb hby d7_26) rfl ?_
    refine XS.iconst X14.here hx rfl (hb hby d7_28) ?_
    refine XS.iadd X14.here hx rfl (hb hby d7_29) rfl ?_
    refine X14.laload hx (j := (5 : Int32)) (v := (.long qd)) (by rw [e14]; exact Ar_ro_30_18.1) (State.isArrayOf_alike hZ.alike Ar_ro_30_18.2.1) Ar_ro_30_18.2.2 hin_ro_30_18 (H_ro_30_18.at hin_ro_30_18 rfl) (g := (mkF m 30 #[.val (.ref a1), .val (.int p2), .val (.ref a3), .val (.ref ro), .val (.int (4 : Int32))] [(.int (5 : Int32)), (.ref ro), (.double ed3), (.int (3 : Int32)), (.ref a3)])) rfl rfl (hb hby d7_30) _ ?_
    refine own_l2d X14.here hx rfl (hb hby d7_31) rfl ?_
    refine own_dadd X14.here hx rfl (hb hby d7_32) rfl hn3 ?_
    show Steps p.tables e below (T14.setTop (mkF m 33 #[.val (.ref a1), .val (.int p2), .val (.ref a3), .val (.ref ro), .val (.int (4 : Int32))] [(.double (FP.dadd ed3 (FP.l2d qd))), (.int (3 : Int32)), (.ref a3)])) _
    refine st20 _ ?_
    refine XS.iinc X20.here hx rfl (hb hby d7_34) rfl (l' := #[.val (.ref a1), .val (.int p2), .val (.ref a3), .val (.ref ro), .val (.int (6 : Int32))]) rfl ?_
    refine XS.goto X20.here hx rfl (pc0 := 37) (pc' := 10) rfl (hb hby d7_37) (by decide) (by decide) ?_
    refine XS.iload X20.here hx rfl (hb hby d7_10) rfl ?_
    refine XS.aloadN X20.here hx rfl (hb hby d7_12) rfl rfl ?_
    refine X20.arraylength hx (by rw [e20]; exact Ar_ro_13_21.1) (State.isArrayOf_alike hZ.alike Ar_ro_13_21.2.1) (g := (mkF m 13 #[.val (.ref a1), .val (.int p2), .val (.ref a3), .val (.ref ro), .val (.int (6 : Int32))] [(.ref ro), (.int (6 : Int32))])) rfl rfl (hb hby d7_13) _ ?_
    rw [len_of S_ro_13_21 N_ro_13_21]
    refine XS.icmpYes X20.here hx rfl (pc0 := 14) (pc' := 40) rfl (hb hby d7_14) rfl (flt (by decide : ¬ ((6 : Int32) < (6 : Int32)))).2.1 (by decide) (by decide) ?_
    show Steps p.tables e below (T20.setTop (mkF m 40 #[.val (.ref a1), .val (.int p2), .val (.ref a3), .val (.ref ro), .val (.int (6 : Int32))] [])) _
    exact X20.returnOut hx Bd.returns (hb hby d7_40) hr
  · show Q_ato_13 Z a1 p2 a3 rr kr ro sg ka qa qb qc qd kd ed0 ed1 ed2 ed3 h0 n0 _ T20.heap _
    rw [e20]
    exact ⟨rfl, N20, K20, V_a3_33_19⟩
theorem ef_ato_14 (m : MethodId) (a1 : Addr) (p2 : Int32) (a3 : Addr) : entryFrame m #[(.ref a1), (.int p2), (.ref a3)] 5 = (mkF m 0 #[.val (.ref a1), .val (.int p2), .val (.ref a3), .unset, .unset] []) := by first | (simp [entryFrame, mkF, argsToLocals, Value.category]; done) | rfl
def Q_ato_14 (Z : State) (a1 : Addr) (p2 : Int32) (a3 : Addr) (rr : Addr) (kr : ClassId) (ro : Addr) (sg : Addr) (ka : ClassId) (qa : Int64) (qb : Int64) (qc : Int64) (qd : Int64) (kd : ClassId) (ed0 : UInt64) (ed1 : UInt64) (ed2 : UInt64) (ed3 : UInt64) (h0 : Heap) (n0 : Nat) (v : Option Value) (h : Heap) (L : List Loc) : Prop := v = none ∧ Fr n0 L ∧ Keep h0 h [a3] ∧ Arv Z h a3 kd .double (4 : Int32) [(.double ed0), (.double (FP.dadd ed1 (FP.l2d qb))), (.double (FP.dadd ed2 (FP.l2d qc))), (.double (FP.dadd ed3 (FP.l2d qd)))] (.double (0 : UInt64))
set_option maxRecDepth 65536 in
set_option maxHeartbeats 40000000 in
theorem rm_ato_14 (l : Launch) (Z : State) (a0 : Array Value) (hw : ∀ d ∈ tables_1, d.before a0 Z = true) (ws : List Jvm.Cond) (a1 : Addr) (p2 : Int32) (a3 : Addr) (rr : Addr) (kr : ClassId) (ro : Addr) (sg : Addr) (ka : ClassId) (qa : Int64) (qb : Int64) (qc : Int64) (qd : Int64) (kd : ClassId) (ed0 : UInt64) (ed1 : UInt64) (ed2 : UInt64) (ed3 : UInt64) (h0 : Heap) (n0 : Nat) (Z0 : n0 ≤ h0.size) (F_rows : Fld Z h0 a1 "com/example/chartlight/chartlight/label/WeightRows" "_rows" "[[J" (.ref rr)) (V_rr : Arv Z h0 rr kr (.array .long) (2 : Int32) (own_pair p2 (.ref ro) (.ref sg)) .null) (V_ro : Arv Z h0 ro ka .long (6 : Int32) [(.long (1 : Int64)), (.long qb), (.long (2 : Int64)), (.long qc), (.long (3 : Int64)), (.long qd)] (.long (0 : Int64))) (V_a3 : Arv Z h0 a3 kd .double (4 : Int32) [(.double ed0), (.double ed1), (.double ed2), (.double ed3)] (.double (0 : UInt64))) (g_a3 : n0 ≤ a3) (hri : p2 = (0 : Int32) ∨ p2 = (1 : Int32)) (hne_s : ro ≠ a3) (hn1 : FP.dadd ed1 (FP.l2d qb) &&& 0x7fffffffffffffff ≤ 0x7ff0000000000000) (hn2 : FP.dadd ed2 (FP.l2d qc) &&& 0x7fffffffffffffff ≤ 0x7ff0000000000000) (hn3 : FP.dadd ed3 (FP.l2d qd) &&& 0x7fffffffffffffff ≤ 0x7ff0000000000000) :
    MetFree l (⟨"com/example/chartlight/chartlight/label/WeightRows", "addTo", "(I[D)V"⟩ : MethodName) (head1 (Jvm.Cond.code (⟨"com/example/chartlight/chartlight/label/WeightRows", "addTo", "(I[D)V"⟩ : MethodName) prog_58_method_8_code 5 none :: ws) ({ frames := 0, cells := 0, slots := 0, locals := 0 } : Room)) (fun a U => a = #[(.ref a1), (.int p2), (.ref a3)] ∧ Z.Warmed39 U.vm ∧ U.heap = h0) (fun _ _ _ _ _ => True) (fun _ U o U' => ∃ v L, o = .returned v ∧ Q_ato_14 Z a1 p2 a3 rr kr ro sg ka qa qb qc qd kd ed0 ed1 ed2 ed3 h0 n0 v U'.heap L ∧ FrameEnd U o U' L ({ frames := 0, cells := 0, slots := 0, locals := 0 } : Room).cells ({ frames := 0, cells := 0, slots := 0, locals := 0 } : Room).slots) := by
  refine MetFree.of_bodySF (plainFor_of_name pn0) hisR ?_
  intro p e s m args below meth c s₁ Bd hml0 hP hK
  obtain ⟨rfl, hZ, hh⟩ := hP
  have hx := Bd.exec
  have hby := Bd.bytes
  have hml : c.maxLocals = 5 := hml0
  have hown : s.vm.findClass "com/example/chartlight/chartlight/label/WeightRows" = some m.cls := findClass_of_methodNamed Bd.named
  have hnm := (name_of_methodNamed Bd.named Bd.method).1
  have X0 : Stand p l e ({ frames := 0, cells := 0, slots := 0, locals := 0 } : Room) s m #[(.ref a1), (.int p2), (.ref a3)] below meth c s₁ [] 0 0 := Stand.of_body Bd
  have e0 : s₁.heap = h0 := by rw [← hh, Bd.state]; rfl
  have N0 := Fr.nil n0
  have pre0 : ∀ t, Steps p.tables e below (s₁.setTop (mkF m 0 #[.val (.ref a1), .val (.int p2), .val (.ref a3), .unset, .unset] [])) t → Steps p.tables e below (s₁.setTop (entryFrame m #[(.ref a1), (.int p2), (.ref a3)] 5)) t := fun t k => castTop (ef_ato_14 m a1 p2 a3) k
  obtain ⟨T1, X1, e1, st1⟩ := getF X0 hx hZ hown (host := "") (Or.inl (hw _ (List.mem_of_getElem? (i := 11) rfl))) Via.refl e0 F_rows (g := (mkF m 1 #[.val (.ref a1), .val (.int p2), .val (.ref a3), .unset, .unset] [(.ref a1)])) rfl rfl (hb hby d7_1)
  obtain ⟨cl_rr_5_2, Ar_rr_5_2, q_rr_5_2, S_rr_5_2, N_rr_5_2, H_rr_5_2, G_rr_5_2⟩ := id V_rr
  have hin_rr_5_2 : ¬ (p2 < 0 ∨ cl_rr_5_2.slots.size ≤ (p2 : Int32).toNatClampNeg) := by rcases hri with rfl | rfl <;> exact inb_of S_rr_5_2 ⟨by decide, by decide⟩
  obtain ⟨cl_ro_13_3, Ar_ro_13_3, -, S_ro_13_3, N_ro_13_3, -, -⟩ := id V_ro
  obtain ⟨cl_ro_21_4, Ar_ro_21_4, q_ro_21_4, S_ro_21_4, N_ro_21_4, H_ro_21_4, G_ro_21_4⟩ := id V_ro
  have hin_ro_21_4 : ¬ ((0 : Int32) < 0 ∨ cl_ro_21_4.slots.size ≤ ((0 : Int32) : Int32).toNatClampNeg) := inb_of S_ro_21_4 ⟨by decide, by decide⟩
  obtain ⟨cl_a3_24_5, Ar_a3_24_5, q_a3_24_5, S_a3_24_5, N_a3_24_5, H_a3_24_5, G_a3_24_5⟩ := id V_a3
  have hin_a3_24_5 : ¬ ((1 : Int32) < 0 ∨ cl_a3_24_5.slots.size ≤ ((1 : Int32) : Int32).toNatClampNeg) := inb_of S_a3_24_5 ⟨by decide, by decide⟩
  obtain ⟨cl_ro_30_6, Ar_ro_30_6, q_ro_30_6, S_ro_30_6, N_ro_30_6, H_ro_30_6, G_ro_30_6⟩ := id V_ro
  have hin_ro_30_6 : ¬ ((1 : Int32) < 0 ∨ cl_ro_30_6.slots.size ≤ ((1 : Int32) : Int32).toNatClampNeg) := inb_of S_ro_30_6 ⟨by decide, by decide⟩
  obtain ⟨cl_a3_33_7, Ar_a3_33_7, q_a3_33_7, S_a3_33_7, N_a3_33_7, H_a3_33_7, G_a3_33_7⟩ := id V_a3
  have hin_a3_33_7 : ¬ ((1 : Int32) < 0 ∨ cl_a3_33_7.slots.size ≤ ((1 : Int32) : Int32).toNatClampNeg) := inb_of S_a3_33_7 ⟨by decide, by decide⟩
  obtain ⟨T8, h8, X8, e8, W8, st8⟩ := stD X1 hx hZ e1 Ar_a3_33_7 (j := (1 : Int32)) hin_a3_33_7 (g := (mkF m 33 #[.val (.ref a1), .val (.int p2), .val (.ref a3), .val (.ref ro), .val (.int (0 : Int32))] [(.double (FP.dadd ed1 (FP.l2d qb))), (.int (1 : Int32)), (.ref a3)])) rfl rfl (hb hby d7_33)
  have V_a3_33_7 : Arv Z h8 a3 kd .double (4 : Int32) [(.double ed0), (.double (FP.dadd ed1 (FP.l2d qb))), (.double ed2), (.double ed3)] (.double (0 : UInt64)) := Arv.set Ar_a3_33_7 q_a3_33_7 S_a3_33_7 N_a3_33_7 H_a3_33_7 G_a3_33_7 rfl W8 1 rfl (Nat.le_of_ble_eq_true rfl)
  have K8 : Keep h0 h8 [a3] := (Keep.refl h0 [a3]).wr W8 (Or.inl (List.mem_of_getElem? (i := 0) rfl))
  have N8 := Fr.snoc X8 N0 g_a3
  obtain ⟨cl_ro_13_9, Ar_ro_13_9, -, S_ro_13_9, N_ro_13_9, -, -⟩ := id (V_ro.other W8 hne_s)
  obtain ⟨cl_ro_21_10, Ar_ro_21_10, q_ro_21_10, S_ro_21_10, N_ro_21_10, H_ro_21_10, G_ro_21_10⟩ := id (V_ro.other W8 hne_s)
  have hin_ro_21_10 : ¬ ((2 : Int32) < 0 ∨ cl_ro_21_10.slots.size ≤ ((2 : Int32) : Int32).toNatClampNeg) := inb_of S_ro_21_10 ⟨by decide, by decide⟩
  obtain ⟨cl_a3_24_11, Ar_a3_24_11, q_a3_24_11, S_a3_24_11, N_a3_24_11, H_a3_24_11, G_a3_24_11⟩ := id V_a3_33_7
  have hin_a3_24_11 : ¬ ((2 : Int32) < 0 ∨ cl_a3_24_11.slots.size ≤ ((2 : Int32) : Int32).toNatClampNeg) := inb_of S_a3_24_11 ⟨by decide, by decide⟩
  obtain ⟨cl_ro_30_12, Ar_ro_30_12, q_ro_30_12, S_ro_30_12, N_ro_30_12, H_ro_30_12, G_ro_30_12⟩ := id (V_ro.other W8 hne_s)
  have hin_ro_30_12 : ¬ ((3 : Int32) < 0 ∨ cl_ro_30_12.slots.size ≤ ((3 : Int32) : Int32).toNatClampNeg) := inb_of S_ro_30_12 ⟨by decide, by decide⟩
  obtain ⟨cl_a3_33_13, Ar_a3_33_13, q_a3_33_13, S_a3_33_13, N_a3_33_13, H_a3_33_13, G_a3_33_13⟩ := id V_a3_33_7
  have hin_a3_33_13 : ¬ ((2 : Int32) < 0 ∨ cl_a3_33_13.slots.size ≤ ((2 : Int32) : Int32).toNatClampNeg) := inb_of S_a3_33_13 ⟨by decide, by decide⟩
  obtain ⟨T14, h14, X14, e14, W14, st14⟩ := stD X8 hx hZ e8 Ar_a3_33_13 (j := (2 : Int32)) hin_a3_33_13 (g := (mkF m 33 #[.val (.ref a1), .val (.int p2), .val (.ref a3), .val (.ref ro), .val (.int (2 : Int32))] [(.double (FP.dadd ed2 (FP.l2d qc))), (.int (2 : Int32)), (.ref a3)])) rfl rfl (hb hby d7_33)
  have V_a3_33_13 : Arv Z h14 a3 kd .double (4 : Int32) [(.double ed0), (.double (FP.dadd ed1 (FP.l2d qb))), (.double (FP.dadd ed2 (FP.l2d qc))), (.double ed3)] (.double (0 : UInt64)) := Arv.set Ar_a3_33_13 q_a3_33_13 S_a3_33_13 N_a3_33_13 H_a3_33_13 G_a3_33_13 rfl W14 2 rfl (Nat.le_of_ble_eq_true rfl)
  have K14 : Keep h0 h14 [a3] := K8.wr W14 (Or.inl (List.mem_of_getElem? (i := 0) rfl))
  have N14 := Fr.snoc X14 N8 g_a3
  obtain ⟨cl_ro_13_15, Ar_ro_13_15, -, S_ro_13_15, N_ro_13_15, -, -⟩ := id ((V_ro.other W8 hne_s).other W14 hne_s)
  obtain ⟨cl_ro_21_16, Ar_ro_21_16, q_ro_21_16, S_ro_21_16, N_ro_21_16, H_ro_21_16, G_ro_21_16⟩ := id ((V_ro.other W8 hne_s).other W14 hne_s)
  have hin_ro_21_16 : ¬ ((4 : Int32) < 0 ∨ cl_ro_21_16.slots.size ≤ ((4 : Int32) : Int32).toNatClampNeg) := inb_of S_ro_21_16 ⟨by decide, by decide⟩
  obtain ⟨cl_a3_24_17, Ar_a3_24_17, q_a3_24_17, S_a3_24_17, N_a3_24_17, H_a3_24_17, G_a3_24_17⟩ := id V_a3_33_13
  have hin_a3_24_17 : ¬ ((3 : Int32) < 0 ∨ cl_a3_24_17.slots.size ≤ ((3 : Int32) : Int32).toNatClampNeg) := inb_of S_a3_24_17 ⟨by decide, by decide⟩
  obtain ⟨cl_ro_30_18, Ar_ro_30_18, q_ro_30_18, S_ro_30_18, N_ro_30_18, H_ro_30_18, G_ro_30_18⟩ := id ((V_ro.other W8 hne_s).other W14 hne_s)
  have hin_ro_30_18 : ¬ ((5 : Int32) < 0 ∨ cl_ro_30_18.slots.size ≤ ((5 : Int32) : Int32).toNatClampNeg) := inb_of S_ro_30_18 ⟨by decide, by decide⟩
  obtain ⟨cl_a3_33_19, Ar_a3_33_19, q_a3_33_19, S_a3_33_19, N_a3_33_19, H_a3_33_19, G_a3_33_19⟩ := id V_a3_33_13
  have hin_a3_33_19 : ¬ ((3 : Int32) < 0 ∨ cl_a3_33_19.slots.size ≤ ((3 : Int32) : Int32).toNatClampNeg) := inb_of S_a3_33_19 ⟨by decide, by decide⟩
  obtain ⟨T20, h20, X20, e20, W20, st20⟩ := stD X14 hx hZ e14 Ar_a3_33_19 (j := (3 : Int32)) hin_a3_33_19 (g := (mkF m 33 #[.val (.ref a1), .val (.int p2), .val (.ref a3), .val (.ref ro), .val (.int (4 : Int32))] [(.double (FP.dadd ed3 (FP.l2d qd))), (.int (3 : Int32)), (.ref a3)])) rfl rfl (hb hby d7_33)
  have V_a3_33_19 : Arv Z h20 a3 kd .double (4 : Int32) [(.double ed0), (.double (FP.dadd ed1 (FP.l2d qb))), (.double (FP.dadd ed2 (FP.l2d qc))), (.double (FP.dadd ed3 (FP.l2d qd)))] (.double (0 : UInt64)) := Arv.set Ar_a3_33_19 q_a3_33_19 S_a3_33_19 N_a3_33_19 H_a3_33_19 G_a3_33_19 rfl W20 3 rfl (Nat.le_of_ble_eq_true rfl)
  have K20 : Keep h0 h20 [a3] := K14.wr W20 (Or.inl (List.mem_of_getElem? (i := 0) rfl))
  have N20 := Fr.snoc X20 N14 g_a3
  obtain ⟨cl_ro_13_21, Ar_ro_13_21, -, S_ro_13_21, N_ro_13_21, -, -⟩ := id (((V_ro.other W8 hne_s).other W14 hne_s).other W20 hne_s)
  obtain ⟨fs, hr, hrun, hended, hW, hsame⟩ := X20.leave (v := none) (fun _ => rfl)
  refine ⟨_, _, pre0 _ ?_, hrun, hended, _, _, rfl, ?_, ⟨_, rfl⟩, hW, hsame.mono (by decide) (by decide)⟩
  · show Steps p.tables e below (s₁.setTop (mkF m 0 #[.val (.ref a1), .val (.int p2), .val (.ref a3), .unset, .unset] [])) _
    refine XS.aloadN X0.here hx rfl (hb hby d7_0) rfl rfl ?_
    show Steps p.tables e below (s₁.setTop (mkF m 1 #[.val (.ref a1), .val (.int p2), .val (.ref a3), .unset, .unset] [(.ref a1)])) _
    refine st1 _ ?_
    refine XS.iloadN X1.here hx rfl (hb hby d7_4) rfl ?_
    refine X1.aaload hx (j := p2) (v := (.ref ro)) (by rw [e1]; exact Ar_rr_5_2.1) (State.isArrayOf_alike hZ.alike Ar_rr_5_2.2.1) rfl Ar_rr_5_2.2.2 hin_rr_5_2 (by rcases hri with rfl | rfl <;> exact H_rr_5_2.at hin_rr_5_2 rfl) (g := (mkF m 5 #[.val (.ref a1), .val (.int p2), .val (.ref a3), .unset, .unset] [(.int p2), (.ref rr)])) rfl rfl (hb hby d7_5) _ ?_
    refine XS.astoreN X1.here hx rfl (hb hby d7_6) rfl rfl (l' := #[.val (.ref a1), .val (.int p2), .val (.ref a3), .val (.ref ro), .unset]) rfl ?_
    refine XS.iconst X1.here hx rfl (hb hby d7_7) ?_
    refine XS.istore X1.here hx rfl (hb hby d7_8) rfl (l' := #[.val (.ref a1), .val (.int p2), .val (.ref a3), .val (.ref ro), .val (.int (0 : Int32))]) rfl ?_
    refine XS.iload X1.here hx rfl (hb hby d7_10) rfl ?_
    refine XS.aloadN X1.here hx rfl (hb hby d7_12) rfl rfl ?_
    refine X1.arraylength hx (by rw [e1]; exact Ar_ro_13_3.1) (State.isArrayOf_alike hZ.alike Ar_ro_13_3.2.1) (g := (mkF m 13 #[.val (.ref a1), .val (.int p2), .val (.ref a3), .val (.ref ro), .val (.int (0 : Int32))] [(.ref ro), (.int (0 : Int32))])) rfl rfl (hb hby d7_13) _ ?_
    rw [len_of S_ro_13_3 N_ro_13_3]
    refine XS.icmpNo X1.here hx rfl (hb hby d7_14) rfl (tlt (by decide : (0 : Int32) < (6 : Int32))).2.1 ?_
    refine XS.aloadN X1.here hx rfl (hb hby d7_17) rfl rfl ?_
    refine XS.aloadN X1.here hx rfl (hb hby d7_18) rfl rfl ?_
    refine XS.iload X1.here hx rfl (hb hby d7_19) rfl ?_
    refine X1.laload hx (j := (0 : Int32)) (v := (.long (1 : Int64))) (by rw [e1]; exact Ar_ro_21_4.1) (State.isArrayOf_alike hZ.alike Ar_ro_21_4.2.1) Ar_ro_21_4.2.2 hin_ro_21_4 (H_ro_21_4.at hin_ro_21_4 rfl) (g := (mkF m 21 #[.val (.ref a1), .val (.int p2), .val (.ref a3), .val (.ref ro), .val (.int (0 : Int32))] [(.int (0 : Int32)), (.ref ro), (.ref a3)])) rfl rfl (hb hby d7_21) _ ?_
    refine XS.l2i X1.here hx rfl (hb hby d7_22) rfl ?_
    refine own_dup2 X1.here hx rfl (hb hby d7_23) rfl rfl rfl ?_
    refine X1.daload hx (j := (1 : Int32)) (v := (.double ed1)) (by rw [e1]; exact Ar_a3_24_5.1) (State.isArrayOf_alike hZ.alike Ar_a3_24_5.2.1) Ar_a3_24_5.2.2 hin_a3_24_5 (H_a3_24_5.at hin_a3_24_5 rfl) (g := (mkF m 24 #[.val (.ref a1), .val (.int p2), .val (.ref a3), .val (.ref ro), .val (.int (0 : Int32))] [(.int (1 : Int32)), (.ref a3), (.int (1 : Int32)), (.ref a3)])) rfl rfl (hb hby d7_24) _ ?_
    refine XS.aloadN X1.here hx rfl (hb hby d7_25) rfl rfl ?_
    refine XS.iload X1.here hx rfl (hb hby d7_26) rfl ?_
    refine XS.iconst X1.here hx rfl (hb hby d7_28) ?_
    refine XS.iadd X1.here hx rfl (hb hby d7_29) rfl ?_
    refine X1.laload hx (j := (1 : Int32)) (v := (.long qb)) (by rw [e1]; exact Ar_ro_30_6.1) (State.isArrayOf_alike hZ.alike Ar_ro_30_6.2.1) Ar_ro_30_6.2.2 hin_ro_30_6 (H_ro_30_6.at hin_ro_30_6 rfl) (g := (mkF m 30 #[.val (.ref a1), .val (.int p2), .val (.ref a3), .val (.ref ro), .val (.int (0 : Int32))] [(.int (1 : Int32)), (.ref ro), (.double ed1), (.int (1 : Int32)), (.ref a3)])) rfl rfl (hb hby d7_30) _ ?_
    refine own_l2d X1.here hx rfl (hb hby d7_31) rfl ?_
    refine own_dadd X1.here hx rfl (hb hby d7_32) rfl hn1 ?_
    show Steps p.tables e below (T1.setTop (mkF m 33 #[.val (.ref a1), .val (.int p2), .val (.ref a3), .val (.ref ro), .val (.int (0 : Int32))] [(.double (FP.dadd ed1 (FP.l2d qb))), (.int (1 : Int32)), (.ref a3)])) _
    refine st8 _ ?_
    refine XS.iinc X8.here hx rfl (hb hby d7_34) rfl (l' := #[.val (.ref a1), .val (.int p2), .val (.ref a3), .val (.ref ro), .val (.int (2 : Int32))]) rfl ?_
    refine XS.goto X8.here hx rfl (pc0 := 37) (pc' := 10) rfl (hb hby d7_37) (by decide) (by decide) ?_
    refine XS.iload X8.here hx rfl (hb hby d7_10) rfl ?_
    refine XS.aloadN X8.here hx rfl (hb hby d7_12) rfl rfl ?_
    refine X8.arraylength hx (by rw [e8]; exact Ar_ro_13_9.1) (State.isArrayOf_alike hZ.alike Ar_ro_13_9.2.1) (g := (mkF m 13 #[.val (.ref a1), .val (.int p2), .val (.ref a3), .val (.ref ro), .val (.int (2 : Int32))] [(.ref ro), (.int (2 : Int32))])) rfl rfl (hb hby d7_13) _ ?_
    rw [len_of S_ro_13_9 N_ro_13_9]
    refine XS.icmpNo X8.here hx rfl (hb hby d7_14) rfl (tlt (by decide : (2 : Int32) < (6 : Int32))).2.1 ?_
    refine XS.aloadN X8.here hx rfl (hb hby d7_17) rfl rfl ?_
    refine XS.aloadN X8.here hx rfl (hb hby d7_18) rfl rfl ?_
    refine XS.iload X8.here hx rfl (hb hby d7_19) rfl ?_
    refine X8.laload hx (j := (2 : Int32)) (v := (.long (2 : Int64))) (by rw [e8]; exact Ar_ro_21_10.1) (State.isArrayOf_alike hZ.alike Ar_ro_21_10.2.1) Ar_ro_21_10.2.2 hin_ro_21_10 (H_ro_21_10.at hin_ro_21_10 rfl) (g := (mkF m 21 #[.val (.ref a1), .val (.int p2), .val (.ref a3), .val (.ref ro), .val (.int (2 : Int32))] [(.int (2 : Int32)), (.ref ro), (.ref a3)])) rfl rfl (hb hby d7_21) _ ?_
    refine XS.l2i X8.here hx rfl (hb hby d7_22) rfl ?_
    refine own_dup2 X8.here hx rfl (hb hby d7_23) rfl rfl rfl ?_
    refine X8.daload hx (j := (2 : Int32)) (v := (.double ed2)) (by rw [e8]; exact Ar_a3_24_11.1) (State.isArrayOf_alike hZ.alike Ar_a3_24_11.2.1) Ar_a3_24_11.2.2 hin_a3_24_11 (H_a3_24_11.at hin_a3_24_11 rfl) (g := (mkF m 24 #[.val (.ref a1), .val (.int p2), .val (.ref a3), .val (.ref ro), .val (.int (2 : Int32))] [(.int (2 : Int32)), (.ref a3), (.int (2 : Int32)), (.ref a3)])) rfl rfl (hb hby d7_24) _ ?_
    refine XS.aloadN X8.here hx rfl (hb hby d7_25) rfl rfl ?_
    refine XS.iload X8.here hx rfl (hb hby d7_26) rfl ?_
    refine XS.iconst X8.here hx rfl (hb hby d7_28) ?_
    show Steps p.tables e below (T8.setTop (mkF m 29 #[.val (.ref a1), .val (.int p2), .val (.ref a3), .val (.ref ro), .val (.int (2 : Int32))] [(.int (1 : Int32)), (.int (2 : Int32)), (.ref ro), (.double ed2), (.int (2 : Int32)), (.ref a3)])) _
    refine XS.iadd X8.here hx rfl (hb hby d7_29) rfl ?_
    refine X8.laload hx (j := (3 : Int32)) (v := (.long qc)) (by rw [e8]; exact Ar_ro_30_12.1) (State.isArrayOf_alike hZ.alike Ar_ro_30_12.2.1) Ar_ro_30_12.2.2 hin_ro_30_12 (H_ro_30_12.at hin_ro_30_12 rfl) (g := (mkF m 30 #[.val (.ref a1), .val (.int p2), .val (.ref a3), .val (.ref ro), .val (.int (2 : Int32))] [(.int (3 : Int32)), (.ref ro), (.double ed2), (.int (2 : Int32)), (.ref a3)])) rfl rfl (hb hby d7_30) _ ?_
    refine own_l2d X8.here hx rfl (hb hby d7_31) rfl ?_
    refine own_dadd X8.here hx rfl (hb hby d7_32) rfl hn2 ?_
    show Steps p.tables e below (T8.setTop (mkF m 33 #[.val (.ref a1), .val (.int p2), .val (.ref a3), .val (.ref ro), .val (.int (2 : Int32))] [(.double (FP.dadd ed2 (FP.l2d qc))), (.int (2 : Int32)), (.ref a3)])) _
    refine st14 _ ?_
    refine XS.iinc X14.here hx rfl (hb hby d7_34) rfl (l' := #[.val (.ref a1), .val (.int p2), .val (.ref a3), .val (.ref ro), .val (.int (4 : Int32))]) rfl ?_
    refine XS.goto X14.here hx rfl (pc0 := 37) (pc' := 10) rfl (hb hby d7_37) (by decide) (by decide) ?_
    refine XS.iload X14.here hx rfl (hb hby d7_10) rfl ?_
    refine XS.aloadN X14.here hx rfl (hb hby d7_12) rfl rfl ?_
    refine X14.arraylength hx (by rw [e14]; exact Ar_ro_13_15.1) (State.isArrayOf_alike hZ.alike Ar_ro_13_15.2.1) (g := (mkF m 13 #[.val (.ref a1), .val (.int p2), .val (.ref a3), .val (.ref ro), .val (.int (4 : Int32))] [(.ref ro), (.int (4 : Int32))])) rfl rfl (hb hby d7_13) _ ?_
    rw [len_of S_ro_13_15 N_ro_13_15]
    refine XS.icmpNo X14.here hx rfl (hb hby d7_14) rfl (tlt (by decide : (4 : Int32) < (6 : Int32))).2.1 ?_
    refine XS.aloadN X14.here hx rfl (hb hby d7_17) rfl rfl ?_
    refine XS.aloadN X14.here hx rfl (hb hby d7_18) rfl rfl ?_
    refine XS.iload X14.here hx rfl (hb hby d7_19) rfl ?_
    refine X14.laload hx (j := (4 : Int32)) (v := (.long (3 : Int64))) (by rw [e14]; exact Ar_ro_21_16.1) (State.isArrayOf_alike hZ.alike Ar_ro_21_16.2.1) Ar_ro_21_16.2.2 hin_ro_21_16 (H_ro_21_16.at hin_ro_21_16 rfl) (g := (mkF m 21 #[.val (.ref a1), .val (.int p2), .val (.ref a3), .val (.ref ro), .val (.int (4 : Int32))] [(.int (4 : Int32)), (.ref ro), (.ref a3)])) rfl rfl (hb hby d7_21) _ ?_
    refine XS.l2i X14.here hx rfl (hb hby d7_22) rfl ?_
    refine own_dup2 X14.here hx rfl (hb hby d7_23) rfl rfl rfl ?_
    refine X14.daload hx (j := (3 : Int32)) (v := (.double ed3)) (by rw [e14]; exact Ar_a3_24_17.1) (State.isArrayOf_alike hZ.alike Ar_a3_24_17.2.1) Ar_a3_24_17.2.2 hin_a3_24_17 (H_a3_24_17.at hin_a3_24_17 rfl) (g := (mkF m 24 #[.val (.ref a1), .val (.int p2), .val (.ref a3), .val (.ref ro), .val (.int (4 : Int32))] [(.int (3 : Int32)), (.ref a3), (.int (3 : Int32)), (.ref a3)])) rfl rfl (hb hby d7_24) _ ?_
    refine XS.aloadN X14.here hx rfl (hb hby d7_25) rfl rfl ?_
    refine XS.iload X14.here hx rfl (hb hby d7_26) rfl ?_
    refine XS.iconst X14.here hx rfl (hb hby d7_28) ?_
    refine XS.iadd X14.here hx rfl (hb hby d7_29) rfl ?_
    refine X14.laload hx (j := (5 : Int32)) (v := (.long qd)) (by rw [e14]; exact Ar_ro_30_18.1) (State.isArrayOf_alike hZ.alike Ar_ro_30_18.2.1) Ar_ro_30_18.2.2 hin_ro_30_18 (H_ro_30_18.at hin_ro_30_18 rfl) (g := (mkF m 30 #[.val (.ref a1), .val (.int p2), .val (.ref a3), .val (.ref ro), .val (.int (4 : Int32))] [(.int (5 : Int32)), (.ref ro), (.double ed3), (.int (3 : Int32)), (.ref a3)])) rfl rfl (hb hby d7_30) _ ?_
    refine own_l2d X14.here hx rfl (hb hby d7_31) rfl ?_
    refine own_dadd X14.here hx rfl (hb hby d7_32) rfl hn3 ?_
    show Steps p.tables e below (T14.setTop (mkF m 33 #[.val (.ref a1), .val (.int p2), .val (.ref a3), .val (.ref ro), .val (.int (4 : Int32))] [(.double (FP.dadd ed3 (FP.l2d qd))), (.int (3 : Int32)), (.ref a3)])) _
    refine st20 _ ?_
    refine XS.iinc X20.here hx rfl (hb hby d7_34) rfl (l' := #[.val (.ref a1), .val (.int p2), .val (.ref a3), .val (.ref ro), .val (.int (6 : Int32))]) rfl ?_
    refine XS.goto X20.here hx rfl (pc0 := 37) (pc' := 10) rfl (hb hby d7_37) (by decide) (by decide) ?_
    refine XS.iload X20.here hx rfl (hb hby d7_10) rfl ?_
    refine XS.aloadN X20.here hx rfl (hb hby d7_12) rfl rfl ?_
    refine X20.arraylength hx (by rw [e20]; exact Ar_ro_13_21.1) (State.isArrayOf_alike hZ.alike Ar_ro_13_21.2.1) (g := (mkF m 13 #[.val (.ref a1), .val (.int p2), .val (.ref a3), .val (.ref ro), .val (.int (6 : Int32))] [(.ref ro), (.int (6 : Int32))])) rfl rfl (hb hby d7_13) _ ?_
    rw [len_of S_ro_13_21 N_ro_13_21]
    refine XS.icmpYes X20.here hx rfl (pc0 := 14) (pc' := 40) rfl (hb hby d7_14) rfl (flt (by decide : ¬ ((6 : Int32) < (6 : Int32)))).2.1 (by decide) (by decide) ?_
    show Steps p.tables e below (T20.setTop (mkF m 40 #[.val (.ref a1), .val (.int p2), .val (.ref a3), .val (.ref ro), .val (.int (6 : Int32))] [])) _
    exact X20.returnOut hx Bd.returns (hb hby d7_40) hr
  · show Q_ato_14 Z a1 p2 a3 rr kr ro sg ka qa qb qc qd kd ed0 ed1 ed2 ed3 h0 n0 _ T20.heap _
    rw [e20]
    exact ⟨rfl, N20, K20, V_a3_33_19⟩
theorem ef_ato_15 (m : MethodId) (a1 : Addr) (p2 : Int32) (a3 : Addr) : entryFrame m #[(.ref a1), (.int p2), (.ref a3)] 5 = (mkF m 0 #[.val (.ref a1), .val (.int p2), .val (.ref a3), .unset, .unset] []) := by first | (simp [entryFrame, mkF, argsToLocals, Value.category]; done) | rfl
def Q_ato_15 (Z : State) (a1 : Addr) (p2 : Int32) (a3 : Addr) (rr : Addr) (kr : ClassId) (ro : Addr) (sg : Addr) (ka : ClassId) (qa : Int64) (qb : Int64) (qc : Int64) (qd : Int64) (kd : ClassId) (ed0 : UInt64) (ed1 : UInt64) (ed2 : UInt64) (ed3 : UInt64) (h0 : Heap) (n0 : Nat) (v : Option Value) (h : Heap) (L : List Loc) : Prop := v = none ∧ Fr n0 L ∧ Keep h0 h [a3] ∧ Arv Z h a3 kd .double (4 : Int32) [(.double (FP.dadd ed0 (FP.l2d qa))), (.double (FP.dadd ed1 (FP.l2d qb))), (.double (FP.dadd ed2 (FP.l2d qc))), (.double (FP.dadd ed3 (FP.l2d qd)))] (.double (0 : UInt64))
set_option maxRecDepth 65536 in
set_option maxHeartbeats 40000000 in
theorem rm_ato_15 (l : Launch) (Z : State) (a0 : Array Value) (hw : ∀ d ∈ tables_1, d.before a0 Z = true) (ws : List Jvm.Cond) (a1 : Addr) (p2 : Int32) (a3 : Addr) (rr : Addr) (kr : ClassId) (ro : Addr) (sg : Addr) (ka : ClassId) (qa : Int64) (qb : Int64) (qc : Int64) (qd : Int64) (kd : ClassId) (ed0 : UInt64) (ed1 : UInt64) (ed2 : UInt64) (ed3 : UInt64) (h0 : Heap) (n0 : Nat) (Z0 : n0 ≤ h0.size) (F_rows : Fld Z h0 a1 "com/example/chartlight/chartlight/label/WeightRows" "_rows" "[[J" (.ref rr)) (V_rr : Arv Z h0 rr kr (.array .long) (2 : Int32) (own_pair p2 (.ref ro) (.ref sg)) .null) (V_ro : Arv Z h0 ro ka .long (8 : Int32) [(.long (0 : Int64)), (.long qa), (.long (1 : Int64)), (.long qb), (.long (2 : Int64)), (.long qc), (.long (3 : Int64)), (.long qd)] (.long (0 : Int64))) (V_a3 : Arv Z h0 a3 kd .double (4 : Int32) [(.double ed0), (.double ed1), (.double ed2), (.double ed3)] (.double (0 : UInt64))) (g_a3 : n0 ≤ a3) (hri : p2 = (0 : Int32) ∨ p2 = (1 : Int32)) (hne_s : ro ≠ a3) (hn0 : FP.dadd ed0 (FP.l2d qa) &&& 0x7fffffffffffffff ≤ 0x7ff0000000000000) (hn1 : FP.dadd ed1 (FP.l2d qb) &&& 0x7fffffffffffffff ≤ 0x7ff0000000000000) (hn2 : FP.dadd ed2 (FP.l2d qc) &&& 0x7fffffffffffffff ≤ 0x7ff0000000000000) (hn3 : FP.dadd ed3 (FP.l2d qd) &&& 0x7fffffffffffffff ≤ 0x7ff0000000000000) :
    MetFree l (⟨"com/example/chartlight/chartlight/label/WeightRows", "addTo", "(I[D)V"⟩ : MethodName) (head1 (Jvm.Cond.code (⟨"com/example/chartlight/chartlight/label/WeightRows", "addTo", "(I[D)V"⟩ : MethodName) prog_58_method_8_code 5 none :: ws) ({ frames := 0, cells := 0, slots := 0, locals := 0 } : Room)) (fun a U => a = #[(.ref a1), (.int p2), (.ref a3)] ∧ Z.Warmed39 U.vm ∧ U.heap = h0) (fun _ _ _ _ _ => True) (fun _ U o U' => ∃ v L, o = .returned v ∧ Q_ato_15 Z a1 p2 a3 rr kr ro sg ka qa qb qc qd kd ed0 ed1 ed2 ed3 h0 n0 v U'.heap L ∧ FrameEnd U o U' L ({ frames := 0, cells := 0, slots := 0, locals := 0 } : Room).cells ({ frames := 0, cells := 0, slots := 0, locals := 0 } : Room).slots) := by
  refine MetFree.of_bodySF (plainFor_of_name pn0) hisR ?_
  intro p e s m args below meth c s₁ Bd hml0 hP hK
  obtain ⟨rfl, hZ, hh⟩ := hP
  have hx := Bd.exec
  have hby := Bd.bytes
  have hml : c.maxLocals = 5 := hml0
  have hown : s.vm.findClass "com/example/chartlight/chartlight/label/WeightRows" = some m.cls := findClass_of_methodNamed Bd.named
  have hnm := (name_of_methodNamed Bd.named Bd.method).1
  have X0 : Stand p l e ({ frames := 0, cells := 0, slots := 0, locals := 0 } : Room) s m #[(.ref a1), (.int p2), (.ref a3)] below meth c s₁ [] 0 0 := Stand.of_body Bd
  have e0 : s₁.heap = h0 := by rw [← hh, Bd.state]; rfl
  have N0 := Fr.nil n0
  have pre0 : ∀ t, Steps p.tables e below (s₁.setTop (mkF m 0 #[.val (.ref a1), .val (.int p2), .val (.ref a3), .unset, .unset] [])) t → Steps p.tables e below (s₁.setTop (entryFrame m #[(.ref a1), (.int p2), (.ref a3)] 5)) t := fun t k => castTop (ef_ato_15 m a1 p2 a3) k
  obtain ⟨T1, X1, e1, st1⟩ := getF X0 hx hZ hown (host := "") (Or.inl (hw _ (List.mem_of_getElem? (i := 11) rfl))) Via.refl e0 F_rows (g := (mkF m 1 #[.val (.ref a1), .val (.int p2), .val (.ref a3), .unset, .unset] [(.ref a1)])) rfl rfl (hb hby d7_1)
  obtain ⟨cl_rr_5_2, Ar_rr_5_2, q_rr_5_2, S_rr_5_2, N_rr_5_2, H_rr_5_2, G_rr_5_2⟩ := id V_rr
  have hin_rr_5_2 : ¬ (p2 < 0 ∨ cl_rr_5_2.slots.size ≤ (p2 : Int32).toNatClampNeg) := by rcases hri with rfl | rfl <;> exact inb_of S_rr_5_2 ⟨by decide, by decide⟩
  obtain ⟨cl_ro_13_3, Ar_ro_13_3, -, S_ro_13_3, N_ro_13_3, -, -⟩ := id V_ro
  obtain ⟨cl_ro_21_4, Ar_ro_21_4, q_ro_21_4, S_ro_21_4, N_ro_21_4, H_ro_21_4, G_ro_21_4⟩ := id V_ro
  have hin_ro_21_4 : ¬ ((0 : Int32) < 0 ∨ cl_ro_21_4.slots.size ≤ ((0 : Int32) : Int32).toNatClampNeg) := inb_of S_ro_21_4 ⟨by decide, by decide⟩
  obtain ⟨cl_a3_24_5, Ar_a3_24_5, q_a3_24_5, S_a3_24_5, N_a3_24_5, H_a3_24_5, G_a3_24_5⟩ := id V_a3
  have hin_a3_24_5 : ¬ ((0 : Int32) < 0 ∨ cl_a3_24_5.slots.size ≤ ((0 : Int32) : Int32).toNatClampNeg) := inb_of S_a3_24_5 ⟨by decide, by decide⟩
  obtain ⟨cl_ro_30_6, Ar_ro_30_6, q_ro_30_6, S_ro_30_6, N_ro_30_6, H_ro_30_6, G_ro_30_6⟩ := id V_ro
  have hin_ro_30_6 : ¬ ((1 : Int32) < 0 ∨ cl_ro_30_6.slots.size ≤ ((1 : Int32) : Int32).toNatClampNeg) := inb_of S_ro_30_6 ⟨by decide, by decide⟩
  obtain ⟨cl_a3_33_7, Ar_a3_33_7, q_a3_33_7, S_a3_33_7, N_a3_33_7, H_a3_33_7, G_a3_33_7⟩ := id V_a3
  have hin_a3_33_7 : ¬ ((0 : Int32) < 0 ∨ cl_a3_33_7.slots.size ≤ ((0 : Int32) : Int32).toNatClampNeg) := inb_of S_a3_33_7 ⟨by decide, by decide⟩
  obtain ⟨T8, h8, X8, e8, W8, st8⟩ := stD X1 hx hZ e1 Ar_a3_33_7 (j := (0 : Int32)) hin_a3_33_7 (g := (mkF m 33 #[.val (.ref a1), .val (.int p2), .val (.ref a3), .val (.ref ro), .val (.int (0 : Int32))] [(.double (FP.dadd ed0 (FP.l2d qa))), (.int (0 : Int32)), (.ref a3)])) rfl rfl (hb hby d7_33)
  have V_a3_33_7 : Arv Z h8 a3 kd .double (4 : Int32) [(.double (FP.dadd ed0 (FP.l2d qa))), (.double ed1), (.double ed2), (.double ed3)] (.double (0 : UInt64)) := Arv.set Ar_a3_33_7 q_a3_33_7 S_a3_33_7 N_a3_33_7 H_a3_33_7 G_a3_33_7 rfl W8 0 rfl (Nat.le_of_ble_eq_true rfl)
  have K8 : Keep h0 h8 [a3] := (Keep.refl h0 [a3]).wr W8 (Or.inl (List.mem_of_getElem? (i := 0) rfl))
  have N8 := Fr.snoc X8 N0 g_a3
  obtain ⟨cl_ro_13_9, Ar_ro_13_9, -, S_ro_13_9, N_ro_13_9, -, -⟩ := id (V_ro.other W8 hne_s)
  obtain ⟨cl_ro_21_10, Ar_ro_21_10, q_ro_21_10, S_ro_21_10, N_ro_21_10, H_ro_21_10, G_ro_21_10⟩ := id (V_ro.other W8 hne_s)
  have hin_ro_21_10 : ¬ ((2 : Int32) < 0 ∨ cl_ro_21_10.slots.size ≤ ((2 : Int32) : Int32).toNatClampNeg) := inb_of S_ro_21_10 ⟨by decide, by decide⟩
  obtain ⟨cl_a3_24_11, Ar_a3_24_11, q_a3_24_11, S_a3_24_11, N_a3_24_11, H_a3_24_11, G_a3_24_11⟩ := id V_a3_33_7
  have hin_a3_24_11 : ¬ ((1 : Int32) < 0 ∨ cl_a3_24_11.slots.size ≤ ((1 : Int32) : Int32).toNatClampNeg) := inb_of S_a3_24_11 ⟨by decide, by decide⟩
  obtain ⟨cl_ro_30_12, Ar_ro_30_12, q_ro_30_12, S_ro_30_12, N_ro_30_12, H_ro_30_12, G_ro_30_12⟩ := id (V_ro.other W8 hne_s)
  have hin_ro_30_12 : ¬ ((3 : Int32) < 0 ∨ cl_ro_30_12.slots.size ≤ ((3 : Int32) : Int32).toNatClampNeg) := inb_of S_ro_30_12 ⟨by decide, by decide⟩
  obtain ⟨cl_a3_33_13, Ar_a3_33_13, q_a3_33_13, S_a3_33_13, N_a3_33_13, H_a3_33_13, G_a3_33_13⟩ := id V_a3_33_7
  have hin_a3_33_13 : ¬ ((1 : Int32) < 0 ∨ cl_a3_33_13.slots.size ≤ ((1 : Int32) : Int32).toNatClampNeg) := inb_of S_a3_33_13 ⟨by decide, by decide⟩
  obtain ⟨T14, h14, X14, e14, W14, st14⟩ := stD X8 hx hZ e8 Ar_a3_33_13 (j := (1 : Int32)) hin_a3_33_13 (g := (mkF m 33 #[.val (.ref a1), .val (.int p2), .val (.ref a3), .val (.ref ro), .val (.int (2 : Int32))] [(.double (FP.dadd ed1 (FP.l2d qb))), (.int (1 : Int32)), (.ref a3)])) rfl rfl (hb hby d7_33)
  have V_a3_33_13 : Arv Z h14 a3 kd .double (4 : Int32) [(.double (FP.dadd ed0 (FP.l2d qa))), (.double (FP.dadd ed1 (FP.l2d qb))), (.double ed2), (.double ed3)] (.double (0 : UInt64)) := Arv.set Ar_a3_33_13 q_a3_33_13 S_a3_33_13 N_a3_33_13 H_a3_33_13 G_a3_33_13 rfl W14 1 rfl (Nat.le_of_ble_eq_true rfl)
  have K14 : Keep h0 h14 [a3] := K8.wr W14 (Or.inl (List.mem_of_getElem? (i := 0) rfl))
  have N14 := Fr.snoc X14 N8 g_a3
  obtain ⟨cl_ro_13_15, Ar_ro_13_15, -, S_ro_13_15, N_ro_13_15, -, -⟩ := id ((V_ro.other W8 hne_s).other W14 hne_s)
  obtain ⟨cl_ro_21_16, Ar_ro_21_16, q_ro_21_16, S_ro_21_16, N_ro_21_16, H_ro_21_16, G_ro_21_16⟩ := id ((V_ro.other W8 hne_s).other W14 hne_s)
  have hin_ro_21_16 : ¬ ((4 : Int32) < 0 ∨ cl_ro_21_16.slots.size ≤ ((4 : Int32) : Int32).toNatClampNeg) := inb_of S_ro_21_16 ⟨by decide, by decide⟩
  obtain ⟨cl_a3_24_17, Ar_a3_24_17, q_a3_24_17, S_a3_24_17, N_a3_24_17, H_a3_24_17, G_a3_24_17⟩ := id V_a3_33_13
  have hin_a3_24_17 : ¬ ((2 : Int32) < 0 ∨ cl_a3_24_17.slots.size ≤ ((2 : Int32) : Int32).toNatClampNeg) := inb_of S_a3_24_17 ⟨by decide, by decide⟩
  obtain ⟨cl_ro_30_18, Ar_ro_30_18, q_ro_30_18, S_ro_30_18, N_ro_30_18, H_ro_30_18, G_ro_30_18⟩ := id ((V_ro.other W8 hne_s).other W14 hne_s)
  have hin_ro_30_18 : ¬ ((5 : Int32) < 0 ∨ cl_ro_30_18.slots.size ≤ ((5 : Int32) : Int32).toNatClampNeg) := inb_of S_ro_30_18 ⟨by decide, by decide⟩
  obtain ⟨cl_a3_33_19, Ar_a3_33_19, q_a3_33_19, S_a3_33_19, N_a3_33_19, H_a3_33_19, G_a3_33_19⟩ := id V_a3_33_13
  have hin_a3_33_19 : ¬ ((2 : Int32) < 0 ∨ cl_a3_33_19.slots.size ≤ ((2 : Int32) : Int32).toNatClampNeg) := inb_of S_a3_33_19 ⟨by decide, by decide⟩
  obtain ⟨T20, h20, X20, e20, W20, st20⟩ := stD X14 hx hZ e14 Ar_a3_33_19 (j := (2 : Int32)) hin_a3_33_19 (g := (mkF m 33 #[.val (.ref a1), .val (.int p2), .val (.ref a3), .val (.ref ro), .val (.int (4 : Int32))] [(.double (FP.dadd ed2 (FP.l2d qc))), (.int (2 : Int32)), (.ref a3)])) rfl rfl (hb hby d7_33)
  have V_a3_33_19 : Arv Z h20 a3 kd .double (4 : Int32) [(.double (FP.dadd ed0 (FP.l2d qa))), (.double (FP.dadd ed1 (FP.l2d qb))), (.double (FP.dadd ed2 (FP.l2d qc))), (.double ed3)] (.double (0 : UInt64)) := Arv.set Ar_a3_33_19 q_a3_33_19 S_a3_33_19 N_a3_33_19 H_a3_33_19 G_a3_33_19 rfl W20 2 rfl (Nat.le_of_ble_eq_true rfl)
  have K20 : Keep h0 h20 [a3] := K14.wr W20 (Or.inl (List.mem_of_getElem? (i := 0) rfl))
  have N20 := Fr.snoc X20 N14 g_a3
  obtain ⟨cl_ro_13_21, Ar_ro_13_21, -, S_ro_13_21, N_ro_13_21, -, -⟩ := id (((V_ro.other W8 hne_s).other W14 hne_s).other W20 hne_s)
  obtain ⟨cl_ro_21_22, Ar_ro_21_22, q_ro_21_22, S_ro_21_22, N_ro_21_22, H_ro_21_22, G_ro_21_22⟩ := id (((V_ro.other W8 hne_s).other W14 hne_s).other W20 hne_s)
  have hin_ro_21_22 : ¬ ((6 : Int32) < 0 ∨ cl_ro_21_22.slots.size ≤ ((6 : Int32) : Int32).toNatClampNeg) := inb_of S_ro_21_22 ⟨by decide, by decide⟩
  obtain ⟨cl_a3_24_23, Ar_a3_24_23, q_a3_24_23, S_a3_24_23, N_a3_24_23, H_a3_24_23, G_a3_24_23⟩ := id V_a3_33_19
  have hin_a3_24_23 : ¬ ((3 : Int32) < 0 ∨ cl_a3_24_23.slots.size ≤ ((3 : Int32) : Int32).toNatClampNeg) := inb_of S_a3_24_23 ⟨by decide, by decide⟩
  obtain ⟨cl_ro_30_24, Ar_ro_30_24, q_ro_30_24, S_ro_30_24, N_ro_30_24, H_ro_30_24, G_ro_30_24⟩ := id (((V_ro.other W8 hne_s).other W14 hne_s).other W20 hne_s)
  have hin_ro_30_24 : ¬ ((7 : Int32) < 0 ∨ cl_ro_30_24.slots.size ≤ ((7 : Int32) : Int32).toNatClampNeg) := inb_of S_ro_30_24 ⟨by decide, by decide⟩
  obtain ⟨cl_a3_33_25, Ar_a3_33_25, q_a3_33_25, S_a3_33_25, N_a3_33_25, H_a3_33_25, G_a3_33_25⟩ := id V_a3_33_19
  have hin_a3_33_25 : ¬ ((3 : Int32) < 0 ∨ cl_a3_33_25.slots.size ≤ ((3 : Int32) : Int32).toNatClampNeg) := inb_of S_a3_33_25 ⟨by decide, by decide⟩
  obtain ⟨T26, h26, X26, e26, W26, st26⟩ := stD X20 hx hZ e20 Ar_a3_33_25 (j := (3 : Int32)) hin_a3_33_25 (g := (mkF m 33 #[.val (.ref a1), .val (.int p2), .val (.ref a3), .val (.ref ro), .val (.int (6 : Int32))] [(.double (FP.dadd ed3 (FP.l2d qd))), (.int (3 : Int32)), (.ref a3)])) rfl rfl (hb hby d7_33)
  have V_a3_33_25 : Arv Z h26 a3 kd .double (4 : Int32) [(.double (FP.dadd ed0 (FP.l2d qa))), (.double (FP.dadd ed1 (FP.l2d qb))), (.double (FP.dadd ed2 (FP.l2d qc))), (.double (FP.dadd ed3 (FP.l2d qd)))] (.double (0 : UInt64)) := Arv.set Ar_a3_33_25 q_a3_33_25 S_a3_33_25 N_a3_33_25 H_a3_33_25 G_a3_33_25 rfl W26 3 rfl (Nat.le_of_ble_eq_true rfl)
  have K26 : Keep h0 h26 [a3] := K20.wr W26 (Or.inl (List.mem_of_getElem? (i := 0) rfl))
  have N26 := Fr.snoc X26 N20 g_a3
  obtain ⟨cl_ro_13_27, Ar_ro_13_27, -, S_ro_13_27, N_ro_13_27, -, -⟩ := id ((((V_ro.other W8 hne_s).other W14 hne_s).other W20 hne_s).other W26 hne_s)
  obtain ⟨fs, hr, hrun, hended, hW, hsame⟩ := X26.leave (v := none) (fun _ => rfl)
  refine ⟨_, _, pre0 _ ?_, hrun, hended, _, _, rfl, ?_, ⟨_, rfl⟩, hW, hsame.mono (by decide) (by decide)⟩
  · show Steps p.tables e below (s₁.setTop (mkF m 0 #[.val (.ref a1), .val (.int p2), .val (.ref a3), .unset, .unset] [])) _
    refine XS.aloadN X0.here hx rfl (hb hby d7_0) rfl rfl ?_
    show Steps p.tables e below (s₁.setTop (mkF m 1 #[.val (.ref a1), .val (.int p2), .val (.ref a3), .unset, .unset] [(.ref a1)])) _
    refine st1 _ ?_
    refine XS.iloadN X1.here hx rfl (hb hby d7_4) rfl ?_
    refine X1.aaload hx (j := p2) (v := (.ref ro)) (by rw [e1]; exact Ar_rr_5_2.1) (State.isArrayOf_alike hZ.alike Ar_rr_5_2.2.1) rfl Ar_rr_5_2.2.2 hin_rr_5_2 (by rcases hri with rfl | rfl <;> exact H_rr_5_2.at hin_rr_5_2 rfl) (g := (mkF m 5 #[.val (.ref a1), .val (.int p2), .val (.ref a3), .unset, .unset] [(.int p2), (.ref rr)])) rfl rfl (hb hby d7_5) _ ?_
    refine XS.astoreN X1.here hx rfl (hb hby d7_6) rfl rfl (l' := #[.val (.ref a1), .val (.int p2), .val (.ref a3), .val (.ref ro), .unset]) rfl ?_
    refine XS.iconst X1.here hx rfl (hb hby d7_7) ?_
    refine XS.istore X1.here hx rfl (hb hby d7_8) rfl (l' := #[.val (.ref a1), .val (.int p2), .val (.ref a3), .val (.ref ro), .val (.int (0 : Int32))]) rfl ?_
    refine XS.iload X1.here hx rfl (hb hby d7_10) rfl ?_
    refine XS.aloadN X1.here hx rfl (hb hby d7_12) rfl rfl ?_
    refine X1.arraylength hx (by rw [e1]; exact Ar_ro_13_3.1) (State.isArrayOf_alike hZ.alike Ar_ro_13_3.2.1) (g := (mkF m 13 #[.val (.ref a1), .val (.int p2), .val (.ref a3), .val (.ref ro), .val (.int (0 : Int32))] [(.ref ro), (.int (0 : Int32))])) rfl rfl (hb hby d7_13) _ ?_
    rw [len_of S_ro_13_3 N_ro_13_3]
    refine XS.icmpNo X1.here hx rfl (hb hby d7_14) rfl (tlt (by decide : (0 : Int32) < (8 : Int32))).2.1 ?_
    refine XS.aloadN X1.here hx rfl (hb hby d7_17) rfl rfl ?_
    refine XS.aloadN X1.here hx rfl (hb hby d7_18) rfl rfl ?_
    refine XS.iload X1.here hx rfl (hb hby d7_19) rfl ?_
    refine X1.laload hx (j := (0 : Int32)) (v := (.long (0 : Int64))) (by rw [e1]; exact Ar_ro_21_4.1) (State.isArrayOf_alike hZ.alike Ar_ro_21_4.2.1) Ar_ro_21_4.2.2 hin_ro_21_4 (H_ro_21_4.at hin_ro_21_4 rfl) (g := (mkF m 21 #[.val (.ref a1), .val (.int p2), .val (.ref a3), .val (.ref ro), .val (.int (0 : Int32))] [(.int (0 : Int32)), (.ref ro), (.ref a3)])) rfl rfl (hb hby d7_21) _ ?_
    refine XS.l2i X1.here hx rfl (hb hby d7_22) rfl ?_
    refine own_dup2 X1.here hx rfl (hb hby d7_23) rfl rfl rfl ?_
    refine X1.daload hx (j := (0 : Int32)) (v := (.double ed0)) (by rw [e1]; exact Ar_a3_24_5.1) (State.isArrayOf_alike hZ.alike Ar_a3_24_5.2.1) Ar_a3_24_5.2.2 hin_a3_24_5 (H_a3_24_5.at hin_a3_24_5 rfl) (g := (mkF m 24 #[.val (.ref a1), .val (.int p2), .val (.ref a3), .val (.ref ro), .val (.int (0 : Int32))] [(.int (0 : Int32)), (.ref a3), (.int (0 : Int32)), (.ref a3)])) rfl rfl (hb hby d7_24) _ ?_
    refine XS.aloadN X1.here hx rfl (hb hby d7_25) rfl rfl ?_
    refine XS.iload X1.here hx rfl (hb hby d7_26) rfl ?_
    refine XS.iconst X1.here hx rfl (hb hby d7_28) ?_
    refine XS.iadd X1.here hx rfl (hb hby d7_29) rfl ?_
    refine X1.laload hx (j := (1 : Int32)) (v := (.long qa)) (by rw [e1]; exact Ar_ro_30_6.1) (State.isArrayOf_alike hZ.alike Ar_ro_30_6.2.1) Ar_ro_30_6.2.2 hin_ro_30_6 (H_ro_30_6.at hin_ro_30_6 rfl) (g := (mkF m 30 #[.val (.ref a1), .val (.int p2), .val (.ref a3), .val (.ref ro), .val (.int (0 : Int32))] [(.int (1 : Int32)), (.ref ro), (.double ed0), (.int (0 : Int32)), (.ref a3)])) rfl rfl (hb hby d7_30) _ ?_
    refine own_l2d X1.here hx rfl (hb hby d7_31) rfl ?_
    refine own_dadd X1.here hx rfl (hb hby d7_32) rfl hn0 ?_
    show Steps p.tables e below (T1.setTop (mkF m 33 #[.val (.ref a1), .val (.int p2), .val (.ref a3), .val (.ref ro), .val (.int (0 : Int32))] [(.double (FP.dadd ed0 (FP.l2d qa))), (.int (0 : Int32)), (.ref a3)])) _
    refine st8 _ ?_
    refine XS.iinc X8.here hx rfl (hb hby d7_34) rfl (l' := #[.val (.ref a1), .val (.int p2), .val (.ref a3), .val (.ref ro), .val (.int (2 : Int32))]) rfl ?_
    refine XS.goto X8.here hx rfl (pc0 := 37) (pc' := 10) rfl (hb hby d7_37) (by decide) (by decide) ?_
    refine XS.iload X8.here hx rfl (hb hby d7_10) rfl ?_
    refine XS.aloadN X8.here hx rfl (hb hby d7_12) rfl rfl ?_
    refine X8.arraylength hx (by rw [e8]; exact Ar_ro_13_9.1) (State.isArrayOf_alike hZ.alike Ar_ro_13_9.2.1) (g := (mkF m 13 #[.val (.ref a1), .val (.int p2), .val (.ref a3), .val (.ref ro), .val (.int (2 : Int32))] [(.ref ro), (.int (2 : Int32))])) rfl rfl (hb hby d7_13) _ ?_
    rw [len_of S_ro_13_9 N_ro_13_9]
    refine XS.icmpNo X8.here hx rfl (hb hby d7_14) rfl (tlt (by decide : (2 : Int32) < (8 : Int32))).2.1 ?_
    refine XS.aloadN X8.here hx rfl (hb hby d7_17) rfl rfl ?_
    refine XS.aloadN X8.here hx rfl (hb hby d7_18) rfl rfl ?_
    refine XS.iload X8.here hx rfl (hb hby d7_19) rfl ?_
    refine X8.laload hx (j := (2 : Int32)) (v := (.long (1 : Int64))) (by rw [e8]; exact Ar_ro_21_10.1) (State.isArrayOf_alike hZ.alike Ar_ro_21_10.2.1) Ar_ro_21_10.2.2 hin_ro_21_10 (H_ro_21_10.at hin_ro_21_10 rfl) (g := (mkF m 21 #[.val (.ref a1), .val (.int p2), .val (.ref a3), .val (.ref ro), .val (.int (2 : Int32))] [(.int (2 : Int32)), (.ref ro), (.ref a3)])) rfl rfl (hb hby d7_21) _ ?_
    refine XS.l2i X8.here hx rfl (hb hby d7_22) rfl ?_
    refine own_dup2 X8.here hx rfl (hb hby d7_23) rfl rfl rfl ?_
    refine X8.daload hx (j := (1 : Int32)) (v := (.double ed1)) (by rw [e8]; exact Ar_a3_24_11.1) (State.isArrayOf_alike hZ.alike Ar_a3_24_11.2.1) Ar_a3_24_11.2.2 hin_a3_24_11 (H_a3_24_11.at hin_a3_24_11 rfl) (g := (mkF m 24 #[.val (.ref a1), .val (.int p2), .val (.ref a3), .val (.ref ro), .val (.int (2 : Int32))] [(.int (1 : Int32)), (.ref a3), (.int (1 : Int32)), (.ref a3)])) rfl rfl (hb hby d7_24) _ ?_
    refine XS.aloadN X8.here hx rfl (hb hby d7_25) rfl rfl ?_
    refine XS.iload X8.here hx rfl (hb hby d7_26) rfl ?_
    refine XS.iconst X8.here hx rfl (hb hby d7_28) ?_
    show Steps p.tables e below (T8.setTop (mkF m 29 #[.val (.ref a1), .val (.int p2), .val (.ref a3), .val (.ref ro), .val (.int (2 : Int32))] [(.int (1 : Int32)), (.int (2 : Int32)), (.ref ro), (.double ed1), (.int (1 : Int32)), (.ref a3)])) _
    refine XS.iadd X8.here hx rfl (hb hby d7_29) rfl ?_
    refine X8.laload hx (j := (3 : Int32)) (v := (.long qb)) (by rw [e8]; exact Ar_ro_30_12.1) (State.isArrayOf_alike hZ.alike Ar_ro_30_12.2.1) Ar_ro_30_12.2.2 hin_ro_30_12 (H_ro_30_12.at hin_ro_30_12 rfl) (g := (mkF m 30 #[.val (.ref a1), .val (.int p2), .val (.ref a3), .val (.ref ro), .val (.int (2 : Int32))] [(.int (3 : Int32)), (.ref ro), (.double ed1), (.int (1 : Int32)), (.ref a3)])) rfl rfl (hb hby d7_30) _ ?_
    refine own_l2d X8.here hx rfl (hb hby d7_31) rfl ?_
    refine own_dadd X8.here hx rfl (hb hby d7_32) rfl hn1 ?_
    show Steps p.tables e below (T8.setTop (mkF m 33 #[.val (.ref a1), .val (.int p2), .val (.ref a3), .val (.ref ro), .val (.int (2 : Int32))] [(.double (FP.dadd ed1 (FP.l2d qb))), (.int (1 : Int32)), (.ref a3)])) _
    refine st14 _ ?_
    refine XS.iinc X14.here hx rfl (hb hby d7_34) rfl (l' := #[.val (.ref a1), .val (.int p2), .val (.ref a3), .val (.ref ro), .val (.int (4 : Int32))]) rfl ?_
    refine XS.goto X14.here hx rfl (pc0 := 37) (pc' := 10) rfl (hb hby d7_37) (by decide) (by decide) ?_
    refine XS.iload X14.here hx rfl (hb hby d7_10) rfl ?_
    refine XS.aloadN X14.here hx rfl (hb hby d7_12) rfl rfl ?_
    refine X14.arraylength hx (by rw [e14]; exact Ar_ro_13_15.1) (State.isArrayOf_alike hZ.alike Ar_ro_13_15.2.1) (g := (mkF m 13 #[.val (.ref a1), .val (.int p2), .val (.ref a3), .val (.ref ro), .val (.int (4 : Int32))] [(.ref ro), (.int (4 : Int32))])) rfl rfl (hb hby d7_13) _ ?_
    rw [len_of S_ro_13_15 N_ro_13_15]
    refine XS.icmpNo X14.here hx rfl (hb hby d7_14) rfl (tlt (by decide : (4 : Int32) < (8 : Int32))).2.1 ?_
    refine XS.aloadN X14.here hx rfl (hb hby d7_17) rfl rfl ?_
    refine XS.aloadN X14.here hx rfl (hb hby d7_18) rfl rfl ?_
    refine XS.iload X14.here hx rfl (hb hby d7_19) rfl ?_
    refine X14.laload hx (j := (4 : Int32)) (v := (.long (2 : Int64))) (by rw [e14]; exact Ar_ro_21_16.1) (State.isArrayOf_alike hZ.alike Ar_ro_21_16.2.1) Ar_ro_21_16.2.2 hin_ro_21_16 (H_ro_21_16.at hin_ro_21_16 rfl) (g := (mkF m 21 #[.val (.ref a1), .val (.int p2), .val (.ref a3), .val (.ref ro), .val (.int (4 : Int32))] [(.int (4 : Int32)), (.ref ro), (.ref a3)])) rfl rfl (hb hby d7_21) _ ?_
    refine XS.l2i X14.here hx rfl (hb hby d7_22) rfl ?_
    refine own_dup2 X14.here hx rfl (hb hby d7_23) rfl rfl rfl ?_
    refine X14.daload hx (j := (2 : Int32)) (v := (.double ed2)) (by rw [e14]; exact Ar_a3_24_17.1) (State.isArrayOf_alike hZ.alike Ar_a3_24_17.2.1) Ar_a3_24_17.2.2 hin_a3_24_17 (H_a3_24_17.at hin_a3_24_17 rfl) (g := (mkF m 24 #[.val (.ref a1), .val (.int p2), .val (.ref a3), .val (.ref ro), .val (.int (4 : Int32))] [(.int (2 : Int32)), (.ref a3), (.int (2 : Int32)), (.ref a3)])) rfl rfl (hb hby d7_24) _ ?_
    refine XS.aloadN X14.here hx rfl (hb hby d7_25) rfl rfl ?_
    refine XS.iload X14.here hx rfl (hb hby d7_26) rfl ?_
    refine XS.iconst X14.here hx rfl (hb hby d7_28) ?_
    refine XS.iadd X14.here hx rfl (hb hby d7_29) rfl ?_
    refine X14.laload hx (j := (5 : Int32)) (v := (.long qc)) (by rw [e14]; exact Ar_ro_30_18.1) (State.isArrayOf_alike hZ.alike Ar_ro_30_18.2.1) Ar_ro_30_18.2.2 hin_ro_30_18 (H_ro_30_18.at hin_ro_30_18 rfl) (g := (mkF m 30 #[.val (.ref a1), .val (.int p2), .val (.ref a3), .val (.ref ro), .val (.int (4 : Int32))] [(.int (5 : Int32)), (.ref ro), (.double ed2), (.int (2 : Int32)), (.ref a3)])) rfl rfl (hb hby d7_30) _ ?_
    refine own_l2d X14.here hx rfl (hb hby d7_31) rfl ?_
    refine own_dadd X14.here hx rfl (hb hby d7_32) rfl hn2 ?_
    show Steps p.tables e below (T14.setTop (mkF m 33 #[.val (.ref a1), .val (.int p2), .val (.ref a3), .val (.ref ro), .val (.int (4 : Int32))] [(.double (FP.dadd ed2 (FP.l2d qc))), (.int (2 : Int32)), (.ref a3)])) _
    refine st20 _ ?_
    refine XS.iinc X20.here hx rfl (hb hby d7_34) rfl (l' := #[.val (.ref a1), .val (.int p2), .val (.ref a3), .val (.ref ro), .val (.int (6 : Int32))]) rfl ?_
    refine XS.goto X20.here hx rfl (pc0 := 37) (pc' := 10) rfl (hb hby d7_37) (by decide) (by decide) ?_
    refine XS.iload X20.here hx rfl (hb hby d7_10) rfl ?_
    refine XS.aloadN X20.here hx rfl (hb hby d7_12) rfl rfl ?_
    refine X20.arraylength hx (by rw [e20]; exact Ar_ro_13_21.1) (State.isArrayOf_alike hZ.alike Ar_ro_13_21.2.1) (g := (mkF m 13 #[.val (.ref a1), .val (.int p2), .val (.ref a3), .val (.ref ro), .val (.int (6 : Int32))] [(.ref ro), (.int (6 : Int32))])) rfl rfl (hb hby d7_13) _ ?_
    rw [len_of S_ro_13_21 N_ro_13_21]
    refine XS.icmpNo X20.here hx rfl (hb hby d7_14) rfl (tlt (by decide : (6 : Int32) < (8 : Int32))).2.1 ?_
    refine XS.aloadN X20.here hx rfl (hb hby d7_17) rfl rfl ?_
    refine XS.aloadN X20.here hx rfl (hb hby d7_18) rfl rfl ?_
    refine XS.iload X20.here hx rfl (hb hby d7_19) rfl ?_
    refine X20.laload hx (j := (6 : Int32)) (v := (.long (3 : Int64))) (by rw [e20]; exact Ar_ro_21_22.1) (State.isArrayOf_alike hZ.alike Ar_ro_21_22.2.1) Ar_ro_21_22.2.2 hin_ro_21_22 (H_ro_21_22.at hin_ro_21_22 rfl) (g := (mkF m 21 #[.val (.ref a1), .val (.int p2), .val (.ref a3), .val (.ref ro), .val (.int (6 : Int32))] [(.int (6 : Int32)), (.ref ro), (.ref a3)])) rfl rfl (hb hby d7_21) _ ?_
    refine XS.l2i X20.here hx rfl (hb hby d7_22) rfl ?_
    refine own_dup2 X20.here hx rfl (hb hby d7_23) rfl rfl rfl ?_
    refine X20.daload hx (j := (3 : Int32)) (v := (.double ed3)) (by rw [e20]; exact Ar_a3_24_23.1) (State.isArrayOf_alike hZ.alike Ar_a3_24_23.2.1) Ar_a3_24_23.2.2 hin_a3_24_23 (H_a3_24_23.at hin_a3_24_23 rfl) (g := (mkF m 24 #[.val (.ref a1), .val (.int p2), .val (.ref a3), .val (.ref ro), .val (.int (6 : Int32))] [(.int (3 : Int32)), (.ref a3), (.int (3 : Int32)), (.ref a3)])) rfl rfl (hb hby d7_24) _ ?_
    refine XS.aloadN X20.here hx rfl (hb hby d7_25) rfl rfl ?_
    refine XS.iload X20.here hx rfl (hb hby d7_26) rfl ?_
    refine XS.iconst X20.here hx rfl (hb hby d7_28) ?_
    show Steps p.tables e below (T20.setTop (mkF m 29 #[.val (.ref a1), .val (.int p2), .val (.ref a3), .val (.ref ro), .val (.int (6 : Int32))] [(.int (1 : Int32)), (.int (6 : Int32)), (.ref ro), (.double ed3), (.int (3 : Int32)), (.ref a3)])) _
    refine XS.iadd X20.here hx rfl (hb hby d7_29) rfl ?_
    refine X20.laload hx (j := (7 : Int32)) (v := (.long qd)) (by rw [e20]; exact Ar_ro_30_24.1) (State.isArrayOf_alike hZ.alike Ar_ro_30_24.2.1) Ar_ro_30_24.2.2 hin_ro_30_24 (H_ro_30_24.at hin_ro_30_24 rfl) (g := (mkF m 30 #[.val (.ref a1), .val (.int p2), .val (.ref a3), .val (.ref ro), .val (.int (6 : Int32))] [(.int (7 : Int32)), (.ref ro), (.double ed3), (.int (3 : Int32)), (.ref a3)])) rfl rfl (hb hby d7_30) _ ?_
    refine own_l2d X20.here hx rfl (hb hby d7_31) rfl ?_
    refine own_dadd X20.here hx rfl (hb hby d7_32) rfl hn3 ?_
    show Steps p.tables e below (T20.setTop (mkF m 33 #[.val (.ref a1), .val (.int p2), .val (.ref a3), .val (.ref ro), .val (.int (6 : Int32))] [(.double (FP.dadd ed3 (FP.l2d qd))), (.int (3 : Int32)), (.ref a3)])) _
    refine st26 _ ?_
    refine XS.iinc X26.here hx rfl (hb hby d7_34) rfl (l' := #[.val (.ref a1), .val (.int p2), .val (.ref a3), .val (.ref ro), .val (.int (8 : Int32))]) rfl ?_
    refine XS.goto X26.here hx rfl (pc0 := 37) (pc' := 10) rfl (hb hby d7_37) (by decide) (by decide) ?_
    refine XS.iload X26.here hx rfl (hb hby d7_10) rfl ?_
    refine XS.aloadN X26.here hx rfl (hb hby d7_12) rfl rfl ?_
    refine X26.arraylength hx (by rw [e26]; exact Ar_ro_13_27.1) (State.isArrayOf_alike hZ.alike Ar_ro_13_27.2.1) (g := (mkF m 13 #[.val (.ref a1), .val (.int p2), .val (.ref a3), .val (.ref ro), .val (.int (8 : Int32))] [(.ref ro), (.int (8 : Int32))])) rfl rfl (hb hby d7_13) _ ?_
    rw [len_of S_ro_13_27 N_ro_13_27]
    refine XS.icmpYes X26.here hx rfl (pc0 := 14) (pc' := 40) rfl (hb hby d7_14) rfl (flt (by decide : ¬ ((8 : Int32) < (8 : Int32)))).2.1 (by decide) (by decide) ?_
    show Steps p.tables e below (T26.setTop (mkF m 40 #[.val (.ref a1), .val (.int p2), .val (.ref a3), .val (.ref ro), .val (.int (8 : Int32))] [])) _
    exact X26.returnOut hx Bd.returns (hb hby d7_40) hr
  · show Q_ato_15 Z a1 p2 a3 rr kr ro sg ka qa qb qc qd kd ed0 ed1 ed2 ed3 h0 n0 _ T26.heap _
    rw [e26]
    exact ⟨rfl, N26, K26, V_a3_33_25⟩
theorem d3_0 : decode jdk_65_method_117_code 0 = .ok (.iconst 0, 1) := by decide +kernel
theorem d3_1 : decode jdk_65_method_117_code 1 = .ok (.istore_n 2, 1) := by decide +kernel
theorem d3_2 : decode jdk_65_method_117_code 2 = .ok (.aload_n 0, 1) := by decide +kernel
theorem d3_3 : decode jdk_65_method_117_code 3 = .ok (.arraylength, 1) := by decide +kernel
theorem d3_4 : decode jdk_65_method_117_code 4 = .ok (.istore_n 3, 1) := by decide +kernel
theorem d3_5 : decode jdk_65_method_117_code 5 = .ok (.iload_n 2, 1) := by decide +kernel
theorem d3_6 : decode jdk_65_method_117_code 6 = .ok (.iload_n 3, 1) := by decide +kernel
theorem d3_7 : decode jdk_65_method_117_code 7 = .ok (.if_icmp .ge 13, 3) := by decide +kernel
theorem d3_10 : decode jdk_65_method_117_code 10 = .ok (.aload_n 0, 1) := by decide +kernel
theorem d3_11 : decode jdk_65_method_117_code 11 = .ok (.iload_n 2, 1) := by decide +kernel
theorem d3_12 : decode jdk_65_method_117_code 12 = .ok (.aload_n 1, 1) := by decide +kernel
theorem d3_13 : decode jdk_65_method_117_code 13 = .ok (.aastore, 1) := by decide +kernel
theorem d3_14 : decode jdk_65_method_117_code 14 = .ok (.iinc 2 1, 3) := by decide +kernel
theorem d3_17 : decode jdk_65_method_117_code 17 = .ok (.goto (-12), 3) := by decide +kernel
theorem d3_20 : decode jdk_65_method_117_code 20 = .ok (.return_, 1) := by decide +kernel
theorem pn1 : plainName "java/util/Arrays" = true := by first | (simp [plainName, overriddenIn]; done) | decide +kernel
theorem ef3 (m : MethodId) (a1 : Addr) (a2 : Addr) : entryFrame m #[(.ref a1), (.ref a2)] 4 = (mkF m 0 #[.val (.ref a1), .val (.ref a2), .unset, .unset] []) := by first | (simp [entryFrame, mkF, argsToLocals, Value.category]; done) | rfl
def Q3 (Z : State) (a1 : Addr) (a2 : Addr) (kr : ClassId) (h0 : Heap) (n0 : Nat) (v : Option Value) (h : Heap) (L : List Loc) : Prop := v = none ∧ Fr n0 L ∧ Keep h0 h [a1] ∧ Arv Z h a1 kr (.array .long) (2 : Int32) [(.ref a2), (.ref a2)] .null ∧ Exa Z h a1 "[[J"
set_option maxRecDepth 65536 in
set_option maxHeartbeats 40000000 in
theorem rm3 (l : Launch) (Z : State) (a0 : Array Value) (hw : ∀ d ∈ tables_1, d.before a0 Z = true) (ws : List Jvm.Cond) (a1 : Addr) (a2 : Addr) (kr : ClassId) (h0 : Heap) (n0 : Nat) (Z0 : n0 ≤ h0.size) (V_a1 : Arv Z h0 a1 kr (.array .long) (2 : Int32) [.null, .null] .null) (E_a1 : Exa Z h0 a1 "[[J") (E_a2 : Exa Z h0 a2 "[J") (g_a1 : n0 ≤ a1) (hO : OvrA Z kr .long "[J") :
    MetFree l (⟨"java/util/Arrays", "fill", "([Ljava/lang/Object;Ljava/lang/Object;)V"⟩ : MethodName) (head1 (Jvm.Cond.code (⟨"java/util/Arrays", "fill", "([Ljava/lang/Object;Ljava/lang/Object;)V"⟩ : MethodName) jdk_65_method_117_code 4 none :: ws) ({ frames := 0, cells := 0, slots := 0, locals := 0 } : Room)) (fun a U => a = #[(.ref a1), (.ref a2)] ∧ Z.Warmed39 U.vm ∧ U.heap = h0) (fun _ _ _ _ _ => True) (fun _ U o U' => ∃ v L, o = .returned v ∧ Q3 Z a1 a2 kr h0 n0 v U'.heap L ∧ FrameEnd U o U' L ({ frames := 0, cells := 0, slots := 0, locals := 0 } : Room).cells ({ frames := 0, cells := 0, slots := 0, locals := 0 } : Room).slots) := by
  refine MetFree.of_bodySF (plainFor_of_name pn1) hisR ?_
  intro p e s m args below meth c s₁ Bd hml0 hP hK
  obtain ⟨rfl, hZ, hh⟩ := hP
  have hx := Bd.exec
  have hby := Bd.bytes
  have hml : c.maxLocals = 4 := hml0
  have hown : s.vm.findClass "java/util/Arrays" = some m.cls := findClass_of_methodNamed Bd.named
  have hnm := (name_of_methodNamed Bd.named Bd.method).1
  have X0 : Stand p l e ({ frames := 0, cells := 0, slots := 0, locals := 0 } : Room) s m #[(.ref a1), (.ref a2)] below meth c s₁ [] 0 0 := Stand.of_body Bd
  have e0 : s₁.heap = h0 := by rw [← hh, Bd.state]; rfl
  have N0 := Fr.nil n0
  have pre0 : ∀ t, Steps p.tables e below (s₁.setTop (mkF m 0 #[.val (.ref a1), .val (.ref a2), .unset, .unset] [])) t → Steps p.tables e below (s₁.setTop (entryFrame m #[(.ref a1), (.ref a2)] 4)) t := fun t k => castTop (ef3 m a1 a2) k
  obtain ⟨cl_a1_3_1, Ar_a1_3_1, -, S_a1_3_1, N_a1_3_1, -, -⟩ := id V_a1
  obtain ⟨cl_a1_13_2, Ar_a1_13_2, q_a1_13_2, S_a1_13_2, N_a1_13_2, H_a1_13_2, G_a1_13_2⟩ := id V_a1
  have hin_a1_13_2 : ¬ ((0 : Int32) < 0 ∨ cl_a1_13_2.slots.size ≤ ((0 : Int32) : Int32).toNatClampNeg) := inb_of S_a1_13_2 ⟨by decide, by decide⟩
  obtain ⟨T3, h3, X3, e3, W3, st3⟩ := stR X0 hx hZ e0 Ar_a1_13_2 (j := (0 : Int32)) hin_a1_13_2 rfl (Sto.ofVA Ar_a1_13_2 q_a1_13_2 hO (Ins.self E_a2)) (g := (mkF m 13 #[.val (.ref a1), .val (.ref a2), .val (.int (0 : Int32)), .val (.int (2 : Int32))] [(.ref a2), (.int (0 : Int32)), (.ref a1)])) rfl rfl (hb hby d3_13)
  have V_a1_13_2 : Arv Z h3 a1 kr (.array .long) (2 : Int32) [(.ref a2), .null] .null := Arv.set Ar_a1_13_2 q_a1_13_2 S_a1_13_2 N_a1_13_2 H_a1_13_2 G_a1_13_2 rfl W3 0 rfl (Nat.le_of_ble_eq_true rfl)
  have K3 : Keep h0 h3 [a1] := (Keep.refl h0 [a1]).wr W3 (Or.inl (List.mem_of_getElem? (i := 0) rfl))
  have N3 := Fr.snoc X3 N0 g_a1
  obtain ⟨cl_a1_13_4, Ar_a1_13_4, q_a1_13_4, S_a1_13_4, N_a1_13_4, H_a1_13_4, G_a1_13_4⟩ := id V_a1_13_2
  have hin_a1_13_4 : ¬ ((1 : Int32) < 0 ∨ cl_a1_13_4.slots.size ≤ ((1 : Int32) : Int32).toNatClampNeg) := inb_of S_a1_13_4 ⟨by decide, by decide⟩
  obtain ⟨T5, h5, X5, e5, W5, st5⟩ := stR X3 hx hZ e3 Ar_a1_13_4 (j := (1 : Int32)) hin_a1_13_4 rfl (Sto.ofVA Ar_a1_13_4 q_a1_13_4 hO (Ins.self (E_a2.wr W3))) (g := (mkF m 13 #[.val (.ref a1), .val (.ref a2), .val (.int (1 : Int32)), .val (.int (2 : Int32))] [(.ref a2), (.int (1 : Int32)), (.ref a1)])) rfl rfl (hb hby d3_13)
  have V_a1_13_4 : Arv Z h5 a1 kr (.array .long) (2 : Int32) [(.ref a2), (.ref a2)] .null := Arv.set Ar_a1_13_4 q_a1_13_4 S_a1_13_4 N_a1_13_4 H_a1_13_4 G_a1_13_4 rfl W5 1 rfl (Nat.le_of_ble_eq_true rfl)
  have K5 : Keep h0 h5 [a1] := K3.wr W5 (Or.inl (List.mem_of_getElem? (i := 0) rfl))
  have N5 := Fr.snoc X5 N3 g_a1
  obtain ⟨fs, hr, hrun, hended, hW, hsame⟩ := X5.leave (v := none) (fun _ => rfl)
  refine ⟨_, _, pre0 _ ?_, hrun, hended, _, _, rfl, ?_, ⟨_, rfl⟩, hW, hsame.mono (by decide) (by decide)⟩
  · show Steps p.tables e below (s₁.setTop (mkF m 0 #[.val (.ref a1), .val (.ref a2), .unset, .unset] [])) _
    refine XS.iconst X0.here hx rfl (hb hby d3_0) ?_
    refine XS.istoreN X0.here hx rfl (hb hby d3_1) rfl (l' := #[.val (.ref a1), .val (.ref a2), .val (.int (0 : Int32)), .unset]) rfl ?_
    refine XS.aloadN X0.here hx rfl (hb hby d3_2) rfl rfl ?_
    refine X0.arraylength hx (by rw [e0]; exact Ar_a1_3_1.1) (State.isArrayOf_alike hZ.alike Ar_a1_3_1.2.1) (g := (mkF m 3 #[.val (.ref a1), .val (.ref a2), .val (.int (0 : Int32)), .unset] [(.ref a1)])) rfl rfl (hb hby d3_3) _ ?_
    rw [len_of S_a1_3_1 N_a1_3_1]
    refine XS.istoreN X0.here hx rfl (hb hby d3_4) rfl (l' := #[.val (.ref a1), .val (.ref a2), .val (.int (0 : Int32)), .val (.int (2 : Int32))]) rfl ?_
    refine XS.iloadN X0.here hx rfl (hb hby d3_5) rfl ?_
    refine XS.iloadN X0.here hx rfl (hb hby d3_6) rfl ?_
    refine XS.icmpNo X0.here hx rfl (hb hby d3_7) rfl (tlt (by decide : (0 : Int32) < (2 : Int32))).2.1 ?_
    refine XS.aloadN X0.here hx rfl (hb hby d3_10) rfl rfl ?_
    refine XS.iloadN X0.here hx rfl (hb hby d3_11) rfl ?_
    refine XS.aloadN X0.here hx rfl (hb hby d3_12) rfl rfl ?_
    show Steps p.tables e below (s₁.setTop (mkF m 13 #[.val (.ref a1), .val (.ref a2), .val (.int (0 : Int32)), .val (.int (2 : Int32))] [(.ref a2), (.int (0 : Int32)), (.ref a1)])) _
    refine st3 _ ?_
    refine XS.iinc X3.here hx rfl (hb hby d3_14) rfl (l' := #[.val (.ref a1), .val (.ref a2), .val (.int (1 : Int32)), .val (.int (2 : Int32))]) rfl ?_
    refine XS.goto X3.here hx rfl (pc0 := 17) (pc' := 5) rfl (hb hby d3_17) (by decide) (by decide) ?_
    refine XS.iloadN X3.here hx rfl (hb hby d3_5) rfl ?_
    refine XS.iloadN X3.here hx rfl (hb hby d3_6) rfl ?_
    refine XS.icmpNo X3.here hx rfl (hb hby d3_7) rfl (tlt (by decide : (1 : Int32) < (2 : Int32))).2.1 ?_
    refine XS.aloadN X3.here hx rfl (hb hby d3_10) rfl rfl ?_
    refine XS.iloadN X3.here hx rfl (hb hby d3_11) rfl ?_
    refine XS.aloadN X3.here hx rfl (hb hby d3_12) rfl rfl ?_
    show Steps p.tables e below (T3.setTop (mkF m 13 #[.val (.ref a1), .val (.ref a2), .val (.int (1 : Int32)), .val (.int (2 : Int32))] [(.ref a2), (.int (1 : Int32)), (.ref a1)])) _
    refine st5 _ ?_
    refine XS.iinc X5.here hx rfl (hb hby d3_14) rfl (l' := #[.val (.ref a1), .val (.ref a2), .val (.int (2 : Int32)), .val (.int (2 : Int32))]) rfl ?_
    refine XS.goto X5.here hx rfl (pc0 := 17) (pc' := 5) rfl (hb hby d3_17) (by decide) (by decide) ?_
    refine XS.iloadN X5.here hx rfl (hb hby d3_5) rfl ?_
    refine XS.iloadN X5.here hx rfl (hb hby d3_6) rfl ?_
    refine XS.icmpYes X5.here hx rfl (pc0 := 7) (pc' := 20) rfl (hb hby d3_7) rfl (flt (by decide : ¬ ((2 : Int32) < (2 : Int32)))).2.1 (by decide) (by decide) ?_
    show Steps p.tables e below (T5.setTop (mkF m 20 #[.val (.ref a1), .val (.ref a2), .val (.int (2 : Int32)), .val (.int (2 : Int32))] [])) _
    exact X5.returnOut hx Bd.returns (hb hby d3_20) hr
  · show Q3 Z a1 a2 kr h0 n0 _ T5.heap _
    rw [e5]
    exact ⟨rfl, N5, K5, V_a1_13_4, ((E_a1.wr W3).wr W5)⟩
theorem d1_0 : decode prog_58_method_1_code 0 = .ok (.aload_n 0, 1) := by decide +kernel
theorem d1_1 : decode prog_58_method_1_code 1 = .ok (.invokespecial 1, 3) := by decide +kernel
theorem d1_4 : decode prog_58_method_1_code 4 = .ok (.aload_n 0, 1) := by decide +kernel
theorem d1_5 : decode prog_58_method_1_code 5 = .ok (.iload_n 1, 1) := by decide +kernel
theorem d1_6 : decode prog_58_method_1_code 6 = .ok (.anewarray 7, 3) := by decide +kernel
theorem d1_9 : decode prog_58_method_1_code 9 = .ok (.putfield 9, 3) := by decide +kernel
theorem d1_12 : decode prog_58_method_1_code 12 = .ok (.aload_n 0, 1) := by decide +kernel
theorem d1_13 : decode prog_58_method_1_code 13 = .ok (.getfield 9, 3) := by decide +kernel
theorem d1_16 : decode prog_58_method_1_code 16 = .ok (.getstatic 15, 3) := by decide +kernel
theorem d1_19 : decode prog_58_method_1_code 19 = .ok (.invokestatic 18, 3) := by decide +kernel
theorem d1_22 : decode prog_58_method_1_code 22 = .ok (.aload_n 0, 1) := by decide +kernel
theorem d1_23 : decode prog_58_method_1_code 23 = .ok (.iload_n 1, 1) := by decide +kernel
theorem d1_24 : decode prog_58_method_1_code 24 = .ok (.putfield 24, 3) := by decide +kernel
theorem d1_27 : decode prog_58_method_1_code 27 = .ok (.return_, 1) := by decide +kernel
theorem pd1 : parseMethodDescriptor "([Ljava/lang/Object;Ljava/lang/Object;)V" = some ⟨[(.array (.object "java/lang/Object")), (.object "java/lang/Object")], none⟩ := by decide +kernel
theorem ef1 (m : MethodId) (a1 : Addr) : entryFrame m #[(.ref a1), (.int (2 : Int32))] 2 = (mkF m 0 #[.val (.ref a1), .val (.int (2 : Int32))] []) := by first | (simp [entryFrame, mkF, argsToLocals, Value.category]; done) | rfl
def Q1 (Z : State) (a1 : Addr) (w_NONE : Addr) (u__rows_a1 : Value) (u__size_a1 : Value) (h0 : Heap) (n0 : Nat) (v : Option Value) (h : Heap) (L : List Loc) : Prop := ∃ (b2 : Addr) (k2 : ClassId), v = none ∧ Fr n0 L ∧ Keep h0 h [a1] ∧ h0.size ≤ b2 ∧ Exa Z h a1 "com/example/chartlight/chartlight/label/WeightRows" ∧ Fld Z h a1 "com/example/chartlight/chartlight/label/WeightRows" "_rows" "[[J" (.ref b2) ∧ Fld Z h a1 "com/example/chartlight/chartlight/label/WeightRows" "_size" "I" (.int (2 : Int32)) ∧ Exa Z h b2 "[[J" ∧ Arv Z h b2 k2 (.array .long) (2 : Int32) [(.ref w_NONE), (.ref w_NONE)] .null ∧ OvrA Z k2 .long "[J"
set_option maxRecDepth 65536 in
set_option maxHeartbeats 40000000 in
theorem rm1 (l : Launch) (Z : State) (a0 : Array Value) (hw : ∀ d ∈ tables_1, d.before a0 Z = true) (ws : List Jvm.Cond) (a1 : Addr) (w_NONE : Addr) (u__rows_a1 : Value) (u__size_a1 : Value) (h0 : Heap) (n0 : Nat) (Z0 : n0 ≤ h0.size) (S_NONE : Sta Z h0 "com/example/chartlight/chartlight/label/WeightRows" "NONE" "[J" (.ref w_NONE)) (E_w_NONE : Exa Z h0 w_NONE "[J") (E_a1 : Exa Z h0 a1 "com/example/chartlight/chartlight/label/WeightRows") (F__rows_a1 : Fld Z h0 a1 "com/example/chartlight/chartlight/label/WeightRows" "_rows" "[[J" u__rows_a1) (g_a1 : n0 ≤ a1) (F__size_a1 : Fld Z h0 a1 "com/example/chartlight/chartlight/label/WeightRows" "_size" "I" u__size_a1) :
    MetFree l (⟨"com/example/chartlight/chartlight/label/WeightRows", "<init>", "(I)V"⟩ : MethodName) (head1 (Jvm.Cond.code (⟨"com/example/chartlight/chartlight/label/WeightRows", "<init>", "(I)V"⟩ : MethodName) prog_58_method_1_code 2 none :: ws) ({ frames := 1, cells := 1, slots := 2, locals := 15 } : Room)) (fun a U => a = #[(.ref a1), (.int (2 : Int32))] ∧ Z.Warmed39 U.vm ∧ U.heap = h0) (fun _ _ _ _ _ => True) (fun _ U o U' => ∃ v L, o = .returned v ∧ Q1 Z a1 w_NONE u__rows_a1 u__size_a1 h0 n0 v U'.heap L ∧ FrameEnd U o U' L ({ frames := 1, cells := 1, slots := 2, locals := 15 } : Room).cells ({ frames := 1, cells := 1, slots := 2, locals := 15 } : Room).slots) := by
  refine MetFree.of_bodySF (plainFor_of_name pn0) hisR ?_
  intro p e s m args below meth c s₁ Bd hml0 hP hK
  obtain ⟨rfl, hZ, hh⟩ := hP
  have hx := Bd.exec
  have hby := Bd.bytes
  have hml : c.maxLocals = 2 := hml0
  have hown : s.vm.findClass "com/example/chartlight/chartlight/label/WeightRows" = some m.cls := findClass_of_methodNamed Bd.named
  have hnm := (name_of_methodNamed Bd.named Bd.method).1
  have X0 : Stand p l e ({ frames := 1, cells := 1, slots := 2, locals := 15 } : Room) s m #[(.ref a1), (.int (2 : Int32))] below meth c s₁ [] 0 0 := Stand.of_body Bd
  have e0 : s₁.heap = h0 := by rw [← hh, Bd.state]; rfl
  have N0 := Fr.nil n0
  have pre0 : ∀ t, Steps p.tables e below (s₁.setTop (mkF m 0 #[.val (.ref a1), .val (.int (2 : Int32))] [])) t → Steps p.tables e below (s₁.setTop (entryFrame m #[(.ref a1), (.int (2 : Int32))] 2)) t := fun t k => castTop (ef1 m a1) k
  obtain ⟨T1, X1, e1, st1⟩ := initO X0 hx hZ hown (hw _ (List.mem_of_getElem? (i := 6) rfl)) (hw _ (List.mem_of_getElem? (i := 7) rfl)) (hw _ (List.mem_of_getElem? (i := 8) rfl)) e0 (g := (mkF m 1 #[.val (.ref a1), .val (.int (2 : Int32))] [(.ref a1)])) rfl (by rw [hml]; rfl) rfl (hb hby d1_1) (by decide) (W := 0) (by show 2 * 0 + _ ≤ _; exact Nat.le_of_eq rfl) (by decide)
  obtain ⟨T2, h2, k2, X2, e2, E2, A2, B2, O2, st2⟩ := newRA X1 hx hZ hown (C := "[J") (ty := .long) rfl (hw _ (List.mem_of_getElem? (i := 9) rfl)) (hw _ (List.mem_of_getElem? (i := 10) rfl)) e1 (g := (mkF m 6 #[.val (.ref a1), .val (.int (2 : Int32))] [(.int (2 : Int32)), (.ref a1)])) rfl (hb hby d1_6) rfl (by decide) (cap := 2) (by decide) (by decide) (by decide) (by decide) (ad := "[[J") (by decide)
  obtain ⟨b2, g2⟩ : ∃ z, z = h0.size := ⟨_, rfl⟩
  rw [← g2] at A2 B2 st2
  have sz_b2 : h0.size ≤ b2 := Nat.le_trans (Keep.refl h0 [a1]).1 (Nat.le_of_eq g2.symm)
  have g_b2 : n0 ≤ b2 := Nat.le_trans Z0 sz_b2
  have K2 : Keep h0 h2 [a1] := (Keep.refl h0 [a1]).ext E2
  have V_b2 : Arv Z h2 b2 k2 (.array .long) (2 : Int32) [.null, .null] .null := (Arv.new A2 (by decide)).pad (pad_rep [] .null 2)
  obtain ⟨T3, h3, X3, e3, W3, st3⟩ := putF X2 hx hZ hown (host := "") (Or.inl (hw _ (List.mem_of_getElem? (i := 11) rfl))) Via.refl e2 (F__rows_a1.ext E2) (E_a1.ext E2) (Or.inl (hw _ (List.mem_of_getElem? (i := 12) rfl))) (hw _ (List.mem_of_getElem? (i := 1) rfl)) (ty := (.array (.array .long))) (by decide) rfl rfl (g := (mkF m 9 #[.val (.ref a1), .val (.int (2 : Int32))] [(.ref b2), (.ref a1)])) rfl rfl (hb hby d1_9)
  have Fw3 := (F__rows_a1.ext E2).same W3
  have K3 : Keep h0 h3 [a1] := K2.wr W3 (Or.inl (List.mem_of_getElem? (i := 0) rfl))
  have N3 := Fr.snoc X3 N0 g_a1
  obtain ⟨T4, X4, e4, st4⟩ := getF X3 hx hZ hown (host := "") (Or.inl (hw _ (List.mem_of_getElem? (i := 11) rfl))) Via.refl e3 Fw3 (g := (mkF m 13 #[.val (.ref a1), .val (.int (2 : Int32))] [(.ref a1)])) rfl rfl (hb hby d1_13)
  obtain ⟨T5, X5, e5, st5⟩ := getS2 X4 hx hZ hown (host := "") (Or.inl (hw _ (List.mem_of_getElem? (i := 13) rfl))) Via.refl e4 ((S_NONE.ext E2).wr W3) (g := (mkF m 16 #[.val (.ref a1), .val (.int (2 : Int32))] [(.ref b2)])) rfl (hb hby d1_16)
  obtain ⟨_, _, ⟨T6, L6, k6, n6⟩, -, X6, ⟨Lc6, hQ6, l6, y6, z6⟩, st6⟩ := Jvm.LawKit.callS X5 hx (y := (⟨"java/util/Arrays", "fill", "([Ljava/lang/Object;Ljava/lang/Object;)V"⟩ : MethodName)) hown (mvT hZ (hw _ (List.mem_of_getElem? (i := 15) rfl))) (mvT hZ (hw _ (List.mem_of_getElem? (i := 16) rfl))) (mvT hZ (hw _ (List.mem_of_getElem? (i := 17) rfl))) (mvT hZ (hw _ (List.mem_of_getElem? (i := 18) rfl))) (by decide) (backOf (W := 0) (rm3 l Z a0 hw [] b2 w_NONE k2 h3 n0 (Nat.le_trans Z0 K3.1) (V_b2.other W3 (Ne.symm (Nat.ne_of_lt (Nat.lt_of_lt_of_le E_a1.lt (Nat.le_of_eq g2.symm))))) (B2.wr W3) ((E_w_NONE.ext E2).wr W3) g_b2 (O2 : OvrA Z k2 .long "[J")) hZ (hw _ (List.mem_of_getElem? (i := 18) rfl)) (hw _ (List.mem_of_getElem? (i := 17) rfl)) (by decide) (by decide)) (g := (mkF m 19 #[.val (.ref a1), .val (.int (2 : Int32))] [(.ref w_NONE), (.ref b2)])) rfl (by rw [hml]; rfl) (argsL := [(.ref b2), (.ref w_NONE)]) (rest := []) (lenOf pd1 rfl) rfl (by show 2 * 0 + _ ≤ _; exact Nat.le_of_eq rfl) (hb hby d1_19) (fun _ _ => ⟨rfl, e5, (by decide : 1 + 0 ≤ _), (by decide : 2 + 0 ≤ _)⟩)
  dsimp only [Pt.U, Pt.locs, Pt.cells, Pt.slots] at X6 l6 y6 z6 st6 hQ6
  subst l6 y6 z6
  obtain ⟨rfl, N6q, K6, f6_0, f6_1⟩ := hQ6
  have N6 := Fr.app N3 N6q
  have KK6 : Keep h0 T6.heap [a1] := K3.trans K6 (allS (Or.inr sz_b2) all0)
  obtain ⟨T7, h7, X7, e7, W7, st7⟩ := putF X6 hx hZ hown (host := "") (Or.inl (hw _ (List.mem_of_getElem? (i := 20) rfl))) Via.refl rfl (((F__size_a1.ext E2).other W3 (Or.inr (slot_ne (Or.inl (hw _ (List.mem_of_getElem? (i := 21) rfl))) (Or.inl (hw _ (List.mem_of_getElem? (i := 12) rfl))) (by decide) (t := .int) (t' := (.array (.array .long))) (by decide) (by decide)))).keep K6 (ninS (Nat.ne_of_lt (Nat.lt_of_lt_of_le E_a1.lt (Nat.le_of_eq g2.symm))) nin0)) (((E_a1.ext E2).wr W3).keep K6) (Or.inl (hw _ (List.mem_of_getElem? (i := 21) rfl))) (hw _ (List.mem_of_getElem? (i := 1) rfl)) (ty := .int) (by decide) rfl rfl (g := (mkF m 24 #[.val (.ref a1), .val (.int (2 : Int32))] [(.int (2 : Int32)), (.ref a1)])) rfl rfl (hb hby d1_24)
  have Fw7 := (((F__size_a1.ext E2).other W3 (Or.inr (slot_ne (Or.inl (hw _ (List.mem_of_getElem? (i := 21) rfl))) (Or.inl (hw _ (List.mem_of_getElem? (i := 12) rfl))) (by decide) (t := .int) (t' := (.array (.array .long))) (by decide) (by decide)))).keep K6 (ninS (Nat.ne_of_lt (Nat.lt_of_lt_of_le E_a1.lt (Nat.le_of_eq g2.symm))) nin0)).same W7
  have K7 : Keep h0 h7 [a1] := KK6.wr W7 (Or.inl (List.mem_of_getElem? (i := 0) rfl))
  have N7 := Fr.snoc X7 N6 g_a1
  obtain ⟨fs, hr, hrun, hended, hW, hsame⟩ := X7.leave (v := none) (fun _ => rfl)
  refine ⟨_, _, pre0 _ ?_, hrun, hended, _, _, rfl, ?_, ⟨_, rfl⟩, hW, hsame.mono (by decide) (by decide)⟩
  · show Steps p.tables e below (s₁.setTop (mkF m 0 #[.val (.ref a1), .val (.int (2 : Int32))] [])) _
    refine XS.aloadN X0.here hx rfl (hb hby d1_0) rfl rfl ?_
    show Steps p.tables e below (s₁.setTop (mkF m 1 #[.val (.ref a1), .val (.int (2 : Int32))] [(.ref a1)])) _
    refine st1 _ ?_
    refine XS.aloadN X1.here hx rfl (hb hby d1_4) rfl rfl ?_
    refine XS.iloadN X1.here hx rfl (hb hby d1_5) rfl ?_
    show Steps p.tables e below (T1.setTop (mkF m 6 #[.val (.ref a1), .val (.int (2 : Int32))] [(.int (2 : Int32)), (.ref a1)])) _
    refine st2 _ ?_
    show Steps p.tables e below (T2.setTop (mkF m 9 #[.val (.ref a1), .val (.int (2 : Int32))] [(.ref b2), (.ref a1)])) _
    refine st3 _ ?_
    refine XS.aloadN X3.here hx rfl (hb hby d1_12) rfl rfl ?_
    show Steps p.tables e below (T3.setTop (mkF m 13 #[.val (.ref a1), .val (.int (2 : Int32))] [(.ref a1)])) _
    refine st4 _ ?_
    show Steps p.tables e below (T4.setTop (mkF m 16 #[.val (.ref a1), .val (.int (2 : Int32))] [(.ref b2)])) _
    refine st5 _ ?_
    show Steps p.tables e below (T5.setTop (mkF m 19 #[.val (.ref a1), .val (.int (2 : Int32))] [(.ref w_NONE), (.ref b2)])) _
    refine st6 _ ?_
    refine XS.aloadN X6.here hx rfl (hb hby d1_22) rfl rfl ?_
    refine XS.iloadN X6.here hx rfl (hb hby d1_23) rfl ?_
    show Steps p.tables e below (T6.setTop (mkF m 24 #[.val (.ref a1), .val (.int (2 : Int32))] [(.int (2 : Int32)), (.ref a1)])) _
    refine st7 _ ?_
    show Steps p.tables e below (T7.setTop (mkF m 27 #[.val (.ref a1), .val (.int (2 : Int32))] [])) _
    exact X7.returnOut hx Bd.returns (hb hby d1_27) hr
  · show Q1 Z a1 w_NONE u__rows_a1 u__size_a1 h0 n0 _ T7.heap _
    rw [e7]
    exact ⟨b2, k2, rfl, N7, K7, sz_b2, ((((E_a1.ext E2).wr W3).keep K6).wr W7), ((Fw3.keep K6 (ninS (Nat.ne_of_lt (Nat.lt_of_lt_of_le E_a1.lt (Nat.le_of_eq g2.symm))) nin0)).other W7 (Or.inr (slot_ne (Or.inl (hw _ (List.mem_of_getElem? (i := 12) rfl))) (Or.inl (hw _ (List.mem_of_getElem? (i := 21) rfl))) (by decide) (t := (.array (.array .long))) (t' := .int) (by decide) (by decide)))), Fw7, (((B2.wr W3).keep K6).wr W7), (f6_0.other W7 (Ne.symm (Nat.ne_of_lt (Nat.lt_of_lt_of_le E_a1.lt (Nat.le_of_eq g2.symm))))), O2⟩
theorem d6_0 : decode method_3_code 0 = .ok (.iload_n 0, 1) := by decide +kernel
theorem d6_1 : decode method_3_code 1 = .ok (.bipush 8, 2) := by decide +kernel
theorem d6_3 : decode method_3_code 3 = .ok (.iload_n 1, 1) := by decide +kernel
theorem d6_4 : decode method_3_code 4 = .ok (.imul, 1) := by decide +kernel
theorem d6_5 : decode method_3_code 5 = .ok (.ishr, 1) := by decide +kernel
theorem d6_6 : decode method_3_code 6 = .ok (.i2b, 1) := by decide +kernel
theorem d6_7 : decode method_3_code 7 = .ok (.i2d, 1) := by decide +kernel
theorem d6_8 : decode method_3_code 8 = .ok (.dreturn, 1) := by decide +kernel
theorem pn2 : plainName "com/example/chartlight/chartlight/label/WeightRowsAddToPinLaw" = true := by first | (simp [plainName, overriddenIn]; done) | decide +kernel
theorem ef6 (m : MethodId) (p1 : Int32) (p2 : Int32) : entryFrame m #[(.int p1), (.int p2)] 2 = (mkF m 0 #[.val (.int p1), .val (.int p2)] []) := by first | (simp [entryFrame, mkF, argsToLocals, Value.category]; done) | rfl
def Q6 (Z : State) (p1 : Int32) (p2 : Int32) (h0 : Heap) (n0 : Nat) (v : Option Value) (h : Heap) (L : List Loc) : Prop := v = some (.double (FP.i2d ((p1 >>> (((8 : Int32) * p2) &&& 31)).toInt8.toInt32))) ∧ L = [] ∧ h = h0
set_option maxRecDepth 65536 in
set_option maxHeartbeats 40000000 in
theorem rm6 (l : Launch) (Z : State) (a0 : Array Value) (hw : ∀ d ∈ tables_1, d.before a0 Z = true) (ws : List Jvm.Cond) (p1 : Int32) (p2 : Int32) (h0 : Heap) (n0 : Nat) (Z0 : n0 ≤ h0.size) :
    MetFree l (⟨"com/example/chartlight/chartlight/label/WeightRowsAddToPinLaw", "base", "(II)D"⟩ : MethodName) (head1 (Jvm.Cond.code (⟨"com/example/chartlight/chartlight/label/WeightRowsAddToPinLaw", "base", "(II)D"⟩ : MethodName) method_3_code 2 (some .double) :: ws) ({ frames := 0, cells := 0, slots := 0, locals := 0 } : Room)) (fun a U => a = #[(.int p1), (.int p2)] ∧ Z.Warmed39 U.vm ∧ U.heap = h0) (fun _ _ _ _ _ => True) (fun _ U o U' => ∃ v L, o = .returned v ∧ Q6 Z p1 p2 h0 n0 v U'.heap L ∧ FrameEnd U o U' L ({ frames := 0, cells := 0, slots := 0, locals := 0 } : Room).cells ({ frames := 0, cells := 0, slots := 0, locals := 0 } : Room).slots) := by
  refine MetFree.of_bodySF (plainFor_of_name pn2) hisR ?_
  intro p e s m args below meth c s₁ Bd hml0 hP hK
  obtain ⟨rfl, hZ, hh⟩ := hP
  have hx := Bd.exec
  have hby := Bd.bytes
  have hml : c.maxLocals = 2 := hml0
  have hown : s.vm.findClass "com/example/chartlight/chartlight/label/WeightRowsAddToPinLaw" = some m.cls := findClass_of_methodNamed Bd.named
  have hnm := (name_of_methodNamed Bd.named Bd.method).1
  have X0 : Stand p l e ({ frames := 0, cells := 0, slots := 0, locals := 0 } : Room) s m #[(.int p1), (.int p2)] below meth c s₁ [] 0 0 := Stand.of_body Bd
  have e0 : s₁.heap = h0 := by rw [← hh, Bd.state]; rfl
  have N0 := Fr.nil n0
  have pre0 : ∀ t, Steps p.tables e below (s₁.setTop (mkF m 0 #[.val (.int p1), .val (.int p2)] [])) t → Steps p.tables e below (s₁.setTop (entryFrame m #[(.int p1), (.int p2)] 2)) t := fun t k => castTop (ef6 m p1 p2) k
  obtain ⟨fs, hr, hrun, hended, hW, hsame⟩ := X0.leave (v := some (.double (FP.i2d ((p1 >>> (((8 : Int32) * p2) &&& 31)).toInt8.toInt32)))) (fun h => by rw [Bd.returns] at h; cases h)
  refine ⟨_, _, pre0 _ ?_, hrun, hended, _, _, rfl, ?_, ⟨_, rfl⟩, hW, hsame.mono (by decide) (by decide)⟩
  · show Steps p.tables e below (s₁.setTop (mkF m 0 #[.val (.int p1), .val (.int p2)] [])) _
    refine XS.iloadN X0.here hx rfl (hb hby d6_0) rfl ?_
    refine XS.bipush X0.here hx rfl (hb hby d6_1) ?_
    refine XS.iloadN X0.here hx rfl (hb hby d6_3) rfl ?_
    refine XS.imul X0.here hx rfl (hb hby d6_4) rfl ?_
    refine XS.ishr X0.here hx rfl (hb hby d6_5) rfl ?_
    refine XS.i2b X0.here hx rfl (hb hby d6_6) rfl ?_
    refine own_i2d X0.here hx rfl (hb hby d6_7) rfl ?_
    show Steps p.tables e below (s₁.setTop (mkF m 8 #[.val (.int p1), .val (.int p2)] [(.double (FP.i2d ((p1 >>> (((8 : Int32) * p2) &&& 31)).toInt8.toInt32)))])) _
    exact retOut X0 hx Bd.returns rfl (Or.inr (Or.inr (Or.inl ⟨rfl, rfl, _, rfl⟩))) (hb hby d6_8) hr
  · show Q6 Z p1 p2 h0 n0 _ s₁.heap _
    rw [e0]
    exact ⟨rfl, rfl, rfl⟩
theorem d8_0 : decode method_4_code 0 = .ok (.iload_n 0, 1) := by decide +kernel
theorem d8_1 : decode method_4_code 1 = .ok (.iload_n 1, 1) := by decide +kernel
theorem d8_2 : decode method_4_code 2 = .ok (.invokestatic 16, 3) := by decide +kernel
theorem d8_5 : decode method_4_code 5 = .ok (.dstore 5, 2) := by decide +kernel
theorem d8_7 : decode method_4_code 7 = .ok (.iload_n 2, 1) := by decide +kernel
theorem d8_8 : decode method_4_code 8 = .ok (.ifCond .eq 11, 3) := by decide +kernel
theorem d8_11 : decode method_4_code 11 = .ok (.dload 5, 2) := by decide +kernel
theorem d8_13 : decode method_4_code 13 = .ok (.lload_n 3, 1) := by decide +kernel
theorem d8_14 : decode method_4_code 14 = .ok (.l2d, 1) := by decide +kernel
theorem d8_15 : decode method_4_code 15 = .ok (.dadd, 1) := by decide +kernel
theorem d8_16 : decode method_4_code 16 = .ok (.goto 5, 3) := by decide +kernel
theorem d8_19 : decode method_4_code 19 = .ok (.dload 5, 2) := by decide +kernel
theorem d8_21 : decode method_4_code 21 = .ok (.dreturn, 1) := by decide +kernel
def res8 (p1 : Int32) (p2 : Int32) (p3 : Int32) (q4 : Int64) : UInt64 := if p3 = (0 : Int32) then (FP.i2d ((p1 >>> (((8 : Int32) * p2) &&& 31)).toInt8.toInt32)) else (FP.dadd (FP.i2d ((p1 >>> (((8 : Int32) * p2) &&& 31)).toInt8.toInt32)) (FP.l2d q4))
theorem pd2 : parseMethodDescriptor "(II)D" = some ⟨[.int, .int], some .double⟩ := by decide +kernel
theorem ef8 (m : MethodId) (p1 : Int32) (p2 : Int32) (p3 : Int32) (q4 : Int64) : entryFrame m #[(.int p1), (.int p2), (.int p3), (.long q4)] 7 = (mkF m 0 #[.val (.int p1), .val (.int p2), .val (.int p3), .val (.long q4), .second, .unset, .unset] []) := by first | (simp [entryFrame, mkF, argsToLocals, Value.category]; done) | rfl
def Q8 (Z : State) (p1 : Int32) (p2 : Int32) (p3 : Int32) (q4 : Int64) (h0 : Heap) (n0 : Nat) (v : Option Value) (h : Heap) (L : List Loc) : Prop := v = some (.double (res8 p1 p2 p3 q4)) ∧ L = [] ∧ h = h0
set_option maxRecDepth 65536 in
set_option maxHeartbeats 40000000 in
theorem rm8 (l : Launch) (Z : State) (a0 : Array Value) (hw : ∀ d ∈ tables_1, d.before a0 Z = true) (ws : List Jvm.Cond) (p1 : Int32) (p2 : Int32) (p3 : Int32) (q4 : Int64) (h0 : Heap) (n0 : Nat) (Z0 : n0 ≤ h0.size) (hn : FP.dadd (FP.i2d (((p1 >>> (((8 : Int32) * p2) &&& 31)).toInt8.toInt32))) (FP.l2d q4) &&& 0x7fffffffffffffff ≤ 0x7ff0000000000000) :
    MetFree l (⟨"com/example/chartlight/chartlight/label/WeightRowsAddToPinLaw", "expect", "(IIZJ)D"⟩ : MethodName) (head1 (Jvm.Cond.code (⟨"com/example/chartlight/chartlight/label/WeightRowsAddToPinLaw", "expect", "(IIZJ)D"⟩ : MethodName) method_4_code 7 (some .double) :: ws) ({ frames := 1, cells := 0, slots := 0, locals := 13 } : Room)) (fun a U => a = #[(.int p1), (.int p2), (.int p3), (.long q4)] ∧ Z.Warmed39 U.vm ∧ U.heap = h0) (fun _ _ _ _ _ => True) (fun _ U o U' => ∃ v L, o = .returned v ∧ Q8 Z p1 p2 p3 q4 h0 n0 v U'.heap L ∧ FrameEnd U o U' L ({ frames := 1, cells := 0, slots := 0, locals := 13 } : Room).cells ({ frames := 1, cells := 0, slots := 0, locals := 13 } : Room).slots) := by
  refine MetFree.of_bodySF (plainFor_of_name pn2) hisR ?_
  intro p e s m args below meth c s₁ Bd hml0 hP hK
  obtain ⟨rfl, hZ, hh⟩ := hP
  have hx := Bd.exec
  have hby := Bd.bytes
  have hml : c.maxLocals = 7 := hml0
  have hown : s.vm.findClass "com/example/chartlight/chartlight/label/WeightRowsAddToPinLaw" = some m.cls := findClass_of_methodNamed Bd.named
  have hnm := (name_of_methodNamed Bd.named Bd.method).1
  have X0 : Stand p l e ({ frames := 1, cells := 0, slots := 0, locals := 13 } : Room) s m #[(.int p1), (.int p2), (.int p3), (.long q4)] below meth c s₁ [] 0 0 := Stand.of_body Bd
  have e0 : s₁.heap = h0 := by rw [← hh, Bd.state]; rfl
  have N0 := Fr.nil n0
  have pre0 : ∀ t, Steps p.tables e below (s₁.setTop (mkF m 0 #[.val (.int p1), .val (.int p2), .val (.int p3), .val (.long q4), .second, .unset, .unset] [])) t → Steps p.tables e below (s₁.setTop (entryFrame m #[(.int p1), (.int p2), (.int p3), (.long q4)] 7)) t := fun t k => castTop (ef8 m p1 p2 p3 q4) k
  obtain ⟨_, _, ⟨T1, L1, k1, n1⟩, -, X1, ⟨Lc1, hQ1, l1, y1, z1⟩, st1⟩ := Jvm.LawKit.callS X0 hx (y := (⟨"com/example/chartlight/chartlight/label/WeightRowsAddToPinLaw", "base", "(II)D"⟩ : MethodName)) hown (mvT hZ (hw _ (List.mem_of_getElem? (i := 36) rfl))) (mvT hZ (hw _ (List.mem_of_getElem? (i := 37) rfl))) (mvT hZ (hw _ (List.mem_of_getElem? (i := 38) rfl))) (mvT hZ (hw _ (List.mem_of_getElem? (i := 39) rfl))) (by decide) (backOf (W := 0) (rm6 l Z a0 hw [] p1 p2  h0 n0 (Nat.le_trans Z0 (Keep.refl h0 []).1)  ) hZ (hw _ (List.mem_of_getElem? (i := 39) rfl)) (hw _ (List.mem_of_getElem? (i := 38) rfl)) (by decide) (by decide)) (g := (mkF m 2 #[.val (.int p1), .val (.int p2), .val (.int p3), .val (.long q4), .second, .unset, .unset] [(.int p2), (.int p1)])) rfl (by rw [hml]; rfl) (argsL := [(.int p1), (.int p2)]) (rest := []) (lenOf pd2 rfl) rfl (by show 2 * 0 + _ ≤ _; exact Nat.le_of_eq rfl) (hb hby d8_2) (fun _ _ => ⟨rfl, e0, (by decide : 0 + 0 ≤ _), (by decide : 0 + 0 ≤ _)⟩)
  dsimp only [Pt.U, Pt.locs, Pt.cells, Pt.slots] at X1 l1 y1 z1 st1 hQ1
  subst l1 y1 z1
  obtain ⟨rfl, rfl, e1⟩ := hQ1
  have N1 := Fr.app N0 (Fr.nil n0)
  have pre2 : ∀ t, Steps p.tables e below (T1.setTop (mkF m 8 #[.val (.int p1), .val (.int p2), .val (.int p3), .val (.long q4), .second, .val (.double (FP.i2d ((p1 >>> (((8 : Int32) * p2) &&& 31)).toInt8.toInt32))), .second] [(.int p3)])) t → Steps p.tables e below (s₁.setTop (entryFrame m #[(.int p1), (.int p2), (.int p3), (.long q4)] 7)) t := by
    intro t kt
    refine pre0 _ ?_
    show Steps p.tables e below (s₁.setTop (mkF m 0 #[.val (.int p1), .val (.int p2), .val (.int p3), .val (.long q4), .second, .unset, .unset] [])) _
    refine XS.iloadN X0.here hx rfl (hb hby d8_0) rfl ?_
    refine XS.iloadN X0.here hx rfl (hb hby d8_1) rfl ?_
    show Steps p.tables e below (s₁.setTop (mkF m 2 #[.val (.int p1), .val (.int p2), .val (.int p3), .val (.long q4), .second, .unset, .unset] [(.int p2), (.int p1)])) _
    refine st1 _ ?_
    refine own_dstore X1.here hx rfl (hb hby d8_5) rfl (l' := #[.val (.int p1), .val (.int p2), .val (.int p3), .val (.long q4), .second, .val (.double (FP.i2d ((p1 >>> (((8 : Int32) * p2) &&& 31)).toInt8.toInt32))), .second]) rfl ?_
    refine XS.iloadN X1.here hx rfl (hb hby d8_7) rfl ?_
    exact kt
  by_cases hc8_3 : p3 = (0 : Int32)
  · obtain ⟨fs, hr, hrun, hended, hW, hsame⟩ := X1.leave (v := some (.double (FP.i2d ((p1 >>> (((8 : Int32) * p2) &&& 31)).toInt8.toInt32)))) (fun h => by rw [Bd.returns] at h; cases h)
    refine ⟨_, _, pre2 _ ?_, hrun, hended, _, _, rfl, ?_, ⟨_, rfl⟩, hW, hsame.mono (by decide) (by decide)⟩
    · refine XS.ifYes X1.here hx rfl (pc0 := 8) (pc' := 19) rfl (hb hby d8_8) rfl ((if0 _ _).trans (teq hc8_3).1) (by decide) (by decide) ?_
      refine own_dload X1.here hx rfl (hb hby d8_19) rfl ?_
      show Steps p.tables e below (T1.setTop (mkF m 21 #[.val (.int p1), .val (.int p2), .val (.int p3), .val (.long q4), .second, .val (.double (FP.i2d ((p1 >>> (((8 : Int32) * p2) &&& 31)).toInt8.toInt32))), .second] [(.double (FP.i2d ((p1 >>> (((8 : Int32) * p2) &&& 31)).toInt8.toInt32)))])) _
      exact retOut X1 hx Bd.returns rfl (Or.inr (Or.inr (Or.inl ⟨rfl, rfl, _, rfl⟩))) (hb hby d8_21) hr
    · show Q8 Z p1 p2 p3 q4 h0 n0 _ T1.heap _
      rw [e1]
      exact ⟨by rw [res8, if_pos hc8_3], rfl, rfl⟩
  · obtain ⟨fs, hr, hrun, hended, hW, hsame⟩ := X1.leave (v := some (.double (FP.dadd (FP.i2d ((p1 >>> (((8 : Int32) * p2) &&& 31)).toInt8.toInt32)) (FP.l2d q4)))) (fun h => by rw [Bd.returns] at h; cases h)
    refine ⟨_, _, pre2 _ ?_, hrun, hended, _, _, rfl, ?_, ⟨_, rfl⟩, hW, hsame.mono (by decide) (by decide)⟩
    · refine XS.ifNo X1.here hx rfl (hb hby d8_8) rfl ((if0 _ _).trans (feq hc8_3).1) ?_
      refine own_dload X1.here hx rfl (hb hby d8_11) rfl ?_
      refine XS.lloadN X1.here hx rfl (hb hby d8_13) rfl ?_
      refine own_l2d X1.here hx rfl (hb hby d8_14) rfl ?_
      refine own_dadd X1.here hx rfl (hb hby d8_15) rfl hn ?_
      refine XS.goto X1.here hx rfl (pc0 := 16) (pc' := 21) rfl (hb hby d8_16) (by decide) (by decide) ?_
      show Steps p.tables e below (T1.setTop (mkF m 21 #[.val (.int p1), .val (.int p2), .val (.int p3), .val (.long q4), .second, .val (.double (FP.i2d ((p1 >>> (((8 : Int32) * p2) &&& 31)).toInt8.toInt32))), .second] [(.double (FP.dadd (FP.i2d ((p1 >>> (((8 : Int32) * p2) &&& 31)).toInt8.toInt32)) (FP.l2d q4)))])) _
      exact retOut X1 hx Bd.returns rfl (Or.inr (Or.inr (Or.inl ⟨rfl, rfl, _, rfl⟩))) (hb hby d8_21) hr
    · show Q8 Z p1 p2 p3 q4 h0 n0 _ T1.heap _
      rw [e1]
      exact ⟨by rw [res8, if_neg hc8_3], rfl, rfl⟩
def own_row (f0 f1 f2 f3 : Int32) (a b c d : Int64) : List Value := (if f0 = (0 : Int32) then [] else [(.long (0 : Int64)), (.long a)]) ++ ((if f1 = (0 : Int32) then [] else [(.long (1 : Int64)), (.long b)]) ++ ((if f2 = (0 : Int32) then [] else [(.long (2 : Int64)), (.long c)]) ++ ((if f3 = (0 : Int32) then [] else [(.long (3 : Int64)), (.long d)]))))
def own_n (f0 f1 f2 f3 : Int32) : Int32 := (if f0 = (0 : Int32) then (0 : Int32) else (2 : Int32)) + ((if f1 = (0 : Int32) then (0 : Int32) else (2 : Int32)) + ((if f2 = (0 : Int32) then (0 : Int32) else (2 : Int32)) + ((if f3 = (0 : Int32) then (0 : Int32) else (2 : Int32)))))
theorem own_rw_0 {f0 f1 f2 f3 : Int32} {a b c d : Int64} (e0 : f0 = (0 : Int32)) (e1 : f1 = (0 : Int32)) (e2 : f2 = (0 : Int32)) (e3 : f3 = (0 : Int32)) : own_row f0 f1 f2 f3 a b c d = [] := by
  unfold own_row; rw [if_pos e0, if_pos e1, if_pos e2, if_pos e3]; rfl
theorem own_nw_0 {f0 f1 f2 f3 : Int32} (e0 : f0 = (0 : Int32)) (e1 : f1 = (0 : Int32)) (e2 : f2 = (0 : Int32)) (e3 : f3 = (0 : Int32)) : own_n f0 f1 f2 f3 = (0 : Int32) := by
  unfold own_n; rw [if_pos e0, if_pos e1, if_pos e2, if_pos e3]; decide
theorem own_rw_1 {f0 f1 f2 f3 : Int32} {a b c d : Int64} (e0 : ¬ f0 = (0 : Int32)) (e1 : f1 = (0 : Int32)) (e2 : f2 = (0 : Int32)) (e3 : f3 = (0 : Int32)) : own_row f0 f1 f2 f3 a b c d = [(.long (0 : Int64)), (.long a)] := by
  unfold own_row; rw [if_neg e0, if_pos e1, if_pos e2, if_pos e3]; rfl
theorem own_nw_1 {f0 f1 f2 f3 : Int32} (e0 : ¬ f0 = (0 : Int32)) (e1 : f1 = (0 : Int32)) (e2 : f2 = (0 : Int32)) (e3 : f3 = (0 : Int32)) : own_n f0 f1 f2 f3 = (2 : Int32) := by
  unfold own_n; rw [if_neg e0, if_pos e1, if_pos e2, if_pos e3]; decide
theorem own_rw_2 {f0 f1 f2 f3 : Int32} {a b c d : Int64} (e0 : f0 = (0 : Int32)) (e1 : ¬ f1 = (0 : Int32)) (e2 : f2 = (0 : Int32)) (e3 : f3 = (0 : Int32)) : own_row f0 f1 f2 f3 a b c d = [(.long (1 : Int64)), (.long b)] := by
  unfold own_row; rw [if_pos e0, if_neg e1, if_pos e2, if_pos e3]; rfl
theorem own_nw_2 {f0 f1 f2 f3 : Int32} (e0 : f0 = (0 : Int32)) (e1 : ¬ f1 = (0 : Int32)) (e2 : f2 = (0 : Int32)) (e3 : f3 = (0 : Int32)) : own_n f0 f1 f2 f3 = (2 : Int32) := by
  unfold own_n; rw [if_pos e0, if_neg e1, if_pos e2, if_pos e3]; decide
theorem own_rw_3 {f0 f1 f2 f3 : Int32} {a b c d : Int64} (e0 : ¬ f0 = (0 : Int32)) (e1 : ¬ f1 = (0 : Int32)) (e2 : f2 = (0 : Int32)) (e3 : f3 = (0 : Int32)) : own_row f0 f1 f2 f3 a b c d = [(.long (0 : Int64)), (.long a), (.long (1 : Int64)), (.long b)] := by
  unfold own_row; rw [if_neg e0, if_neg e1, if_pos e2, if_pos e3]; rfl
theorem own_nw_3 {f0 f1 f2 f3 : Int32} (e0 : ¬ f0 = (0 : Int32)) (e1 : ¬ f1 = (0 : Int32)) (e2 : f2 = (0 : Int32)) (e3 : f3 = (0 : Int32)) : own_n f0 f1 f2 f3 = (4 : Int32) := by
  unfold own_n; rw [if_neg e0, if_neg e1, if_pos e2, if_pos e3]; decide
theorem own_rw_4 {f0 f1 f2 f3 : Int32} {a b c d : Int64} (e0 : f0 = (0 : Int32)) (e1 : f1 = (0 : Int32)) (e2 : ¬ f2 = (0 : Int32)) (e3 : f3 = (0 : Int32)) : own_row f0 f1 f2 f3 a b c d = [(.long (2 : Int64)), (.long c)] := by
  unfold own_row; rw [if_pos e0, if_pos e1, if_neg e2, if_pos e3]; rfl
theorem own_nw_4 {f0 f1 f2 f3 : Int32} (e0 : f0 = (0 : Int32)) (e1 : f1 = (0 : Int32)) (e2 : ¬ f2 = (0 : Int32)) (e3 : f3 = (0 : Int32)) : own_n f0 f1 f2 f3 = (2 : Int32) := by
  unfold own_n; rw [if_pos e0, if_pos e1, if_neg e2, if_pos e3]; decide
theorem own_rw_5 {f0 f1 f2 f3 : Int32} {a b c d : Int64} (e0 : ¬ f0 = (0 : Int32)) (e1 : f1 = (0 : Int32)) (e2 : ¬ f2 = (0 : Int32)) (e3 : f3 = (0 : Int32)) : own_row f0 f1 f2 f3 a b c d = [(.long (0 : Int64)), (.long a), (.long (2 : Int64)), (.long c)] := by
  unfold own_row; rw [if_neg e0, if_pos e1, if_neg e2, if_pos e3]; rfl
theorem own_nw_5 {f0 f1 f2 f3 : Int32} (e0 : ¬ f0 = (0 : Int32)) (e1 : f1 = (0 : Int32)) (e2 : ¬ f2 = (0 : Int32)) (e3 : f3 = (0 : Int32)) : own_n f0 f1 f2 f3 = (4 : Int32) := by
  unfold own_n; rw [if_neg e0, if_pos e1, if_neg e2, if_pos e3]; decide
theorem own_rw_6 {f0 f1 f2 f3 : Int32} {a b c d : Int64} (e0 : f0 = (0 : Int32)) (e1 : ¬ f1 = (0 : Int32)) (e2 : ¬ f2 = (0 : Int32)) (e3 : f3 = (0 : Int32)) : own_row f0 f1 f2 f3 a b c d = [(.long (1 : Int64)), (.long b), (.long (2 : Int64)), (.long c)] := by
  unfold own_row; rw [if_pos e0, if_neg e1, if_neg e2, if_pos e3]; rfl
theorem own_nw_6 {f0 f1 f2 f3 : Int32} (e0 : f0 = (0 : Int32)) (e1 : ¬ f1 = (0 : Int32)) (e2 : ¬ f2 = (0 : Int32)) (e3 : f3 = (0 : Int32)) : own_n f0 f1 f2 f3 = (4 : Int32) := by
  unfold own_n; rw [if_pos e0, if_neg e1, if_neg e2, if_pos e3]; decide
theorem own_rw_7 {f0 f1 f2 f3 : Int32} {a b c d : Int64} (e0 : ¬ f0 = (0 : Int32)) (e1 : ¬ f1 = (0 : Int32)) (e2 : ¬ f2 = (0 : Int32)) (e3 : f3 = (0 : Int32)) : own_row f0 f1 f2 f3 a b c d = [(.long (0 : Int64)), (.long a), (.long (1 : Int64)), (.long b), (.long (2 : Int64)), (.long c)] := by
  unfold own_row; rw [if_neg e0, if_neg e1, if_neg e2, if_pos e3]; rfl
theorem own_nw_7 {f0 f1 f2 f3 : Int32} (e0 : ¬ f0 = (0 : Int32)) (e1 : ¬ f1 = (0 : Int32)) (e2 : ¬ f2 = (0 : Int32)) (e3 : f3 = (0 : Int32)) : own_n f0 f1 f2 f3 = (6 : Int32) := by
  unfold own_n; rw [if_neg e0, if_neg e1, if_neg e2, if_pos e3]; decide
theorem own_rw_8 {f0 f1 f2 f3 : Int32} {a b c d : Int64} (e0 : f0 = (0 : Int32)) (e1 : f1 = (0 : Int32)) (e2 : f2 = (0 : Int32)) (e3 : ¬ f3 = (0 : Int32)) : own_row f0 f1 f2 f3 a b c d = [(.long (3 : Int64)), (.long d)] := by
  unfold own_row; rw [if_pos e0, if_pos e1, if_pos e2, if_neg e3]; rfl
theorem own_nw_8 {f0 f1 f2 f3 : Int32} (e0 : f0 = (0 : Int32)) (e1 : f1 = (0 : Int32)) (e2 : f2 = (0 : Int32)) (e3 : ¬ f3 = (0 : Int32)) : own_n f0 f1 f2 f3 = (2 : Int32) := by
  unfold own_n; rw [if_pos e0, if_pos e1, if_pos e2, if_neg e3]; decide
theorem own_rw_9 {f0 f1 f2 f3 : Int32} {a b c d : Int64} (e0 : ¬ f0 = (0 : Int32)) (e1 : f1 = (0 : Int32)) (e2 : f2 = (0 : Int32)) (e3 : ¬ f3 = (0 : Int32)) : own_row f0 f1 f2 f3 a b c d = [(.long (0 : Int64)), (.long a), (.long (3 : Int64)), (.long d)] := by
  unfold own_row; rw [if_neg e0, if_pos e1, if_pos e2, if_neg e3]; rfl
theorem own_nw_9 {f0 f1 f2 f3 : Int32} (e0 : ¬ f0 = (0 : Int32)) (e1 : f1 = (0 : Int32)) (e2 : f2 = (0 : Int32)) (e3 : ¬ f3 = (0 : Int32)) : own_n f0 f1 f2 f3 = (4 : Int32) := by
  unfold own_n; rw [if_neg e0, if_pos e1, if_pos e2, if_neg e3]; decide
theorem own_rw_10 {f0 f1 f2 f3 : Int32} {a b c d : Int64} (e0 : f0 = (0 : Int32)) (e1 : ¬ f1 = (0 : Int32)) (e2 : f2 = (0 : Int32)) (e3 : ¬ f3 = (0 : Int32)) : own_row f0 f1 f2 f3 a b c d = [(.long (1 : Int64)), (.long b), (.long (3 : Int64)), (.long d)] := by
  unfold own_row; rw [if_pos e0, if_neg e1, if_pos e2, if_neg e3]; rfl
theorem own_nw_10 {f0 f1 f2 f3 : Int32} (e0 : f0 = (0 : Int32)) (e1 : ¬ f1 = (0 : Int32)) (e2 : f2 = (0 : Int32)) (e3 : ¬ f3 = (0 : Int32)) : own_n f0 f1 f2 f3 = (4 : Int32) := by
  unfold own_n; rw [if_pos e0, if_neg e1, if_pos e2, if_neg e3]; decide
theorem own_rw_11 {f0 f1 f2 f3 : Int32} {a b c d : Int64} (e0 : ¬ f0 = (0 : Int32)) (e1 : ¬ f1 = (0 : Int32)) (e2 : f2 = (0 : Int32)) (e3 : ¬ f3 = (0 : Int32)) : own_row f0 f1 f2 f3 a b c d = [(.long (0 : Int64)), (.long a), (.long (1 : Int64)), (.long b), (.long (3 : Int64)), (.long d)] := by
  unfold own_row; rw [if_neg e0, if_neg e1, if_pos e2, if_neg e3]; rfl
theorem own_nw_11 {f0 f1 f2 f3 : Int32} (e0 : ¬ f0 = (0 : Int32)) (e1 : ¬ f1 = (0 : Int32)) (e2 : f2 = (0 : Int32)) (e3 : ¬ f3 = (0 : Int32)) : own_n f0 f1 f2 f3 = (6 : Int32) := by
  unfold own_n; rw [if_neg e0, if_neg e1, if_pos e2, if_neg e3]; decide
theorem own_rw_12 {f0 f1 f2 f3 : Int32} {a b c d : Int64} (e0 : f0 = (0 : Int32)) (e1 : f1 = (0 : Int32)) (e2 : ¬ f2 = (0 : Int32)) (e3 : ¬ f3 = (0 : Int32)) : own_row f0 f1 f2 f3 a b c d = [(.long (2 : Int64)), (.long c), (.long (3 : Int64)), (.long d)] := by
  unfold own_row; rw [if_pos e0, if_pos e1, if_neg e2, if_neg e3]; rfl
theorem own_nw_12 {f0 f1 f2 f3 : Int32} (e0 : f0 = (0 : Int32)) (e1 : f1 = (0 : Int32)) (e2 : ¬ f2 = (0 : Int32)) (e3 : ¬ f3 = (0 : Int32)) : own_n f0 f1 f2 f3 = (4 : Int32) := by
  unfold own_n; rw [if_pos e0, if_pos e1, if_neg e2, if_neg e3]; decide
theorem own_rw_13 {f0 f1 f2 f3 : Int32} {a b c d : Int64} (e0 : ¬ f0 = (0 : Int32)) (e1 : f1 = (0 : Int32)) (e2 : ¬ f2 = (0 : Int32)) (e3 : ¬ f3 = (0 : Int32)) : own_row f0 f1 f2 f3 a b c d = [(.long (0 : Int64)), (.long a), (.long (2 : Int64)), (.long c), (.long (3 : Int64)), (.long d)] := by
  unfold own_row; rw [if_neg e0, if_pos e1, if_neg e2, if_neg e3]; rfl
theorem own_nw_13 {f0 f1 f2 f3 : Int32} (e0 : ¬ f0 = (0 : Int32)) (e1 : f1 = (0 : Int32)) (e2 : ¬ f2 = (0 : Int32)) (e3 : ¬ f3 = (0 : Int32)) : own_n f0 f1 f2 f3 = (6 : Int32) := by
  unfold own_n; rw [if_neg e0, if_pos e1, if_neg e2, if_neg e3]; decide
theorem own_rw_14 {f0 f1 f2 f3 : Int32} {a b c d : Int64} (e0 : f0 = (0 : Int32)) (e1 : ¬ f1 = (0 : Int32)) (e2 : ¬ f2 = (0 : Int32)) (e3 : ¬ f3 = (0 : Int32)) : own_row f0 f1 f2 f3 a b c d = [(.long (1 : Int64)), (.long b), (.long (2 : Int64)), (.long c), (.long (3 : Int64)), (.long d)] := by
  unfold own_row; rw [if_pos e0, if_neg e1, if_neg e2, if_neg e3]; rfl
theorem own_nw_14 {f0 f1 f2 f3 : Int32} (e0 : f0 = (0 : Int32)) (e1 : ¬ f1 = (0 : Int32)) (e2 : ¬ f2 = (0 : Int32)) (e3 : ¬ f3 = (0 : Int32)) : own_n f0 f1 f2 f3 = (6 : Int32) := by
  unfold own_n; rw [if_pos e0, if_neg e1, if_neg e2, if_neg e3]; decide
theorem own_rw_15 {f0 f1 f2 f3 : Int32} {a b c d : Int64} (e0 : ¬ f0 = (0 : Int32)) (e1 : ¬ f1 = (0 : Int32)) (e2 : ¬ f2 = (0 : Int32)) (e3 : ¬ f3 = (0 : Int32)) : own_row f0 f1 f2 f3 a b c d = [(.long (0 : Int64)), (.long a), (.long (1 : Int64)), (.long b), (.long (2 : Int64)), (.long c), (.long (3 : Int64)), (.long d)] := by
  unfold own_row; rw [if_neg e0, if_neg e1, if_neg e2, if_neg e3]; rfl
theorem own_nw_15 {f0 f1 f2 f3 : Int32} (e0 : ¬ f0 = (0 : Int32)) (e1 : ¬ f1 = (0 : Int32)) (e2 : ¬ f2 = (0 : Int32)) (e3 : ¬ f3 = (0 : Int32)) : own_n f0 f1 f2 f3 = (8 : Int32) := by
  unfold own_n; rw [if_neg e0, if_neg e1, if_neg e2, if_neg e3]; decide
theorem own_l0 : (0 : Int32).toInt64 = (0 : Int64) := by decide
theorem own_l1 : (1 : Int32).toInt64 = (1 : Int64) := by decide
theorem own_l2 : (2 : Int32).toInt64 = (2 : Int64) := by decide
theorem own_l3 : (3 : Int32).toInt64 = (3 : Int64) := by decide
theorem own_pair_same (r : Int32) (x : Value) : own_pair r x x = [x, x] := by
  unfold own_pair; split <;> rfl
theorem own_pair_swap {r : Int32} (h : r = (0 : Int32) ∨ r = (1 : Int32)) (x y : Value) : own_pair r x y = own_pair ((1 : Int32) - r) y x := by
  rcases h with rfl | rfl <;> rfl
theorem own_other {r : Int32} (h : r = (0 : Int32) ∨ r = (1 : Int32)) : (1 : Int32) - r = (0 : Int32) ∨ (1 : Int32) - r = (1 : Int32) := by
  rcases h with rfl | rfl
  · exact Or.inr (by decide)
  · exact Or.inl (by decide)
def Q_addA0 (Z : State) (a1 : Addr) (p2 : Int32) (q4 : Int64) (rr : Addr) (kr : ClassId) (ro : Addr) (sg : Addr) (ka : ClassId) (fk : Int32) (wa : Int64) (wb : Int64) (wc : Int64) (wd : Int64) (h0 : Heap) (n0 : Nat) (v : Option Value) (h : Heap) (L : List Loc) : Prop := ∃ (b : Addr) (kb : ClassId), v = none ∧ Fr n0 L ∧ Keep h0 h [rr] ∧ h0.size ≤ b ∧ Exa Z h rr "[[J" ∧ Arv Z h rr kr (.array .long) (2 : Int32) (own_pair p2 (.ref b) (.ref sg)) .null ∧ Arv Z h b kb .long (own_n fk (0 : Int32) (0 : Int32) (0 : Int32)) (own_row fk (0 : Int32) (0 : Int32) (0 : Int32) q4 wb wc wd) (.long (0 : Int64)) ∧ Exa Z h b "[J"
theorem rm_addA0 (l : Launch) (Z : State) (a0 : Array Value) (hw : ∀ d ∈ tables_1, d.before a0 Z = true) (ws : List Jvm.Cond) (a1 : Addr) (p2 : Int32) (q4 : Int64) (rr : Addr) (kr : ClassId) (ro : Addr) (sg : Addr) (ka : ClassId) (fk : Int32) (wa : Int64) (wb : Int64) (wc : Int64) (wd : Int64) (h0 : Heap) (n0 : Nat) (Z0 : n0 ≤ h0.size) (F_rows : Fld Z h0 a1 "com/example/chartlight/chartlight/label/WeightRows" "_rows" "[[J" (.ref rr)) (V_rr : Arv Z h0 rr kr (.array .long) (2 : Int32) (own_pair p2 (.ref ro) (.ref sg)) .null) (E_rr : Exa Z h0 rr "[[J") (V_ro : Arv Z h0 ro ka .long (own_n (0 : Int32) (0 : Int32) (0 : Int32) (0 : Int32)) (own_row (0 : Int32) (0 : Int32) (0 : Int32) (0 : Int32) wa wb wc wd) (.long (0 : Int64))) (g_rr : n0 ≤ rr) (hri : p2 = (0 : Int32) ∨ p2 = (1 : Int32)) (hO : OvrA Z kr .long "[J") (hne_r : ro ≠ rr) (hk : ¬ (fk = (0 : Int32))) :
    MetFree l (⟨"com/example/chartlight/chartlight/label/WeightRows", "add", "(IIJ)V"⟩ : MethodName) (head1 (Jvm.Cond.code (⟨"com/example/chartlight/chartlight/label/WeightRows", "add", "(IIJ)V"⟩ : MethodName) prog_58_method_7_code 9 none :: ws) ({ frames := 1, cells := 1, slots := 8, locals := 18 } : Room)) (fun a U => a = #[(.ref a1), (.int p2), (.int (0 : Int32)), (.long q4)] ∧ Z.Warmed39 U.vm ∧ U.heap = h0) (fun _ _ _ _ _ => True) (fun _ U o U' => ∃ v L, o = .returned v ∧ Q_addA0 Z a1 p2 q4 rr kr ro sg ka fk wa wb wc wd h0 n0 v U'.heap L ∧ FrameEnd U o U' L ({ frames := 1, cells := 1, slots := 8, locals := 18 } : Room).cells ({ frames := 1, cells := 1, slots := 8, locals := 18 } : Room).slots) := by
  · rw [own_rw_0 rfl rfl rfl rfl, own_nw_0 rfl rfl rfl rfl] at V_ro
    refine (rm_add_0a l Z a0 hw ws a1 p2 (0 : Int32) q4 rr kr ro sg ka  h0 n0 Z0 F_rows V_rr E_rr V_ro g_rr hri hO hne_r).imp ?_
    rintro a s o s' ⟨v, L, hv, ⟨b, kb, t1, t2, t3, t4, t6, t5, t7, t8⟩, r⟩
    refine ⟨v, L, hv, ⟨b, kb, t1, t2, t3, t4, t5, t6, ?_, t8⟩, r⟩
    rw [own_rw_1 hk rfl rfl rfl, own_nw_1 hk rfl rfl rfl, ← own_l0]
    exact t7
def Q_addA1 (Z : State) (a1 : Addr) (p2 : Int32) (q4 : Int64) (rr : Addr) (kr : ClassId) (ro : Addr) (sg : Addr) (ka : ClassId) (f0 : Int32) (fk : Int32) (wa : Int64) (wb : Int64) (wc : Int64) (wd : Int64) (h0 : Heap) (n0 : Nat) (v : Option Value) (h : Heap) (L : List Loc) : Prop := ∃ (b : Addr) (kb : ClassId), v = none ∧ Fr n0 L ∧ Keep h0 h [rr] ∧ h0.size ≤ b ∧ Exa Z h rr "[[J" ∧ Arv Z h rr kr (.array .long) (2 : Int32) (own_pair p2 (.ref b) (.ref sg)) .null ∧ Arv Z h b kb .long (own_n f0 fk (0 : Int32) (0 : Int32)) (own_row f0 fk (0 : Int32) (0 : Int32) wa q4 wc wd) (.long (0 : Int64)) ∧ Exa Z h b "[J"
theorem rm_addA1 (l : Launch) (Z : State) (a0 : Array Value) (hw : ∀ d ∈ tables_1, d.before a0 Z = true) (ws : List Jvm.Cond) (a1 : Addr) (p2 : Int32) (q4 : Int64) (rr : Addr) (kr : ClassId) (ro : Addr) (sg : Addr) (ka : ClassId) (f0 : Int32) (fk : Int32) (wa : Int64) (wb : Int64) (wc : Int64) (wd : Int64) (h0 : Heap) (n0 : Nat) (Z0 : n0 ≤ h0.size) (F_rows : Fld Z h0 a1 "com/example/chartlight/chartlight/label/WeightRows" "_rows" "[[J" (.ref rr)) (V_rr : Arv Z h0 rr kr (.array .long) (2 : Int32) (own_pair p2 (.ref ro) (.ref sg)) .null) (E_rr : Exa Z h0 rr "[[J") (V_ro : Arv Z h0 ro ka .long (own_n f0 (0 : Int32) (0 : Int32) (0 : Int32)) (own_row f0 (0 : Int32) (0 : Int32) (0 : Int32) wa wb wc wd) (.long (0 : Int64))) (g_rr : n0 ≤ rr) (hri : p2 = (0 : Int32) ∨ p2 = (1 : Int32)) (hO : OvrA Z kr .long "[J") (hne_r : ro ≠ rr) (hk : ¬ (fk = (0 : Int32))) :
    MetFree l (⟨"com/example/chartlight/chartlight/label/WeightRows", "add", "(IIJ)V"⟩ : MethodName) (head1 (Jvm.Cond.code (⟨"com/example/chartlight/chartlight/label/WeightRows", "add", "(IIJ)V"⟩ : MethodName) prog_58_method_7_code 9 none :: ws) ({ frames := 1, cells := 1, slots := 8, locals := 18 } : Room)) (fun a U => a = #[(.ref a1), (.int p2), (.int (1 : Int32)), (.long q4)] ∧ Z.Warmed39 U.vm ∧ U.heap = h0) (fun _ _ _ _ _ => True) (fun _ U o U' => ∃ v L, o = .returned v ∧ Q_addA1 Z a1 p2 q4 rr kr ro sg ka f0 fk wa wb wc wd h0 n0 v U'.heap L ∧ FrameEnd U o U' L ({ frames := 1, cells := 1, slots := 8, locals := 18 } : Room).cells ({ frames := 1, cells := 1, slots := 8, locals := 18 } : Room).slots) := by
  by_cases e0 : f0 = (0 : Int32)
  · rw [own_rw_0 e0 rfl rfl rfl, own_nw_0 e0 rfl rfl rfl] at V_ro
    refine (rm_add_0a l Z a0 hw ws a1 p2 (1 : Int32) q4 rr kr ro sg ka  h0 n0 Z0 F_rows V_rr E_rr V_ro g_rr hri hO hne_r).imp ?_
    rintro a s o s' ⟨v, L, hv, ⟨b, kb, t1, t2, t3, t4, t6, t5, t7, t8⟩, r⟩
    refine ⟨v, L, hv, ⟨b, kb, t1, t2, t3, t4, t5, t6, ?_, t8⟩, r⟩
    rw [own_rw_2 e0 hk rfl rfl, own_nw_2 e0 hk rfl rfl, ← own_l1]
    exact t7
  · rw [own_rw_1 e0 rfl rfl rfl, own_nw_1 e0 rfl rfl rfl] at V_ro
    refine (rm_add_2a l Z a0 hw ws a1 p2 (1 : Int32) q4 rr kr ro sg ka (0 : Int64) wa h0 n0 Z0 F_rows V_rr E_rr V_ro g_rr hri hO hne_r (by decide)).imp ?_
    rintro a s o s' ⟨v, L, hv, ⟨b, kb, t1, t2, t3, t4, t6, t5, t7, t8⟩, r⟩
    refine ⟨v, L, hv, ⟨b, kb, t1, t2, t3, t4, t5, t6, ?_, t8⟩, r⟩
    rw [own_rw_3 e0 hk rfl rfl, own_nw_3 e0 hk rfl rfl, ← own_l1]
    exact t7
def Q_addA2 (Z : State) (a1 : Addr) (p2 : Int32) (q4 : Int64) (rr : Addr) (kr : ClassId) (ro : Addr) (sg : Addr) (ka : ClassId) (f0 : Int32) (f1 : Int32) (fk : Int32) (wa : Int64) (wb : Int64) (wc : Int64) (wd : Int64) (h0 : Heap) (n0 : Nat) (v : Option Value) (h : Heap) (L : List Loc) : Prop := ∃ (b : Addr) (kb : ClassId), v = none ∧ Fr n0 L ∧ Keep h0 h [rr] ∧ h0.size ≤ b ∧ Exa Z h rr "[[J" ∧ Arv Z h rr kr (.array .long) (2 : Int32) (own_pair p2 (.ref b) (.ref sg)) .null ∧ Arv Z h b kb .long (own_n f0 f1 fk (0 : Int32)) (own_row f0 f1 fk (0 : Int32) wa wb q4 wd) (.long (0 : Int64)) ∧ Exa Z h b "[J"
theorem rm_addA2 (l : Launch) (Z : State) (a0 : Array Value) (hw : ∀ d ∈ tables_1, d.before a0 Z = true) (ws : List Jvm.Cond) (a1 : Addr) (p2 : Int32) (q4 : Int64) (rr : Addr) (kr : ClassId) (ro : Addr) (sg : Addr) (ka : ClassId) (f0 : Int32) (f1 : Int32) (fk : Int32) (wa : Int64) (wb : Int64) (wc : Int64) (wd : Int64) (h0 : Heap) (n0 : Nat) (Z0 : n0 ≤ h0.size) (F_rows : Fld Z h0 a1 "com/example/chartlight/chartlight/label/WeightRows" "_rows" "[[J" (.ref rr)) (V_rr : Arv Z h0 rr kr (.array .long) (2 : Int32) (own_pair p2 (.ref ro) (.ref sg)) .null) (E_rr : Exa Z h0 rr "[[J") (V_ro : Arv Z h0 ro ka .long (own_n f0 f1 (0 : Int32) (0 : Int32)) (own_row f0 f1 (0 : Int32) (0 : Int32) wa wb wc wd) (.long (0 : Int64))) (g_rr : n0 ≤ rr) (hri : p2 = (0 : Int32) ∨ p2 = (1 : Int32)) (hO : OvrA Z kr .long "[J") (hne_r : ro ≠ rr) (hk : ¬ (fk = (0 : Int32))) :
    MetFree l (⟨"com/example/chartlight/chartlight/label/WeightRows", "add", "(IIJ)V"⟩ : MethodName) (head1 (Jvm.Cond.code (⟨"com/example/chartlight/chartlight/label/WeightRows", "add", "(IIJ)V"⟩ : MethodName) prog_58_method_7_code 9 none :: ws) ({ frames := 1, cells := 1, slots := 8, locals := 18 } : Room)) (fun a U => a = #[(.ref a1), (.int p2), (.int (2 : Int32)), (.long q4)] ∧ Z.Warmed39 U.vm ∧ U.heap = h0) (fun _ _ _ _ _ => True) (fun _ U o U' => ∃ v L, o = .returned v ∧ Q_addA2 Z a1 p2 q4 rr kr ro sg ka f0 f1 fk wa wb wc wd h0 n0 v U'.heap L ∧ FrameEnd U o U' L ({ frames := 1, cells := 1, slots := 8, locals := 18 } : Room).cells ({ frames := 1, cells := 1, slots := 8, locals := 18 } : Room).slots) := by
  by_cases e0 : f0 = (0 : Int32) <;> by_cases e1 : f1 = (0 : Int32)
  · rw [own_rw_0 e0 e1 rfl rfl, own_nw_0 e0 e1 rfl rfl] at V_ro
    refine (rm_add_0a l Z a0 hw ws a1 p2 (2 : Int32) q4 rr kr ro sg ka  h0 n0 Z0 F_rows V_rr E_rr V_ro g_rr hri hO hne_r).imp ?_
    rintro a s o s' ⟨v, L, hv, ⟨b, kb, t1, t2, t3, t4, t6, t5, t7, t8⟩, r⟩
    refine ⟨v, L, hv, ⟨b, kb, t1, t2, t3, t4, t5, t6, ?_, t8⟩, r⟩
    rw [own_rw_4 e0 e1 hk rfl, own_nw_4 e0 e1 hk rfl, ← own_l2]
    exact t7
  · rw [own_rw_2 e0 e1 rfl rfl, own_nw_2 e0 e1 rfl rfl] at V_ro
    refine (rm_add_2a l Z a0 hw ws a1 p2 (2 : Int32) q4 rr kr ro sg ka (1 : Int64) wb h0 n0 Z0 F_rows V_rr E_rr V_ro g_rr hri hO hne_r (by decide)).imp ?_
    rintro a s o s' ⟨v, L, hv, ⟨b, kb, t1, t2, t3, t4, t6, t5, t7, t8⟩, r⟩
    refine ⟨v, L, hv, ⟨b, kb, t1, t2, t3, t4, t5, t6, ?_, t8⟩, r⟩
    rw [own_rw_6 e0 e1 hk rfl, own_nw_6 e0 e1 hk rfl, ← own_l2]
    exact t7
  · rw [own_rw_1 e0 e1 rfl rfl, own_nw_1 e0 e1 rfl rfl] at V_ro
    refine (rm_add_2a l Z a0 hw ws a1 p2 (2 : Int32) q4 rr kr ro sg ka (0 : Int64) wa h0 n0 Z0 F_rows V_rr E_rr V_ro g_rr hri hO hne_r (by decide)).imp ?_
    rintro a s o s' ⟨v, L, hv, ⟨b, kb, t1, t2, t3, t4, t6, t5, t7, t8⟩, r⟩
    refine ⟨v, L, hv, ⟨b, kb, t1, t2, t3, t4, t5, t6, ?_, t8⟩, r⟩
    rw [own_rw_5 e0 e1 hk rfl, own_nw_5 e0 e1 hk rfl, ← own_l2]
    exact t7
  · rw [own_rw_3 e0 e1 rfl rfl, own_nw_3 e0 e1 rfl rfl] at V_ro
    refine (rm_add_4a l Z a0 hw ws a1 p2 (2 : Int32) q4 rr kr ro sg ka (0 : Int64) wa (1 : Int64) wb h0 n0 Z0 F_rows V_rr E_rr V_ro g_rr hri hO hne_r (by decide) (by decide)).imp ?_
    rintro a s o s' ⟨v, L, hv, ⟨b, kb, t1, t2, t3, t4, t6, t5, t7, t8⟩, r⟩
    refine ⟨v, L, hv, ⟨b, kb, t1, t2, t3, t4, t5, t6, ?_, t8⟩, r⟩
    rw [own_rw_7 e0 e1 hk rfl, own_nw_7 e0 e1 hk rfl, ← own_l2]
    exact t7
def Q_addA3 (Z : State) (a1 : Addr) (p2 : Int32) (q4 : Int64) (rr : Addr) (kr : ClassId) (ro : Addr) (sg : Addr) (ka : ClassId) (f0 : Int32) (f1 : Int32) (f2 : Int32) (fk : Int32) (wa : Int64) (wb : Int64) (wc : Int64) (wd : Int64) (h0 : Heap) (n0 : Nat) (v : Option Value) (h : Heap) (L : List Loc) : Prop := ∃ (b : Addr) (kb : ClassId), v = none ∧ Fr n0 L ∧ Keep h0 h [rr] ∧ h0.size ≤ b ∧ Exa Z h rr "[[J" ∧ Arv Z h rr kr (.array .long) (2 : Int32) (own_pair p2 (.ref b) (.ref sg)) .null ∧ Arv Z h b kb .long (own_n f0 f1 f2 fk) (own_row f0 f1 f2 fk wa wb wc q4) (.long (0 : Int64)) ∧ Exa Z h b "[J"
theorem rm_addA3 (l : Launch) (Z : State) (a0 : Array Value) (hw : ∀ d ∈ tables_1, d.before a0 Z = true) (ws : List Jvm.Cond) (a1 : Addr) (p2 : Int32) (q4 : Int64) (rr : Addr) (kr : ClassId) (ro : Addr) (sg : Addr) (ka : ClassId) (f0 : Int32) (f1 : Int32) (f2 : Int32) (fk : Int32) (wa : Int64) (wb : Int64) (wc : Int64) (wd : Int64) (h0 : Heap) (n0 : Nat) (Z0 : n0 ≤ h0.size) (F_rows : Fld Z h0 a1 "com/example/chartlight/chartlight/label/WeightRows" "_rows" "[[J" (.ref rr)) (V_rr : Arv Z h0 rr kr (.array .long) (2 : Int32) (own_pair p2 (.ref ro) (.ref sg)) .null) (E_rr : Exa Z h0 rr "[[J") (V_ro : Arv Z h0 ro ka .long (own_n f0 f1 f2 (0 : Int32)) (own_row f0 f1 f2 (0 : Int32) wa wb wc wd) (.long (0 : Int64))) (g_rr : n0 ≤ rr) (hri : p2 = (0 : Int32) ∨ p2 = (1 : Int32)) (hO : OvrA Z kr .long "[J") (hne_r : ro ≠ rr) (hk : ¬ (fk = (0 : Int32))) :
    MetFree l (⟨"com/example/chartlight/chartlight/label/WeightRows", "add", "(IIJ)V"⟩ : MethodName) (head1 (Jvm.Cond.code (⟨"com/example/chartlight/chartlight/label/WeightRows", "add", "(IIJ)V"⟩ : MethodName) prog_58_method_7_code 9 none :: ws) ({ frames := 1, cells := 1, slots := 8, locals := 18 } : Room)) (fun a U => a = #[(.ref a1), (.int p2), (.int (3 : Int32)), (.long q4)] ∧ Z.Warmed39 U.vm ∧ U.heap = h0) (fun _ _ _ _ _ => True) (fun _ U o U' => ∃ v L, o = .returned v ∧ Q_addA3 Z a1 p2 q4 rr kr ro sg ka f0 f1 f2 fk wa wb wc wd h0 n0 v U'.heap L ∧ FrameEnd U o U' L ({ frames := 1, cells := 1, slots := 8, locals := 18 } : Room).cells ({ frames := 1, cells := 1, slots := 8, locals := 18 } : Room).slots) := by
  by_cases e0 : f0 = (0 : Int32) <;> by_cases e1 : f1 = (0 : Int32) <;> by_cases e2 : f2 = (0 : Int32)
  · rw [own_rw_0 e0 e1 e2 rfl, own_nw_0 e0 e1 e2 rfl] at V_ro
    refine (rm_add_0a l Z a0 hw ws a1 p2 (3 : Int32) q4 rr kr ro sg ka  h0 n0 Z0 F_rows V_rr E_rr V_ro g_rr hri hO hne_r).imp ?_
    rintro a s o s' ⟨v, L, hv, ⟨b, kb, t1, t2, t3, t4, t6, t5, t7, t8⟩, r⟩
    refine ⟨v, L, hv, ⟨b, kb, t1, t2, t3, t4, t5, t6, ?_, t8⟩, r⟩
    rw [own_rw_8 e0 e1 e2 hk, own_nw_8 e0 e1 e2 hk, ← own_l3]
    exact t7
  · rw [own_rw_4 e0 e1 e2 rfl, own_nw_4 e0 e1 e2 rfl] at V_ro
    refine (rm_add_2a l Z a0 hw ws a1 p2 (3 : Int32) q4 rr kr ro sg ka (2 : Int64) wc h0 n0 Z0 F_rows V_rr E_rr V_ro g_rr hri hO hne_r (by decide)).imp ?_
    rintro a s o s' ⟨v, L, hv, ⟨b, kb, t1, t2, t3, t4, t6, t5, t7, t8⟩, r⟩
    refine ⟨v, L, hv, ⟨b, kb, t1, t2, t3, t4, t5, t6, ?_, t8⟩, r⟩
    rw [own_rw_12 e0 e1 e2 hk, own_nw_12 e0 e1 e2 hk, ← own_l3]
    exact t7
  · rw [own_rw_2 e0 e1 e2 rfl, own_nw_2 e0 e1 e2 rfl] at V_ro
    refine (rm_add_2a l Z a0 hw ws a1 p2 (3 : Int32) q4 rr kr ro sg ka (1 : Int64) wb h0 n0 Z0 F_rows V_rr E_rr V_ro g_rr hri hO hne_r (by decide)).imp ?_
    rintro a s o s' ⟨v, L, hv, ⟨b, kb, t1, t2, t3, t4, t6, t5, t7, t8⟩, r⟩
    refine ⟨v, L, hv, ⟨b, kb, t1, t2, t3, t4, t5, t6, ?_, t8⟩, r⟩
    rw [own_rw_10 e0 e1 e2 hk, own_nw_10 e0 e1 e2 hk, ← own_l3]
    exact t7
  · rw [own_rw_6 e0 e1 e2 rfl, own_nw_6 e0 e1 e2 rfl] at V_ro
    refine (rm_add_4a l Z a0 hw ws a1 p2 (3 : Int32) q4 rr kr ro sg ka (1 : Int64) wb (2 : Int64) wc h0 n0 Z0 F_rows V_rr E_rr V_ro g_rr hri hO hne_r (by decide) (by decide)).imp ?_
    rintro a s o s' ⟨v, L, hv, ⟨b, kb, t1, t2, t3, t4, t6, t5, t7, t8⟩, r⟩
    refine ⟨v, L, hv, ⟨b, kb, t1, t2, t3, t4, t5, t6, ?_, t8⟩, r⟩
    rw [own_rw_14 e0 e1 e2 hk, own_nw_14 e0 e1 e2 hk, ← own_l3]
    exact t7
  · rw [own_rw_1 e0 e1 e2 rfl, own_nw_1 e0 e1 e2 rfl] at V_ro
    refine (rm_add_2a l Z a0 hw ws a1 p2 (3 : Int32) q4 rr kr ro sg ka (0 : Int64) wa h0 n0 Z0 F_rows V_rr E_rr V_ro g_rr hri hO hne_r (by decide)).imp ?_
    rintro a s o s' ⟨v, L, hv, ⟨b, kb, t1, t2, t3, t4, t6, t5, t7, t8⟩, r⟩
    refine ⟨v, L, hv, ⟨b, kb, t1, t2, t3, t4, t5, t6, ?_, t8⟩, r⟩
    rw [own_rw_9 e0 e1 e2 hk, own_nw_9 e0 e1 e2 hk, ← own_l3]
    exact t7
  · rw [own_rw_5 e0 e1 e2 rfl, own_nw_5 e0 e1 e2 rfl] at V_ro
    refine (rm_add_4a l Z a0 hw ws a1 p2 (3 : Int32) q4 rr kr ro sg ka (0 : Int64) wa (2 : Int64) wc h0 n0 Z0 F_rows V_rr E_rr V_ro g_rr hri hO hne_r (by decide) (by decide)).imp ?_
    rintro a s o s' ⟨v, L, hv, ⟨b, kb, t1, t2, t3, t4, t6, t5, t7, t8⟩, r⟩
    refine ⟨v, L, hv, ⟨b, kb, t1, t2, t3, t4, t5, t6, ?_, t8⟩, r⟩
    rw [own_rw_13 e0 e1 e2 hk, own_nw_13 e0 e1 e2 hk, ← own_l3]
    exact t7
  · rw [own_rw_3 e0 e1 e2 rfl, own_nw_3 e0 e1 e2 rfl] at V_ro
    refine (rm_add_4a l Z a0 hw ws a1 p2 (3 : Int32) q4 rr kr ro sg ka (0 : Int64) wa (1 : Int64) wb h0 n0 Z0 F_rows V_rr E_rr V_ro g_rr hri hO hne_r (by decide) (by decide)).imp ?_
    rintro a s o s' ⟨v, L, hv, ⟨b, kb, t1, t2, t3, t4, t6, t5, t7, t8⟩, r⟩
    refine ⟨v, L, hv, ⟨b, kb, t1, t2, t3, t4, t5, t6, ?_, t8⟩, r⟩
    rw [own_rw_11 e0 e1 e2 hk, own_nw_11 e0 e1 e2 hk, ← own_l3]
    exact t7
  · rw [own_rw_7 e0 e1 e2 rfl, own_nw_7 e0 e1 e2 rfl] at V_ro
    refine (rm_add_6a l Z a0 hw ws a1 p2 (3 : Int32) q4 rr kr ro sg ka (0 : Int64) wa (1 : Int64) wb (2 : Int64) wc h0 n0 Z0 F_rows V_rr E_rr V_ro g_rr hri hO hne_r (by decide) (by decide) (by decide)).imp ?_
    rintro a s o s' ⟨v, L, hv, ⟨b, kb, t1, t2, t3, t4, t6, t5, t7, t8⟩, r⟩
    refine ⟨v, L, hv, ⟨b, kb, t1, t2, t3, t4, t5, t6, ?_, t8⟩, r⟩
    rw [own_rw_15 e0 e1 e2 hk, own_nw_15 e0 e1 e2 hk, ← own_l3]
    exact t7
def Q_addD0 (Z : State) (a1 : Addr) (p2 : Int32) (q4 : Int64) (rr : Addr) (kr : ClassId) (ro : Addr) (sg : Addr) (ka : ClassId) (f1 : Int32) (f2 : Int32) (f3 : Int32) (fk : Int32) (wa : Int64) (wb : Int64) (wc : Int64) (wd : Int64) (h0 : Heap) (n0 : Nat) (v : Option Value) (h : Heap) (L : List Loc) : Prop := ∃ (b : Addr) (kb : ClassId), v = none ∧ Fr n0 L ∧ Keep h0 h [rr] ∧ h0.size ≤ b ∧ Exa Z h rr "[[J" ∧ Arv Z h rr kr (.array .long) (2 : Int32) (own_pair p2 (.ref b) (.ref sg)) .null ∧ Arv Z h b kb .long (own_n fk f1 f2 f3) (own_row fk f1 f2 f3 q4 wb wc wd) (.long (0 : Int64)) ∧ Exa Z h b "[J"
theorem rm_addD0 (l : Launch) (Z : State) (a0 : Array Value) (hw : ∀ d ∈ tables_1, d.before a0 Z = true) (ws : List Jvm.Cond) (a1 : Addr) (p2 : Int32) (q4 : Int64) (rr : Addr) (kr : ClassId) (ro : Addr) (sg : Addr) (ka : ClassId) (f1 : Int32) (f2 : Int32) (f3 : Int32) (fk : Int32) (wa : Int64) (wb : Int64) (wc : Int64) (wd : Int64) (h0 : Heap) (n0 : Nat) (Z0 : n0 ≤ h0.size) (F_rows : Fld Z h0 a1 "com/example/chartlight/chartlight/label/WeightRows" "_rows" "[[J" (.ref rr)) (V_rr : Arv Z h0 rr kr (.array .long) (2 : Int32) (own_pair p2 (.ref ro) (.ref sg)) .null) (E_rr : Exa Z h0 rr "[[J") (V_ro : Arv Z h0 ro ka .long (own_n (0 : Int32) f1 f2 f3) (own_row (0 : Int32) f1 f2 f3 wa wb wc wd) (.long (0 : Int64))) (g_rr : n0 ≤ rr) (hri : p2 = (0 : Int32) ∨ p2 = (1 : Int32)) (hO : OvrA Z kr .long "[J") (hne_r : ro ≠ rr) (hk : ¬ (fk = (0 : Int32))) :
    MetFree l (⟨"com/example/chartlight/chartlight/label/WeightRows", "add", "(IIJ)V"⟩ : MethodName) (head1 (Jvm.Cond.code (⟨"com/example/chartlight/chartlight/label/WeightRows", "add", "(IIJ)V"⟩ : MethodName) prog_58_method_7_code 9 none :: ws) ({ frames := 1, cells := 1, slots := 8, locals := 18 } : Room)) (fun a U => a = #[(.ref a1), (.int p2), (.int (0 : Int32)), (.long q4)] ∧ Z.Warmed39 U.vm ∧ U.heap = h0) (fun _ _ _ _ _ => True) (fun _ U o U' => ∃ v L, o = .returned v ∧ Q_addD0 Z a1 p2 q4 rr kr ro sg ka f1 f2 f3 fk wa wb wc wd h0 n0 v U'.heap L ∧ FrameEnd U o U' L ({ frames := 1, cells := 1, slots := 8, locals := 18 } : Room).cells ({ frames := 1, cells := 1, slots := 8, locals := 18 } : Room).slots) := by
  by_cases e1 : f1 = (0 : Int32) <;> by_cases e2 : f2 = (0 : Int32) <;> by_cases e3 : f3 = (0 : Int32)
  · rw [own_rw_0 rfl e1 e2 e3, own_nw_0 rfl e1 e2 e3] at V_ro
    refine (rm_add_0a l Z a0 hw ws a1 p2 (0 : Int32) q4 rr kr ro sg ka  h0 n0 Z0 F_rows V_rr E_rr V_ro g_rr hri hO hne_r).imp ?_
    rintro a s o s' ⟨v, L, hv, ⟨b, kb, t1, t2, t3, t4, t6, t5, t7, t8⟩, r⟩
    refine ⟨v, L, hv, ⟨b, kb, t1, t2, t3, t4, t5, t6, ?_, t8⟩, r⟩
    rw [own_rw_1 hk e1 e2 e3, own_nw_1 hk e1 e2 e3, ← own_l0]
    exact t7
  · rw [own_rw_8 rfl e1 e2 e3, own_nw_8 rfl e1 e2 e3] at V_ro
    refine (rm_add_2d l Z a0 hw ws a1 p2 (0 : Int32) q4 rr kr ro sg ka (3 : Int64) wd h0 n0 Z0 F_rows V_rr E_rr V_ro g_rr hri hO hne_r (by decide) (by decide)).imp ?_
    rintro a s o s' ⟨v, L, hv, ⟨b, kb, t1, t2, t3, t4, t6, t5, t7, t8⟩, r⟩
    refine ⟨v, L, hv, ⟨b, kb, t1, t2, t3, t4, t5, t6, ?_, t8⟩, r⟩
    rw [own_rw_9 hk e1 e2 e3, own_nw_9 hk e1 e2 e3, ← own_l0]
    exact t7
  · rw [own_rw_4 rfl e1 e2 e3, own_nw_4 rfl e1 e2 e3] at V_ro
    refine (rm_add_2d l Z a0 hw ws a1 p2 (0 : Int32) q4 rr kr ro sg ka (2 : Int64) wc h0 n0 Z0 F_rows V_rr E_rr V_ro g_rr hri hO hne_r (by decide) (by decide)).imp ?_
    rintro a s o s' ⟨v, L, hv, ⟨b, kb, t1, t2, t3, t4, t6, t5, t7, t8⟩, r⟩
    refine ⟨v, L, hv, ⟨b, kb, t1, t2, t3, t4, t5, t6, ?_, t8⟩, r⟩
    rw [own_rw_5 hk e1 e2 e3, own_nw_5 hk e1 e2 e3, ← own_l0]
    exact t7
  · rw [own_rw_12 rfl e1 e2 e3, own_nw_12 rfl e1 e2 e3] at V_ro
    refine (rm_add_4d l Z a0 hw ws a1 p2 (0 : Int32) q4 rr kr ro sg ka (2 : Int64) wc (3 : Int64) wd h0 n0 Z0 F_rows V_rr E_rr V_ro g_rr hri hO hne_r (by decide) (by decide)).imp ?_
    rintro a s o s' ⟨v, L, hv, ⟨b, kb, t1, t2, t3, t4, t6, t5, t7, t8⟩, r⟩
    refine ⟨v, L, hv, ⟨b, kb, t1, t2, t3, t4, t5, t6, ?_, t8⟩, r⟩
    rw [own_rw_13 hk e1 e2 e3, own_nw_13 hk e1 e2 e3, ← own_l0]
    exact t7
  · rw [own_rw_2 rfl e1 e2 e3, own_nw_2 rfl e1 e2 e3] at V_ro
    refine (rm_add_2d l Z a0 hw ws a1 p2 (0 : Int32) q4 rr kr ro sg ka (1 : Int64) wb h0 n0 Z0 F_rows V_rr E_rr V_ro g_rr hri hO hne_r (by decide) (by decide)).imp ?_
    rintro a s o s' ⟨v, L, hv, ⟨b, kb, t1, t2, t3, t4, t6, t5, t7, t8⟩, r⟩
    refine ⟨v, L, hv, ⟨b, kb, t1, t2, t3, t4, t5, t6, ?_, t8⟩, r⟩
    rw [own_rw_3 hk e1 e2 e3, own_nw_3 hk e1 e2 e3, ← own_l0]
    exact t7
  · rw [own_rw_10 rfl e1 e2 e3, own_nw_10 rfl e1 e2 e3] at V_ro
    refine (rm_add_4d l Z a0 hw ws a1 p2 (0 : Int32) q4 rr kr ro sg ka (1 : Int64) wb (3 : Int64) wd h0 n0 Z0 F_rows V_rr E_rr V_ro g_rr hri hO hne_r (by decide) (by decide)).imp ?_
    rintro a s o s' ⟨v, L, hv, ⟨b, kb, t1, t2, t3, t4, t6, t5, t7, t8⟩, r⟩
    refine ⟨v, L, hv, ⟨b, kb, t1, t2, t3, t4, t5, t6, ?_, t8⟩, r⟩
    rw [own_rw_11 hk e1 e2 e3, own_nw_11 hk e1 e2 e3, ← own_l0]
    exact t7
  · rw [own_rw_6 rfl e1 e2 e3, own_nw_6 rfl e1 e2 e3] at V_ro
    refine (rm_add_4d l Z a0 hw ws a1 p2 (0 : Int32) q4 rr kr ro sg ka (1 : Int64) wb (2 : Int64) wc h0 n0 Z0 F_rows V_rr E_rr V_ro g_rr hri hO hne_r (by decide) (by decide)).imp ?_
    rintro a s o s' ⟨v, L, hv, ⟨b, kb, t1, t2, t3, t4, t6, t5, t7, t8⟩, r⟩
    refine ⟨v, L, hv, ⟨b, kb, t1, t2, t3, t4, t5, t6, ?_, t8⟩, r⟩
    rw [own_rw_7 hk e1 e2 e3, own_nw_7 hk e1 e2 e3, ← own_l0]
    exact t7
  · rw [own_rw_14 rfl e1 e2 e3, own_nw_14 rfl e1 e2 e3] at V_ro
    refine (rm_add_6d l Z a0 hw ws a1 p2 (0 : Int32) q4 rr kr ro sg ka (1 : Int64) wb (2 : Int64) wc (3 : Int64) wd h0 n0 Z0 F_rows V_rr E_rr V_ro g_rr hri hO hne_r (by decide) (by decide)).imp ?_
    rintro a s o s' ⟨v, L, hv, ⟨b, kb, t1, t2, t3, t4, t6, t5, t7, t8⟩, r⟩
    refine ⟨v, L, hv, ⟨b, kb, t1, t2, t3, t4, t5, t6, ?_, t8⟩, r⟩
    rw [own_rw_15 hk e1 e2 e3, own_nw_15 hk e1 e2 e3, ← own_l0]
    exact t7
def Q_addD1 (Z : State) (a1 : Addr) (p2 : Int32) (q4 : Int64) (rr : Addr) (kr : ClassId) (ro : Addr) (sg : Addr) (ka : ClassId) (f2 : Int32) (f3 : Int32) (fk : Int32) (wa : Int64) (wb : Int64) (wc : Int64) (wd : Int64) (h0 : Heap) (n0 : Nat) (v : Option Value) (h : Heap) (L : List Loc) : Prop := ∃ (b : Addr) (kb : ClassId), v = none ∧ Fr n0 L ∧ Keep h0 h [rr] ∧ h0.size ≤ b ∧ Exa Z h rr "[[J" ∧ Arv Z h rr kr (.array .long) (2 : Int32) (own_pair p2 (.ref b) (.ref sg)) .null ∧ Arv Z h b kb .long (own_n (0 : Int32) fk f2 f3) (own_row (0 : Int32) fk f2 f3 wa q4 wc wd) (.long (0 : Int64)) ∧ Exa Z h b "[J"
theorem rm_addD1 (l : Launch) (Z : State) (a0 : Array Value) (hw : ∀ d ∈ tables_1, d.before a0 Z = true) (ws : List Jvm.Cond) (a1 : Addr) (p2 : Int32) (q4 : Int64) (rr : Addr) (kr : ClassId) (ro : Addr) (sg : Addr) (ka : ClassId) (f2 : Int32) (f3 : Int32) (fk : Int32) (wa : Int64) (wb : Int64) (wc : Int64) (wd : Int64) (h0 : Heap) (n0 : Nat) (Z0 : n0 ≤ h0.size) (F_rows : Fld Z h0 a1 "com/example/chartlight/chartlight/label/WeightRows" "_rows" "[[J" (.ref rr)) (V_rr : Arv Z h0 rr kr (.array .long) (2 : Int32) (own_pair p2 (.ref ro) (.ref sg)) .null) (E_rr : Exa Z h0 rr "[[J") (V_ro : Arv Z h0 ro ka .long (own_n (0 : Int32) (0 : Int32) f2 f3) (own_row (0 : Int32) (0 : Int32) f2 f3 wa wb wc wd) (.long (0 : Int64))) (g_rr : n0 ≤ rr) (hri : p2 = (0 : Int32) ∨ p2 = (1 : Int32)) (hO : OvrA Z kr .long "[J") (hne_r : ro ≠ rr) (hk : ¬ (fk = (0 : Int32))) :
    MetFree l (⟨"com/example/chartlight/chartlight/label/WeightRows", "add", "(IIJ)V"⟩ : MethodName) (head1 (Jvm.Cond.code (⟨"com/example/chartlight/chartlight/label/WeightRows", "add", "(IIJ)V"⟩ : MethodName) prog_58_method_7_code 9 none :: ws) ({ frames := 1, cells := 1, slots := 8, locals := 18 } : Room)) (fun a U => a = #[(.ref a1), (.int p2), (.int (1 : Int32)), (.long q4)] ∧ Z.Warmed39 U.vm ∧ U.heap = h0) (fun _ _ _ _ _ => True) (fun _ U o U' => ∃ v L, o = .returned v ∧ Q_addD1 Z a1 p2 q4 rr kr ro sg ka f2 f3 fk wa wb wc wd h0 n0 v U'.heap L ∧ FrameEnd U o U' L ({ frames := 1, cells := 1, slots := 8, locals := 18 } : Room).cells ({ frames := 1, cells := 1, slots := 8, locals := 18 } : Room).slots) := by
  by_cases e2 : f2 = (0 : Int32) <;> by_cases e3 : f3 = (0 : Int32)
  · rw [own_rw_0 rfl rfl e2 e3, own_nw_0 rfl rfl e2 e3] at V_ro
    refine (rm_add_0a l Z a0 hw ws a1 p2 (1 : Int32) q4 rr kr ro sg ka  h0 n0 Z0 F_rows V_rr E_rr V_ro g_rr hri hO hne_r).imp ?_
    rintro a s o s' ⟨v, L, hv, ⟨b, kb, t1, t2, t3, t4, t6, t5, t7, t8⟩, r⟩
    refine ⟨v, L, hv, ⟨b, kb, t1, t2, t3, t4, t5, t6, ?_, t8⟩, r⟩
    rw [own_rw_2 rfl hk e2 e3, own_nw_2 rfl hk e2 e3, ← own_l1]
    exact t7
  · rw [own_rw_8 rfl rfl e2 e3, own_nw_8 rfl rfl e2 e3] at V_ro
    refine (rm_add_2d l Z a0 hw ws a1 p2 (1 : Int32) q4 rr kr ro sg ka (3 : Int64) wd h0 n0 Z0 F_rows V_rr E_rr V_ro g_rr hri hO hne_r (by decide) (by decide)).imp ?_
    rintro a s o s' ⟨v, L, hv, ⟨b, kb, t1, t2, t3, t4, t6, t5, t7, t8⟩, r⟩
    refine ⟨v, L, hv, ⟨b, kb, t1, t2, t3, t4, t5, t6, ?_, t8⟩, r⟩
    rw [own_rw_10 rfl hk e2 e3, own_nw_10 rfl hk e2 e3, ← own_l1]
    exact t7
  · rw [own_rw_4 rfl rfl e2 e3, own_nw_4 rfl rfl e2 e3] at V_ro
    refine (rm_add_2d l Z a0 hw ws a1 p2 (1 : Int32) q4 rr kr ro sg ka (2 : Int64) wc h0 n0 Z0 F_rows V_rr E_rr V_ro g_rr hri hO hne_r (by decide) (by decide)).imp ?_
    rintro a s o s' ⟨v, L, hv, ⟨b, kb, t1, t2, t3, t4, t6, t5, t7, t8⟩, r⟩
    refine ⟨v, L, hv, ⟨b, kb, t1, t2, t3, t4, t5, t6, ?_, t8⟩, r⟩
    rw [own_rw_6 rfl hk e2 e3, own_nw_6 rfl hk e2 e3, ← own_l1]
    exact t7
  · rw [own_rw_12 rfl rfl e2 e3, own_nw_12 rfl rfl e2 e3] at V_ro
    refine (rm_add_4d l Z a0 hw ws a1 p2 (1 : Int32) q4 rr kr ro sg ka (2 : Int64) wc (3 : Int64) wd h0 n0 Z0 F_rows V_rr E_rr V_ro g_rr hri hO hne_r (by decide) (by decide)).imp ?_
    rintro a s o s' ⟨v, L, hv, ⟨b, kb, t1, t2, t3, t4, t6, t5, t7, t8⟩, r⟩
    refine ⟨v, L, hv, ⟨b, kb, t1, t2, t3, t4, t5, t6, ?_, t8⟩, r⟩
    rw [own_rw_14 rfl hk e2 e3, own_nw_14 rfl hk e2 e3, ← own_l1]
    exact t7
def Q_addD2 (Z : State) (a1 : Addr) (p2 : Int32) (q4 : Int64) (rr : Addr) (kr : ClassId) (ro : Addr) (sg : Addr) (ka : ClassId) (f3 : Int32) (fk : Int32) (wa : Int64) (wb : Int64) (wc : Int64) (wd : Int64) (h0 : Heap) (n0 : Nat) (v : Option Value) (h : Heap) (L : List Loc) : Prop := ∃ (b : Addr) (kb : ClassId), v = none ∧ Fr n0 L ∧ Keep h0 h [rr] ∧ h0.size ≤ b ∧ Exa Z h rr "[[J" ∧ Arv Z h rr kr (.array .long) (2 : Int32) (own_pair p2 (.ref b) (.ref sg)) .null ∧ Arv Z h b kb .long (own_n (0 : Int32) (0 : Int32) fk f3) (own_row (0 : Int32) (0 : Int32) fk f3 wa wb q4 wd) (.long (0 : Int64)) ∧ Exa Z h b "[J"
theorem rm_addD2 (l : Launch) (Z : State) (a0 : Array Value) (hw : ∀ d ∈ tables_1, d.before a0 Z = true) (ws : List Jvm.Cond) (a1 : Addr) (p2 : Int32) (q4 : Int64) (rr : Addr) (kr : ClassId) (ro : Addr) (sg : Addr) (ka : ClassId) (f3 : Int32) (fk : Int32) (wa : Int64) (wb : Int64) (wc : Int64) (wd : Int64) (h0 : Heap) (n0 : Nat) (Z0 : n0 ≤ h0.size) (F_rows : Fld Z h0 a1 "com/example/chartlight/chartlight/label/WeightRows" "_rows" "[[J" (.ref rr)) (V_rr : Arv Z h0 rr kr (.array .long) (2 : Int32) (own_pair p2 (.ref ro) (.ref sg)) .null) (E_rr : Exa Z h0 rr "[[J") (V_ro : Arv Z h0 ro ka .long (own_n (0 : Int32) (0 : Int32) (0 : Int32) f3) (own_row (0 : Int32) (0 : Int32) (0 : Int32) f3 wa wb wc wd) (.long (0 : Int64))) (g_rr : n0 ≤ rr) (hri : p2 = (0 : Int32) ∨ p2 = (1 : Int32)) (hO : OvrA Z kr .long "[J") (hne_r : ro ≠ rr) (hk : ¬ (fk = (0 : Int32))) :
    MetFree l (⟨"com/example/chartlight/chartlight/label/WeightRows", "add", "(IIJ)V"⟩ : MethodName) (head1 (Jvm.Cond.code (⟨"com/example/chartlight/chartlight/label/WeightRows", "add", "(IIJ)V"⟩ : MethodName) prog_58_method_7_code 9 none :: ws) ({ frames := 1, cells := 1, slots := 8, locals := 18 } : Room)) (fun a U => a = #[(.ref a1), (.int p2), (.int (2 : Int32)), (.long q4)] ∧ Z.Warmed39 U.vm ∧ U.heap = h0) (fun _ _ _ _ _ => True) (fun _ U o U' => ∃ v L, o = .returned v ∧ Q_addD2 Z a1 p2 q4 rr kr ro sg ka f3 fk wa wb wc wd h0 n0 v U'.heap L ∧ FrameEnd U o U' L ({ frames := 1, cells := 1, slots := 8, locals := 18 } : Room).cells ({ frames := 1, cells := 1, slots := 8, locals := 18 } : Room).slots) := by
  by_cases e3 : f3 = (0 : Int32)
  · rw [own_rw_0 rfl rfl rfl e3, own_nw_0 rfl rfl rfl e3] at V_ro
    refine (rm_add_0a l Z a0 hw ws a1 p2 (2 : Int32) q4 rr kr ro sg ka  h0 n0 Z0 F_rows V_rr E_rr V_ro g_rr hri hO hne_r).imp ?_
    rintro a s o s' ⟨v, L, hv, ⟨b, kb, t1, t2, t3, t4, t6, t5, t7, t8⟩, r⟩
    refine ⟨v, L, hv, ⟨b, kb, t1, t2, t3, t4, t5, t6, ?_, t8⟩, r⟩
    rw [own_rw_4 rfl rfl hk e3, own_nw_4 rfl rfl hk e3, ← own_l2]
    exact t7
  · rw [own_rw_8 rfl rfl rfl e3, own_nw_8 rfl rfl rfl e3] at V_ro
    refine (rm_add_2d l Z a0 hw ws a1 p2 (2 : Int32) q4 rr kr ro sg ka (3 : Int64) wd h0 n0 Z0 F_rows V_rr E_rr V_ro g_rr hri hO hne_r (by decide) (by decide)).imp ?_
    rintro a s o s' ⟨v, L, hv, ⟨b, kb, t1, t2, t3, t4, t6, t5, t7, t8⟩, r⟩
    refine ⟨v, L, hv, ⟨b, kb, t1, t2, t3, t4, t5, t6, ?_, t8⟩, r⟩
    rw [own_rw_12 rfl rfl hk e3, own_nw_12 rfl rfl hk e3, ← own_l2]
    exact t7
def Q_addD3 (Z : State) (a1 : Addr) (p2 : Int32) (q4 : Int64) (rr : Addr) (kr : ClassId) (ro : Addr) (sg : Addr) (ka : ClassId) (fk : Int32) (wa : Int64) (wb : Int64) (wc : Int64) (wd : Int64) (h0 : Heap) (n0 : Nat) (v : Option Value) (h : Heap) (L : List Loc) : Prop := ∃ (b : Addr) (kb : ClassId), v = none ∧ Fr n0 L ∧ Keep h0 h [rr] ∧ h0.size ≤ b ∧ Exa Z h rr "[[J" ∧ Arv Z h rr kr (.array .long) (2 : Int32) (own_pair p2 (.ref b) (.ref sg)) .null ∧ Arv Z h b kb .long (own_n (0 : Int32) (0 : Int32) (0 : Int32) fk) (own_row (0 : Int32) (0 : Int32) (0 : Int32) fk wa wb wc q4) (.long (0 : Int64)) ∧ Exa Z h b "[J"
theorem rm_addD3 (l : Launch) (Z : State) (a0 : Array Value) (hw : ∀ d ∈ tables_1, d.before a0 Z = true) (ws : List Jvm.Cond) (a1 : Addr) (p2 : Int32) (q4 : Int64) (rr : Addr) (kr : ClassId) (ro : Addr) (sg : Addr) (ka : ClassId) (fk : Int32) (wa : Int64) (wb : Int64) (wc : Int64) (wd : Int64) (h0 : Heap) (n0 : Nat) (Z0 : n0 ≤ h0.size) (F_rows : Fld Z h0 a1 "com/example/chartlight/chartlight/label/WeightRows" "_rows" "[[J" (.ref rr)) (V_rr : Arv Z h0 rr kr (.array .long) (2 : Int32) (own_pair p2 (.ref ro) (.ref sg)) .null) (E_rr : Exa Z h0 rr "[[J") (V_ro : Arv Z h0 ro ka .long (own_n (0 : Int32) (0 : Int32) (0 : Int32) (0 : Int32)) (own_row (0 : Int32) (0 : Int32) (0 : Int32) (0 : Int32) wa wb wc wd) (.long (0 : Int64))) (g_rr : n0 ≤ rr) (hri : p2 = (0 : Int32) ∨ p2 = (1 : Int32)) (hO : OvrA Z kr .long "[J") (hne_r : ro ≠ rr) (hk : ¬ (fk = (0 : Int32))) :
    MetFree l (⟨"com/example/chartlight/chartlight/label/WeightRows", "add", "(IIJ)V"⟩ : MethodName) (head1 (Jvm.Cond.code (⟨"com/example/chartlight/chartlight/label/WeightRows", "add", "(IIJ)V"⟩ : MethodName) prog_58_method_7_code 9 none :: ws) ({ frames := 1, cells := 1, slots := 8, locals := 18 } : Room)) (fun a U => a = #[(.ref a1), (.int p2), (.int (3 : Int32)), (.long q4)] ∧ Z.Warmed39 U.vm ∧ U.heap = h0) (fun _ _ _ _ _ => True) (fun _ U o U' => ∃ v L, o = .returned v ∧ Q_addD3 Z a1 p2 q4 rr kr ro sg ka fk wa wb wc wd h0 n0 v U'.heap L ∧ FrameEnd U o U' L ({ frames := 1, cells := 1, slots := 8, locals := 18 } : Room).cells ({ frames := 1, cells := 1, slots := 8, locals := 18 } : Room).slots) := by
  · rw [own_rw_0 rfl rfl rfl rfl, own_nw_0 rfl rfl rfl rfl] at V_ro
    refine (rm_add_0a l Z a0 hw ws a1 p2 (3 : Int32) q4 rr kr ro sg ka  h0 n0 Z0 F_rows V_rr E_rr V_ro g_rr hri hO hne_r).imp ?_
    rintro a s o s' ⟨v, L, hv, ⟨b, kb, t1, t2, t3, t4, t6, t5, t7, t8⟩, r⟩
    refine ⟨v, L, hv, ⟨b, kb, t1, t2, t3, t4, t5, t6, ?_, t8⟩, r⟩
    rw [own_rw_8 rfl rfl rfl hk, own_nw_8 rfl rfl rfl hk, ← own_l3]
    exact t7
def Q_addo (Z : State) (a1 : Addr) (p2 : Int32) (p3 : Int32) (q4 : Int64) (rr : Addr) (kr : ClassId) (ro : Addr) (sg : Addr) (ka : ClassId) (rv : Int32) (h0 : Heap) (n0 : Nat) (v : Option Value) (h : Heap) (L : List Loc) : Prop := ∃ (b : Addr), v = none ∧ Fr n0 L ∧ Keep h0 h [rr] ∧ h0.size ≤ b ∧ Exa Z h rr "[[J" ∧ Arv Z h rr kr (.array .long) (2 : Int32) (own_pair rv (.ref ro) (.ref b)) .null ∧ Exa Z h b "[J"
theorem rm_addo (l : Launch) (Z : State) (a0 : Array Value) (hw : ∀ d ∈ tables_1, d.before a0 Z = true) (ws : List Jvm.Cond) (a1 : Addr) (p2 : Int32) (p3 : Int32) (q4 : Int64) (rr : Addr) (kr : ClassId) (ro : Addr) (sg : Addr) (ka : ClassId) (rv : Int32) (h0 : Heap) (n0 : Nat) (Z0 : n0 ≤ h0.size) (F_rows : Fld Z h0 a1 "com/example/chartlight/chartlight/label/WeightRows" "_rows" "[[J" (.ref rr)) (V_rr : Arv Z h0 rr kr (.array .long) (2 : Int32) (own_pair rv (.ref ro) (.ref sg)) .null) (E_rr : Exa Z h0 rr "[[J") (V_sg : Arv Z h0 sg ka .long (0 : Int32) [] (.long (0 : Int64))) (g_rr : n0 ≤ rr) (hrv : rv = (0 : Int32) ∨ rv = (1 : Int32)) (hi : p2 = ((1 : Int32) - rv)) (hO : OvrA Z kr .long "[J") (hne_r : sg ≠ rr) :
    MetFree l (⟨"com/example/chartlight/chartlight/label/WeightRows", "add", "(IIJ)V"⟩ : MethodName) (head1 (Jvm.Cond.code (⟨"com/example/chartlight/chartlight/label/WeightRows", "add", "(IIJ)V"⟩ : MethodName) prog_58_method_7_code 9 none :: ws) ({ frames := 1, cells := 1, slots := 8, locals := 18 } : Room)) (fun a U => a = #[(.ref a1), (.int p2), (.int p3), (.long q4)] ∧ Z.Warmed39 U.vm ∧ U.heap = h0) (fun _ _ _ _ _ => True) (fun _ U o U' => ∃ v L, o = .returned v ∧ Q_addo Z a1 p2 p3 q4 rr kr ro sg ka rv h0 n0 v U'.heap L ∧ FrameEnd U o U' L ({ frames := 1, cells := 1, slots := 8, locals := 18 } : Room).cells ({ frames := 1, cells := 1, slots := 8, locals := 18 } : Room).slots) := by
  subst hi
  rw [own_pair_swap hrv] at V_rr
  refine (rm_add_0a l Z a0 hw ws a1 ((1 : Int32) - rv) p3 q4 rr kr sg ro ka h0 n0 Z0 F_rows V_rr E_rr V_sg g_rr (own_other hrv) hO hne_r).imp ?_
  rintro a s o s' ⟨v, L, hv, ⟨b, kb, t1, t2, t3, t4, t6, t5, t7, t8⟩, r⟩
  refine ⟨v, L, hv, ⟨b, t1, t2, t3, t4, t5, ?_, t8⟩, r⟩
  rw [own_pair_swap hrv]
  exact t6
def own_dd (f : Int32) (e : UInt64) (w : Int64) : UInt64 := if f = (0 : Int32) then e else FP.dadd e (FP.l2d w)
def Q_addTo (Z : State) (a1 : Addr) (p2 : Int32) (a3 : Addr) (rr : Addr) (kr : ClassId) (ro : Addr) (sg : Addr) (ka : ClassId) (f0 : Int32) (f1 : Int32) (f2 : Int32) (f3 : Int32) (qa : Int64) (qb : Int64) (qc : Int64) (qd : Int64) (kd : ClassId) (ed0 : UInt64) (ed1 : UInt64) (ed2 : UInt64) (ed3 : UInt64) (h0 : Heap) (n0 : Nat) (v : Option Value) (h : Heap) (L : List Loc) : Prop := v = none ∧ Fr n0 L ∧ Keep h0 h [a3] ∧ Arv Z h a3 kd .double (4 : Int32) [(.double (own_dd f0 ed0 qa)), (.double (own_dd f1 ed1 qb)), (.double (own_dd f2 ed2 qc)), (.double (own_dd f3 ed3 qd))] (.double (0 : UInt64))
theorem rm_addTo (l : Launch) (Z : State) (a0 : Array Value) (hw : ∀ d ∈ tables_1, d.before a0 Z = true) (ws : List Jvm.Cond) (a1 : Addr) (p2 : Int32) (a3 : Addr) (rr : Addr) (kr : ClassId) (ro : Addr) (sg : Addr) (ka : ClassId) (f0 : Int32) (f1 : Int32) (f2 : Int32) (f3 : Int32) (qa : Int64) (qb : Int64) (qc : Int64) (qd : Int64) (kd : ClassId) (ed0 : UInt64) (ed1 : UInt64) (ed2 : UInt64) (ed3 : UInt64) (h0 : Heap) (n0 : Nat) (Z0 : n0 ≤ h0.size) (F_rows : Fld Z h0 a1 "com/example/chartlight/chartlight/label/WeightRows" "_rows" "[[J" (.ref rr)) (V_rr : Arv Z h0 rr kr (.array .long) (2 : Int32) (own_pair p2 (.ref ro) (.ref sg)) .null) (V_ro : Arv Z h0 ro ka .long (own_n f0 f1 f2 f3) (own_row f0 f1 f2 f3 qa qb qc qd) (.long (0 : Int64))) (V_a3 : Arv Z h0 a3 kd .double (4 : Int32) [(.double ed0), (.double ed1), (.double ed2), (.double ed3)] (.double (0 : UInt64))) (g_a3 : n0 ≤ a3) (hri : p2 = (0 : Int32) ∨ p2 = (1 : Int32)) (hne_s : ro ≠ a3) (hn0 : FP.dadd ed0 (FP.l2d qa) &&& 0x7fffffffffffffff ≤ 0x7ff0000000000000) (hn1 : FP.dadd ed1 (FP.l2d qb) &&& 0x7fffffffffffffff ≤ 0x7ff0000000000000) (hn2 : FP.dadd ed2 (FP.l2d qc) &&& 0x7fffffffffffffff ≤ 0x7ff0000000000000) (hn3 : FP.dadd ed3 (FP.l2d qd) &&& 0x7fffffffffffffff ≤ 0x7ff0000000000000) :
    MetFree l (⟨"com/example/chartlight/chartlight/label/WeightRows", "addTo", "(I[D)V"⟩ : MethodName) (head1 (Jvm.Cond.code (⟨"com/example/chartlight/chartlight/label/WeightRows", "addTo", "(I[D)V"⟩ : MethodName) prog_58_method_8_code 5 none :: ws) ({ frames := 0, cells := 0, slots := 0, locals := 0 } : Room)) (fun a U => a = #[(.ref a1), (.int p2), (.ref a3)] ∧ Z.Warmed39 U.vm ∧ U.heap = h0) (fun _ _ _ _ _ => True) (fun _ U o U' => ∃ v L, o = .returned v ∧ Q_addTo Z a1 p2 a3 rr kr ro sg ka f0 f1 f2 f3 qa qb qc qd kd ed0 ed1 ed2 ed3 h0 n0 v U'.heap L ∧ FrameEnd U o U' L ({ frames := 0, cells := 0, slots := 0, locals := 0 } : Room).cells ({ frames := 0, cells := 0, slots := 0, locals := 0 } : Room).slots) := by
  by_cases z0 : f0 = (0 : Int32) <;> by_cases z1 : f1 = (0 : Int32) <;> by_cases z2 : f2 = (0 : Int32) <;> by_cases z3 : f3 = (0 : Int32)
  · rw [own_rw_0 z0 z1 z2 z3, own_nw_0 z0 z1 z2 z3] at V_ro
    refine (rm_ato_0 l Z a0 hw ws a1 p2 a3 rr kr ro sg ka qa qb qc qd kd ed0 ed1 ed2 ed3 h0 n0 Z0 F_rows V_rr V_ro V_a3 hri hne_s).imp ?_
    rintro a s o s' ⟨v, L, hv, ⟨t1, t2, t3⟩, r⟩
    subst t2
    refine ⟨v, [], hv, ⟨t1, Fr.nil n0, ?_, ?_⟩, r⟩
    · rw [t3]; exact Keep.refl h0 [a3]
    · rw [t3]; simp only [own_dd, z0, z1, z2, z3, if_true]; exact V_a3
  · rw [own_rw_8 z0 z1 z2 z3, own_nw_8 z0 z1 z2 z3] at V_ro
    refine (rm_ato_8 l Z a0 hw ws a1 p2 a3 rr kr ro sg ka qa qb qc qd kd ed0 ed1 ed2 ed3 h0 n0 Z0 F_rows V_rr V_ro V_a3 g_a3 hri hne_s hn3).imp ?_
    rintro a s o s' ⟨v, L, hv, ⟨t1, t2, t3, t4⟩, r⟩
    refine ⟨v, L, hv, ⟨t1, t2, t3, ?_⟩, r⟩
    simp only [own_dd, if_pos, if_neg, not_false_eq_true, z0, z1, z2, z3, if_true, if_false]
    exact t4
  · rw [own_rw_4 z0 z1 z2 z3, own_nw_4 z0 z1 z2 z3] at V_ro
    refine (rm_ato_4 l Z a0 hw ws a1 p2 a3 rr kr ro sg ka qa qb qc qd kd ed0 ed1 ed2 ed3 h0 n0 Z0 F_rows V_rr V_ro V_a3 g_a3 hri hne_s hn2).imp ?_
    rintro a s o s' ⟨v, L, hv, ⟨t1, t2, t3, t4⟩, r⟩
    refine ⟨v, L, hv, ⟨t1, t2, t3, ?_⟩, r⟩
    simp only [own_dd, if_pos, if_neg, not_false_eq_true, z0, z1, z2, z3, if_true, if_false]
    exact t4
  · rw [own_rw_12 z0 z1 z2 z3, own_nw_12 z0 z1 z2 z3] at V_ro
    refine (rm_ato_12 l Z a0 hw ws a1 p2 a3 rr kr ro sg ka qa qb qc qd kd ed0 ed1 ed2 ed3 h0 n0 Z0 F_rows V_rr V_ro V_a3 g_a3 hri hne_s hn2 hn3).imp ?_
    rintro a s o s' ⟨v, L, hv, ⟨t1, t2, t3, t4⟩, r⟩
    refine ⟨v, L, hv, ⟨t1, t2, t3, ?_⟩, r⟩
    simp only [own_dd, if_pos, if_neg, not_false_eq_true, z0, z1, z2, z3, if_true, if_false]
    exact t4
  · rw [own_rw_2 z0 z1 z2 z3, own_nw_2 z0 z1 z2 z3] at V_ro
    refine (rm_ato_2 l Z a0 hw ws a1 p2 a3 rr kr ro sg ka qa qb qc qd kd ed0 ed1 ed2 ed3 h0 n0 Z0 F_rows V_rr V_ro V_a3 g_a3 hri hne_s hn1).imp ?_
    rintro a s o s' ⟨v, L, hv, ⟨t1, t2, t3, t4⟩, r⟩
    refine ⟨v, L, hv, ⟨t1, t2, t3, ?_⟩, r⟩
    simp only [own_dd, if_pos, if_neg, not_false_eq_true, z0, z1, z2, z3, if_true, if_false]
    exact t4
  · rw [own_rw_10 z0 z1 z2 z3, own_nw_10 z0 z1 z2 z3] at V_ro
    refine (rm_ato_10 l Z a0 hw ws a1 p2 a3 rr kr ro sg ka qa qb qc qd kd ed0 ed1 ed2 ed3 h0 n0 Z0 F_rows V_rr V_ro V_a3 g_a3 hri hne_s hn1 hn3).imp ?_
    rintro a s o s' ⟨v, L, hv, ⟨t1, t2, t3, t4⟩, r⟩
    refine ⟨v, L, hv, ⟨t1, t2, t3, ?_⟩, r⟩
    simp only [own_dd, if_pos, if_neg, not_false_eq_true, z0, z1, z2, z3, if_true, if_false]
    exact t4
  · rw [own_rw_6 z0 z1 z2 z3, own_nw_6 z0 z1 z2 z3] at V_ro
    refine (rm_ato_6 l Z a0 hw ws a1 p2 a3 rr kr ro sg ka qa qb qc qd kd ed0 ed1 ed2 ed3 h0 n0 Z0 F_rows V_rr V_ro V_a3 g_a3 hri hne_s hn1 hn2).imp ?_
    rintro a s o s' ⟨v, L, hv, ⟨t1, t2, t3, t4⟩, r⟩
    refine ⟨v, L, hv, ⟨t1, t2, t3, ?_⟩, r⟩
    simp only [own_dd, if_pos, if_neg, not_false_eq_true, z0, z1, z2, z3, if_true, if_false]
    exact t4
  · rw [own_rw_14 z0 z1 z2 z3, own_nw_14 z0 z1 z2 z3] at V_ro
    refine (rm_ato_14 l Z a0 hw ws a1 p2 a3 rr kr ro sg ka qa qb qc qd kd ed0 ed1 ed2 ed3 h0 n0 Z0 F_rows V_rr V_ro V_a3 g_a3 hri hne_s hn1 hn2 hn3).imp ?_
    rintro a s o s' ⟨v, L, hv, ⟨t1, t2, t3, t4⟩, r⟩
    refine ⟨v, L, hv, ⟨t1, t2, t3, ?_⟩, r⟩
    simp only [own_dd, if_pos, if_neg, not_false_eq_true, z0, z1, z2, z3, if_true, if_false]
    exact t4
  · rw [own_rw_1 z0 z1 z2 z3, own_nw_1 z0 z1 z2 z3] at V_ro
    refine (rm_ato_1 l Z a0 hw ws a1 p2 a3 rr kr ro sg ka qa qb qc qd kd ed0 ed1 ed2 ed3 h0 n0 Z0 F_rows V_rr V_ro V_a3 g_a3 hri hne_s hn0).imp ?_
    rintro a s o s' ⟨v, L, hv, ⟨t1, t2, t3, t4⟩, r⟩
    refine ⟨v, L, hv, ⟨t1, t2, t3, ?_⟩, r⟩
    simp only [own_dd, if_pos, if_neg, not_false_eq_true, z0, z1, z2, z3, if_true, if_false]
    exact t4
  · rw [own_rw_9 z0 z1 z2 z3, own_nw_9 z0 z1 z2 z3] at V_ro
    refine (rm_ato_9 l Z a0 hw ws a1 p2 a3 rr kr ro sg ka qa qb qc qd kd ed0 ed1 ed2 ed3 h0 n0 Z0 F_rows V_rr V_ro V_a3 g_a3 hri hne_s hn0 hn3).imp ?_
    rintro a s o s' ⟨v, L, hv, ⟨t1, t2, t3, t4⟩, r⟩
    refine ⟨v, L, hv, ⟨t1, t2, t3, ?_⟩, r⟩
    simp only [own_dd, if_pos, if_neg, not_false_eq_true, z0, z1, z2, z3, if_true, if_false]
    exact t4
  · rw [own_rw_5 z0 z1 z2 z3, own_nw_5 z0 z1 z2 z3] at V_ro
    refine (rm_ato_5 l Z a0 hw ws a1 p2 a3 rr kr ro sg ka qa qb qc qd kd ed0 ed1 ed2 ed3 h0 n0 Z0 F_rows V_rr V_ro V_a3 g_a3 hri hne_s hn0 hn2).imp ?_
    rintro a s o s' ⟨v, L, hv, ⟨t1, t2, t3, t4⟩, r⟩
    refine ⟨v, L, hv, ⟨t1, t2, t3, ?_⟩, r⟩
    simp only [own_dd, if_pos, if_neg, not_false_eq_true, z0, z1, z2, z3, if_true, if_false]
    exact t4
  · rw [own_rw_13 z0 z1 z2 z3, own_nw_13 z0 z1 z2 z3] at V_ro
    refine (rm_ato_13 l Z a0 hw ws a1 p2 a3 rr kr ro sg ka qa qb qc qd kd ed0 ed1 ed2 ed3 h0 n0 Z0 F_rows V_rr V_ro V_a3 g_a3 hri hne_s hn0 hn2 hn3).imp ?_
    rintro a s o s' ⟨v, L, hv, ⟨t1, t2, t3, t4⟩, r⟩
    refine ⟨v, L, hv, ⟨t1, t2, t3, ?_⟩, r⟩
    simp only [own_dd, if_pos, if_neg, not_false_eq_true, z0, z1, z2, z3, if_true, if_false]
    exact t4
  · rw [own_rw_3 z0 z1 z2 z3, own_nw_3 z0 z1 z2 z3] at V_ro
    refine (rm_ato_3 l Z a0 hw ws a1 p2 a3 rr kr ro sg ka qa qb qc qd kd ed0 ed1 ed2 ed3 h0 n0 Z0 F_rows V_rr V_ro V_a3 g_a3 hri hne_s hn0 hn1).imp ?_
    rintro a s o s' ⟨v, L, hv, ⟨t1, t2, t3, t4⟩, r⟩
    refine ⟨v, L, hv, ⟨t1, t2, t3, ?_⟩, r⟩
    simp only [own_dd, if_pos, if_neg, not_false_eq_true, z0, z1, z2, z3, if_true, if_false]
    exact t4
  · rw [own_rw_11 z0 z1 z2 z3, own_nw_11 z0 z1 z2 z3] at V_ro
    refine (rm_ato_11 l Z a0 hw ws a1 p2 a3 rr kr ro sg ka qa qb qc qd kd ed0 ed1 ed2 ed3 h0 n0 Z0 F_rows V_rr V_ro V_a3 g_a3 hri hne_s hn0 hn1 hn3).imp ?_
    rintro a s o s' ⟨v, L, hv, ⟨t1, t2, t3, t4⟩, r⟩
    refine ⟨v, L, hv, ⟨t1, t2, t3, ?_⟩, r⟩
    simp only [own_dd, if_pos, if_neg, not_false_eq_true, z0, z1, z2, z3, if_true, if_false]
    exact t4
  · rw [own_rw_7 z0 z1 z2 z3, own_nw_7 z0 z1 z2 z3] at V_ro
    refine (rm_ato_7 l Z a0 hw ws a1 p2 a3 rr kr ro sg ka qa qb qc qd kd ed0 ed1 ed2 ed3 h0 n0 Z0 F_rows V_rr V_ro V_a3 g_a3 hri hne_s hn0 hn1 hn2).imp ?_
    rintro a s o s' ⟨v, L, hv, ⟨t1, t2, t3, t4⟩, r⟩
    refine ⟨v, L, hv, ⟨t1, t2, t3, ?_⟩, r⟩
    simp only [own_dd, if_pos, if_neg, not_false_eq_true, z0, z1, z2, z3, if_true, if_false]
    exact t4
  · rw [own_rw_15 z0 z1 z2 z3, own_nw_15 z0 z1 z2 z3] at V_ro
    refine (rm_ato_15 l Z a0 hw ws a1 p2 a3 rr kr ro sg ka qa qb qc qd kd ed0 ed1 ed2 ed3 h0 n0 Z0 F_rows V_rr V_ro V_a3 g_a3 hri hne_s hn0 hn1 hn2 hn3).imp ?_
    rintro a s o s' ⟨v, L, hv, ⟨t1, t2, t3, t4⟩, r⟩
    refine ⟨v, L, hv, ⟨t1, t2, t3, ?_⟩, r⟩
    simp only [own_dd, if_pos, if_neg, not_false_eq_true, z0, z1, z2, z3, if_true, if_false]
    exact t4
theorem own_nn (x : Int32) (w : Int64) : FP.Core.val64 (FP.Core.dadd (FP.Core.i2d x) (FP.Core.l2d w)) ≠ .nan := by
  obtain ⟨s, c, q, h⟩ := FP.Core.i2d_fin x
  obtain ⟨s', c', q', h'⟩ := FP.Core.l2d_fin w
  rw [FP.Core.val64_dadd, h, h']
  exact FP.Core.roundRatio_ne_nan _ _ _ _ _
theorem own_num {a : UInt64} (h : FP.Core.val64 a ≠ .nan) : a &&& 0x7fffffffffffffff ≤ 0x7ff0000000000000 := by
  have h1 := (FP.Core.ne_nan a).mp h
  rw [UInt64.le_iff_toNat_le, UInt64.toNat_and]
  have e1 : (0x7fffffffffffffff : UInt64).toNat = 2 ^ 63 - 1 := by decide
  have e2 : (0x7ff0000000000000 : UInt64).toNat = 9218868437227405312 := by decide
  rw [e1, e2, Nat.and_two_pow_sub_one_eq_mod]
  exact h1
theorem own_ok (x : Int32) (w : Int64) : FP.dadd (FP.i2d x) (FP.l2d w) &&& 0x7fffffffffffffff ≤ 0x7ff0000000000000 := own_num (own_nn x w)
theorem own_same (p : Int32) (i f : Int32) (w : Int64) : (cmpValue (FP.dcmp (own_dd f (FP.i2d ((p >>> (((8 : Int32) * i) &&& 31)).toInt8.toInt32)) w) (res8 p i f w)) .l) = (0 : Int32) := by
  have e : ∀ x : UInt64, FP.Core.val64 x ≠ .nan → cmpValue (FP.dcmp x x) .l = (0 : Int32) := fun x h => by
    show cmpValue (FP.Core.dcmp x x) .l = 0
    rw [FP.Core.dcmp_self h]; rfl
  unfold own_dd res8
  split
  · exact e _ (FP.Core.i2d_fin _).ne_nan
  · exact e _ (own_nn _ _)
theorem own_rv (x : Int32) : (x &&& (1 : Int32)) = (0 : Int32) ∨ (x &&& (1 : Int32)) = (1 : Int32) := by
  have e : (x &&& (1 : Int32)).toInt = x.toInt % (2 ^ 1 : Nat) := c_mask x _ 1 (by decide) (by decide)
  have e0 : (0 : Int32).toInt = 0 := by decide
  have e1 : (1 : Int32).toInt = 1 := by decide
  rcases (show (x &&& (1 : Int32)).toInt = 0 ∨ (x &&& (1 : Int32)).toInt = 1 by omega) with h | h
  · exact Or.inl (Int32.toInt_inj.mp (by rw [h, e0]))
  · exact Or.inr (Int32.toInt_inj.mp (by rw [h, e1]))
def mg0_18_s0 (p5 : Int32) : Int32 := if (p5 &&& (1 : Int32)) = (0 : Int32) then (0 : Int32) else (1 : Int32)
def mg0_32_s0 (p5 : Int32) : Int32 := if (p5 &&& (2 : Int32)) = (0 : Int32) then (0 : Int32) else (1 : Int32)
def mg0_46_s0 (p5 : Int32) : Int32 := if (p5 &&& (4 : Int32)) = (0 : Int32) then (0 : Int32) else (1 : Int32)
def mg0_61_s0 (p5 : Int32) : Int32 := if (p5 &&& (8 : Int32)) = (0 : Int32) then (0 : Int32) else (1 : Int32)
def mg0_85_s0 (p5 : Int32) : Int32 := if (p5 &&& (128 : Int32)) = (0 : Int32) then (0 : Int32) else (1 : Int32)
def mg0_101_s0 (p5 : Int32) : Int32 := if (p5 &&& (256 : Int32)) = (0 : Int32) then (0 : Int32) else (1 : Int32)
theorem pd3 : parseMethodDescriptor "(I[D)V" = some ⟨[.int, (.array .double)], none⟩ := by decide +kernel
theorem pd4 : parseMethodDescriptor "(IIZJ)D" = some ⟨[.int, .int, .boolean, .long], some .double⟩ := by decide +kernel
theorem pd5 : parseMethodDescriptor "(IIJ)V" = some ⟨[.int, .int, .long], none⟩ := by decide +kernel
theorem pd6 : parseMethodDescriptor "(I)V" = some ⟨[.int], none⟩ := by decide +kernel
theorem ef0 (m : MethodId) (q1 : Int64) (q2 : Int64) (q3 : Int64) (q4 : Int64) (p5 : Int32) (p6 : Int32) : entryFrame m #[(.long q1), (.long q2), (.long q3), (.long q4), (.int p5), (.int p6)] maxLocals = (mkF m 0 #[.val (.long q1), .second, .val (.long q2), .second, .val (.long q3), .second, .val (.long q4), .second, .val (.int p5), .val (.int p6), .unset, .unset, .unset, .unset, .unset, .unset, .unset, .unset, .unset, .unset, .unset] []) := by first | (simp [entryFrame, mkF, argsToLocals, Value.category, maxLocals]; done) | rfl
def Q0 (Z : State) (q1 : Int64) (q2 : Int64) (q3 : Int64) (q4 : Int64) (p5 : Int32) (p6 : Int32) (w_NONE : Addr) (kN : ClassId) (h0 : Heap) (n0 : Nat) (v : Option Value) (h : Heap) (L : List Loc) : Prop := v = some (.int (1 : Int32)) ∧ Fr n0 L
set_option maxRecDepth 65536 in
set_option maxHeartbeats 40000000 in
theorem rm0 (l : Launch) (Z : State) (a0 : Array Value) (hw : ∀ d ∈ tables_1, d.before a0 Z = true) (ws : List Jvm.Cond) (q1 : Int64) (q2 : Int64) (q3 : Int64) (q4 : Int64) (p5 : Int32) (p6 : Int32) (w_NONE : Addr) (kN : ClassId) (h0 : Heap) (n0 : Nat) (Z0 : n0 ≤ h0.size) (S_NONE : Sta Z h0 "com/example/chartlight/chartlight/label/WeightRows" "NONE" "[J" (.ref w_NONE)) (E_w_NONE : Exa Z h0 w_NONE "[J") (V_w_NONE : Arv Z h0 w_NONE kN .long (0 : Int32) [] (.long (0 : Int64))) :
    MetFree l x (head1 (Jvm.Cond.code x code maxLocals ret :: ws) room_1) (fun a U => a = #[(.long q1), (.long q2), (.long q3), (.long q4), (.int p5), (.int p6)] ∧ Z.Warmed39 U.vm ∧ U.heap = h0) (fun _ _ _ _ _ => True) (fun _ U o U' => ∃ v L, o = .returned v ∧ Q0 Z q1 q2 q3 q4 p5 p6 w_NONE kN h0 n0 v U'.heap L ∧ FrameEnd U o U' L room_1.cells room_1.slots) := by
  refine MetFree.of_bodySF (plainFor_of_name pn2) hisR ?_
  intro p e s m args below meth c s₁ Bd hml0 hP hK
  obtain ⟨rfl, hZ, hh⟩ := hP
  have hx := Bd.exec
  have hby := Bd.bytes
  have hml : c.maxLocals = 21 := hml0
  have hown : s.vm.findClass "com/example/chartlight/chartlight/label/WeightRowsAddToPinLaw" = some m.cls := findClass_of_methodNamed Bd.named
  have hnm := (name_of_methodNamed Bd.named Bd.method).1
  have X0 : Stand p l e room_1 s m #[(.long q1), (.long q2), (.long q3), (.long q4), (.int p5), (.int p6)] below meth c s₁ [] 0 0 := Stand.of_body Bd
  have e0 : s₁.heap = h0 := by rw [← hh, Bd.state]; rfl
  have N0 := Fr.nil n0
  have pre0 : ∀ t, Steps p.tables e below (s₁.setTop (mkF m 0 #[.val (.long q1), .second, .val (.long q2), .second, .val (.long q3), .second, .val (.long q4), .second, .val (.int p5), .val (.int p6), .unset, .unset, .unset, .unset, .unset, .unset, .unset, .unset, .unset, .unset, .unset] [])) t → Steps p.tables e below (s₁.setTop (entryFrame m #[(.long q1), (.long q2), (.long q3), (.long q4), (.int p5), (.int p6)] maxLocals)) t := fun t k => castTop (ef0 m q1 q2 q3 q4 p5 p6) k
  refine own_cut (Q := fun G => ∀ (Tq261 : State) (locsq261 : List Loc) (Xq261 : Stand p l e room_1 s m #[(.long q1), (.long q2), (.long q3), (.long q4), (.int p5), (.int p6)] below meth c Tq261 locsq261 7 44) (Hq261 : Heap) (eq261 : Tq261.heap = Hq261) (Nq261 : Fr n0 locsq261) (Kq261 : Keep h0 Hq261 []) (rv : Int32) (ov : Int32) (h0_ : Int32) (h1_ : Int32) (h2_ : Int32) (h3_ : Int32) (ol : Int32) (ho : Int32) (rev : Int32) (bw : Addr) (rr : Addr) (kr : ClassId) (ro : Addr) (ka : ClassId) (sg : Addr) (preq261 : ∀ t, Steps p.tables e below (Tq261.setTop (mkF m 261 #[.val (.long q1), .second, .val (.long q2), .second, .val (.long q3), .second, .val (.long q4), .second, .val (.int p5), .val (.int p6), .val (.int rv), .val (.int ov), .val (.int h0_), .val (.int h1_), .val (.int h2_), .val (.int h3_), .val (.int ol), .val (.int ho), .val (.int rev), .val (.ref bw), .unset] [])) t → Steps p.tables e below (s₁.setTop (entryFrame m #[(.long q1), (.long q2), (.long q3), (.long q4), (.int p5), (.int p6)] maxLocals)) t) (E_bw : Exa Z Hq261 bw "com/example/chartlight/chartlight/label/WeightRows") (F_bw : Fld Z Hq261 bw "com/example/chartlight/chartlight/label/WeightRows" "_rows" "[[J" (.ref rr)) (V_rr : Arv Z Hq261 rr kr (.array .long) (2 : Int32) (own_pair rv (.ref ro) (.ref sg)) .null) (V_ro : Arv Z Hq261 ro ka .long (own_n h0_ h1_ h2_ h3_) (own_row h0_ h1_ h2_ h3_ q1 q2 q3 q4) (.long (0 : Int64))) (r_rv : rv = (0 : Int32) ∨ rv = (1 : Int32)), G) ?_ ?_
  · intro Tq261 locsq261 Xq261 Hq261 eq261 Nq261 Kq261 rv ov h0_ h1_ h2_ h3_ ol ho rev bw rr kr ro ka sg preq261 E_bw F_bw V_rr V_ro r_rv
    obtain ⟨T1, h1, k1, X1, e1, E1, A1, st1⟩ := newP Xq261 hx hZ (hw _ (List.mem_of_getElem? (i := 35) rfl)) eq261 (g := (mkF m 262 #[.val (.long q1), .second, .val (.long q2), .second, .val (.long q3), .second, .val (.long q4), .second, .val (.int p5), .val (.int p6), .val (.int rv), .val (.int ov), .val (.int h0_), .val (.int h1_), .val (.int h2_), .val (.int h3_), .val (.int ol), .val (.int ho), .val (.int rev), .val (.ref bw), .unset] [(.int (4 : Int32))])) rfl (hb hby at_262) rfl (by decide) (cap := 4) (by decide) (by decide) (by decide) (by decide)
    obtain ⟨b1, g1⟩ : ∃ z, z = Hq261.size := ⟨_, rfl⟩
    rw [← g1] at A1 st1
    have sz_b1 : h0.size ≤ b1 := Nat.le_trans Kq261.1 (Nat.le_of_eq g1.symm)
    have g_b1 : n0 ≤ b1 := Nat.le_trans Z0 sz_b1
    have K1 : Keep h0 h1 [] := Kq261.ext E1
    have V_b1 : Arv Z h1 b1 k1 .double (4 : Int32) [(.double (0 : UInt64)), (.double (0 : UInt64)), (.double (0 : UInt64)), (.double (0 : UInt64))] (.double (0 : UInt64)) := (Arv.new A1 (by decide)).pad (pad_rep [] (.double (0 : UInt64)) 4)
    obtain ⟨_, _, ⟨T2, L2, k2, n2⟩, -, X2, ⟨Lc2, hQ2, l2, y2, z2⟩, st2⟩ := Jvm.LawKit.callS X1 hx (y := (⟨"com/example/chartlight/chartlight/label/WeightRowsAddToPinLaw", "base", "(II)D"⟩ : MethodName)) hown (mvT hZ (hw _ (List.mem_of_getElem? (i := 36) rfl))) (mvT hZ (hw _ (List.mem_of_getElem? (i := 37) rfl))) (mvT hZ (hw _ (List.mem_of_getElem? (i := 38) rfl))) (mvT hZ (hw _ (List.mem_of_getElem? (i := 39) rfl))) (by decide) (backOf (W := 2) (rm6 l Z a0 hw [] p6 (0 : Int32)  h1 n0 (Nat.le_trans Z0 K1.1)  ) hZ (hw _ (List.mem_of_getElem? (i := 39) rfl)) (hw _ (List.mem_of_getElem? (i := 38) rfl)) (by decide) (by decide)) (g := (mkF m 272 #[.val (.long q1), .second, .val (.long q2), .second, .val (.long q3), .second, .val (.long q4), .second, .val (.int p5), .val (.int p6), .val (.int rv), .val (.int ov), .val (.int h0_), .val (.int h1_), .val (.int h2_), .val (.int h3_), .val (.int ol), .val (.int ho), .val (.int rev), .val (.ref bw), .val (.ref b1)] [(.int (0 : Int32)), (.int p6), (.int (0 : Int32)), (.ref b1)])) rfl (by rw [hml]; rfl) (argsL := [(.int p6), (.int (0 : Int32))]) (rest := [(.int (0 : Int32)), (.ref b1)]) (lenOf pd2 rfl) rfl (by show 2 * 0 + _ ≤ _; exact Nat.le_of_eq rfl) (hb hby at_272) (fun _ _ => ⟨rfl, e1, (by decide : 8 + 0 ≤ _), (by decide : 48 + 0 ≤ _)⟩)
    dsimp only [Pt.U, Pt.locs, Pt.cells, Pt.slots] at X2 l2 y2 z2 st2 hQ2
    subst l2 y2 z2
    obtain ⟨rfl, rfl, e2⟩ := hQ2
    have N2 := Fr.app Nq261 (Fr.nil n0)
    obtain ⟨cl_b1_275_3, Ar_b1_275_3, q_b1_275_3, S_b1_275_3, N_b1_275_3, H_b1_275_3, G_b1_275_3⟩ := id V_b1
    have hin_b1_275_3 : ¬ ((0 : Int32) < 0 ∨ cl_b1_275_3.slots.size ≤ ((0 : Int32) : Int32).toNatClampNeg) := inb_of S_b1_275_3 ⟨by decide, by decide⟩
    obtain ⟨T4, h4, X4, e4, W4, st4⟩ := stD X2 hx hZ e2 Ar_b1_275_3 (j := (0 : Int32)) hin_b1_275_3 (g := (mkF m 275 #[.val (.long q1), .second, .val (.long q2), .second, .val (.long q3), .second, .val (.long q4), .second, .val (.int p5), .val (.int p6), .val (.int rv), .val (.int ov), .val (.int h0_), .val (.int h1_), .val (.int h2_), .val (.int h3_), .val (.int ol), .val (.int ho), .val (.int rev), .val (.ref bw), .val (.ref b1)] [(.double (FP.i2d ((p6 >>> (((8 : Int32) * (0 : Int32)) &&& 31)).toInt8.toInt32))), (.int (0 : Int32)), (.ref b1)])) rfl rfl (hb hby at_275)
    have V_b1_275_3 : Arv Z h4 b1 k1 .double (4 : Int32) [(.double (FP.i2d ((p6 >>> (((8 : Int32) * (0 : Int32)) &&& 31)).toInt8.toInt32))), (.double (0 : UInt64)), (.double (0 : UInt64)), (.double (0 : UInt64))] (.double (0 : UInt64)) := Arv.set Ar_b1_275_3 q_b1_275_3 S_b1_275_3 N_b1_275_3 H_b1_275_3 G_b1_275_3 rfl W4 0 rfl (Nat.le_of_ble_eq_true rfl)
    have K4 : Keep h0 h4 [] := K1.wr W4 (Or.inr sz_b1)
    have N4 := Fr.snoc X4 N2 g_b1
    obtain ⟨_, _, ⟨T5, L5, k5, n5⟩, -, X5, ⟨Lc5, hQ5, l5, y5, z5⟩, st5⟩ := Jvm.LawKit.callS X4 hx (y := (⟨"com/example/chartlight/chartlight/label/WeightRowsAddToPinLaw", "base", "(II)D"⟩ : MethodName)) hown (mvT hZ (hw _ (List.mem_of_getElem? (i := 36) rfl))) (mvT hZ (hw _ (List.mem_of_getElem? (i := 37) rfl))) (mvT hZ (hw _ (List.mem_of_getElem? (i := 38) rfl))) (mvT hZ (hw _ (List.mem_of_getElem? (i := 39) rfl))) (by decide) (backOf (W := 2) (rm6 l Z a0 hw [] p6 (1 : Int32)  h4 n0 (Nat.le_trans Z0 K4.1)  ) hZ (hw _ (List.mem_of_getElem? (i := 39) rfl)) (hw _ (List.mem_of_getElem? (i := 38) rfl)) (by decide) (by decide)) (g := (mkF m 282 #[.val (.long q1), .second, .val (.long q2), .second, .val (.long q3), .second, .val (.long q4), .second, .val (.int p5), .val (.int p6), .val (.int rv), .val (.int ov), .val (.int h0_), .val (.int h1_), .val (.int h2_), .val (.int h3_), .val (.int ol), .val (.int ho), .val (.int rev), .val (.ref bw), .val (.ref b1)] [(.int (1 : Int32)), (.int p6), (.int (1 : Int32)), (.ref b1)])) rfl (by rw [hml]; rfl) (argsL := [(.int p6), (.int (1 : Int32))]) (rest := [(.int (1 : Int32)), (.ref b1)]) (lenOf pd2 rfl) rfl (by show 2 * 0 + _ ≤ _; exact Nat.le_of_eq rfl) (hb hby at_282) (fun _ _ => ⟨rfl, e4, (by decide : 8 + 0 ≤ _), (by decide : 48 + 0 ≤ _)⟩)
    dsimp only [Pt.U, Pt.locs, Pt.cells, Pt.slots] at X5 l5 y5 z5 st5 hQ5
    subst l5 y5 z5
    obtain ⟨rfl, rfl, e5⟩ := hQ5
    have N5 := Fr.app N4 (Fr.nil n0)
    obtain ⟨cl_b1_285_6, Ar_b1_285_6, q_b1_285_6, S_b1_285_6, N_b1_285_6, H_b1_285_6, G_b1_285_6⟩ := id V_b1_275_3
    have hin_b1_285_6 : ¬ ((1 : Int32) < 0 ∨ cl_b1_285_6.slots.size ≤ ((1 : Int32) : Int32).toNatClampNeg) := inb_of S_b1_285_6 ⟨by decide, by decide⟩
    obtain ⟨T7, h7, X7, e7, W7, st7⟩ := stD X5 hx hZ e5 Ar_b1_285_6 (j := (1 : Int32)) hin_b1_285_6 (g := (mkF m 285 #[.val (.long q1), .second, .val (.long q2), .second, .val (.long q3), .second, .val (.long q4), .second, .val (.int p5), .val (.int p6), .val (.int rv), .val (.int ov), .val (.int h0_), .val (.int h1_), .val (.int h2_), .val (.int h3_), .val (.int ol), .val (.int ho), .val (.int rev), .val (.ref bw), .val (.ref b1)] [(.double (FP.i2d ((p6 >>> (((8 : Int32) * (1 : Int32)) &&& 31)).toInt8.toInt32))), (.int (1 : Int32)), (.ref b1)])) rfl rfl (hb hby at_285)
    have V_b1_285_6 : Arv Z h7 b1 k1 .double (4 : Int32) [(.double (FP.i2d ((p6 >>> (((8 : Int32) * (0 : Int32)) &&& 31)).toInt8.toInt32))), (.double (FP.i2d ((p6 >>> (((8 : Int32) * (1 : Int32)) &&& 31)).toInt8.toInt32))), (.double (0 : UInt64)), (.double (0 : UInt64))] (.double (0 : UInt64)) := Arv.set Ar_b1_285_6 q_b1_285_6 S_b1_285_6 N_b1_285_6 H_b1_285_6 G_b1_285_6 rfl W7 1 rfl (Nat.le_of_ble_eq_true rfl)
    have K7 : Keep h0 h7 [] := K4.wr W7 (Or.inr sz_b1)
    have N7 := Fr.snoc X7 N5 g_b1
    obtain ⟨_, _, ⟨T8, L8, k8, n8⟩, -, X8, ⟨Lc8, hQ8, l8, y8, z8⟩, st8⟩ := Jvm.LawKit.callS X7 hx (y := (⟨"com/example/chartlight/chartlight/label/WeightRowsAddToPinLaw", "base", "(II)D"⟩ : MethodName)) hown (mvT hZ (hw _ (List.mem_of_getElem? (i := 36) rfl))) (mvT hZ (hw _ (List.mem_of_getElem? (i := 37) rfl))) (mvT hZ (hw _ (List.mem_of_getElem? (i := 38) rfl))) (mvT hZ (hw _ (List.mem_of_getElem? (i := 39) rfl))) (by decide) (backOf (W := 2) (rm6 l Z a0 hw [] p6 (2 : Int32)  h7 n0 (Nat.le_trans Z0 K7.1)  ) hZ (hw _ (List.mem_of_getElem? (i := 39) rfl)) (hw _ (List.mem_of_getElem? (i := 38) rfl)) (by decide) (by decide)) (g := (mkF m 292 #[.val (.long q1), .second, .val (.long q2), .second, .val (.long q3), .second, .val (.long q4), .second, .val (.int p5), .val (.int p6), .val (.int rv), .val (.int ov), .val (.int h0_), .val (.int h1_), .val (.int h2_), .val (.int h3_), .val (.int ol), .val (.int ho), .val (.int rev), .val (.ref bw), .val (.ref b1)] [(.int (2 : Int32)), (.int p6), (.int (2 : Int32)), (.ref b1)])) rfl (by rw [hml]; rfl) (argsL := [(.int p6), (.int (2 : Int32))]) (rest := [(.int (2 : Int32)), (.ref b1)]) (lenOf pd2 rfl) rfl (by show 2 * 0 + _ ≤ _; exact Nat.le_of_eq rfl) (hb hby at_292) (fun _ _ => ⟨rfl, e7, (by decide : 8 + 0 ≤ _), (by decide : 48 + 0 ≤ _)⟩)
    dsimp only [Pt.U, Pt.locs, Pt.cells, Pt.slots] at X8 l8 y8 z8 st8 hQ8
    subst l8 y8 z8
    obtain ⟨rfl, rfl, e8⟩ := hQ8
    have N8 := Fr.app N7 (Fr.nil n0)
    obtain ⟨cl_b1_295_9, Ar_b1_295_9, q_b1_295_9, S_b1_295_9, N_b1_295_9, H_b1_295_9, G_b1_295_9⟩ := id V_b1_285_6
    have hin_b1_295_9 : ¬ ((2 : Int32) < 0 ∨ cl_b1_295_9.slots.size ≤ ((2 : Int32) : Int32).toNatClampNeg) := inb_of S_b1_295_9 ⟨by decide, by decide⟩
    obtain ⟨T10, h10, X10, e10, W10, st10⟩ := stD X8 hx hZ e8 Ar_b1_295_9 (j := (2 : Int32)) hin_b1_295_9 (g := (mkF m 295 #[.val (.long q1), .second, .val (.long q2), .second, .val (.long q3), .second, .val (.long q4), .second, .val (.int p5), .val (.int p6), .val (.int rv), .val (.int ov), .val (.int h0_), .val (.int h1_), .val (.int h2_), .val (.int h3_), .val (.int ol), .val (.int ho), .val (.int rev), .val (.ref bw), .val (.ref b1)] [(.double (FP.i2d ((p6 >>> (((8 : Int32) * (2 : Int32)) &&& 31)).toInt8.toInt32))), (.int (2 : Int32)), (.ref b1)])) rfl rfl (hb hby at_295)
    have V_b1_295_9 : Arv Z h10 b1 k1 .double (4 : Int32) [(.double (FP.i2d ((p6 >>> (((8 : Int32) * (0 : Int32)) &&& 31)).toInt8.toInt32))), (.double (FP.i2d ((p6 >>> (((8 : Int32) * (1 : Int32)) &&& 31)).toInt8.toInt32))), (.double (FP.i2d ((p6 >>> (((8 : Int32) * (2 : Int32)) &&& 31)).toInt8.toInt32))), (.double (0 : UInt64))] (.double (0 : UInt64)) := Arv.set Ar_b1_295_9 q_b1_295_9 S_b1_295_9 N_b1_295_9 H_b1_295_9 G_b1_295_9 rfl W10 2 rfl (Nat.le_of_ble_eq_true rfl)
    have K10 : Keep h0 h10 [] := K7.wr W10 (Or.inr sz_b1)
    have N10 := Fr.snoc X10 N8 g_b1
    obtain ⟨_, _, ⟨T11, L11, k11, n11⟩, -, X11, ⟨Lc11, hQ11, l11, y11, z11⟩, st11⟩ := Jvm.LawKit.callS X10 hx (y := (⟨"com/example/chartlight/chartlight/label/WeightRowsAddToPinLaw", "base", "(II)D"⟩ : MethodName)) hown (mvT hZ (hw _ (List.mem_of_getElem? (i := 36) rfl))) (mvT hZ (hw _ (List.mem_of_getElem? (i := 37) rfl))) (mvT hZ (hw _ (List.mem_of_getElem? (i := 38) rfl))) (mvT hZ (hw _ (List.mem_of_getElem? (i := 39) rfl))) (by decide) (backOf (W := 2) (rm6 l Z a0 hw [] p6 (3 : Int32)  h10 n0 (Nat.le_trans Z0 K10.1)  ) hZ (hw _ (List.mem_of_getElem? (i := 39) rfl)) (hw _ (List.mem_of_getElem? (i := 38) rfl)) (by decide) (by decide)) (g := (mkF m 302 #[.val (.long q1), .second, .val (.long q2), .second, .val (.long q3), .second, .val (.long q4), .second, .val (.int p5), .val (.int p6), .val (.int rv), .val (.int ov), .val (.int h0_), .val (.int h1_), .val (.int h2_), .val (.int h3_), .val (.int ol), .val (.int ho), .val (.int rev), .val (.ref bw), .val (.ref b1)] [(.int (3 : Int32)), (.int p6), (.int (3 : Int32)), (.ref b1)])) rfl (by rw [hml]; rfl) (argsL := [(.int p6), (.int (3 : Int32))]) (rest := [(.int (3 : Int32)), (.ref b1)]) (lenOf pd2 rfl) rfl (by show 2 * 0 + _ ≤ _; exact Nat.le_of_eq rfl) (hb hby at_302) (fun _ _ => ⟨rfl, e10, (by decide : 8 + 0 ≤ _), (by decide : 48 + 0 ≤ _)⟩)
    dsimp only [Pt.U, Pt.locs, Pt.cells, Pt.slots] at X11 l11 y11 z11 st11 hQ11
    subst l11 y11 z11
    obtain ⟨rfl, rfl, e11⟩ := hQ11
    have N11 := Fr.app N10 (Fr.nil n0)
    obtain ⟨cl_b1_305_12, Ar_b1_305_12, q_b1_305_12, S_b1_305_12, N_b1_305_12, H_b1_305_12, G_b1_305_12⟩ := id V_b1_295_9
    have hin_b1_305_12 : ¬ ((3 : Int32) < 0 ∨ cl_b1_305_12.slots.size ≤ ((3 : Int32) : Int32).toNatClampNeg) := inb_of S_b1_305_12 ⟨by decide, by decide⟩
    obtain ⟨T13, h13, X13, e13, W13, st13⟩ := stD X11 hx hZ e11 Ar_b1_305_12 (j := (3 : Int32)) hin_b1_305_12 (g := (mkF m 305 #[.val (.long q1), .second, .val (.long q2), .second, .val (.long q3), .second, .val (.long q4), .second, .val (.int p5), .val (.int p6), .val (.int rv), .val (.int ov), .val (.int h0_), .val (.int h1_), .val (.int h2_), .val (.int h3_), .val (.int ol), .val (.int ho), .val (.int rev), .val (.ref bw), .val (.ref b1)] [(.double (FP.i2d ((p6 >>> (((8 : Int32) * (3 : Int32)) &&& 31)).toInt8.toInt32))), (.int (3 : Int32)), (.ref b1)])) rfl rfl (hb hby at_305)
    have V_b1_305_12 : Arv Z h13 b1 k1 .double (4 : Int32) [(.double (FP.i2d ((p6 >>> (((8 : Int32) * (0 : Int32)) &&& 31)).toInt8.toInt32))), (.double (FP.i2d ((p6 >>> (((8 : Int32) * (1 : Int32)) &&& 31)).toInt8.toInt32))), (.double (FP.i2d ((p6 >>> (((8 : Int32) * (2 : Int32)) &&& 31)).toInt8.toInt32))), (.double (FP.i2d ((p6 >>> (((8 : Int32) * (3 : Int32)) &&& 31)).toInt8.toInt32)))] (.double (0 : UInt64)) := Arv.set Ar_b1_305_12 q_b1_305_12 S_b1_305_12 N_b1_305_12 H_b1_305_12 G_b1_305_12 rfl W13 3 rfl (Nat.le_of_ble_eq_true rfl)
    have K13 : Keep h0 h13 [] := K10.wr W13 (Or.inr sz_b1)
    have N13 := Fr.snoc X13 N11 g_b1
    obtain ⟨cq14, kq14, q14a, q14b, q14c⟩ := isOf hZ e13 (((((E_bw.ext E1).wr W4).wr W7).wr W10).wr W13)
    obtain ⟨_, _, ⟨T14, L14, k14, n14⟩, -, X14, ⟨Lc14, hQ14, l14, y14, z14⟩, st14⟩ := X13.virtualBack hx (y := (⟨"com/example/chartlight/chartlight/label/WeightRows", "addTo", "(I[D)V"⟩ : MethodName)) (z := (⟨"com/example/chartlight/chartlight/label/WeightRows", "addTo", "(I[D)V"⟩ : MethodName)) hown (mvT hZ (hw _ (List.mem_of_getElem? (i := 40) rfl))) (mvT hZ (hw _ (List.mem_of_getElem? (i := 41) rfl))) (notFace_of_selects (args := #[]) (mvT hZ (hw _ (List.mem_of_getElem? (i := 43) rfl)))) (mvT hZ (hw _ (List.mem_of_getElem? (i := 43) rfl))) (mvT hZ (hw _ (List.mem_of_getElem? (i := 42) rfl))) (by decide) (backOf (W := 0) (rm_addTo l Z a0 hw [] bw rv b1 rr kr ro sg ka h0_ h1_ h2_ h3_ q1 q2 q3 q4 k1 (FP.i2d ((p6 >>> (((8 : Int32) * (0 : Int32)) &&& 31)).toInt8.toInt32)) (FP.i2d ((p6 >>> (((8 : Int32) * (1 : Int32)) &&& 31)).toInt8.toInt32)) (FP.i2d ((p6 >>> (((8 : Int32) * (2 : Int32)) &&& 31)).toInt8.toInt32)) (FP.i2d ((p6 >>> (((8 : Int32) * (3 : Int32)) &&& 31)).toInt8.toInt32)) h13 n0 (Nat.le_trans Z0 K13.1) (((((F_bw.ext E1).other W4 (Or.inl (Nat.ne_of_lt (Nat.lt_of_lt_of_le E_bw.lt (Nat.le_of_eq g1.symm))))).other W7 (Or.inl (Nat.ne_of_lt (Nat.lt_of_lt_of_le E_bw.lt (Nat.le_of_eq g1.symm))))).other W10 (Or.inl (Nat.ne_of_lt (Nat.lt_of_lt_of_le E_bw.lt (Nat.le_of_eq g1.symm))))).other W13 (Or.inl (Nat.ne_of_lt (Nat.lt_of_lt_of_le E_bw.lt (Nat.le_of_eq g1.symm))))) (((((V_rr.ext E1).other W4 (Nat.ne_of_lt (Nat.lt_of_lt_of_le V_rr.lt (Nat.le_of_eq g1.symm)))).other W7 (Nat.ne_of_lt (Nat.lt_of_lt_of_le V_rr.lt (Nat.le_of_eq g1.symm)))).other W10 (Nat.ne_of_lt (Nat.lt_of_lt_of_le V_rr.lt (Nat.le_of_eq g1.symm)))).other W13 (Nat.ne_of_lt (Nat.lt_of_lt_of_le V_rr.lt (Nat.le_of_eq g1.symm)))) (((((V_ro.ext E1).other W4 (Nat.ne_of_lt (Nat.lt_of_lt_of_le V_ro.lt (Nat.le_of_eq g1.symm)))).other W7 (Nat.ne_of_lt (Nat.lt_of_lt_of_le V_ro.lt (Nat.le_of_eq g1.symm)))).other W10 (Nat.ne_of_lt (Nat.lt_of_lt_of_le V_ro.lt (Nat.le_of_eq g1.symm)))).other W13 (Nat.ne_of_lt (Nat.lt_of_lt_of_le V_ro.lt (Nat.le_of_eq g1.symm)))) V_b1_305_12 g_b1 (r_rv : rv = (0 : Int32) ∨ rv = (1 : Int32)) ((Nat.ne_of_lt (Nat.lt_of_lt_of_le V_ro.lt (Nat.le_of_eq g1.symm))) : ro ≠ b1) (own_ok _ _ : FP.dadd (FP.i2d ((p6 >>> (((8 : Int32) * (0 : Int32)) &&& 31)).toInt8.toInt32)) (FP.l2d q1) &&& 0x7fffffffffffffff ≤ 0x7ff0000000000000) (own_ok _ _ : FP.dadd (FP.i2d ((p6 >>> (((8 : Int32) * (1 : Int32)) &&& 31)).toInt8.toInt32)) (FP.l2d q2) &&& 0x7fffffffffffffff ≤ 0x7ff0000000000000) (own_ok _ _ : FP.dadd (FP.i2d ((p6 >>> (((8 : Int32) * (2 : Int32)) &&& 31)).toInt8.toInt32)) (FP.l2d q3) &&& 0x7fffffffffffffff ≤ 0x7ff0000000000000) (own_ok _ _ : FP.dadd (FP.i2d ((p6 >>> (((8 : Int32) * (3 : Int32)) &&& 31)).toInt8.toInt32)) (FP.l2d q4) &&& 0x7fffffffffffffff ≤ 0x7ff0000000000000)) hZ (hw _ (List.mem_of_getElem? (i := 44) rfl)) (hw _ (List.mem_of_getElem? (i := 2) rfl)) (by decide) (by decide)) q14a q14c (g := (mkF m 312 #[.val (.long q1), .second, .val (.long q2), .second, .val (.long q3), .second, .val (.long q4), .second, .val (.int p5), .val (.int p6), .val (.int rv), .val (.int ov), .val (.int h0_), .val (.int h1_), .val (.int h2_), .val (.int h3_), .val (.int ol), .val (.int ho), .val (.int rev), .val (.ref bw), .val (.ref b1)] [(.ref b1), (.int rv), (.ref bw)])) rfl (by rw [hml]; rfl) (Steps.refl _) (argsL := [(.int rv), (.ref b1)]) (rest := []) (lenOf pd3 rfl) rfl (by show 2 * 0 + _ ≤ _; exact Nat.le_of_eq rfl) (hb hby at_312) (fun _ _ => ⟨rfl, e13, (by decide : 8 + 0 ≤ _), (by decide : 48 + 0 ≤ _)⟩)
    dsimp only [Pt.U, Pt.locs, Pt.cells, Pt.slots] at X14 l14 y14 z14 st14 hQ14
    subst l14 y14 z14
    obtain ⟨rfl, N14q, K14, f14_0⟩ := hQ14
    have N14 := Fr.app N13 N14q
    have KK14 : Keep h0 T14.heap [] := K13.trans K14 (allS (Or.inr sz_b1) all0)
    obtain ⟨cl_b1_318_15, Ar_b1_318_15, q_b1_318_15, S_b1_318_15, N_b1_318_15, H_b1_318_15, G_b1_318_15⟩ := id f14_0
    have hin_b1_318_15 : ¬ ((0 : Int32) < 0 ∨ cl_b1_318_15.slots.size ≤ ((0 : Int32) : Int32).toNatClampNeg) := inb_of S_b1_318_15 ⟨by decide, by decide⟩
    obtain ⟨_, _, ⟨T16, L16, k16, n16⟩, -, X16, ⟨Lc16, hQ16, l16, y16, z16⟩, st16⟩ := Jvm.LawKit.callS X14 hx (y := (⟨"com/example/chartlight/chartlight/label/WeightRowsAddToPinLaw", "expect", "(IIZJ)D"⟩ : MethodName)) hown (mvT hZ (hw _ (List.mem_of_getElem? (i := 45) rfl))) (mvT hZ (hw _ (List.mem_of_getElem? (i := 46) rfl))) (mvT hZ (hw _ (List.mem_of_getElem? (i := 38) rfl))) (mvT hZ (hw _ (List.mem_of_getElem? (i := 47) rfl))) (by decide) (backOf (W := 2) (rm8 l Z a0 hw [] p6 (0 : Int32) h0_ q1  T14.heap n0 (Nat.le_trans Z0 KK14.1)  (own_ok _ _ : FP.dadd (FP.i2d (((p6 >>> (((8 : Int32) * (0 : Int32)) &&& 31)).toInt8.toInt32))) (FP.l2d q1) &&& 0x7fffffffffffffff ≤ 0x7ff0000000000000)) hZ (hw _ (List.mem_of_getElem? (i := 47) rfl)) (hw _ (List.mem_of_getElem? (i := 38) rfl)) (by decide) (by decide)) (g := (mkF m 325 #[.val (.long q1), .second, .val (.long q2), .second, .val (.long q3), .second, .val (.long q4), .second, .val (.int p5), .val (.int p6), .val (.int rv), .val (.int ov), .val (.int h0_), .val (.int h1_), .val (.int h2_), .val (.int h3_), .val (.int ol), .val (.int ho), .val (.int rev), .val (.ref bw), .val (.ref b1)] [(.long q1), (.int h0_), (.int (0 : Int32)), (.int p6), (.double (own_dd h0_ (FP.i2d ((p6 >>> (((8 : Int32) * (0 : Int32)) &&& 31)).toInt8.toInt32)) q1))])) rfl (by rw [hml]; rfl) (argsL := [(.int p6), (.int (0 : Int32)), (.int h0_), (.long q1)]) (rest := [(.double (own_dd h0_ (FP.i2d ((p6 >>> (((8 : Int32) * (0 : Int32)) &&& 31)).toInt8.toInt32)) q1))]) (lenOf pd4 rfl) rfl (by show 2 * 0 + _ ≤ _; exact Nat.le_of_eq rfl) (hb hby at_325) (fun _ _ => ⟨rfl, rfl, (by decide : 8 + 0 ≤ _), (by decide : 48 + 0 ≤ _)⟩)
    dsimp only [Pt.U, Pt.locs, Pt.cells, Pt.slots] at X16 l16 y16 z16 st16 hQ16
    subst l16 y16 z16
    obtain ⟨rfl, rfl, e16⟩ := hQ16
    have N16 := Fr.app N14 (Fr.nil n0)
    obtain ⟨cl_b1_335_17, Ar_b1_335_17, q_b1_335_17, S_b1_335_17, N_b1_335_17, H_b1_335_17, G_b1_335_17⟩ := id f14_0
    have hin_b1_335_17 : ¬ ((1 : Int32) < 0 ∨ cl_b1_335_17.slots.size ≤ ((1 : Int32) : Int32).toNatClampNeg) := inb_of S_b1_335_17 ⟨by decide, by decide⟩
    obtain ⟨_, _, ⟨T18, L18, k18, n18⟩, -, X18, ⟨Lc18, hQ18, l18, y18, z18⟩, st18⟩ := Jvm.LawKit.callS X16 hx (y := (⟨"com/example/chartlight/chartlight/label/WeightRowsAddToPinLaw", "expect", "(IIZJ)D"⟩ : MethodName)) hown (mvT hZ (hw _ (List.mem_of_getElem? (i := 45) rfl))) (mvT hZ (hw _ (List.mem_of_getElem? (i := 46) rfl))) (mvT hZ (hw _ (List.mem_of_getElem? (i := 38) rfl))) (mvT hZ (hw _ (List.mem_of_getElem? (i := 47) rfl))) (by decide) (backOf (W := 2) (rm8 l Z a0 hw [] p6 (1 : Int32) h1_ q2  T14.heap n0 (Nat.le_trans Z0 KK14.1)  (own_ok _ _ : FP.dadd (FP.i2d (((p6 >>> (((8 : Int32) * (1 : Int32)) &&& 31)).toInt8.toInt32))) (FP.l2d q2) &&& 0x7fffffffffffffff ≤ 0x7ff0000000000000)) hZ (hw _ (List.mem_of_getElem? (i := 47) rfl)) (hw _ (List.mem_of_getElem? (i := 38) rfl)) (by decide) (by decide)) (g := (mkF m 342 #[.val (.long q1), .second, .val (.long q2), .second, .val (.long q3), .second, .val (.long q4), .second, .val (.int p5), .val (.int p6), .val (.int rv), .val (.int ov), .val (.int h0_), .val (.int h1_), .val (.int h2_), .val (.int h3_), .val (.int ol), .val (.int ho), .val (.int rev), .val (.ref bw), .val (.ref b1)] [(.long q2), (.int h1_), (.int (1 : Int32)), (.int p6), (.double (own_dd h1_ (FP.i2d ((p6 >>> (((8 : Int32) * (1 : Int32)) &&& 31)).toInt8.toInt32)) q2))])) rfl (by rw [hml]; rfl) (argsL := [(.int p6), (.int (1 : Int32)), (.int h1_), (.long q2)]) (rest := [(.double (own_dd h1_ (FP.i2d ((p6 >>> (((8 : Int32) * (1 : Int32)) &&& 31)).toInt8.toInt32)) q2))]) (lenOf pd4 rfl) rfl (by show 2 * 0 + _ ≤ _; exact Nat.le_of_eq rfl) (hb hby at_342) (fun _ _ => ⟨rfl, e16, (by decide : 8 + 0 ≤ _), (by decide : 48 + 0 ≤ _)⟩)
    dsimp only [Pt.U, Pt.locs, Pt.cells, Pt.slots] at X18 l18 y18 z18 st18 hQ18
    subst l18 y18 z18
    obtain ⟨rfl, rfl, e18⟩ := hQ18
    have N18 := Fr.app N16 (Fr.nil n0)
    obtain ⟨cl_b1_352_19, Ar_b1_352_19, q_b1_352_19, S_b1_352_19, N_b1_352_19, H_b1_352_19, G_b1_352_19⟩ := id f14_0
    have hin_b1_352_19 : ¬ ((2 : Int32) < 0 ∨ cl_b1_352_19.slots.size ≤ ((2 : Int32) : Int32).toNatClampNeg) := inb_of S_b1_352_19 ⟨by decide, by decide⟩
    obtain ⟨_, _, ⟨T20, L20, k20, n20⟩, -, X20, ⟨Lc20, hQ20, l20, y20, z20⟩, st20⟩ := Jvm.LawKit.callS X18 hx (y := (⟨"com/example/chartlight/chartlight/label/WeightRowsAddToPinLaw", "expect", "(IIZJ)D"⟩ : MethodName)) hown (mvT hZ (hw _ (List.mem_of_getElem? (i := 45) rfl))) (mvT hZ (hw _ (List.mem_of_getElem? (i := 46) rfl))) (mvT hZ (hw _ (List.mem_of_getElem? (i := 38) rfl))) (mvT hZ (hw _ (List.mem_of_getElem? (i := 47) rfl))) (by decide) (backOf (W := 2) (rm8 l Z a0 hw [] p6 (2 : Int32) h2_ q3  T14.heap n0 (Nat.le_trans Z0 KK14.1)  (own_ok _ _ : FP.dadd (FP.i2d (((p6 >>> (((8 : Int32) * (2 : Int32)) &&& 31)).toInt8.toInt32))) (FP.l2d q3) &&& 0x7fffffffffffffff ≤ 0x7ff0000000000000)) hZ (hw _ (List.mem_of_getElem? (i := 47) rfl)) (hw _ (List.mem_of_getElem? (i := 38) rfl)) (by decide) (by decide)) (g := (mkF m 360 #[.val (.long q1), .second, .val (.long q2), .second, .val (.long q3), .second, .val (.long q4), .second, .val (.int p5), .val (.int p6), .val (.int rv), .val (.int ov), .val (.int h0_), .val (.int h1_), .val (.int h2_), .val (.int h3_), .val (.int ol), .val (.int ho), .val (.int rev), .val (.ref bw), .val (.ref b1)] [(.long q3), (.int h2_), (.int (2 : Int32)), (.int p6), (.double (own_dd h2_ (FP.i2d ((p6 >>> (((8 : Int32) * (2 : Int32)) &&& 31)).toInt8.toInt32)) q3))])) rfl (by rw [hml]; rfl) (argsL := [(.int p6), (.int (2 : Int32)), (.int h2_), (.long q3)]) (rest := [(.double (own_dd h2_ (FP.i2d ((p6 >>> (((8 : Int32) * (2 : Int32)) &&& 31)).toInt8.toInt32)) q3))]) (lenOf pd4 rfl) rfl (by show 2 * 0 + _ ≤ _; exact Nat.le_of_eq rfl) (hb hby at_360) (fun _ _ => ⟨rfl, e18, (by decide : 8 + 0 ≤ _), (by decide : 48 + 0 ≤ _)⟩)
    dsimp only [Pt.U, Pt.locs, Pt.cells, Pt.slots] at X20 l20 y20 z20 st20 hQ20
    subst l20 y20 z20
    obtain ⟨rfl, rfl, e20⟩ := hQ20
    have N20 := Fr.app N18 (Fr.nil n0)
    obtain ⟨cl_b1_370_21, Ar_b1_370_21, q_b1_370_21, S_b1_370_21, N_b1_370_21, H_b1_370_21, G_b1_370_21⟩ := id f14_0
    have hin_b1_370_21 : ¬ ((3 : Int32) < 0 ∨ cl_b1_370_21.slots.size ≤ ((3 : Int32) : Int32).toNatClampNeg) := inb_of S_b1_370_21 ⟨by decide, by decide⟩
    obtain ⟨_, _, ⟨T22, L22, k22, n22⟩, -, X22, ⟨Lc22, hQ22, l22, y22, z22⟩, st22⟩ := Jvm.LawKit.callS X20 hx (y := (⟨"com/example/chartlight/chartlight/label/WeightRowsAddToPinLaw", "expect", "(IIZJ)D"⟩ : MethodName)) hown (mvT hZ (hw _ (List.mem_of_getElem? (i := 45) rfl))) (mvT hZ (hw _ (List.mem_of_getElem? (i := 46) rfl))) (mvT hZ (hw _ (List.mem_of_getElem? (i := 38) rfl))) (mvT hZ (hw _ (List.mem_of_getElem? (i := 47) rfl))) (by decide) (backOf (W := 2) (rm8 l Z a0 hw [] p6 (3 : Int32) h3_ q4  T14.heap n0 (Nat.le_trans Z0 KK14.1)  (own_ok _ _ : FP.dadd (FP.i2d (((p6 >>> (((8 : Int32) * (3 : Int32)) &&& 31)).toInt8.toInt32))) (FP.l2d q4) &&& 0x7fffffffffffffff ≤ 0x7ff0000000000000)) hZ (hw _ (List.mem_of_getElem? (i := 47) rfl)) (hw _ (List.mem_of_getElem? (i := 38) rfl)) (by decide) (by decide)) (g := (mkF m 378 #[.val (.long q1), .second, .val (.long q2), .second, .val (.long q3), .second, .val (.long q4), .second, .val (.int p5), .val (.int p6), .val (.int rv), .val (.int ov), .val (.int h0_), .val (.int h1_), .val (.int h2_), .val (.int h3_), .val (.int ol), .val (.int ho), .val (.int rev), .val (.ref bw), .val (.ref b1)] [(.long q4), (.int h3_), (.int (3 : Int32)), (.int p6), (.double (own_dd h3_ (FP.i2d ((p6 >>> (((8 : Int32) * (3 : Int32)) &&& 31)).toInt8.toInt32)) q4))])) rfl (by rw [hml]; rfl) (argsL := [(.int p6), (.int (3 : Int32)), (.int h3_), (.long q4)]) (rest := [(.double (own_dd h3_ (FP.i2d ((p6 >>> (((8 : Int32) * (3 : Int32)) &&& 31)).toInt8.toInt32)) q4))]) (lenOf pd4 rfl) rfl (by show 2 * 0 + _ ≤ _; exact Nat.le_of_eq rfl) (hb hby at_378) (fun _ _ => ⟨rfl, e20, (by decide : 8 + 0 ≤ _), (by decide : 48 + 0 ≤ _)⟩)
    dsimp only [Pt.U, Pt.locs, Pt.cells, Pt.slots] at X22 l22 y22 z22 st22 hQ22
    subst l22 y22 z22
    obtain ⟨rfl, rfl, e22⟩ := hQ22
    have N22 := Fr.app N20 (Fr.nil n0)
    obtain ⟨fs, hr, hrun, hended, hW, hsame⟩ := X22.leave (v := some (.int (1 : Int32))) (fun h => by rw [Bd.returns] at h; cases h)
    refine ⟨_, _, preq261 _ ?_, hrun, hended, _, _, rfl, ?_, ⟨_, rfl⟩, hW, hsame.mono (by decide) (by decide)⟩
    · show Steps p.tables e below (Tq261.setTop (mkF m 261 #[.val (.long q1), .second, .val (.long q2), .second, .val (.long q3), .second, .val (.long q4), .second, .val (.int p5), .val (.int p6), .val (.int rv), .val (.int ov), .val (.int h0_), .val (.int h1_), .val (.int h2_), .val (.int h3_), .val (.int ol), .val (.int ho), .val (.int rev), .val (.ref bw), .unset] [])) _
      refine XS.iconst Xq261.here hx rfl (hb hby at_261) ?_
      show Steps p.tables e below (Tq261.setTop (mkF m 262 #[.val (.long q1), .second, .val (.long q2), .second, .val (.long q3), .second, .val (.long q4), .second, .val (.int p5), .val (.int p6), .val (.int rv), .val (.int ov), .val (.int h0_), .val (.int h1_), .val (.int h2_), .val (.int h3_), .val (.int ol), .val (.int ho), .val (.int rev), .val (.ref bw), .unset] [(.int (4 : Int32))])) _
      refine st1 _ ?_
      refine XS.astore X1.here hx rfl (hb hby at_264) rfl rfl (l' := #[.val (.long q1), .second, .val (.long q2), .second, .val (.long q3), .second, .val (.long q4), .second, .val (.int p5), .val (.int p6), .val (.int rv), .val (.int ov), .val (.int h0_), .val (.int h1_), .val (.int h2_), .val (.int h3_), .val (.int ol), .val (.int ho), .val (.int rev), .val (.ref bw), .val (.ref b1)]) rfl ?_
      refine XS.aload X1.here hx rfl (hb hby at_266) rfl rfl ?_
      refine XS.iconst X1.here hx rfl (hb hby at_268) ?_
      refine XS.iload X1.here hx rfl (hb hby at_269) rfl ?_
      refine XS.iconst X1.here hx rfl (hb hby at_271) ?_
      show Steps p.tables e below (T1.setTop (mkF m 272 #[.val (.long q1), .second, .val (.long q2), .second, .val (.long q3), .second, .val (.long q4), .second, .val (.int p5), .val (.int p6), .val (.int rv), .val (.int ov), .val (.int h0_), .val (.int h1_), .val (.int h2_), .val (.int h3_), .val (.int ol), .val (.int ho), .val (.int rev), .val (.ref bw), .val (.ref b1)] [(.int (0 : Int32)), (.int p6), (.int (0 : Int32)), (.ref b1)])) _
      refine st2 _ ?_
      show Steps p.tables e below (T2.setTop (mkF m 275 #[.val (.long q1), .second, .val (.long q2), .second, .val (.long q3), .second, .val (.long q4), .second, .val (.int p5), .val (.int p6), .val (.int rv), .val (.int ov), .val (.int h0_), .val (.int h1_), .val (.int h2_), .val (.int h3_), .val (.int ol), .val (.int ho), .val (.int rev), .val (.ref bw), .val (.ref b1)] [(.double (FP.i2d ((p6 >>> (((8 : Int32) * (0 : Int32)) &&& 31)).toInt8.toInt32))), (.int (0 : Int32)), (.ref b1)])) _
      refine st4 _ ?_
      refine XS.aload X4.here hx rfl (hb hby at_276) rfl rfl ?_
      refine XS.iconst X4.here hx rfl (hb hby at_278) ?_
      refine XS.iload X4.here hx rfl (hb hby at_279) rfl ?_
      refine XS.iconst X4.here hx rfl (hb hby at_281) ?_
      show Steps p.tables e below (T4.setTop (mkF m 282 #[.val (.long q1), .second, .val (.long q2), .second, .val (.long q3), .second, .val (.long q4), .second, .val (.int p5), .val (.int p6), .val (.int rv), .val (.int ov), .val (.int h0_), .val (.int h1_), .val (.int h2_), .val (.int h3_), .val (.int ol), .val (.int ho), .val (.int rev), .val (.ref bw), .val (.ref b1)] [(.int (1 : Int32)), (.int p6), (.int (1 : Int32)), (.ref b1)])) _
      refine st5 _ ?_
      show Steps p.tables e below (T5.setTop (mkF m 285 #[.val (.long q1), .second, .val (.long q2), .second, .val (.long q3), .second, .val (.long q4), .second, .val (.int p5), .val (.int p6), .val (.int rv), .val (.int ov), .val (.int h0_), .val (.int h1_), .val (.int h2_), .val (.int h3_), .val (.int ol), .val (.int ho), .val (.int rev), .val (.ref bw), .val (.ref b1)] [(.double (FP.i2d ((p6 >>> (((8 : Int32) * (1 : Int32)) &&& 31)).toInt8.toInt32))), (.int (1 : Int32)), (.ref b1)])) _
      refine st7 _ ?_
      refine XS.aload X7.here hx rfl (hb hby at_286) rfl rfl ?_
      refine XS.iconst X7.here hx rfl (hb hby at_288) ?_
      refine XS.iload X7.here hx rfl (hb hby at_289) rfl ?_
      refine XS.iconst X7.here hx rfl (hb hby at_291) ?_
      show Steps p.tables e below (T7.setTop (mkF m 292 #[.val (.long q1), .second, .val (.long q2), .second, .val (.long q3), .second, .val (.long q4), .second, .val (.int p5), .val (.int p6), .val (.int rv), .val (.int ov), .val (.int h0_), .val (.int h1_), .val (.int h2_), .val (.int h3_), .val (.int ol), .val (.int ho), .val (.int rev), .val (.ref bw), .val (.ref b1)] [(.int (2 : Int32)), (.int p6), (.int (2 : Int32)), (.ref b1)])) _
      refine st8 _ ?_
      show Steps p.tables e below (T8.setTop (mkF m 295 #[.val (.long q1), .second, .val (.long q2), .second, .val (.long q3), .second, .val (.long q4), .second, .val (.int p5), .val (.int p6), .val (.int rv), .val (.int ov), .val (.int h0_), .val (.int h1_), .val (.int h2_), .val (.int h3_), .val (.int ol), .val (.int ho), .val (.int rev), .val (.ref bw), .val (.ref b1)] [(.double (FP.i2d ((p6 >>> (((8 : Int32) * (2 : Int32)) &&& 31)).toInt8.toInt32))), (.int (2 : Int32)), (.ref b1)])) _
      refine st10 _ ?_
      refine XS.aload X10.here hx rfl (hb hby at_296) rfl rfl ?_
      refine XS.iconst X10.here hx rfl (hb hby at_298) ?_
      refine XS.iload X10.here hx rfl (hb hby at_299) rfl ?_
      refine XS.iconst X10.here hx rfl (hb hby at_301) ?_
      show Steps p.tables e below (T10.setTop (mkF m 302 #[.val (.long q1), .second, .val (.long q2), .second, .val (.long q3), .second, .val (.long q4), .second, .val (.int p5), .val (.int p6), .val (.int rv), .val (.int ov), .val (.int h0_), .val (.int h1_), .val (.int h2_), .val (.int h3_), .val (.int ol), .val (.int ho), .val (.int rev), .val (.ref bw), .val (.ref b1)] [(.int (3 : Int32)), (.int p6), (.int (3 : Int32)), (.ref b1)])) _
      refine st11 _ ?_
      show Steps p.tables e below (T11.setTop (mkF m 305 #[.val (.long q1), .second, .val (.long q2), .second, .val (.long q3), .second, .val (.long q4), .second, .val (.int p5), .val (.int p6), .val (.int rv), .val (.int ov), .val (.int h0_), .val (.int h1_), .val (.int h2_), .val (.int h3_), .val (.int ol), .val (.int ho), .val (.int rev), .val (.ref bw), .val (.ref b1)] [(.double (FP.i2d ((p6 >>> (((8 : Int32) * (3 : Int32)) &&& 31)).toInt8.toInt32))), (.int (3 : Int32)), (.ref b1)])) _
      refine st13 _ ?_
      refine XS.aload X13.here hx rfl (hb hby at_306) rfl rfl ?_
      refine XS.iload X13.here hx rfl (hb hby at_308) rfl ?_
      refine XS.aload X13.here hx rfl (hb hby at_310) rfl rfl ?_
      show Steps p.tables e below (T13.setTop (mkF m 312 #[.val (.long q1), .second, .val (.long q2), .second, .val (.long q3), .second, .val (.long q4), .second, .val (.int p5), .val (.int p6), .val (.int rv), .val (.int ov), .val (.int h0_), .val (.int h1_), .val (.int h2_), .val (.int h3_), .val (.int ol), .val (.int ho), .val (.int rev), .val (.ref bw), .val (.ref b1)] [(.ref b1), (.int rv), (.ref bw)])) _
      refine st14.trans ?_
      refine XS.aload X14.here hx rfl (hb hby at_315) rfl rfl ?_
      refine XS.iconst X14.here hx rfl (hb hby at_317) ?_
      refine X14.daload hx (j := (0 : Int32)) (v := (.double (own_dd h0_ (FP.i2d ((p6 >>> (((8 : Int32) * (0 : Int32)) &&& 31)).toInt8.toInt32)) q1))) (by exact Ar_b1_318_15.1) (State.isArrayOf_alike hZ.alike Ar_b1_318_15.2.1) Ar_b1_318_15.2.2 hin_b1_318_15 (H_b1_318_15.at hin_b1_318_15 rfl) (g := (mkF m 318 #[.val (.long q1), .second, .val (.long q2), .second, .val (.long q3), .second, .val (.long q4), .second, .val (.int p5), .val (.int p6), .val (.int rv), .val (.int ov), .val (.int h0_), .val (.int h1_), .val (.int h2_), .val (.int h3_), .val (.int ol), .val (.int ho), .val (.int rev), .val (.ref bw), .val (.ref b1)] [(.int (0 : Int32)), (.ref b1)])) rfl rfl (hb hby at_318) _ ?_
      refine XS.iload X14.here hx rfl (hb hby at_319) rfl ?_
      refine XS.iconst X14.here hx rfl (hb hby at_321) ?_
      refine XS.iload X14.here hx rfl (hb hby at_322) rfl ?_
      refine XS.lloadN X14.here hx rfl (hb hby at_324) rfl ?_
      show Steps p.tables e below (T14.setTop (mkF m 325 #[.val (.long q1), .second, .val (.long q2), .second, .val (.long q3), .second, .val (.long q4), .second, .val (.int p5), .val (.int p6), .val (.int rv), .val (.int ov), .val (.int h0_), .val (.int h1_), .val (.int h2_), .val (.int h3_), .val (.int ol), .val (.int ho), .val (.int rev), .val (.ref bw), .val (.ref b1)] [(.long q1), (.int h0_), (.int (0 : Int32)), (.int p6), (.double (own_dd h0_ (FP.i2d ((p6 >>> (((8 : Int32) * (0 : Int32)) &&& 31)).toInt8.toInt32)) q1))])) _
      refine st16 _ ?_
      refine own_dcmp X16.here hx rfl (hb hby at_328) rfl ?_
      refine XS.ifNo X16.here hx rfl (hb hby at_329) rfl ((if0 _ _).trans (teq (own_same p6 (0 : Int32) h0_ q1 : (cmpValue (FP.dcmp (own_dd h0_ (FP.i2d ((p6 >>> (((8 : Int32) * (0 : Int32)) &&& 31)).toInt8.toInt32)) q1) (res8 p6 (0 : Int32) h0_ q1)) .l) = (0 : Int32))).2) ?_
      refine XS.aload X16.here hx rfl (hb hby at_332) rfl rfl ?_
      refine XS.iconst X16.here hx rfl (hb hby at_334) ?_
      refine X16.daload hx (j := (1 : Int32)) (v := (.double (own_dd h1_ (FP.i2d ((p6 >>> (((8 : Int32) * (1 : Int32)) &&& 31)).toInt8.toInt32)) q2))) (by rw [e16]; exact Ar_b1_335_17.1) (State.isArrayOf_alike hZ.alike Ar_b1_335_17.2.1) Ar_b1_335_17.2.2 hin_b1_335_17 (H_b1_335_17.at hin_b1_335_17 rfl) (g := (mkF m 335 #[.val (.long q1), .second, .val (.long q2), .second, .val (.long q3), .second, .val (.long q4), .second, .val (.int p5), .val (.int p6), .val (.int rv), .val (.int ov), .val (.int h0_), .val (.int h1_), .val (.int h2_), .val (.int h3_), .val (.int ol), .val (.int ho), .val (.int rev), .val (.ref bw), .val (.ref b1)] [(.int (1 : Int32)), (.ref b1)])) rfl rfl (hb hby at_335) _ ?_
      refine XS.iload X16.here hx rfl (hb hby at_336) rfl ?_
      refine XS.iconst X16.here hx rfl (hb hby at_338) ?_
      refine XS.iload X16.here hx rfl (hb hby at_339) rfl ?_
      refine XS.lloadN X16.here hx rfl (hb hby at_341) rfl ?_
      show Steps p.tables e below (T16.setTop (mkF m 342 #[.val (.long q1), .second, .val (.long q2), .second, .val (.long q3), .second, .val (.long q4), .second, .val (.int p5), .val (.int p6), .val (.int rv), .val (.int ov), .val (.int h0_), .val (.int h1_), .val (.int h2_), .val (.int h3_), .val (.int ol), .val (.int ho), .val (.int rev), .val (.ref bw), .val (.ref b1)] [(.long q2), (.int h1_), (.int (1 : Int32)), (.int p6), (.double (own_dd h1_ (FP.i2d ((p6 >>> (((8 : Int32) * (1 : Int32)) &&& 31)).toInt8.toInt32)) q2))])) _
      refine st18 _ ?_
      refine own_dcmp X18.here hx rfl (hb hby at_345) rfl ?_
      refine XS.ifNo X18.here hx rfl (hb hby at_346) rfl ((if0 _ _).trans (teq (own_same p6 (1 : Int32) h1_ q2 : (cmpValue (FP.dcmp (own_dd h1_ (FP.i2d ((p6 >>> (((8 : Int32) * (1 : Int32)) &&& 31)).toInt8.toInt32)) q2) (res8 p6 (1 : Int32) h1_ q2)) .l) = (0 : Int32))).2) ?_
      refine XS.aload X18.here hx rfl (hb hby at_349) rfl rfl ?_
      show Steps p.tables e below (T18.setTop (mkF m 351 #[.val (.long q1), .second, .val (.long q2), .second, .val (.long q3), .second, .val (.long q4), .second, .val (.int p5), .val (.int p6), .val (.int rv), .val (.int ov), .val (.int h0_), .val (.int h1_), .val (.int h2_), .val (.int h3_), .val (.int ol), .val (.int ho), .val (.int rev), .val (.ref bw), .val (.ref b1)] [(.ref b1)])) _
      refine XS.iconst X18.here hx rfl (hb hby at_351) ?_
      refine X18.daload hx (j := (2 : Int32)) (v := (.double (own_dd h2_ (FP.i2d ((p6 >>> (((8 : Int32) * (2 : Int32)) &&& 31)).toInt8.toInt32)) q3))) (by rw [e18]; exact Ar_b1_352_19.1) (State.isArrayOf_alike hZ.alike Ar_b1_352_19.2.1) Ar_b1_352_19.2.2 hin_b1_352_19 (H_b1_352_19.at hin_b1_352_19 rfl) (g := (mkF m 352 #[.val (.long q1), .second, .val (.long q2), .second, .val (.long q3), .second, .val (.long q4), .second, .val (.int p5), .val (.int p6), .val (.int rv), .val (.int ov), .val (.int h0_), .val (.int h1_), .val (.int h2_), .val (.int h3_), .val (.int ol), .val (.int ho), .val (.int rev), .val (.ref bw), .val (.ref b1)] [(.int (2 : Int32)), (.ref b1)])) rfl rfl (hb hby at_352) _ ?_
      refine XS.iload X18.here hx rfl (hb hby at_353) rfl ?_
      refine XS.iconst X18.here hx rfl (hb hby at_355) ?_
      refine XS.iload X18.here hx rfl (hb hby at_356) rfl ?_
      refine XS.lload X18.here hx rfl (hb hby at_358) rfl ?_
      show Steps p.tables e below (T18.setTop (mkF m 360 #[.val (.long q1), .second, .val (.long q2), .second, .val (.long q3), .second, .val (.long q4), .second, .val (.int p5), .val (.int p6), .val (.int rv), .val (.int ov), .val (.int h0_), .val (.int h1_), .val (.int h2_), .val (.int h3_), .val (.int ol), .val (.int ho), .val (.int rev), .val (.ref bw), .val (.ref b1)] [(.long q3), (.int h2_), (.int (2 : Int32)), (.int p6), (.double (own_dd h2_ (FP.i2d ((p6 >>> (((8 : Int32) * (2 : Int32)) &&& 31)).toInt8.toInt32)) q3))])) _
      refine st20 _ ?_
      refine own_dcmp X20.here hx rfl (hb hby at_363) rfl ?_
      refine XS.ifNo X20.here hx rfl (hb hby at_364) rfl ((if0 _ _).trans (teq (own_same p6 (2 : Int32) h2_ q3 : (cmpValue (FP.dcmp (own_dd h2_ (FP.i2d ((p6 >>> (((8 : Int32) * (2 : Int32)) &&& 31)).toInt8.toInt32)) q3) (res8 p6 (2 : Int32) h2_ q3)) .l) = (0 : Int32))).2) ?_
      refine XS.aload X20.here hx rfl (hb hby at_367) rfl rfl ?_
      refine XS.iconst X20.here hx rfl (hb hby at_369) ?_
      refine X20.daload hx (j := (3 : Int32)) (v := (.double (own_dd h3_ (FP.i2d ((p6 >>> (((8 : Int32) * (3 : Int32)) &&& 31)).toInt8.toInt32)) q4))) (by rw [e20]; exact Ar_b1_370_21.1) (State.isArrayOf_alike hZ.alike Ar_b1_370_21.2.1) Ar_b1_370_21.2.2 hin_b1_370_21 (H_b1_370_21.at hin_b1_370_21 rfl) (g := (mkF m 370 #[.val (.long q1), .second, .val (.long q2), .second, .val (.long q3), .second, .val (.long q4), .second, .val (.int p5), .val (.int p6), .val (.int rv), .val (.int ov), .val (.int h0_), .val (.int h1_), .val (.int h2_), .val (.int h3_), .val (.int ol), .val (.int ho), .val (.int rev), .val (.ref bw), .val (.ref b1)] [(.int (3 : Int32)), (.ref b1)])) rfl rfl (hb hby at_370) _ ?_
      refine XS.iload X20.here hx rfl (hb hby at_371) rfl ?_
      refine XS.iconst X20.here hx rfl (hb hby at_373) ?_
      refine XS.iload X20.here hx rfl (hb hby at_374) rfl ?_
      refine XS.lload X20.here hx rfl (hb hby at_376) rfl ?_
      show Steps p.tables e below (T20.setTop (mkF m 378 #[.val (.long q1), .second, .val (.long q2), .second, .val (.long q3), .second, .val (.long q4), .second, .val (.int p5), .val (.int p6), .val (.int rv), .val (.int ov), .val (.int h0_), .val (.int h1_), .val (.int h2_), .val (.int h3_), .val (.int ol), .val (.int ho), .val (.int rev), .val (.ref bw), .val (.ref b1)] [(.long q4), (.int h3_), (.int (3 : Int32)), (.int p6), (.double (own_dd h3_ (FP.i2d ((p6 >>> (((8 : Int32) * (3 : Int32)) &&& 31)).toInt8.toInt32)) q4))])) _
      refine st22 _ ?_
      refine own_dcmp X22.here hx rfl (hb hby at_381) rfl ?_
      refine XS.ifNo X22.here hx rfl (hb hby at_382) rfl ((if0 _ _).trans (teq (own_same p6 (3 : Int32) h3_ q4 : (cmpValue (FP.dcmp (own_dd h3_ (FP.i2d ((p6 >>> (((8 : Int32) * (3 : Int32)) &&& 31)).toInt8.toInt32)) q4) (res8 p6 (3 : Int32) h3_ q4)) .l) = (0 : Int32))).2) ?_
      refine XS.iconst X22.here hx rfl (hb hby at_385) ?_
      refine XS.goto X22.here hx rfl (pc0 := 386) (pc' := 390) rfl (hb hby at_386) (by decide) (by decide) ?_
      show Steps p.tables e below (T22.setTop (mkF m 390 #[.val (.long q1), .second, .val (.long q2), .second, .val (.long q3), .second, .val (.long q4), .second, .val (.int p5), .val (.int p6), .val (.int rv), .val (.int ov), .val (.int h0_), .val (.int h1_), .val (.int h2_), .val (.int h3_), .val (.int ol), .val (.int ho), .val (.int rev), .val (.ref bw), .val (.ref b1)] [(.int (1 : Int32))])) _
      exact retN X22 hx (t := .boolean) Bd.returns (by simp) (hb hby at_390) hr
    · show Q0 Z q1 q2 q3 q4 p5 p6 w_NONE kN h0 n0 _ T22.heap _
      rw [e22]
      exact ⟨rfl, N22⟩
  · intro cut261
    refine own_cut (Q := fun G => ∀ (Tq137 : State) (locsq137 : List Loc) (Xq137 : Stand p l e room_1 s m #[(.long q1), (.long q2), (.long q3), (.long q4), (.int p5), (.int p6)] below meth c Tq137 locsq137 3 12) (Hq137 : Heap) (eq137 : Tq137.heap = Hq137) (Nq137 : Fr n0 locsq137) (Kq137 : Keep h0 Hq137 []) (rv : Int32) (ov : Int32) (h0_ : Int32) (h1_ : Int32) (h2_ : Int32) (h3_ : Int32) (ol : Int32) (ho : Int32) (rev : Int32) (bw : Addr) (rr : Addr) (kr : ClassId) (sg : Addr) (preq137 : ∀ t, Steps p.tables e below (Tq137.setTop (mkF m 137 #[.val (.long q1), .second, .val (.long q2), .second, .val (.long q3), .second, .val (.long q4), .second, .val (.int p5), .val (.int p6), .val (.int rv), .val (.int ov), .val (.int h0_), .val (.int h1_), .val (.int h2_), .val (.int h3_), .val (.int ol), .val (.int ho), .val (.int rev), .val (.ref bw), .unset] [])) t → Steps p.tables e below (s₁.setTop (entryFrame m #[(.long q1), (.long q2), (.long q3), (.long q4), (.int p5), (.int p6)] maxLocals)) t) (sz_bw : h0.size ≤ bw) (sz_rr : h0.size ≤ rr) (E_bw : Exa Z Hq137 bw "com/example/chartlight/chartlight/label/WeightRows") (F_bw : Fld Z Hq137 bw "com/example/chartlight/chartlight/label/WeightRows" "_rows" "[[J" (.ref rr)) (E_rr : Exa Z Hq137 rr "[[J") (V_rr : Arv Z Hq137 rr kr (.array .long) (2 : Int32) (own_pair rv (.ref w_NONE) (.ref sg)) .null) (hne_bw : bw ≠ rr) (hO : OvrA Z kr .long "[J") (r_rv : rv = (0 : Int32) ∨ rv = (1 : Int32)), G) ?_ ?_
    · intro Tq137 locsq137 Xq137 Hq137 eq137 Nq137 Kq137 rv ov h0_ h1_ h2_ h3_ ol ho rev bw rr kr sg preq137 sz_bw sz_rr E_bw F_bw E_rr V_rr hne_bw hO r_rv
      have V_N0 : Arv Z Hq137 w_NONE kN .long (own_n (0 : Int32) (0 : Int32) (0 : Int32) (0 : Int32)) (own_row (0 : Int32) (0 : Int32) (0 : Int32) (0 : Int32) q1 q2 q3 q4) (.long (0 : Int64)) := by rw [own_rw_0 rfl rfl rfl rfl, own_nw_0 rfl rfl rfl rfl]; exact (V_w_NONE.keep Kq137 nin0)
      have g_bw : n0 ≤ bw := Nat.le_trans Z0 sz_bw
      have g_rr : n0 ≤ rr := Nat.le_trans Z0 sz_rr
      have pre23 : ∀ t, Steps p.tables e below (Tq137.setTop (mkF m 139 #[.val (.long q1), .second, .val (.long q2), .second, .val (.long q3), .second, .val (.long q4), .second, .val (.int p5), .val (.int p6), .val (.int rv), .val (.int ov), .val (.int h0_), .val (.int h1_), .val (.int h2_), .val (.int h3_), .val (.int ol), .val (.int ho), .val (.int rev), .val (.ref bw), .unset] [(.int rev)])) t → Steps p.tables e below (s₁.setTop (entryFrame m #[(.long q1), (.long q2), (.long q3), (.long q4), (.int p5), (.int p6)] maxLocals)) t := by
        intro t kt
        refine preq137 _ ?_
        show Steps p.tables e below (Tq137.setTop (mkF m 137 #[.val (.long q1), .second, .val (.long q2), .second, .val (.long q3), .second, .val (.long q4), .second, .val (.int p5), .val (.int p6), .val (.int rv), .val (.int ov), .val (.int h0_), .val (.int h1_), .val (.int h2_), .val (.int h3_), .val (.int ol), .val (.int ho), .val (.int rev), .val (.ref bw), .unset] [])) _
        refine XS.iload Xq137.here hx rfl (hb hby at_137) rfl ?_
        exact kt
      by_cases hc139_24 : rev = (0 : Int32)
      · have pre25 : ∀ t, Steps p.tables e below (Tq137.setTop (mkF m 205 #[.val (.long q1), .second, .val (.long q2), .second, .val (.long q3), .second, .val (.long q4), .second, .val (.int p5), .val (.int p6), .val (.int rv), .val (.int ov), .val (.int h0_), .val (.int h1_), .val (.int h2_), .val (.int h3_), .val (.int ol), .val (.int ho), .val (.int rev), .val (.ref bw), .unset] [(.int h0_)])) t → Steps p.tables e below (s₁.setTop (entryFrame m #[(.long q1), (.long q2), (.long q3), (.long q4), (.int p5), (.int p6)] maxLocals)) t := by
          intro t kt
          refine pre23 _ ?_
          refine XS.ifYes Xq137.here hx rfl (pc0 := 139) (pc' := 203) rfl (hb hby at_139) rfl ((if0 _ _).trans (teq hc139_24).1) (by decide) (by decide) ?_
          refine XS.iload Xq137.here hx rfl (hb hby at_203) rfl ?_
          exact kt
        by_cases hc205_26 : h0_ = (0 : Int32)
        · rw [hc205_26] at pre25
          have pre27 : ∀ t, Steps p.tables e below (Tq137.setTop (mkF m 219 #[.val (.long q1), .second, .val (.long q2), .second, .val (.long q3), .second, .val (.long q4), .second, .val (.int p5), .val (.int p6), .val (.int rv), .val (.int ov), .val (.int (0 : Int32)), .val (.int h1_), .val (.int h2_), .val (.int h3_), .val (.int ol), .val (.int ho), .val (.int rev), .val (.ref bw), .unset] [(.int h1_)])) t → Steps p.tables e below (s₁.setTop (entryFrame m #[(.long q1), (.long q2), (.long q3), (.long q4), (.int p5), (.int p6)] maxLocals)) t := by
            intro t kt
            refine pre25 _ ?_
            refine XS.ifYes Xq137.here hx rfl (pc0 := 205) (pc' := 217) rfl (hb hby at_205) rfl ((if0 _ _).trans (teq (rfl : (0 : Int32) = (0 : Int32))).1) (by decide) (by decide) ?_
            refine XS.iload Xq137.here hx rfl (hb hby at_217) rfl ?_
            exact kt
          by_cases hc219_28 : h1_ = (0 : Int32)
          · rw [hc219_28] at pre27
            have pre29 : ∀ t, Steps p.tables e below (Tq137.setTop (mkF m 233 #[.val (.long q1), .second, .val (.long q2), .second, .val (.long q3), .second, .val (.long q4), .second, .val (.int p5), .val (.int p6), .val (.int rv), .val (.int ov), .val (.int (0 : Int32)), .val (.int (0 : Int32)), .val (.int h2_), .val (.int h3_), .val (.int ol), .val (.int ho), .val (.int rev), .val (.ref bw), .unset] [(.int h2_)])) t → Steps p.tables e below (s₁.setTop (entryFrame m #[(.long q1), (.long q2), (.long q3), (.long q4), (.int p5), (.int p6)] maxLocals)) t := by
              intro t kt
              refine pre27 _ ?_
              refine XS.ifYes Xq137.here hx rfl (pc0 := 219) (pc' := 231) rfl (hb hby at_219) rfl ((if0 _ _).trans (teq (rfl : (0 : Int32) = (0 : Int32))).1) (by decide) (by decide) ?_
              refine XS.iload Xq137.here hx rfl (hb hby at_231) rfl ?_
              exact kt
            by_cases hc233_30 : h2_ = (0 : Int32)
            · rw [hc233_30] at pre29
              have pre31 : ∀ t, Steps p.tables e below (Tq137.setTop (mkF m 248 #[.val (.long q1), .second, .val (.long q2), .second, .val (.long q3), .second, .val (.long q4), .second, .val (.int p5), .val (.int p6), .val (.int rv), .val (.int ov), .val (.int (0 : Int32)), .val (.int (0 : Int32)), .val (.int (0 : Int32)), .val (.int h3_), .val (.int ol), .val (.int ho), .val (.int rev), .val (.ref bw), .unset] [(.int h3_)])) t → Steps p.tables e below (s₁.setTop (entryFrame m #[(.long q1), (.long q2), (.long q3), (.long q4), (.int p5), (.int p6)] maxLocals)) t := by
                intro t kt
                refine pre29 _ ?_
                refine XS.ifYes Xq137.here hx rfl (pc0 := 233) (pc' := 246) rfl (hb hby at_233) rfl ((if0 _ _).trans (teq (rfl : (0 : Int32) = (0 : Int32))).1) (by decide) (by decide) ?_
                refine XS.iload Xq137.here hx rfl (hb hby at_246) rfl ?_
                exact kt
              by_cases hc248_32 : h3_ = (0 : Int32)
              · rw [hc248_32] at pre31
                have pre33 : ∀ t, Steps p.tables e below (Tq137.setTop (mkF m 261 #[.val (.long q1), .second, .val (.long q2), .second, .val (.long q3), .second, .val (.long q4), .second, .val (.int p5), .val (.int p6), .val (.int rv), .val (.int ov), .val (.int (0 : Int32)), .val (.int (0 : Int32)), .val (.int (0 : Int32)), .val (.int (0 : Int32)), .val (.int ol), .val (.int ho), .val (.int rev), .val (.ref bw), .unset] [])) t → Steps p.tables e below (s₁.setTop (entryFrame m #[(.long q1), (.long q2), (.long q3), (.long q4), (.int p5), (.int p6)] maxLocals)) t := by
                  intro t kt
                  refine pre31 _ ?_
                  refine XS.ifYes Xq137.here hx rfl (pc0 := 248) (pc' := 261) rfl (hb hby at_248) rfl ((if0 _ _).trans (teq (rfl : (0 : Int32) = (0 : Int32))).1) (by decide) (by decide) ?_
                  exact kt
                exact cut261 Tq137 _ (own_smono Xq137 (by decide) (by decide)) _ eq137 Nq137 Kq137 rv ov (0 : Int32) (0 : Int32) (0 : Int32) (0 : Int32) ol ho rev bw rr kr w_NONE kN sg pre33 E_bw F_bw V_rr V_N0 (r_rv : rv = (0 : Int32) ∨ rv = (1 : Int32))
              · obtain ⟨cq34, kq34, q34a, q34b, q34c⟩ := isOf hZ eq137 E_bw
                obtain ⟨_, _, ⟨T34, L34, k34, n34⟩, -, X34, ⟨Lc34, hQ34, l34, y34, z34⟩, st34⟩ := Xq137.virtualBack hx (y := (⟨"com/example/chartlight/chartlight/label/WeightRows", "add", "(IIJ)V"⟩ : MethodName)) (z := (⟨"com/example/chartlight/chartlight/label/WeightRows", "add", "(IIJ)V"⟩ : MethodName)) hown (mvT hZ (hw _ (List.mem_of_getElem? (i := 22) rfl))) (mvT hZ (hw _ (List.mem_of_getElem? (i := 23) rfl))) (notFace_of_selects (args := #[]) (mvT hZ (hw _ (List.mem_of_getElem? (i := 25) rfl)))) (mvT hZ (hw _ (List.mem_of_getElem? (i := 25) rfl))) (mvT hZ (hw _ (List.mem_of_getElem? (i := 24) rfl))) (by decide) (backOf (W := 0) (rm_addA3 l Z a0 hw [] bw rv q4 rr kr w_NONE sg kN (0 : Int32) (0 : Int32) (0 : Int32) h3_ q1 q2 q3 q4 Hq137 n0 (Nat.le_trans Z0 Kq137.1) F_bw V_rr E_rr V_N0 g_rr (r_rv : rv = (0 : Int32) ∨ rv = (1 : Int32)) (hO : OvrA Z kr .long "[J") ((Nat.ne_of_lt (Nat.lt_of_lt_of_le E_w_NONE.lt sz_rr)) : w_NONE ≠ rr) (hc248_32 : ¬ (h3_ = (0 : Int32)))) hZ (hw _ (List.mem_of_getElem? (i := 26) rfl)) (hw _ (List.mem_of_getElem? (i := 2) rfl)) (by decide) (by decide)) q34a q34c (g := (mkF m 258 #[.val (.long q1), .second, .val (.long q2), .second, .val (.long q3), .second, .val (.long q4), .second, .val (.int p5), .val (.int p6), .val (.int rv), .val (.int ov), .val (.int (0 : Int32)), .val (.int (0 : Int32)), .val (.int (0 : Int32)), .val (.int h3_), .val (.int ol), .val (.int ho), .val (.int rev), .val (.ref bw), .unset] [(.long q4), (.int (3 : Int32)), (.int rv), (.ref bw)])) rfl (by rw [hml]; rfl) (Steps.refl _) (argsL := [(.int rv), (.int (3 : Int32)), (.long q4)]) (rest := []) (lenOf pd5 rfl) rfl (by show 2 * 0 + _ ≤ _; exact Nat.le_of_eq rfl) (hb hby at_258) (fun _ _ => ⟨rfl, eq137, (by decide : 3 + 1 ≤ _), (by decide : 12 + 8 ≤ _)⟩)
                dsimp only [Pt.U, Pt.locs, Pt.cells, Pt.slots] at X34 l34 y34 z34 st34 hQ34
                subst l34 y34 z34
                obtain ⟨b_34, kb_34, rfl, N34q, K34, s34_b, f34_0, f34_1, f34_2, f34_3⟩ := hQ34
                have N34 := Fr.app Nq137 N34q
                have sz_b_34 : h0.size ≤ b_34 := Nat.le_trans Kq137.1 s34_b
                have g_b_34 : n0 ≤ b_34 := Nat.le_trans Z0 sz_b_34
                have KK34 : Keep h0 T34.heap [] := Kq137.trans K34 (allS (Or.inr sz_rr) all0)
                have pre35 : ∀ t, Steps p.tables e below (T34.setTop (mkF m 261 #[.val (.long q1), .second, .val (.long q2), .second, .val (.long q3), .second, .val (.long q4), .second, .val (.int p5), .val (.int p6), .val (.int rv), .val (.int ov), .val (.int (0 : Int32)), .val (.int (0 : Int32)), .val (.int (0 : Int32)), .val (.int h3_), .val (.int ol), .val (.int ho), .val (.int rev), .val (.ref bw), .unset] [])) t → Steps p.tables e below (s₁.setTop (entryFrame m #[(.long q1), (.long q2), (.long q3), (.long q4), (.int p5), (.int p6)] maxLocals)) t := by
                  intro t kt
                  refine pre31 _ ?_
                  refine XS.ifNo Xq137.here hx rfl (hb hby at_248) rfl ((if0 _ _).trans (feq hc248_32).1) ?_
                  refine XS.aload Xq137.here hx rfl (hb hby at_251) rfl rfl ?_
                  refine XS.iload Xq137.here hx rfl (hb hby at_253) rfl ?_
                  refine XS.iconst Xq137.here hx rfl (hb hby at_255) ?_
                  refine XS.lload Xq137.here hx rfl (hb hby at_256) rfl ?_
                  show Steps p.tables e below (Tq137.setTop (mkF m 258 #[.val (.long q1), .second, .val (.long q2), .second, .val (.long q3), .second, .val (.long q4), .second, .val (.int p5), .val (.int p6), .val (.int rv), .val (.int ov), .val (.int (0 : Int32)), .val (.int (0 : Int32)), .val (.int (0 : Int32)), .val (.int h3_), .val (.int ol), .val (.int ho), .val (.int rev), .val (.ref bw), .unset] [(.long q4), (.int (3 : Int32)), (.int rv), (.ref bw)])) _
                  refine st34.trans ?_
                  exact kt
                exact cut261 T34 _ (own_smono X34 (by decide) (by decide)) _ rfl N34 KK34 rv ov (0 : Int32) (0 : Int32) (0 : Int32) h3_ ol ho rev bw rr kr b_34 kb_34 sg pre35 (E_bw.keep K34) (F_bw.keep K34 (ninS hne_bw nin0)) f34_1 f34_2 (r_rv : rv = (0 : Int32) ∨ rv = (1 : Int32))
            · obtain ⟨cq36, kq36, q36a, q36b, q36c⟩ := isOf hZ eq137 E_bw
              obtain ⟨_, _, ⟨T36, L36, k36, n36⟩, -, X36, ⟨Lc36, hQ36, l36, y36, z36⟩, st36⟩ := Xq137.virtualBack hx (y := (⟨"com/example/chartlight/chartlight/label/WeightRows", "add", "(IIJ)V"⟩ : MethodName)) (z := (⟨"com/example/chartlight/chartlight/label/WeightRows", "add", "(IIJ)V"⟩ : MethodName)) hown (mvT hZ (hw _ (List.mem_of_getElem? (i := 22) rfl))) (mvT hZ (hw _ (List.mem_of_getElem? (i := 23) rfl))) (notFace_of_selects (args := #[]) (mvT hZ (hw _ (List.mem_of_getElem? (i := 25) rfl)))) (mvT hZ (hw _ (List.mem_of_getElem? (i := 25) rfl))) (mvT hZ (hw _ (List.mem_of_getElem? (i := 24) rfl))) (by decide) (backOf (W := 0) (rm_addA2 l Z a0 hw [] bw rv q3 rr kr w_NONE sg kN (0 : Int32) (0 : Int32) h2_ q1 q2 q3 q4 Hq137 n0 (Nat.le_trans Z0 Kq137.1) F_bw V_rr E_rr V_N0 g_rr (r_rv : rv = (0 : Int32) ∨ rv = (1 : Int32)) (hO : OvrA Z kr .long "[J") ((Nat.ne_of_lt (Nat.lt_of_lt_of_le E_w_NONE.lt sz_rr)) : w_NONE ≠ rr) (hc233_30 : ¬ (h2_ = (0 : Int32)))) hZ (hw _ (List.mem_of_getElem? (i := 26) rfl)) (hw _ (List.mem_of_getElem? (i := 2) rfl)) (by decide) (by decide)) q36a q36c (g := (mkF m 243 #[.val (.long q1), .second, .val (.long q2), .second, .val (.long q3), .second, .val (.long q4), .second, .val (.int p5), .val (.int p6), .val (.int rv), .val (.int ov), .val (.int (0 : Int32)), .val (.int (0 : Int32)), .val (.int h2_), .val (.int h3_), .val (.int ol), .val (.int ho), .val (.int rev), .val (.ref bw), .unset] [(.long q3), (.int (2 : Int32)), (.int rv), (.ref bw)])) rfl (by rw [hml]; rfl) (Steps.refl _) (argsL := [(.int rv), (.int (2 : Int32)), (.long q3)]) (rest := []) (lenOf pd5 rfl) rfl (by show 2 * 0 + _ ≤ _; exact Nat.le_of_eq rfl) (hb hby at_243) (fun _ _ => ⟨rfl, eq137, (by decide : 3 + 1 ≤ _), (by decide : 12 + 8 ≤ _)⟩)
              dsimp only [Pt.U, Pt.locs, Pt.cells, Pt.slots] at X36 l36 y36 z36 st36 hQ36
              subst l36 y36 z36
              obtain ⟨b_36, kb_36, rfl, N36q, K36, s36_b, f36_0, f36_1, f36_2, f36_3⟩ := hQ36
              have N36 := Fr.app Nq137 N36q
              have sz_b_36 : h0.size ≤ b_36 := Nat.le_trans Kq137.1 s36_b
              have g_b_36 : n0 ≤ b_36 := Nat.le_trans Z0 sz_b_36
              have KK36 : Keep h0 T36.heap [] := Kq137.trans K36 (allS (Or.inr sz_rr) all0)
              have pre37 : ∀ t, Steps p.tables e below (T36.setTop (mkF m 248 #[.val (.long q1), .second, .val (.long q2), .second, .val (.long q3), .second, .val (.long q4), .second, .val (.int p5), .val (.int p6), .val (.int rv), .val (.int ov), .val (.int (0 : Int32)), .val (.int (0 : Int32)), .val (.int h2_), .val (.int h3_), .val (.int ol), .val (.int ho), .val (.int rev), .val (.ref bw), .unset] [(.int h3_)])) t → Steps p.tables e below (s₁.setTop (entryFrame m #[(.long q1), (.long q2), (.long q3), (.long q4), (.int p5), (.int p6)] maxLocals)) t := by
                intro t kt
                refine pre29 _ ?_
                refine XS.ifNo Xq137.here hx rfl (hb hby at_233) rfl ((if0 _ _).trans (feq hc233_30).1) ?_
                refine XS.aload Xq137.here hx rfl (hb hby at_236) rfl rfl ?_
                refine XS.iload Xq137.here hx rfl (hb hby at_238) rfl ?_
                refine XS.iconst Xq137.here hx rfl (hb hby at_240) ?_
                refine XS.lload Xq137.here hx rfl (hb hby at_241) rfl ?_
                show Steps p.tables e below (Tq137.setTop (mkF m 243 #[.val (.long q1), .second, .val (.long q2), .second, .val (.long q3), .second, .val (.long q4), .second, .val (.int p5), .val (.int p6), .val (.int rv), .val (.int ov), .val (.int (0 : Int32)), .val (.int (0 : Int32)), .val (.int h2_), .val (.int h3_), .val (.int ol), .val (.int ho), .val (.int rev), .val (.ref bw), .unset] [(.long q3), (.int (2 : Int32)), (.int rv), (.ref bw)])) _
                refine st36.trans ?_
                refine XS.iload X36.here hx rfl (hb hby at_246) rfl ?_
                exact kt
              by_cases hc248_38 : h3_ = (0 : Int32)
              · rw [hc248_38] at pre37
                have pre39 : ∀ t, Steps p.tables e below (T36.setTop (mkF m 261 #[.val (.long q1), .second, .val (.long q2), .second, .val (.long q3), .second, .val (.long q4), .second, .val (.int p5), .val (.int p6), .val (.int rv), .val (.int ov), .val (.int (0 : Int32)), .val (.int (0 : Int32)), .val (.int h2_), .val (.int (0 : Int32)), .val (.int ol), .val (.int ho), .val (.int rev), .val (.ref bw), .unset] [])) t → Steps p.tables e below (s₁.setTop (entryFrame m #[(.long q1), (.long q2), (.long q3), (.long q4), (.int p5), (.int p6)] maxLocals)) t := by
                  intro t kt
                  refine pre37 _ ?_
                  refine XS.ifYes X36.here hx rfl (pc0 := 248) (pc' := 261) rfl (hb hby at_248) rfl ((if0 _ _).trans (teq (rfl : (0 : Int32) = (0 : Int32))).1) (by decide) (by decide) ?_
                  exact kt
                exact cut261 T36 _ (own_smono X36 (by decide) (by decide)) _ rfl N36 KK36 rv ov (0 : Int32) (0 : Int32) h2_ (0 : Int32) ol ho rev bw rr kr b_36 kb_36 sg pre39 (E_bw.keep K36) (F_bw.keep K36 (ninS hne_bw nin0)) f36_1 f36_2 (r_rv : rv = (0 : Int32) ∨ rv = (1 : Int32))
              · obtain ⟨cq40, kq40, q40a, q40b, q40c⟩ := isOf hZ rfl (E_bw.keep K36)
                obtain ⟨_, _, ⟨T40, L40, k40, n40⟩, -, X40, ⟨Lc40, hQ40, l40, y40, z40⟩, st40⟩ := X36.virtualBack hx (y := (⟨"com/example/chartlight/chartlight/label/WeightRows", "add", "(IIJ)V"⟩ : MethodName)) (z := (⟨"com/example/chartlight/chartlight/label/WeightRows", "add", "(IIJ)V"⟩ : MethodName)) hown (mvT hZ (hw _ (List.mem_of_getElem? (i := 22) rfl))) (mvT hZ (hw _ (List.mem_of_getElem? (i := 23) rfl))) (notFace_of_selects (args := #[]) (mvT hZ (hw _ (List.mem_of_getElem? (i := 25) rfl)))) (mvT hZ (hw _ (List.mem_of_getElem? (i := 25) rfl))) (mvT hZ (hw _ (List.mem_of_getElem? (i := 24) rfl))) (by decide) (backOf (W := 0) (rm_addA3 l Z a0 hw [] bw rv q4 rr kr b_36 sg kb_36 (0 : Int32) (0 : Int32) h2_ h3_ q1 q2 q3 q4 T36.heap n0 (Nat.le_trans Z0 KK36.1) (F_bw.keep K36 (ninS hne_bw nin0)) f36_1 (E_rr.keep K36) f36_2 g_rr (r_rv : rv = (0 : Int32) ∨ rv = (1 : Int32)) (hO : OvrA Z kr .long "[J") ((Ne.symm (Nat.ne_of_lt (Nat.lt_of_lt_of_le E_rr.lt s36_b))) : b_36 ≠ rr) (hc248_38 : ¬ (h3_ = (0 : Int32)))) hZ (hw _ (List.mem_of_getElem? (i := 26) rfl)) (hw _ (List.mem_of_getElem? (i := 2) rfl)) (by decide) (by decide)) q40a q40c (g := (mkF m 258 #[.val (.long q1), .second, .val (.long q2), .second, .val (.long q3), .second, .val (.long q4), .second, .val (.int p5), .val (.int p6), .val (.int rv), .val (.int ov), .val (.int (0 : Int32)), .val (.int (0 : Int32)), .val (.int h2_), .val (.int h3_), .val (.int ol), .val (.int ho), .val (.int rev), .val (.ref bw), .unset] [(.long q4), (.int (3 : Int32)), (.int rv), (.ref bw)])) rfl (by rw [hml]; rfl) (Steps.refl _) (argsL := [(.int rv), (.int (3 : Int32)), (.long q4)]) (rest := []) (lenOf pd5 rfl) rfl (by show 2 * 0 + _ ≤ _; exact Nat.le_of_eq rfl) (hb hby at_258) (fun _ _ => ⟨rfl, rfl, (by decide : 4 + 1 ≤ _), (by decide : 20 + 8 ≤ _)⟩)
                dsimp only [Pt.U, Pt.locs, Pt.cells, Pt.slots] at X40 l40 y40 z40 st40 hQ40
                subst l40 y40 z40
                obtain ⟨b_40, kb_40, rfl, N40q, K40, s40_b, f40_0, f40_1, f40_2, f40_3⟩ := hQ40
                have N40 := Fr.app N36 N40q
                have sz_b_40 : h0.size ≤ b_40 := Nat.le_trans KK36.1 s40_b
                have g_b_40 : n0 ≤ b_40 := Nat.le_trans Z0 sz_b_40
                have KK40 : Keep h0 T40.heap [] := KK36.trans K40 (allS (Or.inr sz_rr) all0)
                have pre41 : ∀ t, Steps p.tables e below (T40.setTop (mkF m 261 #[.val (.long q1), .second, .val (.long q2), .second, .val (.long q3), .second, .val (.long q4), .second, .val (.int p5), .val (.int p6), .val (.int rv), .val (.int ov), .val (.int (0 : Int32)), .val (.int (0 : Int32)), .val (.int h2_), .val (.int h3_), .val (.int ol), .val (.int ho), .val (.int rev), .val (.ref bw), .unset] [])) t → Steps p.tables e below (s₁.setTop (entryFrame m #[(.long q1), (.long q2), (.long q3), (.long q4), (.int p5), (.int p6)] maxLocals)) t := by
                  intro t kt
                  refine pre37 _ ?_
                  refine XS.ifNo X36.here hx rfl (hb hby at_248) rfl ((if0 _ _).trans (feq hc248_38).1) ?_
                  refine XS.aload X36.here hx rfl (hb hby at_251) rfl rfl ?_
                  refine XS.iload X36.here hx rfl (hb hby at_253) rfl ?_
                  refine XS.iconst X36.here hx rfl (hb hby at_255) ?_
                  refine XS.lload X36.here hx rfl (hb hby at_256) rfl ?_
                  show Steps p.tables e below (T36.setTop (mkF m 258 #[.val (.long q1), .second, .val (.long q2), .second, .val (.long q3), .second, .val (.long q4), .second, .val (.int p5), .val (.int p6), .val (.int rv), .val (.int ov), .val (.int (0 : Int32)), .val (.int (0 : Int32)), .val (.int h2_), .val (.int h3_), .val (.int ol), .val (.int ho), .val (.int rev), .val (.ref bw), .unset] [(.long q4), (.int (3 : Int32)), (.int rv), (.ref bw)])) _
                  refine st40.trans ?_
                  exact kt
                exact cut261 T40 _ (own_smono X40 (by decide) (by decide)) _ rfl N40 KK40 rv ov (0 : Int32) (0 : Int32) h2_ h3_ ol ho rev bw rr kr b_40 kb_40 sg pre41 ((E_bw.keep K36).keep K40) ((F_bw.keep K36 (ninS hne_bw nin0)).keep K40 (ninS hne_bw nin0)) f40_1 f40_2 (r_rv : rv = (0 : Int32) ∨ rv = (1 : Int32))
          · obtain ⟨cq42, kq42, q42a, q42b, q42c⟩ := isOf hZ eq137 E_bw
            obtain ⟨_, _, ⟨T42, L42, k42, n42⟩, -, X42, ⟨Lc42, hQ42, l42, y42, z42⟩, st42⟩ := Xq137.virtualBack hx (y := (⟨"com/example/chartlight/chartlight/label/WeightRows", "add", "(IIJ)V"⟩ : MethodName)) (z := (⟨"com/example/chartlight/chartlight/label/WeightRows", "add", "(IIJ)V"⟩ : MethodName)) hown (mvT hZ (hw _ (List.mem_of_getElem? (i := 22) rfl))) (mvT hZ (hw _ (List.mem_of_getElem? (i := 23) rfl))) (notFace_of_selects (args := #[]) (mvT hZ (hw _ (List.mem_of_getElem? (i := 25) rfl)))) (mvT hZ (hw _ (List.mem_of_getElem? (i := 25) rfl))) (mvT hZ (hw _ (List.mem_of_getElem? (i := 24) rfl))) (by decide) (backOf (W := 0) (rm_addA1 l Z a0 hw [] bw rv q2 rr kr w_NONE sg kN (0 : Int32) h1_ q1 q2 q3 q4 Hq137 n0 (Nat.le_trans Z0 Kq137.1) F_bw V_rr E_rr V_N0 g_rr (r_rv : rv = (0 : Int32) ∨ rv = (1 : Int32)) (hO : OvrA Z kr .long "[J") ((Nat.ne_of_lt (Nat.lt_of_lt_of_le E_w_NONE.lt sz_rr)) : w_NONE ≠ rr) (hc219_28 : ¬ (h1_ = (0 : Int32)))) hZ (hw _ (List.mem_of_getElem? (i := 26) rfl)) (hw _ (List.mem_of_getElem? (i := 2) rfl)) (by decide) (by decide)) q42a q42c (g := (mkF m 228 #[.val (.long q1), .second, .val (.long q2), .second, .val (.long q3), .second, .val (.long q4), .second, .val (.int p5), .val (.int p6), .val (.int rv), .val (.int ov), .val (.int (0 : Int32)), .val (.int h1_), .val (.int h2_), .val (.int h3_), .val (.int ol), .val (.int ho), .val (.int rev), .val (.ref bw), .unset] [(.long q2), (.int (1 : Int32)), (.int rv), (.ref bw)])) rfl (by rw [hml]; rfl) (Steps.refl _) (argsL := [(.int rv), (.int (1 : Int32)), (.long q2)]) (rest := []) (lenOf pd5 rfl) rfl (by show 2 * 0 + _ ≤ _; exact Nat.le_of_eq rfl) (hb hby at_228) (fun _ _ => ⟨rfl, eq137, (by decide : 3 + 1 ≤ _), (by decide : 12 + 8 ≤ _)⟩)
            dsimp only [Pt.U, Pt.locs, Pt.cells, Pt.slots] at X42 l42 y42 z42 st42 hQ42
            subst l42 y42 z42
            obtain ⟨b_42, kb_42, rfl, N42q, K42, s42_b, f42_0, f42_1, f42_2, f42_3⟩ := hQ42
            have N42 := Fr.app Nq137 N42q
            have sz_b_42 : h0.size ≤ b_42 := Nat.le_trans Kq137.1 s42_b
            have g_b_42 : n0 ≤ b_42 := Nat.le_trans Z0 sz_b_42
            have KK42 : Keep h0 T42.heap [] := Kq137.trans K42 (allS (Or.inr sz_rr) all0)
            have pre43 : ∀ t, Steps p.tables e below (T42.setTop (mkF m 233 #[.val (.long q1), .second, .val (.long q2), .second, .val (.long q3), .second, .val (.long q4), .second, .val (.int p5), .val (.int p6), .val (.int rv), .val (.int ov), .val (.int (0 : Int32)), .val (.int h1_), .val (.int h2_), .val (.int h3_), .val (.int ol), .val (.int ho), .val (.int rev), .val (.ref bw), .unset] [(.int h2_)])) t → Steps p.tables e below (s₁.setTop (entryFrame m #[(.long q1), (.long q2), (.long q3), (.long q4), (.int p5), (.int p6)] maxLocals)) t := by
              intro t kt
              refine pre27 _ ?_
              refine XS.ifNo Xq137.here hx rfl (hb hby at_219) rfl ((if0 _ _).trans (feq hc219_28).1) ?_
              refine XS.aload Xq137.here hx rfl (hb hby at_222) rfl rfl ?_
              refine XS.iload Xq137.here hx rfl (hb hby at_224) rfl ?_
              refine XS.iconst Xq137.here hx rfl (hb hby at_226) ?_
              refine XS.lloadN Xq137.here hx rfl (hb hby at_227) rfl ?_
              show Steps p.tables e below (Tq137.setTop (mkF m 228 #[.val (.long q1), .second, .val (.long q2), .second, .val (.long q3), .second, .val (.long q4), .second, .val (.int p5), .val (.int p6), .val (.int rv), .val (.int ov), .val (.int (0 : Int32)), .val (.int h1_), .val (.int h2_), .val (.int h3_), .val (.int ol), .val (.int ho), .val (.int rev), .val (.ref bw), .unset] [(.long q2), (.int (1 : Int32)), (.int rv), (.ref bw)])) _
              refine st42.trans ?_
              refine XS.iload X42.here hx rfl (hb hby at_231) rfl ?_
              exact kt
            by_cases hc233_44 : h2_ = (0 : Int32)
            · rw [hc233_44] at pre43
              have pre45 : ∀ t, Steps p.tables e below (T42.setTop (mkF m 248 #[.val (.long q1), .second, .val (.long q2), .second, .val (.long q3), .second, .val (.long q4), .second, .val (.int p5), .val (.int p6), .val (.int rv), .val (.int ov), .val (.int (0 : Int32)), .val (.int h1_), .val (.int (0 : Int32)), .val (.int h3_), .val (.int ol), .val (.int ho), .val (.int rev), .val (.ref bw), .unset] [(.int h3_)])) t → Steps p.tables e below (s₁.setTop (entryFrame m #[(.long q1), (.long q2), (.long q3), (.long q4), (.int p5), (.int p6)] maxLocals)) t := by
                intro t kt
                refine pre43 _ ?_
                refine XS.ifYes X42.here hx rfl (pc0 := 233) (pc' := 246) rfl (hb hby at_233) rfl ((if0 _ _).trans (teq (rfl : (0 : Int32) = (0 : Int32))).1) (by decide) (by decide) ?_
                refine XS.iload X42.here hx rfl (hb hby at_246) rfl ?_
                exact kt
              by_cases hc248_46 : h3_ = (0 : Int32)
              · rw [hc248_46] at pre45
                have pre47 : ∀ t, Steps p.tables e below (T42.setTop (mkF m 261 #[.val (.long q1), .second, .val (.long q2), .second, .val (.long q3), .second, .val (.long q4), .second, .val (.int p5), .val (.int p6), .val (.int rv), .val (.int ov), .val (.int (0 : Int32)), .val (.int h1_), .val (.int (0 : Int32)), .val (.int (0 : Int32)), .val (.int ol), .val (.int ho), .val (.int rev), .val (.ref bw), .unset] [])) t → Steps p.tables e below (s₁.setTop (entryFrame m #[(.long q1), (.long q2), (.long q3), (.long q4), (.int p5), (.int p6)] maxLocals)) t := by
                  intro t kt
                  refine pre45 _ ?_
                  refine XS.ifYes X42.here hx rfl (pc0 := 248) (pc' := 261) rfl (hb hby at_248) rfl ((if0 _ _).trans (teq (rfl : (0 : Int32) = (0 : Int32))).1) (by decide) (by decide) ?_
                  exact kt
                exact cut261 T42 _ (own_smono X42 (by decide) (by decide)) _ rfl N42 KK42 rv ov (0 : Int32) h1_ (0 : Int32) (0 : Int32) ol ho rev bw rr kr b_42 kb_42 sg pre47 (E_bw.keep K42) (F_bw.keep K42 (ninS hne_bw nin0)) f42_1 f42_2 (r_rv : rv = (0 : Int32) ∨ rv = (1 : Int32))
              · obtain ⟨cq48, kq48, q48a, q48b, q48c⟩ := isOf hZ rfl (E_bw.keep K42)
                obtain ⟨_, _, ⟨T48, L48, k48, n48⟩, -, X48, ⟨Lc48, hQ48, l48, y48, z48⟩, st48⟩ := X42.virtualBack hx (y := (⟨"com/example/chartlight/chartlight/label/WeightRows", "add", "(IIJ)V"⟩ : MethodName)) (z := (⟨"com/example/chartlight/chartlight/label/WeightRows", "add", "(IIJ)V"⟩ : MethodName)) hown (mvT hZ (hw _ (List.mem_of_getElem? (i := 22) rfl))) (mvT hZ (hw _ (List.mem_of_getElem? (i := 23) rfl))) (notFace_of_selects (args := #[]) (mvT hZ (hw _ (List.mem_of_getElem? (i := 25) rfl)))) (mvT hZ (hw _ (List.mem_of_getElem? (i := 25) rfl))) (mvT hZ (hw _ (List.mem_of_getElem? (i := 24) rfl))) (by decide) (backOf (W := 0) (rm_addA3 l Z a0 hw [] bw rv q4 rr kr b_42 sg kb_42 (0 : Int32) h1_ (0 : Int32) h3_ q1 q2 q3 q4 T42.heap n0 (Nat.le_trans Z0 KK42.1) (F_bw.keep K42 (ninS hne_bw nin0)) f42_1 (E_rr.keep K42) f42_2 g_rr (r_rv : rv = (0 : Int32) ∨ rv = (1 : Int32)) (hO : OvrA Z kr .long "[J") ((Ne.symm (Nat.ne_of_lt (Nat.lt_of_lt_of_le E_rr.lt s42_b))) : b_42 ≠ rr) (hc248_46 : ¬ (h3_ = (0 : Int32)))) hZ (hw _ (List.mem_of_getElem? (i := 26) rfl)) (hw _ (List.mem_of_getElem? (i := 2) rfl)) (by decide) (by decide)) q48a q48c (g := (mkF m 258 #[.val (.long q1), .second, .val (.long q2), .second, .val (.long q3), .second, .val (.long q4), .second, .val (.int p5), .val (.int p6), .val (.int rv), .val (.int ov), .val (.int (0 : Int32)), .val (.int h1_), .val (.int (0 : Int32)), .val (.int h3_), .val (.int ol), .val (.int ho), .val (.int rev), .val (.ref bw), .unset] [(.long q4), (.int (3 : Int32)), (.int rv), (.ref bw)])) rfl (by rw [hml]; rfl) (Steps.refl _) (argsL := [(.int rv), (.int (3 : Int32)), (.long q4)]) (rest := []) (lenOf pd5 rfl) rfl (by show 2 * 0 + _ ≤ _; exact Nat.le_of_eq rfl) (hb hby at_258) (fun _ _ => ⟨rfl, rfl, (by decide : 4 + 1 ≤ _), (by decide : 20 + 8 ≤ _)⟩)
                dsimp only [Pt.U, Pt.locs, Pt.cells, Pt.slots] at X48 l48 y48 z48 st48 hQ48
                subst l48 y48 z48
                obtain ⟨b_48, kb_48, rfl, N48q, K48, s48_b, f48_0, f48_1, f48_2, f48_3⟩ := hQ48
                have N48 := Fr.app N42 N48q
                have sz_b_48 : h0.size ≤ b_48 := Nat.le_trans KK42.1 s48_b
                have g_b_48 : n0 ≤ b_48 := Nat.le_trans Z0 sz_b_48
                have KK48 : Keep h0 T48.heap [] := KK42.trans K48 (allS (Or.inr sz_rr) all0)
                have pre49 : ∀ t, Steps p.tables e below (T48.setTop (mkF m 261 #[.val (.long q1), .second, .val (.long q2), .second, .val (.long q3), .second, .val (.long q4), .second, .val (.int p5), .val (.int p6), .val (.int rv), .val (.int ov), .val (.int (0 : Int32)), .val (.int h1_), .val (.int (0 : Int32)), .val (.int h3_), .val (.int ol), .val (.int ho), .val (.int rev), .val (.ref bw), .unset] [])) t → Steps p.tables e below (s₁.setTop (entryFrame m #[(.long q1), (.long q2), (.long q3), (.long q4), (.int p5), (.int p6)] maxLocals)) t := by
                  intro t kt
                  refine pre45 _ ?_
                  refine XS.ifNo X42.here hx rfl (hb hby at_248) rfl ((if0 _ _).trans (feq hc248_46).1) ?_
                  refine XS.aload X42.here hx rfl (hb hby at_251) rfl rfl ?_
                  refine XS.iload X42.here hx rfl (hb hby at_253) rfl ?_
                  refine XS.iconst X42.here hx rfl (hb hby at_255) ?_
                  refine XS.lload X42.here hx rfl (hb hby at_256) rfl ?_
                  show Steps p.tables e below (T42.setTop (mkF m 258 #[.val (.long q1), .second, .val (.long q2), .second, .val (.long q3), .second, .val (.long q4), .second, .val (.int p5), .val (.int p6), .val (.int rv), .val (.int ov), .val (.int (0 : Int32)), .val (.int h1_), .val (.int (0 : Int32)), .val (.int h3_), .val (.int ol), .val (.int ho), .val (.int rev), .val (.ref bw), .unset] [(.long q4), (.int (3 : Int32)), (.int rv), (.ref bw)])) _
                  refine st48.trans ?_
                  exact kt
                exact cut261 T48 _ (own_smono X48 (by decide) (by decide)) _ rfl N48 KK48 rv ov (0 : Int32) h1_ (0 : Int32) h3_ ol ho rev bw rr kr b_48 kb_48 sg pre49 ((E_bw.keep K42).keep K48) ((F_bw.keep K42 (ninS hne_bw nin0)).keep K48 (ninS hne_bw nin0)) f48_1 f48_2 (r_rv : rv = (0 : Int32) ∨ rv = (1 : Int32))
            · obtain ⟨cq50, kq50, q50a, q50b, q50c⟩ := isOf hZ rfl (E_bw.keep K42)
              obtain ⟨_, _, ⟨T50, L50, k50, n50⟩, -, X50, ⟨Lc50, hQ50, l50, y50, z50⟩, st50⟩ := X42.virtualBack hx (y := (⟨"com/example/chartlight/chartlight/label/WeightRows", "add", "(IIJ)V"⟩ : MethodName)) (z := (⟨"com/example/chartlight/chartlight/label/WeightRows", "add", "(IIJ)V"⟩ : MethodName)) hown (mvT hZ (hw _ (List.mem_of_getElem? (i := 22) rfl))) (mvT hZ (hw _ (List.mem_of_getElem? (i := 23) rfl))) (notFace_of_selects (args := #[]) (mvT hZ (hw _ (List.mem_of_getElem? (i := 25) rfl)))) (mvT hZ (hw _ (List.mem_of_getElem? (i := 25) rfl))) (mvT hZ (hw _ (List.mem_of_getElem? (i := 24) rfl))) (by decide) (backOf (W := 0) (rm_addA2 l Z a0 hw [] bw rv q3 rr kr b_42 sg kb_42 (0 : Int32) h1_ h2_ q1 q2 q3 q4 T42.heap n0 (Nat.le_trans Z0 KK42.1) (F_bw.keep K42 (ninS hne_bw nin0)) f42_1 (E_rr.keep K42) f42_2 g_rr (r_rv : rv = (0 : Int32) ∨ rv = (1 : Int32)) (hO : OvrA Z kr .long "[J") ((Ne.symm (Nat.ne_of_lt (Nat.lt_of_lt_of_le E_rr.lt s42_b))) : b_42 ≠ rr) (hc233_44 : ¬ (h2_ = (0 : Int32)))) hZ (hw _ (List.mem_of_getElem? (i := 26) rfl)) (hw _ (List.mem_of_getElem? (i := 2) rfl)) (by decide) (by decide)) q50a q50c (g := (mkF m 243 #[.val (.long q1), .second, .val (.long q2), .second, .val (.long q3), .second, .val (.long q4), .second, .val (.int p5), .val (.int p6), .val (.int rv), .val (.int ov), .val (.int (0 : Int32)), .val (.int h1_), .val (.int h2_), .val (.int h3_), .val (.int ol), .val (.int ho), .val (.int rev), .val (.ref bw), .unset] [(.long q3), (.int (2 : Int32)), (.int rv), (.ref bw)])) rfl (by rw [hml]; rfl) (Steps.refl _) (argsL := [(.int rv), (.int (2 : Int32)), (.long q3)]) (rest := []) (lenOf pd5 rfl) rfl (by show 2 * 0 + _ ≤ _; exact Nat.le_of_eq rfl) (hb hby at_243) (fun _ _ => ⟨rfl, rfl, (by decide : 4 + 1 ≤ _), (by decide : 20 + 8 ≤ _)⟩)
              dsimp only [Pt.U, Pt.locs, Pt.cells, Pt.slots] at X50 l50 y50 z50 st50 hQ50
              subst l50 y50 z50
              obtain ⟨b_50, kb_50, rfl, N50q, K50, s50_b, f50_0, f50_1, f50_2, f50_3⟩ := hQ50
              have N50 := Fr.app N42 N50q
              have sz_b_50 : h0.size ≤ b_50 := Nat.le_trans KK42.1 s50_b
              have g_b_50 : n0 ≤ b_50 := Nat.le_trans Z0 sz_b_50
              have KK50 : Keep h0 T50.heap [] := KK42.trans K50 (allS (Or.inr sz_rr) all0)
              have pre51 : ∀ t, Steps p.tables e below (T50.setTop (mkF m 248 #[.val (.long q1), .second, .val (.long q2), .second, .val (.long q3), .second, .val (.long q4), .second, .val (.int p5), .val (.int p6), .val (.int rv), .val (.int ov), .val (.int (0 : Int32)), .val (.int h1_), .val (.int h2_), .val (.int h3_), .val (.int ol), .val (.int ho), .val (.int rev), .val (.ref bw), .unset] [(.int h3_)])) t → Steps p.tables e below (s₁.setTop (entryFrame m #[(.long q1), (.long q2), (.long q3), (.long q4), (.int p5), (.int p6)] maxLocals)) t := by
                intro t kt
                refine pre43 _ ?_
                refine XS.ifNo X42.here hx rfl (hb hby at_233) rfl ((if0 _ _).trans (feq hc233_44).1) ?_
                refine XS.aload X42.here hx rfl (hb hby at_236) rfl rfl ?_
                refine XS.iload X42.here hx rfl (hb hby at_238) rfl ?_
                refine XS.iconst X42.here hx rfl (hb hby at_240) ?_
                refine XS.lload X42.here hx rfl (hb hby at_241) rfl ?_
                show Steps p.tables e below (T42.setTop (mkF m 243 #[.val (.long q1), .second, .val (.long q2), .second, .val (.long q3), .second, .val (.long q4), .second, .val (.int p5), .val (.int p6), .val (.int rv), .val (.int ov), .val (.int (0 : Int32)), .val (.int h1_), .val (.int h2_), .val (.int h3_), .val (.int ol), .val (.int ho), .val (.int rev), .val (.ref bw), .unset] [(.long q3), (.int (2 : Int32)), (.int rv), (.ref bw)])) _
                refine st50.trans ?_
                refine XS.iload X50.here hx rfl (hb hby at_246) rfl ?_
                exact kt
              by_cases hc248_52 : h3_ = (0 : Int32)
              · rw [hc248_52] at pre51
                have pre53 : ∀ t, Steps p.tables e below (T50.setTop (mkF m 261 #[.val (.long q1), .second, .val (.long q2), .second, .val (.long q3), .second, .val (.long q4), .second, .val (.int p5), .val (.int p6), .val (.int rv), .val (.int ov), .val (.int (0 : Int32)), .val (.int h1_), .val (.int h2_), .val (.int (0 : Int32)), .val (.int ol), .val (.int ho), .val (.int rev), .val (.ref bw), .unset] [])) t → Steps p.tables e below (s₁.setTop (entryFrame m #[(.long q1), (.long q2), (.long q3), (.long q4), (.int p5), (.int p6)] maxLocals)) t := by
                  intro t kt
                  refine pre51 _ ?_
                  refine XS.ifYes X50.here hx rfl (pc0 := 248) (pc' := 261) rfl (hb hby at_248) rfl ((if0 _ _).trans (teq (rfl : (0 : Int32) = (0 : Int32))).1) (by decide) (by decide) ?_
                  exact kt
                exact cut261 T50 _ (own_smono X50 (by decide) (by decide)) _ rfl N50 KK50 rv ov (0 : Int32) h1_ h2_ (0 : Int32) ol ho rev bw rr kr b_50 kb_50 sg pre53 ((E_bw.keep K42).keep K50) ((F_bw.keep K42 (ninS hne_bw nin0)).keep K50 (ninS hne_bw nin0)) f50_1 f50_2 (r_rv : rv = (0 : Int32) ∨ rv = (1 : Int32))
              · obtain ⟨cq54, kq54, q54a, q54b, q54c⟩ := isOf hZ rfl ((E_bw.keep K42).keep K50)
                obtain ⟨_, _, ⟨T54, L54, k54, n54⟩, -, X54, ⟨Lc54, hQ54, l54, y54, z54⟩, st54⟩ := X50.virtualBack hx (y := (⟨"com/example/chartlight/chartlight/label/WeightRows", "add", "(IIJ)V"⟩ : MethodName)) (z := (⟨"com/example/chartlight/chartlight/label/WeightRows", "add", "(IIJ)V"⟩ : MethodName)) hown (mvT hZ (hw _ (List.mem_of_getElem? (i := 22) rfl))) (mvT hZ (hw _ (List.mem_of_getElem? (i := 23) rfl))) (notFace_of_selects (args := #[]) (mvT hZ (hw _ (List.mem_of_getElem? (i := 25) rfl)))) (mvT hZ (hw _ (List.mem_of_getElem? (i := 25) rfl))) (mvT hZ (hw _ (List.mem_of_getElem? (i := 24) rfl))) (by decide) (backOf (W := 0) (rm_addA3 l Z a0 hw [] bw rv q4 rr kr b_50 sg kb_50 (0 : Int32) h1_ h2_ h3_ q1 q2 q3 q4 T50.heap n0 (Nat.le_trans Z0 KK50.1) ((F_bw.keep K42 (ninS hne_bw nin0)).keep K50 (ninS hne_bw nin0)) f50_1 ((E_rr.keep K42).keep K50) f50_2 g_rr (r_rv : rv = (0 : Int32) ∨ rv = (1 : Int32)) (hO : OvrA Z kr .long "[J") ((Ne.symm (Nat.ne_of_lt (Nat.lt_of_lt_of_le (E_rr.keep K42).lt s50_b))) : b_50 ≠ rr) (hc248_52 : ¬ (h3_ = (0 : Int32)))) hZ (hw _ (List.mem_of_getElem? (i := 26) rfl)) (hw _ (List.mem_of_getElem? (i := 2) rfl)) (by decide) (by decide)) q54a q54c (g := (mkF m 258 #[.val (.long q1), .second, .val (.long q2), .second, .val (.long q3), .second, .val (.long q4), .second, .val (.int p5), .val (.int p6), .val (.int rv), .val (.int ov), .val (.int (0 : Int32)), .val (.int h1_), .val (.int h2_), .val (.int h3_), .val (.int ol), .val (.int ho), .val (.int rev), .val (.ref bw), .unset] [(.long q4), (.int (3 : Int32)), (.int rv), (.ref bw)])) rfl (by rw [hml]; rfl) (Steps.refl _) (argsL := [(.int rv), (.int (3 : Int32)), (.long q4)]) (rest := []) (lenOf pd5 rfl) rfl (by show 2 * 0 + _ ≤ _; exact Nat.le_of_eq rfl) (hb hby at_258) (fun _ _ => ⟨rfl, rfl, (by decide : 5 + 1 ≤ _), (by decide : 28 + 8 ≤ _)⟩)
                dsimp only [Pt.U, Pt.locs, Pt.cells, Pt.slots] at X54 l54 y54 z54 st54 hQ54
                subst l54 y54 z54
                obtain ⟨b_54, kb_54, rfl, N54q, K54, s54_b, f54_0, f54_1, f54_2, f54_3⟩ := hQ54
                have N54 := Fr.app N50 N54q
                have sz_b_54 : h0.size ≤ b_54 := Nat.le_trans KK50.1 s54_b
                have g_b_54 : n0 ≤ b_54 := Nat.le_trans Z0 sz_b_54
                have KK54 : Keep h0 T54.heap [] := KK50.trans K54 (allS (Or.inr sz_rr) all0)
                have pre55 : ∀ t, Steps p.tables e below (T54.setTop (mkF m 261 #[.val (.long q1), .second, .val (.long q2), .second, .val (.long q3), .second, .val (.long q4), .second, .val (.int p5), .val (.int p6), .val (.int rv), .val (.int ov), .val (.int (0 : Int32)), .val (.int h1_), .val (.int h2_), .val (.int h3_), .val (.int ol), .val (.int ho), .val (.int rev), .val (.ref bw), .unset] [])) t → Steps p.tables e below (s₁.setTop (entryFrame m #[(.long q1), (.long q2), (.long q3), (.long q4), (.int p5), (.int p6)] maxLocals)) t := by
                  intro t kt
                  refine pre51 _ ?_
                  refine XS.ifNo X50.here hx rfl (hb hby at_248) rfl ((if0 _ _).trans (feq hc248_52).1) ?_
                  refine XS.aload X50.here hx rfl (hb hby at_251) rfl rfl ?_
                  refine XS.iload X50.here hx rfl (hb hby at_253) rfl ?_
                  refine XS.iconst X50.here hx rfl (hb hby at_255) ?_
                  refine XS.lload X50.here hx rfl (hb hby at_256) rfl ?_
                  show Steps p.tables e below (T50.setTop (mkF m 258 #[.val (.long q1), .second, .val (.long q2), .second, .val (.long q3), .second, .val (.long q4), .second, .val (.int p5), .val (.int p6), .val (.int rv), .val (.int ov), .val (.int (0 : Int32)), .val (.int h1_), .val (.int h2_), .val (.int h3_), .val (.int ol), .val (.int ho), .val (.int rev), .val (.ref bw), .unset] [(.long q4), (.int (3 : Int32)), (.int rv), (.ref bw)])) _
                  refine st54.trans ?_
                  exact kt
                exact cut261 T54 _ (own_smono X54 (by decide) (by decide)) _ rfl N54 KK54 rv ov (0 : Int32) h1_ h2_ h3_ ol ho rev bw rr kr b_54 kb_54 sg pre55 (((E_bw.keep K42).keep K50).keep K54) (((F_bw.keep K42 (ninS hne_bw nin0)).keep K50 (ninS hne_bw nin0)).keep K54 (ninS hne_bw nin0)) f54_1 f54_2 (r_rv : rv = (0 : Int32) ∨ rv = (1 : Int32))
        · obtain ⟨cq56, kq56, q56a, q56b, q56c⟩ := isOf hZ eq137 E_bw
          obtain ⟨_, _, ⟨T56, L56, k56, n56⟩, -, X56, ⟨Lc56, hQ56, l56, y56, z56⟩, st56⟩ := Xq137.virtualBack hx (y := (⟨"com/example/chartlight/chartlight/label/WeightRows", "add", "(IIJ)V"⟩ : MethodName)) (z := (⟨"com/example/chartlight/chartlight/label/WeightRows", "add", "(IIJ)V"⟩ : MethodName)) hown (mvT hZ (hw _ (List.mem_of_getElem? (i := 22) rfl))) (mvT hZ (hw _ (List.mem_of_getElem? (i := 23) rfl))) (notFace_of_selects (args := #[]) (mvT hZ (hw _ (List.mem_of_getElem? (i := 25) rfl)))) (mvT hZ (hw _ (List.mem_of_getElem? (i := 25) rfl))) (mvT hZ (hw _ (List.mem_of_getElem? (i := 24) rfl))) (by decide) (backOf (W := 0) (rm_addA0 l Z a0 hw [] bw rv q1 rr kr w_NONE sg kN h0_ q1 q2 q3 q4 Hq137 n0 (Nat.le_trans Z0 Kq137.1) F_bw V_rr E_rr V_N0 g_rr (r_rv : rv = (0 : Int32) ∨ rv = (1 : Int32)) (hO : OvrA Z kr .long "[J") ((Nat.ne_of_lt (Nat.lt_of_lt_of_le E_w_NONE.lt sz_rr)) : w_NONE ≠ rr) (hc205_26 : ¬ (h0_ = (0 : Int32)))) hZ (hw _ (List.mem_of_getElem? (i := 26) rfl)) (hw _ (List.mem_of_getElem? (i := 2) rfl)) (by decide) (by decide)) q56a q56c (g := (mkF m 214 #[.val (.long q1), .second, .val (.long q2), .second, .val (.long q3), .second, .val (.long q4), .second, .val (.int p5), .val (.int p6), .val (.int rv), .val (.int ov), .val (.int h0_), .val (.int h1_), .val (.int h2_), .val (.int h3_), .val (.int ol), .val (.int ho), .val (.int rev), .val (.ref bw), .unset] [(.long q1), (.int (0 : Int32)), (.int rv), (.ref bw)])) rfl (by rw [hml]; rfl) (Steps.refl _) (argsL := [(.int rv), (.int (0 : Int32)), (.long q1)]) (rest := []) (lenOf pd5 rfl) rfl (by show 2 * 0 + _ ≤ _; exact Nat.le_of_eq rfl) (hb hby at_214) (fun _ _ => ⟨rfl, eq137, (by decide : 3 + 1 ≤ _), (by decide : 12 + 8 ≤ _)⟩)
          dsimp only [Pt.U, Pt.locs, Pt.cells, Pt.slots] at X56 l56 y56 z56 st56 hQ56
          subst l56 y56 z56
          obtain ⟨b_56, kb_56, rfl, N56q, K56, s56_b, f56_0, f56_1, f56_2, f56_3⟩ := hQ56
          have N56 := Fr.app Nq137 N56q
          have sz_b_56 : h0.size ≤ b_56 := Nat.le_trans Kq137.1 s56_b
          have g_b_56 : n0 ≤ b_56 := Nat.le_trans Z0 sz_b_56
          have KK56 : Keep h0 T56.heap [] := Kq137.trans K56 (allS (Or.inr sz_rr) all0)
          have pre57 : ∀ t, Steps p.tables e below (T56.setTop (mkF m 219 #[.val (.long q1), .second, .val (.long q2), .second, .val (.long q3), .second, .val (.long q4), .second, .val (.int p5), .val (.int p6), .val (.int rv), .val (.int ov), .val (.int h0_), .val (.int h1_), .val (.int h2_), .val (.int h3_), .val (.int ol), .val (.int ho), .val (.int rev), .val (.ref bw), .unset] [(.int h1_)])) t → Steps p.tables e below (s₁.setTop (entryFrame m #[(.long q1), (.long q2), (.long q3), (.long q4), (.int p5), (.int p6)] maxLocals)) t := by
            intro t kt
            refine pre25 _ ?_
            refine XS.ifNo Xq137.here hx rfl (hb hby at_205) rfl ((if0 _ _).trans (feq hc205_26).1) ?_
            refine XS.aload Xq137.here hx rfl (hb hby at_208) rfl rfl ?_
            refine XS.iload Xq137.here hx rfl (hb hby at_210) rfl ?_
            refine XS.iconst Xq137.here hx rfl (hb hby at_212) ?_
            refine XS.lloadN Xq137.here hx rfl (hb hby at_213) rfl ?_
            show Steps p.tables e below (Tq137.setTop (mkF m 214 #[.val (.long q1), .second, .val (.long q2), .second, .val (.long q3), .second, .val (.long q4), .second, .val (.int p5), .val (.int p6), .val (.int rv), .val (.int ov), .val (.int h0_), .val (.int h1_), .val (.int h2_), .val (.int h3_), .val (.int ol), .val (.int ho), .val (.int rev), .val (.ref bw), .unset] [(.long q1), (.int (0 : Int32)), (.int rv), (.ref bw)])) _
            refine st56.trans ?_
            refine XS.iload X56.here hx rfl (hb hby at_217) rfl ?_
            exact kt
          by_cases hc219_58 : h1_ = (0 : Int32)
          · rw [hc219_58] at pre57
            have pre59 : ∀ t, Steps p.tables e below (T56.setTop (mkF m 233 #[.val (.long q1), .second, .val (.long q2), .second, .val (.long q3), .second, .val (.long q4), .second, .val (.int p5), .val (.int p6), .val (.int rv), .val (.int ov), .val (.int h0_), .val (.int (0 : Int32)), .val (.int h2_), .val (.int h3_), .val (.int ol), .val (.int ho), .val (.int rev), .val (.ref bw), .unset] [(.int h2_)])) t → Steps p.tables e below (s₁.setTop (entryFrame m #[(.long q1), (.long q2), (.long q3), (.long q4), (.int p5), (.int p6)] maxLocals)) t := by
              intro t kt
              refine pre57 _ ?_
              refine XS.ifYes X56.here hx rfl (pc0 := 219) (pc' := 231) rfl (hb hby at_219) rfl ((if0 _ _).trans (teq (rfl : (0 : Int32) = (0 : Int32))).1) (by decide) (by decide) ?_
              refine XS.iload X56.here hx rfl (hb hby at_231) rfl ?_
              exact kt
            by_cases hc233_60 : h2_ = (0 : Int32)
            · rw [hc233_60] at pre59
              have pre61 : ∀ t, Steps p.tables e below (T56.setTop (mkF m 248 #[.val (.long q1), .second, .val (.long q2), .second, .val (.long q3), .second, .val (.long q4), .second, .val (.int p5), .val (.int p6), .val (.int rv), .val (.int ov), .val (.int h0_), .val (.int (0 : Int32)), .val (.int (0 : Int32)), .val (.int h3_), .val (.int ol), .val (.int ho), .val (.int rev), .val (.ref bw), .unset] [(.int h3_)])) t → Steps p.tables e below (s₁.setTop (entryFrame m #[(.long q1), (.long q2), (.long q3), (.long q4), (.int p5), (.int p6)] maxLocals)) t := by
                intro t kt
                refine pre59 _ ?_
                refine XS.ifYes X56.here hx rfl (pc0 := 233) (pc' := 246) rfl (hb hby at_233) rfl ((if0 _ _).trans (teq (rfl : (0 : Int32) = (0 : Int32))).1) (by decide) (by decide) ?_
                refine XS.iload X56.here hx rfl (hb hby at_246) rfl ?_
                exact kt
              by_cases hc248_62 : h3_ = (0 : Int32)
              · rw [hc248_62] at pre61
                have pre63 : ∀ t, Steps p.tables e below (T56.setTop (mkF m 261 #[.val (.long q1), .second, .val (.long q2), .second, .val (.long q3), .second, .val (.long q4), .second, .val (.int p5), .val (.int p6), .val (.int rv), .val (.int ov), .val (.int h0_), .val (.int (0 : Int32)), .val (.int (0 : Int32)), .val (.int (0 : Int32)), .val (.int ol), .val (.int ho), .val (.int rev), .val (.ref bw), .unset] [])) t → Steps p.tables e below (s₁.setTop (entryFrame m #[(.long q1), (.long q2), (.long q3), (.long q4), (.int p5), (.int p6)] maxLocals)) t := by
                  intro t kt
                  refine pre61 _ ?_
                  refine XS.ifYes X56.here hx rfl (pc0 := 248) (pc' := 261) rfl (hb hby at_248) rfl ((if0 _ _).trans (teq (rfl : (0 : Int32) = (0 : Int32))).1) (by decide) (by decide) ?_
                  exact kt
                exact cut261 T56 _ (own_smono X56 (by decide) (by decide)) _ rfl N56 KK56 rv ov h0_ (0 : Int32) (0 : Int32) (0 : Int32) ol ho rev bw rr kr b_56 kb_56 sg pre63 (E_bw.keep K56) (F_bw.keep K56 (ninS hne_bw nin0)) f56_1 f56_2 (r_rv : rv = (0 : Int32) ∨ rv = (1 : Int32))
              · obtain ⟨cq64, kq64, q64a, q64b, q64c⟩ := isOf hZ rfl (E_bw.keep K56)
                obtain ⟨_, _, ⟨T64, L64, k64, n64⟩, -, X64, ⟨Lc64, hQ64, l64, y64, z64⟩, st64⟩ := X56.virtualBack hx (y := (⟨"com/example/chartlight/chartlight/label/WeightRows", "add", "(IIJ)V"⟩ : MethodName)) (z := (⟨"com/example/chartlight/chartlight/label/WeightRows", "add", "(IIJ)V"⟩ : MethodName)) hown (mvT hZ (hw _ (List.mem_of_getElem? (i := 22) rfl))) (mvT hZ (hw _ (List.mem_of_getElem? (i := 23) rfl))) (notFace_of_selects (args := #[]) (mvT hZ (hw _ (List.mem_of_getElem? (i := 25) rfl)))) (mvT hZ (hw _ (List.mem_of_getElem? (i := 25) rfl))) (mvT hZ (hw _ (List.mem_of_getElem? (i := 24) rfl))) (by decide) (backOf (W := 0) (rm_addA3 l Z a0 hw [] bw rv q4 rr kr b_56 sg kb_56 h0_ (0 : Int32) (0 : Int32) h3_ q1 q2 q3 q4 T56.heap n0 (Nat.le_trans Z0 KK56.1) (F_bw.keep K56 (ninS hne_bw nin0)) f56_1 (E_rr.keep K56) f56_2 g_rr (r_rv : rv = (0 : Int32) ∨ rv = (1 : Int32)) (hO : OvrA Z kr .long "[J") ((Ne.symm (Nat.ne_of_lt (Nat.lt_of_lt_of_le E_rr.lt s56_b))) : b_56 ≠ rr) (hc248_62 : ¬ (h3_ = (0 : Int32)))) hZ (hw _ (List.mem_of_getElem? (i := 26) rfl)) (hw _ (List.mem_of_getElem? (i := 2) rfl)) (by decide) (by decide)) q64a q64c (g := (mkF m 258 #[.val (.long q1), .second, .val (.long q2), .second, .val (.long q3), .second, .val (.long q4), .second, .val (.int p5), .val (.int p6), .val (.int rv), .val (.int ov), .val (.int h0_), .val (.int (0 : Int32)), .val (.int (0 : Int32)), .val (.int h3_), .val (.int ol), .val (.int ho), .val (.int rev), .val (.ref bw), .unset] [(.long q4), (.int (3 : Int32)), (.int rv), (.ref bw)])) rfl (by rw [hml]; rfl) (Steps.refl _) (argsL := [(.int rv), (.int (3 : Int32)), (.long q4)]) (rest := []) (lenOf pd5 rfl) rfl (by show 2 * 0 + _ ≤ _; exact Nat.le_of_eq rfl) (hb hby at_258) (fun _ _ => ⟨rfl, rfl, (by decide : 4 + 1 ≤ _), (by decide : 20 + 8 ≤ _)⟩)
                dsimp only [Pt.U, Pt.locs, Pt.cells, Pt.slots] at X64 l64 y64 z64 st64 hQ64
                subst l64 y64 z64
                obtain ⟨b_64, kb_64, rfl, N64q, K64, s64_b, f64_0, f64_1, f64_2, f64_3⟩ := hQ64
                have N64 := Fr.app N56 N64q
                have sz_b_64 : h0.size ≤ b_64 := Nat.le_trans KK56.1 s64_b
                have g_b_64 : n0 ≤ b_64 := Nat.le_trans Z0 sz_b_64
                have KK64 : Keep h0 T64.heap [] := KK56.trans K64 (allS (Or.inr sz_rr) all0)
                have pre65 : ∀ t, Steps p.tables e below (T64.setTop (mkF m 261 #[.val (.long q1), .second, .val (.long q2), .second, .val (.long q3), .second, .val (.long q4), .second, .val (.int p5), .val (.int p6), .val (.int rv), .val (.int ov), .val (.int h0_), .val (.int (0 : Int32)), .val (.int (0 : Int32)), .val (.int h3_), .val (.int ol), .val (.int ho), .val (.int rev), .val (.ref bw), .unset] [])) t → Steps p.tables e below (s₁.setTop (entryFrame m #[(.long q1), (.long q2), (.long q3), (.long q4), (.int p5), (.int p6)] maxLocals)) t := by
                  intro t kt
                  refine pre61 _ ?_
                  refine XS.ifNo X56.here hx rfl (hb hby at_248) rfl ((if0 _ _).trans (feq hc248_62).1) ?_
                  refine XS.aload X56.here hx rfl (hb hby at_251) rfl rfl ?_
                  refine XS.iload X56.here hx rfl (hb hby at_253) rfl ?_
                  refine XS.iconst X56.here hx rfl (hb hby at_255) ?_
                  refine XS.lload X56.here hx rfl (hb hby at_256) rfl ?_
                  show Steps p.tables e below (T56.setTop (mkF m 258 #[.val (.long q1), .second, .val (.long q2), .second, .val (.long q3), .second, .val (.long q4), .second, .val (.int p5), .val (.int p6), .val (.int rv), .val (.int ov), .val (.int h0_), .val (.int (0 : Int32)), .val (.int (0 : Int32)), .val (.int h3_), .val (.int ol), .val (.int ho), .val (.int rev), .val (.ref bw), .unset] [(.long q4), (.int (3 : Int32)), (.int rv), (.ref bw)])) _
                  refine st64.trans ?_
                  exact kt
                exact cut261 T64 _ (own_smono X64 (by decide) (by decide)) _ rfl N64 KK64 rv ov h0_ (0 : Int32) (0 : Int32) h3_ ol ho rev bw rr kr b_64 kb_64 sg pre65 ((E_bw.keep K56).keep K64) ((F_bw.keep K56 (ninS hne_bw nin0)).keep K64 (ninS hne_bw nin0)) f64_1 f64_2 (r_rv : rv = (0 : Int32) ∨ rv = (1 : Int32))
            · obtain ⟨cq66, kq66, q66a, q66b, q66c⟩ := isOf hZ rfl (E_bw.keep K56)
              obtain ⟨_, _, ⟨T66, L66, k66, n66⟩, -, X66, ⟨Lc66, hQ66, l66, y66, z66⟩, st66⟩ := X56.virtualBack hx (y := (⟨"com/example/chartlight/chartlight/label/WeightRows", "add", "(IIJ)V"⟩ : MethodName)) (z := (⟨"com/example/chartlight/chartlight/label/WeightRows", "add", "(IIJ)V"⟩ : MethodName)) hown (mvT hZ (hw _ (List.mem_of_getElem? (i := 22) rfl))) (mvT hZ (hw _ (List.mem_of_getElem? (i := 23) rfl))) (notFace_of_selects (args := #[]) (mvT hZ (hw _ (List.mem_of_getElem? (i := 25) rfl)))) (mvT hZ (hw _ (List.mem_of_getElem? (i := 25) rfl))) (mvT hZ (hw _ (List.mem_of_getElem? (i := 24) rfl))) (by decide) (backOf (W := 0) (rm_addA2 l Z a0 hw [] bw rv q3 rr kr b_56 sg kb_56 h0_ (0 : Int32) h2_ q1 q2 q3 q4 T56.heap n0 (Nat.le_trans Z0 KK56.1) (F_bw.keep K56 (ninS hne_bw nin0)) f56_1 (E_rr.keep K56) f56_2 g_rr (r_rv : rv = (0 : Int32) ∨ rv = (1 : Int32)) (hO : OvrA Z kr .long "[J") ((Ne.symm (Nat.ne_of_lt (Nat.lt_of_lt_of_le E_rr.lt s56_b))) : b_56 ≠ rr) (hc233_60 : ¬ (h2_ = (0 : Int32)))) hZ (hw _ (List.mem_of_getElem? (i := 26) rfl)) (hw _ (List.mem_of_getElem? (i := 2) rfl)) (by decide) (by decide)) q66a q66c (g := (mkF m 243 #[.val (.long q1), .second, .val (.long q2), .second, .val (.long q3), .second, .val (.long q4), .second, .val (.int p5), .val (.int p6), .val (.int rv), .val (.int ov), .val (.int h0_), .val (.int (0 : Int32)), .val (.int h2_), .val (.int h3_), .val (.int ol), .val (.int ho), .val (.int rev), .val (.ref bw), .unset] [(.long q3), (.int (2 : Int32)), (.int rv), (.ref bw)])) rfl (by rw [hml]; rfl) (Steps.refl _) (argsL := [(.int rv), (.int (2 : Int32)), (.long q3)]) (rest := []) (lenOf pd5 rfl) rfl (by show 2 * 0 + _ ≤ _; exact Nat.le_of_eq rfl) (hb hby at_243) (fun _ _ => ⟨rfl, rfl, (by decide : 4 + 1 ≤ _), (by decide : 20 + 8 ≤ _)⟩)
              dsimp only [Pt.U, Pt.locs, Pt.cells, Pt.slots] at X66 l66 y66 z66 st66 hQ66
              subst l66 y66 z66
              obtain ⟨b_66, kb_66, rfl, N66q, K66, s66_b, f66_0, f66_1, f66_2, f66_3⟩ := hQ66
              have N66 := Fr.app N56 N66q
              have sz_b_66 : h0.size ≤ b_66 := Nat.le_trans KK56.1 s66_b
              have g_b_66 : n0 ≤ b_66 := Nat.le_trans Z0 sz_b_66
              have KK66 : Keep h0 T66.heap [] := KK56.trans K66 (allS (Or.inr sz_rr) all0)
              have pre67 : ∀ t, Steps p.tables e below (T66.setTop (mkF m 248 #[.val (.long q1), .second, .val (.long q2), .second, .val (.long q3), .second, .val (.long q4), .second, .val (.int p5), .val (.int p6), .val (.int rv), .val (.int ov), .val (.int h0_), .val (.int (0 : Int32)), .val (.int h2_), .val (.int h3_), .val (.int ol), .val (.int ho), .val (.int rev), .val (.ref bw), .unset] [(.int h3_)])) t → Steps p.tables e below (s₁.setTop (entryFrame m #[(.long q1), (.long q2), (.long q3), (.long q4), (.int p5), (.int p6)] maxLocals)) t := by
                intro t kt
                refine pre59 _ ?_
                refine XS.ifNo X56.here hx rfl (hb hby at_233) rfl ((if0 _ _).trans (feq hc233_60).1) ?_
                refine XS.aload X56.here hx rfl (hb hby at_236) rfl rfl ?_
                refine XS.iload X56.here hx rfl (hb hby at_238) rfl ?_
                refine XS.iconst X56.here hx rfl (hb hby at_240) ?_
                refine XS.lload X56.here hx rfl (hb hby at_241) rfl ?_
                show Steps p.tables e below (T56.setTop (mkF m 243 #[.val (.long q1), .second, .val (.long q2), .second, .val (.long q3), .second, .val (.long q4), .second, .val (.int p5), .val (.int p6), .val (.int rv), .val (.int ov), .val (.int h0_), .val (.int (0 : Int32)), .val (.int h2_), .val (.int h3_), .val (.int ol), .val (.int ho), .val (.int rev), .val (.ref bw), .unset] [(.long q3), (.int (2 : Int32)), (.int rv), (.ref bw)])) _
                refine st66.trans ?_
                refine XS.iload X66.here hx rfl (hb hby at_246) rfl ?_
                exact kt
              by_cases hc248_68 : h3_ = (0 : Int32)
              · rw [hc248_68] at pre67
                have pre69 : ∀ t, Steps p.tables e below (T66.setTop (mkF m 261 #[.val (.long q1), .second, .val (.long q2), .second, .val (.long q3), .second, .val (.long q4), .second, .val (.int p5), .val (.int p6), .val (.int rv), .val (.int ov), .val (.int h0_), .val (.int (0 : Int32)), .val (.int h2_), .val (.int (0 : Int32)), .val (.int ol), .val (.int ho), .val (.int rev), .val (.ref bw), .unset] [])) t → Steps p.tables e below (s₁.setTop (entryFrame m #[(.long q1), (.long q2), (.long q3), (.long q4), (.int p5), (.int p6)] maxLocals)) t := by
                  intro t kt
                  refine pre67 _ ?_
                  refine XS.ifYes X66.here hx rfl (pc0 := 248) (pc' := 261) rfl (hb hby at_248) rfl ((if0 _ _).trans (teq (rfl : (0 : Int32) = (0 : Int32))).1) (by decide) (by decide) ?_
                  exact kt
                exact cut261 T66 _ (own_smono X66 (by decide) (by decide)) _ rfl N66 KK66 rv ov h0_ (0 : Int32) h2_ (0 : Int32) ol ho rev bw rr kr b_66 kb_66 sg pre69 ((E_bw.keep K56).keep K66) ((F_bw.keep K56 (ninS hne_bw nin0)).keep K66 (ninS hne_bw nin0)) f66_1 f66_2 (r_rv : rv = (0 : Int32) ∨ rv = (1 : Int32))
              · obtain ⟨cq70, kq70, q70a, q70b, q70c⟩ := isOf hZ rfl ((E_bw.keep K56).keep K66)
                obtain ⟨_, _, ⟨T70, L70, k70, n70⟩, -, X70, ⟨Lc70, hQ70, l70, y70, z70⟩, st70⟩ := X66.virtualBack hx (y := (⟨"com/example/chartlight/chartlight/label/WeightRows", "add", "(IIJ)V"⟩ : MethodName)) (z := (⟨"com/example/chartlight/chartlight/label/WeightRows", "add", "(IIJ)V"⟩ : MethodName)) hown (mvT hZ (hw _ (List.mem_of_getElem? (i := 22) rfl))) (mvT hZ (hw _ (List.mem_of_getElem? (i := 23) rfl))) (notFace_of_selects (args := #[]) (mvT hZ (hw _ (List.mem_of_getElem? (i := 25) rfl)))) (mvT hZ (hw _ (List.mem_of_getElem? (i := 25) rfl))) (mvT hZ (hw _ (List.mem_of_getElem? (i := 24) rfl))) (by decide) (backOf (W := 0) (rm_addA3 l Z a0 hw [] bw rv q4 rr kr b_66 sg kb_66 h0_ (0 : Int32) h2_ h3_ q1 q2 q3 q4 T66.heap n0 (Nat.le_trans Z0 KK66.1) ((F_bw.keep K56 (ninS hne_bw nin0)).keep K66 (ninS hne_bw nin0)) f66_1 ((E_rr.keep K56).keep K66) f66_2 g_rr (r_rv : rv = (0 : Int32) ∨ rv = (1 : Int32)) (hO : OvrA Z kr .long "[J") ((Ne.symm (Nat.ne_of_lt (Nat.lt_of_lt_of_le (E_rr.keep K56).lt s66_b))) : b_66 ≠ rr) (hc248_68 : ¬ (h3_ = (0 : Int32)))) hZ (hw _ (List.mem_of_getElem? (i := 26) rfl)) (hw _ (List.mem_of_getElem? (i := 2) rfl)) (by decide) (by decide)) q70a q70c (g := (mkF m 258 #[.val (.long q1), .second, .val (.long q2), .second, .val (.long q3), .second, .val (.long q4), .second, .val (.int p5), .val (.int p6), .val (.int rv), .val (.int ov), .val (.int h0_), .val (.int (0 : Int32)), .val (.int h2_), .val (.int h3_), .val (.int ol), .val (.int ho), .val (.int rev), .val (.ref bw), .unset] [(.long q4), (.int (3 : Int32)), (.int rv), (.ref bw)])) rfl (by rw [hml]; rfl) (Steps.refl _) (argsL := [(.int rv), (.int (3 : Int32)), (.long q4)]) (rest := []) (lenOf pd5 rfl) rfl (by show 2 * 0 + _ ≤ _; exact Nat.le_of_eq rfl) (hb hby at_258) (fun _ _ => ⟨rfl, rfl, (by decide : 5 + 1 ≤ _), (by decide : 28 + 8 ≤ _)⟩)
                dsimp only [Pt.U, Pt.locs, Pt.cells, Pt.slots] at X70 l70 y70 z70 st70 hQ70
                subst l70 y70 z70
                obtain ⟨b_70, kb_70, rfl, N70q, K70, s70_b, f70_0, f70_1, f70_2, f70_3⟩ := hQ70
                have N70 := Fr.app N66 N70q
                have sz_b_70 : h0.size ≤ b_70 := Nat.le_trans KK66.1 s70_b
                have g_b_70 : n0 ≤ b_70 := Nat.le_trans Z0 sz_b_70
                have KK70 : Keep h0 T70.heap [] := KK66.trans K70 (allS (Or.inr sz_rr) all0)
                have pre71 : ∀ t, Steps p.tables e below (T70.setTop (mkF m 261 #[.val (.long q1), .second, .val (.long q2), .second, .val (.long q3), .second, .val (.long q4), .second, .val (.int p5), .val (.int p6), .val (.int rv), .val (.int ov), .val (.int h0_), .val (.int (0 : Int32)), .val (.int h2_), .val (.int h3_), .val (.int ol), .val (.int ho), .val (.int rev), .val (.ref bw), .unset] [])) t → Steps p.tables e below (s₁.setTop (entryFrame m #[(.long q1), (.long q2), (.long q3), (.long q4), (.int p5), (.int p6)] maxLocals)) t := by
                  intro t kt
                  refine pre67 _ ?_
                  refine XS.ifNo X66.here hx rfl (hb hby at_248) rfl ((if0 _ _).trans (feq hc248_68).1) ?_
                  refine XS.aload X66.here hx rfl (hb hby at_251) rfl rfl ?_
                  refine XS.iload X66.here hx rfl (hb hby at_253) rfl ?_
                  refine XS.iconst X66.here hx rfl (hb hby at_255) ?_
                  refine XS.lload X66.here hx rfl (hb hby at_256) rfl ?_
                  show Steps p.tables e below (T66.setTop (mkF m 258 #[.val (.long q1), .second, .val (.long q2), .second, .val (.long q3), .second, .val (.long q4), .second, .val (.int p5), .val (.int p6), .val (.int rv), .val (.int ov), .val (.int h0_), .val (.int (0 : Int32)), .val (.int h2_), .val (.int h3_), .val (.int ol), .val (.int ho), .val (.int rev), .val (.ref bw), .unset] [(.long q4), (.int (3 : Int32)), (.int rv), (.ref bw)])) _
                  refine st70.trans ?_
                  exact kt
                exact cut261 T70 _ (own_smono X70 (by decide) (by decide)) _ rfl N70 KK70 rv ov h0_ (0 : Int32) h2_ h3_ ol ho rev bw rr kr b_70 kb_70 sg pre71 (((E_bw.keep K56).keep K66).keep K70) (((F_bw.keep K56 (ninS hne_bw nin0)).keep K66 (ninS hne_bw nin0)).keep K70 (ninS hne_bw nin0)) f70_1 f70_2 (r_rv : rv = (0 : Int32) ∨ rv = (1 : Int32))
          · obtain ⟨cq72, kq72, q72a, q72b, q72c⟩ := isOf hZ rfl (E_bw.keep K56)
            obtain ⟨_, _, ⟨T72, L72, k72, n72⟩, -, X72, ⟨Lc72, hQ72, l72, y72, z72⟩, st72⟩ := X56.virtualBack hx (y := (⟨"com/example/chartlight/chartlight/label/WeightRows", "add", "(IIJ)V"⟩ : MethodName)) (z := (⟨"com/example/chartlight/chartlight/label/WeightRows", "add", "(IIJ)V"⟩ : MethodName)) hown (mvT hZ (hw _ (List.mem_of_getElem? (i := 22) rfl))) (mvT hZ (hw _ (List.mem_of_getElem? (i := 23) rfl))) (notFace_of_selects (args := #[]) (mvT hZ (hw _ (List.mem_of_getElem? (i := 25) rfl)))) (mvT hZ (hw _ (List.mem_of_getElem? (i := 25) rfl))) (mvT hZ (hw _ (List.mem_of_getElem? (i := 24) rfl))) (by decide) (backOf (W := 0) (rm_addA1 l Z a0 hw [] bw rv q2 rr kr b_56 sg kb_56 h0_ h1_ q1 q2 q3 q4 T56.heap n0 (Nat.le_trans Z0 KK56.1) (F_bw.keep K56 (ninS hne_bw nin0)) f56_1 (E_rr.keep K56) f56_2 g_rr (r_rv : rv = (0 : Int32) ∨ rv = (1 : Int32)) (hO : OvrA Z kr .long "[J") ((Ne.symm (Nat.ne_of_lt (Nat.lt_of_lt_of_le E_rr.lt s56_b))) : b_56 ≠ rr) (hc219_58 : ¬ (h1_ = (0 : Int32)))) hZ (hw _ (List.mem_of_getElem? (i := 26) rfl)) (hw _ (List.mem_of_getElem? (i := 2) rfl)) (by decide) (by decide)) q72a q72c (g := (mkF m 228 #[.val (.long q1), .second, .val (.long q2), .second, .val (.long q3), .second, .val (.long q4), .second, .val (.int p5), .val (.int p6), .val (.int rv), .val (.int ov), .val (.int h0_), .val (.int h1_), .val (.int h2_), .val (.int h3_), .val (.int ol), .val (.int ho), .val (.int rev), .val (.ref bw), .unset] [(.long q2), (.int (1 : Int32)), (.int rv), (.ref bw)])) rfl (by rw [hml]; rfl) (Steps.refl _) (argsL := [(.int rv), (.int (1 : Int32)), (.long q2)]) (rest := []) (lenOf pd5 rfl) rfl (by show 2 * 0 + _ ≤ _; exact Nat.le_of_eq rfl) (hb hby at_228) (fun _ _ => ⟨rfl, rfl, (by decide : 4 + 1 ≤ _), (by decide : 20 + 8 ≤ _)⟩)
            dsimp only [Pt.U, Pt.locs, Pt.cells, Pt.slots] at X72 l72 y72 z72 st72 hQ72
            subst l72 y72 z72
            obtain ⟨b_72, kb_72, rfl, N72q, K72, s72_b, f72_0, f72_1, f72_2, f72_3⟩ := hQ72
            have N72 := Fr.app N56 N72q
            have sz_b_72 : h0.size ≤ b_72 := Nat.le_trans KK56.1 s72_b
            have g_b_72 : n0 ≤ b_72 := Nat.le_trans Z0 sz_b_72
            have KK72 : Keep h0 T72.heap [] := KK56.trans K72 (allS (Or.inr sz_rr) all0)
            have pre73 : ∀ t, Steps p.tables e below (T72.setTop (mkF m 233 #[.val (.long q1), .second, .val (.long q2), .second, .val (.long q3), .second, .val (.long q4), .second, .val (.int p5), .val (.int p6), .val (.int rv), .val (.int ov), .val (.int h0_), .val (.int h1_), .val (.int h2_), .val (.int h3_), .val (.int ol), .val (.int ho), .val (.int rev), .val (.ref bw), .unset] [(.int h2_)])) t → Steps p.tables e below (s₁.setTop (entryFrame m #[(.long q1), (.long q2), (.long q3), (.long q4), (.int p5), (.int p6)] maxLocals)) t := by
              intro t kt
              refine pre57 _ ?_
              refine XS.ifNo X56.here hx rfl (hb hby at_219) rfl ((if0 _ _).trans (feq hc219_58).1) ?_
              refine XS.aload X56.here hx rfl (hb hby at_222) rfl rfl ?_
              refine XS.iload X56.here hx rfl (hb hby at_224) rfl ?_
              refine XS.iconst X56.here hx rfl (hb hby at_226) ?_
              refine XS.lloadN X56.here hx rfl (hb hby at_227) rfl ?_
              show Steps p.tables e below (T56.setTop (mkF m 228 #[.val (.long q1), .second, .val (.long q2), .second, .val (.long q3), .second, .val (.long q4), .second, .val (.int p5), .val (.int p6), .val (.int rv), .val (.int ov), .val (.int h0_), .val (.int h1_), .val (.int h2_), .val (.int h3_), .val (.int ol), .val (.int ho), .val (.int rev), .val (.ref bw), .unset] [(.long q2), (.int (1 : Int32)), (.int rv), (.ref bw)])) _
              refine st72.trans ?_
              refine XS.iload X72.here hx rfl (hb hby at_231) rfl ?_
              exact kt
            by_cases hc233_74 : h2_ = (0 : Int32)
            · rw [hc233_74] at pre73
              have pre75 : ∀ t, Steps p.tables e below (T72.setTop (mkF m 248 #[.val (.long q1), .second, .val (.long q2), .second, .val (.long q3), .second, .val (.long q4), .second, .val (.int p5), .val (.int p6), .val (.int rv), .val (.int ov), .val (.int h0_), .val (.int h1_), .val (.int (0 : Int32)), .val (.int h3_), .val (.int ol), .val (.int ho), .val (.int rev), .val (.ref bw), .unset] [(.int h3_)])) t → Steps p.tables e below (s₁.setTop (entryFrame m #[(.long q1), (.long q2), (.long q3), (.long q4), (.int p5), (.int p6)] maxLocals)) t := by
                intro t kt
                refine pre73 _ ?_
                refine XS.ifYes X72.here hx rfl (pc0 := 233) (pc' := 246) rfl (hb hby at_233) rfl ((if0 _ _).trans (teq (rfl : (0 : Int32) = (0 : Int32))).1) (by decide) (by decide) ?_
                refine XS.iload X72.here hx rfl (hb hby at_246) rfl ?_
                exact kt
              by_cases hc248_76 : h3_ = (0 : Int32)
              · rw [hc248_76] at pre75
                have pre77 : ∀ t, Steps p.tables e below (T72.setTop (mkF m 261 #[.val (.long q1), .second, .val (.long q2), .second, .val (.long q3), .second, .val (.long q4), .second, .val (.int p5), .val (.int p6), .val (.int rv), .val (.int ov), .val (.int h0_), .val (.int h1_), .val (.int (0 : Int32)), .val (.int (0 : Int32)), .val (.int ol), .val (.int ho), .val (.int rev), .val (.ref bw), .unset] [])) t → Steps p.tables e below (s₁.setTop (entryFrame m #[(.long q1), (.long q2), (.long q3), (.long q4), (.int p5), (.int p6)] maxLocals)) t := by
                  intro t kt
                  refine pre75 _ ?_
                  refine XS.ifYes X72.here hx rfl (pc0 := 248) (pc' := 261) rfl (hb hby at_248) rfl ((if0 _ _).trans (teq (rfl : (0 : Int32) = (0 : Int32))).1) (by decide) (by decide) ?_
                  exact kt
                exact cut261 T72 _ (own_smono X72 (by decide) (by decide)) _ rfl N72 KK72 rv ov h0_ h1_ (0 : Int32) (0 : Int32) ol ho rev bw rr kr b_72 kb_72 sg pre77 ((E_bw.keep K56).keep K72) ((F_bw.keep K56 (ninS hne_bw nin0)).keep K72 (ninS hne_bw nin0)) f72_1 f72_2 (r_rv : rv = (0 : Int32) ∨ rv = (1 : Int32))
              · obtain ⟨cq78, kq78, q78a, q78b, q78c⟩ := isOf hZ rfl ((E_bw.keep K56).keep K72)
                obtain ⟨_, _, ⟨T78, L78, k78, n78⟩, -, X78, ⟨Lc78, hQ78, l78, y78, z78⟩, st78⟩ := X72.virtualBack hx (y := (⟨"com/example/chartlight/chartlight/label/WeightRows", "add", "(IIJ)V"⟩ : MethodName)) (z := (⟨"com/example/chartlight/chartlight/label/WeightRows", "add", "(IIJ)V"⟩ : MethodName)) hown (mvT hZ (hw _ (List.mem_of_getElem? (i := 22) rfl))) (mvT hZ (hw _ (List.mem_of_getElem? (i := 23) rfl))) (notFace_of_selects (args := #[]) (mvT hZ (hw _ (List.mem_of_getElem? (i := 25) rfl)))) (mvT hZ (hw _ (List.mem_of_getElem? (i := 25) rfl))) (mvT hZ (hw _ (List.mem_of_getElem? (i := 24) rfl))) (by decide) (backOf (W := 0) (rm_addA3 l Z a0 hw [] bw rv q4 rr kr b_72 sg kb_72 h0_ h1_ (0 : Int32) h3_ q1 q2 q3 q4 T72.heap n0 (Nat.le_trans Z0 KK72.1) ((F_bw.keep K56 (ninS hne_bw nin0)).keep K72 (ninS hne_bw nin0)) f72_1 ((E_rr.keep K56).keep K72) f72_2 g_rr (r_rv : rv = (0 : Int32) ∨ rv = (1 : Int32)) (hO : OvrA Z kr .long "[J") ((Ne.symm (Nat.ne_of_lt (Nat.lt_of_lt_of_le (E_rr.keep K56).lt s72_b))) : b_72 ≠ rr) (hc248_76 : ¬ (h3_ = (0 : Int32)))) hZ (hw _ (List.mem_of_getElem? (i := 26) rfl)) (hw _ (List.mem_of_getElem? (i := 2) rfl)) (by decide) (by decide)) q78a q78c (g := (mkF m 258 #[.val (.long q1), .second, .val (.long q2), .second, .val (.long q3), .second, .val (.long q4), .second, .val (.int p5), .val (.int p6), .val (.int rv), .val (.int ov), .val (.int h0_), .val (.int h1_), .val (.int (0 : Int32)), .val (.int h3_), .val (.int ol), .val (.int ho), .val (.int rev), .val (.ref bw), .unset] [(.long q4), (.int (3 : Int32)), (.int rv), (.ref bw)])) rfl (by rw [hml]; rfl) (Steps.refl _) (argsL := [(.int rv), (.int (3 : Int32)), (.long q4)]) (rest := []) (lenOf pd5 rfl) rfl (by show 2 * 0 + _ ≤ _; exact Nat.le_of_eq rfl) (hb hby at_258) (fun _ _ => ⟨rfl, rfl, (by decide : 5 + 1 ≤ _), (by decide : 28 + 8 ≤ _)⟩)
                dsimp only [Pt.U, Pt.locs, Pt.cells, Pt.slots] at X78 l78 y78 z78 st78 hQ78
                subst l78 y78 z78
                obtain ⟨b_78, kb_78, rfl, N78q, K78, s78_b, f78_0, f78_1, f78_2, f78_3⟩ := hQ78
                have N78 := Fr.app N72 N78q
                have sz_b_78 : h0.size ≤ b_78 := Nat.le_trans KK72.1 s78_b
                have g_b_78 : n0 ≤ b_78 := Nat.le_trans Z0 sz_b_78
                have KK78 : Keep h0 T78.heap [] := KK72.trans K78 (allS (Or.inr sz_rr) all0)
                have pre79 : ∀ t, Steps p.tables e below (T78.setTop (mkF m 261 #[.val (.long q1), .second, .val (.long q2), .second, .val (.long q3), .second, .val (.long q4), .second, .val (.int p5), .val (.int p6), .val (.int rv), .val (.int ov), .val (.int h0_), .val (.int h1_), .val (.int (0 : Int32)), .val (.int h3_), .val (.int ol), .val (.int ho), .val (.int rev), .val (.ref bw), .unset] [])) t → Steps p.tables e below (s₁.setTop (entryFrame m #[(.long q1), (.long q2), (.long q3), (.long q4), (.int p5), (.int p6)] maxLocals)) t := by
                  intro t kt
                  refine pre75 _ ?_
                  refine XS.ifNo X72.here hx rfl (hb hby at_248) rfl ((if0 _ _).trans (feq hc248_76).1) ?_
                  refine XS.aload X72.here hx rfl (hb hby at_251) rfl rfl ?_
                  refine XS.iload X72.here hx rfl (hb hby at_253) rfl ?_
                  refine XS.iconst X72.here hx rfl (hb hby at_255) ?_
                  refine XS.lload X72.here hx rfl (hb hby at_256) rfl ?_
                  show Steps p.tables e below (T72.setTop (mkF m 258 #[.val (.long q1), .second, .val (.long q2), .second, .val (.long q3), .second, .val (.long q4), .second, .val (.int p5), .val (.int p6), .val (.int rv), .val (.int ov), .val (.int h0_), .val (.int h1_), .val (.int (0 : Int32)), .val (.int h3_), .val (.int ol), .val (.int ho), .val (.int rev), .val (.ref bw), .unset] [(.long q4), (.int (3 : Int32)), (.int rv), (.ref bw)])) _
                  refine st78.trans ?_
                  exact kt
                exact cut261 T78 _ (own_smono X78 (by decide) (by decide)) _ rfl N78 KK78 rv ov h0_ h1_ (0 : Int32) h3_ ol ho rev bw rr kr b_78 kb_78 sg pre79 (((E_bw.keep K56).keep K72).keep K78) (((F_bw.keep K56 (ninS hne_bw nin0)).keep K72 (ninS hne_bw nin0)).keep K78 (ninS hne_bw nin0)) f78_1 f78_2 (r_rv : rv = (0 : Int32) ∨ rv = (1 : Int32))
            · obtain ⟨cq80, kq80, q80a, q80b, q80c⟩ := isOf hZ rfl ((E_bw.keep K56).keep K72)
              obtain ⟨_, _, ⟨T80, L80, k80, n80⟩, -, X80, ⟨Lc80, hQ80, l80, y80, z80⟩, st80⟩ := X72.virtualBack hx (y := (⟨"com/example/chartlight/chartlight/label/WeightRows", "add", "(IIJ)V"⟩ : MethodName)) (z := (⟨"com/example/chartlight/chartlight/label/WeightRows", "add", "(IIJ)V"⟩ : MethodName)) hown (mvT hZ (hw _ (List.mem_of_getElem? (i := 22) rfl))) (mvT hZ (hw _ (List.mem_of_getElem? (i := 23) rfl))) (notFace_of_selects (args := #[]) (mvT hZ (hw _ (List.mem_of_getElem? (i := 25) rfl)))) (mvT hZ (hw _ (List.mem_of_getElem? (i := 25) rfl))) (mvT hZ (hw _ (List.mem_of_getElem? (i := 24) rfl))) (by decide) (backOf (W := 0) (rm_addA2 l Z a0 hw [] bw rv q3 rr kr b_72 sg kb_72 h0_ h1_ h2_ q1 q2 q3 q4 T72.heap n0 (Nat.le_trans Z0 KK72.1) ((F_bw.keep K56 (ninS hne_bw nin0)).keep K72 (ninS hne_bw nin0)) f72_1 ((E_rr.keep K56).keep K72) f72_2 g_rr (r_rv : rv = (0 : Int32) ∨ rv = (1 : Int32)) (hO : OvrA Z kr .long "[J") ((Ne.symm (Nat.ne_of_lt (Nat.lt_of_lt_of_le (E_rr.keep K56).lt s72_b))) : b_72 ≠ rr) (hc233_74 : ¬ (h2_ = (0 : Int32)))) hZ (hw _ (List.mem_of_getElem? (i := 26) rfl)) (hw _ (List.mem_of_getElem? (i := 2) rfl)) (by decide) (by decide)) q80a q80c (g := (mkF m 243 #[.val (.long q1), .second, .val (.long q2), .second, .val (.long q3), .second, .val (.long q4), .second, .val (.int p5), .val (.int p6), .val (.int rv), .val (.int ov), .val (.int h0_), .val (.int h1_), .val (.int h2_), .val (.int h3_), .val (.int ol), .val (.int ho), .val (.int rev), .val (.ref bw), .unset] [(.long q3), (.int (2 : Int32)), (.int rv), (.ref bw)])) rfl (by rw [hml]; rfl) (Steps.refl _) (argsL := [(.int rv), (.int (2 : Int32)), (.long q3)]) (rest := []) (lenOf pd5 rfl) rfl (by show 2 * 0 + _ ≤ _; exact Nat.le_of_eq rfl) (hb hby at_243) (fun _ _ => ⟨rfl, rfl, (by decide : 5 + 1 ≤ _), (by decide : 28 + 8 ≤ _)⟩)
              dsimp only [Pt.U, Pt.locs, Pt.cells, Pt.slots] at X80 l80 y80 z80 st80 hQ80
              subst l80 y80 z80
              obtain ⟨b_80, kb_80, rfl, N80q, K80, s80_b, f80_0, f80_1, f80_2, f80_3⟩ := hQ80
              have N80 := Fr.app N72 N80q
              have sz_b_80 : h0.size ≤ b_80 := Nat.le_trans KK72.1 s80_b
              have g_b_80 : n0 ≤ b_80 := Nat.le_trans Z0 sz_b_80
              have KK80 : Keep h0 T80.heap [] := KK72.trans K80 (allS (Or.inr sz_rr) all0)
              have pre81 : ∀ t, Steps p.tables e below (T80.setTop (mkF m 248 #[.val (.long q1), .second, .val (.long q2), .second, .val (.long q3), .second, .val (.long q4), .second, .val (.int p5), .val (.int p6), .val (.int rv), .val (.int ov), .val (.int h0_), .val (.int h1_), .val (.int h2_), .val (.int h3_), .val (.int ol), .val (.int ho), .val (.int rev), .val (.ref bw), .unset] [(.int h3_)])) t → Steps p.tables e below (s₁.setTop (entryFrame m #[(.long q1), (.long q2), (.long q3), (.long q4), (.int p5), (.int p6)] maxLocals)) t := by
                intro t kt
                refine pre73 _ ?_
                refine XS.ifNo X72.here hx rfl (hb hby at_233) rfl ((if0 _ _).trans (feq hc233_74).1) ?_
                refine XS.aload X72.here hx rfl (hb hby at_236) rfl rfl ?_
                refine XS.iload X72.here hx rfl (hb hby at_238) rfl ?_
                refine XS.iconst X72.here hx rfl (hb hby at_240) ?_
                refine XS.lload X72.here hx rfl (hb hby at_241) rfl ?_
                show Steps p.tables e below (T72.setTop (mkF m 243 #[.val (.long q1), .second, .val (.long q2), .second, .val (.long q3), .second, .val (.long q4), .second, .val (.int p5), .val (.int p6), .val (.int rv), .val (.int ov), .val (.int h0_), .val (.int h1_), .val (.int h2_), .val (.int h3_), .val (.int ol), .val (.int ho), .val (.int rev), .val (.ref bw), .unset] [(.long q3), (.int (2 : Int32)), (.int rv), (.ref bw)])) _
                refine st80.trans ?_
                refine XS.iload X80.here hx rfl (hb hby at_246) rfl ?_
                exact kt
              by_cases hc248_82 : h3_ = (0 : Int32)
              · rw [hc248_82] at pre81
                have pre83 : ∀ t, Steps p.tables e below (T80.setTop (mkF m 261 #[.val (.long q1), .second, .val (.long q2), .second, .val (.long q3), .second, .val (.long q4), .second, .val (.int p5), .val (.int p6), .val (.int rv), .val (.int ov), .val (.int h0_), .val (.int h1_), .val (.int h2_), .val (.int (0 : Int32)), .val (.int ol), .val (.int ho), .val (.int rev), .val (.ref bw), .unset] [])) t → Steps p.tables e below (s₁.setTop (entryFrame m #[(.long q1), (.long q2), (.long q3), (.long q4), (.int p5), (.int p6)] maxLocals)) t := by
                  intro t kt
                  refine pre81 _ ?_
                  refine XS.ifYes X80.here hx rfl (pc0 := 248) (pc' := 261) rfl (hb hby at_248) rfl ((if0 _ _).trans (teq (rfl : (0 : Int32) = (0 : Int32))).1) (by decide) (by decide) ?_
                  exact kt
                exact cut261 T80 _ (own_smono X80 (by decide) (by decide)) _ rfl N80 KK80 rv ov h0_ h1_ h2_ (0 : Int32) ol ho rev bw rr kr b_80 kb_80 sg pre83 (((E_bw.keep K56).keep K72).keep K80) (((F_bw.keep K56 (ninS hne_bw nin0)).keep K72 (ninS hne_bw nin0)).keep K80 (ninS hne_bw nin0)) f80_1 f80_2 (r_rv : rv = (0 : Int32) ∨ rv = (1 : Int32))
              · obtain ⟨cq84, kq84, q84a, q84b, q84c⟩ := isOf hZ rfl (((E_bw.keep K56).keep K72).keep K80)
                obtain ⟨_, _, ⟨T84, L84, k84, n84⟩, -, X84, ⟨Lc84, hQ84, l84, y84, z84⟩, st84⟩ := X80.virtualBack hx (y := (⟨"com/example/chartlight/chartlight/label/WeightRows", "add", "(IIJ)V"⟩ : MethodName)) (z := (⟨"com/example/chartlight/chartlight/label/WeightRows", "add", "(IIJ)V"⟩ : MethodName)) hown (mvT hZ (hw _ (List.mem_of_getElem? (i := 22) rfl))) (mvT hZ (hw _ (List.mem_of_getElem? (i := 23) rfl))) (notFace_of_selects (args := #[]) (mvT hZ (hw _ (List.mem_of_getElem? (i := 25) rfl)))) (mvT hZ (hw _ (List.mem_of_getElem? (i := 25) rfl))) (mvT hZ (hw _ (List.mem_of_getElem? (i := 24) rfl))) (by decide) (backOf (W := 0) (rm_addA3 l Z a0 hw [] bw rv q4 rr kr b_80 sg kb_80 h0_ h1_ h2_ h3_ q1 q2 q3 q4 T80.heap n0 (Nat.le_trans Z0 KK80.1) (((F_bw.keep K56 (ninS hne_bw nin0)).keep K72 (ninS hne_bw nin0)).keep K80 (ninS hne_bw nin0)) f80_1 (((E_rr.keep K56).keep K72).keep K80) f80_2 g_rr (r_rv : rv = (0 : Int32) ∨ rv = (1 : Int32)) (hO : OvrA Z kr .long "[J") ((Ne.symm (Nat.ne_of_lt (Nat.lt_of_lt_of_le ((E_rr.keep K56).keep K72).lt s80_b))) : b_80 ≠ rr) (hc248_82 : ¬ (h3_ = (0 : Int32)))) hZ (hw _ (List.mem_of_getElem? (i := 26) rfl)) (hw _ (List.mem_of_getElem? (i := 2) rfl)) (by decide) (by decide)) q84a q84c (g := (mkF m 258 #[.val (.long q1), .second, .val (.long q2), .second, .val (.long q3), .second, .val (.long q4), .second, .val (.int p5), .val (.int p6), .val (.int rv), .val (.int ov), .val (.int h0_), .val (.int h1_), .val (.int h2_), .val (.int h3_), .val (.int ol), .val (.int ho), .val (.int rev), .val (.ref bw), .unset] [(.long q4), (.int (3 : Int32)), (.int rv), (.ref bw)])) rfl (by rw [hml]; rfl) (Steps.refl _) (argsL := [(.int rv), (.int (3 : Int32)), (.long q4)]) (rest := []) (lenOf pd5 rfl) rfl (by show 2 * 0 + _ ≤ _; exact Nat.le_of_eq rfl) (hb hby at_258) (fun _ _ => ⟨rfl, rfl, (by decide : 6 + 1 ≤ _), (by decide : 36 + 8 ≤ _)⟩)
                dsimp only [Pt.U, Pt.locs, Pt.cells, Pt.slots] at X84 l84 y84 z84 st84 hQ84
                subst l84 y84 z84
                obtain ⟨b_84, kb_84, rfl, N84q, K84, s84_b, f84_0, f84_1, f84_2, f84_3⟩ := hQ84
                have N84 := Fr.app N80 N84q
                have sz_b_84 : h0.size ≤ b_84 := Nat.le_trans KK80.1 s84_b
                have g_b_84 : n0 ≤ b_84 := Nat.le_trans Z0 sz_b_84
                have KK84 : Keep h0 T84.heap [] := KK80.trans K84 (allS (Or.inr sz_rr) all0)
                have pre85 : ∀ t, Steps p.tables e below (T84.setTop (mkF m 261 #[.val (.long q1), .second, .val (.long q2), .second, .val (.long q3), .second, .val (.long q4), .second, .val (.int p5), .val (.int p6), .val (.int rv), .val (.int ov), .val (.int h0_), .val (.int h1_), .val (.int h2_), .val (.int h3_), .val (.int ol), .val (.int ho), .val (.int rev), .val (.ref bw), .unset] [])) t → Steps p.tables e below (s₁.setTop (entryFrame m #[(.long q1), (.long q2), (.long q3), (.long q4), (.int p5), (.int p6)] maxLocals)) t := by
                  intro t kt
                  refine pre81 _ ?_
                  refine XS.ifNo X80.here hx rfl (hb hby at_248) rfl ((if0 _ _).trans (feq hc248_82).1) ?_
                  refine XS.aload X80.here hx rfl (hb hby at_251) rfl rfl ?_
                  refine XS.iload X80.here hx rfl (hb hby at_253) rfl ?_
                  refine XS.iconst X80.here hx rfl (hb hby at_255) ?_
                  refine XS.lload X80.here hx rfl (hb hby at_256) rfl ?_
                  show Steps p.tables e below (T80.setTop (mkF m 258 #[.val (.long q1), .second, .val (.long q2), .second, .val (.long q3), .second, .val (.long q4), .second, .val (.int p5), .val (.int p6), .val (.int rv), .val (.int ov), .val (.int h0_), .val (.int h1_), .val (.int h2_), .val (.int h3_), .val (.int ol), .val (.int ho), .val (.int rev), .val (.ref bw), .unset] [(.long q4), (.int (3 : Int32)), (.int rv), (.ref bw)])) _
                  refine st84.trans ?_
                  exact kt
                exact cut261 T84 _ (own_smono X84 (by decide) (by decide)) _ rfl N84 KK84 rv ov h0_ h1_ h2_ h3_ ol ho rev bw rr kr b_84 kb_84 sg pre85 ((((E_bw.keep K56).keep K72).keep K80).keep K84) ((((F_bw.keep K56 (ninS hne_bw nin0)).keep K72 (ninS hne_bw nin0)).keep K80 (ninS hne_bw nin0)).keep K84 (ninS hne_bw nin0)) f84_1 f84_2 (r_rv : rv = (0 : Int32) ∨ rv = (1 : Int32))
      · have pre86 : ∀ t, Steps p.tables e below (Tq137.setTop (mkF m 144 #[.val (.long q1), .second, .val (.long q2), .second, .val (.long q3), .second, .val (.long q4), .second, .val (.int p5), .val (.int p6), .val (.int rv), .val (.int ov), .val (.int h0_), .val (.int h1_), .val (.int h2_), .val (.int h3_), .val (.int ol), .val (.int ho), .val (.int rev), .val (.ref bw), .unset] [(.int h3_)])) t → Steps p.tables e below (s₁.setTop (entryFrame m #[(.long q1), (.long q2), (.long q3), (.long q4), (.int p5), (.int p6)] maxLocals)) t := by
          intro t kt
          refine pre23 _ ?_
          refine XS.ifNo Xq137.here hx rfl (hb hby at_139) rfl ((if0 _ _).trans (feq hc139_24).1) ?_
          refine XS.iload Xq137.here hx rfl (hb hby at_142) rfl ?_
          exact kt
        by_cases hc144_87 : h3_ = (0 : Int32)
        · rw [hc144_87] at pre86
          have pre88 : ∀ t, Steps p.tables e below (Tq137.setTop (mkF m 159 #[.val (.long q1), .second, .val (.long q2), .second, .val (.long q3), .second, .val (.long q4), .second, .val (.int p5), .val (.int p6), .val (.int rv), .val (.int ov), .val (.int h0_), .val (.int h1_), .val (.int h2_), .val (.int (0 : Int32)), .val (.int ol), .val (.int ho), .val (.int rev), .val (.ref bw), .unset] [(.int h2_)])) t → Steps p.tables e below (s₁.setTop (entryFrame m #[(.long q1), (.long q2), (.long q3), (.long q4), (.int p5), (.int p6)] maxLocals)) t := by
            intro t kt
            refine pre86 _ ?_
            refine XS.ifYes Xq137.here hx rfl (pc0 := 144) (pc' := 157) rfl (hb hby at_144) rfl ((if0 _ _).trans (teq (rfl : (0 : Int32) = (0 : Int32))).1) (by decide) (by decide) ?_
            refine XS.iload Xq137.here hx rfl (hb hby at_157) rfl ?_
            exact kt
          by_cases hc159_89 : h2_ = (0 : Int32)
          · rw [hc159_89] at pre88
            have pre90 : ∀ t, Steps p.tables e below (Tq137.setTop (mkF m 174 #[.val (.long q1), .second, .val (.long q2), .second, .val (.long q3), .second, .val (.long q4), .second, .val (.int p5), .val (.int p6), .val (.int rv), .val (.int ov), .val (.int h0_), .val (.int h1_), .val (.int (0 : Int32)), .val (.int (0 : Int32)), .val (.int ol), .val (.int ho), .val (.int rev), .val (.ref bw), .unset] [(.int h1_)])) t → Steps p.tables e below (s₁.setTop (entryFrame m #[(.long q1), (.long q2), (.long q3), (.long q4), (.int p5), (.int p6)] maxLocals)) t := by
              intro t kt
              refine pre88 _ ?_
              refine XS.ifYes Xq137.here hx rfl (pc0 := 159) (pc' := 172) rfl (hb hby at_159) rfl ((if0 _ _).trans (teq (rfl : (0 : Int32) = (0 : Int32))).1) (by decide) (by decide) ?_
              refine XS.iload Xq137.here hx rfl (hb hby at_172) rfl ?_
              exact kt
            by_cases hc174_91 : h1_ = (0 : Int32)
            · rw [hc174_91] at pre90
              have pre92 : ∀ t, Steps p.tables e below (Tq137.setTop (mkF m 188 #[.val (.long q1), .second, .val (.long q2), .second, .val (.long q3), .second, .val (.long q4), .second, .val (.int p5), .val (.int p6), .val (.int rv), .val (.int ov), .val (.int h0_), .val (.int (0 : Int32)), .val (.int (0 : Int32)), .val (.int (0 : Int32)), .val (.int ol), .val (.int ho), .val (.int rev), .val (.ref bw), .unset] [(.int h0_)])) t → Steps p.tables e below (s₁.setTop (entryFrame m #[(.long q1), (.long q2), (.long q3), (.long q4), (.int p5), (.int p6)] maxLocals)) t := by
                intro t kt
                refine pre90 _ ?_
                refine XS.ifYes Xq137.here hx rfl (pc0 := 174) (pc' := 186) rfl (hb hby at_174) rfl ((if0 _ _).trans (teq (rfl : (0 : Int32) = (0 : Int32))).1) (by decide) (by decide) ?_
                refine XS.iload Xq137.here hx rfl (hb hby at_186) rfl ?_
                exact kt
              by_cases hc188_93 : h0_ = (0 : Int32)
              · rw [hc188_93] at pre92
                have pre94 : ∀ t, Steps p.tables e below (Tq137.setTop (mkF m 261 #[.val (.long q1), .second, .val (.long q2), .second, .val (.long q3), .second, .val (.long q4), .second, .val (.int p5), .val (.int p6), .val (.int rv), .val (.int ov), .val (.int (0 : Int32)), .val (.int (0 : Int32)), .val (.int (0 : Int32)), .val (.int (0 : Int32)), .val (.int ol), .val (.int ho), .val (.int rev), .val (.ref bw), .unset] [])) t → Steps p.tables e below (s₁.setTop (entryFrame m #[(.long q1), (.long q2), (.long q3), (.long q4), (.int p5), (.int p6)] maxLocals)) t := by
                  intro t kt
                  refine pre92 _ ?_
                  refine XS.ifYes Xq137.here hx rfl (pc0 := 188) (pc' := 261) rfl (hb hby at_188) rfl ((if0 _ _).trans (teq (rfl : (0 : Int32) = (0 : Int32))).1) (by decide) (by decide) ?_
                  exact kt
                exact cut261 Tq137 _ (own_smono Xq137 (by decide) (by decide)) _ eq137 Nq137 Kq137 rv ov (0 : Int32) (0 : Int32) (0 : Int32) (0 : Int32) ol ho rev bw rr kr w_NONE kN sg pre94 E_bw F_bw V_rr V_N0 (r_rv : rv = (0 : Int32) ∨ rv = (1 : Int32))
              · obtain ⟨cq95, kq95, q95a, q95b, q95c⟩ := isOf hZ eq137 E_bw
                obtain ⟨_, _, ⟨T95, L95, k95, n95⟩, -, X95, ⟨Lc95, hQ95, l95, y95, z95⟩, st95⟩ := Xq137.virtualBack hx (y := (⟨"com/example/chartlight/chartlight/label/WeightRows", "add", "(IIJ)V"⟩ : MethodName)) (z := (⟨"com/example/chartlight/chartlight/label/WeightRows", "add", "(IIJ)V"⟩ : MethodName)) hown (mvT hZ (hw _ (List.mem_of_getElem? (i := 22) rfl))) (mvT hZ (hw _ (List.mem_of_getElem? (i := 23) rfl))) (notFace_of_selects (args := #[]) (mvT hZ (hw _ (List.mem_of_getElem? (i := 25) rfl)))) (mvT hZ (hw _ (List.mem_of_getElem? (i := 25) rfl))) (mvT hZ (hw _ (List.mem_of_getElem? (i := 24) rfl))) (by decide) (backOf (W := 0) (rm_addD0 l Z a0 hw [] bw rv q1 rr kr w_NONE sg kN (0 : Int32) (0 : Int32) (0 : Int32) h0_ q1 q2 q3 q4 Hq137 n0 (Nat.le_trans Z0 Kq137.1) F_bw V_rr E_rr V_N0 g_rr (r_rv : rv = (0 : Int32) ∨ rv = (1 : Int32)) (hO : OvrA Z kr .long "[J") ((Nat.ne_of_lt (Nat.lt_of_lt_of_le E_w_NONE.lt sz_rr)) : w_NONE ≠ rr) (hc188_93 : ¬ (h0_ = (0 : Int32)))) hZ (hw _ (List.mem_of_getElem? (i := 26) rfl)) (hw _ (List.mem_of_getElem? (i := 2) rfl)) (by decide) (by decide)) q95a q95c (g := (mkF m 197 #[.val (.long q1), .second, .val (.long q2), .second, .val (.long q3), .second, .val (.long q4), .second, .val (.int p5), .val (.int p6), .val (.int rv), .val (.int ov), .val (.int h0_), .val (.int (0 : Int32)), .val (.int (0 : Int32)), .val (.int (0 : Int32)), .val (.int ol), .val (.int ho), .val (.int rev), .val (.ref bw), .unset] [(.long q1), (.int (0 : Int32)), (.int rv), (.ref bw)])) rfl (by rw [hml]; rfl) (Steps.refl _) (argsL := [(.int rv), (.int (0 : Int32)), (.long q1)]) (rest := []) (lenOf pd5 rfl) rfl (by show 2 * 0 + _ ≤ _; exact Nat.le_of_eq rfl) (hb hby at_197) (fun _ _ => ⟨rfl, eq137, (by decide : 3 + 1 ≤ _), (by decide : 12 + 8 ≤ _)⟩)
                dsimp only [Pt.U, Pt.locs, Pt.cells, Pt.slots] at X95 l95 y95 z95 st95 hQ95
                subst l95 y95 z95
                obtain ⟨b_95, kb_95, rfl, N95q, K95, s95_b, f95_0, f95_1, f95_2, f95_3⟩ := hQ95
                have N95 := Fr.app Nq137 N95q
                have sz_b_95 : h0.size ≤ b_95 := Nat.le_trans Kq137.1 s95_b
                have g_b_95 : n0 ≤ b_95 := Nat.le_trans Z0 sz_b_95
                have KK95 : Keep h0 T95.heap [] := Kq137.trans K95 (allS (Or.inr sz_rr) all0)
                have pre96 : ∀ t, Steps p.tables e below (T95.setTop (mkF m 261 #[.val (.long q1), .second, .val (.long q2), .second, .val (.long q3), .second, .val (.long q4), .second, .val (.int p5), .val (.int p6), .val (.int rv), .val (.int ov), .val (.int h0_), .val (.int (0 : Int32)), .val (.int (0 : Int32)), .val (.int (0 : Int32)), .val (.int ol), .val (.int ho), .val (.int rev), .val (.ref bw), .unset] [])) t → Steps p.tables e below (s₁.setTop (entryFrame m #[(.long q1), (.long q2), (.long q3), (.long q4), (.int p5), (.int p6)] maxLocals)) t := by
                  intro t kt
                  refine pre92 _ ?_
                  refine XS.ifNo Xq137.here hx rfl (hb hby at_188) rfl ((if0 _ _).trans (feq hc188_93).1) ?_
                  refine XS.aload Xq137.here hx rfl (hb hby at_191) rfl rfl ?_
                  refine XS.iload Xq137.here hx rfl (hb hby at_193) rfl ?_
                  refine XS.iconst Xq137.here hx rfl (hb hby at_195) ?_
                  refine XS.lloadN Xq137.here hx rfl (hb hby at_196) rfl ?_
                  show Steps p.tables e below (Tq137.setTop (mkF m 197 #[.val (.long q1), .second, .val (.long q2), .second, .val (.long q3), .second, .val (.long q4), .second, .val (.int p5), .val (.int p6), .val (.int rv), .val (.int ov), .val (.int h0_), .val (.int (0 : Int32)), .val (.int (0 : Int32)), .val (.int (0 : Int32)), .val (.int ol), .val (.int ho), .val (.int rev), .val (.ref bw), .unset] [(.long q1), (.int (0 : Int32)), (.int rv), (.ref bw)])) _
                  refine st95.trans ?_
                  refine XS.goto X95.here hx rfl (pc0 := 200) (pc' := 261) rfl (hb hby at_200) (by decide) (by decide) ?_
                  exact kt
                exact cut261 T95 _ (own_smono X95 (by decide) (by decide)) _ rfl N95 KK95 rv ov h0_ (0 : Int32) (0 : Int32) (0 : Int32) ol ho rev bw rr kr b_95 kb_95 sg pre96 (E_bw.keep K95) (F_bw.keep K95 (ninS hne_bw nin0)) f95_1 f95_2 (r_rv : rv = (0 : Int32) ∨ rv = (1 : Int32))
            · obtain ⟨cq97, kq97, q97a, q97b, q97c⟩ := isOf hZ eq137 E_bw
              obtain ⟨_, _, ⟨T97, L97, k97, n97⟩, -, X97, ⟨Lc97, hQ97, l97, y97, z97⟩, st97⟩ := Xq137.virtualBack hx (y := (⟨"com/example/chartlight/chartlight/label/WeightRows", "add", "(IIJ)V"⟩ : MethodName)) (z := (⟨"com/example/chartlight/chartlight/label/WeightRows", "add", "(IIJ)V"⟩ : MethodName)) hown (mvT hZ (hw _ (List.mem_of_getElem? (i := 22) rfl))) (mvT hZ (hw _ (List.mem_of_getElem? (i := 23) rfl))) (notFace_of_selects (args := #[]) (mvT hZ (hw _ (List.mem_of_getElem? (i := 25) rfl)))) (mvT hZ (hw _ (List.mem_of_getElem? (i := 25) rfl))) (mvT hZ (hw _ (List.mem_of_getElem? (i := 24) rfl))) (by decide) (backOf (W := 0) (rm_addD1 l Z a0 hw [] bw rv q2 rr kr w_NONE sg kN (0 : Int32) (0 : Int32) h1_ q1 q2 q3 q4 Hq137 n0 (Nat.le_trans Z0 Kq137.1) F_bw V_rr E_rr V_N0 g_rr (r_rv : rv = (0 : Int32) ∨ rv = (1 : Int32)) (hO : OvrA Z kr .long "[J") ((Nat.ne_of_lt (Nat.lt_of_lt_of_le E_w_NONE.lt sz_rr)) : w_NONE ≠ rr) (hc174_91 : ¬ (h1_ = (0 : Int32)))) hZ (hw _ (List.mem_of_getElem? (i := 26) rfl)) (hw _ (List.mem_of_getElem? (i := 2) rfl)) (by decide) (by decide)) q97a q97c (g := (mkF m 183 #[.val (.long q1), .second, .val (.long q2), .second, .val (.long q3), .second, .val (.long q4), .second, .val (.int p5), .val (.int p6), .val (.int rv), .val (.int ov), .val (.int h0_), .val (.int h1_), .val (.int (0 : Int32)), .val (.int (0 : Int32)), .val (.int ol), .val (.int ho), .val (.int rev), .val (.ref bw), .unset] [(.long q2), (.int (1 : Int32)), (.int rv), (.ref bw)])) rfl (by rw [hml]; rfl) (Steps.refl _) (argsL := [(.int rv), (.int (1 : Int32)), (.long q2)]) (rest := []) (lenOf pd5 rfl) rfl (by show 2 * 0 + _ ≤ _; exact Nat.le_of_eq rfl) (hb hby at_183) (fun _ _ => ⟨rfl, eq137, (by decide : 3 + 1 ≤ _), (by decide : 12 + 8 ≤ _)⟩)
              dsimp only [Pt.U, Pt.locs, Pt.cells, Pt.slots] at X97 l97 y97 z97 st97 hQ97
              subst l97 y97 z97
              obtain ⟨b_97, kb_97, rfl, N97q, K97, s97_b, f97_0, f97_1, f97_2, f97_3⟩ := hQ97
              have N97 := Fr.app Nq137 N97q
              have sz_b_97 : h0.size ≤ b_97 := Nat.le_trans Kq137.1 s97_b
              have g_b_97 : n0 ≤ b_97 := Nat.le_trans Z0 sz_b_97
              have KK97 : Keep h0 T97.heap [] := Kq137.trans K97 (allS (Or.inr sz_rr) all0)
              have pre98 : ∀ t, Steps p.tables e below (T97.setTop (mkF m 188 #[.val (.long q1), .second, .val (.long q2), .second, .val (.long q3), .second, .val (.long q4), .second, .val (.int p5), .val (.int p6), .val (.int rv), .val (.int ov), .val (.int h0_), .val (.int h1_), .val (.int (0 : Int32)), .val (.int (0 : Int32)), .val (.int ol), .val (.int ho), .val (.int rev), .val (.ref bw), .unset] [(.int h0_)])) t → Steps p.tables e below (s₁.setTop (entryFrame m #[(.long q1), (.long q2), (.long q3), (.long q4), (.int p5), (.int p6)] maxLocals)) t := by
                intro t kt
                refine pre90 _ ?_
                refine XS.ifNo Xq137.here hx rfl (hb hby at_174) rfl ((if0 _ _).trans (feq hc174_91).1) ?_
                refine XS.aload Xq137.here hx rfl (hb hby at_177) rfl rfl ?_
                refine XS.iload Xq137.here hx rfl (hb hby at_179) rfl ?_
                refine XS.iconst Xq137.here hx rfl (hb hby at_181) ?_
                refine XS.lloadN Xq137.here hx rfl (hb hby at_182) rfl ?_
                show Steps p.tables e below (Tq137.setTop (mkF m 183 #[.val (.long q1), .second, .val (.long q2), .second, .val (.long q3), .second, .val (.long q4), .second, .val (.int p5), .val (.int p6), .val (.int rv), .val (.int ov), .val (.int h0_), .val (.int h1_), .val (.int (0 : Int32)), .val (.int (0 : Int32)), .val (.int ol), .val (.int ho), .val (.int rev), .val (.ref bw), .unset] [(.long q2), (.int (1 : Int32)), (.int rv), (.ref bw)])) _
                refine st97.trans ?_
                refine XS.iload X97.here hx rfl (hb hby at_186) rfl ?_
                exact kt
              by_cases hc188_99 : h0_ = (0 : Int32)
              · rw [hc188_99] at pre98
                have pre100 : ∀ t, Steps p.tables e below (T97.setTop (mkF m 261 #[.val (.long q1), .second, .val (.long q2), .second, .val (.long q3), .second, .val (.long q4), .second, .val (.int p5), .val (.int p6), .val (.int rv), .val (.int ov), .val (.int (0 : Int32)), .val (.int h1_), .val (.int (0 : Int32)), .val (.int (0 : Int32)), .val (.int ol), .val (.int ho), .val (.int rev), .val (.ref bw), .unset] [])) t → Steps p.tables e below (s₁.setTop (entryFrame m #[(.long q1), (.long q2), (.long q3), (.long q4), (.int p5), (.int p6)] maxLocals)) t := by
                  intro t kt
                  refine pre98 _ ?_
                  refine XS.ifYes X97.here hx rfl (pc0 := 188) (pc' := 261) rfl (hb hby at_188) rfl ((if0 _ _).trans (teq (rfl : (0 : Int32) = (0 : Int32))).1) (by decide) (by decide) ?_
                  exact kt
                exact cut261 T97 _ (own_smono X97 (by decide) (by decide)) _ rfl N97 KK97 rv ov (0 : Int32) h1_ (0 : Int32) (0 : Int32) ol ho rev bw rr kr b_97 kb_97 sg pre100 (E_bw.keep K97) (F_bw.keep K97 (ninS hne_bw nin0)) f97_1 f97_2 (r_rv : rv = (0 : Int32) ∨ rv = (1 : Int32))
              · obtain ⟨cq101, kq101, q101a, q101b, q101c⟩ := isOf hZ rfl (E_bw.keep K97)
                obtain ⟨_, _, ⟨T101, L101, k101, n101⟩, -, X101, ⟨Lc101, hQ101, l101, y101, z101⟩, st101⟩ := X97.virtualBack hx (y := (⟨"com/example/chartlight/chartlight/label/WeightRows", "add", "(IIJ)V"⟩ : MethodName)) (z := (⟨"com/example/chartlight/chartlight/label/WeightRows", "add", "(IIJ)V"⟩ : MethodName)) hown (mvT hZ (hw _ (List.mem_of_getElem? (i := 22) rfl))) (mvT hZ (hw _ (List.mem_of_getElem? (i := 23) rfl))) (notFace_of_selects (args := #[]) (mvT hZ (hw _ (List.mem_of_getElem? (i := 25) rfl)))) (mvT hZ (hw _ (List.mem_of_getElem? (i := 25) rfl))) (mvT hZ (hw _ (List.mem_of_getElem? (i := 24) rfl))) (by decide) (backOf (W := 0) (rm_addD0 l Z a0 hw [] bw rv q1 rr kr b_97 sg kb_97 h1_ (0 : Int32) (0 : Int32) h0_ q1 q2 q3 q4 T97.heap n0 (Nat.le_trans Z0 KK97.1) (F_bw.keep K97 (ninS hne_bw nin0)) f97_1 (E_rr.keep K97) f97_2 g_rr (r_rv : rv = (0 : Int32) ∨ rv = (1 : Int32)) (hO : OvrA Z kr .long "[J") ((Ne.symm (Nat.ne_of_lt (Nat.lt_of_lt_of_le E_rr.lt s97_b))) : b_97 ≠ rr) (hc188_99 : ¬ (h0_ = (0 : Int32)))) hZ (hw _ (List.mem_of_getElem? (i := 26) rfl)) (hw _ (List.mem_of_getElem? (i := 2) rfl)) (by decide) (by decide)) q101a q101c (g := (mkF m 197 #[.val (.long q1), .second, .val (.long q2), .second, .val (.long q3), .second, .val (.long q4), .second, .val (.int p5), .val (.int p6), .val (.int rv), .val (.int ov), .val (.int h0_), .val (.int h1_), .val (.int (0 : Int32)), .val (.int (0 : Int32)), .val (.int ol), .val (.int ho), .val (.int rev), .val (.ref bw), .unset] [(.long q1), (.int (0 : Int32)), (.int rv), (.ref bw)])) rfl (by rw [hml]; rfl) (Steps.refl _) (argsL := [(.int rv), (.int (0 : Int32)), (.long q1)]) (rest := []) (lenOf pd5 rfl) rfl (by show 2 * 0 + _ ≤ _; exact Nat.le_of_eq rfl) (hb hby at_197) (fun _ _ => ⟨rfl, rfl, (by decide : 4 + 1 ≤ _), (by decide : 20 + 8 ≤ _)⟩)
                dsimp only [Pt.U, Pt.locs, Pt.cells, Pt.slots] at X101 l101 y101 z101 st101 hQ101
                subst l101 y101 z101
                obtain ⟨b_101, kb_101, rfl, N101q, K101, s101_b, f101_0, f101_1, f101_2, f101_3⟩ := hQ101
                have N101 := Fr.app N97 N101q
                have sz_b_101 : h0.size ≤ b_101 := Nat.le_trans KK97.1 s101_b
                have g_b_101 : n0 ≤ b_101 := Nat.le_trans Z0 sz_b_101
                have KK101 : Keep h0 T101.heap [] := KK97.trans K101 (allS (Or.inr sz_rr) all0)
                have pre102 : ∀ t, Steps p.tables e below (T101.setTop (mkF m 261 #[.val (.long q1), .second, .val (.long q2), .second, .val (.long q3), .second, .val (.long q4), .second, .val (.int p5), .val (.int p6), .val (.int rv), .val (.int ov), .val (.int h0_), .val (.int h1_), .val (.int (0 : Int32)), .val (.int (0 : Int32)), .val (.int ol), .val (.int ho), .val (.int rev), .val (.ref bw), .unset] [])) t → Steps p.tables e below (s₁.setTop (entryFrame m #[(.long q1), (.long q2), (.long q3), (.long q4), (.int p5), (.int p6)] maxLocals)) t := by
                  intro t kt
                  refine pre98 _ ?_
                  refine XS.ifNo X97.here hx rfl (hb hby at_188) rfl ((if0 _ _).trans (feq hc188_99).1) ?_
                  refine XS.aload X97.here hx rfl (hb hby at_191) rfl rfl ?_
                  refine XS.iload X97.here hx rfl (hb hby at_193) rfl ?_
                  refine XS.iconst X97.here hx rfl (hb hby at_195) ?_
                  refine XS.lloadN X97.here hx rfl (hb hby at_196) rfl ?_
                  show Steps p.tables e below (T97.setTop (mkF m 197 #[.val (.long q1), .second, .val (.long q2), .second, .val (.long q3), .second, .val (.long q4), .second, .val (.int p5), .val (.int p6), .val (.int rv), .val (.int ov), .val (.int h0_), .val (.int h1_), .val (.int (0 : Int32)), .val (.int (0 : Int32)), .val (.int ol), .val (.int ho), .val (.int rev), .val (.ref bw), .unset] [(.long q1), (.int (0 : Int32)), (.int rv), (.ref bw)])) _
                  refine st101.trans ?_
                  refine XS.goto X101.here hx rfl (pc0 := 200) (pc' := 261) rfl (hb hby at_200) (by decide) (by decide) ?_
                  exact kt
                exact cut261 T101 _ (own_smono X101 (by decide) (by decide)) _ rfl N101 KK101 rv ov h0_ h1_ (0 : Int32) (0 : Int32) ol ho rev bw rr kr b_101 kb_101 sg pre102 ((E_bw.keep K97).keep K101) ((F_bw.keep K97 (ninS hne_bw nin0)).keep K101 (ninS hne_bw nin0)) f101_1 f101_2 (r_rv : rv = (0 : Int32) ∨ rv = (1 : Int32))
          · obtain ⟨cq103, kq103, q103a, q103b, q103c⟩ := isOf hZ eq137 E_bw
            obtain ⟨_, _, ⟨T103, L103, k103, n103⟩, -, X103, ⟨Lc103, hQ103, l103, y103, z103⟩, st103⟩ := Xq137.virtualBack hx (y := (⟨"com/example/chartlight/chartlight/label/WeightRows", "add", "(IIJ)V"⟩ : MethodName)) (z := (⟨"com/example/chartlight/chartlight/label/WeightRows", "add", "(IIJ)V"⟩ : MethodName)) hown (mvT hZ (hw _ (List.mem_of_getElem? (i := 22) rfl))) (mvT hZ (hw _ (List.mem_of_getElem? (i := 23) rfl))) (notFace_of_selects (args := #[]) (mvT hZ (hw _ (List.mem_of_getElem? (i := 25) rfl)))) (mvT hZ (hw _ (List.mem_of_getElem? (i := 25) rfl))) (mvT hZ (hw _ (List.mem_of_getElem? (i := 24) rfl))) (by decide) (backOf (W := 0) (rm_addD2 l Z a0 hw [] bw rv q3 rr kr w_NONE sg kN (0 : Int32) h2_ q1 q2 q3 q4 Hq137 n0 (Nat.le_trans Z0 Kq137.1) F_bw V_rr E_rr V_N0 g_rr (r_rv : rv = (0 : Int32) ∨ rv = (1 : Int32)) (hO : OvrA Z kr .long "[J") ((Nat.ne_of_lt (Nat.lt_of_lt_of_le E_w_NONE.lt sz_rr)) : w_NONE ≠ rr) (hc159_89 : ¬ (h2_ = (0 : Int32)))) hZ (hw _ (List.mem_of_getElem? (i := 26) rfl)) (hw _ (List.mem_of_getElem? (i := 2) rfl)) (by decide) (by decide)) q103a q103c (g := (mkF m 169 #[.val (.long q1), .second, .val (.long q2), .second, .val (.long q3), .second, .val (.long q4), .second, .val (.int p5), .val (.int p6), .val (.int rv), .val (.int ov), .val (.int h0_), .val (.int h1_), .val (.int h2_), .val (.int (0 : Int32)), .val (.int ol), .val (.int ho), .val (.int rev), .val (.ref bw), .unset] [(.long q3), (.int (2 : Int32)), (.int rv), (.ref bw)])) rfl (by rw [hml]; rfl) (Steps.refl _) (argsL := [(.int rv), (.int (2 : Int32)), (.long q3)]) (rest := []) (lenOf pd5 rfl) rfl (by show 2 * 0 + _ ≤ _; exact Nat.le_of_eq rfl) (hb hby at_169) (fun _ _ => ⟨rfl, eq137, (by decide : 3 + 1 ≤ _), (by decide : 12 + 8 ≤ _)⟩)
            dsimp only [Pt.U, Pt.locs, Pt.cells, Pt.slots] at X103 l103 y103 z103 st103 hQ103
            subst l103 y103 z103
            obtain ⟨b_103, kb_103, rfl, N103q, K103, s103_b, f103_0, f103_1, f103_2, f103_3⟩ := hQ103
            have N103 := Fr.app Nq137 N103q
            have sz_b_103 : h0.size ≤ b_103 := Nat.le_trans Kq137.1 s103_b
            have g_b_103 : n0 ≤ b_103 := Nat.le_trans Z0 sz_b_103
            have KK103 : Keep h0 T103.heap [] := Kq137.trans K103 (allS (Or.inr sz_rr) all0)
            have pre104 : ∀ t, Steps p.tables e below (T103.setTop (mkF m 174 #[.val (.long q1), .second, .val (.long q2), .second, .val (.long q3), .second, .val (.long q4), .second, .val (.int p5), .val (.int p6), .val (.int rv), .val (.int ov), .val (.int h0_), .val (.int h1_), .val (.int h2_), .val (.int (0 : Int32)), .val (.int ol), .val (.int ho), .val (.int rev), .val (.ref bw), .unset] [(.int h1_)])) t → Steps p.tables e below (s₁.setTop (entryFrame m #[(.long q1), (.long q2), (.long q3), (.long q4), (.int p5), (.int p6)] maxLocals)) t := by
              intro t kt
              refine pre88 _ ?_
              refine XS.ifNo Xq137.here hx rfl (hb hby at_159) rfl ((if0 _ _).trans (feq hc159_89).1) ?_
              refine XS.aload Xq137.here hx rfl (hb hby at_162) rfl rfl ?_
              refine XS.iload Xq137.here hx rfl (hb hby at_164) rfl ?_
              refine XS.iconst Xq137.here hx rfl (hb hby at_166) ?_
              refine XS.lload Xq137.here hx rfl (hb hby at_167) rfl ?_
              show Steps p.tables e below (Tq137.setTop (mkF m 169 #[.val (.long q1), .second, .val (.long q2), .second, .val (.long q3), .second, .val (.long q4), .second, .val (.int p5), .val (.int p6), .val (.int rv), .val (.int ov), .val (.int h0_), .val (.int h1_), .val (.int h2_), .val (.int (0 : Int32)), .val (.int ol), .val (.int ho), .val (.int rev), .val (.ref bw), .unset] [(.long q3), (.int (2 : Int32)), (.int rv), (.ref bw)])) _
              refine st103.trans ?_
              refine XS.iload X103.here hx rfl (hb hby at_172) rfl ?_
              exact kt
            by_cases hc174_105 : h1_ = (0 : Int32)
            · rw [hc174_105] at pre104
              have pre106 : ∀ t, Steps p.tables e below (T103.setTop (mkF m 188 #[.val (.long q1), .second, .val (.long q2), .second, .val (.long q3), .second, .val (.long q4), .second, .val (.int p5), .val (.int p6), .val (.int rv), .val (.int ov), .val (.int h0_), .val (.int (0 : Int32)), .val (.int h2_), .val (.int (0 : Int32)), .val (.int ol), .val (.int ho), .val (.int rev), .val (.ref bw), .unset] [(.int h0_)])) t → Steps p.tables e below (s₁.setTop (entryFrame m #[(.long q1), (.long q2), (.long q3), (.long q4), (.int p5), (.int p6)] maxLocals)) t := by
                intro t kt
                refine pre104 _ ?_
                refine XS.ifYes X103.here hx rfl (pc0 := 174) (pc' := 186) rfl (hb hby at_174) rfl ((if0 _ _).trans (teq (rfl : (0 : Int32) = (0 : Int32))).1) (by decide) (by decide) ?_
                refine XS.iload X103.here hx rfl (hb hby at_186) rfl ?_
                exact kt
              by_cases hc188_107 : h0_ = (0 : Int32)
              · rw [hc188_107] at pre106
                have pre108 : ∀ t, Steps p.tables e below (T103.setTop (mkF m 261 #[.val (.long q1), .second, .val (.long q2), .second, .val (.long q3), .second, .val (.long q4), .second, .val (.int p5), .val (.int p6), .val (.int rv), .val (.int ov), .val (.int (0 : Int32)), .val (.int (0 : Int32)), .val (.int h2_), .val (.int (0 : Int32)), .val (.int ol), .val (.int ho), .val (.int rev), .val (.ref bw), .unset] [])) t → Steps p.tables e below (s₁.setTop (entryFrame m #[(.long q1), (.long q2), (.long q3), (.long q4), (.int p5), (.int p6)] maxLocals)) t := by
                  intro t kt
                  refine pre106 _ ?_
                  refine XS.ifYes X103.here hx rfl (pc0 := 188) (pc' := 261) rfl (hb hby at_188) rfl ((if0 _ _).trans (teq (rfl : (0 : Int32) = (0 : Int32))).1) (by decide) (by decide) ?_
                  exact kt
                exact cut261 T103 _ (own_smono X103 (by decide) (by decide)) _ rfl N103 KK103 rv ov (0 : Int32) (0 : Int32) h2_ (0 : Int32) ol ho rev bw rr kr b_103 kb_103 sg pre108 (E_bw.keep K103) (F_bw.keep K103 (ninS hne_bw nin0)) f103_1 f103_2 (r_rv : rv = (0 : Int32) ∨ rv = (1 : Int32))
              · obtain ⟨cq109, kq109, q109a, q109b, q109c⟩ := isOf hZ rfl (E_bw.keep K103)
                obtain ⟨_, _, ⟨T109, L109, k109, n109⟩, -, X109, ⟨Lc109, hQ109, l109, y109, z109⟩, st109⟩ := X103.virtualBack hx (y := (⟨"com/example/chartlight/chartlight/label/WeightRows", "add", "(IIJ)V"⟩ : MethodName)) (z := (⟨"com/example/chartlight/chartlight/label/WeightRows", "add", "(IIJ)V"⟩ : MethodName)) hown (mvT hZ (hw _ (List.mem_of_getElem? (i := 22) rfl))) (mvT hZ (hw _ (List.mem_of_getElem? (i := 23) rfl))) (notFace_of_selects (args := #[]) (mvT hZ (hw _ (List.mem_of_getElem? (i := 25) rfl)))) (mvT hZ (hw _ (List.mem_of_getElem? (i := 25) rfl))) (mvT hZ (hw _ (List.mem_of_getElem? (i := 24) rfl))) (by decide) (backOf (W := 0) (rm_addD0 l Z a0 hw [] bw rv q1 rr kr b_103 sg kb_103 (0 : Int32) h2_ (0 : Int32) h0_ q1 q2 q3 q4 T103.heap n0 (Nat.le_trans Z0 KK103.1) (F_bw.keep K103 (ninS hne_bw nin0)) f103_1 (E_rr.keep K103) f103_2 g_rr (r_rv : rv = (0 : Int32) ∨ rv = (1 : Int32)) (hO : OvrA Z kr .long "[J") ((Ne.symm (Nat.ne_of_lt (Nat.lt_of_lt_of_le E_rr.lt s103_b))) : b_103 ≠ rr) (hc188_107 : ¬ (h0_ = (0 : Int32)))) hZ (hw _ (List.mem_of_getElem? (i := 26) rfl)) (hw _ (List.mem_of_getElem? (i := 2) rfl)) (by decide) (by decide)) q109a q109c (g := (mkF m 197 #[.val (.long q1), .second, .val (.long q2), .second, .val (.long q3), .second, .val (.long q4), .second, .val (.int p5), .val (.int p6), .val (.int rv), .val (.int ov), .val (.int h0_), .val (.int (0 : Int32)), .val (.int h2_), .val (.int (0 : Int32)), .val (.int ol), .val (.int ho), .val (.int rev), .val (.ref bw), .unset] [(.long q1), (.int (0 : Int32)), (.int rv), (.ref bw)])) rfl (by rw [hml]; rfl) (Steps.refl _) (argsL := [(.int rv), (.int (0 : Int32)), (.long q1)]) (rest := []) (lenOf pd5 rfl) rfl (by show 2 * 0 + _ ≤ _; exact Nat.le_of_eq rfl) (hb hby at_197) (fun _ _ => ⟨rfl, rfl, (by decide : 4 + 1 ≤ _), (by decide : 20 + 8 ≤ _)⟩)
                dsimp only [Pt.U, Pt.locs, Pt.cells, Pt.slots] at X109 l109 y109 z109 st109 hQ109
                subst l109 y109 z109
                obtain ⟨b_109, kb_109, rfl, N109q, K109, s109_b, f109_0, f109_1, f109_2, f109_3⟩ := hQ109
                have N109 := Fr.app N103 N109q
                have sz_b_109 : h0.size ≤ b_109 := Nat.le_trans KK103.1 s109_b
                have g_b_109 : n0 ≤ b_109 := Nat.le_trans Z0 sz_b_109
                have KK109 : Keep h0 T109.heap [] := KK103.trans K109 (allS (Or.inr sz_rr) all0)
                have pre110 : ∀ t, Steps p.tables e below (T109.setTop (mkF m 261 #[.val (.long q1), .second, .val (.long q2), .second, .val (.long q3), .second, .val (.long q4), .second, .val (.int p5), .val (.int p6), .val (.int rv), .val (.int ov), .val (.int h0_), .val (.int (0 : Int32)), .val (.int h2_), .val (.int (0 : Int32)), .val (.int ol), .val (.int ho), .val (.int rev), .val (.ref bw), .unset] [])) t → Steps p.tables e below (s₁.setTop (entryFrame m #[(.long q1), (.long q2), (.long q3), (.long q4), (.int p5), (.int p6)] maxLocals)) t := by
                  intro t kt
                  refine pre106 _ ?_
                  refine XS.ifNo X103.here hx rfl (hb hby at_188) rfl ((if0 _ _).trans (feq hc188_107).1) ?_
                  refine XS.aload X103.here hx rfl (hb hby at_191) rfl rfl ?_
                  refine XS.iload X103.here hx rfl (hb hby at_193) rfl ?_
                  refine XS.iconst X103.here hx rfl (hb hby at_195) ?_
                  refine XS.lloadN X103.here hx rfl (hb hby at_196) rfl ?_
                  show Steps p.tables e below (T103.setTop (mkF m 197 #[.val (.long q1), .second, .val (.long q2), .second, .val (.long q3), .second, .val (.long q4), .second, .val (.int p5), .val (.int p6), .val (.int rv), .val (.int ov), .val (.int h0_), .val (.int (0 : Int32)), .val (.int h2_), .val (.int (0 : Int32)), .val (.int ol), .val (.int ho), .val (.int rev), .val (.ref bw), .unset] [(.long q1), (.int (0 : Int32)), (.int rv), (.ref bw)])) _
                  refine st109.trans ?_
                  refine XS.goto X109.here hx rfl (pc0 := 200) (pc' := 261) rfl (hb hby at_200) (by decide) (by decide) ?_
                  exact kt
                exact cut261 T109 _ (own_smono X109 (by decide) (by decide)) _ rfl N109 KK109 rv ov h0_ (0 : Int32) h2_ (0 : Int32) ol ho rev bw rr kr b_109 kb_109 sg pre110 ((E_bw.keep K103).keep K109) ((F_bw.keep K103 (ninS hne_bw nin0)).keep K109 (ninS hne_bw nin0)) f109_1 f109_2 (r_rv : rv = (0 : Int32) ∨ rv = (1 : Int32))
            · obtain ⟨cq111, kq111, q111a, q111b, q111c⟩ := isOf hZ rfl (E_bw.keep K103)
              obtain ⟨_, _, ⟨T111, L111, k111, n111⟩, -, X111, ⟨Lc111, hQ111, l111, y111, z111⟩, st111⟩ := X103.virtualBack hx (y := (⟨"com/example/chartlight/chartlight/label/WeightRows", "add", "(IIJ)V"⟩ : MethodName)) (z := (⟨"com/example/chartlight/chartlight/label/WeightRows", "add", "(IIJ)V"⟩ : MethodName)) hown (mvT hZ (hw _ (List.mem_of_getElem? (i := 22) rfl))) (mvT hZ (hw _ (List.mem_of_getElem? (i := 23) rfl))) (notFace_of_selects (args := #[]) (mvT hZ (hw _ (List.mem_of_getElem? (i := 25) rfl)))) (mvT hZ (hw _ (List.mem_of_getElem? (i := 25) rfl))) (mvT hZ (hw _ (List.mem_of_getElem? (i := 24) rfl))) (by decide) (backOf (W := 0) (rm_addD1 l Z a0 hw [] bw rv q2 rr kr b_103 sg kb_103 h2_ (0 : Int32) h1_ q1 q2 q3 q4 T103.heap n0 (Nat.le_trans Z0 KK103.1) (F_bw.keep K103 (ninS hne_bw nin0)) f103_1 (E_rr.keep K103) f103_2 g_rr (r_rv : rv = (0 : Int32) ∨ rv = (1 : Int32)) (hO : OvrA Z kr .long "[J") ((Ne.symm (Nat.ne_of_lt (Nat.lt_of_lt_of_le E_rr.lt s103_b))) : b_103 ≠ rr) (hc174_105 : ¬ (h1_ = (0 : Int32)))) hZ (hw _ (List.mem_of_getElem? (i := 26) rfl)) (hw _ (List.mem_of_getElem? (i := 2) rfl)) (by decide) (by decide)) q111a q111c (g := (mkF m 183 #[.val (.long q1), .second, .val (.long q2), .second, .val (.long q3), .second, .val (.long q4), .second, .val (.int p5), .val (.int p6), .val (.int rv), .val (.int ov), .val (.int h0_), .val (.int h1_), .val (.int h2_), .val (.int (0 : Int32)), .val (.int ol), .val (.int ho), .val (.int rev), .val (.ref bw), .unset] [(.long q2), (.int (1 : Int32)), (.int rv), (.ref bw)])) rfl (by rw [hml]; rfl) (Steps.refl _) (argsL := [(.int rv), (.int (1 : Int32)), (.long q2)]) (rest := []) (lenOf pd5 rfl) rfl (by show 2 * 0 + _ ≤ _; exact Nat.le_of_eq rfl) (hb hby at_183) (fun _ _ => ⟨rfl, rfl, (by decide : 4 + 1 ≤ _), (by decide : 20 + 8 ≤ _)⟩)
              dsimp only [Pt.U, Pt.locs, Pt.cells, Pt.slots] at X111 l111 y111 z111 st111 hQ111
              subst l111 y111 z111
              obtain ⟨b_111, kb_111, rfl, N111q, K111, s111_b, f111_0, f111_1, f111_2, f111_3⟩ := hQ111
              have N111 := Fr.app N103 N111q
              have sz_b_111 : h0.size ≤ b_111 := Nat.le_trans KK103.1 s111_b
              have g_b_111 : n0 ≤ b_111 := Nat.le_trans Z0 sz_b_111
              have KK111 : Keep h0 T111.heap [] := KK103.trans K111 (allS (Or.inr sz_rr) all0)
              have pre112 : ∀ t, Steps p.tables e below (T111.setTop (mkF m 188 #[.val (.long q1), .second, .val (.long q2), .second, .val (.long q3), .second, .val (.long q4), .second, .val (.int p5), .val (.int p6), .val (.int rv), .val (.int ov), .val (.int h0_), .val (.int h1_), .val (.int h2_), .val (.int (0 : Int32)), .val (.int ol), .val (.int ho), .val (.int rev), .val (.ref bw), .unset] [(.int h0_)])) t → Steps p.tables e below (s₁.setTop (entryFrame m #[(.long q1), (.long q2), (.long q3), (.long q4), (.int p5), (.int p6)] maxLocals)) t := by
                intro t kt
                refine pre104 _ ?_
                refine XS.ifNo X103.here hx rfl (hb hby at_174) rfl ((if0 _ _).trans (feq hc174_105).1) ?_
                refine XS.aload X103.here hx rfl (hb hby at_177) rfl rfl ?_
                refine XS.iload X103.here hx rfl (hb hby at_179) rfl ?_
                refine XS.iconst X103.here hx rfl (hb hby at_181) ?_
                refine XS.lloadN X103.here hx rfl (hb hby at_182) rfl ?_
                show Steps p.tables e below (T103.setTop (mkF m 183 #[.val (.long q1), .second, .val (.long q2), .second, .val (.long q3), .second, .val (.long q4), .second, .val (.int p5), .val (.int p6), .val (.int rv), .val (.int ov), .val (.int h0_), .val (.int h1_), .val (.int h2_), .val (.int (0 : Int32)), .val (.int ol), .val (.int ho), .val (.int rev), .val (.ref bw), .unset] [(.long q2), (.int (1 : Int32)), (.int rv), (.ref bw)])) _
                refine st111.trans ?_
                refine XS.iload X111.here hx rfl (hb hby at_186) rfl ?_
                exact kt
              by_cases hc188_113 : h0_ = (0 : Int32)
              · rw [hc188_113] at pre112
                have pre114 : ∀ t, Steps p.tables e below (T111.setTop (mkF m 261 #[.val (.long q1), .second, .val (.long q2), .second, .val (.long q3), .second, .val (.long q4), .second, .val (.int p5), .val (.int p6), .val (.int rv), .val (.int ov), .val (.int (0 : Int32)), .val (.int h1_), .val (.int h2_), .val (.int (0 : Int32)), .val (.int ol), .val (.int ho), .val (.int rev), .val (.ref bw), .unset] [])) t → Steps p.tables e below (s₁.setTop (entryFrame m #[(.long q1), (.long q2), (.long q3), (.long q4), (.int p5), (.int p6)] maxLocals)) t := by
                  intro t kt
                  refine pre112 _ ?_
                  refine XS.ifYes X111.here hx rfl (pc0 := 188) (pc' := 261) rfl (hb hby at_188) rfl ((if0 _ _).trans (teq (rfl : (0 : Int32) = (0 : Int32))).1) (by decide) (by decide) ?_
                  exact kt
                exact cut261 T111 _ (own_smono X111 (by decide) (by decide)) _ rfl N111 KK111 rv ov (0 : Int32) h1_ h2_ (0 : Int32) ol ho rev bw rr kr b_111 kb_111 sg pre114 ((E_bw.keep K103).keep K111) ((F_bw.keep K103 (ninS hne_bw nin0)).keep K111 (ninS hne_bw nin0)) f111_1 f111_2 (r_rv : rv = (0 : Int32) ∨ rv = (1 : Int32))
              · obtain ⟨cq115, kq115, q115a, q115b, q115c⟩ := isOf hZ rfl ((E_bw.keep K103).keep K111)
                obtain ⟨_, _, ⟨T115, L115, k115, n115⟩, -, X115, ⟨Lc115, hQ115, l115, y115, z115⟩, st115⟩ := X111.virtualBack hx (y := (⟨"com/example/chartlight/chartlight/label/WeightRows", "add", "(IIJ)V"⟩ : MethodName)) (z := (⟨"com/example/chartlight/chartlight/label/WeightRows", "add", "(IIJ)V"⟩ : MethodName)) hown (mvT hZ (hw _ (List.mem_of_getElem? (i := 22) rfl))) (mvT hZ (hw _ (List.mem_of_getElem? (i := 23) rfl))) (notFace_of_selects (args := #[]) (mvT hZ (hw _ (List.mem_of_getElem? (i := 25) rfl)))) (mvT hZ (hw _ (List.mem_of_getElem? (i := 25) rfl))) (mvT hZ (hw _ (List.mem_of_getElem? (i := 24) rfl))) (by decide) (backOf (W := 0) (rm_addD0 l Z a0 hw [] bw rv q1 rr kr b_111 sg kb_111 h1_ h2_ (0 : Int32) h0_ q1 q2 q3 q4 T111.heap n0 (Nat.le_trans Z0 KK111.1) ((F_bw.keep K103 (ninS hne_bw nin0)).keep K111 (ninS hne_bw nin0)) f111_1 ((E_rr.keep K103).keep K111) f111_2 g_rr (r_rv : rv = (0 : Int32) ∨ rv = (1 : Int32)) (hO : OvrA Z kr .long "[J") ((Ne.symm (Nat.ne_of_lt (Nat.lt_of_lt_of_le (E_rr.keep K103).lt s111_b))) : b_111 ≠ rr) (hc188_113 : ¬ (h0_ = (0 : Int32)))) hZ (hw _ (List.mem_of_getElem? (i := 26) rfl)) (hw _ (List.mem_of_getElem? (i := 2) rfl)) (by decide) (by decide)) q115a q115c (g := (mkF m 197 #[.val (.long q1), .second, .val (.long q2), .second, .val (.long q3), .second, .val (.long q4), .second, .val (.int p5), .val (.int p6), .val (.int rv), .val (.int ov), .val (.int h0_), .val (.int h1_), .val (.int h2_), .val (.int (0 : Int32)), .val (.int ol), .val (.int ho), .val (.int rev), .val (.ref bw), .unset] [(.long q1), (.int (0 : Int32)), (.int rv), (.ref bw)])) rfl (by rw [hml]; rfl) (Steps.refl _) (argsL := [(.int rv), (.int (0 : Int32)), (.long q1)]) (rest := []) (lenOf pd5 rfl) rfl (by show 2 * 0 + _ ≤ _; exact Nat.le_of_eq rfl) (hb hby at_197) (fun _ _ => ⟨rfl, rfl, (by decide : 5 + 1 ≤ _), (by decide : 28 + 8 ≤ _)⟩)
                dsimp only [Pt.U, Pt.locs, Pt.cells, Pt.slots] at X115 l115 y115 z115 st115 hQ115
                subst l115 y115 z115
                obtain ⟨b_115, kb_115, rfl, N115q, K115, s115_b, f115_0, f115_1, f115_2, f115_3⟩ := hQ115
                have N115 := Fr.app N111 N115q
                have sz_b_115 : h0.size ≤ b_115 := Nat.le_trans KK111.1 s115_b
                have g_b_115 : n0 ≤ b_115 := Nat.le_trans Z0 sz_b_115
                have KK115 : Keep h0 T115.heap [] := KK111.trans K115 (allS (Or.inr sz_rr) all0)
                have pre116 : ∀ t, Steps p.tables e below (T115.setTop (mkF m 261 #[.val (.long q1), .second, .val (.long q2), .second, .val (.long q3), .second, .val (.long q4), .second, .val (.int p5), .val (.int p6), .val (.int rv), .val (.int ov), .val (.int h0_), .val (.int h1_), .val (.int h2_), .val (.int (0 : Int32)), .val (.int ol), .val (.int ho), .val (.int rev), .val (.ref bw), .unset] [])) t → Steps p.tables e below (s₁.setTop (entryFrame m #[(.long q1), (.long q2), (.long q3), (.long q4), (.int p5), (.int p6)] maxLocals)) t := by
                  intro t kt
                  refine pre112 _ ?_
                  refine XS.ifNo X111.here hx rfl (hb hby at_188) rfl ((if0 _ _).trans (feq hc188_113).1) ?_
                  refine XS.aload X111.here hx rfl (hb hby at_191) rfl rfl ?_
                  refine XS.iload X111.here hx rfl (hb hby at_193) rfl ?_
                  refine XS.iconst X111.here hx rfl (hb hby at_195) ?_
                  refine XS.lloadN X111.here hx rfl (hb hby at_196) rfl ?_
                  show Steps p.tables e below (T111.setTop (mkF m 197 #[.val (.long q1), .second, .val (.long q2), .second, .val (.long q3), .second, .val (.long q4), .second, .val (.int p5), .val (.int p6), .val (.int rv), .val (.int ov), .val (.int h0_), .val (.int h1_), .val (.int h2_), .val (.int (0 : Int32)), .val (.int ol), .val (.int ho), .val (.int rev), .val (.ref bw), .unset] [(.long q1), (.int (0 : Int32)), (.int rv), (.ref bw)])) _
                  refine st115.trans ?_
                  refine XS.goto X115.here hx rfl (pc0 := 200) (pc' := 261) rfl (hb hby at_200) (by decide) (by decide) ?_
                  exact kt
                exact cut261 T115 _ (own_smono X115 (by decide) (by decide)) _ rfl N115 KK115 rv ov h0_ h1_ h2_ (0 : Int32) ol ho rev bw rr kr b_115 kb_115 sg pre116 (((E_bw.keep K103).keep K111).keep K115) (((F_bw.keep K103 (ninS hne_bw nin0)).keep K111 (ninS hne_bw nin0)).keep K115 (ninS hne_bw nin0)) f115_1 f115_2 (r_rv : rv = (0 : Int32) ∨ rv = (1 : Int32))
        · obtain ⟨cq117, kq117, q117a, q117b, q117c⟩ := isOf hZ eq137 E_bw
          obtain ⟨_, _, ⟨T117, L117, k117, n117⟩, -, X117, ⟨Lc117, hQ117, l117, y117, z117⟩, st117⟩ := Xq137.virtualBack hx (y := (⟨"com/example/chartlight/chartlight/label/WeightRows", "add", "(IIJ)V"⟩ : MethodName)) (z := (⟨"com/example/chartlight/chartlight/label/WeightRows", "add", "(IIJ)V"⟩ : MethodName)) hown (mvT hZ (hw _ (List.mem_of_getElem? (i := 22) rfl))) (mvT hZ (hw _ (List.mem_of_getElem? (i := 23) rfl))) (notFace_of_selects (args := #[]) (mvT hZ (hw _ (List.mem_of_getElem? (i := 25) rfl)))) (mvT hZ (hw _ (List.mem_of_getElem? (i := 25) rfl))) (mvT hZ (hw _ (List.mem_of_getElem? (i := 24) rfl))) (by decide) (backOf (W := 0) (rm_addD3 l Z a0 hw [] bw rv q4 rr kr w_NONE sg kN h3_ q1 q2 q3 q4 Hq137 n0 (Nat.le_trans Z0 Kq137.1) F_bw V_rr E_rr V_N0 g_rr (r_rv : rv = (0 : Int32) ∨ rv = (1 : Int32)) (hO : OvrA Z kr .long "[J") ((Nat.ne_of_lt (Nat.lt_of_lt_of_le E_w_NONE.lt sz_rr)) : w_NONE ≠ rr) (hc144_87 : ¬ (h3_ = (0 : Int32)))) hZ (hw _ (List.mem_of_getElem? (i := 26) rfl)) (hw _ (List.mem_of_getElem? (i := 2) rfl)) (by decide) (by decide)) q117a q117c (g := (mkF m 154 #[.val (.long q1), .second, .val (.long q2), .second, .val (.long q3), .second, .val (.long q4), .second, .val (.int p5), .val (.int p6), .val (.int rv), .val (.int ov), .val (.int h0_), .val (.int h1_), .val (.int h2_), .val (.int h3_), .val (.int ol), .val (.int ho), .val (.int rev), .val (.ref bw), .unset] [(.long q4), (.int (3 : Int32)), (.int rv), (.ref bw)])) rfl (by rw [hml]; rfl) (Steps.refl _) (argsL := [(.int rv), (.int (3 : Int32)), (.long q4)]) (rest := []) (lenOf pd5 rfl) rfl (by show 2 * 0 + _ ≤ _; exact Nat.le_of_eq rfl) (hb hby at_154) (fun _ _ => ⟨rfl, eq137, (by decide : 3 + 1 ≤ _), (by decide : 12 + 8 ≤ _)⟩)
          dsimp only [Pt.U, Pt.locs, Pt.cells, Pt.slots] at X117 l117 y117 z117 st117 hQ117
          subst l117 y117 z117
          obtain ⟨b_117, kb_117, rfl, N117q, K117, s117_b, f117_0, f117_1, f117_2, f117_3⟩ := hQ117
          have N117 := Fr.app Nq137 N117q
          have sz_b_117 : h0.size ≤ b_117 := Nat.le_trans Kq137.1 s117_b
          have g_b_117 : n0 ≤ b_117 := Nat.le_trans Z0 sz_b_117
          have KK117 : Keep h0 T117.heap [] := Kq137.trans K117 (allS (Or.inr sz_rr) all0)
          have pre118 : ∀ t, Steps p.tables e below (T117.setTop (mkF m 159 #[.val (.long q1), .second, .val (.long q2), .second, .val (.long q3), .second, .val (.long q4), .second, .val (.int p5), .val (.int p6), .val (.int rv), .val (.int ov), .val (.int h0_), .val (.int h1_), .val (.int h2_), .val (.int h3_), .val (.int ol), .val (.int ho), .val (.int rev), .val (.ref bw), .unset] [(.int h2_)])) t → Steps p.tables e below (s₁.setTop (entryFrame m #[(.long q1), (.long q2), (.long q3), (.long q4), (.int p5), (.int p6)] maxLocals)) t := by
            intro t kt
            refine pre86 _ ?_
            refine XS.ifNo Xq137.here hx rfl (hb hby at_144) rfl ((if0 _ _).trans (feq hc144_87).1) ?_
            refine XS.aload Xq137.here hx rfl (hb hby at_147) rfl rfl ?_
            refine XS.iload Xq137.here hx rfl (hb hby at_149) rfl ?_
            refine XS.iconst Xq137.here hx rfl (hb hby at_151) ?_
            refine XS.lload Xq137.here hx rfl (hb hby at_152) rfl ?_
            show Steps p.tables e below (Tq137.setTop (mkF m 154 #[.val (.long q1), .second, .val (.long q2), .second, .val (.long q3), .second, .val (.long q4), .second, .val (.int p5), .val (.int p6), .val (.int rv), .val (.int ov), .val (.int h0_), .val (.int h1_), .val (.int h2_), .val (.int h3_), .val (.int ol), .val (.int ho), .val (.int rev), .val (.ref bw), .unset] [(.long q4), (.int (3 : Int32)), (.int rv), (.ref bw)])) _
            refine st117.trans ?_
            refine XS.iload X117.here hx rfl (hb hby at_157) rfl ?_
            exact kt
          by_cases hc159_119 : h2_ = (0 : Int32)
          · rw [hc159_119] at pre118
            have pre120 : ∀ t, Steps p.tables e below (T117.setTop (mkF m 174 #[.val (.long q1), .second, .val (.long q2), .second, .val (.long q3), .second, .val (.long q4), .second, .val (.int p5), .val (.int p6), .val (.int rv), .val (.int ov), .val (.int h0_), .val (.int h1_), .val (.int (0 : Int32)), .val (.int h3_), .val (.int ol), .val (.int ho), .val (.int rev), .val (.ref bw), .unset] [(.int h1_)])) t → Steps p.tables e below (s₁.setTop (entryFrame m #[(.long q1), (.long q2), (.long q3), (.long q4), (.int p5), (.int p6)] maxLocals)) t := by
              intro t kt
              refine pre118 _ ?_
              refine XS.ifYes X117.here hx rfl (pc0 := 159) (pc' := 172) rfl (hb hby at_159) rfl ((if0 _ _).trans (teq (rfl : (0 : Int32) = (0 : Int32))).1) (by decide) (by decide) ?_
              refine XS.iload X117.here hx rfl (hb hby at_172) rfl ?_
              exact kt
            by_cases hc174_121 : h1_ = (0 : Int32)
            · rw [hc174_121] at pre120
              have pre122 : ∀ t, Steps p.tables e below (T117.setTop (mkF m 188 #[.val (.long q1), .second, .val (.long q2), .second, .val (.long q3), .second, .val (.long q4), .second, .val (.int p5), .val (.int p6), .val (.int rv), .val (.int ov), .val (.int h0_), .val (.int (0 : Int32)), .val (.int (0 : Int32)), .val (.int h3_), .val (.int ol), .val (.int ho), .val (.int rev), .val (.ref bw), .unset] [(.int h0_)])) t → Steps p.tables e below (s₁.setTop (entryFrame m #[(.long q1), (.long q2), (.long q3), (.long q4), (.int p5), (.int p6)] maxLocals)) t := by
                intro t kt
                refine pre120 _ ?_
                refine XS.ifYes X117.here hx rfl (pc0 := 174) (pc' := 186) rfl (hb hby at_174) rfl ((if0 _ _).trans (teq (rfl : (0 : Int32) = (0 : Int32))).1) (by decide) (by decide) ?_
                refine XS.iload X117.here hx rfl (hb hby at_186) rfl ?_
                exact kt
              by_cases hc188_123 : h0_ = (0 : Int32)
              · rw [hc188_123] at pre122
                have pre124 : ∀ t, Steps p.tables e below (T117.setTop (mkF m 261 #[.val (.long q1), .second, .val (.long q2), .second, .val (.long q3), .second, .val (.long q4), .second, .val (.int p5), .val (.int p6), .val (.int rv), .val (.int ov), .val (.int (0 : Int32)), .val (.int (0 : Int32)), .val (.int (0 : Int32)), .val (.int h3_), .val (.int ol), .val (.int ho), .val (.int rev), .val (.ref bw), .unset] [])) t → Steps p.tables e below (s₁.setTop (entryFrame m #[(.long q1), (.long q2), (.long q3), (.long q4), (.int p5), (.int p6)] maxLocals)) t := by
                  intro t kt
                  refine pre122 _ ?_
                  refine XS.ifYes X117.here hx rfl (pc0 := 188) (pc' := 261) rfl (hb hby at_188) rfl ((if0 _ _).trans (teq (rfl : (0 : Int32) = (0 : Int32))).1) (by decide) (by decide) ?_
                  exact kt
                exact cut261 T117 _ (own_smono X117 (by decide) (by decide)) _ rfl N117 KK117 rv ov (0 : Int32) (0 : Int32) (0 : Int32) h3_ ol ho rev bw rr kr b_117 kb_117 sg pre124 (E_bw.keep K117) (F_bw.keep K117 (ninS hne_bw nin0)) f117_1 f117_2 (r_rv : rv = (0 : Int32) ∨ rv = (1 : Int32))
              · obtain ⟨cq125, kq125, q125a, q125b, q125c⟩ := isOf hZ rfl (E_bw.keep K117)
                obtain ⟨_, _, ⟨T125, L125, k125, n125⟩, -, X125, ⟨Lc125, hQ125, l125, y125, z125⟩, st125⟩ := X117.virtualBack hx (y := (⟨"com/example/chartlight/chartlight/label/WeightRows", "add", "(IIJ)V"⟩ : MethodName)) (z := (⟨"com/example/chartlight/chartlight/label/WeightRows", "add", "(IIJ)V"⟩ : MethodName)) hown (mvT hZ (hw _ (List.mem_of_getElem? (i := 22) rfl))) (mvT hZ (hw _ (List.mem_of_getElem? (i := 23) rfl))) (notFace_of_selects (args := #[]) (mvT hZ (hw _ (List.mem_of_getElem? (i := 25) rfl)))) (mvT hZ (hw _ (List.mem_of_getElem? (i := 25) rfl))) (mvT hZ (hw _ (List.mem_of_getElem? (i := 24) rfl))) (by decide) (backOf (W := 0) (rm_addD0 l Z a0 hw [] bw rv q1 rr kr b_117 sg kb_117 (0 : Int32) (0 : Int32) h3_ h0_ q1 q2 q3 q4 T117.heap n0 (Nat.le_trans Z0 KK117.1) (F_bw.keep K117 (ninS hne_bw nin0)) f117_1 (E_rr.keep K117) f117_2 g_rr (r_rv : rv = (0 : Int32) ∨ rv = (1 : Int32)) (hO : OvrA Z kr .long "[J") ((Ne.symm (Nat.ne_of_lt (Nat.lt_of_lt_of_le E_rr.lt s117_b))) : b_117 ≠ rr) (hc188_123 : ¬ (h0_ = (0 : Int32)))) hZ (hw _ (List.mem_of_getElem? (i := 26) rfl)) (hw _ (List.mem_of_getElem? (i := 2) rfl)) (by decide) (by decide)) q125a q125c (g := (mkF m 197 #[.val (.long q1), .second, .val (.long q2), .second, .val (.long q3), .second, .val (.long q4), .second, .val (.int p5), .val (.int p6), .val (.int rv), .val (.int ov), .val (.int h0_), .val (.int (0 : Int32)), .val (.int (0 : Int32)), .val (.int h3_), .val (.int ol), .val (.int ho), .val (.int rev), .val (.ref bw), .unset] [(.long q1), (.int (0 : Int32)), (.int rv), (.ref bw)])) rfl (by rw [hml]; rfl) (Steps.refl _) (argsL := [(.int rv), (.int (0 : Int32)), (.long q1)]) (rest := []) (lenOf pd5 rfl) rfl (by show 2 * 0 + _ ≤ _; exact Nat.le_of_eq rfl) (hb hby at_197) (fun _ _ => ⟨rfl, rfl, (by decide : 4 + 1 ≤ _), (by decide : 20 + 8 ≤ _)⟩)
                dsimp only [Pt.U, Pt.locs, Pt.cells, Pt.slots] at X125 l125 y125 z125 st125 hQ125
                subst l125 y125 z125
                obtain ⟨b_125, kb_125, rfl, N125q, K125, s125_b, f125_0, f125_1, f125_2, f125_3⟩ := hQ125
                have N125 := Fr.app N117 N125q
                have sz_b_125 : h0.size ≤ b_125 := Nat.le_trans KK117.1 s125_b
                have g_b_125 : n0 ≤ b_125 := Nat.le_trans Z0 sz_b_125
                have KK125 : Keep h0 T125.heap [] := KK117.trans K125 (allS (Or.inr sz_rr) all0)
                have pre126 : ∀ t, Steps p.tables e below (T125.setTop (mkF m 261 #[.val (.long q1), .second, .val (.long q2), .second, .val (.long q3), .second, .val (.long q4), .second, .val (.int p5), .val (.int p6), .val (.int rv), .val (.int ov), .val (.int h0_), .val (.int (0 : Int32)), .val (.int (0 : Int32)), .val (.int h3_), .val (.int ol), .val (.int ho), .val (.int rev), .val (.ref bw), .unset] [])) t → Steps p.tables e below (s₁.setTop (entryFrame m #[(.long q1), (.long q2), (.long q3), (.long q4), (.int p5), (.int p6)] maxLocals)) t := by
                  intro t kt
                  refine pre122 _ ?_
                  refine XS.ifNo X117.here hx rfl (hb hby at_188) rfl ((if0 _ _).trans (feq hc188_123).1) ?_
                  refine XS.aload X117.here hx rfl (hb hby at_191) rfl rfl ?_
                  refine XS.iload X117.here hx rfl (hb hby at_193) rfl ?_
                  refine XS.iconst X117.here hx rfl (hb hby at_195) ?_
                  refine XS.lloadN X117.here hx rfl (hb hby at_196) rfl ?_
                  show Steps p.tables e below (T117.setTop (mkF m 197 #[.val (.long q1), .second, .val (.long q2), .second, .val (.long q3), .second, .val (.long q4), .second, .val (.int p5), .val (.int p6), .val (.int rv), .val (.int ov), .val (.int h0_), .val (.int (0 : Int32)), .val (.int (0 : Int32)), .val (.int h3_), .val (.int ol), .val (.int ho), .val (.int rev), .val (.ref bw), .unset] [(.long q1), (.int (0 : Int32)), (.int rv), (.ref bw)])) _
                  refine st125.trans ?_
                  refine XS.goto X125.here hx rfl (pc0 := 200) (pc' := 261) rfl (hb hby at_200) (by decide) (by decide) ?_
                  exact kt
                exact cut261 T125 _ (own_smono X125 (by decide) (by decide)) _ rfl N125 KK125 rv ov h0_ (0 : Int32) (0 : Int32) h3_ ol ho rev bw rr kr b_125 kb_125 sg pre126 ((E_bw.keep K117).keep K125) ((F_bw.keep K117 (ninS hne_bw nin0)).keep K125 (ninS hne_bw nin0)) f125_1 f125_2 (r_rv : rv = (0 : Int32) ∨ rv = (1 : Int32))
            · obtain ⟨cq127, kq127, q127a, q127b, q127c⟩ := isOf hZ rfl (E_bw.keep K117)
              obtain ⟨_, _, ⟨T127, L127, k127, n127⟩, -, X127, ⟨Lc127, hQ127, l127, y127, z127⟩, st127⟩ := X117.virtualBack hx (y := (⟨"com/example/chartlight/chartlight/label/WeightRows", "add", "(IIJ)V"⟩ : MethodName)) (z := (⟨"com/example/chartlight/chartlight/label/WeightRows", "add", "(IIJ)V"⟩ : MethodName)) hown (mvT hZ (hw _ (List.mem_of_getElem? (i := 22) rfl))) (mvT hZ (hw _ (List.mem_of_getElem? (i := 23) rfl))) (notFace_of_selects (args := #[]) (mvT hZ (hw _ (List.mem_of_getElem? (i := 25) rfl)))) (mvT hZ (hw _ (List.mem_of_getElem? (i := 25) rfl))) (mvT hZ (hw _ (List.mem_of_getElem? (i := 24) rfl))) (by decide) (backOf (W := 0) (rm_addD1 l Z a0 hw [] bw rv q2 rr kr b_117 sg kb_117 (0 : Int32) h3_ h1_ q1 q2 q3 q4 T117.heap n0 (Nat.le_trans Z0 KK117.1) (F_bw.keep K117 (ninS hne_bw nin0)) f117_1 (E_rr.keep K117) f117_2 g_rr (r_rv : rv = (0 : Int32) ∨ rv = (1 : Int32)) (hO : OvrA Z kr .long "[J") ((Ne.symm (Nat.ne_of_lt (Nat.lt_of_lt_of_le E_rr.lt s117_b))) : b_117 ≠ rr) (hc174_121 : ¬ (h1_ = (0 : Int32)))) hZ (hw _ (List.mem_of_getElem? (i := 26) rfl)) (hw _ (List.mem_of_getElem? (i := 2) rfl)) (by decide) (by decide)) q127a q127c (g := (mkF m 183 #[.val (.long q1), .second, .val (.long q2), .second, .val (.long q3), .second, .val (.long q4), .second, .val (.int p5), .val (.int p6), .val (.int rv), .val (.int ov), .val (.int h0_), .val (.int h1_), .val (.int (0 : Int32)), .val (.int h3_), .val (.int ol), .val (.int ho), .val (.int rev), .val (.ref bw), .unset] [(.long q2), (.int (1 : Int32)), (.int rv), (.ref bw)])) rfl (by rw [hml]; rfl) (Steps.refl _) (argsL := [(.int rv), (.int (1 : Int32)), (.long q2)]) (rest := []) (lenOf pd5 rfl) rfl (by show 2 * 0 + _ ≤ _; exact Nat.le_of_eq rfl) (hb hby at_183) (fun _ _ => ⟨rfl, rfl, (by decide : 4 + 1 ≤ _), (by decide : 20 + 8 ≤ _)⟩)
              dsimp only [Pt.U, Pt.locs, Pt.cells, Pt.slots] at X127 l127 y127 z127 st127 hQ127
              subst l127 y127 z127
              obtain ⟨b_127, kb_127, rfl, N127q, K127, s127_b, f127_0, f127_1, f127_2, f127_3⟩ := hQ127
              have N127 := Fr.app N117 N127q
              have sz_b_127 : h0.size ≤ b_127 := Nat.le_trans KK117.1 s127_b
              have g_b_127 : n0 ≤ b_127 := Nat.le_trans Z0 sz_b_127
              have KK127 : Keep h0 T127.heap [] := KK117.trans K127 (allS (Or.inr sz_rr) all0)
              have pre128 : ∀ t, Steps p.tables e below (T127.setTop (mkF m 188 #[.val (.long q1), .second, .val (.long q2), .second, .val (.long q3), .second, .val (.long q4), .second, .val (.int p5), .val (.int p6), .val (.int rv), .val (.int ov), .val (.int h0_), .val (.int h1_), .val (.int (0 : Int32)), .val (.int h3_), .val (.int ol), .val (.int ho), .val (.int rev), .val (.ref bw), .unset] [(.int h0_)])) t → Steps p.tables e below (s₁.setTop (entryFrame m #[(.long q1), (.long q2), (.long q3), (.long q4), (.int p5), (.int p6)] maxLocals)) t := by
                intro t kt
                refine pre120 _ ?_
                refine XS.ifNo X117.here hx rfl (hb hby at_174) rfl ((if0 _ _).trans (feq hc174_121).1) ?_
                refine XS.aload X117.here hx rfl (hb hby at_177) rfl rfl ?_
                refine XS.iload X117.here hx rfl (hb hby at_179) rfl ?_
                refine XS.iconst X117.here hx rfl (hb hby at_181) ?_
                refine XS.lloadN X117.here hx rfl (hb hby at_182) rfl ?_
                show Steps p.tables e below (T117.setTop (mkF m 183 #[.val (.long q1), .second, .val (.long q2), .second, .val (.long q3), .second, .val (.long q4), .second, .val (.int p5), .val (.int p6), .val (.int rv), .val (.int ov), .val (.int h0_), .val (.int h1_), .val (.int (0 : Int32)), .val (.int h3_), .val (.int ol), .val (.int ho), .val (.int rev), .val (.ref bw), .unset] [(.long q2), (.int (1 : Int32)), (.int rv), (.ref bw)])) _
                refine st127.trans ?_
                refine XS.iload X127.here hx rfl (hb hby at_186) rfl ?_
                exact kt
              by_cases hc188_129 : h0_ = (0 : Int32)
              · rw [hc188_129] at pre128
                have pre130 : ∀ t, Steps p.tables e below (T127.setTop (mkF m 261 #[.val (.long q1), .second, .val (.long q2), .second, .val (.long q3), .second, .val (.long q4), .second, .val (.int p5), .val (.int p6), .val (.int rv), .val (.int ov), .val (.int (0 : Int32)), .val (.int h1_), .val (.int (0 : Int32)), .val (.int h3_), .val (.int ol), .val (.int ho), .val (.int rev), .val (.ref bw), .unset] [])) t → Steps p.tables e below (s₁.setTop (entryFrame m #[(.long q1), (.long q2), (.long q3), (.long q4), (.int p5), (.int p6)] maxLocals)) t := by
                  intro t kt
                  refine pre128 _ ?_
                  refine XS.ifYes X127.here hx rfl (pc0 := 188) (pc' := 261) rfl (hb hby at_188) rfl ((if0 _ _).trans (teq (rfl : (0 : Int32) = (0 : Int32))).1) (by decide) (by decide) ?_
                  exact kt
                exact cut261 T127 _ (own_smono X127 (by decide) (by decide)) _ rfl N127 KK127 rv ov (0 : Int32) h1_ (0 : Int32) h3_ ol ho rev bw rr kr b_127 kb_127 sg pre130 ((E_bw.keep K117).keep K127) ((F_bw.keep K117 (ninS hne_bw nin0)).keep K127 (ninS hne_bw nin0)) f127_1 f127_2 (r_rv : rv = (0 : Int32) ∨ rv = (1 : Int32))
              · obtain ⟨cq131, kq131, q131a, q131b, q131c⟩ := isOf hZ rfl ((E_bw.keep K117).keep K127)
                obtain ⟨_, _, ⟨T131, L131, k131, n131⟩, -, X131, ⟨Lc131, hQ131, l131, y131, z131⟩, st131⟩ := X127.virtualBack hx (y := (⟨"com/example/chartlight/chartlight/label/WeightRows", "add", "(IIJ)V"⟩ : MethodName)) (z := (⟨"com/example/chartlight/chartlight/label/WeightRows", "add", "(IIJ)V"⟩ : MethodName)) hown (mvT hZ (hw _ (List.mem_of_getElem? (i := 22) rfl))) (mvT hZ (hw _ (List.mem_of_getElem? (i := 23) rfl))) (notFace_of_selects (args := #[]) (mvT hZ (hw _ (List.mem_of_getElem? (i := 25) rfl)))) (mvT hZ (hw _ (List.mem_of_getElem? (i := 25) rfl))) (mvT hZ (hw _ (List.mem_of_getElem? (i := 24) rfl))) (by decide) (backOf (W := 0) (rm_addD0 l Z a0 hw [] bw rv q1 rr kr b_127 sg kb_127 h1_ (0 : Int32) h3_ h0_ q1 q2 q3 q4 T127.heap n0 (Nat.le_trans Z0 KK127.1) ((F_bw.keep K117 (ninS hne_bw nin0)).keep K127 (ninS hne_bw nin0)) f127_1 ((E_rr.keep K117).keep K127) f127_2 g_rr (r_rv : rv = (0 : Int32) ∨ rv = (1 : Int32)) (hO : OvrA Z kr .long "[J") ((Ne.symm (Nat.ne_of_lt (Nat.lt_of_lt_of_le (E_rr.keep K117).lt s127_b))) : b_127 ≠ rr) (hc188_129 : ¬ (h0_ = (0 : Int32)))) hZ (hw _ (List.mem_of_getElem? (i := 26) rfl)) (hw _ (List.mem_of_getElem? (i := 2) rfl)) (by decide) (by decide)) q131a q131c (g := (mkF m 197 #[.val (.long q1), .second, .val (.long q2), .second, .val (.long q3), .second, .val (.long q4), .second, .val (.int p5), .val (.int p6), .val (.int rv), .val (.int ov), .val (.int h0_), .val (.int h1_), .val (.int (0 : Int32)), .val (.int h3_), .val (.int ol), .val (.int ho), .val (.int rev), .val (.ref bw), .unset] [(.long q1), (.int (0 : Int32)), (.int rv), (.ref bw)])) rfl (by rw [hml]; rfl) (Steps.refl _) (argsL := [(.int rv), (.int (0 : Int32)), (.long q1)]) (rest := []) (lenOf pd5 rfl) rfl (by show 2 * 0 + _ ≤ _; exact Nat.le_of_eq rfl) (hb hby at_197) (fun _ _ => ⟨rfl, rfl, (by decide : 5 + 1 ≤ _), (by decide : 28 + 8 ≤ _)⟩)
                dsimp only [Pt.U, Pt.locs, Pt.cells, Pt.slots] at X131 l131 y131 z131 st131 hQ131
                subst l131 y131 z131
                obtain ⟨b_131, kb_131, rfl, N131q, K131, s131_b, f131_0, f131_1, f131_2, f131_3⟩ := hQ131
                have N131 := Fr.app N127 N131q
                have sz_b_131 : h0.size ≤ b_131 := Nat.le_trans KK127.1 s131_b
                have g_b_131 : n0 ≤ b_131 := Nat.le_trans Z0 sz_b_131
                have KK131 : Keep h0 T131.heap [] := KK127.trans K131 (allS (Or.inr sz_rr) all0)
                have pre132 : ∀ t, Steps p.tables e below (T131.setTop (mkF m 261 #[.val (.long q1), .second, .val (.long q2), .second, .val (.long q3), .second, .val (.long q4), .second, .val (.int p5), .val (.int p6), .val (.int rv), .val (.int ov), .val (.int h0_), .val (.int h1_), .val (.int (0 : Int32)), .val (.int h3_), .val (.int ol), .val (.int ho), .val (.int rev), .val (.ref bw), .unset] [])) t → Steps p.tables e below (s₁.setTop (entryFrame m #[(.long q1), (.long q2), (.long q3), (.long q4), (.int p5), (.int p6)] maxLocals)) t := by
                  intro t kt
                  refine pre128 _ ?_
                  refine XS.ifNo X127.here hx rfl (hb hby at_188) rfl ((if0 _ _).trans (feq hc188_129).1) ?_
                  refine XS.aload X127.here hx rfl (hb hby at_191) rfl rfl ?_
                  refine XS.iload X127.here hx rfl (hb hby at_193) rfl ?_
                  refine XS.iconst X127.here hx rfl (hb hby at_195) ?_
                  refine XS.lloadN X127.here hx rfl (hb hby at_196) rfl ?_
                  show Steps p.tables e below (T127.setTop (mkF m 197 #[.val (.long q1), .second, .val (.long q2), .second, .val (.long q3), .second, .val (.long q4), .second, .val (.int p5), .val (.int p6), .val (.int rv), .val (.int ov), .val (.int h0_), .val (.int h1_), .val (.int (0 : Int32)), .val (.int h3_), .val (.int ol), .val (.int ho), .val (.int rev), .val (.ref bw), .unset] [(.long q1), (.int (0 : Int32)), (.int rv), (.ref bw)])) _
                  refine st131.trans ?_
                  refine XS.goto X131.here hx rfl (pc0 := 200) (pc' := 261) rfl (hb hby at_200) (by decide) (by decide) ?_
                  exact kt
                exact cut261 T131 _ (own_smono X131 (by decide) (by decide)) _ rfl N131 KK131 rv ov h0_ h1_ (0 : Int32) h3_ ol ho rev bw rr kr b_131 kb_131 sg pre132 (((E_bw.keep K117).keep K127).keep K131) (((F_bw.keep K117 (ninS hne_bw nin0)).keep K127 (ninS hne_bw nin0)).keep K131 (ninS hne_bw nin0)) f131_1 f131_2 (r_rv : rv = (0 : Int32) ∨ rv = (1 : Int32))
          · obtain ⟨cq133, kq133, q133a, q133b, q133c⟩ := isOf hZ rfl (E_bw.keep K117)
            obtain ⟨_, _, ⟨T133, L133, k133, n133⟩, -, X133, ⟨Lc133, hQ133, l133, y133, z133⟩, st133⟩ := X117.virtualBack hx (y := (⟨"com/example/chartlight/chartlight/label/WeightRows", "add", "(IIJ)V"⟩ : MethodName)) (z := (⟨"com/example/chartlight/chartlight/label/WeightRows", "add", "(IIJ)V"⟩ : MethodName)) hown (mvT hZ (hw _ (List.mem_of_getElem? (i := 22) rfl))) (mvT hZ (hw _ (List.mem_of_getElem? (i := 23) rfl))) (notFace_of_selects (args := #[]) (mvT hZ (hw _ (List.mem_of_getElem? (i := 25) rfl)))) (mvT hZ (hw _ (List.mem_of_getElem? (i := 25) rfl))) (mvT hZ (hw _ (List.mem_of_getElem? (i := 24) rfl))) (by decide) (backOf (W := 0) (rm_addD2 l Z a0 hw [] bw rv q3 rr kr b_117 sg kb_117 h3_ h2_ q1 q2 q3 q4 T117.heap n0 (Nat.le_trans Z0 KK117.1) (F_bw.keep K117 (ninS hne_bw nin0)) f117_1 (E_rr.keep K117) f117_2 g_rr (r_rv : rv = (0 : Int32) ∨ rv = (1 : Int32)) (hO : OvrA Z kr .long "[J") ((Ne.symm (Nat.ne_of_lt (Nat.lt_of_lt_of_le E_rr.lt s117_b))) : b_117 ≠ rr) (hc159_119 : ¬ (h2_ = (0 : Int32)))) hZ (hw _ (List.mem_of_getElem? (i := 26) rfl)) (hw _ (List.mem_of_getElem? (i := 2) rfl)) (by decide) (by decide)) q133a q133c (g := (mkF m 169 #[.val (.long q1), .second, .val (.long q2), .second, .val (.long q3), .second, .val (.long q4), .second, .val (.int p5), .val (.int p6), .val (.int rv), .val (.int ov), .val (.int h0_), .val (.int h1_), .val (.int h2_), .val (.int h3_), .val (.int ol), .val (.int ho), .val (.int rev), .val (.ref bw), .unset] [(.long q3), (.int (2 : Int32)), (.int rv), (.ref bw)])) rfl (by rw [hml]; rfl) (Steps.refl _) (argsL := [(.int rv), (.int (2 : Int32)), (.long q3)]) (rest := []) (lenOf pd5 rfl) rfl (by show 2 * 0 + _ ≤ _; exact Nat.le_of_eq rfl) (hb hby at_169) (fun _ _ => ⟨rfl, rfl, (by decide : 4 + 1 ≤ _), (by decide : 20 + 8 ≤ _)⟩)
            dsimp only [Pt.U, Pt.locs, Pt.cells, Pt.slots] at X133 l133 y133 z133 st133 hQ133
            subst l133 y133 z133
            obtain ⟨b_133, kb_133, rfl, N133q, K133, s133_b, f133_0, f133_1, f133_2, f133_3⟩ := hQ133
            have N133 := Fr.app N117 N133q
            have sz_b_133 : h0.size ≤ b_133 := Nat.le_trans KK117.1 s133_b
            have g_b_133 : n0 ≤ b_133 := Nat.le_trans Z0 sz_b_133
            have KK133 : Keep h0 T133.heap [] := KK117.trans K133 (allS (Or.inr sz_rr) all0)
            have pre134 : ∀ t, Steps p.tables e below (T133.setTop (mkF m 174 #[.val (.long q1), .second, .val (.long q2), .second, .val (.long q3), .second, .val (.long q4), .second, .val (.int p5), .val (.int p6), .val (.int rv), .val (.int ov), .val (.int h0_), .val (.int h1_), .val (.int h2_), .val (.int h3_), .val (.int ol), .val (.int ho), .val (.int rev), .val (.ref bw), .unset] [(.int h1_)])) t → Steps p.tables e below (s₁.setTop (entryFrame m #[(.long q1), (.long q2), (.long q3), (.long q4), (.int p5), (.int p6)] maxLocals)) t := by
              intro t kt
              refine pre118 _ ?_
              refine XS.ifNo X117.here hx rfl (hb hby at_159) rfl ((if0 _ _).trans (feq hc159_119).1) ?_
              refine XS.aload X117.here hx rfl (hb hby at_162) rfl rfl ?_
              refine XS.iload X117.here hx rfl (hb hby at_164) rfl ?_
              refine XS.iconst X117.here hx rfl (hb hby at_166) ?_
              refine XS.lload X117.here hx rfl (hb hby at_167) rfl ?_
              show Steps p.tables e below (T117.setTop (mkF m 169 #[.val (.long q1), .second, .val (.long q2), .second, .val (.long q3), .second, .val (.long q4), .second, .val (.int p5), .val (.int p6), .val (.int rv), .val (.int ov), .val (.int h0_), .val (.int h1_), .val (.int h2_), .val (.int h3_), .val (.int ol), .val (.int ho), .val (.int rev), .val (.ref bw), .unset] [(.long q3), (.int (2 : Int32)), (.int rv), (.ref bw)])) _
              refine st133.trans ?_
              refine XS.iload X133.here hx rfl (hb hby at_172) rfl ?_
              exact kt
            by_cases hc174_135 : h1_ = (0 : Int32)
            · rw [hc174_135] at pre134
              have pre136 : ∀ t, Steps p.tables e below (T133.setTop (mkF m 188 #[.val (.long q1), .second, .val (.long q2), .second, .val (.long q3), .second, .val (.long q4), .second, .val (.int p5), .val (.int p6), .val (.int rv), .val (.int ov), .val (.int h0_), .val (.int (0 : Int32)), .val (.int h2_), .val (.int h3_), .val (.int ol), .val (.int ho), .val (.int rev), .val (.ref bw), .unset] [(.int h0_)])) t → Steps p.tables e below (s₁.setTop (entryFrame m #[(.long q1), (.long q2), (.long q3), (.long q4), (.int p5), (.int p6)] maxLocals)) t := by
                intro t kt
                refine pre134 _ ?_
                refine XS.ifYes X133.here hx rfl (pc0 := 174) (pc' := 186) rfl (hb hby at_174) rfl ((if0 _ _).trans (teq (rfl : (0 : Int32) = (0 : Int32))).1) (by decide) (by decide) ?_
                refine XS.iload X133.here hx rfl (hb hby at_186) rfl ?_
                exact kt
              by_cases hc188_137 : h0_ = (0 : Int32)
              · rw [hc188_137] at pre136
                have pre138 : ∀ t, Steps p.tables e below (T133.setTop (mkF m 261 #[.val (.long q1), .second, .val (.long q2), .second, .val (.long q3), .second, .val (.long q4), .second, .val (.int p5), .val (.int p6), .val (.int rv), .val (.int ov), .val (.int (0 : Int32)), .val (.int (0 : Int32)), .val (.int h2_), .val (.int h3_), .val (.int ol), .val (.int ho), .val (.int rev), .val (.ref bw), .unset] [])) t → Steps p.tables e below (s₁.setTop (entryFrame m #[(.long q1), (.long q2), (.long q3), (.long q4), (.int p5), (.int p6)] maxLocals)) t := by
                  intro t kt
                  refine pre136 _ ?_
                  refine XS.ifYes X133.here hx rfl (pc0 := 188) (pc' := 261) rfl (hb hby at_188) rfl ((if0 _ _).trans (teq (rfl : (0 : Int32) = (0 : Int32))).1) (by decide) (by decide) ?_
                  exact kt
                exact cut261 T133 _ (own_smono X133 (by decide) (by decide)) _ rfl N133 KK133 rv ov (0 : Int32) (0 : Int32) h2_ h3_ ol ho rev bw rr kr b_133 kb_133 sg pre138 ((E_bw.keep K117).keep K133) ((F_bw.keep K117 (ninS hne_bw nin0)).keep K133 (ninS hne_bw nin0)) f133_1 f133_2 (r_rv : rv = (0 : Int32) ∨ rv = (1 : Int32))
              · obtain ⟨cq139, kq139, q139a, q139b, q139c⟩ := isOf hZ rfl ((E_bw.keep K117).keep K133)
                obtain ⟨_, _, ⟨T139, L139, k139, n139⟩, -, X139, ⟨Lc139, hQ139, l139, y139, z139⟩, st139⟩ := X133.virtualBack hx (y := (⟨"com/example/chartlight/chartlight/label/WeightRows", "add", "(IIJ)V"⟩ : MethodName)) (z := (⟨"com/example/chartlight/chartlight/label/WeightRows", "add", "(IIJ)V"⟩ : MethodName)) hown (mvT hZ (hw _ (List.mem_of_getElem? (i := 22) rfl))) (mvT hZ (hw _ (List.mem_of_getElem? (i := 23) rfl))) (notFace_of_selects (args := #[]) (mvT hZ (hw _ (List.mem_of_getElem? (i := 25) rfl)))) (mvT hZ (hw _ (List.mem_of_getElem? (i := 25) rfl))) (mvT hZ (hw _ (List.mem_of_getElem? (i := 24) rfl))) (by decide) (backOf (W := 0) (rm_addD0 l Z a0 hw [] bw rv q1 rr kr b_133 sg kb_133 (0 : Int32) h2_ h3_ h0_ q1 q2 q3 q4 T133.heap n0 (Nat.le_trans Z0 KK133.1) ((F_bw.keep K117 (ninS hne_bw nin0)).keep K133 (ninS hne_bw nin0)) f133_1 ((E_rr.keep K117).keep K133) f133_2 g_rr (r_rv : rv = (0 : Int32) ∨ rv = (1 : Int32)) (hO : OvrA Z kr .long "[J") ((Ne.symm (Nat.ne_of_lt (Nat.lt_of_lt_of_le (E_rr.keep K117).lt s133_b))) : b_133 ≠ rr) (hc188_137 : ¬ (h0_ = (0 : Int32)))) hZ (hw _ (List.mem_of_getElem? (i := 26) rfl)) (hw _ (List.mem_of_getElem? (i := 2) rfl)) (by decide) (by decide)) q139a q139c (g := (mkF m 197 #[.val (.long q1), .second, .val (.long q2), .second, .val (.long q3), .second, .val (.long q4), .second, .val (.int p5), .val (.int p6), .val (.int rv), .val (.int ov), .val (.int h0_), .val (.int (0 : Int32)), .val (.int h2_), .val (.int h3_), .val (.int ol), .val (.int ho), .val (.int rev), .val (.ref bw), .unset] [(.long q1), (.int (0 : Int32)), (.int rv), (.ref bw)])) rfl (by rw [hml]; rfl) (Steps.refl _) (argsL := [(.int rv), (.int (0 : Int32)), (.long q1)]) (rest := []) (lenOf pd5 rfl) rfl (by show 2 * 0 + _ ≤ _; exact Nat.le_of_eq rfl) (hb hby at_197) (fun _ _ => ⟨rfl, rfl, (by decide : 5 + 1 ≤ _), (by decide : 28 + 8 ≤ _)⟩)
                dsimp only [Pt.U, Pt.locs, Pt.cells, Pt.slots] at X139 l139 y139 z139 st139 hQ139
                subst l139 y139 z139
                obtain ⟨b_139, kb_139, rfl, N139q, K139, s139_b, f139_0, f139_1, f139_2, f139_3⟩ := hQ139
                have N139 := Fr.app N133 N139q
                have sz_b_139 : h0.size ≤ b_139 := Nat.le_trans KK133.1 s139_b
                have g_b_139 : n0 ≤ b_139 := Nat.le_trans Z0 sz_b_139
                have KK139 : Keep h0 T139.heap [] := KK133.trans K139 (allS (Or.inr sz_rr) all0)
                have pre140 : ∀ t, Steps p.tables e below (T139.setTop (mkF m 261 #[.val (.long q1), .second, .val (.long q2), .second, .val (.long q3), .second, .val (.long q4), .second, .val (.int p5), .val (.int p6), .val (.int rv), .val (.int ov), .val (.int h0_), .val (.int (0 : Int32)), .val (.int h2_), .val (.int h3_), .val (.int ol), .val (.int ho), .val (.int rev), .val (.ref bw), .unset] [])) t → Steps p.tables e below (s₁.setTop (entryFrame m #[(.long q1), (.long q2), (.long q3), (.long q4), (.int p5), (.int p6)] maxLocals)) t := by
                  intro t kt
                  refine pre136 _ ?_
                  refine XS.ifNo X133.here hx rfl (hb hby at_188) rfl ((if0 _ _).trans (feq hc188_137).1) ?_
                  refine XS.aload X133.here hx rfl (hb hby at_191) rfl rfl ?_
                  refine XS.iload X133.here hx rfl (hb hby at_193) rfl ?_
                  refine XS.iconst X133.here hx rfl (hb hby at_195) ?_
                  refine XS.lloadN X133.here hx rfl (hb hby at_196) rfl ?_
                  show Steps p.tables e below (T133.setTop (mkF m 197 #[.val (.long q1), .second, .val (.long q2), .second, .val (.long q3), .second, .val (.long q4), .second, .val (.int p5), .val (.int p6), .val (.int rv), .val (.int ov), .val (.int h0_), .val (.int (0 : Int32)), .val (.int h2_), .val (.int h3_), .val (.int ol), .val (.int ho), .val (.int rev), .val (.ref bw), .unset] [(.long q1), (.int (0 : Int32)), (.int rv), (.ref bw)])) _
                  refine st139.trans ?_
                  refine XS.goto X139.here hx rfl (pc0 := 200) (pc' := 261) rfl (hb hby at_200) (by decide) (by decide) ?_
                  exact kt
                exact cut261 T139 _ (own_smono X139 (by decide) (by decide)) _ rfl N139 KK139 rv ov h0_ (0 : Int32) h2_ h3_ ol ho rev bw rr kr b_139 kb_139 sg pre140 (((E_bw.keep K117).keep K133).keep K139) (((F_bw.keep K117 (ninS hne_bw nin0)).keep K133 (ninS hne_bw nin0)).keep K139 (ninS hne_bw nin0)) f139_1 f139_2 (r_rv : rv = (0 : Int32) ∨ rv = (1 : Int32))
            · obtain ⟨cq141, kq141, q141a, q141b, q141c⟩ := isOf hZ rfl ((E_bw.keep K117).keep K133)
              obtain ⟨_, _, ⟨T141, L141, k141, n141⟩, -, X141, ⟨Lc141, hQ141, l141, y141, z141⟩, st141⟩ := X133.virtualBack hx (y := (⟨"com/example/chartlight/chartlight/label/WeightRows", "add", "(IIJ)V"⟩ : MethodName)) (z := (⟨"com/example/chartlight/chartlight/label/WeightRows", "add", "(IIJ)V"⟩ : MethodName)) hown (mvT hZ (hw _ (List.mem_of_getElem? (i := 22) rfl))) (mvT hZ (hw _ (List.mem_of_getElem? (i := 23) rfl))) (notFace_of_selects (args := #[]) (mvT hZ (hw _ (List.mem_of_getElem? (i := 25) rfl)))) (mvT hZ (hw _ (List.mem_of_getElem? (i := 25) rfl))) (mvT hZ (hw _ (List.mem_of_getElem? (i := 24) rfl))) (by decide) (backOf (W := 0) (rm_addD1 l Z a0 hw [] bw rv q2 rr kr b_133 sg kb_133 h2_ h3_ h1_ q1 q2 q3 q4 T133.heap n0 (Nat.le_trans Z0 KK133.1) ((F_bw.keep K117 (ninS hne_bw nin0)).keep K133 (ninS hne_bw nin0)) f133_1 ((E_rr.keep K117).keep K133) f133_2 g_rr (r_rv : rv = (0 : Int32) ∨ rv = (1 : Int32)) (hO : OvrA Z kr .long "[J") ((Ne.symm (Nat.ne_of_lt (Nat.lt_of_lt_of_le (E_rr.keep K117).lt s133_b))) : b_133 ≠ rr) (hc174_135 : ¬ (h1_ = (0 : Int32)))) hZ (hw _ (List.mem_of_getElem? (i := 26) rfl)) (hw _ (List.mem_of_getElem? (i := 2) rfl)) (by decide) (by decide)) q141a q141c (g := (mkF m 183 #[.val (.long q1), .second, .val (.long q2), .second, .val (.long q3), .second, .val (.long q4), .second, .val (.int p5), .val (.int p6), .val (.int rv), .val (.int ov), .val (.int h0_), .val (.int h1_), .val (.int h2_), .val (.int h3_), .val (.int ol), .val (.int ho), .val (.int rev), .val (.ref bw), .unset] [(.long q2), (.int (1 : Int32)), (.int rv), (.ref bw)])) rfl (by rw [hml]; rfl) (Steps.refl _) (argsL := [(.int rv), (.int (1 : Int32)), (.long q2)]) (rest := []) (lenOf pd5 rfl) rfl (by show 2 * 0 + _ ≤ _; exact Nat.le_of_eq rfl) (hb hby at_183) (fun _ _ => ⟨rfl, rfl, (by decide : 5 + 1 ≤ _), (by decide : 28 + 8 ≤ _)⟩)
              dsimp only [Pt.U, Pt.locs, Pt.cells, Pt.slots] at X141 l141 y141 z141 st141 hQ141
              subst l141 y141 z141
              obtain ⟨b_141, kb_141, rfl, N141q, K141, s141_b, f141_0, f141_1, f141_2, f141_3⟩ := hQ141
              have N141 := Fr.app N133 N141q
              have sz_b_141 : h0.size ≤ b_141 := Nat.le_trans KK133.1 s141_b
              have g_b_141 : n0 ≤ b_141 := Nat.le_trans Z0 sz_b_141
              have KK141 : Keep h0 T141.heap [] := KK133.trans K141 (allS (Or.inr sz_rr) all0)
              have pre142 : ∀ t, Steps p.tables e below (T141.setTop (mkF m 188 #[.val (.long q1), .second, .val (.long q2), .second, .val (.long q3), .second, .val (.long q4), .second, .val (.int p5), .val (.int p6), .val (.int rv), .val (.int ov), .val (.int h0_), .val (.int h1_), .val (.int h2_), .val (.int h3_), .val (.int ol), .val (.int ho), .val (.int rev), .val (.ref bw), .unset] [(.int h0_)])) t → Steps p.tables e below (s₁.setTop (entryFrame m #[(.long q1), (.long q2), (.long q3), (.long q4), (.int p5), (.int p6)] maxLocals)) t := by
                intro t kt
                refine pre134 _ ?_
                refine XS.ifNo X133.here hx rfl (hb hby at_174) rfl ((if0 _ _).trans (feq hc174_135).1) ?_
                refine XS.aload X133.here hx rfl (hb hby at_177) rfl rfl ?_
                refine XS.iload X133.here hx rfl (hb hby at_179) rfl ?_
                refine XS.iconst X133.here hx rfl (hb hby at_181) ?_
                refine XS.lloadN X133.here hx rfl (hb hby at_182) rfl ?_
                show Steps p.tables e below (T133.setTop (mkF m 183 #[.val (.long q1), .second, .val (.long q2), .second, .val (.long q3), .second, .val (.long q4), .second, .val (.int p5), .val (.int p6), .val (.int rv), .val (.int ov), .val (.int h0_), .val (.int h1_), .val (.int h2_), .val (.int h3_), .val (.int ol), .val (.int ho), .val (.int rev), .val (.ref bw), .unset] [(.long q2), (.int (1 : Int32)), (.int rv), (.ref bw)])) _
                refine st141.trans ?_
                refine XS.iload X141.here hx rfl (hb hby at_186) rfl ?_
                exact kt
              by_cases hc188_143 : h0_ = (0 : Int32)
              · rw [hc188_143] at pre142
                have pre144 : ∀ t, Steps p.tables e below (T141.setTop (mkF m 261 #[.val (.long q1), .second, .val (.long q2), .second, .val (.long q3), .second, .val (.long q4), .second, .val (.int p5), .val (.int p6), .val (.int rv), .val (.int ov), .val (.int (0 : Int32)), .val (.int h1_), .val (.int h2_), .val (.int h3_), .val (.int ol), .val (.int ho), .val (.int rev), .val (.ref bw), .unset] [])) t → Steps p.tables e below (s₁.setTop (entryFrame m #[(.long q1), (.long q2), (.long q3), (.long q4), (.int p5), (.int p6)] maxLocals)) t := by
                  intro t kt
                  refine pre142 _ ?_
                  refine XS.ifYes X141.here hx rfl (pc0 := 188) (pc' := 261) rfl (hb hby at_188) rfl ((if0 _ _).trans (teq (rfl : (0 : Int32) = (0 : Int32))).1) (by decide) (by decide) ?_
                  exact kt
                exact cut261 T141 _ (own_smono X141 (by decide) (by decide)) _ rfl N141 KK141 rv ov (0 : Int32) h1_ h2_ h3_ ol ho rev bw rr kr b_141 kb_141 sg pre144 (((E_bw.keep K117).keep K133).keep K141) (((F_bw.keep K117 (ninS hne_bw nin0)).keep K133 (ninS hne_bw nin0)).keep K141 (ninS hne_bw nin0)) f141_1 f141_2 (r_rv : rv = (0 : Int32) ∨ rv = (1 : Int32))
              · obtain ⟨cq145, kq145, q145a, q145b, q145c⟩ := isOf hZ rfl (((E_bw.keep K117).keep K133).keep K141)
                obtain ⟨_, _, ⟨T145, L145, k145, n145⟩, -, X145, ⟨Lc145, hQ145, l145, y145, z145⟩, st145⟩ := X141.virtualBack hx (y := (⟨"com/example/chartlight/chartlight/label/WeightRows", "add", "(IIJ)V"⟩ : MethodName)) (z := (⟨"com/example/chartlight/chartlight/label/WeightRows", "add", "(IIJ)V"⟩ : MethodName)) hown (mvT hZ (hw _ (List.mem_of_getElem? (i := 22) rfl))) (mvT hZ (hw _ (List.mem_of_getElem? (i := 23) rfl))) (notFace_of_selects (args := #[]) (mvT hZ (hw _ (List.mem_of_getElem? (i := 25) rfl)))) (mvT hZ (hw _ (List.mem_of_getElem? (i := 25) rfl))) (mvT hZ (hw _ (List.mem_of_getElem? (i := 24) rfl))) (by decide) (backOf (W := 0) (rm_addD0 l Z a0 hw [] bw rv q1 rr kr b_141 sg kb_141 h1_ h2_ h3_ h0_ q1 q2 q3 q4 T141.heap n0 (Nat.le_trans Z0 KK141.1) (((F_bw.keep K117 (ninS hne_bw nin0)).keep K133 (ninS hne_bw nin0)).keep K141 (ninS hne_bw nin0)) f141_1 (((E_rr.keep K117).keep K133).keep K141) f141_2 g_rr (r_rv : rv = (0 : Int32) ∨ rv = (1 : Int32)) (hO : OvrA Z kr .long "[J") ((Ne.symm (Nat.ne_of_lt (Nat.lt_of_lt_of_le ((E_rr.keep K117).keep K133).lt s141_b))) : b_141 ≠ rr) (hc188_143 : ¬ (h0_ = (0 : Int32)))) hZ (hw _ (List.mem_of_getElem? (i := 26) rfl)) (hw _ (List.mem_of_getElem? (i := 2) rfl)) (by decide) (by decide)) q145a q145c (g := (mkF m 197 #[.val (.long q1), .second, .val (.long q2), .second, .val (.long q3), .second, .val (.long q4), .second, .val (.int p5), .val (.int p6), .val (.int rv), .val (.int ov), .val (.int h0_), .val (.int h1_), .val (.int h2_), .val (.int h3_), .val (.int ol), .val (.int ho), .val (.int rev), .val (.ref bw), .unset] [(.long q1), (.int (0 : Int32)), (.int rv), (.ref bw)])) rfl (by rw [hml]; rfl) (Steps.refl _) (argsL := [(.int rv), (.int (0 : Int32)), (.long q1)]) (rest := []) (lenOf pd5 rfl) rfl (by show 2 * 0 + _ ≤ _; exact Nat.le_of_eq rfl) (hb hby at_197) (fun _ _ => ⟨rfl, rfl, (by decide : 6 + 1 ≤ _), (by decide : 36 + 8 ≤ _)⟩)
                dsimp only [Pt.U, Pt.locs, Pt.cells, Pt.slots] at X145 l145 y145 z145 st145 hQ145
                subst l145 y145 z145
                obtain ⟨b_145, kb_145, rfl, N145q, K145, s145_b, f145_0, f145_1, f145_2, f145_3⟩ := hQ145
                have N145 := Fr.app N141 N145q
                have sz_b_145 : h0.size ≤ b_145 := Nat.le_trans KK141.1 s145_b
                have g_b_145 : n0 ≤ b_145 := Nat.le_trans Z0 sz_b_145
                have KK145 : Keep h0 T145.heap [] := KK141.trans K145 (allS (Or.inr sz_rr) all0)
                have pre146 : ∀ t, Steps p.tables e below (T145.setTop (mkF m 261 #[.val (.long q1), .second, .val (.long q2), .second, .val (.long q3), .second, .val (.long q4), .second, .val (.int p5), .val (.int p6), .val (.int rv), .val (.int ov), .val (.int h0_), .val (.int h1_), .val (.int h2_), .val (.int h3_), .val (.int ol), .val (.int ho), .val (.int rev), .val (.ref bw), .unset] [])) t → Steps p.tables e below (s₁.setTop (entryFrame m #[(.long q1), (.long q2), (.long q3), (.long q4), (.int p5), (.int p6)] maxLocals)) t := by
                  intro t kt
                  refine pre142 _ ?_
                  refine XS.ifNo X141.here hx rfl (hb hby at_188) rfl ((if0 _ _).trans (feq hc188_143).1) ?_
                  refine XS.aload X141.here hx rfl (hb hby at_191) rfl rfl ?_
                  refine XS.iload X141.here hx rfl (hb hby at_193) rfl ?_
                  refine XS.iconst X141.here hx rfl (hb hby at_195) ?_
                  refine XS.lloadN X141.here hx rfl (hb hby at_196) rfl ?_
                  show Steps p.tables e below (T141.setTop (mkF m 197 #[.val (.long q1), .second, .val (.long q2), .second, .val (.long q3), .second, .val (.long q4), .second, .val (.int p5), .val (.int p6), .val (.int rv), .val (.int ov), .val (.int h0_), .val (.int h1_), .val (.int h2_), .val (.int h3_), .val (.int ol), .val (.int ho), .val (.int rev), .val (.ref bw), .unset] [(.long q1), (.int (0 : Int32)), (.int rv), (.ref bw)])) _
                  refine st145.trans ?_
                  refine XS.goto X145.here hx rfl (pc0 := 200) (pc' := 261) rfl (hb hby at_200) (by decide) (by decide) ?_
                  exact kt
                exact cut261 T145 _ (own_smono X145 (by decide) (by decide)) _ rfl N145 KK145 rv ov h0_ h1_ h2_ h3_ ol ho rev bw rr kr b_145 kb_145 sg pre146 ((((E_bw.keep K117).keep K133).keep K141).keep K145) ((((F_bw.keep K117 (ninS hne_bw nin0)).keep K133 (ninS hne_bw nin0)).keep K141 (ninS hne_bw nin0)).keep K145 (ninS hne_bw nin0)) f145_1 f145_2 (r_rv : rv = (0 : Int32) ∨ rv = (1 : Int32))
    · intro cut137
      have pre147 : ∀ t, Steps p.tables e below (s₁.setTop (mkF m 18 #[.val (.long q1), .second, .val (.long q2), .second, .val (.long q3), .second, .val (.long q4), .second, .val (.int p5), .val (.int p6), .val (.int (((p5.toUInt32 >>> ((4 : Int32) &&& 31).toUInt32).toInt32) &&& (1 : Int32))), .val (.int ((1 : Int32) - (((p5.toUInt32 >>> ((4 : Int32) &&& 31).toUInt32).toInt32) &&& (1 : Int32)))), .unset, .unset, .unset, .unset, .unset, .unset, .unset, .unset, .unset] [(.int (p5 &&& (1 : Int32)))])) t → Steps p.tables e below (s₁.setTop (entryFrame m #[(.long q1), (.long q2), (.long q3), (.long q4), (.int p5), (.int p6)] maxLocals)) t := by
        intro t kt
        refine pre0 _ ?_
        show Steps p.tables e below (s₁.setTop (mkF m 0 #[.val (.long q1), .second, .val (.long q2), .second, .val (.long q3), .second, .val (.long q4), .second, .val (.int p5), .val (.int p6), .unset, .unset, .unset, .unset, .unset, .unset, .unset, .unset, .unset, .unset, .unset] [])) _
        refine XS.iload X0.here hx rfl (hb hby at_0) rfl ?_
        refine XS.iconst X0.here hx rfl (hb hby at_2) ?_
        refine XS.iushr X0.here hx rfl (hb hby at_3) rfl ?_
        refine XS.iconst X0.here hx rfl (hb hby at_4) ?_
        refine XS.iand X0.here hx rfl (hb hby at_5) rfl ?_
        refine XS.istore X0.here hx rfl (hb hby at_6) rfl (l' := #[.val (.long q1), .second, .val (.long q2), .second, .val (.long q3), .second, .val (.long q4), .second, .val (.int p5), .val (.int p6), .val (.int (((p5.toUInt32 >>> ((4 : Int32) &&& 31).toUInt32).toInt32) &&& (1 : Int32))), .unset, .unset, .unset, .unset, .unset, .unset, .unset, .unset, .unset, .unset]) rfl ?_
        refine XS.iconst X0.here hx rfl (hb hby at_8) ?_
        refine XS.iload X0.here hx rfl (hb hby at_9) rfl ?_
        refine XS.isub X0.here hx rfl (hb hby at_11) rfl ?_
        refine XS.istore X0.here hx rfl (hb hby at_12) rfl (l' := #[.val (.long q1), .second, .val (.long q2), .second, .val (.long q3), .second, .val (.long q4), .second, .val (.int p5), .val (.int p6), .val (.int (((p5.toUInt32 >>> ((4 : Int32) &&& 31).toUInt32).toInt32) &&& (1 : Int32))), .val (.int ((1 : Int32) - (((p5.toUInt32 >>> ((4 : Int32) &&& 31).toUInt32).toInt32) &&& (1 : Int32)))), .unset, .unset, .unset, .unset, .unset, .unset, .unset, .unset, .unset]) rfl ?_
        refine XS.iload X0.here hx rfl (hb hby at_14) rfl ?_
        refine XS.iconst X0.here hx rfl (hb hby at_16) ?_
        refine XS.iand X0.here hx rfl (hb hby at_17) rfl ?_
        exact kt
      have pre149 : ∀ t, Steps p.tables e below (s₁.setTop (mkF m 26 #[.val (.long q1), .second, .val (.long q2), .second, .val (.long q3), .second, .val (.long q4), .second, .val (.int p5), .val (.int p6), .val (.int (((p5.toUInt32 >>> ((4 : Int32) &&& 31).toUInt32).toInt32) &&& (1 : Int32))), .val (.int ((1 : Int32) - (((p5.toUInt32 >>> ((4 : Int32) &&& 31).toUInt32).toInt32) &&& (1 : Int32)))), .unset, .unset, .unset, .unset, .unset, .unset, .unset, .unset, .unset] [(.int (mg0_18_s0 p5))])) t → Steps p.tables e below (s₁.setTop (entryFrame m #[(.long q1), (.long q2), (.long q3), (.long q4), (.int p5), (.int p6)] maxLocals)) t := by
        intro t kt
        by_cases hc18_148 : (p5 &&& (1 : Int32)) = (0 : Int32)
        · rw [show (mg0_18_s0 p5) = (0 : Int32) from by rw [mg0_18_s0, if_pos hc18_148]] at kt
          refine pre147 _ ?_
          refine XS.ifYes X0.here hx rfl (pc0 := 18) (pc' := 25) rfl (hb hby at_18) rfl ((if0 _ _).trans (teq hc18_148).1) (by decide) (by decide) ?_
          refine XS.iconst X0.here hx rfl (hb hby at_25) ?_
          exact kt
        · rw [show (mg0_18_s0 p5) = (1 : Int32) from by rw [mg0_18_s0, if_neg hc18_148]] at kt
          refine pre147 _ ?_
          refine XS.ifNo X0.here hx rfl (hb hby at_18) rfl ((if0 _ _).trans (feq hc18_148).1) ?_
          refine XS.iconst X0.here hx rfl (hb hby at_21) ?_
          refine XS.goto X0.here hx rfl (pc0 := 22) (pc' := 26) rfl (hb hby at_22) (by decide) (by decide) ?_
          exact kt
      have pre150 : ∀ t, Steps p.tables e below (s₁.setTop (mkF m 32 #[.val (.long q1), .second, .val (.long q2), .second, .val (.long q3), .second, .val (.long q4), .second, .val (.int p5), .val (.int p6), .val (.int (((p5.toUInt32 >>> ((4 : Int32) &&& 31).toUInt32).toInt32) &&& (1 : Int32))), .val (.int ((1 : Int32) - (((p5.toUInt32 >>> ((4 : Int32) &&& 31).toUInt32).toInt32) &&& (1 : Int32)))), .val (.int (mg0_18_s0 p5)), .unset, .unset, .unset, .unset, .unset, .unset, .unset, .unset] [(.int (p5 &&& (2 : Int32)))])) t → Steps p.tables e below (s₁.setTop (entryFrame m #[(.long q1), (.long q2), (.long q3), (.long q4), (.int p5), (.int p6)] maxLocals)) t := by
        intro t kt
        refine pre149 _ ?_
        refine XS.istore X0.here hx rfl (hb hby at_26) rfl (l' := #[.val (.long q1), .second, .val (.long q2), .second, .val (.long q3), .second, .val (.long q4), .second, .val (.int p5), .val (.int p6), .val (.int (((p5.toUInt32 >>> ((4 : Int32) &&& 31).toUInt32).toInt32) &&& (1 : Int32))), .val (.int ((1 : Int32) - (((p5.toUInt32 >>> ((4 : Int32) &&& 31).toUInt32).toInt32) &&& (1 : Int32)))), .val (.int (mg0_18_s0 p5)), .unset, .unset, .unset, .unset, .unset, .unset, .unset, .unset]) rfl ?_
        refine XS.iload X0.here hx rfl (hb hby at_28) rfl ?_
        refine XS.iconst X0.here hx rfl (hb hby at_30) ?_
        refine XS.iand X0.here hx rfl (hb hby at_31) rfl ?_
        exact kt
      have pre152 : ∀ t, Steps p.tables e below (s₁.setTop (mkF m 40 #[.val (.long q1), .second, .val (.long q2), .second, .val (.long q3), .second, .val (.long q4), .second, .val (.int p5), .val (.int p6), .val (.int (((p5.toUInt32 >>> ((4 : Int32) &&& 31).toUInt32).toInt32) &&& (1 : Int32))), .val (.int ((1 : Int32) - (((p5.toUInt32 >>> ((4 : Int32) &&& 31).toUInt32).toInt32) &&& (1 : Int32)))), .val (.int (mg0_18_s0 p5)), .unset, .unset, .unset, .unset, .unset, .unset, .unset, .unset] [(.int (mg0_32_s0 p5))])) t → Steps p.tables e below (s₁.setTop (entryFrame m #[(.long q1), (.long q2), (.long q3), (.long q4), (.int p5), (.int p6)] maxLocals)) t := by
        intro t kt
        by_cases hc32_151 : (p5 &&& (2 : Int32)) = (0 : Int32)
        · rw [show (mg0_32_s0 p5) = (0 : Int32) from by rw [mg0_32_s0, if_pos hc32_151]] at kt
          refine pre150 _ ?_
          refine XS.ifYes X0.here hx rfl (pc0 := 32) (pc' := 39) rfl (hb hby at_32) rfl ((if0 _ _).trans (teq hc32_151).1) (by decide) (by decide) ?_
          refine XS.iconst X0.here hx rfl (hb hby at_39) ?_
          exact kt
        · rw [show (mg0_32_s0 p5) = (1 : Int32) from by rw [mg0_32_s0, if_neg hc32_151]] at kt
          refine pre150 _ ?_
          refine XS.ifNo X0.here hx rfl (hb hby at_32) rfl ((if0 _ _).trans (feq hc32_151).1) ?_
          refine XS.iconst X0.here hx rfl (hb hby at_35) ?_
          refine XS.goto X0.here hx rfl (pc0 := 36) (pc' := 40) rfl (hb hby at_36) (by decide) (by decide) ?_
          exact kt
      have pre153 : ∀ t, Steps p.tables e below (s₁.setTop (mkF m 46 #[.val (.long q1), .second, .val (.long q2), .second, .val (.long q3), .second, .val (.long q4), .second, .val (.int p5), .val (.int p6), .val (.int (((p5.toUInt32 >>> ((4 : Int32) &&& 31).toUInt32).toInt32) &&& (1 : Int32))), .val (.int ((1 : Int32) - (((p5.toUInt32 >>> ((4 : Int32) &&& 31).toUInt32).toInt32) &&& (1 : Int32)))), .val (.int (mg0_18_s0 p5)), .val (.int (mg0_32_s0 p5)), .unset, .unset, .unset, .unset, .unset, .unset, .unset] [(.int (p5 &&& (4 : Int32)))])) t → Steps p.tables e below (s₁.setTop (entryFrame m #[(.long q1), (.long q2), (.long q3), (.long q4), (.int p5), (.int p6)] maxLocals)) t := by
        intro t kt
        refine pre152 _ ?_
        refine XS.istore X0.here hx rfl (hb hby at_40) rfl (l' := #[.val (.long q1), .second, .val (.long q2), .second, .val (.long q3), .second, .val (.long q4), .second, .val (.int p5), .val (.int p6), .val (.int (((p5.toUInt32 >>> ((4 : Int32) &&& 31).toUInt32).toInt32) &&& (1 : Int32))), .val (.int ((1 : Int32) - (((p5.toUInt32 >>> ((4 : Int32) &&& 31).toUInt32).toInt32) &&& (1 : Int32)))), .val (.int (mg0_18_s0 p5)), .val (.int (mg0_32_s0 p5)), .unset, .unset, .unset, .unset, .unset, .unset, .unset]) rfl ?_
        refine XS.iload X0.here hx rfl (hb hby at_42) rfl ?_
        refine XS.iconst X0.here hx rfl (hb hby at_44) ?_
        refine XS.iand X0.here hx rfl (hb hby at_45) rfl ?_
        exact kt
      have pre155 : ∀ t, Steps p.tables e below (s₁.setTop (mkF m 54 #[.val (.long q1), .second, .val (.long q2), .second, .val (.long q3), .second, .val (.long q4), .second, .val (.int p5), .val (.int p6), .val (.int (((p5.toUInt32 >>> ((4 : Int32) &&& 31).toUInt32).toInt32) &&& (1 : Int32))), .val (.int ((1 : Int32) - (((p5.toUInt32 >>> ((4 : Int32) &&& 31).toUInt32).toInt32) &&& (1 : Int32)))), .val (.int (mg0_18_s0 p5)), .val (.int (mg0_32_s0 p5)), .unset, .unset, .unset, .unset, .unset, .unset, .unset] [(.int (mg0_46_s0 p5))])) t → Steps p.tables e below (s₁.setTop (entryFrame m #[(.long q1), (.long q2), (.long q3), (.long q4), (.int p5), (.int p6)] maxLocals)) t := by
        intro t kt
        by_cases hc46_154 : (p5 &&& (4 : Int32)) = (0 : Int32)
        · rw [show (mg0_46_s0 p5) = (0 : Int32) from by rw [mg0_46_s0, if_pos hc46_154]] at kt
          refine pre153 _ ?_
          refine XS.ifYes X0.here hx rfl (pc0 := 46) (pc' := 53) rfl (hb hby at_46) rfl ((if0 _ _).trans (teq hc46_154).1) (by decide) (by decide) ?_
          refine XS.iconst X0.here hx rfl (hb hby at_53) ?_
          exact kt
        · rw [show (mg0_46_s0 p5) = (1 : Int32) from by rw [mg0_46_s0, if_neg hc46_154]] at kt
          refine pre153 _ ?_
          refine XS.ifNo X0.here hx rfl (hb hby at_46) rfl ((if0 _ _).trans (feq hc46_154).1) ?_
          refine XS.iconst X0.here hx rfl (hb hby at_49) ?_
          refine XS.goto X0.here hx rfl (pc0 := 50) (pc' := 54) rfl (hb hby at_50) (by decide) (by decide) ?_
          exact kt
      have pre156 : ∀ t, Steps p.tables e below (s₁.setTop (mkF m 61 #[.val (.long q1), .second, .val (.long q2), .second, .val (.long q3), .second, .val (.long q4), .second, .val (.int p5), .val (.int p6), .val (.int (((p5.toUInt32 >>> ((4 : Int32) &&& 31).toUInt32).toInt32) &&& (1 : Int32))), .val (.int ((1 : Int32) - (((p5.toUInt32 >>> ((4 : Int32) &&& 31).toUInt32).toInt32) &&& (1 : Int32)))), .val (.int (mg0_18_s0 p5)), .val (.int (mg0_32_s0 p5)), .val (.int (mg0_46_s0 p5)), .unset, .unset, .unset, .unset, .unset, .unset] [(.int (p5 &&& (8 : Int32)))])) t → Steps p.tables e below (s₁.setTop (entryFrame m #[(.long q1), (.long q2), (.long q3), (.long q4), (.int p5), (.int p6)] maxLocals)) t := by
        intro t kt
        refine pre155 _ ?_
        refine XS.istore X0.here hx rfl (hb hby at_54) rfl (l' := #[.val (.long q1), .second, .val (.long q2), .second, .val (.long q3), .second, .val (.long q4), .second, .val (.int p5), .val (.int p6), .val (.int (((p5.toUInt32 >>> ((4 : Int32) &&& 31).toUInt32).toInt32) &&& (1 : Int32))), .val (.int ((1 : Int32) - (((p5.toUInt32 >>> ((4 : Int32) &&& 31).toUInt32).toInt32) &&& (1 : Int32)))), .val (.int (mg0_18_s0 p5)), .val (.int (mg0_32_s0 p5)), .val (.int (mg0_46_s0 p5)), .unset, .unset, .unset, .unset, .unset, .unset]) rfl ?_
        refine XS.iload X0.here hx rfl (hb hby at_56) rfl ?_
        refine XS.bipush X0.here hx rfl (hb hby at_58) ?_
        refine XS.iand X0.here hx rfl (hb hby at_60) rfl ?_
        exact kt
      have pre158 : ∀ t, Steps p.tables e below (s₁.setTop (mkF m 69 #[.val (.long q1), .second, .val (.long q2), .second, .val (.long q3), .second, .val (.long q4), .second, .val (.int p5), .val (.int p6), .val (.int (((p5.toUInt32 >>> ((4 : Int32) &&& 31).toUInt32).toInt32) &&& (1 : Int32))), .val (.int ((1 : Int32) - (((p5.toUInt32 >>> ((4 : Int32) &&& 31).toUInt32).toInt32) &&& (1 : Int32)))), .val (.int (mg0_18_s0 p5)), .val (.int (mg0_32_s0 p5)), .val (.int (mg0_46_s0 p5)), .unset, .unset, .unset, .unset, .unset, .unset] [(.int (mg0_61_s0 p5))])) t → Steps p.tables e below (s₁.setTop (entryFrame m #[(.long q1), (.long q2), (.long q3), (.long q4), (.int p5), (.int p6)] maxLocals)) t := by
        intro t kt
        by_cases hc61_157 : (p5 &&& (8 : Int32)) = (0 : Int32)
        · rw [show (mg0_61_s0 p5) = (0 : Int32) from by rw [mg0_61_s0, if_pos hc61_157]] at kt
          refine pre156 _ ?_
          refine XS.ifYes X0.here hx rfl (pc0 := 61) (pc' := 68) rfl (hb hby at_61) rfl ((if0 _ _).trans (teq hc61_157).1) (by decide) (by decide) ?_
          refine XS.iconst X0.here hx rfl (hb hby at_68) ?_
          exact kt
        · rw [show (mg0_61_s0 p5) = (1 : Int32) from by rw [mg0_61_s0, if_neg hc61_157]] at kt
          refine pre156 _ ?_
          refine XS.ifNo X0.here hx rfl (hb hby at_61) rfl ((if0 _ _).trans (feq hc61_157).1) ?_
          refine XS.iconst X0.here hx rfl (hb hby at_64) ?_
          refine XS.goto X0.here hx rfl (pc0 := 65) (pc' := 69) rfl (hb hby at_65) (by decide) (by decide) ?_
          exact kt
      have pre159 : ∀ t, Steps p.tables e below (s₁.setTop (mkF m 85 #[.val (.long q1), .second, .val (.long q2), .second, .val (.long q3), .second, .val (.long q4), .second, .val (.int p5), .val (.int p6), .val (.int (((p5.toUInt32 >>> ((4 : Int32) &&& 31).toUInt32).toInt32) &&& (1 : Int32))), .val (.int ((1 : Int32) - (((p5.toUInt32 >>> ((4 : Int32) &&& 31).toUInt32).toInt32) &&& (1 : Int32)))), .val (.int (mg0_18_s0 p5)), .val (.int (mg0_32_s0 p5)), .val (.int (mg0_46_s0 p5)), .val (.int (mg0_61_s0 p5)), .val (.int (((p5.toUInt32 >>> ((5 : Int32) &&& 31).toUInt32).toInt32) &&& (3 : Int32))), .unset, .unset, .unset, .unset] [(.int (p5 &&& (128 : Int32)))])) t → Steps p.tables e below (s₁.setTop (entryFrame m #[(.long q1), (.long q2), (.long q3), (.long q4), (.int p5), (.int p6)] maxLocals)) t := by
        intro t kt
        refine pre158 _ ?_
        refine XS.istore X0.here hx rfl (hb hby at_69) rfl (l' := #[.val (.long q1), .second, .val (.long q2), .second, .val (.long q3), .second, .val (.long q4), .second, .val (.int p5), .val (.int p6), .val (.int (((p5.toUInt32 >>> ((4 : Int32) &&& 31).toUInt32).toInt32) &&& (1 : Int32))), .val (.int ((1 : Int32) - (((p5.toUInt32 >>> ((4 : Int32) &&& 31).toUInt32).toInt32) &&& (1 : Int32)))), .val (.int (mg0_18_s0 p5)), .val (.int (mg0_32_s0 p5)), .val (.int (mg0_46_s0 p5)), .val (.int (mg0_61_s0 p5)), .unset, .unset, .unset, .unset, .unset]) rfl ?_
        refine XS.iload X0.here hx rfl (hb hby at_71) rfl ?_
        refine XS.iconst X0.here hx rfl (hb hby at_73) ?_
        refine XS.iushr X0.here hx rfl (hb hby at_74) rfl ?_
        refine XS.iconst X0.here hx rfl (hb hby at_75) ?_
        refine XS.iand X0.here hx rfl (hb hby at_76) rfl ?_
        refine XS.istore X0.here hx rfl (hb hby at_77) rfl (l' := #[.val (.long q1), .second, .val (.long q2), .second, .val (.long q3), .second, .val (.long q4), .second, .val (.int p5), .val (.int p6), .val (.int (((p5.toUInt32 >>> ((4 : Int32) &&& 31).toUInt32).toInt32) &&& (1 : Int32))), .val (.int ((1 : Int32) - (((p5.toUInt32 >>> ((4 : Int32) &&& 31).toUInt32).toInt32) &&& (1 : Int32)))), .val (.int (mg0_18_s0 p5)), .val (.int (mg0_32_s0 p5)), .val (.int (mg0_46_s0 p5)), .val (.int (mg0_61_s0 p5)), .val (.int (((p5.toUInt32 >>> ((5 : Int32) &&& 31).toUInt32).toInt32) &&& (3 : Int32))), .unset, .unset, .unset, .unset]) rfl ?_
        refine XS.iload X0.here hx rfl (hb hby at_79) rfl ?_
        refine XS.sipush X0.here hx rfl (hb hby at_81) ?_
        refine XS.iand X0.here hx rfl (hb hby at_84) rfl ?_
        exact kt
      have pre161 : ∀ t, Steps p.tables e below (s₁.setTop (mkF m 93 #[.val (.long q1), .second, .val (.long q2), .second, .val (.long q3), .second, .val (.long q4), .second, .val (.int p5), .val (.int p6), .val (.int (((p5.toUInt32 >>> ((4 : Int32) &&& 31).toUInt32).toInt32) &&& (1 : Int32))), .val (.int ((1 : Int32) - (((p5.toUInt32 >>> ((4 : Int32) &&& 31).toUInt32).toInt32) &&& (1 : Int32)))), .val (.int (mg0_18_s0 p5)), .val (.int (mg0_32_s0 p5)), .val (.int (mg0_46_s0 p5)), .val (.int (mg0_61_s0 p5)), .val (.int (((p5.toUInt32 >>> ((5 : Int32) &&& 31).toUInt32).toInt32) &&& (3 : Int32))), .unset, .unset, .unset, .unset] [(.int (mg0_85_s0 p5))])) t → Steps p.tables e below (s₁.setTop (entryFrame m #[(.long q1), (.long q2), (.long q3), (.long q4), (.int p5), (.int p6)] maxLocals)) t := by
        intro t kt
        by_cases hc85_160 : (p5 &&& (128 : Int32)) = (0 : Int32)
        · rw [show (mg0_85_s0 p5) = (0 : Int32) from by rw [mg0_85_s0, if_pos hc85_160]] at kt
          refine pre159 _ ?_
          refine XS.ifYes X0.here hx rfl (pc0 := 85) (pc' := 92) rfl (hb hby at_85) rfl ((if0 _ _).trans (teq hc85_160).1) (by decide) (by decide) ?_
          refine XS.iconst X0.here hx rfl (hb hby at_92) ?_
          exact kt
        · rw [show (mg0_85_s0 p5) = (1 : Int32) from by rw [mg0_85_s0, if_neg hc85_160]] at kt
          refine pre159 _ ?_
          refine XS.ifNo X0.here hx rfl (hb hby at_85) rfl ((if0 _ _).trans (feq hc85_160).1) ?_
          refine XS.iconst X0.here hx rfl (hb hby at_88) ?_
          refine XS.goto X0.here hx rfl (pc0 := 89) (pc' := 93) rfl (hb hby at_89) (by decide) (by decide) ?_
          exact kt
      have pre162 : ∀ t, Steps p.tables e below (s₁.setTop (mkF m 101 #[.val (.long q1), .second, .val (.long q2), .second, .val (.long q3), .second, .val (.long q4), .second, .val (.int p5), .val (.int p6), .val (.int (((p5.toUInt32 >>> ((4 : Int32) &&& 31).toUInt32).toInt32) &&& (1 : Int32))), .val (.int ((1 : Int32) - (((p5.toUInt32 >>> ((4 : Int32) &&& 31).toUInt32).toInt32) &&& (1 : Int32)))), .val (.int (mg0_18_s0 p5)), .val (.int (mg0_32_s0 p5)), .val (.int (mg0_46_s0 p5)), .val (.int (mg0_61_s0 p5)), .val (.int (((p5.toUInt32 >>> ((5 : Int32) &&& 31).toUInt32).toInt32) &&& (3 : Int32))), .val (.int (mg0_85_s0 p5)), .unset, .unset, .unset] [(.int (p5 &&& (256 : Int32)))])) t → Steps p.tables e below (s₁.setTop (entryFrame m #[(.long q1), (.long q2), (.long q3), (.long q4), (.int p5), (.int p6)] maxLocals)) t := by
        intro t kt
        refine pre161 _ ?_
        refine XS.istore X0.here hx rfl (hb hby at_93) rfl (l' := #[.val (.long q1), .second, .val (.long q2), .second, .val (.long q3), .second, .val (.long q4), .second, .val (.int p5), .val (.int p6), .val (.int (((p5.toUInt32 >>> ((4 : Int32) &&& 31).toUInt32).toInt32) &&& (1 : Int32))), .val (.int ((1 : Int32) - (((p5.toUInt32 >>> ((4 : Int32) &&& 31).toUInt32).toInt32) &&& (1 : Int32)))), .val (.int (mg0_18_s0 p5)), .val (.int (mg0_32_s0 p5)), .val (.int (mg0_46_s0 p5)), .val (.int (mg0_61_s0 p5)), .val (.int (((p5.toUInt32 >>> ((5 : Int32) &&& 31).toUInt32).toInt32) &&& (3 : Int32))), .val (.int (mg0_85_s0 p5)), .unset, .unset, .unset]) rfl ?_
        refine XS.iload X0.here hx rfl (hb hby at_95) rfl ?_
        refine XS.sipush X0.here hx rfl (hb hby at_97) ?_
        refine XS.iand X0.here hx rfl (hb hby at_100) rfl ?_
        exact kt
      have pre164 : ∀ t, Steps p.tables e below (s₁.setTop (mkF m 109 #[.val (.long q1), .second, .val (.long q2), .second, .val (.long q3), .second, .val (.long q4), .second, .val (.int p5), .val (.int p6), .val (.int (((p5.toUInt32 >>> ((4 : Int32) &&& 31).toUInt32).toInt32) &&& (1 : Int32))), .val (.int ((1 : Int32) - (((p5.toUInt32 >>> ((4 : Int32) &&& 31).toUInt32).toInt32) &&& (1 : Int32)))), .val (.int (mg0_18_s0 p5)), .val (.int (mg0_32_s0 p5)), .val (.int (mg0_46_s0 p5)), .val (.int (mg0_61_s0 p5)), .val (.int (((p5.toUInt32 >>> ((5 : Int32) &&& 31).toUInt32).toInt32) &&& (3 : Int32))), .val (.int (mg0_85_s0 p5)), .unset, .unset, .unset] [(.int (mg0_101_s0 p5))])) t → Steps p.tables e below (s₁.setTop (entryFrame m #[(.long q1), (.long q2), (.long q3), (.long q4), (.int p5), (.int p6)] maxLocals)) t := by
        intro t kt
        by_cases hc101_163 : (p5 &&& (256 : Int32)) = (0 : Int32)
        · rw [show (mg0_101_s0 p5) = (0 : Int32) from by rw [mg0_101_s0, if_pos hc101_163]] at kt
          refine pre162 _ ?_
          refine XS.ifYes X0.here hx rfl (pc0 := 101) (pc' := 108) rfl (hb hby at_101) rfl ((if0 _ _).trans (teq hc101_163).1) (by decide) (by decide) ?_
          show Steps p.tables e below (s₁.setTop (mkF m 108 #[.val (.long q1), .second, .val (.long q2), .second, .val (.long q3), .second, .val (.long q4), .second, .val (.int p5), .val (.int p6), .val (.int (((p5.toUInt32 >>> ((4 : Int32) &&& 31).toUInt32).toInt32) &&& (1 : Int32))), .val (.int ((1 : Int32) - (((p5.toUInt32 >>> ((4 : Int32) &&& 31).toUInt32).toInt32) &&& (1 : Int32)))), .val (.int (mg0_18_s0 p5)), .val (.int (mg0_32_s0 p5)), .val (.int (mg0_46_s0 p5)), .val (.int (mg0_61_s0 p5)), .val (.int (((p5.toUInt32 >>> ((5 : Int32) &&& 31).toUInt32).toInt32) &&& (3 : Int32))), .val (.int (mg0_85_s0 p5)), .unset, .unset, .unset] [])) _
          refine XS.iconst X0.here hx rfl (hb hby at_108) ?_
          exact kt
        · rw [show (mg0_101_s0 p5) = (1 : Int32) from by rw [mg0_101_s0, if_neg hc101_163]] at kt
          refine pre162 _ ?_
          refine XS.ifNo X0.here hx rfl (hb hby at_101) rfl ((if0 _ _).trans (feq hc101_163).1) ?_
          show Steps p.tables e below (s₁.setTop (mkF m 104 #[.val (.long q1), .second, .val (.long q2), .second, .val (.long q3), .second, .val (.long q4), .second, .val (.int p5), .val (.int p6), .val (.int (((p5.toUInt32 >>> ((4 : Int32) &&& 31).toUInt32).toInt32) &&& (1 : Int32))), .val (.int ((1 : Int32) - (((p5.toUInt32 >>> ((4 : Int32) &&& 31).toUInt32).toInt32) &&& (1 : Int32)))), .val (.int (mg0_18_s0 p5)), .val (.int (mg0_32_s0 p5)), .val (.int (mg0_46_s0 p5)), .val (.int (mg0_61_s0 p5)), .val (.int (((p5.toUInt32 >>> ((5 : Int32) &&& 31).toUInt32).toInt32) &&& (3 : Int32))), .val (.int (mg0_85_s0 p5)), .unset, .unset, .unset] [])) _
          refine XS.iconst X0.here hx rfl (hb hby at_104) ?_
          refine XS.goto X0.here hx rfl (pc0 := 105) (pc' := 109) rfl (hb hby at_105) (by decide) (by decide) ?_
          exact kt
      have pre165 : ∀ t, Steps p.tables e below (s₁.setTop (mkF m 111 #[.val (.long q1), .second, .val (.long q2), .second, .val (.long q3), .second, .val (.long q4), .second, .val (.int p5), .val (.int p6), .val (.int (((p5.toUInt32 >>> ((4 : Int32) &&& 31).toUInt32).toInt32) &&& (1 : Int32))), .val (.int ((1 : Int32) - (((p5.toUInt32 >>> ((4 : Int32) &&& 31).toUInt32).toInt32) &&& (1 : Int32)))), .val (.int (mg0_18_s0 p5)), .val (.int (mg0_32_s0 p5)), .val (.int (mg0_46_s0 p5)), .val (.int (mg0_61_s0 p5)), .val (.int (((p5.toUInt32 >>> ((5 : Int32) &&& 31).toUInt32).toInt32) &&& (3 : Int32))), .val (.int (mg0_85_s0 p5)), .val (.int (mg0_101_s0 p5)), .unset, .unset] [])) t → Steps p.tables e below (s₁.setTop (entryFrame m #[(.long q1), (.long q2), (.long q3), (.long q4), (.int p5), (.int p6)] maxLocals)) t := by
        intro t kt
        refine pre164 _ ?_
        refine XS.istore X0.here hx rfl (hb hby at_109) rfl (l' := #[.val (.long q1), .second, .val (.long q2), .second, .val (.long q3), .second, .val (.long q4), .second, .val (.int p5), .val (.int p6), .val (.int (((p5.toUInt32 >>> ((4 : Int32) &&& 31).toUInt32).toInt32) &&& (1 : Int32))), .val (.int ((1 : Int32) - (((p5.toUInt32 >>> ((4 : Int32) &&& 31).toUInt32).toInt32) &&& (1 : Int32)))), .val (.int (mg0_18_s0 p5)), .val (.int (mg0_32_s0 p5)), .val (.int (mg0_46_s0 p5)), .val (.int (mg0_61_s0 p5)), .val (.int (((p5.toUInt32 >>> ((5 : Int32) &&& 31).toUInt32).toInt32) &&& (3 : Int32))), .val (.int (mg0_85_s0 p5)), .val (.int (mg0_101_s0 p5)), .unset, .unset]) rfl ?_
        exact kt
      obtain ⟨rev, hrev⟩ : ∃ z, z = (mg0_101_s0 p5) := ⟨_, rfl⟩
      rw [← hrev] at pre165
      obtain ⟨ho, hho⟩ : ∃ z, z = (mg0_85_s0 p5) := ⟨_, rfl⟩
      rw [← hho] at pre165
      obtain ⟨ol, hol⟩ : ∃ z, z = (((p5.toUInt32 >>> ((5 : Int32) &&& 31).toUInt32).toInt32) &&& (3 : Int32)) := ⟨_, rfl⟩
      rw [← hol] at pre165
      obtain ⟨h3_, hh3_⟩ : ∃ z, z = (mg0_61_s0 p5) := ⟨_, rfl⟩
      rw [← hh3_] at pre165
      obtain ⟨h2_, hh2_⟩ : ∃ z, z = (mg0_46_s0 p5) := ⟨_, rfl⟩
      rw [← hh2_] at pre165
      obtain ⟨h1_, hh1_⟩ : ∃ z, z = (mg0_32_s0 p5) := ⟨_, rfl⟩
      rw [← hh1_] at pre165
      obtain ⟨h0_, hh0_⟩ : ∃ z, z = (mg0_18_s0 p5) := ⟨_, rfl⟩
      rw [← hh0_] at pre165
      obtain ⟨rv, hrv⟩ : ∃ z, z = (((p5.toUInt32 >>> ((4 : Int32) &&& 31).toUInt32).toInt32) &&& (1 : Int32)) := ⟨_, rfl⟩
      rw [← hrv] at pre165
      have r_rv : rv = (0 : Int32) ∨ rv = (1 : Int32) := by rw [hrv]; exact own_rv _
      obtain ⟨T166, h166, X166, e166, E166, A166, D166, -, st166⟩ := newO X0 hx hZ hown (hw _ (List.mem_of_getElem? (i := 0) rfl)) (hw _ (List.mem_of_getElem? (i := 1) rfl)) (hw _ (List.mem_of_getElem? (i := 2) rfl)) e0 (g := (mkF m 111 #[.val (.long q1), .second, .val (.long q2), .second, .val (.long q3), .second, .val (.long q4), .second, .val (.int p5), .val (.int p6), .val (.int rv), .val (.int ((1 : Int32) - rv)), .val (.int h0_), .val (.int h1_), .val (.int h2_), .val (.int h3_), .val (.int ol), .val (.int ho), .val (.int rev), .unset, .unset] [])) rfl (hb hby at_111) (by decide) (by decide)
      obtain ⟨b166, g166⟩ : ∃ z, z = h0.size := ⟨_, rfl⟩
      rw [← g166] at A166 D166 st166
      have sz_b166 : h0.size ≤ b166 := Nat.le_trans (Keep.refl h0 []).1 (Nat.le_of_eq g166.symm)
      have g_b166 : n0 ≤ b166 := Nat.le_trans Z0 sz_b166
      have K166 : Keep h0 h166 [] := (Keep.refl h0 []).ext E166
      have F__rows_b166 : Fld Z h166 b166 "com/example/chartlight/chartlight/label/WeightRows" "_rows" "[[J" .null := D166 (Or.inl (hw _ (List.mem_of_getElem? (i := 12) rfl))) (ty := (.array (.array .long))) (by decide)
      have F__size_b166 : Fld Z h166 b166 "com/example/chartlight/chartlight/label/WeightRows" "_size" "I" (.int (0 : Int32)) := D166 (Or.inl (hw _ (List.mem_of_getElem? (i := 21) rfl))) (ty := .int) (by decide)
      obtain ⟨_, _, ⟨T167, L167, k167, n167⟩, -, X167, ⟨Lc167, hQ167, l167, y167, z167⟩, st167⟩ := X166.specialBack hx (y := (⟨"com/example/chartlight/chartlight/label/WeightRows", "<init>", "(I)V"⟩ : MethodName)) rfl hown (mvT hZ (hw _ (List.mem_of_getElem? (i := 3) rfl))) (mvT hZ (hw _ (List.mem_of_getElem? (i := 4) rfl))) (mvT hZ (hw _ (List.mem_of_getElem? (i := 5) rfl))) (by decide) (backOf (W := 1) (rm1 l Z a0 hw [] b166 w_NONE .null (.int (0 : Int32)) h166 n0 (Nat.le_trans Z0 K166.1) (S_NONE.ext E166) (E_w_NONE.ext E166) A166 F__rows_b166 g_b166 F__size_b166 ) hZ (hw _ (List.mem_of_getElem? (i := 5) rfl)) (hw _ (List.mem_of_getElem? (i := 2) rfl)) (by decide) (by decide)) (g := (mkF m 116 #[.val (.long q1), .second, .val (.long q2), .second, .val (.long q3), .second, .val (.long q4), .second, .val (.int p5), .val (.int p6), .val (.int rv), .val (.int ((1 : Int32) - rv)), .val (.int h0_), .val (.int h1_), .val (.int h2_), .val (.int h3_), .val (.int ol), .val (.int ho), .val (.int rev), .unset, .unset] [(.int (2 : Int32)), (.ref b166), (.ref b166)])) rfl (by rw [hml]; rfl) (Steps.refl _) (a := b166) (argsL := [(.int (2 : Int32))]) (rest := [(.ref b166)]) (lenOf pd6 rfl) rfl (by show 2 * 0 + _ ≤ _; exact Nat.le_of_eq rfl) (hb hby at_116) (fun _ _ => ⟨rfl, e166, (by decide : 1 + 1 ≤ _), (by decide : 2 + 2 ≤ _)⟩)
      dsimp only [Pt.U, Pt.locs, Pt.cells, Pt.slots] at X167 l167 y167 z167 st167 hQ167
      subst l167 y167 z167
      obtain ⟨b2_167, k2_167, rfl, N167q, K167, s167_b2, f167_0, f167_1, f167_2, f167_3, f167_4, f167_5⟩ := hQ167
      have N167 := Fr.app N0 N167q
      have sz_b2_167 : h0.size ≤ b2_167 := Nat.le_trans K166.1 s167_b2
      have g_b2_167 : n0 ≤ b2_167 := Nat.le_trans Z0 sz_b2_167
      have KK167 : Keep h0 T167.heap [] := K166.trans K167 (allS (Or.inr sz_b166) all0)
      have V_rw : Arv Z T167.heap b2_167 k2_167 (.array .long) (2 : Int32) (own_pair rv (.ref w_NONE) (.ref w_NONE)) .null := by rw [own_pair_same]; exact f167_4
      have pre168 : ∀ t, Steps p.tables e below (T167.setTop (mkF m 123 #[.val (.long q1), .second, .val (.long q2), .second, .val (.long q3), .second, .val (.long q4), .second, .val (.int p5), .val (.int p6), .val (.int rv), .val (.int ((1 : Int32) - rv)), .val (.int h0_), .val (.int h1_), .val (.int h2_), .val (.int h3_), .val (.int ol), .val (.int ho), .val (.int rev), .val (.ref b166), .unset] [(.int ho)])) t → Steps p.tables e below (s₁.setTop (entryFrame m #[(.long q1), (.long q2), (.long q3), (.long q4), (.int p5), (.int p6)] maxLocals)) t := by
        intro t kt
        refine pre165 _ ?_
        show Steps p.tables e below (s₁.setTop (mkF m 111 #[.val (.long q1), .second, .val (.long q2), .second, .val (.long q3), .second, .val (.long q4), .second, .val (.int p5), .val (.int p6), .val (.int rv), .val (.int ((1 : Int32) - rv)), .val (.int h0_), .val (.int h1_), .val (.int h2_), .val (.int h3_), .val (.int ol), .val (.int ho), .val (.int rev), .unset, .unset] [])) _
        refine st166 _ ?_
        show Steps p.tables e below (T166.setTop (mkF m 114 #[.val (.long q1), .second, .val (.long q2), .second, .val (.long q3), .second, .val (.long q4), .second, .val (.int p5), .val (.int p6), .val (.int rv), .val (.int ((1 : Int32) - rv)), .val (.int h0_), .val (.int h1_), .val (.int h2_), .val (.int h3_), .val (.int ol), .val (.int ho), .val (.int rev), .unset, .unset] [(.ref b166)])) _
        refine XS.dup X166.here hx rfl (hb hby at_114) rfl rfl ?_
        refine XS.iconst X166.here hx rfl (hb hby at_115) ?_
        show Steps p.tables e below (T166.setTop (mkF m 116 #[.val (.long q1), .second, .val (.long q2), .second, .val (.long q3), .second, .val (.long q4), .second, .val (.int p5), .val (.int p6), .val (.int rv), .val (.int ((1 : Int32) - rv)), .val (.int h0_), .val (.int h1_), .val (.int h2_), .val (.int h3_), .val (.int ol), .val (.int ho), .val (.int rev), .unset, .unset] [(.int (2 : Int32)), (.ref b166), (.ref b166)])) _
        refine st167.trans ?_
        refine XS.astore X167.here hx rfl (hb hby at_119) rfl rfl (l' := #[.val (.long q1), .second, .val (.long q2), .second, .val (.long q3), .second, .val (.long q4), .second, .val (.int p5), .val (.int p6), .val (.int rv), .val (.int ((1 : Int32) - rv)), .val (.int h0_), .val (.int h1_), .val (.int h2_), .val (.int h3_), .val (.int ol), .val (.int ho), .val (.int rev), .val (.ref b166), .unset]) rfl ?_
        refine XS.iload X167.here hx rfl (hb hby at_121) rfl ?_
        exact kt
      by_cases hc123_169 : ho = (0 : Int32)
      · have pre170 : ∀ t, Steps p.tables e below (T167.setTop (mkF m 137 #[.val (.long q1), .second, .val (.long q2), .second, .val (.long q3), .second, .val (.long q4), .second, .val (.int p5), .val (.int p6), .val (.int rv), .val (.int ((1 : Int32) - rv)), .val (.int h0_), .val (.int h1_), .val (.int h2_), .val (.int h3_), .val (.int ol), .val (.int ho), .val (.int rev), .val (.ref b166), .unset] [])) t → Steps p.tables e below (s₁.setTop (entryFrame m #[(.long q1), (.long q2), (.long q3), (.long q4), (.int p5), (.int p6)] maxLocals)) t := by
          intro t kt
          refine pre168 _ ?_
          refine XS.ifYes X167.here hx rfl (pc0 := 123) (pc' := 137) rfl (hb hby at_123) rfl ((if0 _ _).trans (teq hc123_169).1) (by decide) (by decide) ?_
          exact kt
        exact cut137 T167 _ (own_smono X167 (by decide) (by decide)) _ rfl N167 KK167 rv ((1 : Int32) - rv) h0_ h1_ h2_ h3_ ol ho rev b166 b2_167 k2_167 w_NONE pre170 sz_b166 sz_b2_167 (A166.keep K167) f167_1 f167_3 V_rw (Nat.ne_of_lt (Nat.lt_of_lt_of_le A166.lt s167_b2)) (f167_5 : OvrA Z k2_167 .long "[J") (r_rv : rv = (0 : Int32) ∨ rv = (1 : Int32))
      · obtain ⟨cq171, kq171, q171a, q171b, q171c⟩ := isOf hZ rfl (A166.keep K167)
        obtain ⟨_, _, ⟨T171, L171, k171, n171⟩, -, X171, ⟨Lc171, hQ171, l171, y171, z171⟩, st171⟩ := X167.virtualBack hx (y := (⟨"com/example/chartlight/chartlight/label/WeightRows", "add", "(IIJ)V"⟩ : MethodName)) (z := (⟨"com/example/chartlight/chartlight/label/WeightRows", "add", "(IIJ)V"⟩ : MethodName)) hown (mvT hZ (hw _ (List.mem_of_getElem? (i := 22) rfl))) (mvT hZ (hw _ (List.mem_of_getElem? (i := 23) rfl))) (notFace_of_selects (args := #[]) (mvT hZ (hw _ (List.mem_of_getElem? (i := 25) rfl)))) (mvT hZ (hw _ (List.mem_of_getElem? (i := 25) rfl))) (mvT hZ (hw _ (List.mem_of_getElem? (i := 24) rfl))) (by decide) (backOf (W := 0) (rm_addo l Z a0 hw [] b166 ((1 : Int32) - rv) ol q4 b2_167 k2_167 w_NONE w_NONE kN rv T167.heap n0 (Nat.le_trans Z0 KK167.1) f167_1 V_rw f167_3 ((V_w_NONE.ext E166).keep K167 (ninS (Nat.ne_of_lt (Nat.lt_of_lt_of_le E_w_NONE.lt (Nat.le_of_eq g166.symm))) nin0)) g_b2_167 (r_rv : rv = (0 : Int32) ∨ rv = (1 : Int32)) (rfl : ((1 : Int32) - rv) = ((1 : Int32) - rv)) (f167_5 : OvrA Z k2_167 .long "[J") ((Nat.ne_of_lt (Nat.lt_of_lt_of_le (E_w_NONE.ext E166).lt s167_b2)) : w_NONE ≠ b2_167)) hZ (hw _ (List.mem_of_getElem? (i := 26) rfl)) (hw _ (List.mem_of_getElem? (i := 2) rfl)) (by decide) (by decide)) q171a q171c (g := (mkF m 134 #[.val (.long q1), .second, .val (.long q2), .second, .val (.long q3), .second, .val (.long q4), .second, .val (.int p5), .val (.int p6), .val (.int rv), .val (.int ((1 : Int32) - rv)), .val (.int h0_), .val (.int h1_), .val (.int h2_), .val (.int h3_), .val (.int ol), .val (.int ho), .val (.int rev), .val (.ref b166), .unset] [(.long q4), (.int ol), (.int ((1 : Int32) - rv)), (.ref b166)])) rfl (by rw [hml]; rfl) (Steps.refl _) (argsL := [(.int ((1 : Int32) - rv)), (.int ol), (.long q4)]) (rest := []) (lenOf pd5 rfl) rfl (by show 2 * 0 + _ ≤ _; exact Nat.le_of_eq rfl) (hb hby at_134) (fun _ _ => ⟨rfl, rfl, (by decide : 2 + 1 ≤ _), (by decide : 4 + 8 ≤ _)⟩)
        dsimp only [Pt.U, Pt.locs, Pt.cells, Pt.slots] at X171 l171 y171 z171 st171 hQ171
        subst l171 y171 z171
        obtain ⟨b_171, rfl, N171q, K171, s171_b, f171_0, f171_1, f171_2⟩ := hQ171
        have N171 := Fr.app N167 N171q
        have sz_b_171 : h0.size ≤ b_171 := Nat.le_trans KK167.1 s171_b
        have g_b_171 : n0 ≤ b_171 := Nat.le_trans Z0 sz_b_171
        have KK171 : Keep h0 T171.heap [] := KK167.trans K171 (allS (Or.inr sz_b2_167) all0)
        have pre172 : ∀ t, Steps p.tables e below (T171.setTop (mkF m 137 #[.val (.long q1), .second, .val (.long q2), .second, .val (.long q3), .second, .val (.long q4), .second, .val (.int p5), .val (.int p6), .val (.int rv), .val (.int ((1 : Int32) - rv)), .val (.int h0_), .val (.int h1_), .val (.int h2_), .val (.int h3_), .val (.int ol), .val (.int ho), .val (.int rev), .val (.ref b166), .unset] [])) t → Steps p.tables e below (s₁.setTop (entryFrame m #[(.long q1), (.long q2), (.long q3), (.long q4), (.int p5), (.int p6)] maxLocals)) t := by
          intro t kt
          refine pre168 _ ?_
          refine XS.ifNo X167.here hx rfl (hb hby at_123) rfl ((if0 _ _).trans (feq hc123_169).1) ?_
          refine XS.aload X167.here hx rfl (hb hby at_126) rfl rfl ?_
          refine XS.iload X167.here hx rfl (hb hby at_128) rfl ?_
          refine XS.iload X167.here hx rfl (hb hby at_130) rfl ?_
          refine XS.lload X167.here hx rfl (hb hby at_132) rfl ?_
          show Steps p.tables e below (T167.setTop (mkF m 134 #[.val (.long q1), .second, .val (.long q2), .second, .val (.long q3), .second, .val (.long q4), .second, .val (.int p5), .val (.int p6), .val (.int rv), .val (.int ((1 : Int32) - rv)), .val (.int h0_), .val (.int h1_), .val (.int h2_), .val (.int h3_), .val (.int ol), .val (.int ho), .val (.int rev), .val (.ref b166), .unset] [(.long q4), (.int ol), (.int ((1 : Int32) - rv)), (.ref b166)])) _
          refine st171.trans ?_
          exact kt
        exact cut137 T171 _ (own_smono X171 (by decide) (by decide)) _ rfl N171 KK171 rv ((1 : Int32) - rv) h0_ h1_ h2_ h3_ ol ho rev b166 b2_167 k2_167 b_171 pre172 sz_b166 sz_b2_167 ((A166.keep K167).keep K171) (f167_1.keep K171 (ninS (Nat.ne_of_lt (Nat.lt_of_lt_of_le A166.lt s167_b2)) nin0)) (f167_3.keep K171) f171_1 (Nat.ne_of_lt (Nat.lt_of_lt_of_le A166.lt s167_b2)) (f167_5 : OvrA Z k2_167 .long "[J") (r_rv : rv = (0 : Int32) ∨ rv = (1 : Int32))
set_option maxRecDepth 65536 in
set_option maxHeartbeats 40000000 in
theorem comes_1 {Post : Tables → Env → Array Value → State → Outcome → State → Prop} (hpost : ∀ tb e args s v u, (limb_1_1.after args s (.returned v) u = true ∧ limb_1_2.after args s (.returned v) u = true ∧ True) → FrameEnd s (.returned v) u (Jvm.fieldLocs frame_1_writes args s ++ Jvm.arrayLocs frame_1_arrays args s ++ Jvm.staticLocs frame_1_statics s) 24 128 → Post tb e args s (.returned v) u) :
    ArmFor flags0 classFile x code maxLocals ret World_1 tables_1 room_1 Calls_1 rest_1 Pre_1 Post := by
  intro l hfl _ _ p e ha hc hk s m args below hf hA hF happ hP
  obtain ⟨hcalls, hrest, hpre⟩ := hP
  obtain ⟨-, -, -, hnamed, -, -, -, hat⟩ := (Spec.applies_iff hf).mp happ
  obtain ⟨hg, hn⟩ := and_e (Cond.before_iff.mp (show (Jvm.Cond.and given_1 narrow_1).before args s = true from hpre))
  obtain ⟨ga0, gb0⟩ := and_e hg
  obtain ⟨ga1, gb1⟩ := and_e gb0
  obtain ⟨ga2, gb2⟩ := and_e gb1
  obtain ⟨ga3, gb3⟩ := and_e gb2
  obtain ⟨ga4, gb4⟩ := and_e gb3
  obtain ⟨ga5, gb5⟩ := and_e gb4
  obtain ⟨w0, w1, w2, w3, w4, w5, rfl⟩ : ∃ w0 w1 w2 w3 w4 w5 : Value, args = #[w0, w1, w2, w3, w4, w5] := by
    have hs : args.size = 6 := by simpa [Cond.value, given_1] using ga0
    obtain ⟨L⟩ := args
    match L, hs with
    | [w0, w1, w2, w3, w4, w5], _ => exact ⟨w0, w1, w2, w3, w4, w5, rfl⟩
  have hw := fun d (hd : d ∈ tables_1) => atoms_spec (ws := Jvm.Cond.code x code maxLocals ret :: tables_1) hat d (List.mem_cons_of_mem _ hd)
  have hfit : Fit s := fun {y c} hc i hi => by
    obtain ⟨ha, rfl⟩ := Array.getElem?_eq_some_iff.mp hc
    have q := List.all_eq_true.mp ((Array.all_eq_true_iff_forall_mem.mp hF) _ (Array.getElem_mem ha)) i (List.mem_range.mpr hi)
    simpa [Array.getElem?_eq_getElem hi] using q
  obtain ⟨i0, ei0⟩ := isL_v ga1
  obtain rfl : w0 = (.long i0) := Option.some.inj ei0
  obtain ⟨i1, ei1⟩ := isL_v ga2
  obtain rfl : w1 = (.long i1) := Option.some.inj ei1
  obtain ⟨i2, ei2⟩ := isL_v ga3
  obtain rfl : w2 = (.long i2) := Option.some.inj ei2
  obtain ⟨i3, ei3⟩ := isL_v ga4
  obtain rfl : w3 = (.long i3) := Option.some.inj ei3
  obtain ⟨i4, ei4⟩ := is_v ga5
  obtain rfl : w4 = (.int i4) := Option.some.inj ei4
  obtain ⟨i5, ei5⟩ := is_v gb5
  obtain rfl : w5 = (.int i5) := Option.some.inj ei5
  obtain ⟨na1, nb1⟩ := and_e hn
  obtain ⟨na2, nb2⟩ := and_e nb1
  obtain ⟨w_NONE, ev_NONE⟩ := arr_v na1
  have S_NONE := Sta.start ev_NONE (Or.inr ⟨(hw _ (List.mem_of_getElem? (i := 2) rfl)), (hw _ (List.mem_of_getElem? (i := 14) rfl))⟩)
  obtain ⟨cl_NONE, A_NONE⟩ := Arr.start ev_NONE na1
  have E_w_NONE := Exa.start ev_NONE na2
  have L_NONE := own_len ev_NONE A_NONE (own_eqv (Or.inl ⟨_, rfl⟩) (Term.int_eval _) nb2)
  have V_w_NONE : Arv s s.heap w_NONE cl_NONE.cls .long (0 : Int32) [] (.long (0 : Int64)) := Arv.start hfit A_NONE L_NONE.1 L_NONE.2 (by decide) rfl trivial
  obtain ⟨n, o, h1, h2, h3, _, L, rfl, ⟨rfl, N⟩, hq⟩ := rm0 l s _ hw tables_1 i0 i1 i2 i3 i4 i5 w_NONE cl_NONE.cls s.heap s.heap.size (Nat.le_refl _) S_NONE E_w_NONE V_w_NONE p e ha hc hk s m _ below hf ((Spec.applies_iff_loose hf).mp happ).1 ⟨rfl, State.Warmed39.refl s, rfl⟩ trivial
  have hfin : (1 : Int32) = (1 : Int32) := rfl
  refine ⟨n, _, h1, h2, h3, hpost _ _ _ _ _ _ ⟨Cond.after_iff.mpr rfl, Cond.after_iff.mpr (eq_i res_at (Term.int_eval (1)) (by rw [hfin])), trivial⟩ ⟨hq.1, hq.2.1, (hq.2.2.sift fun y hy => Or.inr (N y hy)).mono (by decide) (by decide)⟩⟩
theorem main_1_1 : Claimed_1_1 := comes_1 fun _ _ _ _ _ _ h hF => ⟨h.1, hF⟩
theorem main_1_2 : Claimed_1_2 := comes_1 fun _ _ _ _ _ _ h hF => ⟨h.2.1, hF⟩
end Jvm.Pilot.@@N@@
namespace Jvm.Pilot.@@N@@
open Jvm Jvm.ClassFile Sem Op Lib Jvm.Free Jvm.Stand Jvm.Pilot.@@N@@.Jvm.D
/-! MADE BY PROGRAM (witnessworld.py) out of the Statement's table words and the real class files: 15 classes; the members and pool entries that the words name. The judged class is class 1, her method 1. -/
namespace start1
open Jvm.ClassFile
def u (s : String) : CpInfo := .utf8 (stringToUtf16 s)
/-- a pool by its gaps: so many unusable entries, then the entry; so many at the end -/
def gap : Nat → List CpInfo → List CpInfo
  | 0, r => r
  | n + 1, r => .unusable :: gap n r
def poolList (es : List (Nat × CpInfo)) (last : Nat) : List CpInfo := es.foldr (fun e r => gap e.1 (e.2 :: r)) (gap last [])
def pool (es : List (Nat × CpInfo)) (last : Nat) : Array CpInfo := ⟨poolList es last⟩
def fileOf (pool : Array CpInfo) (this : Nat) (attrs : Array Attribute := #[]) (ms : Array MethodInfo := #[]) (fl : Nat := 33) (sup : Nat := 0) (ifs : Array Nat := #[]) (fds : Array FieldInfo := #[]) : ClassFile where
  minorVersion := 0
  majorVersion := 65
  constantPool := pool
  accessFlags := fl
  thisClass := this
  superClass := sup
  interfaces := ifs
  fields := fds
  methods := ms
  attributes := attrs
def plain (name : String) (sup : Option ClassId) : Class where
  name := name
  kind := .ordinary
  loader := none
  accessFlags := 33
  super := sup
  interfaces := #[]
  cf := none
  fields := #[]
  methods := #[]
  instanceTypes := #[]
  staticTypes := #[]
  resolved := #[]
  callSites := []
  init := .initialized
  statics := none
  mirror := none

def pool0 : Array CpInfo := pool [(5, u "<init>"), (0, u "()V"), (1, .class_ 10), (1, u "java/lang/Object")] 113

def k0c0 : Code := { maxStack := 0, maxLocals := 1, code := object_method_1_code, exceptionTable := #[], attributes := #[] }
def k0m0 : Method := { name := "<init>", desc := "()V", sig := { parameters := [], returnType := none }, accessFlags := 1, code := some k0c0 }
/-- java/lang/Object -/
def k0 : Class := { plain "java/lang/Object" none with
  accessFlags := 33
  interfaces := #[]
  cf := some (fileOf pool0 8 #[] #[{ accessFlags := 1, nameIndex := 5, descriptorIndex := 6, attributes := #[] }] 33 0 #[] #[])
  fields := #[]
  methods := #[k0m0]
  instanceTypes := #[]
  staticTypes := #[]
  resolved := Array.replicate 124 none
  statics := none }

def pool1 : Array CpInfo := pool [(2, .class_ 4), (1, u "java/lang/Object"), (0, u "<init>"), (0, u "()V"), (0, .class_ 8), (0, u "com/example/chartlight/chartlight/label/WeightRows"), (0, .methodref 7 10), (0, .nameAndType 5 11), (0, u "(I)V"), (0, .methodref 7 13), (0, .nameAndType 14 15), (0, u "add"), (0, u "(IIJ)V"), (0, .methodref 17 18), (0, .class_ 19), (0, .nameAndType 20 21), (0, u "com/example/chartlight/chartlight/label/WeightRowsAddToPinLaw"), (0, u "base"), (0, u "(II)D"), (0, .methodref 7 23), (0, .nameAndType 24 25), (0, u "addTo"), (0, u "(I[D)V"), (0, .methodref 17 27), (0, .nameAndType 28 29), (0, u "expect"), (0, u "(IIZJ)D"), (2, u "law"), (0, u "(JJJJII)Z")] 5

def k1m0 : Method := { name := "<init>", desc := "()V", sig := { parameters := [], returnType := none }, accessFlags := 1, code := none }
def k1c1 : Code := { maxStack := 7, maxLocals := 21, code := code, exceptionTable := #[], attributes := #[] }
def k1m1 : Method := { name := "law", desc := "(JJJJII)Z", sig := { parameters := [.long, .long, .long, .long, .int, .int], returnType := some .boolean }, accessFlags := 9, code := some k1c1 }
def k1c2 : Code := { maxStack := 3, maxLocals := 2, code := method_3_code, exceptionTable := #[], attributes := #[] }
def k1m2 : Method := { name := "base", desc := "(II)D", sig := { parameters := [.int, .int], returnType := some .double }, accessFlags := 10, code := some k1c2 }
def k1c3 : Code := { maxStack := 4, maxLocals := 7, code := method_4_code, exceptionTable := #[], attributes := #[] }
def k1m3 : Method := { name := "expect", desc := "(IIZJ)D", sig := { parameters := [.int, .int, .boolean, .long], returnType := some .double }, accessFlags := 10, code := some k1c3 }
/-- com/example/chartlight/chartlight/label/WeightRowsAddToPinLaw -/
def k1 : Class := { plain "com/example/chartlight/chartlight/label/WeightRowsAddToPinLaw" (some 0) with
  accessFlags := 49
  interfaces := #[]
  cf := some (fileOf pool1 17 #[] #[{ accessFlags := 1, nameIndex := 5, descriptorIndex := 6, attributes := #[] }, { accessFlags := 9, nameIndex := 32, descriptorIndex := 33, attributes := #[] }, { accessFlags := 10, nameIndex := 20, descriptorIndex := 21, attributes := #[] }, { accessFlags := 10, nameIndex := 28, descriptorIndex := 29, attributes := #[] }] 49 2 #[] #[])
  fields := #[]
  methods := #[k1m0, k1m1, k1m2, k1m3]
  instanceTypes := #[]
  staticTypes := #[]
  resolved := Array.replicate 39 none
  statics := none }

def pool2 : Array CpInfo := pool [(1, .methodref 2 3), (0, .class_ 4), (0, .nameAndType 5 6), (0, u "java/lang/Object"), (0, u "<init>"), (0, u "()V"), (0, .class_ 8), (0, u "[J"), (0, .fieldref 10 11), (0, .class_ 12), (0, .nameAndType 13 14), (0, u "com/example/chartlight/chartlight/label/WeightRows"), (0, u "_rows"), (0, u "[[J"), (0, .fieldref 10 16), (0, .nameAndType 17 8), (0, u "NONE"), (0, .methodref 19 20), (0, .class_ 21), (0, .nameAndType 22 23), (0, u "java/util/Arrays"), (0, u "fill"), (0, u "([Ljava/lang/Object;Ljava/lang/Object;)V"), (0, .fieldref 10 25), (0, .nameAndType 26 27), (0, u "_size"), (0, u "I"), (11, .methodref 10 40), (0, .nameAndType 41 42), (0, u "find"), (0, u "([JI)I"), (4, .methodref 48 49), (0, .class_ 50), (0, .nameAndType 51 52), (0, u "java/lang/System"), (0, u "arraycopy"), (0, u "(Ljava/lang/Object;ILjava/lang/Object;II)V"), (0, u "(I)V"), (11, u "add"), (0, u "(IIJ)V"), (0, u "addTo"), (0, u "(I[D)V")] 3

def k2c0 : Code := { maxStack := 2, maxLocals := 2, code := prog_58_method_1_code, exceptionTable := #[], attributes := #[] }
def k2m0 : Method := { name := "<init>", desc := "(I)V", sig := { parameters := [.int], returnType := none }, accessFlags := 0, code := some k2c0 }
def k2c1 : Code := { maxStack := 6, maxLocals := 9, code := prog_58_method_7_code, exceptionTable := #[], attributes := #[] }
def k2m1 : Method := { name := "add", desc := "(IIJ)V", sig := { parameters := [.int, .int, .long], returnType := none }, accessFlags := 0, code := some k2c1 }
def k2c2 : Code := { maxStack := 7, maxLocals := 5, code := prog_58_method_8_code, exceptionTable := #[], attributes := #[] }
def k2m2 : Method := { name := "addTo", desc := "(I[D)V", sig := { parameters := [.int, (.array .double)], returnType := none }, accessFlags := 0, code := some k2c2 }
def k2c3 : Code := { maxStack := 4, maxLocals := 3, code := prog_58_method_9_code, exceptionTable := #[], attributes := #[] }
def k2m3 : Method := { name := "find", desc := "([JI)I", sig := { parameters := [(.array .long), .int], returnType := some .int }, accessFlags := 10, code := some k2c3 }
/-- com/example/chartlight/chartlight/label/WeightRows -/
def k2 : Class := { plain "com/example/chartlight/chartlight/label/WeightRows" (some 0) with
  accessFlags := 48
  interfaces := #[]
  cf := some (fileOf pool2 10 #[] #[{ accessFlags := 0, nameIndex := 5, descriptorIndex := 53, attributes := #[] }, { accessFlags := 0, nameIndex := 65, descriptorIndex := 66, attributes := #[] }, { accessFlags := 0, nameIndex := 67, descriptorIndex := 68, attributes := #[] }, { accessFlags := 10, nameIndex := 41, descriptorIndex := 42, attributes := #[] }] 48 2 #[] #[{ accessFlags := 26, nameIndex := 17, descriptorIndex := 8, attributes := #[] }, { accessFlags := 2, nameIndex := 13, descriptorIndex := 14, attributes := #[] }, { accessFlags := 2, nameIndex := 26, descriptorIndex := 27, attributes := #[] }])
  fields := #[{ name := "NONE", type := (.array .long), accessFlags := 26, slot := 0, constantValue := 0 }, { name := "_rows", type := (.array (.array .long)), accessFlags := 2, slot := 0, constantValue := 0 }, { name := "_size", type := .int, accessFlags := 2, slot := 1, constantValue := 0 }]
  methods := #[k2m0, k2m1, k2m2, k2m3]
  instanceTypes := #[(.array (.array .long)), .int]
  staticTypes := #[(.array .long)]
  resolved := Array.replicate 72 none
  statics := some 0 }

def pool3 : Array CpInfo := pool [(2, .class_ 4), (1, u "java/lang/Object"), (0, u "<init>"), (0, u "()V"), (7, .class_ 16), (1, u "java/util/Arrays"), (57, .class_ 76), (1, u "java/util/Arrays$NaturalOrder"), (36, .class_ 115), (1, u "java/util/Arrays$LegacyMergeSort"), (1, u "Z"), (257, .class_ 376), (0, u "java/util/Arrays$ArrayList"), (68, u "$assertionsDisabled"), (269, u "MIN_ARRAY_SORT_GRAN"), (0, u "I"), (2, u "INSERTIONSORT_THRESHOLD"), (120, u "fill"), (17, u "([Ljava/lang/Object;Ljava/lang/Object;)V"), (116, .class_ 976), (0, u "java/util/Arrays$ArrayItr")] 52

def k3m0 : Method := { name := "<init>", desc := "()V", sig := { parameters := [], returnType := none }, accessFlags := 2, code := none }
def k3c1 : Code := { maxStack := 3, maxLocals := 4, code := jdk_65_method_117_code, exceptionTable := #[], attributes := #[] }
def k3m1 : Method := { name := "fill", desc := "([Ljava/lang/Object;Ljava/lang/Object;)V", sig := { parameters := [(.array (.object "java/lang/Object")), (.object "java/lang/Object")], returnType := none }, accessFlags := 9, code := some k3c1 }
/-- java/util/Arrays -/
def k3 : Class := { plain "java/util/Arrays" (some 0) with
  accessFlags := 49
  interfaces := #[]
  cf := some (fileOf pool3 14 #[.nestMembers #[975, 375, 113, 74]] #[{ accessFlags := 2, nameIndex := 5, descriptorIndex := 6, attributes := #[] }, { accessFlags := 9, nameIndex := 840, descriptorIndex := 858, attributes := #[] }] 49 2 #[] #[{ accessFlags := 26, nameIndex := 715, descriptorIndex := 716, attributes := #[] }, { accessFlags := 26, nameIndex := 719, descriptorIndex := 716, attributes := #[] }, { accessFlags := 4120, nameIndex := 445, descriptorIndex := 117, attributes := #[] }])
  fields := #[{ name := "MIN_ARRAY_SORT_GRAN", type := .int, accessFlags := 26, slot := 0, constantValue := 0 }, { name := "INSERTIONSORT_THRESHOLD", type := .int, accessFlags := 26, slot := 1, constantValue := 0 }, { name := "$assertionsDisabled", type := .boolean, accessFlags := 4120, slot := 2, constantValue := 0 }]
  methods := #[k3m0, k3m1]
  instanceTypes := #[]
  staticTypes := #[.int, .int, .boolean]
  resolved := Array.replicate 1029 none
  statics := none }

def pool4 : Array CpInfo := pool [(2, .class_ 4), (1, u "java/lang/Object"), (0, u "<init>"), (0, u "()V"), (1, .class_ 10), (1, u "java/lang/System"), (0, u "allowSecurityManager"), (0, u "I"), (16, u "cons"), (0, u "Ljava/io/Console;"), (77, .class_ 110), (1, u "java/lang/System$CallersHolder"), (43, u "initialErrStream"), (0, u "Ljava/io/PrintStream;"), (19, u "security"), (0, u "Ljava/lang/SecurityManager;"), (31, .class_ 209), (0, u "java/lang/System$1"), (7, u "props"), (0, u "Ljava/util/Properties;"), (2, u "lineSeparator"), (0, u "Ljava/lang/String;"), (96, .class_ 321), (1, u "java/lang/System$LoggerFinder"), (5, .class_ 328), (0, u "java/lang/System$Logger"), (67, u "err"), (2, u "out"), (91, u "notSupportedJnuEncoding"), (15, u "in"), (17, u "initialIn"), (0, u "Ljava/io/InputStream;"), (35, u "bootLayer"), (0, u "Ljava/lang/ModuleLayer;"), (99, .class_ 664), (0, u "java/lang/System$2"), (9, u "NEVER"), (2, u "MAYBE"), (49, u "arraycopy"), (0, u "(Ljava/lang/Object;ILjava/lang/Object;II)V"), (72, .class_ 802), (0, u "java/lang/System$Logger$Level")] 31

def k4m0 : Method := { name := "<init>", desc := "()V", sig := { parameters := [], returnType := none }, accessFlags := 2, code := none }
def k4m1 : Method := { name := "arraycopy", desc := "(Ljava/lang/Object;ILjava/lang/Object;II)V", sig := { parameters := [(.object "java/lang/Object"), .int, (.object "java/lang/Object"), .int, .int], returnType := none }, accessFlags := 265, code := none }
/-- java/lang/System -/
def k4 : Class := { plain "java/lang/System" (some 0) with
  accessFlags := 49
  interfaces := #[]
  cf := some (fileOf pool4 8 #[.nestMembers #[319, 327, 801, 108, 663, 208]] #[{ accessFlags := 2, nameIndex := 5, descriptorIndex := 6, attributes := #[] }, { accessFlags := 265, nameIndex := 727, descriptorIndex := 728, attributes := #[] }] 49 2 #[] #[{ accessFlags := 25, nameIndex := 507, descriptorIndex := 526, attributes := #[] }, { accessFlags := 25, nameIndex := 399, descriptorIndex := 155, attributes := #[] }, { accessFlags := 25, nameIndex := 396, descriptorIndex := 155, attributes := #[] }, { accessFlags := 10, nameIndex := 525, descriptorIndex := 526, attributes := #[] }, { accessFlags := 26, nameIndex := 674, descriptorIndex := 12, attributes := #[] }, { accessFlags := 26, nameIndex := 677, descriptorIndex := 12, attributes := #[] }, { accessFlags := 10, nameIndex := 11, descriptorIndex := 12, attributes := #[] }, { accessFlags := 74, nameIndex := 175, descriptorIndex := 176, attributes := #[] }, { accessFlags := 10, nameIndex := 491, descriptorIndex := 222, attributes := #[] }, { accessFlags := 74, nameIndex := 29, descriptorIndex := 30, attributes := #[] }, { accessFlags := 74, nameIndex := 154, descriptorIndex := 155, attributes := #[] }, { accessFlags := 10, nameIndex := 217, descriptorIndex := 218, attributes := #[] }, { accessFlags := 10, nameIndex := 221, descriptorIndex := 222, attributes := #[] }, { accessFlags := 8, nameIndex := 562, descriptorIndex := 563, attributes := #[] }])
  fields := #[{ name := "in", type := (.object "java/io/InputStream"), accessFlags := 25, slot := 0, constantValue := 0 }, { name := "out", type := (.object "java/io/PrintStream"), accessFlags := 25, slot := 1, constantValue := 0 }, { name := "err", type := (.object "java/io/PrintStream"), accessFlags := 25, slot := 2, constantValue := 0 }, { name := "initialIn", type := (.object "java/io/InputStream"), accessFlags := 10, slot := 3, constantValue := 0 }, { name := "NEVER", type := .int, accessFlags := 26, slot := 4, constantValue := 0 }, { name := "MAYBE", type := .int, accessFlags := 26, slot := 5, constantValue := 0 }, { name := "allowSecurityManager", type := .int, accessFlags := 10, slot := 6, constantValue := 0 }, { name := "security", type := (.object "java/lang/SecurityManager"), accessFlags := 74, slot := 7, constantValue := 0 }, { name := "notSupportedJnuEncoding", type := (.object "java/lang/String"), accessFlags := 10, slot := 8, constantValue := 0 }, { name := "cons", type := (.object "java/io/Console"), accessFlags := 74, slot := 9, constantValue := 0 }, { name := "initialErrStream", type := (.object "java/io/PrintStream"), accessFlags := 74, slot := 10, constantValue := 0 }, { name := "props", type := (.object "java/util/Properties"), accessFlags := 10, slot := 11, constantValue := 0 }, { name := "lineSeparator", type := (.object "java/lang/String"), accessFlags := 10, slot := 12, constantValue := 0 }, { name := "bootLayer", type := (.object "java/lang/ModuleLayer"), accessFlags := 8, slot := 13, constantValue := 0 }]
  methods := #[k4m0, k4m1]
  instanceTypes := #[]
  staticTypes := #[(.object "java/io/InputStream"), (.object "java/io/PrintStream"), (.object "java/io/PrintStream"), (.object "java/io/InputStream"), .int, .int, .int, (.object "java/lang/SecurityManager"), (.object "java/lang/String"), (.object "java/io/Console"), (.object "java/io/PrintStream"), (.object "java/util/Properties"), (.object "java/lang/String"), (.object "java/lang/ModuleLayer")]
  resolved := Array.replicate 834 none
  statics := none }

def pool5 : Array CpInfo := pool [(1, u "java/lang/Cloneable"), (0, .class_ 1), (0, u "java/lang/Object"), (0, .class_ 3)] 3

/-- java/lang/Cloneable -/
def k5 : Class := { plain "java/lang/Cloneable" (some 0) with
  accessFlags := 1537
  interfaces := #[]
  cf := some (fileOf pool5 2 #[] #[] 1537 4 #[] #[])
  fields := #[]
  methods := #[]
  instanceTypes := #[]
  staticTypes := #[]
  resolved := Array.replicate 8 none
  statics := none }

def pool6 : Array CpInfo := pool [(1, u "java/io/Serializable"), (0, .class_ 1), (0, u "java/lang/Object"), (0, .class_ 3)] 3

/-- java/io/Serializable -/
def k6 : Class := { plain "java/io/Serializable" (some 0) with
  accessFlags := 1537
  interfaces := #[]
  cf := some (fileOf pool6 2 #[] #[] 1537 4 #[] #[])
  fields := #[]
  methods := #[]
  instanceTypes := #[]
  staticTypes := #[]
  resolved := Array.replicate 8 none
  statics := none }

/-- the primitive byte -/
def k7 : Class := { plain "byte" none with kind := .primitive 'B', accessFlags := 0x411 }
/-- [B -/
def k8 : Class := { plain "[B" (some 0) with kind := .array 7 .byte, interfaces := #[5, 6], accessFlags := 1041 }

/-- the primitive double -/
def k9 : Class := { plain "double" none with kind := .primitive 'D', accessFlags := 0x411 }
/-- [D -/
def k10 : Class := { plain "[D" (some 0) with kind := .array 9 .double, interfaces := #[5, 6], accessFlags := 1041 }

/-- the primitive int -/
def k11 : Class := { plain "int" none with kind := .primitive 'I', accessFlags := 0x411 }
/-- [I -/
def k12 : Class := { plain "[I" (some 0) with kind := .array 11 .int, interfaces := #[5, 6], accessFlags := 1041 }

/-- the primitive long -/
def k13 : Class := { plain "long" none with kind := .primitive 'J', accessFlags := 0x411 }
/-- [J -/
def k14 : Class := { plain "[J" (some 0) with kind := .array 13 .long, interfaces := #[5, 6], accessFlags := 1041 }

def k15 : Class := { plain "[[J" (some 0) with kind := .array 14 (.array .long), interfaces := #[5, 6], accessFlags := 1041 }
def heap : Heap := #[{ cls := 2, slots := #[.ref 1], vm := .statics 2 },
  { cls := 14, slots := #[], vm := .none }]
def classes : Array Class := #[k0, k1, k2, k3, k4, k5, k6, k7, k8, k9, k10, k11, k12, k13, k14, k15]
def interned : List (Array UInt16 × Addr) := []
def slotsUsed : Nat := 1
def theMethod : MethodId := ⟨1, 1⟩
def args0 : Array Value := #[.long 1, .long 2, .long 3, .long 4, .int 31, .int 5]
def aboutOver (below : List Frame) : State where
  vm := { classes := classes, interned := interned.toArray }
  heap := heap
  slotsUsed := slotsUsed
  threads := #[{ frames := .invoking theMethod args0 :: below }]
def below0 : List Frame := [.native { method := ⟨0, 0⟩, args := #[] }]
def about1 : State := aboutOver below0
def p0 : Program := .bare "" "" ""
def e0 : Env := launch0.env 0 0 0
theorem w_frames : about1.frames = Frame.invoking theMethod args0 :: below0 := rfl
set_option maxRecDepth 65536 in
theorem w_args : argsFit about1.vm theMethod args0 = true := by decide +kernel
set_option maxRecDepth 65536 in
theorem w_heap : heapFits about1 = true := by decide +kernel
set_option maxRecDepth 65536 in
theorem w_runnable : about1.curStatus? = some .runnable := by decide +kernel
set_option maxRecDepth 65536 in
theorem w_alone : about1.alone = true := by decide +kernel
set_option maxRecDepth 65536 in
theorem w_named : about1.methodNamed? x = some theMethod := by decide +kernel
set_option maxRecDepth 65536 in
theorem w_hears : about1.hears theMethod below0 = true := by decide +kernel
set_option maxRecDepth 65536 in
theorem w_ripe : about1.ripe theMethod args0 below0 = true := by decide +kernel
theorem w_running : about1.status = .running := rfl
set_option maxRecDepth 65536 in
theorem w_room : about1.hasRoom e0.platform room_1 = true :=
  launch0.hasRoom_least _ room_1 (by decide +kernel) (by decide +kernel) (by decide +kernel) (by decide +kernel) (by decide +kernel) (by decide +kernel)
theorem allAtoms_all (ts : List Jvm.Cond) (a : Array Jvm.Value) (st : Jvm.State) : (allAtoms ts).before a st = ts.all (fun c => c.before a st) := by
  induction ts with
  | nil => rfl
  | cons c t ih =>
    show (Jvm.Cond.and c (allAtoms t)).before a st = _
    rw [Jvm.Cond.before_and, ih, List.all_cons]
def words1 : List Jvm.Cond := Jvm.Cond.code x code maxLocals ret :: tables_1
/-- a 'code' word, met by the world's own term for the bytes: nothing is compared byte by byte -/
theorem code_word {y : MethodName} {bytes : ByteArray} {mx : Nat} {rt : Option FieldType} {a : Array Value} {s : State} {m : MethodId} {meth : Method} {c : Code} (h1 : s.methodNamed? y = some m) (h2 : s.vm.method? m = some meth) (h3 : meth.code = some c) (h4 : c.code = bytes)
    (h5 : (c.maxLocals == mx && c.exceptionTable.isEmpty && decide (c.maxStack ≤ mostOperands) && decide (meth.sig.returnType = rt) && !meth.locks && decide (parseMethodDescriptor y.desc = some meth.sig)) = true) : (Jvm.Cond.code y bytes mx rt).before a s = true := by
  simp only [Bool.and_eq_true, beq_iff_eq, Bool.not_eq_true', decide_eq_true_eq] at h5
  obtain ⟨⟨⟨⟨⟨g1, g2⟩, g3⟩, g4⟩, g5⟩, g6⟩ := h5
  simp [Cond.before, Cond.holds, Cond.value, h1, h2, h3, h4, g1, g2, g3, g4, g5, g6]
def isCode : Jvm.Cond → Bool
  | .code _ _ _ _ => true
  | _ => false
theorem all_split {L : List Jvm.Cond} {P : Jvm.Cond → Bool} (h1 : L.all (fun c => isCode c || P c) = true) (h2 : ∀ c ∈ L.filter isCode, P c = true) : L.all P = true := by
  refine List.all_eq_true.mpr fun c hc => ?_
  have h := List.all_eq_true.mp h1 c hc
  rcases Bool.eq_false_or_eq_true (isCode c) with hi | hi
  · exact h2 c (List.mem_filter.mpr ⟨hc, hi⟩)
  · simpa [hi] using h
set_option maxRecDepth 65536 in
theorem w_c0 : (Jvm.Cond.code x code maxLocals ret).before args0 about1 = true := code_word (m := ⟨1, 1⟩) (meth := k1m1) (c := k1c1) (by decide +kernel) rfl rfl rfl (by decide +kernel)
set_option maxRecDepth 65536 in
theorem w_c1 : (Jvm.Cond.code ({ cls := "com/example/chartlight/chartlight/label/WeightRows", name := "<init>", desc := "(I)V" } : Jvm.MethodName) prog_58_method_1_code (2 : Nat) (Option.none : Option Jvm.ClassFile.FieldType)).before args0 about1 = true := code_word (m := ⟨2, 0⟩) (meth := k2m0) (c := k2c0) (by decide +kernel) rfl rfl rfl (by decide +kernel)
set_option maxRecDepth 65536 in
theorem w_c2 : (Jvm.Cond.code ({ cls := "java/lang/Object", name := "<init>", desc := "()V" } : Jvm.MethodName) object_method_1_code (1 : Nat) (Option.none : Option Jvm.ClassFile.FieldType)).before args0 about1 = true := code_word (m := ⟨0, 0⟩) (meth := k0m0) (c := k0c0) (by decide +kernel) rfl rfl rfl (by decide +kernel)
set_option maxRecDepth 65536 in
theorem w_c3 : (Jvm.Cond.code ({ cls := "java/util/Arrays", name := "fill", desc := "([Ljava/lang/Object;Ljava/lang/Object;)V" } : Jvm.MethodName) jdk_65_method_117_code (4 : Nat) (Option.none : Option Jvm.ClassFile.FieldType)).before args0 about1 = true := code_word (m := ⟨3, 1⟩) (meth := k3m1) (c := k3c1) (by decide +kernel) rfl rfl rfl (by decide +kernel)
set_option maxRecDepth 65536 in
theorem w_c4 : (Jvm.Cond.code ({ cls := "com/example/chartlight/chartlight/label/WeightRows", name := "add", desc := "(IIJ)V" } : Jvm.MethodName) prog_58_method_7_code (9 : Nat) (Option.none : Option Jvm.ClassFile.FieldType)).before args0 about1 = true := code_word (m := ⟨2, 1⟩) (meth := k2m1) (c := k2c1) (by decide +kernel) rfl rfl rfl (by decide +kernel)
set_option maxRecDepth 65536 in
theorem w_c5 : (Jvm.Cond.code ({ cls := "com/example/chartlight/chartlight/label/WeightRows", name := "find", desc := "([JI)I" } : Jvm.MethodName) prog_58_method_9_code (3 : Nat) (Option.some Jvm.ClassFile.FieldType.int)).before args0 about1 = true := code_word (m := ⟨2, 3⟩) (meth := k2m3) (c := k2c3) (by decide +kernel) rfl rfl rfl (by decide +kernel)
set_option maxRecDepth 65536 in
theorem w_c6 : (Jvm.Cond.code ({ cls := "com/example/chartlight/chartlight/label/WeightRowsAddToPinLaw", name := "base", desc := "(II)D" } : Jvm.MethodName) method_3_code (2 : Nat) (Option.some Jvm.ClassFile.FieldType.double)).before args0 about1 = true := code_word (m := ⟨1, 2⟩) (meth := k1m2) (c := k1c2) (by decide +kernel) rfl rfl rfl (by decide +kernel)
set_option maxRecDepth 65536 in
theorem w_c7 : (Jvm.Cond.code ({ cls := "com/example/chartlight/chartlight/label/WeightRows", name := "addTo", desc := "(I[D)V" } : Jvm.MethodName) prog_58_method_8_code (5 : Nat) (Option.none : Option Jvm.ClassFile.FieldType)).before args0 about1 = true := code_word (m := ⟨2, 2⟩) (meth := k2m2) (c := k2c2) (by decide +kernel) rfl rfl rfl (by decide +kernel)
set_option maxRecDepth 65536 in
theorem w_c8 : (Jvm.Cond.code ({ cls := "com/example/chartlight/chartlight/label/WeightRowsAddToPinLaw", name := "expect", desc := "(IIZJ)D" } : Jvm.MethodName) method_4_code (7 : Nat) (Option.some Jvm.ClassFile.FieldType.double)).before args0 about1 = true := code_word (m := ⟨1, 3⟩) (meth := k1m3) (c := k1c3) (by decide +kernel) rfl rfl rfl (by decide +kernel)
def codes1 : List Jvm.Cond := [Jvm.Cond.code x code maxLocals ret, Jvm.Cond.code ({ cls := "com/example/chartlight/chartlight/label/WeightRows", name := "<init>", desc := "(I)V" } : Jvm.MethodName) prog_58_method_1_code (2 : Nat) (Option.none : Option Jvm.ClassFile.FieldType), Jvm.Cond.code ({ cls := "java/lang/Object", name := "<init>", desc := "()V" } : Jvm.MethodName) object_method_1_code (1 : Nat) (Option.none : Option Jvm.ClassFile.FieldType), Jvm.Cond.code ({ cls := "java/util/Arrays", name := "fill", desc := "([Ljava/lang/Object;Ljava/lang/Object;)V" } : Jvm.MethodName) jdk_65_method_117_code (4 : Nat) (Option.none : Option Jvm.ClassFile.FieldType), Jvm.Cond.code ({ cls := "com/example/chartlight/chartlight/label/WeightRows", name := "add", desc := "(IIJ)V" } : Jvm.MethodName) prog_58_method_7_code (9 : Nat) (Option.none : Option Jvm.ClassFile.FieldType), Jvm.Cond.code ({ cls := "com/example/chartlight/chartlight/label/WeightRows", name := "find", desc := "([JI)I" } : Jvm.MethodName) prog_58_method_9_code (3 : Nat) (Option.some Jvm.ClassFile.FieldType.int), Jvm.Cond.code ({ cls := "com/example/chartlight/chartlight/label/WeightRowsAddToPinLaw", name := "base", desc := "(II)D" } : Jvm.MethodName) method_3_code (2 : Nat) (Option.some Jvm.ClassFile.FieldType.double), Jvm.Cond.code ({ cls := "com/example/chartlight/chartlight/label/WeightRows", name := "addTo", desc := "(I[D)V" } : Jvm.MethodName) prog_58_method_8_code (5 : Nat) (Option.none : Option Jvm.ClassFile.FieldType), Jvm.Cond.code ({ cls := "com/example/chartlight/chartlight/label/WeightRowsAddToPinLaw", name := "expect", desc := "(IIZJ)D" } : Jvm.MethodName) method_4_code (7 : Nat) (Option.some Jvm.ClassFile.FieldType.double)]
set_option maxRecDepth 65536 in
theorem codes_eq : words1.filter isCode = codes1 := rfl
theorem w_codes : ∀ c ∈ words1.filter isCode, c.before args0 about1 = true := by
  rw [codes_eq]
  intro c hc
  simp only [codes1, List.mem_cons, List.not_mem_nil, or_false] at hc
  rcases hc with rfl | rfl | rfl | rfl | rfl | rfl | rfl | rfl | rfl
  · exact w_c0
  · exact w_c1
  · exact w_c2
  · exact w_c3
  · exact w_c4
  · exact w_c5
  · exact w_c6
  · exact w_c7
  · exact w_c8
set_option maxRecDepth 65536 in
theorem w_t1 : (words1.take 24).all (fun c => isCode c || c.before args0 about1) = true := by decide +kernel
set_option maxRecDepth 65536 in
theorem w_t2 : ((words1.drop 24).take 24).all (fun c => isCode c || c.before args0 about1) = true := by decide +kernel
set_option maxRecDepth 65536 in
theorem w_t3 : ((words1.drop 24).drop 24).all (fun c => isCode c || c.before args0 about1) = true := by decide +kernel
theorem w_tables : (allAtoms (Jvm.Cond.code x code maxLocals ret :: tables_1)).before args0 about1 = true := by
  rw [allAtoms_all]
  show words1.all (fun c => c.before args0 about1) = true
  refine all_split ?_ w_codes
  rw [← List.take_append_drop 24 words1, List.all_append, w_t1, ← List.take_append_drop 24 (words1.drop 24), List.all_append, w_t2, w_t3]
  rfl
set_option maxRecDepth 65536 in
theorem w_case : (Jvm.Cond.and given_1 narrow_1).before args0 about1 = true := by decide +kernel
theorem w_applies : (headSpec (Jvm.Cond.code x code maxLocals ret :: tables_1) room_1).applies x e0.platform about1 = true :=
  (Spec.applies_iff w_frames).mpr ⟨w_running, w_runnable, w_alone, w_named, w_hears, w_ripe, w_room, w_tables⟩
theorem atStart : AtStart classFile x code maxLocals ret World_1 tables_1 room_1 Calls_1 rest_1 Pre_1 launch0 p0 e0 about1 theMethod args0 below0 :=
  ⟨lists_1, trivial, launch0.admits_env _ _ _, launch0.least_env, fairChoices_fair.cas, fairChoices_fair.clock, w_frames, w_args, w_heap, w_applies, trivial, trivial, w_case⟩
end start1
theorem witness_1 : WitnessClaimed_1 := ⟨start1.p0, start1.e0, start1.about1, start1.theMethod, start1.args0, start1.below0, start1.atStart⟩
end Jvm.Pilot.@@N@@
