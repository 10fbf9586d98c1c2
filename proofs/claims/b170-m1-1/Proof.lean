import JvmDerived
import JvmDerived.Pilot.@@N@@Statement
import JvmDerived.Pilot.@@N@@Code
set_option linter.unusedVariables false
set_option linter.unusedSimpArgs false
namespace Jvm.RoadKit
open Sem ClassFile Op Lib Jvm.Stand Jvm.Free Jvm.LawKit
section New
variable {p : Program} {l : Launch} {e : Env} {R : Room} {s : State} {m : MethodId} {args : Array Value} {below : List Frame} {meth : Method} {c : Code} {T : State} {locs : List Loc} {cells slots : Nat}
/-- what a body hands back: the value r, and K of the heap and the places at its end -/
def own_Q (r : Option Value) (K : Heap → List Loc → Prop) (v : Option Value) (h : Heap) (L : List Loc) : Prop := v = r ∧ K h L
/-- nothing is written, nothing is made -/
def own_K0 (h0 : Heap) (h : Heap) (L : List Loc) : Prop := L = [] ∧ h = h0
/-- from F on the run returns r with K -/
def own_Go (p : Program) (e : Env) (below : List Frame) (s : State) (C N : Nat) (r : Option Value) (K : Heap → List Loc → Prop) (F : State) : Prop :=
  ∃ s₂ o, Steps p.tables e below F s₂ ∧ s₂.status = .running ∧ Ended s₂ below o ∧ ∃ v L, o = .returned v ∧ own_Q r K v s₂.heap L ∧ FrameEnd s o s₂ L C N
theorem own_pre {C N : Nat} {r : Option Value} {K : Heap → List Loc → Prop} {F F' : State} (h : ∀ t, Steps p.tables e below F' t → Steps p.tables e below F t) (g : own_Go p e below s C N r K F') : own_Go p e below s C N r K F := by
  obtain ⟨t, o, a, b⟩ := g
  exact ⟨t, o, h t a, b⟩
theorem own_iteI {C N : Nat} {K : Heap → List Loc → Prop} {F : State} {P : Prop} [Decidable P] {a b : Int32} (h1 : P → own_Go p e below s C N (some (.int a)) K F) (h2 : ¬ P → own_Go p e below s C N (some (.int b)) K F) : own_Go p e below s C N (some (.int (if P then a else b))) K F := by
  by_cases q : P
  · rw [if_pos q]; exact h1 q
  · rw [if_neg q]; exact h2 q
theorem own_iteJ {C N : Nat} {K : Heap → List Loc → Prop} {F : State} {P : Prop} [Decidable P] {a b : Int64} (h1 : P → own_Go p e below s C N (some (.long a)) K F) (h2 : ¬ P → own_Go p e below s C N (some (.long b)) K F) : own_Go p e below s C N (some (.long (if P then a else b))) K F := by
  by_cases q : P
  · rw [if_pos q]; exact h1 q
  · rw [if_neg q]; exact h2 q
theorem own_iteR {C N : Nat} {K : Heap → List Loc → Prop} {F : State} {P : Prop} [Decidable P] {a b : Addr} (h1 : P → own_Go p e below s C N (some (.ref a)) K F) (h2 : ¬ P → own_Go p e below s C N (some (.ref b)) K F) : own_Go p e below s C N (some (.ref (if P then a else b))) K F := by
  by_cases q : P
  · rw [if_pos q]; exact h1 q
  · rw [if_neg q]; exact h2 q
theorem own_iteV {C N : Nat} {K : Heap → List Loc → Prop} {F : State} {P : Prop} [Decidable P] {a b : Value} (h1 : P → own_Go p e below s C N (some a) K F) (h2 : ¬ P → own_Go p e below s C N (some b) K F) : own_Go p e below s C N (some (if P then a else b)) K F := by
  by_cases q : P
  · rw [if_pos q]; exact h1 q
  · rw [if_neg q]; exact h2 q
theorem own_ret (X : Stand p l e R s m args below meth c T locs cells slots) (hx : p.tables.exec = Jvm.exec) (hlocks : meth.locks = false) {pc : Nat} {Ls : Array Slot} {w : Value} {t : FieldType} {i : Instr} {rest : List Value} {C N : Nat} {K : Heap → List Loc → Prop} (hret : meth.sig.returnType = some t) (hn : narrow t w = w)
    (hi : (i = .ireturn ∧ (t = .int ∨ t = .boolean ∨ t = .byte ∨ t = .char ∨ t = .short) ∧ ∃ z, w = .int z) ∨ (i = .lreturn ∧ t = .long ∧ ∃ z, w = .long z) ∨ (i = .areturn ∧ t.isReference = true ∧ w.isRef = true))
    (hd : decode c.code pc = .ok (i, 1)) (hK : K T.heap locs) (hC : cells ≤ C) (hN : slots ≤ N) : own_Go p e below s C N (some w) K (T.setTop (mkF m pc Ls (w :: rest))) := by
  obtain ⟨fs, hr, hrun, hended, hW, hsame⟩ := X.leave (v := some w) (fun h => by rw [hret] at h; cases h)
  refine ⟨_, _, retOut X hx hret hn ?_ hd hr, hrun, hended, _, _, rfl, ⟨rfl, hK⟩, ⟨_, rfl⟩, hW, hsame.mono hC hN⟩
  rcases hi with h | h | h
  · exact Or.inl h
  · exact Or.inr (Or.inl h)
  · exact Or.inr (Or.inr (Or.inr (Or.inr h)))
theorem own_retN (X : Stand p l e R s m args below meth c T locs cells slots) (hx : p.tables.exec = Jvm.exec) (hlocks : meth.locks = false) {pc : Nat} {Ls : Array Slot} {z : Int32} {t : FieldType} {rest : List Value} {C N : Nat} {K : Heap → List Loc → Prop} (hret : meth.sig.returnType = some t) (ht : t = .boolean ∨ t = .byte ∨ t = .char ∨ t = .short)
    (hd : decode c.code pc = .ok (.ireturn, 1)) (hK : K T.heap locs) (hC : cells ≤ C) (hN : slots ≤ N) : own_Go p e below s C N (some (.int (nar t z))) K (T.setTop (mkF m pc Ls (.int z :: rest))) := by
  obtain ⟨fs, hr, hrun, hended, hW, hsame⟩ := X.leave (v := some (.int (nar t z))) (fun h => by rw [hret] at h; cases h)
  exact ⟨_, _, retN X hx hret ht hd hr, hrun, hended, _, _, rfl, ⟨rfl, hK⟩, ⟨_, rfl⟩, hW, hsame.mono hC hN⟩
theorem own_retV (X : Stand p l e R s m args below meth c T locs cells slots) (hx : p.tables.exec = Jvm.exec) (hlocks : meth.locks = false) {pc : Nat} {Ls : Array Slot} {C N : Nat} {K : Heap → List Loc → Prop} (hret : meth.sig.returnType = none)
    (hd : decode c.code pc = .ok (.return_, 1)) (hK : K T.heap locs) (hC : cells ≤ C) (hN : slots ≤ N) : own_Go p e below s C N none K (T.setTop (mkF m pc Ls [])) := by
  obtain ⟨fs, hr, hrun, hended, hW, hsame⟩ := X.leave (v := none) (fun _ => rfl)
  exact ⟨_, _, X.returnOut hx hret hd hr, hrun, hended, _, _, rfl, ⟨rfl, hK⟩, ⟨_, rfl⟩, hW, hsame.mono hC hN⟩
theorem own_lremM {g : JFrame} {target : State} (X : Stand p l e R s m args below meth c T locs cells slots) (hx : p.tables.exec = Jvm.exec) (hg : g.method = m) {x y : Int64} {rest : List Value} (hd : decode c.code g.pc = .ok (.lrem, 1)) (hs : g.stack = .long y :: .long x :: rest) (hy : y ≠ 0)
    (hr : Steps p.tables e below (T.setTop { g with pc := g.pc + 1, stack := .long (x % y) :: rest }) target) : Steps p.tables e below (T.setTop g) target :=
  XS.lrem X.here hx hg hd hs hy (by rw [lrem_mod]; exact hr)
theorem own_nar (z : Int32) : nar .boolean z = z &&& 1 := rfl
end New
end Jvm.RoadKit
namespace Jvm.Pilot.@@N@@
open Jvm Jvm.ClassFile Sem Op Lib Jvm.Free Jvm.Stand Jvm.LawKit Jvm.RoadKit Bundle Jvm.Pilot.@@N@@.Jvm.D
/-! body 1 -/
theorem d1_0 : decode jdk_29_method_65_code 0 = .ok (.iload_n 0, 1) := by decide +kernel
theorem d1_1 : decode jdk_29_method_65_code 1 = .ok (.iload_n 1, 1) := by decide +kernel
theorem d1_2 : decode jdk_29_method_65_code 2 = .ok (.if_icmp .lt 7, 3) := by decide +kernel
theorem d1_5 : decode jdk_29_method_65_code 5 = .ok (.iload_n 0, 1) := by decide +kernel
theorem d1_6 : decode jdk_29_method_65_code 6 = .ok (.goto 4, 3) := by decide +kernel
theorem d1_9 : decode jdk_29_method_65_code 9 = .ok (.iload_n 1, 1) := by decide +kernel
theorem d1_10 : decode jdk_29_method_65_code 10 = .ok (.ireturn, 1) := by decide +kernel
def f1_0 (p0 : Int32) (p1 : Int32) : Int32 := (if p0 < p1 then p1 else p0)
set_option maxRecDepth 65536 in
set_option maxHeartbeats 40000000 in
theorem g1_0 {p : Program} {l : Launch} {e : Env} {s : State} {m : MethodId} {below : List Frame} {meth : Method} {c : Code} {s₁ : State} {ws : List Jvm.Cond} {Z : State} {aw : Array Value} (hw : ∀ d ∈ tables_1, d.before aw Z = true) {h0 : Heap} (p0 : Int32) (p1 : Int32)
    (Bd : BodyLoose p l (⟨"java/lang/Math", "max", "(II)I"⟩ : MethodName) (head1 (Jvm.Cond.code (⟨"java/lang/Math", "max", "(II)I"⟩ : MethodName) jdk_29_method_65_code 2 (some .int) :: ws) ({ frames := 0, cells := 0, slots := 0, locals := 0 } : Room)) jdk_29_method_65_code 2 (some .int) e s m #[(.int p0), (.int p1)] below meth c s₁) (hml : c.maxLocals = 2) (hZ : Z.Warmed39 s.vm) (T0 : State) (X0 : Stand p l e ({ frames := 0, cells := 0, slots := 0, locals := 0 } : Room) s m #[(.int p0), (.int p1)] below meth c T0 [] 0 0) (e0 : T0.heap = h0) :
    own_Go p e below s ({ frames := 0, cells := 0, slots := 0, locals := 0 } : Room).cells ({ frames := 0, cells := 0, slots := 0, locals := 0 } : Room).slots (some (.int (f1_0 p0 p1))) (own_K0 h0) (T0.setTop (mkF m 0 #[.val (.int p0), .val (.int p1)] [])) := by
  have hx := Bd.exec
  have hby := Bd.bytes
  have hown : s.vm.findClass "java/lang/Math" = some m.cls := findClass_of_methodNamed Bd.named
  unfold f1_0
  refine own_pre (F' := T0.setTop (mkF m 1 #[.val (.int p0), .val (.int p1)] [(.int p0)])) (fun _ k => XS.iloadN X0.here hx rfl (hb hby d1_0) rfl k) ?_
  refine own_pre (F' := T0.setTop (mkF m 2 #[.val (.int p0), .val (.int p1)] [(.int p1), (.int p0)])) (fun _ k => XS.iloadN X0.here hx rfl (hb hby d1_1) rfl k) ?_
  refine own_iteI (fun hc2 => ?_) (fun hc2 => ?_)
  · skip
    refine own_pre (F' := T0.setTop (mkF m 9 #[.val (.int p0), .val (.int p1)] [])) (fun _ k => XS.icmpYes X0.here hx rfl (pc0 := 2) (pc' := 9) rfl (hb hby d1_2) rfl (tlt hc2).1 (by decide) (by decide) k) ?_
    refine own_pre (F' := T0.setTop (mkF m 10 #[.val (.int p0), .val (.int p1)] [(.int p1)])) (fun _ k => XS.iloadN X0.here hx rfl (hb hby d1_9) rfl k) ?_
    exact own_ret X0 hx Bd.notSynchronized Bd.returns rfl (Or.inl ⟨rfl, by simp, _, rfl⟩) (hb hby d1_10) ⟨rfl, e0⟩ (by decide) (by decide)
  · skip
    refine own_pre (F' := T0.setTop (mkF m 5 #[.val (.int p0), .val (.int p1)] [])) (fun _ k => XS.icmpNo X0.here hx rfl (hb hby d1_2) rfl (flt hc2).1 k) ?_
    refine own_pre (F' := T0.setTop (mkF m 6 #[.val (.int p0), .val (.int p1)] [(.int p0)])) (fun _ k => XS.iloadN X0.here hx rfl (hb hby d1_5) rfl k) ?_
    refine own_pre (F' := T0.setTop (mkF m 10 #[.val (.int p0), .val (.int p1)] [(.int p0)])) (fun _ k => XS.goto X0.here hx rfl (pc0 := 6) (pc' := 10) rfl (hb hby d1_6) (by decide) (by decide) k) ?_
    exact own_ret X0 hx Bd.notSynchronized Bd.returns rfl (Or.inl ⟨rfl, by simp, _, rfl⟩) (hb hby d1_10) ⟨rfl, e0⟩ (by decide) (by decide)
theorem ef_1 (m : MethodId) (p0 : Int32) (p1 : Int32) : entryFrame m #[(.int p0), (.int p1)] 2 = mkF m 0 #[.val (.int p0), .val (.int p1)] [] := by first | (simp [entryFrame, mkF, argsToLocals, Value.category]; done) | rfl
set_option maxRecDepth 65536 in
set_option maxHeartbeats 40000000 in
theorem rm1 (l : Launch) (Z : State) (aw : Array Value) (hw : ∀ d ∈ tables_1, d.before aw Z = true) (ws : List Jvm.Cond) (p0 : Int32) (p1 : Int32) (h0 : Heap) :
    MetFree l (⟨"java/lang/Math", "max", "(II)I"⟩ : MethodName) (head1 (Jvm.Cond.code (⟨"java/lang/Math", "max", "(II)I"⟩ : MethodName) jdk_29_method_65_code 2 (some .int) :: ws) ({ frames := 0, cells := 0, slots := 0, locals := 0 } : Room)) (fun a U => a = #[(.int p0), (.int p1)] ∧ Z.Warmed39 U.vm ∧ U.heap = h0) (fun _ _ _ _ _ => True) (fun _ U o U' => ∃ v L, o = .returned v ∧ own_Q (some (.int (f1_0 p0 p1))) (own_K0 h0) v U'.heap L ∧ FrameEnd U o U' L ({ frames := 0, cells := 0, slots := 0, locals := 0 } : Room).cells ({ frames := 0, cells := 0, slots := 0, locals := 0 } : Room).slots) := by
  refine MetFree.of_bodySF (Jvm.Free.JP.mathPlain rfl (by decide +kernel)) hisR ?_
  intro p e s m args below meth c s₁ Bd hml0 hP hK
  obtain ⟨rfl, hZ, hh⟩ := hP
  have hml : c.maxLocals = 2 := hml0
  have e0 : s₁.heap = h0 := by rw [← hh, Bd.state]; rfl
  exact own_pre (fun t k => castTop (ef_1 m p0 p1) k) (g1_0 hw p0 p1 Bd hml hZ s₁ (Stand.of_body Bd) e0)
/-! body 2 -/
theorem d2_0 : decode prog_8_method_2_code 0 = .ok (.ldc2_w 11, 3) := by decide +kernel
theorem d2_3 : decode prog_8_method_2_code 3 = .ok (.iload_n 2, 1) := by decide +kernel
theorem d2_4 : decode prog_8_method_2_code 4 = .ok (.i2l, 1) := by decide +kernel
theorem d2_5 : decode prog_8_method_2_code 5 = .ok (.lmul, 1) := by decide +kernel
theorem d2_6 : decode prog_8_method_2_code 6 = .ok (.lstore_n 3, 1) := by decide +kernel
theorem d2_7 : decode prog_8_method_2_code 7 = .ok (.lload_n 0, 1) := by decide +kernel
theorem d2_8 : decode prog_8_method_2_code 8 = .ok (.lconst 1, 1) := by decide +kernel
theorem d2_9 : decode prog_8_method_2_code 9 = .ok (.lcmp, 1) := by decide +kernel
theorem d2_10 : decode prog_8_method_2_code 10 = .ok (.ifCond .lt 9, 3) := by decide +kernel
theorem d2_13 : decode prog_8_method_2_code 13 = .ok (.lload_n 0, 1) := by decide +kernel
theorem d2_14 : decode prog_8_method_2_code 14 = .ok (.lload_n 3, 1) := by decide +kernel
theorem d2_15 : decode prog_8_method_2_code 15 = .ok (.lcmp, 1) := by decide +kernel
theorem d2_16 : decode prog_8_method_2_code 16 = .ok (.ifCond .le 18, 3) := by decide +kernel
theorem d2_34 : decode prog_8_method_2_code 34 = .ok (.lload_n 0, 1) := by decide +kernel
theorem d2_35 : decode prog_8_method_2_code 35 = .ok (.iload_n 2, 1) := by decide +kernel
theorem d2_36 : decode prog_8_method_2_code 36 = .ok (.i2l, 1) := by decide +kernel
theorem d2_37 : decode prog_8_method_2_code 37 = .ok (.ladd, 1) := by decide +kernel
theorem d2_38 : decode prog_8_method_2_code 38 = .ok (.lconst 1, 1) := by decide +kernel
theorem d2_39 : decode prog_8_method_2_code 39 = .ok (.lsub, 1) := by decide +kernel
theorem d2_40 : decode prog_8_method_2_code 40 = .ok (.iload_n 2, 1) := by decide +kernel
theorem d2_41 : decode prog_8_method_2_code 41 = .ok (.i2l, 1) := by decide +kernel
theorem d2_42 : decode prog_8_method_2_code 42 = .ok (.ldiv, 1) := by decide +kernel
theorem d2_43 : decode prog_8_method_2_code 43 = .ok (.l2i, 1) := by decide +kernel
theorem d2_44 : decode prog_8_method_2_code 44 = .ok (.ireturn, 1) := by decide +kernel
theorem own_pn0 : plainName "com/example/probable_set/probableset/cells/CellWords" = true := by first | (simp [plainName, overriddenIn]; done) | decide +kernel
def f2_0 (q0 : Int64) (p1 : Int32) : Int32 := ((((q0 + (p1.toInt64)) - (1 : Int64)) / (p1.toInt64)).toInt32)
set_option maxRecDepth 65536 in
set_option maxHeartbeats 40000000 in
theorem g2_0 {p : Program} {l : Launch} {e : Env} {s : State} {m : MethodId} {below : List Frame} {meth : Method} {c : Code} {s₁ : State} {ws : List Jvm.Cond} {Z : State} {aw : Array Value} (hw : ∀ d ∈ tables_1, d.before aw Z = true) {h0 : Heap} (q0 : Int64) (p1 : Int32) (H1 : ¬ (q0 < (1 : Int64))) (H2 : ¬ (((2147483639 : Int64) * (p1.toInt64)) < q0)) (H3 : ¬ ((p1.toInt64) = (0 : Int64)))
    (Bd : BodyLoose p l (⟨"com/example/probable_set/probableset/cells/CellWords", "wordsFor", "(JI)I"⟩ : MethodName) (head1 (Jvm.Cond.code (⟨"com/example/probable_set/probableset/cells/CellWords", "wordsFor", "(JI)I"⟩ : MethodName) prog_8_method_2_code 5 (some .int) :: ws) ({ frames := 0, cells := 0, slots := 0, locals := 0 } : Room)) prog_8_method_2_code 5 (some .int) e s m #[(.long q0), (.int p1)] below meth c s₁) (hml : c.maxLocals = 5) (hZ : Z.Warmed39 s.vm) (T0 : State) (X0 : Stand p l e ({ frames := 0, cells := 0, slots := 0, locals := 0 } : Room) s m #[(.long q0), (.int p1)] below meth c T0 [] 0 0) (e0 : T0.heap = h0) :
    own_Go p e below s ({ frames := 0, cells := 0, slots := 0, locals := 0 } : Room).cells ({ frames := 0, cells := 0, slots := 0, locals := 0 } : Room).slots (some (.int (f2_0 q0 p1))) (own_K0 h0) (T0.setTop (mkF m 0 #[.val (.long q0), .second, .val (.int p1), .unset, .unset] [])) := by
  have hx := Bd.exec
  have hby := Bd.bytes
  have hown : s.vm.findClass "com/example/probable_set/probableset/cells/CellWords" = some m.cls := findClass_of_methodNamed Bd.named
  unfold f2_0
  refine own_pre (F' := T0.setTop (mkF m 3 #[.val (.long q0), .second, .val (.int p1), .unset, .unset] [(.long (2147483639 : Int64))])) (fun _ k => X0.ldc2Long hx hown (mvT hZ (hw _ (List.mem_of_getElem? (i := 11) rfl))) (g := (mkF m 0 #[.val (.long q0), .second, .val (.int p1), .unset, .unset] [])) rfl (hb hby d2_0) _ k) ?_
  refine own_pre (F' := T0.setTop (mkF m 4 #[.val (.long q0), .second, .val (.int p1), .unset, .unset] [(.int p1), (.long (2147483639 : Int64))])) (fun _ k => XS.iloadN X0.here hx rfl (hb hby d2_3) rfl k) ?_
  refine own_pre (F' := T0.setTop (mkF m 5 #[.val (.long q0), .second, .val (.int p1), .unset, .unset] [(.long (p1.toInt64)), (.long (2147483639 : Int64))])) (fun _ k => XS.i2l X0.here hx rfl (hb hby d2_4) rfl k) ?_
  refine own_pre (F' := T0.setTop (mkF m 6 #[.val (.long q0), .second, .val (.int p1), .unset, .unset] [(.long ((2147483639 : Int64) * (p1.toInt64)))])) (fun _ k => XS.lmul X0.here hx rfl (hb hby d2_5) rfl k) ?_
  refine own_pre (F' := T0.setTop (mkF m 7 #[.val (.long q0), .second, .val (.int p1), .val (.long ((2147483639 : Int64) * (p1.toInt64))), .second] [])) (fun _ k => XS.lstoreN X0.here hx rfl (hb hby d2_6) rfl (l' := #[.val (.long q0), .second, .val (.int p1), .val (.long ((2147483639 : Int64) * (p1.toInt64))), .second]) rfl k) ?_
  refine own_pre (F' := T0.setTop (mkF m 8 #[.val (.long q0), .second, .val (.int p1), .val (.long ((2147483639 : Int64) * (p1.toInt64))), .second] [(.long q0)])) (fun _ k => XS.lloadN X0.here hx rfl (hb hby d2_7) rfl k) ?_
  refine own_pre (F' := T0.setTop (mkF m 9 #[.val (.long q0), .second, .val (.int p1), .val (.long ((2147483639 : Int64) * (p1.toInt64))), .second] [(.long (1 : Int64)), (.long q0)])) (fun _ k => XS.lconst X0.here hx rfl (hb hby d2_8) k) ?_
  refine own_pre (F' := T0.setTop (mkF m 10 #[.val (.long q0), .second, .val (.int p1), .val (.long ((2147483639 : Int64) * (p1.toInt64))), .second] [(.int (lcmpW q0 (1 : Int64)))])) (fun _ k => XS.lcmp X0.here hx rfl (hb hby d2_9) rfl k) ?_
  have hc10 : ¬ (q0 < (1 : Int64)) := H1
  refine own_pre (F' := T0.setTop (mkF m 13 #[.val (.long q0), .second, .val (.int p1), .val (.long ((2147483639 : Int64) * (p1.toInt64))), .second] [])) (fun _ k => XS.ifNo X0.here hx rfl (hb hby d2_10) rfl ((if0 _ _).trans (flt (fun q => hc10 ((lw_lt _ _).mp q))).1) k) ?_
  refine own_pre (F' := T0.setTop (mkF m 14 #[.val (.long q0), .second, .val (.int p1), .val (.long ((2147483639 : Int64) * (p1.toInt64))), .second] [(.long q0)])) (fun _ k => XS.lloadN X0.here hx rfl (hb hby d2_13) rfl k) ?_
  refine own_pre (F' := T0.setTop (mkF m 15 #[.val (.long q0), .second, .val (.int p1), .val (.long ((2147483639 : Int64) * (p1.toInt64))), .second] [(.long ((2147483639 : Int64) * (p1.toInt64))), (.long q0)])) (fun _ k => XS.lloadN X0.here hx rfl (hb hby d2_14) rfl k) ?_
  refine own_pre (F' := T0.setTop (mkF m 16 #[.val (.long q0), .second, .val (.int p1), .val (.long ((2147483639 : Int64) * (p1.toInt64))), .second] [(.int (lcmpW q0 ((2147483639 : Int64) * (p1.toInt64))))])) (fun _ k => XS.lcmp X0.here hx rfl (hb hby d2_15) rfl k) ?_
  have hc16 : ¬ (((2147483639 : Int64) * (p1.toInt64)) < q0) := H2
  refine own_pre (F' := T0.setTop (mkF m 34 #[.val (.long q0), .second, .val (.int p1), .val (.long ((2147483639 : Int64) * (p1.toInt64))), .second] [])) (fun _ k => XS.ifYes X0.here hx rfl (pc0 := 16) (pc' := 34) rfl (hb hby d2_16) rfl ((if0 _ _).trans (flt (fun q => hc16 ((lw_gt _ _).mp q))).2.2.2) (by decide) (by decide) k) ?_
  refine own_pre (F' := T0.setTop (mkF m 35 #[.val (.long q0), .second, .val (.int p1), .val (.long ((2147483639 : Int64) * (p1.toInt64))), .second] [(.long q0)])) (fun _ k => XS.lloadN X0.here hx rfl (hb hby d2_34) rfl k) ?_
  refine own_pre (F' := T0.setTop (mkF m 36 #[.val (.long q0), .second, .val (.int p1), .val (.long ((2147483639 : Int64) * (p1.toInt64))), .second] [(.int p1), (.long q0)])) (fun _ k => XS.iloadN X0.here hx rfl (hb hby d2_35) rfl k) ?_
  refine own_pre (F' := T0.setTop (mkF m 37 #[.val (.long q0), .second, .val (.int p1), .val (.long ((2147483639 : Int64) * (p1.toInt64))), .second] [(.long (p1.toInt64)), (.long q0)])) (fun _ k => XS.i2l X0.here hx rfl (hb hby d2_36) rfl k) ?_
  refine own_pre (F' := T0.setTop (mkF m 38 #[.val (.long q0), .second, .val (.int p1), .val (.long ((2147483639 : Int64) * (p1.toInt64))), .second] [(.long (q0 + (p1.toInt64)))])) (fun _ k => XS.ladd X0.here hx rfl (hb hby d2_37) rfl k) ?_
  refine own_pre (F' := T0.setTop (mkF m 39 #[.val (.long q0), .second, .val (.int p1), .val (.long ((2147483639 : Int64) * (p1.toInt64))), .second] [(.long (1 : Int64)), (.long (q0 + (p1.toInt64)))])) (fun _ k => XS.lconst X0.here hx rfl (hb hby d2_38) k) ?_
  refine own_pre (F' := T0.setTop (mkF m 40 #[.val (.long q0), .second, .val (.int p1), .val (.long ((2147483639 : Int64) * (p1.toInt64))), .second] [(.long ((q0 + (p1.toInt64)) - (1 : Int64)))])) (fun _ k => XS.lsub X0.here hx rfl (hb hby d2_39) rfl k) ?_
  refine own_pre (F' := T0.setTop (mkF m 41 #[.val (.long q0), .second, .val (.int p1), .val (.long ((2147483639 : Int64) * (p1.toInt64))), .second] [(.int p1), (.long ((q0 + (p1.toInt64)) - (1 : Int64)))])) (fun _ k => XS.iloadN X0.here hx rfl (hb hby d2_40) rfl k) ?_
  refine own_pre (F' := T0.setTop (mkF m 42 #[.val (.long q0), .second, .val (.int p1), .val (.long ((2147483639 : Int64) * (p1.toInt64))), .second] [(.long (p1.toInt64)), (.long ((q0 + (p1.toInt64)) - (1 : Int64)))])) (fun _ k => XS.i2l X0.here hx rfl (hb hby d2_41) rfl k) ?_
  refine own_pre (F' := T0.setTop (mkF m 43 #[.val (.long q0), .second, .val (.int p1), .val (.long ((2147483639 : Int64) * (p1.toInt64))), .second] [(.long (((q0 + (p1.toInt64)) - (1 : Int64)) / (p1.toInt64)))])) (fun _ k => XS.ldiv X0.here hx rfl (hb hby d2_42) rfl H3 k) ?_
  refine own_pre (F' := T0.setTop (mkF m 44 #[.val (.long q0), .second, .val (.int p1), .val (.long ((2147483639 : Int64) * (p1.toInt64))), .second] [(.int ((((q0 + (p1.toInt64)) - (1 : Int64)) / (p1.toInt64)).toInt32))])) (fun _ k => XS.l2i X0.here hx rfl (hb hby d2_43) rfl k) ?_
  exact own_ret X0 hx Bd.notSynchronized Bd.returns rfl (Or.inl ⟨rfl, by simp, _, rfl⟩) (hb hby d2_44) ⟨rfl, e0⟩ (by decide) (by decide)
theorem ef_2 (m : MethodId) (q0 : Int64) (p1 : Int32) : entryFrame m #[(.long q0), (.int p1)] 5 = mkF m 0 #[.val (.long q0), .second, .val (.int p1), .unset, .unset] [] := by first | (simp [entryFrame, mkF, argsToLocals, Value.category]; done) | rfl
set_option maxRecDepth 65536 in
set_option maxHeartbeats 40000000 in
theorem rm2 (l : Launch) (Z : State) (aw : Array Value) (hw : ∀ d ∈ tables_1, d.before aw Z = true) (ws : List Jvm.Cond) (q0 : Int64) (p1 : Int32) (h0 : Heap) (H1 : ¬ (q0 < (1 : Int64))) (H2 : ¬ (((2147483639 : Int64) * (p1.toInt64)) < q0)) (H3 : ¬ ((p1.toInt64) = (0 : Int64))) :
    MetFree l (⟨"com/example/probable_set/probableset/cells/CellWords", "wordsFor", "(JI)I"⟩ : MethodName) (head1 (Jvm.Cond.code (⟨"com/example/probable_set/probableset/cells/CellWords", "wordsFor", "(JI)I"⟩ : MethodName) prog_8_method_2_code 5 (some .int) :: ws) ({ frames := 0, cells := 0, slots := 0, locals := 0 } : Room)) (fun a U => a = #[(.long q0), (.int p1)] ∧ Z.Warmed39 U.vm ∧ U.heap = h0) (fun _ _ _ _ _ => True) (fun _ U o U' => ∃ v L, o = .returned v ∧ own_Q (some (.int (f2_0 q0 p1))) (own_K0 h0) v U'.heap L ∧ FrameEnd U o U' L ({ frames := 0, cells := 0, slots := 0, locals := 0 } : Room).cells ({ frames := 0, cells := 0, slots := 0, locals := 0 } : Room).slots) := by
  refine MetFree.of_bodySF (plainFor_of_name own_pn0) hisR ?_
  intro p e s m args below meth c s₁ Bd hml0 hP hK
  obtain ⟨rfl, hZ, hh⟩ := hP
  have hml : c.maxLocals = 5 := hml0
  have e0 : s₁.heap = h0 := by rw [← hh, Bd.state]; rfl
  exact own_pre (fun t k => castTop (ef_2 m q0 p1) k) (g2_0 hw q0 p1 H1 H2 H3 Bd hml hZ s₁ (Stand.of_body Bd) e0)
/-- the cells per word, the most cells, the cells -/
abbrev own_pw (p : Int32) : Int32 := f1_0 (1 : Int32) (p &&& (2147483647 : Int32))
abbrev own_most (p : Int32) : Int64 := (2147483639 : Int64) * ((own_pw p).toInt64)
abbrev own_cells (c : Int64) (p : Int32) : Int64 := ((c &&& (9223372036854775807 : Int64)) % (own_most p)) + (1 : Int64)
theorem own_pwI (p : Int32) : 1 ≤ (own_pw p).toInt ∧ (own_pw p).toInt ≤ 2147483647 := by
  have h := c_mask p 2147483647 31 (by decide) (by decide)
  have e : (1 : Int32).toInt = 1 := by decide
  unfold own_pw f1_0
  split <;> rename_i q <;> rw [Int32.lt_iff_toInt_lt] at q <;> omega
theorem own_mostI (p : Int32) : (own_most p).toInt = 2147483639 * (own_pw p).toInt := by
  have h := own_pwI p
  have h1 := c_lmul 2147483639 ((own_pw p).toInt64)
  rw [c_i2l, show (2147483639 : Int64).toInt = 2147483639 from by decide] at h1
  have r := rng64 (own_most p)
  unfold own_most at *
  omega
theorem own_cellsI (c : Int64) (p : Int32) : 1 ≤ (own_cells c p).toInt ∧ (own_cells c p).toInt ≤ 2147483639 * (own_pw p).toInt := by
  have h := own_pwI p
  have hm := own_mostI p
  have h1 := c_maskL c 9223372036854775807 63 (by decide) (by decide)
  have h2 := (c_lrem (c &&& 9223372036854775807) (own_most p) _ hm).1 (by omega)
  rw [lrem_mod] at h2
  have h3 := c_ladd ((c &&& 9223372036854775807) % own_most p) 1
  rw [show (1 : Int64).toInt = 1 from by decide, h2] at h3
  have r := rng64 (own_cells c p)
  have b1 := Int.emod_nonneg (c &&& 9223372036854775807 : Int64).toInt (show 2147483639 * (own_pw p).toInt ≠ 0 by omega)
  have b2 := Int.emod_lt_of_pos (c &&& 9223372036854775807 : Int64).toInt (show 0 < 2147483639 * (own_pw p).toInt by omega)
  unfold own_cells at *
  generalize (c &&& 9223372036854775807 : Int64).toInt % (2147483639 * (own_pw p).toInt) = z at *
  omega
theorem own_nz (p : Int32) : ¬ (own_most p = 0) := by
  have h := own_pwI p
  have hm := own_mostI p
  intro q
  rw [q, show (0 : Int64).toInt = 0 from by decide] at hm
  omega
theorem own_h1 (c : Int64) (p : Int32) : ¬ (own_cells c p < (1 : Int64)) := by
  rw [Int64.lt_iff_toInt_lt, show (1 : Int64).toInt = 1 from by decide]
  have := own_cellsI c p
  omega
theorem own_h2 (c : Int64) (p : Int32) : ¬ (own_most p < own_cells c p) := by
  rw [Int64.lt_iff_toInt_lt, own_mostI]
  have := own_cellsI c p
  omega
theorem own_h3 (p : Int32) : ¬ ((own_pw p).toInt64 = (0 : Int64)) := by
  have h := own_pwI p
  rw [← Int64.toInt_inj, c_i2l, show (0 : Int64).toInt = 0 from by decide]
  omega
theorem own_pd0 : parseMethodDescriptor "(II)I" = some ⟨[.int, .int], some .int⟩ := by decide +kernel
theorem own_pd1 : parseMethodDescriptor "(JI)I" = some ⟨[.long, .int], some .int⟩ := by decide +kernel
/-! body 0 -/
theorem own_pn1 : plainName "com/example/probable_set/probableset/cells/CellWordsWordsForPinLaw" = true := by first | (simp [plainName, overriddenIn]; done) | decide +kernel
def f0_90 (q0 : Int64) (p1 : Int32) : Int32 := (0 : Int32)
set_option maxRecDepth 65536 in
set_option maxHeartbeats 40000000 in
theorem g0_90 {p : Program} {l : Launch} {e : Env} {s : State} {m : MethodId} {below : List Frame} {meth : Method} {c : Code} {s₁ : State} {ws : List Jvm.Cond} {Z : State} {aw : Array Value} (hw : ∀ d ∈ tables_1, d.before aw Z = true) {h0 : Heap} (q0 : Int64) (p1 : Int32) (x3 : Int32) (x4 : Int64) (x6 : Int64) (x8 : Int32) (x9 : Int64) (x11 : Int64)
    (Bd : BodyLoose p l x (head1 (Jvm.Cond.code x code maxLocals ret :: ws) room_1) code maxLocals ret e s m #[(.long q0), (.int p1)] below meth c s₁) (hml : c.maxLocals = 13) (hZ : Z.Warmed39 s.vm) (T0 : State) (X0 : Stand p l e room_1 s m #[(.long q0), (.int p1)] below meth c T0 [] 0 0) (e0 : T0.heap = h0) :
    own_Go p e below s room_1.cells room_1.slots (some (.int (f0_90 q0 p1))) (own_K0 h0) (T0.setTop (mkF m 90 #[.val (.long q0), .second, .val (.int p1), .val (.int x3), .val (.long x4), .second, .val (.long x6), .second, .val (.int x8), .val (.long x9), .second, .val (.long x11), .second] [])) := by
  have hx := Bd.exec
  have hby := Bd.bytes
  have hown : s.vm.findClass "com/example/probable_set/probableset/cells/CellWordsWordsForPinLaw" = some m.cls := findClass_of_methodNamed Bd.named
  unfold f0_90
  refine own_pre (F' := T0.setTop (mkF m 91 #[.val (.long q0), .second, .val (.int p1), .val (.int x3), .val (.long x4), .second, .val (.long x6), .second, .val (.int x8), .val (.long x9), .second, .val (.long x11), .second] [(.int (0 : Int32))])) (fun _ k => XS.iconst X0.here hx rfl (hb hby at_90) k) ?_
  exact own_ret X0 hx Bd.notSynchronized Bd.returns rfl (Or.inl ⟨rfl, by simp, _, rfl⟩) (hb hby at_91) ⟨rfl, e0⟩ (by decide) (by decide)
def f0_50 (q0 : Int64) (p1 : Int32) : Int32 := (0 : Int32)
set_option maxRecDepth 65536 in
set_option maxHeartbeats 40000000 in
theorem g0_50 {p : Program} {l : Launch} {e : Env} {s : State} {m : MethodId} {below : List Frame} {meth : Method} {c : Code} {s₁ : State} {ws : List Jvm.Cond} {Z : State} {aw : Array Value} (hw : ∀ d ∈ tables_1, d.before aw Z = true) {h0 : Heap} (q0 : Int64) (p1 : Int32) (x3 : Int32) (x4 : Int64) (x6 : Int64) (x8 : Int32)
    (Bd : BodyLoose p l x (head1 (Jvm.Cond.code x code maxLocals ret :: ws) room_1) code maxLocals ret e s m #[(.long q0), (.int p1)] below meth c s₁) (hml : c.maxLocals = 13) (hZ : Z.Warmed39 s.vm) (T0 : State) (X0 : Stand p l e room_1 s m #[(.long q0), (.int p1)] below meth c T0 [] 0 0) (e0 : T0.heap = h0) :
    own_Go p e below s room_1.cells room_1.slots (some (.int (f0_50 q0 p1))) (own_K0 h0) (T0.setTop (mkF m 50 #[.val (.long q0), .second, .val (.int p1), .val (.int x3), .val (.long x4), .second, .val (.long x6), .second, .val (.int x8), .unset, .unset, .unset, .unset] [])) := by
  have hx := Bd.exec
  have hby := Bd.bytes
  have hown : s.vm.findClass "com/example/probable_set/probableset/cells/CellWordsWordsForPinLaw" = some m.cls := findClass_of_methodNamed Bd.named
  unfold f0_50
  refine own_pre (F' := T0.setTop (mkF m 51 #[.val (.long q0), .second, .val (.int p1), .val (.int x3), .val (.long x4), .second, .val (.long x6), .second, .val (.int x8), .unset, .unset, .unset, .unset] [(.int (0 : Int32))])) (fun _ k => XS.iconst X0.here hx rfl (hb hby at_50) k) ?_
  exact own_ret X0 hx Bd.notSynchronized Bd.returns rfl (Or.inl ⟨rfl, by simp, _, rfl⟩) (hb hby at_51) ⟨rfl, e0⟩ (by decide) (by decide)
def f0_37 (q0 : Int64) (p1 : Int32) (x3 : Int32) (x6 : Int64) (x8 : Int32) : Int32 := (if x8 < (1 : Int32) then (f0_50 q0 p1) else (if (2147483639 : Int32) < x8 then (f0_50 q0 p1) else (if (((x8 - (1 : Int32)).toInt64) * (x3.toInt64)) < x6 then (if ((x8.toInt64) * (x3.toInt64)) < x6 then (f0_90 q0 p1) else (1 : Int32)) else (f0_90 q0 p1))))
set_option maxRecDepth 65536 in
set_option maxHeartbeats 40000000 in
theorem g0_37 {p : Program} {l : Launch} {e : Env} {s : State} {m : MethodId} {below : List Frame} {meth : Method} {c : Code} {s₁ : State} {ws : List Jvm.Cond} {Z : State} {aw : Array Value} (hw : ∀ d ∈ tables_1, d.before aw Z = true) {h0 : Heap} (q0 : Int64) (p1 : Int32) (x3 : Int32) (x4 : Int64) (x6 : Int64) (x8 : Int32)
    (Bd : BodyLoose p l x (head1 (Jvm.Cond.code x code maxLocals ret :: ws) room_1) code maxLocals ret e s m #[(.long q0), (.int p1)] below meth c s₁) (hml : c.maxLocals = 13) (hZ : Z.Warmed39 s.vm) (T0 : State) (X0 : Stand p l e room_1 s m #[(.long q0), (.int p1)] below meth c T0 [] 0 0) (e0 : T0.heap = h0) :
    own_Go p e below s room_1.cells room_1.slots (some (.int (f0_37 q0 p1 x3 x6 x8))) (own_K0 h0) (T0.setTop (mkF m 37 #[.val (.long q0), .second, .val (.int p1), .val (.int x3), .val (.long x4), .second, .val (.long x6), .second, .val (.int x8), .unset, .unset, .unset, .unset] [])) := by
  have hx := Bd.exec
  have hby := Bd.bytes
  have hown : s.vm.findClass "com/example/probable_set/probableset/cells/CellWordsWordsForPinLaw" = some m.cls := findClass_of_methodNamed Bd.named
  unfold f0_37
  refine own_pre (F' := T0.setTop (mkF m 39 #[.val (.long q0), .second, .val (.int p1), .val (.int x3), .val (.long x4), .second, .val (.long x6), .second, .val (.int x8), .unset, .unset, .unset, .unset] [(.int x8)])) (fun _ k => XS.iload X0.here hx rfl (hb hby at_37) rfl k) ?_
  refine own_pre (F' := T0.setTop (mkF m 40 #[.val (.long q0), .second, .val (.int p1), .val (.int x3), .val (.long x4), .second, .val (.long x6), .second, .val (.int x8), .unset, .unset, .unset, .unset] [(.int (1 : Int32)), (.int x8)])) (fun _ k => XS.iconst X0.here hx rfl (hb hby at_39) k) ?_
  refine own_iteI (fun hc40 => ?_) (fun hc40 => ?_)
  · skip
    refine own_pre (F' := T0.setTop (mkF m 50 #[.val (.long q0), .second, .val (.int p1), .val (.int x3), .val (.long x4), .second, .val (.long x6), .second, .val (.int x8), .unset, .unset, .unset, .unset] [])) (fun _ k => XS.icmpYes X0.here hx rfl (pc0 := 40) (pc' := 50) rfl (hb hby at_40) rfl (tlt hc40).1 (by decide) (by decide) k) ?_
    exact g0_50 hw q0 p1 x3 x4 x6 x8 Bd hml hZ T0 X0 e0
  · skip
    refine own_pre (F' := T0.setTop (mkF m 43 #[.val (.long q0), .second, .val (.int p1), .val (.int x3), .val (.long x4), .second, .val (.long x6), .second, .val (.int x8), .unset, .unset, .unset, .unset] [])) (fun _ k => XS.icmpNo X0.here hx rfl (hb hby at_40) rfl (flt hc40).1 k) ?_
    refine own_pre (F' := T0.setTop (mkF m 45 #[.val (.long q0), .second, .val (.int p1), .val (.int x3), .val (.long x4), .second, .val (.long x6), .second, .val (.int x8), .unset, .unset, .unset, .unset] [(.int x8)])) (fun _ k => XS.iload X0.here hx rfl (hb hby at_43) rfl k) ?_
    refine own_pre (F' := T0.setTop (mkF m 47 #[.val (.long q0), .second, .val (.int p1), .val (.int x3), .val (.long x4), .second, .val (.long x6), .second, .val (.int x8), .unset, .unset, .unset, .unset] [(.int (2147483639 : Int32)), (.int x8)])) (fun _ k => X0.ldcInt hx hown (mvT hZ (hw _ (List.mem_of_getElem? (i := 12) rfl))) (g := (mkF m 45 #[.val (.long q0), .second, .val (.int p1), .val (.int x3), .val (.long x4), .second, .val (.long x6), .second, .val (.int x8), .unset, .unset, .unset, .unset] [(.int x8)])) rfl (hb hby at_45) _ k) ?_
    refine own_iteI (fun hc47 => ?_) (fun hc47 => ?_)
    · skip
      refine own_pre (F' := T0.setTop (mkF m 50 #[.val (.long q0), .second, .val (.int p1), .val (.int x3), .val (.long x4), .second, .val (.long x6), .second, .val (.int x8), .unset, .unset, .unset, .unset] [])) (fun _ k => XS.icmpNo X0.here hx rfl (hb hby at_47) rfl (tlt hc47).2.2.2 k) ?_
      exact g0_50 hw q0 p1 x3 x4 x6 x8 Bd hml hZ T0 X0 e0
    · skip
      refine own_pre (F' := T0.setTop (mkF m 52 #[.val (.long q0), .second, .val (.int p1), .val (.int x3), .val (.long x4), .second, .val (.long x6), .second, .val (.int x8), .unset, .unset, .unset, .unset] [])) (fun _ k => XS.icmpYes X0.here hx rfl (pc0 := 47) (pc' := 52) rfl (hb hby at_47) rfl (flt hc47).2.2.2 (by decide) (by decide) k) ?_
      refine own_pre (F' := T0.setTop (mkF m 54 #[.val (.long q0), .second, .val (.int p1), .val (.int x3), .val (.long x4), .second, .val (.long x6), .second, .val (.int x8), .unset, .unset, .unset, .unset] [(.int x8)])) (fun _ k => XS.iload X0.here hx rfl (hb hby at_52) rfl k) ?_
      refine own_pre (F' := T0.setTop (mkF m 55 #[.val (.long q0), .second, .val (.int p1), .val (.int x3), .val (.long x4), .second, .val (.long x6), .second, .val (.int x8), .unset, .unset, .unset, .unset] [(.int (1 : Int32)), (.int x8)])) (fun _ k => XS.iconst X0.here hx rfl (hb hby at_54) k) ?_
      refine own_pre (F' := T0.setTop (mkF m 56 #[.val (.long q0), .second, .val (.int p1), .val (.int x3), .val (.long x4), .second, .val (.long x6), .second, .val (.int x8), .unset, .unset, .unset, .unset] [(.int (x8 - (1 : Int32)))])) (fun _ k => XS.isub X0.here hx rfl (hb hby at_55) rfl k) ?_
      refine own_pre (F' := T0.setTop (mkF m 57 #[.val (.long q0), .second, .val (.int p1), .val (.int x3), .val (.long x4), .second, .val (.long x6), .second, .val (.int x8), .unset, .unset, .unset, .unset] [(.long ((x8 - (1 : Int32)).toInt64))])) (fun _ k => XS.i2l X0.here hx rfl (hb hby at_56) rfl k) ?_
      refine own_pre (F' := T0.setTop (mkF m 58 #[.val (.long q0), .second, .val (.int p1), .val (.int x3), .val (.long x4), .second, .val (.long x6), .second, .val (.int x8), .unset, .unset, .unset, .unset] [(.int x3), (.long ((x8 - (1 : Int32)).toInt64))])) (fun _ k => XS.iloadN X0.here hx rfl (hb hby at_57) rfl k) ?_
      refine own_pre (F' := T0.setTop (mkF m 59 #[.val (.long q0), .second, .val (.int p1), .val (.int x3), .val (.long x4), .second, .val (.long x6), .second, .val (.int x8), .unset, .unset, .unset, .unset] [(.long (x3.toInt64)), (.long ((x8 - (1 : Int32)).toInt64))])) (fun _ k => XS.i2l X0.here hx rfl (hb hby at_58) rfl k) ?_
      refine own_pre (F' := T0.setTop (mkF m 60 #[.val (.long q0), .second, .val (.int p1), .val (.int x3), .val (.long x4), .second, .val (.long x6), .second, .val (.int x8), .unset, .unset, .unset, .unset] [(.long (((x8 - (1 : Int32)).toInt64) * (x3.toInt64)))])) (fun _ k => XS.lmul X0.here hx rfl (hb hby at_59) rfl k) ?_
      refine own_pre (F' := T0.setTop (mkF m 62 #[.val (.long q0), .second, .val (.int p1), .val (.int x3), .val (.long x4), .second, .val (.long x6), .second, .val (.int x8), .val (.long (((x8 - (1 : Int32)).toInt64) * (x3.toInt64))), .second, .unset, .unset] [])) (fun _ k => XS.lstore X0.here hx rfl (hb hby at_60) rfl (l' := #[.val (.long q0), .second, .val (.int p1), .val (.int x3), .val (.long x4), .second, .val (.long x6), .second, .val (.int x8), .val (.long (((x8 - (1 : Int32)).toInt64) * (x3.toInt64))), .second, .unset, .unset]) rfl k) ?_
      refine own_pre (F' := T0.setTop (mkF m 64 #[.val (.long q0), .second, .val (.int p1), .val (.int x3), .val (.long x4), .second, .val (.long x6), .second, .val (.int x8), .val (.long (((x8 - (1 : Int32)).toInt64) * (x3.toInt64))), .second, .unset, .unset] [(.int x8)])) (fun _ k => XS.iload X0.here hx rfl (hb hby at_62) rfl k) ?_
      refine own_pre (F' := T0.setTop (mkF m 65 #[.val (.long q0), .second, .val (.int p1), .val (.int x3), .val (.long x4), .second, .val (.long x6), .second, .val (.int x8), .val (.long (((x8 - (1 : Int32)).toInt64) * (x3.toInt64))), .second, .unset, .unset] [(.long (x8.toInt64))])) (fun _ k => XS.i2l X0.here hx rfl (hb hby at_64) rfl k) ?_
      refine own_pre (F' := T0.setTop (mkF m 66 #[.val (.long q0), .second, .val (.int p1), .val (.int x3), .val (.long x4), .second, .val (.long x6), .second, .val (.int x8), .val (.long (((x8 - (1 : Int32)).toInt64) * (x3.toInt64))), .second, .unset, .unset] [(.int x3), (.long (x8.toInt64))])) (fun _ k => XS.iloadN X0.here hx rfl (hb hby at_65) rfl k) ?_
      refine own_pre (F' := T0.setTop (mkF m 67 #[.val (.long q0), .second, .val (.int p1), .val (.int x3), .val (.long x4), .second, .val (.long x6), .second, .val (.int x8), .val (.long (((x8 - (1 : Int32)).toInt64) * (x3.toInt64))), .second, .unset, .unset] [(.long (x3.toInt64)), (.long (x8.toInt64))])) (fun _ k => XS.i2l X0.here hx rfl (hb hby at_66) rfl k) ?_
      refine own_pre (F' := T0.setTop (mkF m 68 #[.val (.long q0), .second, .val (.int p1), .val (.int x3), .val (.long x4), .second, .val (.long x6), .second, .val (.int x8), .val (.long (((x8 - (1 : Int32)).toInt64) * (x3.toInt64))), .second, .unset, .unset] [(.long ((x8.toInt64) * (x3.toInt64)))])) (fun _ k => XS.lmul X0.here hx rfl (hb hby at_67) rfl k) ?_
      refine own_pre (F' := T0.setTop (mkF m 70 #[.val (.long q0), .second, .val (.int p1), .val (.int x3), .val (.long x4), .second, .val (.long x6), .second, .val (.int x8), .val (.long (((x8 - (1 : Int32)).toInt64) * (x3.toInt64))), .second, .val (.long ((x8.toInt64) * (x3.toInt64))), .second] [])) (fun _ k => XS.lstore X0.here hx rfl (hb hby at_68) rfl (l' := #[.val (.long q0), .second, .val (.int p1), .val (.int x3), .val (.long x4), .second, .val (.long x6), .second, .val (.int x8), .val (.long (((x8 - (1 : Int32)).toInt64) * (x3.toInt64))), .second, .val (.long ((x8.toInt64) * (x3.toInt64))), .second]) rfl k) ?_
      refine own_pre (F' := T0.setTop (mkF m 72 #[.val (.long q0), .second, .val (.int p1), .val (.int x3), .val (.long x4), .second, .val (.long x6), .second, .val (.int x8), .val (.long (((x8 - (1 : Int32)).toInt64) * (x3.toInt64))), .second, .val (.long ((x8.toInt64) * (x3.toInt64))), .second] [(.long (((x8 - (1 : Int32)).toInt64) * (x3.toInt64)))])) (fun _ k => XS.lload X0.here hx rfl (hb hby at_70) rfl k) ?_
      refine own_pre (F' := T0.setTop (mkF m 74 #[.val (.long q0), .second, .val (.int p1), .val (.int x3), .val (.long x4), .second, .val (.long x6), .second, .val (.int x8), .val (.long (((x8 - (1 : Int32)).toInt64) * (x3.toInt64))), .second, .val (.long ((x8.toInt64) * (x3.toInt64))), .second] [(.long x6), (.long (((x8 - (1 : Int32)).toInt64) * (x3.toInt64)))])) (fun _ k => XS.lload X0.here hx rfl (hb hby at_72) rfl k) ?_
      refine own_pre (F' := T0.setTop (mkF m 75 #[.val (.long q0), .second, .val (.int p1), .val (.int x3), .val (.long x4), .second, .val (.long x6), .second, .val (.int x8), .val (.long (((x8 - (1 : Int32)).toInt64) * (x3.toInt64))), .second, .val (.long ((x8.toInt64) * (x3.toInt64))), .second] [(.int (lcmpW (((x8 - (1 : Int32)).toInt64) * (x3.toInt64)) x6))])) (fun _ k => XS.lcmp X0.here hx rfl (hb hby at_74) rfl k) ?_
      refine own_iteI (fun hc75 => ?_) (fun hc75 => ?_)
      · skip
        refine own_pre (F' := T0.setTop (mkF m 78 #[.val (.long q0), .second, .val (.int p1), .val (.int x3), .val (.long x4), .second, .val (.long x6), .second, .val (.int x8), .val (.long (((x8 - (1 : Int32)).toInt64) * (x3.toInt64))), .second, .val (.long ((x8.toInt64) * (x3.toInt64))), .second] [])) (fun _ k => XS.ifNo X0.here hx rfl (hb hby at_75) rfl ((if0 _ _).trans (tlt ((lw_lt _ _).mpr hc75)).2.1) k) ?_
        refine own_pre (F' := T0.setTop (mkF m 80 #[.val (.long q0), .second, .val (.int p1), .val (.int x3), .val (.long x4), .second, .val (.long x6), .second, .val (.int x8), .val (.long (((x8 - (1 : Int32)).toInt64) * (x3.toInt64))), .second, .val (.long ((x8.toInt64) * (x3.toInt64))), .second] [(.long x6)])) (fun _ k => XS.lload X0.here hx rfl (hb hby at_78) rfl k) ?_
        refine own_pre (F' := T0.setTop (mkF m 82 #[.val (.long q0), .second, .val (.int p1), .val (.int x3), .val (.long x4), .second, .val (.long x6), .second, .val (.int x8), .val (.long (((x8 - (1 : Int32)).toInt64) * (x3.toInt64))), .second, .val (.long ((x8.toInt64) * (x3.toInt64))), .second] [(.long ((x8.toInt64) * (x3.toInt64))), (.long x6)])) (fun _ k => XS.lload X0.here hx rfl (hb hby at_80) rfl k) ?_
        refine own_pre (F' := T0.setTop (mkF m 83 #[.val (.long q0), .second, .val (.int p1), .val (.int x3), .val (.long x4), .second, .val (.long x6), .second, .val (.int x8), .val (.long (((x8 - (1 : Int32)).toInt64) * (x3.toInt64))), .second, .val (.long ((x8.toInt64) * (x3.toInt64))), .second] [(.int (lcmpW x6 ((x8.toInt64) * (x3.toInt64))))])) (fun _ k => XS.lcmp X0.here hx rfl (hb hby at_82) rfl k) ?_
        refine own_iteI (fun hc83 => ?_) (fun hc83 => ?_)
        · skip
          refine own_pre (F' := T0.setTop (mkF m 90 #[.val (.long q0), .second, .val (.int p1), .val (.int x3), .val (.long x4), .second, .val (.long x6), .second, .val (.int x8), .val (.long (((x8 - (1 : Int32)).toInt64) * (x3.toInt64))), .second, .val (.long ((x8.toInt64) * (x3.toInt64))), .second] [])) (fun _ k => XS.ifYes X0.here hx rfl (pc0 := 83) (pc' := 90) rfl (hb hby at_83) rfl ((if0 _ _).trans (tlt ((lw_gt _ _).mpr hc83)).2.2.1) (by decide) (by decide) k) ?_
          exact g0_90 hw q0 p1 x3 x4 x6 x8 (((x8 - (1 : Int32)).toInt64) * (x3.toInt64)) ((x8.toInt64) * (x3.toInt64)) Bd hml hZ T0 X0 e0
        · skip
          refine own_pre (F' := T0.setTop (mkF m 86 #[.val (.long q0), .second, .val (.int p1), .val (.int x3), .val (.long x4), .second, .val (.long x6), .second, .val (.int x8), .val (.long (((x8 - (1 : Int32)).toInt64) * (x3.toInt64))), .second, .val (.long ((x8.toInt64) * (x3.toInt64))), .second] [])) (fun _ k => XS.ifNo X0.here hx rfl (hb hby at_83) rfl ((if0 _ _).trans (flt (fun q => hc83 ((lw_gt _ _).mp q))).2.2.1) k) ?_
          refine own_pre (F' := T0.setTop (mkF m 87 #[.val (.long q0), .second, .val (.int p1), .val (.int x3), .val (.long x4), .second, .val (.long x6), .second, .val (.int x8), .val (.long (((x8 - (1 : Int32)).toInt64) * (x3.toInt64))), .second, .val (.long ((x8.toInt64) * (x3.toInt64))), .second] [(.int (1 : Int32))])) (fun _ k => XS.iconst X0.here hx rfl (hb hby at_86) k) ?_
          refine own_pre (F' := T0.setTop (mkF m 91 #[.val (.long q0), .second, .val (.int p1), .val (.int x3), .val (.long x4), .second, .val (.long x6), .second, .val (.int x8), .val (.long (((x8 - (1 : Int32)).toInt64) * (x3.toInt64))), .second, .val (.long ((x8.toInt64) * (x3.toInt64))), .second] [(.int (1 : Int32))])) (fun _ k => XS.goto X0.here hx rfl (pc0 := 87) (pc' := 91) rfl (hb hby at_87) (by decide) (by decide) k) ?_
          exact own_ret X0 hx Bd.notSynchronized Bd.returns rfl (Or.inl ⟨rfl, by simp, _, rfl⟩) (hb hby at_91) ⟨rfl, e0⟩ (by decide) (by decide)
      · skip
        refine own_pre (F' := T0.setTop (mkF m 90 #[.val (.long q0), .second, .val (.int p1), .val (.int x3), .val (.long x4), .second, .val (.long x6), .second, .val (.int x8), .val (.long (((x8 - (1 : Int32)).toInt64) * (x3.toInt64))), .second, .val (.long ((x8.toInt64) * (x3.toInt64))), .second] [])) (fun _ k => XS.ifYes X0.here hx rfl (pc0 := 75) (pc' := 90) rfl (hb hby at_75) rfl ((if0 _ _).trans (flt (fun q => hc75 ((lw_lt _ _).mp q))).2.1) (by decide) (by decide) k) ?_
        exact g0_90 hw q0 p1 x3 x4 x6 x8 (((x8 - (1 : Int32)).toInt64) * (x3.toInt64)) ((x8.toInt64) * (x3.toInt64)) Bd hml hZ T0 X0 e0
def f0_0 (q0 : Int64) (p1 : Int32) : Int32 := (f0_37 q0 p1 (f1_0 (1 : Int32) (p1 &&& (2147483647 : Int32))) (((q0 &&& (9223372036854775807 : Int64)) % ((2147483639 : Int64) * ((f1_0 (1 : Int32) (p1 &&& (2147483647 : Int32))).toInt64))) + (1 : Int64)) (f2_0 (((q0 &&& (9223372036854775807 : Int64)) % ((2147483639 : Int64) * ((f1_0 (1 : Int32) (p1 &&& (2147483647 : Int32))).toInt64))) + (1 : Int64)) (f1_0 (1 : Int32) (p1 &&& (2147483647 : Int32)))))
set_option maxRecDepth 65536 in
set_option maxHeartbeats 40000000 in
theorem g0_0 {p : Program} {l : Launch} {e : Env} {s : State} {m : MethodId} {below : List Frame} {meth : Method} {c : Code} {s₁ : State} {ws : List Jvm.Cond} {Z : State} {aw : Array Value} (hw : ∀ d ∈ tables_1, d.before aw Z = true) {h0 : Heap} (q0 : Int64) (p1 : Int32)
    (Bd : BodyLoose p l x (head1 (Jvm.Cond.code x code maxLocals ret :: ws) room_1) code maxLocals ret e s m #[(.long q0), (.int p1)] below meth c s₁) (hml : c.maxLocals = 13) (hZ : Z.Warmed39 s.vm) (T0 : State) (X0 : Stand p l e room_1 s m #[(.long q0), (.int p1)] below meth c T0 [] 0 0) (e0 : T0.heap = h0) :
    own_Go p e below s room_1.cells room_1.slots (some (.int (f0_0 q0 p1))) (own_K0 h0) (T0.setTop (mkF m 0 #[.val (.long q0), .second, .val (.int p1), .unset, .unset, .unset, .unset, .unset, .unset, .unset, .unset, .unset, .unset] [])) := by
  have hx := Bd.exec
  have hby := Bd.bytes
  have hown : s.vm.findClass "com/example/probable_set/probableset/cells/CellWordsWordsForPinLaw" = some m.cls := findClass_of_methodNamed Bd.named
  unfold f0_0
  refine own_pre (F' := T0.setTop (mkF m 1 #[.val (.long q0), .second, .val (.int p1), .unset, .unset, .unset, .unset, .unset, .unset, .unset, .unset, .unset, .unset] [(.int (1 : Int32))])) (fun _ k => XS.iconst X0.here hx rfl (hb hby at_0) k) ?_
  refine own_pre (F' := T0.setTop (mkF m 2 #[.val (.long q0), .second, .val (.int p1), .unset, .unset, .unset, .unset, .unset, .unset, .unset, .unset, .unset, .unset] [(.int p1), (.int (1 : Int32))])) (fun _ k => XS.iloadN X0.here hx rfl (hb hby at_1) rfl k) ?_
  refine own_pre (F' := T0.setTop (mkF m 4 #[.val (.long q0), .second, .val (.int p1), .unset, .unset, .unset, .unset, .unset, .unset, .unset, .unset, .unset, .unset] [(.int (2147483647 : Int32)), (.int p1), (.int (1 : Int32))])) (fun _ k => X0.ldcInt hx hown (mvT hZ (hw _ (List.mem_of_getElem? (i := 0) rfl))) (g := (mkF m 2 #[.val (.long q0), .second, .val (.int p1), .unset, .unset, .unset, .unset, .unset, .unset, .unset, .unset, .unset, .unset] [(.int p1), (.int (1 : Int32))])) rfl (hb hby at_2) _ k) ?_
  refine own_pre (F' := T0.setTop (mkF m 5 #[.val (.long q0), .second, .val (.int p1), .unset, .unset, .unset, .unset, .unset, .unset, .unset, .unset, .unset, .unset] [(.int (p1 &&& (2147483647 : Int32))), (.int (1 : Int32))])) (fun _ k => XS.iand X0.here hx rfl (hb hby at_4) rfl k) ?_
  obtain ⟨_, _, ⟨T1, L', k', n'⟩, -, X'', ⟨Lc', hQ', l', y', z'⟩, st'⟩ := Jvm.LawKit.callS X0 hx (y := (⟨"java/lang/Math", "max", "(II)I"⟩ : MethodName)) hown (mvT hZ (hw _ (List.mem_of_getElem? (i := 1) rfl))) (mvT hZ (hw _ (List.mem_of_getElem? (i := 2) rfl))) (mvT hZ (hw _ (List.mem_of_getElem? (i := 3) rfl))) (mvT hZ (hw _ (List.mem_of_getElem? (i := 4) rfl))) (by decide) (backOf (W := 0) (rm1 l Z aw hw [] (1 : Int32) (p1 &&& (2147483647 : Int32)) h0) hZ (hw _ (List.mem_of_getElem? (i := 4) rfl)) (hw _ (List.mem_of_getElem? (i := 3) rfl)) (by decide) (by decide)) (g := (mkF m 5 #[.val (.long q0), .second, .val (.int p1), .unset, .unset, .unset, .unset, .unset, .unset, .unset, .unset, .unset, .unset] [(.int (p1 &&& (2147483647 : Int32))), (.int (1 : Int32))])) rfl (by rw [hml]; rfl) (argsL := [(.int (1 : Int32)), (.int (p1 &&& (2147483647 : Int32)))]) (rest := []) (lenOf own_pd0 rfl) rfl (by show 2 * 0 + _ ≤ _; exact Nat.le_of_eq rfl) (hb hby at_5) (fun _ _ => ⟨rfl, e0, (by decide : 0 + 0 ≤ _), (by decide : 0 + 0 ≤ _)⟩)
  dsimp only [Pt.U, Pt.locs, Pt.cells, Pt.slots] at X'' l' y' z' st' hQ'
  subst l' y' z'
  obtain ⟨rfl, rfl, e1⟩ := hQ'
  have X1 : Stand p l e room_1 s m #[(.long q0), (.int p1)] below meth c T1 [] 0 0 := X''
  refine own_pre (F' := T1.setTop (mkF m 8 #[.val (.long q0), .second, .val (.int p1), .unset, .unset, .unset, .unset, .unset, .unset, .unset, .unset, .unset, .unset] [(.int (f1_0 (1 : Int32) (p1 &&& (2147483647 : Int32))))])) (fun t k => st' t k) ?_
  refine own_pre (F' := T1.setTop (mkF m 9 #[.val (.long q0), .second, .val (.int p1), .val (.int (f1_0 (1 : Int32) (p1 &&& (2147483647 : Int32)))), .unset, .unset, .unset, .unset, .unset, .unset, .unset, .unset, .unset] [])) (fun _ k => XS.istoreN X1.here hx rfl (hb hby at_8) rfl (l' := #[.val (.long q0), .second, .val (.int p1), .val (.int (f1_0 (1 : Int32) (p1 &&& (2147483647 : Int32)))), .unset, .unset, .unset, .unset, .unset, .unset, .unset, .unset, .unset]) rfl k) ?_
  refine own_pre (F' := T1.setTop (mkF m 12 #[.val (.long q0), .second, .val (.int p1), .val (.int (f1_0 (1 : Int32) (p1 &&& (2147483647 : Int32)))), .unset, .unset, .unset, .unset, .unset, .unset, .unset, .unset, .unset] [(.long (2147483639 : Int64))])) (fun _ k => X1.ldc2Long hx hown (mvT hZ (hw _ (List.mem_of_getElem? (i := 5) rfl))) (g := (mkF m 9 #[.val (.long q0), .second, .val (.int p1), .val (.int (f1_0 (1 : Int32) (p1 &&& (2147483647 : Int32)))), .unset, .unset, .unset, .unset, .unset, .unset, .unset, .unset, .unset] [])) rfl (hb hby at_9) _ k) ?_
  refine own_pre (F' := T1.setTop (mkF m 13 #[.val (.long q0), .second, .val (.int p1), .val (.int (f1_0 (1 : Int32) (p1 &&& (2147483647 : Int32)))), .unset, .unset, .unset, .unset, .unset, .unset, .unset, .unset, .unset] [(.int (f1_0 (1 : Int32) (p1 &&& (2147483647 : Int32)))), (.long (2147483639 : Int64))])) (fun _ k => XS.iloadN X1.here hx rfl (hb hby at_12) rfl k) ?_
  refine own_pre (F' := T1.setTop (mkF m 14 #[.val (.long q0), .second, .val (.int p1), .val (.int (f1_0 (1 : Int32) (p1 &&& (2147483647 : Int32)))), .unset, .unset, .unset, .unset, .unset, .unset, .unset, .unset, .unset] [(.long ((f1_0 (1 : Int32) (p1 &&& (2147483647 : Int32))).toInt64)), (.long (2147483639 : Int64))])) (fun _ k => XS.i2l X1.here hx rfl (hb hby at_13) rfl k) ?_
  refine own_pre (F' := T1.setTop (mkF m 15 #[.val (.long q0), .second, .val (.int p1), .val (.int (f1_0 (1 : Int32) (p1 &&& (2147483647 : Int32)))), .unset, .unset, .unset, .unset, .unset, .unset, .unset, .unset, .unset] [(.long ((2147483639 : Int64) * ((f1_0 (1 : Int32) (p1 &&& (2147483647 : Int32))).toInt64)))])) (fun _ k => XS.lmul X1.here hx rfl (hb hby at_14) rfl k) ?_
  refine own_pre (F' := T1.setTop (mkF m 17 #[.val (.long q0), .second, .val (.int p1), .val (.int (f1_0 (1 : Int32) (p1 &&& (2147483647 : Int32)))), .val (.long ((2147483639 : Int64) * ((f1_0 (1 : Int32) (p1 &&& (2147483647 : Int32))).toInt64))), .second, .unset, .unset, .unset, .unset, .unset, .unset, .unset] [])) (fun _ k => XS.lstore X1.here hx rfl (hb hby at_15) rfl (l' := #[.val (.long q0), .second, .val (.int p1), .val (.int (f1_0 (1 : Int32) (p1 &&& (2147483647 : Int32)))), .val (.long ((2147483639 : Int64) * ((f1_0 (1 : Int32) (p1 &&& (2147483647 : Int32))).toInt64))), .second, .unset, .unset, .unset, .unset, .unset, .unset, .unset]) rfl k) ?_
  refine own_pre (F' := T1.setTop (mkF m 18 #[.val (.long q0), .second, .val (.int p1), .val (.int (f1_0 (1 : Int32) (p1 &&& (2147483647 : Int32)))), .val (.long ((2147483639 : Int64) * ((f1_0 (1 : Int32) (p1 &&& (2147483647 : Int32))).toInt64))), .second, .unset, .unset, .unset, .unset, .unset, .unset, .unset] [(.long q0)])) (fun _ k => XS.lloadN X1.here hx rfl (hb hby at_17) rfl k) ?_
  refine own_pre (F' := T1.setTop (mkF m 21 #[.val (.long q0), .second, .val (.int p1), .val (.int (f1_0 (1 : Int32) (p1 &&& (2147483647 : Int32)))), .val (.long ((2147483639 : Int64) * ((f1_0 (1 : Int32) (p1 &&& (2147483647 : Int32))).toInt64))), .second, .unset, .unset, .unset, .unset, .unset, .unset, .unset] [(.long (9223372036854775807 : Int64)), (.long q0)])) (fun _ k => X1.ldc2Long hx hown (mvT hZ (hw _ (List.mem_of_getElem? (i := 6) rfl))) (g := (mkF m 18 #[.val (.long q0), .second, .val (.int p1), .val (.int (f1_0 (1 : Int32) (p1 &&& (2147483647 : Int32)))), .val (.long ((2147483639 : Int64) * ((f1_0 (1 : Int32) (p1 &&& (2147483647 : Int32))).toInt64))), .second, .unset, .unset, .unset, .unset, .unset, .unset, .unset] [(.long q0)])) rfl (hb hby at_18) _ k) ?_
  refine own_pre (F' := T1.setTop (mkF m 22 #[.val (.long q0), .second, .val (.int p1), .val (.int (f1_0 (1 : Int32) (p1 &&& (2147483647 : Int32)))), .val (.long ((2147483639 : Int64) * ((f1_0 (1 : Int32) (p1 &&& (2147483647 : Int32))).toInt64))), .second, .unset, .unset, .unset, .unset, .unset, .unset, .unset] [(.long (q0 &&& (9223372036854775807 : Int64)))])) (fun _ k => XS.land X1.here hx rfl (hb hby at_21) rfl k) ?_
  refine own_pre (F' := T1.setTop (mkF m 24 #[.val (.long q0), .second, .val (.int p1), .val (.int (f1_0 (1 : Int32) (p1 &&& (2147483647 : Int32)))), .val (.long ((2147483639 : Int64) * ((f1_0 (1 : Int32) (p1 &&& (2147483647 : Int32))).toInt64))), .second, .unset, .unset, .unset, .unset, .unset, .unset, .unset] [(.long ((2147483639 : Int64) * ((f1_0 (1 : Int32) (p1 &&& (2147483647 : Int32))).toInt64))), (.long (q0 &&& (9223372036854775807 : Int64)))])) (fun _ k => XS.lload X1.here hx rfl (hb hby at_22) rfl k) ?_
  refine own_pre (F' := T1.setTop (mkF m 25 #[.val (.long q0), .second, .val (.int p1), .val (.int (f1_0 (1 : Int32) (p1 &&& (2147483647 : Int32)))), .val (.long ((2147483639 : Int64) * ((f1_0 (1 : Int32) (p1 &&& (2147483647 : Int32))).toInt64))), .second, .unset, .unset, .unset, .unset, .unset, .unset, .unset] [(.long ((q0 &&& (9223372036854775807 : Int64)) % ((2147483639 : Int64) * ((f1_0 (1 : Int32) (p1 &&& (2147483647 : Int32))).toInt64))))])) (fun _ k => own_lremM X1 hx rfl (hb hby at_24) rfl (own_nz p1) k) ?_
  refine own_pre (F' := T1.setTop (mkF m 26 #[.val (.long q0), .second, .val (.int p1), .val (.int (f1_0 (1 : Int32) (p1 &&& (2147483647 : Int32)))), .val (.long ((2147483639 : Int64) * ((f1_0 (1 : Int32) (p1 &&& (2147483647 : Int32))).toInt64))), .second, .unset, .unset, .unset, .unset, .unset, .unset, .unset] [(.long (1 : Int64)), (.long ((q0 &&& (9223372036854775807 : Int64)) % ((2147483639 : Int64) * ((f1_0 (1 : Int32) (p1 &&& (2147483647 : Int32))).toInt64))))])) (fun _ k => XS.lconst X1.here hx rfl (hb hby at_25) k) ?_
  refine own_pre (F' := T1.setTop (mkF m 27 #[.val (.long q0), .second, .val (.int p1), .val (.int (f1_0 (1 : Int32) (p1 &&& (2147483647 : Int32)))), .val (.long ((2147483639 : Int64) * ((f1_0 (1 : Int32) (p1 &&& (2147483647 : Int32))).toInt64))), .second, .unset, .unset, .unset, .unset, .unset, .unset, .unset] [(.long (((q0 &&& (9223372036854775807 : Int64)) % ((2147483639 : Int64) * ((f1_0 (1 : Int32) (p1 &&& (2147483647 : Int32))).toInt64))) + (1 : Int64)))])) (fun _ k => XS.ladd X1.here hx rfl (hb hby at_26) rfl k) ?_
  refine own_pre (F' := T1.setTop (mkF m 29 #[.val (.long q0), .second, .val (.int p1), .val (.int (f1_0 (1 : Int32) (p1 &&& (2147483647 : Int32)))), .val (.long ((2147483639 : Int64) * ((f1_0 (1 : Int32) (p1 &&& (2147483647 : Int32))).toInt64))), .second, .val (.long (((q0 &&& (9223372036854775807 : Int64)) % ((2147483639 : Int64) * ((f1_0 (1 : Int32) (p1 &&& (2147483647 : Int32))).toInt64))) + (1 : Int64))), .second, .unset, .unset, .unset, .unset, .unset] [])) (fun _ k => XS.lstore X1.here hx rfl (hb hby at_27) rfl (l' := #[.val (.long q0), .second, .val (.int p1), .val (.int (f1_0 (1 : Int32) (p1 &&& (2147483647 : Int32)))), .val (.long ((2147483639 : Int64) * ((f1_0 (1 : Int32) (p1 &&& (2147483647 : Int32))).toInt64))), .second, .val (.long (((q0 &&& (9223372036854775807 : Int64)) % ((2147483639 : Int64) * ((f1_0 (1 : Int32) (p1 &&& (2147483647 : Int32))).toInt64))) + (1 : Int64))), .second, .unset, .unset, .unset, .unset, .unset]) rfl k) ?_
  refine own_pre (F' := T1.setTop (mkF m 31 #[.val (.long q0), .second, .val (.int p1), .val (.int (f1_0 (1 : Int32) (p1 &&& (2147483647 : Int32)))), .val (.long ((2147483639 : Int64) * ((f1_0 (1 : Int32) (p1 &&& (2147483647 : Int32))).toInt64))), .second, .val (.long (((q0 &&& (9223372036854775807 : Int64)) % ((2147483639 : Int64) * ((f1_0 (1 : Int32) (p1 &&& (2147483647 : Int32))).toInt64))) + (1 : Int64))), .second, .unset, .unset, .unset, .unset, .unset] [(.long (((q0 &&& (9223372036854775807 : Int64)) % ((2147483639 : Int64) * ((f1_0 (1 : Int32) (p1 &&& (2147483647 : Int32))).toInt64))) + (1 : Int64)))])) (fun _ k => XS.lload X1.here hx rfl (hb hby at_29) rfl k) ?_
  refine own_pre (F' := T1.setTop (mkF m 32 #[.val (.long q0), .second, .val (.int p1), .val (.int (f1_0 (1 : Int32) (p1 &&& (2147483647 : Int32)))), .val (.long ((2147483639 : Int64) * ((f1_0 (1 : Int32) (p1 &&& (2147483647 : Int32))).toInt64))), .second, .val (.long (((q0 &&& (9223372036854775807 : Int64)) % ((2147483639 : Int64) * ((f1_0 (1 : Int32) (p1 &&& (2147483647 : Int32))).toInt64))) + (1 : Int64))), .second, .unset, .unset, .unset, .unset, .unset] [(.int (f1_0 (1 : Int32) (p1 &&& (2147483647 : Int32)))), (.long (((q0 &&& (9223372036854775807 : Int64)) % ((2147483639 : Int64) * ((f1_0 (1 : Int32) (p1 &&& (2147483647 : Int32))).toInt64))) + (1 : Int64)))])) (fun _ k => XS.iloadN X1.here hx rfl (hb hby at_31) rfl k) ?_
  obtain ⟨_, _, ⟨T2, L', k', n'⟩, -, X'', ⟨Lc', hQ', l', y', z'⟩, st'⟩ := Jvm.LawKit.callS X1 hx (y := (⟨"com/example/probable_set/probableset/cells/CellWords", "wordsFor", "(JI)I"⟩ : MethodName)) hown (mvT hZ (hw _ (List.mem_of_getElem? (i := 7) rfl))) (mvT hZ (hw _ (List.mem_of_getElem? (i := 8) rfl))) (mvT hZ (hw _ (List.mem_of_getElem? (i := 9) rfl))) (mvT hZ (hw _ (List.mem_of_getElem? (i := 10) rfl))) (by decide) (backOf (W := 0) (rm2 l Z aw hw [] (((q0 &&& (9223372036854775807 : Int64)) % ((2147483639 : Int64) * ((f1_0 (1 : Int32) (p1 &&& (2147483647 : Int32))).toInt64))) + (1 : Int64)) (f1_0 (1 : Int32) (p1 &&& (2147483647 : Int32))) h0 (own_h1 q0 p1) (own_h2 q0 p1) (own_h3 p1)) hZ (hw _ (List.mem_of_getElem? (i := 10) rfl)) (hw _ (List.mem_of_getElem? (i := 9) rfl)) (by decide) (by decide)) (g := (mkF m 32 #[.val (.long q0), .second, .val (.int p1), .val (.int (f1_0 (1 : Int32) (p1 &&& (2147483647 : Int32)))), .val (.long ((2147483639 : Int64) * ((f1_0 (1 : Int32) (p1 &&& (2147483647 : Int32))).toInt64))), .second, .val (.long (((q0 &&& (9223372036854775807 : Int64)) % ((2147483639 : Int64) * ((f1_0 (1 : Int32) (p1 &&& (2147483647 : Int32))).toInt64))) + (1 : Int64))), .second, .unset, .unset, .unset, .unset, .unset] [(.int (f1_0 (1 : Int32) (p1 &&& (2147483647 : Int32)))), (.long (((q0 &&& (9223372036854775807 : Int64)) % ((2147483639 : Int64) * ((f1_0 (1 : Int32) (p1 &&& (2147483647 : Int32))).toInt64))) + (1 : Int64)))])) rfl (by rw [hml]; rfl) (argsL := [(.long (((q0 &&& (9223372036854775807 : Int64)) % ((2147483639 : Int64) * ((f1_0 (1 : Int32) (p1 &&& (2147483647 : Int32))).toInt64))) + (1 : Int64))), (.int (f1_0 (1 : Int32) (p1 &&& (2147483647 : Int32))))]) (rest := []) (lenOf own_pd1 rfl) rfl (by show 2 * 0 + _ ≤ _; exact Nat.le_of_eq rfl) (hb hby at_32) (fun _ _ => ⟨rfl, e1, (by decide : 0 + 0 ≤ _), (by decide : 0 + 0 ≤ _)⟩)
  dsimp only [Pt.U, Pt.locs, Pt.cells, Pt.slots] at X'' l' y' z' st' hQ'
  subst l' y' z'
  obtain ⟨rfl, rfl, e2⟩ := hQ'
  have X2 : Stand p l e room_1 s m #[(.long q0), (.int p1)] below meth c T2 [] 0 0 := X''
  refine own_pre (F' := T2.setTop (mkF m 35 #[.val (.long q0), .second, .val (.int p1), .val (.int (f1_0 (1 : Int32) (p1 &&& (2147483647 : Int32)))), .val (.long ((2147483639 : Int64) * ((f1_0 (1 : Int32) (p1 &&& (2147483647 : Int32))).toInt64))), .second, .val (.long (((q0 &&& (9223372036854775807 : Int64)) % ((2147483639 : Int64) * ((f1_0 (1 : Int32) (p1 &&& (2147483647 : Int32))).toInt64))) + (1 : Int64))), .second, .unset, .unset, .unset, .unset, .unset] [(.int (f2_0 (((q0 &&& (9223372036854775807 : Int64)) % ((2147483639 : Int64) * ((f1_0 (1 : Int32) (p1 &&& (2147483647 : Int32))).toInt64))) + (1 : Int64)) (f1_0 (1 : Int32) (p1 &&& (2147483647 : Int32)))))])) (fun t k => st' t k) ?_
  refine own_pre (F' := T2.setTop (mkF m 37 #[.val (.long q0), .second, .val (.int p1), .val (.int (f1_0 (1 : Int32) (p1 &&& (2147483647 : Int32)))), .val (.long ((2147483639 : Int64) * ((f1_0 (1 : Int32) (p1 &&& (2147483647 : Int32))).toInt64))), .second, .val (.long (((q0 &&& (9223372036854775807 : Int64)) % ((2147483639 : Int64) * ((f1_0 (1 : Int32) (p1 &&& (2147483647 : Int32))).toInt64))) + (1 : Int64))), .second, .val (.int (f2_0 (((q0 &&& (9223372036854775807 : Int64)) % ((2147483639 : Int64) * ((f1_0 (1 : Int32) (p1 &&& (2147483647 : Int32))).toInt64))) + (1 : Int64)) (f1_0 (1 : Int32) (p1 &&& (2147483647 : Int32))))), .unset, .unset, .unset, .unset] [])) (fun _ k => XS.istore X2.here hx rfl (hb hby at_35) rfl (l' := #[.val (.long q0), .second, .val (.int p1), .val (.int (f1_0 (1 : Int32) (p1 &&& (2147483647 : Int32)))), .val (.long ((2147483639 : Int64) * ((f1_0 (1 : Int32) (p1 &&& (2147483647 : Int32))).toInt64))), .second, .val (.long (((q0 &&& (9223372036854775807 : Int64)) % ((2147483639 : Int64) * ((f1_0 (1 : Int32) (p1 &&& (2147483647 : Int32))).toInt64))) + (1 : Int64))), .second, .val (.int (f2_0 (((q0 &&& (9223372036854775807 : Int64)) % ((2147483639 : Int64) * ((f1_0 (1 : Int32) (p1 &&& (2147483647 : Int32))).toInt64))) + (1 : Int64)) (f1_0 (1 : Int32) (p1 &&& (2147483647 : Int32))))), .unset, .unset, .unset, .unset]) rfl k) ?_
  exact g0_37 hw q0 p1 (f1_0 (1 : Int32) (p1 &&& (2147483647 : Int32))) ((2147483639 : Int64) * ((f1_0 (1 : Int32) (p1 &&& (2147483647 : Int32))).toInt64)) (((q0 &&& (9223372036854775807 : Int64)) % ((2147483639 : Int64) * ((f1_0 (1 : Int32) (p1 &&& (2147483647 : Int32))).toInt64))) + (1 : Int64)) (f2_0 (((q0 &&& (9223372036854775807 : Int64)) % ((2147483639 : Int64) * ((f1_0 (1 : Int32) (p1 &&& (2147483647 : Int32))).toInt64))) + (1 : Int64)) (f1_0 (1 : Int32) (p1 &&& (2147483647 : Int32)))) Bd hml hZ T2 X2 e2
theorem ef_0 (m : MethodId) (q0 : Int64) (p1 : Int32) : entryFrame m #[(.long q0), (.int p1)] maxLocals = mkF m 0 #[.val (.long q0), .second, .val (.int p1), .unset, .unset, .unset, .unset, .unset, .unset, .unset, .unset, .unset, .unset] [] := by first | (simp [entryFrame, mkF, argsToLocals, Value.category, maxLocals]; done) | rfl
set_option maxRecDepth 65536 in
set_option maxHeartbeats 40000000 in
theorem rm0 (l : Launch) (Z : State) (aw : Array Value) (hw : ∀ d ∈ tables_1, d.before aw Z = true) (ws : List Jvm.Cond) (q0 : Int64) (p1 : Int32) (h0 : Heap) :
    MetFree l x (head1 (Jvm.Cond.code x code maxLocals ret :: ws) room_1) (fun a U => a = #[(.long q0), (.int p1)] ∧ Z.Warmed39 U.vm ∧ U.heap = h0) (fun _ _ _ _ _ => True) (fun _ U o U' => ∃ v L, o = .returned v ∧ own_Q (some (.int (f0_0 q0 p1))) (own_K0 h0) v U'.heap L ∧ FrameEnd U o U' L room_1.cells room_1.slots) := by
  refine MetFree.of_bodySF (plainFor_of_name own_pn1) hisR ?_
  intro p e s m args below meth c s₁ Bd hml0 hP hK
  obtain ⟨rfl, hZ, hh⟩ := hP
  have hml : c.maxLocals = 13 := hml0
  have e0 : s₁.heap = h0 := by rw [← hh, Bd.state]; rfl
  exact own_pre (fun t k => castTop (ef_0 m q0 p1) k) (g0_0 hw q0 p1 Bd hml hZ s₁ (Stand.of_body Bd) e0)
theorem own_words (n : Int64) (w : Int32) (h1 : 1 ≤ w.toInt) (h2 : 1 ≤ n.toInt) (h3 : n.toInt ≤ 2147483639 * w.toInt) :
    1 ≤ (f2_0 n w).toInt ∧ (f2_0 n w).toInt ≤ 2147483639 ∧ ((f2_0 n w).toInt - 1) * w.toInt < n.toInt ∧ n.toInt ≤ (f2_0 n w).toInt * w.toInt := by
  have rw' := rng32 w
  have a1 := c_ladd n (w.toInt64)
  have a2 := c_lsub (n + w.toInt64) 1
  rw [c_i2l] at a1
  rw [show (1 : Int64).toInt = 1 from by decide] at a2
  have r1 := rng64 (n + w.toInt64)
  have r2 := rng64 (n + w.toInt64 - 1)
  have e1 : (n + w.toInt64).toInt = n.toInt + w.toInt := by omega
  have e2 : (n + w.toInt64 - 1).toInt = n.toInt + w.toInt - 1 := by omega
  have nm : (w.toInt64 : Int64) ≠ -1 := by
    intro q; have := congrArg Int64.toInt q; rw [c_i2l, show (-1 : Int64).toInt = -1 from by decide] at this; omega
  have d := (c_ldiv (n + w.toInt64 - 1) w.toInt64 w.toInt (c_i2l w) nm).1 (by omega)
  have t := c_l2i ((n + w.toInt64 - 1) / w.toInt64)
  rw [e2] at d
  have r3 := rng32 (((n + w.toInt64 - 1) / w.toInt64).toInt32)
  unfold f2_0
  rw [d] at t
  have q1 := Int.mul_ediv_self_le (x := n.toInt + w.toInt - 1) (k := w.toInt) (by omega)
  have q2 := Int.lt_mul_ediv_self_add (x := n.toInt + w.toInt - 1) (k := w.toInt) (by omega)
  have q3 : 1 ≤ (n.toInt + w.toInt - 1) / w.toInt := by
    rw [Int.le_ediv_iff_mul_le (by omega)]; omega
  have q4 : (n.toInt + w.toInt - 1) / w.toInt < 2147483640 := by
    rw [Int.ediv_lt_iff_lt_mul (by omega)]; omega
  generalize (n.toInt + w.toInt - 1) / w.toInt = z at *
  have e3 : (((n + w.toInt64 - 1) / w.toInt64).toInt32).toInt = z := by omega
  rw [e3, Int.sub_mul, Int.mul_comm z]
  omega
theorem own_law (a : Int64) (b : Int32) : f0_0 a b = 1 := by
  have hp := own_pwI b
  have hc := own_cellsI a b
  obtain ⟨k1, k2, k3, k4⟩ := own_words (own_cells a b) (own_pw b) hp.1 hc.1 hc.2
  show f0_37 a b (own_pw b) (own_cells a b) (f2_0 (own_cells a b) (own_pw b)) = 1
  generalize own_cells a b = n at *
  generalize own_pw b = w at *
  generalize f2_0 n w = z at *
  have s1 := c_isub z 1
  rw [show (1 : Int32).toInt = 1 from by decide] at s1
  have rz := rng32 (z - 1)
  have e1 : (z - 1).toInt = z.toInt - 1 := by omega
  have m1 := c_lmul (z - 1).toInt64 w.toInt64
  have m2 := c_lmul z.toInt64 w.toInt64
  rw [c_i2l, c_i2l] at m1 m2
  rw [e1] at m1
  have r1 := rng64 ((z - 1).toInt64 * w.toInt64)
  have r2 := rng64 (z.toInt64 * w.toInt64)
  have b0 : (z.toInt - 1) * w.toInt = z.toInt * w.toInt - w.toInt := by rw [Int.sub_mul]; omega
  have b1 : 0 ≤ (z.toInt - 1) * w.toInt := Int.mul_nonneg (by omega) (by omega)
  have b2 : z.toInt * w.toInt < 2147483640 * 2147483648 := by
    have := Int.mul_le_mul (show z.toInt ≤ 2147483639 by omega) (show w.toInt ≤ 2147483647 by omega) (by omega) (by decide)
    omega
  unfold f0_37
  rw [if_neg (by rw [Int32.lt_iff_toInt_lt, show (1 : Int32).toInt = 1 from by decide]; omega), if_neg (by rw [Int32.lt_iff_toInt_lt, show (2147483639 : Int32).toInt = 2147483639 from by decide]; omega),
    if_pos (by rw [Int64.lt_iff_toInt_lt]; omega), if_neg (by rw [Int64.lt_iff_toInt_lt]; omega)]
set_option maxRecDepth 65536 in
set_option maxHeartbeats 40000000 in
theorem comes_1 {Post : Tables → Env → Array Value → State → Outcome → State → Prop} (hpost : ∀ tb e args s v u, (limb_1_1.after args s (.returned v) u = true ∧ limb_1_2.after args s (.returned v) u = true ∧ True) → FrameEnd s (.returned v) u (Jvm.fieldLocs frame_1_writes args s ++ Jvm.arrayLocs frame_1_arrays args s ++ Jvm.staticLocs frame_1_statics s) 0 0 → Post tb e args s (.returned v) u) :
    ArmFor flags0 classFile x code maxLocals ret World_1 tables_1 room_1 Calls_1 rest_1 Pre_1 Post := by
  intro l hfl _ _ p e ha hc hk s m args below hf hA hF happ hP
  obtain ⟨hcalls, hrest, hpre⟩ := hP
  obtain ⟨-, -, -, hnamed, -, -, -, hat⟩ := (Spec.applies_iff hf).mp happ
  obtain ⟨hg, hn⟩ := and_e (Cond.before_iff.mp (show (Jvm.Cond.and given_1 narrow_1).before args s = true from hpre))
  obtain ⟨g1, g2⟩ := and_e hg
  obtain ⟨g3, g4⟩ := and_e g2
  obtain ⟨w0, w1, rfl⟩ : ∃ w0 w1 : Value, args = #[w0, w1] := by
    have hs : args.size = 2 := by simpa [Cond.value, given_1] using g1
    obtain ⟨L⟩ := args
    match L, hs with
    | [w0, w1], _ => exact ⟨w0, w1, rfl⟩
  have hw := fun d (hd : d ∈ tables_1) => atoms_spec (ws := Jvm.Cond.code x code maxLocals ret :: tables_1) hat d (List.mem_cons_of_mem _ hd)
  have hfit : Fit s := fun {y c} hc i hi => by
    obtain ⟨ha, rfl⟩ := Array.getElem?_eq_some_iff.mp hc
    have q := List.all_eq_true.mp ((Array.all_eq_true_iff_forall_mem.mp hF) _ (Array.getElem_mem ha)) i (List.mem_range.mpr hi)
    simpa [Array.getElem?_eq_getElem hi] using q
  obtain ⟨i0, ei0⟩ := isL_v g3
  obtain rfl : w0 = (.long i0) := Option.some.inj ei0
  obtain ⟨i1, ei1⟩ := is_v g4
  obtain rfl : w1 = (.int i1) := Option.some.inj ei1
  obtain ⟨n, o, h1, h2, h3, v, L, rfl, ⟨hv, hK⟩, hq⟩ := rm0 l s _ hw tables_1 i0 i1 s.heap p e ha hc hk s m _ below hf ((Spec.applies_iff_loose hf).mp happ).1 ⟨rfl, State.Warmed39.refl s, rfl⟩ trivial
  rw [own_law] at hv
  subst hv
  refine ⟨n, _, h1, h2, h3, hpost _ _ _ _ _ _ ⟨Cond.after_iff.mpr rfl, Cond.after_iff.mpr (eq_i res_at (Term.int_eval (1)) rfl), trivial⟩ ⟨hq.1, hq.2.1, (hq.2.2.sift fun y hy => ?_).mono (by decide) (by decide)⟩⟩
  rw [hK.1] at hy
  cases hy
theorem main_1_1 : Claimed_1_1 := comes_1 fun _ _ _ _ _ _ h hF => ⟨h.1, hF⟩
theorem main_1_2 : Claimed_1_2 := comes_1 fun _ _ _ _ _ _ h hF => ⟨h.2.1, hF⟩
end Jvm.Pilot.@@N@@
namespace Jvm.Pilot.@@N@@
open Jvm Jvm.ClassFile Sem Op Lib Jvm.Free Jvm.Stand Jvm.Pilot.@@N@@.Jvm.D
/-! MADE BY PROGRAM (witnessworld.py) out of the Statement's table words and the real class files: 10 classes; the members and pool entries that the words name. The judged class is class 1, her method 1. -/
namespace start1
open Jvm.ClassFile
def u (s : String) : CpInfo := .utf8 (stringToUtf16 s)
/-- a pool by its gaps: so many unusable entries, then the entry; so many at the end -/
def gap : Nat → List CpInfo → List CpInfo
  | 0, r => r
  | n + 1, r => .unusable :: gap n r
def poolList (es : List (Nat × CpInfo)) (last : Nat) : List CpInfo := es.foldr (fun e r => gap e.1 (e.2 :: r)) (gap last [])
def pool (es : List (Nat × CpInfo)) (last : Nat) : Array CpInfo := ⟨poolList es last⟩
def fileOf (pool : Array CpInfo) (this : Nat) (attrs : Array Attribute := #[]) (ms : Array MethodInfo := #[]) (fl : Nat := 33) (sup : Nat := 0) (ifs : Array Nat := #[]) (fds : Array FieldInfo := #[]) : ClassFile where
  minorVersion := 0
  majorVersion := 65
  constantPool := pool
  accessFlags := fl
  thisClass := this
  superClass := sup
  interfaces := ifs
  fields := fds
  methods := ms
  attributes := attrs
def plain (name : String) (sup : Option ClassId) : Class where
  name := name
  kind := .ordinary
  loader := none
  accessFlags := 33
  super := sup
  interfaces := #[]
  cf := none
  fields := #[]
  methods := #[]
  instanceTypes := #[]
  staticTypes := #[]
  resolved := #[]
  callSites := []
  init := .initialized
  statics := none
  mirror := none

def pool0 : Array CpInfo := pool [(5, u "<init>"), (0, u "()V"), (1, .class_ 10), (1, u "java/lang/Object")] 113

def k0m0 : Method := { name := "<init>", desc := "()V", sig := { parameters := [], returnType := none }, accessFlags := 1, code := none }
/-- java/lang/Object -/
def k0 : Class := { plain "java/lang/Object" none with
  accessFlags := 33
  interfaces := #[]
  cf := some (fileOf pool0 8 #[] #[{ accessFlags := 1, nameIndex := 5, descriptorIndex := 6, attributes := #[] }] 33 0 #[] #[])
  fields := #[]
  methods := #[k0m0]
  instanceTypes := #[]
  staticTypes := #[]
  resolved := Array.replicate 124 none
  statics := none }

def pool1 : Array CpInfo := pool [(2, .class_ 4), (1, u "java/lang/Object"), (0, u "<init>"), (0, u "()V"), (0, .integer 2147483647), (0, .methodref 9 10), (0, .class_ 11), (0, .nameAndType 12 13), (0, u "java/lang/Math"), (0, u "max"), (0, u "(II)I"), (0, .long 2147483639), (3, .long 9223372036854775807), (1, .methodref 21 22), (0, .class_ 23), (0, .nameAndType 24 25), (0, u "com/example/probable_set/probableset/cells/CellWords"), (0, u "wordsFor"), (0, u "(JI)I"), (0, .integer 2147483639), (0, .class_ 28), (0, u "com/example/probable_set/probableset/cells/CellWordsWordsForPinLaw"), (2, u "law"), (0, u "(JI)Z")] 3

def k1m0 : Method := { name := "<init>", desc := "()V", sig := { parameters := [], returnType := none }, accessFlags := 1, code := none }
def k1c1 : Code := { maxStack := 4, maxLocals := 13, code := code, exceptionTable := #[], attributes := #[] }
def k1m1 : Method := { name := "law", desc := "(JI)Z", sig := { parameters := [.long, .int], returnType := some .boolean }, accessFlags := 9, code := some k1c1 }
/-- com/example/probable_set/probableset/cells/CellWordsWordsForPinLaw -/
def k1 : Class := { plain "com/example/probable_set/probableset/cells/CellWordsWordsForPinLaw" (some 0) with
  accessFlags := 49
  interfaces := #[]
  cf := some (fileOf pool1 27 #[] #[{ accessFlags := 1, nameIndex := 5, descriptorIndex := 6, attributes := #[] }, { accessFlags := 9, nameIndex := 31, descriptorIndex := 32, attributes := #[] }] 49 2 #[] #[])
  fields := #[]
  methods := #[k1m0, k1m1]
  instanceTypes := #[]
  staticTypes := #[]
  resolved := Array.replicate 36 none
  statics := none }

def pool2 : Array CpInfo := pool [(1, .class_ 2), (0, u "java/lang/Math"), (1, .class_ 6), (1, u "java/lang/Object"), (0, u "<init>"), (0, u "()V"), (89, .class_ 100), (1, u "java/lang/Math$RandomNumberGeneratorHolder"), (71, u "negativeZeroFloatBits"), (0, u "J"), (2, u "negativeZeroDoubleBits"), (21, u "max"), (46, u "$assertionsDisabled"), (0, u "Z"), (88, u "(II)I"), (2, u "twoToTheDoubleScaleDown"), (0, u "D"), (4, u "twoToTheDoubleScaleUp"), (9, u "E"), (3, u "PI"), (2, u "TAU"), (2, u "DEGREES_TO_RADIANS"), (0, u "RADIANS_TO_DEGREES")] 94

def k2m0 : Method := { name := "<init>", desc := "()V", sig := { parameters := [], returnType := none }, accessFlags := 2, code := none }
def k2c1 : Code := { maxStack := 2, maxLocals := 2, code := jdk_29_method_65_code, exceptionTable := #[], attributes := #[] }
def k2m1 : Method := { name := "max", desc := "(II)I", sig := { parameters := [.int, .int], returnType := some .int }, accessFlags := 9, code := some k2c1 }
/-- java/lang/Math -/
def k2 : Class := { plain "java/lang/Math" (some 0) with
  accessFlags := 49
  interfaces := #[]
  cf := some (fileOf pool2 1 #[.nestMembers #[98]] #[{ accessFlags := 2, nameIndex := 7, descriptorIndex := 8, attributes := #[] }, { accessFlags := 9, nameIndex := 198, descriptorIndex := 335, attributes := #[] }] 49 4 #[] #[{ accessFlags := 25, nameIndex := 354, descriptorIndex := 339, attributes := #[] }, { accessFlags := 25, nameIndex := 358, descriptorIndex := 339, attributes := #[] }, { accessFlags := 25, nameIndex := 361, descriptorIndex := 339, attributes := #[] }, { accessFlags := 26, nameIndex := 364, descriptorIndex := 339, attributes := #[] }, { accessFlags := 26, nameIndex := 365, descriptorIndex := 339, attributes := #[] }, { accessFlags := 26, nameIndex := 172, descriptorIndex := 173, attributes := #[] }, { accessFlags := 26, nameIndex := 176, descriptorIndex := 173, attributes := #[] }, { accessFlags := 8, nameIndex := 344, descriptorIndex := 339, attributes := #[] }, { accessFlags := 8, nameIndex := 338, descriptorIndex := 339, attributes := #[] }, { accessFlags := 4120, nameIndex := 245, descriptorIndex := 246, attributes := #[] }])
  fields := #[{ name := "E", type := .double, accessFlags := 25, slot := 0, constantValue := 0 }, { name := "PI", type := .double, accessFlags := 25, slot := 1, constantValue := 0 }, { name := "TAU", type := .double, accessFlags := 25, slot := 2, constantValue := 0 }, { name := "DEGREES_TO_RADIANS", type := .double, accessFlags := 26, slot := 3, constantValue := 0 }, { name := "RADIANS_TO_DEGREES", type := .double, accessFlags := 26, slot := 4, constantValue := 0 }, { name := "negativeZeroFloatBits", type := .long, accessFlags := 26, slot := 5, constantValue := 0 }, { name := "negativeZeroDoubleBits", type := .long, accessFlags := 26, slot := 6, constantValue := 0 }, { name := "twoToTheDoubleScaleUp", type := .double, accessFlags := 8, slot := 7, constantValue := 0 }, { name := "twoToTheDoubleScaleDown", type := .double, accessFlags := 8, slot := 8, constantValue := 0 }, { name := "$assertionsDisabled", type := .boolean, accessFlags := 4120, slot := 9, constantValue := 0 }]
  methods := #[k2m0, k2m1]
  instanceTypes := #[]
  staticTypes := #[.double, .double, .double, .double, .double, .long, .long, .double, .double, .boolean]
  resolved := Array.replicate 460 none
  statics := none }

def pool3 : Array CpInfo := pool [(4, .class_ 6), (1, u "java/lang/Object"), (0, u "<init>"), (0, u "()V"), (0, .class_ 10), (0, u "com/example/probable_set/probableset/cells/CellWords"), (0, .long 2147483639), (20, u "WORDS"), (0, u "Ljava/lang/invoke/VarHandle;"), (0, u "MAX_WORDS"), (0, u "I"), (4, u "wordsFor"), (0, u "(JI)I")] 17

def k3m0 : Method := { name := "<init>", desc := "()V", sig := { parameters := [], returnType := none }, accessFlags := 2, code := none }
def k3c1 : Code := { maxStack := 6, maxLocals := 5, code := prog_8_method_2_code, exceptionTable := #[], attributes := #[] }
def k3m1 : Method := { name := "wordsFor", desc := "(JI)I", sig := { parameters := [.long, .int], returnType := some .int }, accessFlags := 8, code := some k3c1 }
/-- com/example/probable_set/probableset/cells/CellWords -/
def k3 : Class := { plain "com/example/probable_set/probableset/cells/CellWords" (some 0) with
  accessFlags := 48
  interfaces := #[]
  cf := some (fileOf pool3 9 #[] #[{ accessFlags := 2, nameIndex := 7, descriptorIndex := 8, attributes := #[] }, { accessFlags := 8, nameIndex := 40, descriptorIndex := 41, attributes := #[] }] 48 4 #[] #[{ accessFlags := 24, nameIndex := 34, descriptorIndex := 35, attributes := #[] }, { accessFlags := 24, nameIndex := 32, descriptorIndex := 33, attributes := #[] }])
  fields := #[{ name := "MAX_WORDS", type := .int, accessFlags := 24, slot := 0, constantValue := 0 }, { name := "WORDS", type := (.object "java/lang/invoke/VarHandle"), accessFlags := 24, slot := 1, constantValue := 0 }]
  methods := #[k3m0, k3m1]
  instanceTypes := #[]
  staticTypes := #[.int, (.object "java/lang/invoke/VarHandle")]
  resolved := Array.replicate 59 none
  statics := none }

def pool4 : Array CpInfo := pool [(1, u "java/lang/Cloneable"), (0, .class_ 1), (0, u "java/lang/Object"), (0, .class_ 3)] 3

/-- java/lang/Cloneable -/
def k4 : Class := { plain "java/lang/Cloneable" (some 0) with
  accessFlags := 1537
  interfaces := #[]
  cf := some (fileOf pool4 2 #[] #[] 1537 4 #[] #[])
  fields := #[]
  methods := #[]
  instanceTypes := #[]
  staticTypes := #[]
  resolved := Array.replicate 8 none
  statics := none }

def pool5 : Array CpInfo := pool [(1, u "java/io/Serializable"), (0, .class_ 1), (0, u "java/lang/Object"), (0, .class_ 3)] 3

/-- java/io/Serializable -/
def k5 : Class := { plain "java/io/Serializable" (some 0) with
  accessFlags := 1537
  interfaces := #[]
  cf := some (fileOf pool5 2 #[] #[] 1537 4 #[] #[])
  fields := #[]
  methods := #[]
  instanceTypes := #[]
  staticTypes := #[]
  resolved := Array.replicate 8 none
  statics := none }

/-- the primitive byte -/
def k6 : Class := { plain "byte" none with kind := .primitive 'B', accessFlags := 0x411 }
/-- [B -/
def k7 : Class := { plain "[B" (some 0) with kind := .array 6 .byte, interfaces := #[4, 5], accessFlags := 1041 }

/-- the primitive int -/
def k8 : Class := { plain "int" none with kind := .primitive 'I', accessFlags := 0x411 }
/-- [I -/
def k9 : Class := { plain "[I" (some 0) with kind := .array 8 .int, interfaces := #[4, 5], accessFlags := 1041 }

def heap : Heap := #[]
def classes : Array Class := #[k0, k1, k2, k3, k4, k5, k6, k7, k8, k9]
def interned : List (Array UInt16 × Addr) := []
def slotsUsed : Nat := 0
def theMethod : MethodId := ⟨1, 1⟩
def args0 : Array Value := #[.long 5, .int 7]
def aboutOver (below : List Frame) : State where
  vm := { classes := classes, interned := interned.toArray }
  heap := heap
  slotsUsed := slotsUsed
  threads := #[{ frames := .invoking theMethod args0 :: below }]
def below0 : List Frame := [.native { method := ⟨0, 0⟩, args := #[] }]
def about1 : State := aboutOver below0
def p0 : Program := .bare "" "" ""
def e0 : Env := launch0.env 0 0 0
theorem w_frames : about1.frames = Frame.invoking theMethod args0 :: below0 := rfl
set_option maxRecDepth 65536 in
theorem w_args : argsFit about1.vm theMethod args0 = true := by decide +kernel
set_option maxRecDepth 65536 in
theorem w_heap : heapFits about1 = true := by decide +kernel
set_option maxRecDepth 65536 in
theorem w_runnable : about1.curStatus? = some .runnable := by decide +kernel
set_option maxRecDepth 65536 in
theorem w_alone : about1.alone = true := by decide +kernel
set_option maxRecDepth 65536 in
theorem w_named : about1.methodNamed? x = some theMethod := by decide +kernel
set_option maxRecDepth 65536 in
theorem w_hears : about1.hears theMethod below0 = true := by decide +kernel
set_option maxRecDepth 65536 in
theorem w_ripe : about1.ripe theMethod args0 below0 = true := by decide +kernel
theorem w_running : about1.status = .running := rfl
set_option maxRecDepth 65536 in
theorem w_room : about1.hasRoom e0.platform room_1 = true :=
  launch0.hasRoom_least _ room_1 (by decide +kernel) (by decide +kernel) (by decide +kernel) (by decide +kernel) (by decide +kernel) (by decide +kernel)
theorem allAtoms_all (ts : List Jvm.Cond) (a : Array Jvm.Value) (st : Jvm.State) : (allAtoms ts).before a st = ts.all (fun c => c.before a st) := by
  induction ts with
  | nil => rfl
  | cons c t ih =>
    show (Jvm.Cond.and c (allAtoms t)).before a st = _
    rw [Jvm.Cond.before_and, ih, List.all_cons]
def words1 : List Jvm.Cond := Jvm.Cond.code x code maxLocals ret :: tables_1
/-- a 'code' word, met by the world's own term for the bytes: nothing is compared byte by byte -/
theorem code_word {y : MethodName} {bytes : ByteArray} {mx : Nat} {rt : Option FieldType} {a : Array Value} {s : State} {m : MethodId} {meth : Method} {c : Code} (h1 : s.methodNamed? y = some m) (h2 : s.vm.method? m = some meth) (h3 : meth.code = some c) (h4 : c.code = bytes)
    (h5 : (c.maxLocals == mx && c.exceptionTable.isEmpty && decide (c.maxStack ≤ mostOperands) && decide (meth.sig.returnType = rt) && !meth.locks && decide (parseMethodDescriptor y.desc = some meth.sig)) = true) : (Jvm.Cond.code y bytes mx rt).before a s = true := by
  simp only [Bool.and_eq_true, beq_iff_eq, Bool.not_eq_true', decide_eq_true_eq] at h5
  obtain ⟨⟨⟨⟨⟨g1, g2⟩, g3⟩, g4⟩, g5⟩, g6⟩ := h5
  simp [Cond.before, Cond.holds, Cond.value, h1, h2, h3, h4, g1, g2, g3, g4, g5, g6]
def isCode : Jvm.Cond → Bool
  | .code _ _ _ _ => true
  | _ => false
theorem all_split {L : List Jvm.Cond} {P : Jvm.Cond → Bool} (h1 : L.all (fun c => isCode c || P c) = true) (h2 : ∀ c ∈ L.filter isCode, P c = true) : L.all P = true := by
  refine List.all_eq_true.mpr fun c hc => ?_
  have h := List.all_eq_true.mp h1 c hc
  rcases Bool.eq_false_or_eq_true (isCode c) with hi | hi
  · exact h2 c (List.mem_filter.mpr ⟨hc, hi⟩)
  · simpa [hi] using h
set_option maxRecDepth 65536 in
theorem w_c0 : (Jvm.Cond.code x code maxLocals ret).before args0 about1 = true := code_word (m := ⟨1, 1⟩) (meth := k1m1) (c := k1c1) (by decide +kernel) rfl rfl rfl (by decide +kernel)
set_option maxRecDepth 65536 in
theorem w_c1 : (Jvm.Cond.code ({ cls := "java/lang/Math", name := "max", desc := "(II)I" } : Jvm.MethodName) jdk_29_method_65_code (2 : Nat) (Option.some Jvm.ClassFile.FieldType.int)).before args0 about1 = true := code_word (m := ⟨2, 1⟩) (meth := k2m1) (c := k2c1) (by decide +kernel) rfl rfl rfl (by decide +kernel)
set_option maxRecDepth 65536 in
theorem w_c2 : (Jvm.Cond.code ({ cls := "com/example/probable_set/probableset/cells/CellWords", name := "wordsFor", desc := "(JI)I" } : Jvm.MethodName) prog_8_method_2_code (5 : Nat) (Option.some Jvm.ClassFile.FieldType.int)).before args0 about1 = true := code_word (m := ⟨3, 1⟩) (meth := k3m1) (c := k3c1) (by decide +kernel) rfl rfl rfl (by decide +kernel)
def codes1 : List Jvm.Cond := [Jvm.Cond.code x code maxLocals ret, Jvm.Cond.code ({ cls := "java/lang/Math", name := "max", desc := "(II)I" } : Jvm.MethodName) jdk_29_method_65_code (2 : Nat) (Option.some Jvm.ClassFile.FieldType.int), Jvm.Cond.code ({ cls := "com/example/probable_set/probableset/cells/CellWords", name := "wordsFor", desc := "(JI)I" } : Jvm.MethodName) prog_8_method_2_code (5 : Nat) (Option.some Jvm.ClassFile.FieldType.int)]
set_option maxRecDepth 65536 in
theorem codes_eq : words1.filter isCode = codes1 := rfl
theorem w_codes : ∀ c ∈ words1.filter isCode, c.before args0 about1 = true := by
  rw [codes_eq]
  intro c hc
  simp only [codes1, List.mem_cons, List.not_mem_nil, or_false] at hc
  rcases hc with rfl | rfl | rfl
  · exact w_c0
  · exact w_c1
  · exact w_c2
set_option maxRecDepth 65536 in
theorem w_t1 : words1.all (fun c => isCode c || c.before args0 about1) = true := by decide +kernel
theorem w_tables : (allAtoms (Jvm.Cond.code x code maxLocals ret :: tables_1)).before args0 about1 = true := by
  rw [allAtoms_all]
  show words1.all (fun c => c.before args0 about1) = true
  refine all_split ?_ w_codes
  rw [w_t1]
set_option maxRecDepth 65536 in
theorem w_case : (Jvm.Cond.and given_1 narrow_1).before args0 about1 = true := by decide +kernel
theorem w_applies : (headSpec (Jvm.Cond.code x code maxLocals ret :: tables_1) room_1).applies x e0.platform about1 = true :=
  (Spec.applies_iff w_frames).mpr ⟨w_running, w_runnable, w_alone, w_named, w_hears, w_ripe, w_room, w_tables⟩
theorem atStart : AtStart classFile x code maxLocals ret World_1 tables_1 room_1 Calls_1 rest_1 Pre_1 launch0 p0 e0 about1 theMethod args0 below0 :=
  ⟨lists_1, trivial, launch0.admits_env _ _ _, launch0.least_env, fairChoices_fair.cas, fairChoices_fair.clock, w_frames, w_args, w_heap, w_applies, trivial, trivial, w_case⟩
end start1
theorem witness_1 : WitnessClaimed_1 := ⟨start1.p0, start1.e0, start1.about1, start1.theMethod, start1.args0, start1.below0, start1.atStart⟩
end Jvm.Pilot.@@N@@
