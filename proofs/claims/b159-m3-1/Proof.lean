import JvmDerived
import JvmDerived.Pilot.@@N@@Statement
import JvmDerived.Pilot.@@N@@Code
set_option linter.unusedVariables false
set_option linter.unusedSimpArgs false
namespace Jvm.RoadKit
open Sem ClassFile Op Lib Jvm.Stand Jvm.Free Jvm.LawKit
section New
variable {p : Program} {l : Launch} {e : Env} {R : Room} {s : State} {m : MethodId} {args : Array Value} {below : List Frame} {meth : Method} {c : Code} {T : State} {locs : List Loc} {cells slots : Nat}
/-- what a body hands back: the value r, and K of the heap and the places at its end -/
def own_Q (r : Option Value) (K : Heap → List Loc → Prop) (v : Option Value) (h : Heap) (L : List Loc) : Prop := v = r ∧ K h L
/-- nothing is written, nothing is made -/
def own_K0 (h0 : Heap) (h : Heap) (L : List Loc) : Prop := L = [] ∧ h = h0
/-- from F on the run returns r with K -/
def own_Go (p : Program) (e : Env) (below : List Frame) (s : State) (C N : Nat) (r : Option Value) (K : Heap → List Loc → Prop) (F : State) : Prop :=
  ∃ s₂ o, Steps p.tables e below F s₂ ∧ s₂.status = .running ∧ Ended s₂ below o ∧ ∃ v L, o = .returned v ∧ own_Q r K v s₂.heap L ∧ FrameEnd s o s₂ L C N
theorem own_pre {C N : Nat} {r : Option Value} {K : Heap → List Loc → Prop} {F F' : State} (h : ∀ t, Steps p.tables e below F' t → Steps p.tables e below F t) (g : own_Go p e below s C N r K F') : own_Go p e below s C N r K F := by
  obtain ⟨t, o, a, b⟩ := g
  exact ⟨t, o, h t a, b⟩
theorem own_iteI {C N : Nat} {K : Heap → List Loc → Prop} {F : State} {P : Prop} [Decidable P] {a b : Int32} (h1 : P → own_Go p e below s C N (some (.int a)) K F) (h2 : ¬ P → own_Go p e below s C N (some (.int b)) K F) : own_Go p e below s C N (some (.int (if P then a else b))) K F := by
  by_cases q : P
  · rw [if_pos q]; exact h1 q
  · rw [if_neg q]; exact h2 q
theorem own_iteJ {C N : Nat} {K : Heap → List Loc → Prop} {F : State} {P : Prop} [Decidable P] {a b : Int64} (h1 : P → own_Go p e below s C N (some (.long a)) K F) (h2 : ¬ P → own_Go p e below s C N (some (.long b)) K F) : own_Go p e below s C N (some (.long (if P then a else b))) K F := by
  by_cases q : P
  · rw [if_pos q]; exact h1 q
  · rw [if_neg q]; exact h2 q
theorem own_iteR {C N : Nat} {K : Heap → List Loc → Prop} {F : State} {P : Prop} [Decidable P] {a b : Addr} (h1 : P → own_Go p e below s C N (some (.ref a)) K F) (h2 : ¬ P → own_Go p e below s C N (some (.ref b)) K F) : own_Go p e below s C N (some (.ref (if P then a else b))) K F := by
  by_cases q : P
  · rw [if_pos q]; exact h1 q
  · rw [if_neg q]; exact h2 q
theorem own_iteV {C N : Nat} {K : Heap → List Loc → Prop} {F : State} {P : Prop} [Decidable P] {a b : Value} (h1 : P → own_Go p e below s C N (some a) K F) (h2 : ¬ P → own_Go p e below s C N (some b) K F) : own_Go p e below s C N (some (if P then a else b)) K F := by
  by_cases q : P
  · rw [if_pos q]; exact h1 q
  · rw [if_neg q]; exact h2 q
theorem own_ret (X : Stand p l e R s m args below meth c T locs cells slots) (hx : p.tables.exec = Jvm.exec) (hlocks : meth.locks = false) {pc : Nat} {Ls : Array Slot} {w : Value} {t : FieldType} {i : Instr} {rest : List Value} {C N : Nat} {K : Heap → List Loc → Prop} (hret : meth.sig.returnType = some t) (hn : narrow t w = w)
    (hi : (i = .ireturn ∧ (t = .int ∨ t = .boolean ∨ t = .byte ∨ t = .char ∨ t = .short) ∧ ∃ z, w = .int z) ∨ (i = .lreturn ∧ t = .long ∧ ∃ z, w = .long z) ∨ (i = .areturn ∧ t.isReference = true ∧ w.isRef = true))
    (hd : decode c.code pc = .ok (i, 1)) (hK : K T.heap locs) (hC : cells ≤ C) (hN : slots ≤ N) : own_Go p e below s C N (some w) K (T.setTop (mkF m pc Ls (w :: rest))) := by
  obtain ⟨fs, hr, hrun, hended, hW, hsame⟩ := X.leave (v := some w) (fun h => by rw [hret] at h; cases h)
  refine ⟨_, _, retOut X hx hret hn ?_ hd hr, hrun, hended, _, _, rfl, ⟨rfl, hK⟩, ⟨_, rfl⟩, hW, hsame.mono hC hN⟩
  rcases hi with h | h | h
  · exact Or.inl h
  · exact Or.inr (Or.inl h)
  · exact Or.inr (Or.inr (Or.inr (Or.inr h)))
theorem own_retN (X : Stand p l e R s m args below meth c T locs cells slots) (hx : p.tables.exec = Jvm.exec) (hlocks : meth.locks = false) {pc : Nat} {Ls : Array Slot} {z : Int32} {t : FieldType} {rest : List Value} {C N : Nat} {K : Heap → List Loc → Prop} (hret : meth.sig.returnType = some t) (ht : t = .boolean ∨ t = .byte ∨ t = .char ∨ t = .short)
    (hd : decode c.code pc = .ok (.ireturn, 1)) (hK : K T.heap locs) (hC : cells ≤ C) (hN : slots ≤ N) : own_Go p e below s C N (some (.int (nar t z))) K (T.setTop (mkF m pc Ls (.int z :: rest))) := by
  obtain ⟨fs, hr, hrun, hended, hW, hsame⟩ := X.leave (v := some (.int (nar t z))) (fun h => by rw [hret] at h; cases h)
  exact ⟨_, _, retN X hx hret ht hd hr, hrun, hended, _, _, rfl, ⟨rfl, hK⟩, ⟨_, rfl⟩, hW, hsame.mono hC hN⟩
theorem own_retV (X : Stand p l e R s m args below meth c T locs cells slots) (hx : p.tables.exec = Jvm.exec) (hlocks : meth.locks = false) {pc : Nat} {Ls : Array Slot} {C N : Nat} {K : Heap → List Loc → Prop} (hret : meth.sig.returnType = none)
    (hd : decode c.code pc = .ok (.return_, 1)) (hK : K T.heap locs) (hC : cells ≤ C) (hN : slots ≤ N) : own_Go p e below s C N none K (T.setTop (mkF m pc Ls [])) := by
  obtain ⟨fs, hr, hrun, hended, hW, hsame⟩ := X.leave (v := none) (fun _ => rfl)
  exact ⟨_, _, X.returnOut hx hret hd hr, hrun, hended, _, _, rfl, ⟨rfl, hK⟩, ⟨_, rfl⟩, hW, hsame.mono hC hN⟩
theorem own_lremM {g : JFrame} {target : State} (X : Stand p l e R s m args below meth c T locs cells slots) (hx : p.tables.exec = Jvm.exec) (hg : g.method = m) {x y : Int64} {rest : List Value} (hd : decode c.code g.pc = .ok (.lrem, 1)) (hs : g.stack = .long y :: .long x :: rest) (hy : y ≠ 0)
    (hr : Steps p.tables e below (T.setTop { g with pc := g.pc + 1, stack := .long (x % y) :: rest }) target) : Steps p.tables e below (T.setTop g) target :=
  XS.lrem X.here hx hg hd hs hy (by rw [lrem_mod]; exact hr)
theorem own_cat {v : Value} (h : v.isRef = true) : v.category = 1 := by rcases ref_cases h with rfl | ⟨a, rfl⟩ <;> rfl
theorem own_nar (z : Int32) : nar .boolean z = z &&& 1 := rfl
end New
end Jvm.RoadKit
namespace Jvm.Pilot.@@N@@
open Jvm Jvm.ClassFile Sem Op Lib Jvm.Free Jvm.Stand Jvm.LawKit Jvm.RoadKit Bundle Jvm.Pilot.@@N@@.Jvm.D
theorem own_eqI {t : Term} {n : Int32} {args : Array Value} {s : State} (h : (Jvm.Cond.eq t (.int n)).value args s none s [] = some true) : t.eval args s none [] s = some (.int n) := by
  simp only [Cond.value] at h
  have hn : (Term.int n).eval args s none [] s = some (.int n) := rfl
  rw [hn] at h
  cases ht : t.eval args s none [] s with
  | none => simp [ht] at h
  | some v => cases v <;> simp [ht] at h ⊢; exact h
/-! body 1 -/
theorem d1_0 : decode prog_69_method_3_code 0 = .ok (.lload_n 0, 1) := by decide +kernel
theorem d1_1 : decode prog_69_method_3_code 1 = .ok (.ldc2_w 13, 3) := by decide +kernel
theorem d1_4 : decode prog_69_method_3_code 4 = .ok (.lcmp, 1) := by decide +kernel
theorem d1_5 : decode prog_69_method_3_code 5 = .ok (.ifCond .ne 7, 3) := by decide +kernel
theorem d1_8 : decode prog_69_method_3_code 8 = .ok (.getstatic 15, 3) := by decide +kernel
theorem d1_11 : decode prog_69_method_3_code 11 = .ok (.areturn, 1) := by decide +kernel
theorem d1_12 : decode prog_69_method_3_code 12 = .ok (.lload_n 0, 1) := by decide +kernel
theorem d1_13 : decode prog_69_method_3_code 13 = .ok (.ldc2_w 21, 3) := by decide +kernel
theorem d1_16 : decode prog_69_method_3_code 16 = .ok (.lcmp, 1) := by decide +kernel
theorem d1_17 : decode prog_69_method_3_code 17 = .ok (.ifCond .ne 7, 3) := by decide +kernel
theorem d1_20 : decode prog_69_method_3_code 20 = .ok (.getstatic 23, 3) := by decide +kernel
theorem d1_23 : decode prog_69_method_3_code 23 = .ok (.areturn, 1) := by decide +kernel
theorem d1_24 : decode prog_69_method_3_code 24 = .ok (.lload_n 0, 1) := by decide +kernel
theorem d1_25 : decode prog_69_method_3_code 25 = .ok (.ldc2_w 26, 3) := by decide +kernel
theorem d1_28 : decode prog_69_method_3_code 28 = .ok (.lcmp, 1) := by decide +kernel
theorem d1_29 : decode prog_69_method_3_code 29 = .ok (.ifCond .eq 9, 3) := by decide +kernel
theorem d1_32 : decode prog_69_method_3_code 32 = .ok (.lload_n 0, 1) := by decide +kernel
theorem d1_33 : decode prog_69_method_3_code 33 = .ok (.lconst 0, 1) := by decide +kernel
theorem d1_34 : decode prog_69_method_3_code 34 = .ok (.lcmp, 1) := by decide +kernel
theorem d1_35 : decode prog_69_method_3_code 35 = .ok (.ifCond .ne 7, 3) := by decide +kernel
theorem d1_38 : decode prog_69_method_3_code 38 = .ok (.getstatic 28, 3) := by decide +kernel
theorem d1_41 : decode prog_69_method_3_code 41 = .ok (.areturn, 1) := by decide +kernel
theorem d1_42 : decode prog_69_method_3_code 42 = .ok (.aconst_null, 1) := by decide +kernel
theorem d1_43 : decode prog_69_method_3_code 43 = .ok (.areturn, 1) := by decide +kernel
theorem own_pn0 : plainName "com/example/tersemark/tersemark/codec/WbxmlFormat" = true := by first | (simp [plainName, overriddenIn]; done) | decide +kernel
def f1_38 (q0 : Int64) (w_US_ASCII : Addr) (w_ISO_8859_1 : Addr) (w_UTF_8 : Addr) : Value := (.ref w_UTF_8)
set_option maxRecDepth 65536 in
set_option maxHeartbeats 40000000 in
theorem g1_38 {p : Program} {l : Launch} {e : Env} {s : State} {m : MethodId} {below : List Frame} {meth : Method} {c : Code} {s₁ : State} {ws : List Jvm.Cond} {Z : State} {aw : Array Value} (hw : ∀ d ∈ tables_1, d.before aw Z = true) {h0 : Heap} (q0 : Int64) (w_US_ASCII : Addr) (w_ISO_8859_1 : Addr) (w_UTF_8 : Addr) (Sw_US_ASCII : Sta Z h0 "java/nio/charset/StandardCharsets" "US_ASCII" "Ljava/nio/charset/Charset;" (.ref w_US_ASCII)) (Sw_ISO_8859_1 : Sta Z h0 "java/nio/charset/StandardCharsets" "ISO_8859_1" "Ljava/nio/charset/Charset;" (.ref w_ISO_8859_1)) (Sw_UTF_8 : Sta Z h0 "java/nio/charset/StandardCharsets" "UTF_8" "Ljava/nio/charset/Charset;" (.ref w_UTF_8))
    (Bd : BodyLoose p l (⟨"com/example/tersemark/tersemark/codec/WbxmlFormat", "charset", "(J)Ljava/nio/charset/Charset;"⟩ : MethodName) (head1 (Jvm.Cond.code (⟨"com/example/tersemark/tersemark/codec/WbxmlFormat", "charset", "(J)Ljava/nio/charset/Charset;"⟩ : MethodName) prog_69_method_3_code 2 (some (.object "java/nio/charset/Charset")) :: ws) ({ frames := 0, cells := 0, slots := 0, locals := 0 } : Room)) prog_69_method_3_code 2 (some (.object "java/nio/charset/Charset")) e s m #[(.long q0)] below meth c s₁) (hml : c.maxLocals = 2) (hZ : Z.Warmed39 s.vm) (T0 : State) (X0 : Stand p l e ({ frames := 0, cells := 0, slots := 0, locals := 0 } : Room) s m #[(.long q0)] below meth c T0 [] 0 0) (e0 : T0.heap = h0) :
    own_Go p e below s ({ frames := 0, cells := 0, slots := 0, locals := 0 } : Room).cells ({ frames := 0, cells := 0, slots := 0, locals := 0 } : Room).slots (some (f1_38 q0 w_US_ASCII w_ISO_8859_1 w_UTF_8)) (own_K0 h0) (T0.setTop (mkF m 38 #[.val (.long q0), .second] [])) := by
  have hx := Bd.exec
  have hby := Bd.bytes
  have hown : s.vm.findClass "com/example/tersemark/tersemark/codec/WbxmlFormat" = some m.cls := findClass_of_methodNamed Bd.named
  unfold f1_38
  obtain ⟨T1, X1, e1, st'⟩ := getS2 X0 hx hZ hown (host := "") (Or.inl (hw _ (List.mem_of_getElem? (i := 16) rfl))) Via.refl e0 Sw_UTF_8 (g := (mkF m 38 #[.val (.long q0), .second] [])) rfl (hb hby d1_38)
  refine own_pre (F' := T1.setTop (mkF m 41 #[.val (.long q0), .second] [(.ref w_UTF_8)])) (fun t k => st' t k) ?_
  exact own_ret X1 hx Bd.notSynchronized Bd.returns rfl (Or.inr (Or.inr ⟨rfl, rfl, rfl⟩)) (hb hby d1_41) ⟨rfl, e1⟩ (by decide) (by decide)
def f1_0 (q0 : Int64) (w_US_ASCII : Addr) (w_ISO_8859_1 : Addr) (w_UTF_8 : Addr) : Value := (if q0 = (3 : Int64) then (.ref w_US_ASCII) else (if q0 = (4 : Int64) then (.ref w_ISO_8859_1) else (if q0 = (106 : Int64) then (f1_38 q0 w_US_ASCII w_ISO_8859_1 w_UTF_8) else (if q0 = (0 : Int64) then (f1_38 q0 w_US_ASCII w_ISO_8859_1 w_UTF_8) else .null))))
set_option maxRecDepth 65536 in
set_option maxHeartbeats 40000000 in
theorem g1_0 {p : Program} {l : Launch} {e : Env} {s : State} {m : MethodId} {below : List Frame} {meth : Method} {c : Code} {s₁ : State} {ws : List Jvm.Cond} {Z : State} {aw : Array Value} (hw : ∀ d ∈ tables_1, d.before aw Z = true) {h0 : Heap} (q0 : Int64) (w_US_ASCII : Addr) (w_ISO_8859_1 : Addr) (w_UTF_8 : Addr) (Sw_US_ASCII : Sta Z h0 "java/nio/charset/StandardCharsets" "US_ASCII" "Ljava/nio/charset/Charset;" (.ref w_US_ASCII)) (Sw_ISO_8859_1 : Sta Z h0 "java/nio/charset/StandardCharsets" "ISO_8859_1" "Ljava/nio/charset/Charset;" (.ref w_ISO_8859_1)) (Sw_UTF_8 : Sta Z h0 "java/nio/charset/StandardCharsets" "UTF_8" "Ljava/nio/charset/Charset;" (.ref w_UTF_8))
    (Bd : BodyLoose p l (⟨"com/example/tersemark/tersemark/codec/WbxmlFormat", "charset", "(J)Ljava/nio/charset/Charset;"⟩ : MethodName) (head1 (Jvm.Cond.code (⟨"com/example/tersemark/tersemark/codec/WbxmlFormat", "charset", "(J)Ljava/nio/charset/Charset;"⟩ : MethodName) prog_69_method_3_code 2 (some (.object "java/nio/charset/Charset")) :: ws) ({ frames := 0, cells := 0, slots := 0, locals := 0 } : Room)) prog_69_method_3_code 2 (some (.object "java/nio/charset/Charset")) e s m #[(.long q0)] below meth c s₁) (hml : c.maxLocals = 2) (hZ : Z.Warmed39 s.vm) (T0 : State) (X0 : Stand p l e ({ frames := 0, cells := 0, slots := 0, locals := 0 } : Room) s m #[(.long q0)] below meth c T0 [] 0 0) (e0 : T0.heap = h0) :
    own_Go p e below s ({ frames := 0, cells := 0, slots := 0, locals := 0 } : Room).cells ({ frames := 0, cells := 0, slots := 0, locals := 0 } : Room).slots (some (f1_0 q0 w_US_ASCII w_ISO_8859_1 w_UTF_8)) (own_K0 h0) (T0.setTop (mkF m 0 #[.val (.long q0), .second] [])) := by
  have hx := Bd.exec
  have hby := Bd.bytes
  have hown : s.vm.findClass "com/example/tersemark/tersemark/codec/WbxmlFormat" = some m.cls := findClass_of_methodNamed Bd.named
  unfold f1_0
  refine own_pre (F' := T0.setTop (mkF m 1 #[.val (.long q0), .second] [(.long q0)])) (fun _ k => XS.lloadN X0.here hx rfl (hb hby d1_0) rfl k) ?_
  refine own_pre (F' := T0.setTop (mkF m 4 #[.val (.long q0), .second] [(.long (3 : Int64)), (.long q0)])) (fun _ k => X0.ldc2Long hx hown (mvT hZ (hw _ (List.mem_of_getElem? (i := 4) rfl))) (g := (mkF m 1 #[.val (.long q0), .second] [(.long q0)])) rfl (hb hby d1_1) _ k) ?_
  refine own_pre (F' := T0.setTop (mkF m 5 #[.val (.long q0), .second] [(.int (lcmpW q0 (3 : Int64)))])) (fun _ k => XS.lcmp X0.here hx rfl (hb hby d1_4) rfl k) ?_
  refine own_iteV (fun hc5 => ?_) (fun hc5 => ?_)
  · skip
    refine own_pre (F' := T0.setTop (mkF m 8 #[.val (.long q0), .second] [])) (fun _ k => XS.ifNo X0.here hx rfl (hb hby d1_5) rfl ((if0 _ _).trans (teq ((lw_eq _ _).mpr hc5)).2) k) ?_
    obtain ⟨T2, X2, e2, st'⟩ := getS2 X0 hx hZ hown (host := "") (Or.inl (hw _ (List.mem_of_getElem? (i := 19) rfl))) Via.refl e0 Sw_US_ASCII (g := (mkF m 8 #[.val (.long q0), .second] [])) rfl (hb hby d1_8)
    refine own_pre (F' := T2.setTop (mkF m 11 #[.val (.long q0), .second] [(.ref w_US_ASCII)])) (fun t k => st' t k) ?_
    exact own_ret X2 hx Bd.notSynchronized Bd.returns rfl (Or.inr (Or.inr ⟨rfl, rfl, rfl⟩)) (hb hby d1_11) ⟨rfl, e2⟩ (by decide) (by decide)
  · skip
    refine own_pre (F' := T0.setTop (mkF m 12 #[.val (.long q0), .second] [])) (fun _ k => XS.ifYes X0.here hx rfl (pc0 := 5) (pc' := 12) rfl (hb hby d1_5) rfl ((if0 _ _).trans (feq (fun q => hc5 ((lw_eq _ _).mp q))).2) (by decide) (by decide) k) ?_
    refine own_pre (F' := T0.setTop (mkF m 13 #[.val (.long q0), .second] [(.long q0)])) (fun _ k => XS.lloadN X0.here hx rfl (hb hby d1_12) rfl k) ?_
    refine own_pre (F' := T0.setTop (mkF m 16 #[.val (.long q0), .second] [(.long (4 : Int64)), (.long q0)])) (fun _ k => X0.ldc2Long hx hown (mvT hZ (hw _ (List.mem_of_getElem? (i := 5) rfl))) (g := (mkF m 13 #[.val (.long q0), .second] [(.long q0)])) rfl (hb hby d1_13) _ k) ?_
    refine own_pre (F' := T0.setTop (mkF m 17 #[.val (.long q0), .second] [(.int (lcmpW q0 (4 : Int64)))])) (fun _ k => XS.lcmp X0.here hx rfl (hb hby d1_16) rfl k) ?_
    refine own_iteV (fun hc17 => ?_) (fun hc17 => ?_)
    · skip
      refine own_pre (F' := T0.setTop (mkF m 20 #[.val (.long q0), .second] [])) (fun _ k => XS.ifNo X0.here hx rfl (hb hby d1_17) rfl ((if0 _ _).trans (teq ((lw_eq _ _).mpr hc17)).2) k) ?_
      obtain ⟨T3, X3, e3, st'⟩ := getS2 X0 hx hZ hown (host := "") (Or.inl (hw _ (List.mem_of_getElem? (i := 21) rfl))) Via.refl e0 Sw_ISO_8859_1 (g := (mkF m 20 #[.val (.long q0), .second] [])) rfl (hb hby d1_20)
      refine own_pre (F' := T3.setTop (mkF m 23 #[.val (.long q0), .second] [(.ref w_ISO_8859_1)])) (fun t k => st' t k) ?_
      exact own_ret X3 hx Bd.notSynchronized Bd.returns rfl (Or.inr (Or.inr ⟨rfl, rfl, rfl⟩)) (hb hby d1_23) ⟨rfl, e3⟩ (by decide) (by decide)
    · skip
      refine own_pre (F' := T0.setTop (mkF m 24 #[.val (.long q0), .second] [])) (fun _ k => XS.ifYes X0.here hx rfl (pc0 := 17) (pc' := 24) rfl (hb hby d1_17) rfl ((if0 _ _).trans (feq (fun q => hc17 ((lw_eq _ _).mp q))).2) (by decide) (by decide) k) ?_
      refine own_pre (F' := T0.setTop (mkF m 25 #[.val (.long q0), .second] [(.long q0)])) (fun _ k => XS.lloadN X0.here hx rfl (hb hby d1_24) rfl k) ?_
      refine own_pre (F' := T0.setTop (mkF m 28 #[.val (.long q0), .second] [(.long (106 : Int64)), (.long q0)])) (fun _ k => X0.ldc2Long hx hown (mvT hZ (hw _ (List.mem_of_getElem? (i := 6) rfl))) (g := (mkF m 25 #[.val (.long q0), .second] [(.long q0)])) rfl (hb hby d1_25) _ k) ?_
      refine own_pre (F' := T0.setTop (mkF m 29 #[.val (.long q0), .second] [(.int (lcmpW q0 (106 : Int64)))])) (fun _ k => XS.lcmp X0.here hx rfl (hb hby d1_28) rfl k) ?_
      refine own_iteV (fun hc29 => ?_) (fun hc29 => ?_)
      · skip
        refine own_pre (F' := T0.setTop (mkF m 38 #[.val (.long q0), .second] [])) (fun _ k => XS.ifYes X0.here hx rfl (pc0 := 29) (pc' := 38) rfl (hb hby d1_29) rfl ((if0 _ _).trans (teq ((lw_eq _ _).mpr hc29)).1) (by decide) (by decide) k) ?_
        exact g1_38 hw q0 w_US_ASCII w_ISO_8859_1 w_UTF_8 Sw_US_ASCII Sw_ISO_8859_1 Sw_UTF_8 Bd hml hZ T0 X0 e0
      · skip
        refine own_pre (F' := T0.setTop (mkF m 32 #[.val (.long q0), .second] [])) (fun _ k => XS.ifNo X0.here hx rfl (hb hby d1_29) rfl ((if0 _ _).trans (feq (fun q => hc29 ((lw_eq _ _).mp q))).1) k) ?_
        refine own_pre (F' := T0.setTop (mkF m 33 #[.val (.long q0), .second] [(.long q0)])) (fun _ k => XS.lloadN X0.here hx rfl (hb hby d1_32) rfl k) ?_
        refine own_pre (F' := T0.setTop (mkF m 34 #[.val (.long q0), .second] [(.long (0 : Int64)), (.long q0)])) (fun _ k => XS.lconst X0.here hx rfl (hb hby d1_33) k) ?_
        refine own_pre (F' := T0.setTop (mkF m 35 #[.val (.long q0), .second] [(.int (lcmpW q0 (0 : Int64)))])) (fun _ k => XS.lcmp X0.here hx rfl (hb hby d1_34) rfl k) ?_
        refine own_iteV (fun hc35 => ?_) (fun hc35 => ?_)
        · skip
          refine own_pre (F' := T0.setTop (mkF m 38 #[.val (.long q0), .second] [])) (fun _ k => XS.ifNo X0.here hx rfl (hb hby d1_35) rfl ((if0 _ _).trans (teq ((lw_eq _ _).mpr hc35)).2) k) ?_
          exact g1_38 hw q0 w_US_ASCII w_ISO_8859_1 w_UTF_8 Sw_US_ASCII Sw_ISO_8859_1 Sw_UTF_8 Bd hml hZ T0 X0 e0
        · skip
          refine own_pre (F' := T0.setTop (mkF m 42 #[.val (.long q0), .second] [])) (fun _ k => XS.ifYes X0.here hx rfl (pc0 := 35) (pc' := 42) rfl (hb hby d1_35) rfl ((if0 _ _).trans (feq (fun q => hc35 ((lw_eq _ _).mp q))).2) (by decide) (by decide) k) ?_
          refine own_pre (F' := T0.setTop (mkF m 43 #[.val (.long q0), .second] [.null])) (fun _ k => XS.aconstNull X0.here hx rfl (hb hby d1_42) k) ?_
          exact own_ret X0 hx Bd.notSynchronized Bd.returns rfl (Or.inr (Or.inr ⟨rfl, rfl, rfl⟩)) (hb hby d1_43) ⟨rfl, e0⟩ (by decide) (by decide)
theorem ef_1 (m : MethodId) (q0 : Int64) : entryFrame m #[(.long q0)] 2 = mkF m 0 #[.val (.long q0), .second] [] := by first | (simp [entryFrame, mkF, argsToLocals, Value.category]; done) | rfl
set_option maxRecDepth 65536 in
set_option maxHeartbeats 40000000 in
theorem rm1 (l : Launch) (Z : State) (aw : Array Value) (hw : ∀ d ∈ tables_1, d.before aw Z = true) (ws : List Jvm.Cond) (q0 : Int64) (w_US_ASCII : Addr) (w_ISO_8859_1 : Addr) (w_UTF_8 : Addr) (h0 : Heap) (Sw_US_ASCII : Sta Z h0 "java/nio/charset/StandardCharsets" "US_ASCII" "Ljava/nio/charset/Charset;" (.ref w_US_ASCII)) (Sw_ISO_8859_1 : Sta Z h0 "java/nio/charset/StandardCharsets" "ISO_8859_1" "Ljava/nio/charset/Charset;" (.ref w_ISO_8859_1)) (Sw_UTF_8 : Sta Z h0 "java/nio/charset/StandardCharsets" "UTF_8" "Ljava/nio/charset/Charset;" (.ref w_UTF_8)) :
    MetFree l (⟨"com/example/tersemark/tersemark/codec/WbxmlFormat", "charset", "(J)Ljava/nio/charset/Charset;"⟩ : MethodName) (head1 (Jvm.Cond.code (⟨"com/example/tersemark/tersemark/codec/WbxmlFormat", "charset", "(J)Ljava/nio/charset/Charset;"⟩ : MethodName) prog_69_method_3_code 2 (some (.object "java/nio/charset/Charset")) :: ws) ({ frames := 0, cells := 0, slots := 0, locals := 0 } : Room)) (fun a U => a = #[(.long q0)] ∧ Z.Warmed39 U.vm ∧ U.heap = h0) (fun _ _ _ _ _ => True) (fun _ U o U' => ∃ v L, o = .returned v ∧ own_Q (some (f1_0 q0 w_US_ASCII w_ISO_8859_1 w_UTF_8)) (own_K0 h0) v U'.heap L ∧ FrameEnd U o U' L ({ frames := 0, cells := 0, slots := 0, locals := 0 } : Room).cells ({ frames := 0, cells := 0, slots := 0, locals := 0 } : Room).slots) := by
  refine MetFree.of_bodySF (plainFor_of_name own_pn0) hisR ?_
  intro p e s m args below meth c s₁ Bd hml0 hP hK
  obtain ⟨rfl, hZ, hh⟩ := hP
  have hml : c.maxLocals = 2 := hml0
  have e0 : s₁.heap = h0 := by rw [← hh, Bd.state]; rfl
  exact own_pre (fun t k => castTop (ef_1 m q0) k) (g1_0 hw q0 w_US_ASCII w_ISO_8859_1 w_UTF_8 Sw_US_ASCII Sw_ISO_8859_1 Sw_UTF_8 Bd hml hZ s₁ (Stand.of_body Bd) e0)
/-! body 2 -/
theorem d2_0 : decode method_3_code 0 = .ok (.lload_n 0, 1) := by decide +kernel
theorem d2_1 : decode method_3_code 1 = .ok (.lconst 0, 1) := by decide +kernel
theorem d2_2 : decode method_3_code 2 = .ok (.lcmp, 1) := by decide +kernel
theorem d2_3 : decode method_3_code 3 = .ok (.ifCond .ne 7, 3) := by decide +kernel
theorem d2_6 : decode method_3_code 6 = .ok (.getstatic 30, 3) := by decide +kernel
theorem d2_9 : decode method_3_code 9 = .ok (.areturn, 1) := by decide +kernel
theorem d2_10 : decode method_3_code 10 = .ok (.lload_n 0, 1) := by decide +kernel
theorem d2_11 : decode method_3_code 11 = .ok (.ldc2_w 11, 3) := by decide +kernel
theorem d2_14 : decode method_3_code 14 = .ok (.lcmp, 1) := by decide +kernel
theorem d2_15 : decode method_3_code 15 = .ok (.ifCond .ne 7, 3) := by decide +kernel
theorem d2_18 : decode method_3_code 18 = .ok (.getstatic 30, 3) := by decide +kernel
theorem d2_21 : decode method_3_code 21 = .ok (.areturn, 1) := by decide +kernel
theorem d2_22 : decode method_3_code 22 = .ok (.lload_n 0, 1) := by decide +kernel
theorem d2_23 : decode method_3_code 23 = .ok (.ldc2_w 7, 3) := by decide +kernel
theorem d2_26 : decode method_3_code 26 = .ok (.lcmp, 1) := by decide +kernel
theorem d2_27 : decode method_3_code 27 = .ok (.ifCond .ne 7, 3) := by decide +kernel
theorem d2_30 : decode method_3_code 30 = .ok (.getstatic 36, 3) := by decide +kernel
theorem d2_33 : decode method_3_code 33 = .ok (.areturn, 1) := by decide +kernel
theorem d2_34 : decode method_3_code 34 = .ok (.lload_n 0, 1) := by decide +kernel
theorem d2_35 : decode method_3_code 35 = .ok (.ldc2_w 9, 3) := by decide +kernel
theorem d2_38 : decode method_3_code 38 = .ok (.lcmp, 1) := by decide +kernel
theorem d2_39 : decode method_3_code 39 = .ok (.ifCond .ne 7, 3) := by decide +kernel
theorem d2_42 : decode method_3_code 42 = .ok (.getstatic 39, 3) := by decide +kernel
theorem d2_45 : decode method_3_code 45 = .ok (.areturn, 1) := by decide +kernel
theorem d2_46 : decode method_3_code 46 = .ok (.aconst_null, 1) := by decide +kernel
theorem d2_47 : decode method_3_code 47 = .ok (.areturn, 1) := by decide +kernel
theorem own_pn1 : plainName "com/example/tersemark/tersemark/codec/WbxmlFormatCharsetPinLaw" = true := by first | (simp [plainName, overriddenIn]; done) | decide +kernel
def f2_0 (q0 : Int64) (w_UTF_8 : Addr) (w_US_ASCII : Addr) (w_ISO_8859_1 : Addr) : Value := (if q0 = (0 : Int64) then (.ref w_UTF_8) else (if q0 = (106 : Int64) then (.ref w_UTF_8) else (if q0 = (3 : Int64) then (.ref w_US_ASCII) else (if q0 = (4 : Int64) then (.ref w_ISO_8859_1) else .null))))
set_option maxRecDepth 65536 in
set_option maxHeartbeats 40000000 in
theorem g2_0 {p : Program} {l : Launch} {e : Env} {s : State} {m : MethodId} {below : List Frame} {meth : Method} {c : Code} {s₁ : State} {ws : List Jvm.Cond} {Z : State} {aw : Array Value} (hw : ∀ d ∈ tables_1, d.before aw Z = true) {h0 : Heap} (q0 : Int64) (w_UTF_8 : Addr) (w_US_ASCII : Addr) (w_ISO_8859_1 : Addr) (Sw_UTF_8 : Sta Z h0 "java/nio/charset/StandardCharsets" "UTF_8" "Ljava/nio/charset/Charset;" (.ref w_UTF_8)) (Sw_US_ASCII : Sta Z h0 "java/nio/charset/StandardCharsets" "US_ASCII" "Ljava/nio/charset/Charset;" (.ref w_US_ASCII)) (Sw_ISO_8859_1 : Sta Z h0 "java/nio/charset/StandardCharsets" "ISO_8859_1" "Ljava/nio/charset/Charset;" (.ref w_ISO_8859_1))
    (Bd : BodyLoose p l (⟨"com/example/tersemark/tersemark/codec/WbxmlFormatCharsetPinLaw", "expected", "(J)Ljava/nio/charset/Charset;"⟩ : MethodName) (head1 (Jvm.Cond.code (⟨"com/example/tersemark/tersemark/codec/WbxmlFormatCharsetPinLaw", "expected", "(J)Ljava/nio/charset/Charset;"⟩ : MethodName) method_3_code 2 (some (.object "java/nio/charset/Charset")) :: ws) ({ frames := 0, cells := 0, slots := 0, locals := 0 } : Room)) method_3_code 2 (some (.object "java/nio/charset/Charset")) e s m #[(.long q0)] below meth c s₁) (hml : c.maxLocals = 2) (hZ : Z.Warmed39 s.vm) (T0 : State) (X0 : Stand p l e ({ frames := 0, cells := 0, slots := 0, locals := 0 } : Room) s m #[(.long q0)] below meth c T0 [] 0 0) (e0 : T0.heap = h0) :
    own_Go p e below s ({ frames := 0, cells := 0, slots := 0, locals := 0 } : Room).cells ({ frames := 0, cells := 0, slots := 0, locals := 0 } : Room).slots (some (f2_0 q0 w_UTF_8 w_US_ASCII w_ISO_8859_1)) (own_K0 h0) (T0.setTop (mkF m 0 #[.val (.long q0), .second] [])) := by
  have hx := Bd.exec
  have hby := Bd.bytes
  have hown : s.vm.findClass "com/example/tersemark/tersemark/codec/WbxmlFormatCharsetPinLaw" = some m.cls := findClass_of_methodNamed Bd.named
  unfold f2_0
  refine own_pre (F' := T0.setTop (mkF m 1 #[.val (.long q0), .second] [(.long q0)])) (fun _ k => XS.lloadN X0.here hx rfl (hb hby d2_0) rfl k) ?_
  refine own_pre (F' := T0.setTop (mkF m 2 #[.val (.long q0), .second] [(.long (0 : Int64)), (.long q0)])) (fun _ k => XS.lconst X0.here hx rfl (hb hby d2_1) k) ?_
  refine own_pre (F' := T0.setTop (mkF m 3 #[.val (.long q0), .second] [(.int (lcmpW q0 (0 : Int64)))])) (fun _ k => XS.lcmp X0.here hx rfl (hb hby d2_2) rfl k) ?_
  refine own_iteV (fun hc3 => ?_) (fun hc3 => ?_)
  · skip
    refine own_pre (F' := T0.setTop (mkF m 6 #[.val (.long q0), .second] [])) (fun _ k => XS.ifNo X0.here hx rfl (hb hby d2_3) rfl ((if0 _ _).trans (teq ((lw_eq _ _).mpr hc3)).2) k) ?_
    obtain ⟨T1, X1, e1, st'⟩ := getS2 X0 hx hZ hown (host := "") (Or.inl (hw _ (List.mem_of_getElem? (i := 18) rfl))) Via.refl e0 Sw_UTF_8 (g := (mkF m 6 #[.val (.long q0), .second] [])) rfl (hb hby d2_6)
    refine own_pre (F' := T1.setTop (mkF m 9 #[.val (.long q0), .second] [(.ref w_UTF_8)])) (fun t k => st' t k) ?_
    exact own_ret X1 hx Bd.notSynchronized Bd.returns rfl (Or.inr (Or.inr ⟨rfl, rfl, rfl⟩)) (hb hby d2_9) ⟨rfl, e1⟩ (by decide) (by decide)
  · skip
    refine own_pre (F' := T0.setTop (mkF m 10 #[.val (.long q0), .second] [])) (fun _ k => XS.ifYes X0.here hx rfl (pc0 := 3) (pc' := 10) rfl (hb hby d2_3) rfl ((if0 _ _).trans (feq (fun q => hc3 ((lw_eq _ _).mp q))).2) (by decide) (by decide) k) ?_
    refine own_pre (F' := T0.setTop (mkF m 11 #[.val (.long q0), .second] [(.long q0)])) (fun _ k => XS.lloadN X0.here hx rfl (hb hby d2_10) rfl k) ?_
    refine own_pre (F' := T0.setTop (mkF m 14 #[.val (.long q0), .second] [(.long (106 : Int64)), (.long q0)])) (fun _ k => X0.ldc2Long hx hown (mvT hZ (hw _ (List.mem_of_getElem? (i := 11) rfl))) (g := (mkF m 11 #[.val (.long q0), .second] [(.long q0)])) rfl (hb hby d2_11) _ k) ?_
    refine own_pre (F' := T0.setTop (mkF m 15 #[.val (.long q0), .second] [(.int (lcmpW q0 (106 : Int64)))])) (fun _ k => XS.lcmp X0.here hx rfl (hb hby d2_14) rfl k) ?_
    refine own_iteV (fun hc15 => ?_) (fun hc15 => ?_)
    · skip
      refine own_pre (F' := T0.setTop (mkF m 18 #[.val (.long q0), .second] [])) (fun _ k => XS.ifNo X0.here hx rfl (hb hby d2_15) rfl ((if0 _ _).trans (teq ((lw_eq _ _).mpr hc15)).2) k) ?_
      obtain ⟨T2, X2, e2, st'⟩ := getS2 X0 hx hZ hown (host := "") (Or.inl (hw _ (List.mem_of_getElem? (i := 18) rfl))) Via.refl e0 Sw_UTF_8 (g := (mkF m 18 #[.val (.long q0), .second] [])) rfl (hb hby d2_18)
      refine own_pre (F' := T2.setTop (mkF m 21 #[.val (.long q0), .second] [(.ref w_UTF_8)])) (fun t k => st' t k) ?_
      exact own_ret X2 hx Bd.notSynchronized Bd.returns rfl (Or.inr (Or.inr ⟨rfl, rfl, rfl⟩)) (hb hby d2_21) ⟨rfl, e2⟩ (by decide) (by decide)
    · skip
      refine own_pre (F' := T0.setTop (mkF m 22 #[.val (.long q0), .second] [])) (fun _ k => XS.ifYes X0.here hx rfl (pc0 := 15) (pc' := 22) rfl (hb hby d2_15) rfl ((if0 _ _).trans (feq (fun q => hc15 ((lw_eq _ _).mp q))).2) (by decide) (by decide) k) ?_
      refine own_pre (F' := T0.setTop (mkF m 23 #[.val (.long q0), .second] [(.long q0)])) (fun _ k => XS.lloadN X0.here hx rfl (hb hby d2_22) rfl k) ?_
      refine own_pre (F' := T0.setTop (mkF m 26 #[.val (.long q0), .second] [(.long (3 : Int64)), (.long q0)])) (fun _ k => X0.ldc2Long hx hown (mvT hZ (hw _ (List.mem_of_getElem? (i := 12) rfl))) (g := (mkF m 23 #[.val (.long q0), .second] [(.long q0)])) rfl (hb hby d2_23) _ k) ?_
      refine own_pre (F' := T0.setTop (mkF m 27 #[.val (.long q0), .second] [(.int (lcmpW q0 (3 : Int64)))])) (fun _ k => XS.lcmp X0.here hx rfl (hb hby d2_26) rfl k) ?_
      refine own_iteV (fun hc27 => ?_) (fun hc27 => ?_)
      · skip
        refine own_pre (F' := T0.setTop (mkF m 30 #[.val (.long q0), .second] [])) (fun _ k => XS.ifNo X0.here hx rfl (hb hby d2_27) rfl ((if0 _ _).trans (teq ((lw_eq _ _).mpr hc27)).2) k) ?_
        obtain ⟨T3, X3, e3, st'⟩ := getS2 X0 hx hZ hown (host := "") (Or.inl (hw _ (List.mem_of_getElem? (i := 20) rfl))) Via.refl e0 Sw_US_ASCII (g := (mkF m 30 #[.val (.long q0), .second] [])) rfl (hb hby d2_30)
        refine own_pre (F' := T3.setTop (mkF m 33 #[.val (.long q0), .second] [(.ref w_US_ASCII)])) (fun t k => st' t k) ?_
        exact own_ret X3 hx Bd.notSynchronized Bd.returns rfl (Or.inr (Or.inr ⟨rfl, rfl, rfl⟩)) (hb hby d2_33) ⟨rfl, e3⟩ (by decide) (by decide)
      · skip
        refine own_pre (F' := T0.setTop (mkF m 34 #[.val (.long q0), .second] [])) (fun _ k => XS.ifYes X0.here hx rfl (pc0 := 27) (pc' := 34) rfl (hb hby d2_27) rfl ((if0 _ _).trans (feq (fun q => hc27 ((lw_eq _ _).mp q))).2) (by decide) (by decide) k) ?_
        refine own_pre (F' := T0.setTop (mkF m 35 #[.val (.long q0), .second] [(.long q0)])) (fun _ k => XS.lloadN X0.here hx rfl (hb hby d2_34) rfl k) ?_
        refine own_pre (F' := T0.setTop (mkF m 38 #[.val (.long q0), .second] [(.long (4 : Int64)), (.long q0)])) (fun _ k => X0.ldc2Long hx hown (mvT hZ (hw _ (List.mem_of_getElem? (i := 13) rfl))) (g := (mkF m 35 #[.val (.long q0), .second] [(.long q0)])) rfl (hb hby d2_35) _ k) ?_
        refine own_pre (F' := T0.setTop (mkF m 39 #[.val (.long q0), .second] [(.int (lcmpW q0 (4 : Int64)))])) (fun _ k => XS.lcmp X0.here hx rfl (hb hby d2_38) rfl k) ?_
        refine own_iteV (fun hc39 => ?_) (fun hc39 => ?_)
        · skip
          refine own_pre (F' := T0.setTop (mkF m 42 #[.val (.long q0), .second] [])) (fun _ k => XS.ifNo X0.here hx rfl (hb hby d2_39) rfl ((if0 _ _).trans (teq ((lw_eq _ _).mpr hc39)).2) k) ?_
          obtain ⟨T4, X4, e4, st'⟩ := getS2 X0 hx hZ hown (host := "") (Or.inl (hw _ (List.mem_of_getElem? (i := 22) rfl))) Via.refl e0 Sw_ISO_8859_1 (g := (mkF m 42 #[.val (.long q0), .second] [])) rfl (hb hby d2_42)
          refine own_pre (F' := T4.setTop (mkF m 45 #[.val (.long q0), .second] [(.ref w_ISO_8859_1)])) (fun t k => st' t k) ?_
          exact own_ret X4 hx Bd.notSynchronized Bd.returns rfl (Or.inr (Or.inr ⟨rfl, rfl, rfl⟩)) (hb hby d2_45) ⟨rfl, e4⟩ (by decide) (by decide)
        · skip
          refine own_pre (F' := T0.setTop (mkF m 46 #[.val (.long q0), .second] [])) (fun _ k => XS.ifYes X0.here hx rfl (pc0 := 39) (pc' := 46) rfl (hb hby d2_39) rfl ((if0 _ _).trans (feq (fun q => hc39 ((lw_eq _ _).mp q))).2) (by decide) (by decide) k) ?_
          refine own_pre (F' := T0.setTop (mkF m 47 #[.val (.long q0), .second] [.null])) (fun _ k => XS.aconstNull X0.here hx rfl (hb hby d2_46) k) ?_
          exact own_ret X0 hx Bd.notSynchronized Bd.returns rfl (Or.inr (Or.inr ⟨rfl, rfl, rfl⟩)) (hb hby d2_47) ⟨rfl, e0⟩ (by decide) (by decide)
theorem ef_2 (m : MethodId) (q0 : Int64) : entryFrame m #[(.long q0)] 2 = mkF m 0 #[.val (.long q0), .second] [] := by first | (simp [entryFrame, mkF, argsToLocals, Value.category]; done) | rfl
set_option maxRecDepth 65536 in
set_option maxHeartbeats 40000000 in
theorem rm2 (l : Launch) (Z : State) (aw : Array Value) (hw : ∀ d ∈ tables_1, d.before aw Z = true) (ws : List Jvm.Cond) (q0 : Int64) (w_UTF_8 : Addr) (w_US_ASCII : Addr) (w_ISO_8859_1 : Addr) (h0 : Heap) (Sw_UTF_8 : Sta Z h0 "java/nio/charset/StandardCharsets" "UTF_8" "Ljava/nio/charset/Charset;" (.ref w_UTF_8)) (Sw_US_ASCII : Sta Z h0 "java/nio/charset/StandardCharsets" "US_ASCII" "Ljava/nio/charset/Charset;" (.ref w_US_ASCII)) (Sw_ISO_8859_1 : Sta Z h0 "java/nio/charset/StandardCharsets" "ISO_8859_1" "Ljava/nio/charset/Charset;" (.ref w_ISO_8859_1)) :
    MetFree l (⟨"com/example/tersemark/tersemark/codec/WbxmlFormatCharsetPinLaw", "expected", "(J)Ljava/nio/charset/Charset;"⟩ : MethodName) (head1 (Jvm.Cond.code (⟨"com/example/tersemark/tersemark/codec/WbxmlFormatCharsetPinLaw", "expected", "(J)Ljava/nio/charset/Charset;"⟩ : MethodName) method_3_code 2 (some (.object "java/nio/charset/Charset")) :: ws) ({ frames := 0, cells := 0, slots := 0, locals := 0 } : Room)) (fun a U => a = #[(.long q0)] ∧ Z.Warmed39 U.vm ∧ U.heap = h0) (fun _ _ _ _ _ => True) (fun _ U o U' => ∃ v L, o = .returned v ∧ own_Q (some (f2_0 q0 w_UTF_8 w_US_ASCII w_ISO_8859_1)) (own_K0 h0) v U'.heap L ∧ FrameEnd U o U' L ({ frames := 0, cells := 0, slots := 0, locals := 0 } : Room).cells ({ frames := 0, cells := 0, slots := 0, locals := 0 } : Room).slots) := by
  refine MetFree.of_bodySF (plainFor_of_name own_pn1) hisR ?_
  intro p e s m args below meth c s₁ Bd hml0 hP hK
  obtain ⟨rfl, hZ, hh⟩ := hP
  have hml : c.maxLocals = 2 := hml0
  have e0 : s₁.heap = h0 := by rw [← hh, Bd.state]; rfl
  exact own_pre (fun t k => castTop (ef_2 m q0) k) (g2_0 hw q0 w_UTF_8 w_US_ASCII w_ISO_8859_1 Sw_UTF_8 Sw_US_ASCII Sw_ISO_8859_1 Bd hml hZ s₁ (Stand.of_body Bd) e0)
theorem own_isref1 (q : Int64) (w_US_ASCII w_ISO_8859_1 w_UTF_8 : Addr) : (f1_0 q w_US_ASCII w_ISO_8859_1 w_UTF_8).isRef = true := by
  simp only [f1_0, f1_38]
  (repeat' split) <;> rfl
theorem own_isref2 (q : Int64) (w_UTF_8 w_US_ASCII w_ISO_8859_1 : Addr) : (f2_0 q w_UTF_8 w_US_ASCII w_ISO_8859_1).isRef = true := by
  simp only [f2_0]
  (repeat' split) <;> rfl
theorem own_pd0 : parseMethodDescriptor "(J)Ljava/nio/charset/Charset;" = some ⟨[.long], some (.object "java/nio/charset/Charset")⟩ := by decide +kernel
/-! body 0 -/
def f0_162 (q0 : Int64) (p1 : Int32) (w_US_ASCII : Addr) (w_ISO_8859_1 : Addr) (w_UTF_8 : Addr) (x7 : Int64) : Int32 := (if ((f1_0 x7 w_US_ASCII w_ISO_8859_1 w_UTF_8) : Value) = (f2_0 x7 w_UTF_8 w_US_ASCII w_ISO_8859_1) then (1 : Int32) else (0 : Int32))
set_option maxRecDepth 65536 in
set_option maxHeartbeats 40000000 in
theorem g0_162 {p : Program} {l : Launch} {e : Env} {s : State} {m : MethodId} {below : List Frame} {meth : Method} {c : Code} {s₁ : State} {ws : List Jvm.Cond} {Z : State} {aw : Array Value} (hw : ∀ d ∈ tables_1, d.before aw Z = true) {h0 : Heap} (q0 : Int64) (p1 : Int32) (w_US_ASCII : Addr) (w_ISO_8859_1 : Addr) (w_UTF_8 : Addr) (Sw_US_ASCII : Sta Z h0 "java/nio/charset/StandardCharsets" "US_ASCII" "Ljava/nio/charset/Charset;" (.ref w_US_ASCII)) (Sw_ISO_8859_1 : Sta Z h0 "java/nio/charset/StandardCharsets" "ISO_8859_1" "Ljava/nio/charset/Charset;" (.ref w_ISO_8859_1)) (Sw_UTF_8 : Sta Z h0 "java/nio/charset/StandardCharsets" "UTF_8" "Ljava/nio/charset/Charset;" (.ref w_UTF_8)) (x3 : Int32) (x4 : Int32) (x5 : Int64) (x7 : Int64)
    (Bd : BodyLoose p l x (head1 (Jvm.Cond.code x code maxLocals ret :: ws) room_1) code maxLocals ret e s m #[(.long q0), (.int p1)] below meth c s₁) (hml : c.maxLocals = 10) (hZ : Z.Warmed39 s.vm) (T0 : State) (X0 : Stand p l e room_1 s m #[(.long q0), (.int p1)] below meth c T0 [] 0 0) (e0 : T0.heap = h0) :
    own_Go p e below s room_1.cells room_1.slots (some (.int (f0_162 q0 p1 w_US_ASCII w_ISO_8859_1 w_UTF_8 x7))) (own_K0 h0) (T0.setTop (mkF m 162 #[.val (.long q0), .second, .val (.int p1), .val (.int x3), .val (.int x4), .val (.long x5), .second, .val (.long x7), .second, .unset] [])) := by
  have hx := Bd.exec
  have hby := Bd.bytes
  have hown : s.vm.findClass "com/example/tersemark/tersemark/codec/WbxmlFormatCharsetPinLaw" = some m.cls := findClass_of_methodNamed Bd.named
  unfold f0_162
  refine own_pre (F' := T0.setTop (mkF m 164 #[.val (.long q0), .second, .val (.int p1), .val (.int x3), .val (.int x4), .val (.long x5), .second, .val (.long x7), .second, .unset] [(.long x7)])) (fun _ k => XS.lload X0.here hx rfl (hb hby at_162) rfl k) ?_
  obtain ⟨_, _, ⟨T1, L', k', n'⟩, -, X'', ⟨Lc', hQ', l', y', z'⟩, st'⟩ := Jvm.LawKit.callS X0 hx (y := (⟨"com/example/tersemark/tersemark/codec/WbxmlFormat", "charset", "(J)Ljava/nio/charset/Charset;"⟩ : MethodName)) hown (mvT hZ (hw _ (List.mem_of_getElem? (i := 0) rfl))) (mvT hZ (hw _ (List.mem_of_getElem? (i := 1) rfl))) (mvT hZ (hw _ (List.mem_of_getElem? (i := 2) rfl))) (mvT hZ (hw _ (List.mem_of_getElem? (i := 3) rfl))) (by decide) (backOf (W := 0) (rm1 l Z aw hw [] x7 w_US_ASCII w_ISO_8859_1 w_UTF_8 h0 Sw_US_ASCII Sw_ISO_8859_1 Sw_UTF_8) hZ (hw _ (List.mem_of_getElem? (i := 3) rfl)) (hw _ (List.mem_of_getElem? (i := 2) rfl)) (by decide) (by decide)) (g := (mkF m 164 #[.val (.long q0), .second, .val (.int p1), .val (.int x3), .val (.int x4), .val (.long x5), .second, .val (.long x7), .second, .unset] [(.long x7)])) rfl (by rw [hml]; rfl) (argsL := [(.long x7)]) (rest := []) (lenOf own_pd0 rfl) rfl (by show 2 * 0 + _ ≤ _; exact Nat.le_of_eq rfl) (hb hby at_164) (fun _ _ => ⟨rfl, e0, (by decide : 0 + 0 ≤ _), (by decide : 0 + 0 ≤ _)⟩)
  dsimp only [Pt.U, Pt.locs, Pt.cells, Pt.slots] at X'' l' y' z' st' hQ'
  subst l' y' z'
  obtain ⟨rfl, rfl, e1⟩ := hQ'
  have X1 : Stand p l e room_1 s m #[(.long q0), (.int p1)] below meth c T1 [] 0 0 := X''
  refine own_pre (F' := T1.setTop (mkF m 167 #[.val (.long q0), .second, .val (.int p1), .val (.int x3), .val (.int x4), .val (.long x5), .second, .val (.long x7), .second, .unset] [(f1_0 x7 w_US_ASCII w_ISO_8859_1 w_UTF_8)])) (fun t k => st' t k) ?_
  refine own_pre (F' := T1.setTop (mkF m 169 #[.val (.long q0), .second, .val (.int p1), .val (.int x3), .val (.int x4), .val (.long x5), .second, .val (.long x7), .second, .val (f1_0 x7 w_US_ASCII w_ISO_8859_1 w_UTF_8)] [])) (fun _ k => XS.astore X1.here hx rfl (hb hby at_167) rfl (own_isref1 ..) (l' := #[.val (.long q0), .second, .val (.int p1), .val (.int x3), .val (.int x4), .val (.long x5), .second, .val (.long x7), .second, .val (f1_0 x7 w_US_ASCII w_ISO_8859_1 w_UTF_8)]) (by rcases ref_cases (own_isref1 ..) with q | ⟨a, q⟩ <;> rw [q] <;> rfl) k) ?_
  refine own_pre (F' := T1.setTop (mkF m 171 #[.val (.long q0), .second, .val (.int p1), .val (.int x3), .val (.int x4), .val (.long x5), .second, .val (.long x7), .second, .val (f1_0 x7 w_US_ASCII w_ISO_8859_1 w_UTF_8)] [(f1_0 x7 w_US_ASCII w_ISO_8859_1 w_UTF_8)])) (fun _ k => XS.aload X1.here hx rfl (hb hby at_169) rfl (own_isref1 ..) k) ?_
  refine own_pre (F' := T1.setTop (mkF m 173 #[.val (.long q0), .second, .val (.int p1), .val (.int x3), .val (.int x4), .val (.long x5), .second, .val (.long x7), .second, .val (f1_0 x7 w_US_ASCII w_ISO_8859_1 w_UTF_8)] [(.long x7), (f1_0 x7 w_US_ASCII w_ISO_8859_1 w_UTF_8)])) (fun _ k => XS.lload X1.here hx rfl (hb hby at_171) rfl k) ?_
  obtain ⟨_, _, ⟨T2, L', k', n'⟩, -, X'', ⟨Lc', hQ', l', y', z'⟩, st'⟩ := Jvm.LawKit.callS X1 hx (y := (⟨"com/example/tersemark/tersemark/codec/WbxmlFormatCharsetPinLaw", "expected", "(J)Ljava/nio/charset/Charset;"⟩ : MethodName)) hown (mvT hZ (hw _ (List.mem_of_getElem? (i := 7) rfl))) (mvT hZ (hw _ (List.mem_of_getElem? (i := 8) rfl))) (mvT hZ (hw _ (List.mem_of_getElem? (i := 9) rfl))) (mvT hZ (hw _ (List.mem_of_getElem? (i := 10) rfl))) (by decide) (backOf (W := 1) (rm2 l Z aw hw [] x7 w_UTF_8 w_US_ASCII w_ISO_8859_1 h0 Sw_UTF_8 Sw_US_ASCII Sw_ISO_8859_1) hZ (hw _ (List.mem_of_getElem? (i := 10) rfl)) (hw _ (List.mem_of_getElem? (i := 9) rfl)) (by decide) (by decide)) (g := (mkF m 173 #[.val (.long q0), .second, .val (.int p1), .val (.int x3), .val (.int x4), .val (.long x5), .second, .val (.long x7), .second, .val (f1_0 x7 w_US_ASCII w_ISO_8859_1 w_UTF_8)] [(.long x7), (f1_0 x7 w_US_ASCII w_ISO_8859_1 w_UTF_8)])) rfl (by rw [hml]; rfl) (argsL := [(.long x7)]) (rest := [(f1_0 x7 w_US_ASCII w_ISO_8859_1 w_UTF_8)]) (lenOf own_pd0 rfl) rfl (by show 2 * 0 + (Value.category (f1_0 x7 w_US_ASCII w_ISO_8859_1 w_UTF_8) + 0) ≤ _; exact Nat.le_of_eq (by rw [own_cat (own_isref1 ..)])) (hb hby at_173) (fun _ _ => ⟨rfl, e1, (by decide : 0 + 0 ≤ _), (by decide : 0 + 0 ≤ _)⟩)
  dsimp only [Pt.U, Pt.locs, Pt.cells, Pt.slots] at X'' l' y' z' st' hQ'
  subst l' y' z'
  obtain ⟨rfl, rfl, e2⟩ := hQ'
  have X2 : Stand p l e room_1 s m #[(.long q0), (.int p1)] below meth c T2 [] 0 0 := X''
  refine own_pre (F' := T2.setTop (mkF m 176 #[.val (.long q0), .second, .val (.int p1), .val (.int x3), .val (.int x4), .val (.long x5), .second, .val (.long x7), .second, .val (f1_0 x7 w_US_ASCII w_ISO_8859_1 w_UTF_8)] [(f2_0 x7 w_UTF_8 w_US_ASCII w_ISO_8859_1), (f1_0 x7 w_US_ASCII w_ISO_8859_1 w_UTF_8)])) (fun t k => st' t k) ?_
  refine own_iteI (fun ha176 => ?_) (fun ha176 => ?_)
  · skip
    refine own_pre (F' := T2.setTop (mkF m 179 #[.val (.long q0), .second, .val (.int p1), .val (.int x3), .val (.int x4), .val (.long x5), .second, .val (.long x7), .second, .val (f1_0 x7 w_US_ASCII w_ISO_8859_1 w_UTF_8)] [])) (fun _ k => Jvm.RoadKit.acmp (g := (mkF m 176 #[.val (.long q0), .second, .val (.int p1), .val (.int x3), .val (.int x4), .val (.long x5), .second, .val (.long x7), .second, .val (f1_0 x7 w_US_ASCII w_ISO_8859_1 w_UTF_8)] [(f2_0 x7 w_UTF_8 w_US_ASCII w_ISO_8859_1), (f1_0 x7 w_US_ASCII w_ISO_8859_1 w_UTF_8)])) X2 hx rfl (own_isref1 ..) (own_isref2 ..) (pc0 := 176) (pc' := 179) (same := true) rfl (hb hby at_176) rfl (decide_eq_true ha176) (by decide) (by decide) k) ?_
    refine own_pre (F' := T2.setTop (mkF m 180 #[.val (.long q0), .second, .val (.int p1), .val (.int x3), .val (.int x4), .val (.long x5), .second, .val (.long x7), .second, .val (f1_0 x7 w_US_ASCII w_ISO_8859_1 w_UTF_8)] [(.int (1 : Int32))])) (fun _ k => XS.iconst X2.here hx rfl (hb hby at_179) k) ?_
    refine own_pre (F' := T2.setTop (mkF m 184 #[.val (.long q0), .second, .val (.int p1), .val (.int x3), .val (.int x4), .val (.long x5), .second, .val (.long x7), .second, .val (f1_0 x7 w_US_ASCII w_ISO_8859_1 w_UTF_8)] [(.int (1 : Int32))])) (fun _ k => XS.goto X2.here hx rfl (pc0 := 180) (pc' := 184) rfl (hb hby at_180) (by decide) (by decide) k) ?_
    exact own_ret X2 hx Bd.notSynchronized Bd.returns rfl (Or.inl ⟨rfl, by simp, _, rfl⟩) (hb hby at_184) ⟨rfl, e2⟩ (by decide) (by decide)
  · skip
    refine own_pre (F' := T2.setTop (mkF m 183 #[.val (.long q0), .second, .val (.int p1), .val (.int x3), .val (.int x4), .val (.long x5), .second, .val (.long x7), .second, .val (f1_0 x7 w_US_ASCII w_ISO_8859_1 w_UTF_8)] [])) (fun _ k => Jvm.RoadKit.acmp (g := (mkF m 176 #[.val (.long q0), .second, .val (.int p1), .val (.int x3), .val (.int x4), .val (.long x5), .second, .val (.long x7), .second, .val (f1_0 x7 w_US_ASCII w_ISO_8859_1 w_UTF_8)] [(f2_0 x7 w_UTF_8 w_US_ASCII w_ISO_8859_1), (f1_0 x7 w_US_ASCII w_ISO_8859_1 w_UTF_8)])) X2 hx rfl (own_isref1 ..) (own_isref2 ..) (pc0 := 176) (pc' := 183) (same := false) rfl (hb hby at_176) rfl (decide_eq_false ha176) (by decide) (by decide) k) ?_
    refine own_pre (F' := T2.setTop (mkF m 184 #[.val (.long q0), .second, .val (.int p1), .val (.int x3), .val (.int x4), .val (.long x5), .second, .val (.long x7), .second, .val (f1_0 x7 w_US_ASCII w_ISO_8859_1 w_UTF_8)] [(.int (0 : Int32))])) (fun _ k => XS.iconst X2.here hx rfl (hb hby at_183) k) ?_
    exact own_ret X2 hx Bd.notSynchronized Bd.returns rfl (Or.inl ⟨rfl, by simp, _, rfl⟩) (hb hby at_184) ⟨rfl, e2⟩ (by decide) (by decide)
def f0_56 (q0 : Int64) (p1 : Int32) (w_US_ASCII : Addr) (w_ISO_8859_1 : Addr) (w_UTF_8 : Addr) (x3 : Int32) (x5 : Int64) : Int32 := (if x3 = (0 : Int32) then (f0_162 q0 p1 w_US_ASCII w_ISO_8859_1 w_UTF_8 q0) else (if x3 = (1 : Int32) then (f0_162 q0 p1 w_US_ASCII w_ISO_8859_1 w_UTF_8 x5) else (if x3 = (2 : Int32) then (f0_162 q0 p1 w_US_ASCII w_ISO_8859_1 w_UTF_8 (x5 + (1 : Int64))) else (if x3 = (3 : Int32) then (f0_162 q0 p1 w_US_ASCII w_ISO_8859_1 w_UTF_8 (x5 - (1 : Int64))) else (if x3 = (4 : Int32) then (f0_162 q0 p1 w_US_ASCII w_ISO_8859_1 w_UTF_8 (q0 &&& (127 : Int64))) else (if x3 = (5 : Int32) then (f0_162 q0 p1 w_US_ASCII w_ISO_8859_1 w_UTF_8 (-(q0 &&& (127 : Int64)))) else (if x3 = (6 : Int32) then (f0_162 q0 p1 w_US_ASCII w_ISO_8859_1 w_UTF_8 ((q0 <<< ((32 : Int32) &&& 0x3f).toInt64) ||| x5)) else (f0_162 q0 p1 w_US_ASCII w_ISO_8859_1 w_UTF_8 (q0 ||| (-9223372036854775808 : Int64))))))))))
set_option maxRecDepth 65536 in
set_option maxHeartbeats 40000000 in
theorem g0_56 {p : Program} {l : Launch} {e : Env} {s : State} {m : MethodId} {below : List Frame} {meth : Method} {c : Code} {s₁ : State} {ws : List Jvm.Cond} {Z : State} {aw : Array Value} (hw : ∀ d ∈ tables_1, d.before aw Z = true) {h0 : Heap} (q0 : Int64) (p1 : Int32) (w_US_ASCII : Addr) (w_ISO_8859_1 : Addr) (w_UTF_8 : Addr) (Sw_US_ASCII : Sta Z h0 "java/nio/charset/StandardCharsets" "US_ASCII" "Ljava/nio/charset/Charset;" (.ref w_US_ASCII)) (Sw_ISO_8859_1 : Sta Z h0 "java/nio/charset/StandardCharsets" "ISO_8859_1" "Ljava/nio/charset/Charset;" (.ref w_ISO_8859_1)) (Sw_UTF_8 : Sta Z h0 "java/nio/charset/StandardCharsets" "UTF_8" "Ljava/nio/charset/Charset;" (.ref w_UTF_8)) (x3 : Int32) (x4 : Int32) (x5 : Int64)
    (Bd : BodyLoose p l x (head1 (Jvm.Cond.code x code maxLocals ret :: ws) room_1) code maxLocals ret e s m #[(.long q0), (.int p1)] below meth c s₁) (hml : c.maxLocals = 10) (hZ : Z.Warmed39 s.vm) (T0 : State) (X0 : Stand p l e room_1 s m #[(.long q0), (.int p1)] below meth c T0 [] 0 0) (e0 : T0.heap = h0) :
    own_Go p e below s room_1.cells room_1.slots (some (.int (f0_56 q0 p1 w_US_ASCII w_ISO_8859_1 w_UTF_8 x3 x5))) (own_K0 h0) (T0.setTop (mkF m 56 #[.val (.long q0), .second, .val (.int p1), .val (.int x3), .val (.int x4), .val (.long x5), .second, .unset, .unset, .unset] [])) := by
  have hx := Bd.exec
  have hby := Bd.bytes
  have hown : s.vm.findClass "com/example/tersemark/tersemark/codec/WbxmlFormatCharsetPinLaw" = some m.cls := findClass_of_methodNamed Bd.named
  unfold f0_56
  refine own_pre (F' := T0.setTop (mkF m 57 #[.val (.long q0), .second, .val (.int p1), .val (.int x3), .val (.int x4), .val (.long x5), .second, .unset, .unset, .unset] [(.int x3)])) (fun _ k => XS.iloadN X0.here hx rfl (hb hby at_56) rfl k) ?_
  refine own_iteI (fun hc57 => ?_) (fun hc57 => ?_)
  · skip
    refine own_pre (F' := T0.setTop (mkF m 60 #[.val (.long q0), .second, .val (.int p1), .val (.int x3), .val (.int x4), .val (.long x5), .second, .unset, .unset, .unset] [])) (fun _ k => XS.ifNo X0.here hx rfl (hb hby at_57) rfl ((if0 _ _).trans (teq hc57).2) k) ?_
    refine own_pre (F' := T0.setTop (mkF m 61 #[.val (.long q0), .second, .val (.int p1), .val (.int x3), .val (.int x4), .val (.long x5), .second, .unset, .unset, .unset] [(.long q0)])) (fun _ k => XS.lloadN X0.here hx rfl (hb hby at_60) rfl k) ?_
    refine own_pre (F' := T0.setTop (mkF m 63 #[.val (.long q0), .second, .val (.int p1), .val (.int x3), .val (.int x4), .val (.long x5), .second, .val (.long q0), .second, .unset] [])) (fun _ k => XS.lstore X0.here hx rfl (hb hby at_61) rfl (l' := #[.val (.long q0), .second, .val (.int p1), .val (.int x3), .val (.int x4), .val (.long x5), .second, .val (.long q0), .second, .unset]) rfl k) ?_
    refine own_pre (F' := T0.setTop (mkF m 162 #[.val (.long q0), .second, .val (.int p1), .val (.int x3), .val (.int x4), .val (.long x5), .second, .val (.long q0), .second, .unset] [])) (fun _ k => XS.goto X0.here hx rfl (pc0 := 63) (pc' := 162) rfl (hb hby at_63) (by decide) (by decide) k) ?_
    exact g0_162 hw q0 p1 w_US_ASCII w_ISO_8859_1 w_UTF_8 Sw_US_ASCII Sw_ISO_8859_1 Sw_UTF_8 x3 x4 x5 q0 Bd hml hZ T0 X0 e0
  · skip
    refine own_pre (F' := T0.setTop (mkF m 66 #[.val (.long q0), .second, .val (.int p1), .val (.int x3), .val (.int x4), .val (.long x5), .second, .unset, .unset, .unset] [])) (fun _ k => XS.ifYes X0.here hx rfl (pc0 := 57) (pc' := 66) rfl (hb hby at_57) rfl ((if0 _ _).trans (feq hc57).2) (by decide) (by decide) k) ?_
    refine own_pre (F' := T0.setTop (mkF m 67 #[.val (.long q0), .second, .val (.int p1), .val (.int x3), .val (.int x4), .val (.long x5), .second, .unset, .unset, .unset] [(.int x3)])) (fun _ k => XS.iloadN X0.here hx rfl (hb hby at_66) rfl k) ?_
    refine own_pre (F' := T0.setTop (mkF m 68 #[.val (.long q0), .second, .val (.int p1), .val (.int x3), .val (.int x4), .val (.long x5), .second, .unset, .unset, .unset] [(.int (1 : Int32)), (.int x3)])) (fun _ k => XS.iconst X0.here hx rfl (hb hby at_67) k) ?_
    refine own_iteI (fun hc68 => ?_) (fun hc68 => ?_)
    · skip
      refine own_pre (F' := T0.setTop (mkF m 71 #[.val (.long q0), .second, .val (.int p1), .val (.int x3), .val (.int x4), .val (.long x5), .second, .unset, .unset, .unset] [])) (fun _ k => XS.icmpNo X0.here hx rfl (hb hby at_68) rfl (teq hc68).2 k) ?_
      refine own_pre (F' := T0.setTop (mkF m 73 #[.val (.long q0), .second, .val (.int p1), .val (.int x3), .val (.int x4), .val (.long x5), .second, .unset, .unset, .unset] [(.long x5)])) (fun _ k => XS.lload X0.here hx rfl (hb hby at_71) rfl k) ?_
      refine own_pre (F' := T0.setTop (mkF m 75 #[.val (.long q0), .second, .val (.int p1), .val (.int x3), .val (.int x4), .val (.long x5), .second, .val (.long x5), .second, .unset] [])) (fun _ k => XS.lstore X0.here hx rfl (hb hby at_73) rfl (l' := #[.val (.long q0), .second, .val (.int p1), .val (.int x3), .val (.int x4), .val (.long x5), .second, .val (.long x5), .second, .unset]) rfl k) ?_
      refine own_pre (F' := T0.setTop (mkF m 162 #[.val (.long q0), .second, .val (.int p1), .val (.int x3), .val (.int x4), .val (.long x5), .second, .val (.long x5), .second, .unset] [])) (fun _ k => XS.goto X0.here hx rfl (pc0 := 75) (pc' := 162) rfl (hb hby at_75) (by decide) (by decide) k) ?_
      exact g0_162 hw q0 p1 w_US_ASCII w_ISO_8859_1 w_UTF_8 Sw_US_ASCII Sw_ISO_8859_1 Sw_UTF_8 x3 x4 x5 x5 Bd hml hZ T0 X0 e0
    · skip
      refine own_pre (F' := T0.setTop (mkF m 78 #[.val (.long q0), .second, .val (.int p1), .val (.int x3), .val (.int x4), .val (.long x5), .second, .unset, .unset, .unset] [])) (fun _ k => XS.icmpYes X0.here hx rfl (pc0 := 68) (pc' := 78) rfl (hb hby at_68) rfl (feq hc68).2 (by decide) (by decide) k) ?_
      refine own_pre (F' := T0.setTop (mkF m 79 #[.val (.long q0), .second, .val (.int p1), .val (.int x3), .val (.int x4), .val (.long x5), .second, .unset, .unset, .unset] [(.int x3)])) (fun _ k => XS.iloadN X0.here hx rfl (hb hby at_78) rfl k) ?_
      refine own_pre (F' := T0.setTop (mkF m 80 #[.val (.long q0), .second, .val (.int p1), .val (.int x3), .val (.int x4), .val (.long x5), .second, .unset, .unset, .unset] [(.int (2 : Int32)), (.int x3)])) (fun _ k => XS.iconst X0.here hx rfl (hb hby at_79) k) ?_
      refine own_iteI (fun hc80 => ?_) (fun hc80 => ?_)
      · skip
        refine own_pre (F' := T0.setTop (mkF m 83 #[.val (.long q0), .second, .val (.int p1), .val (.int x3), .val (.int x4), .val (.long x5), .second, .unset, .unset, .unset] [])) (fun _ k => XS.icmpNo X0.here hx rfl (hb hby at_80) rfl (teq hc80).2 k) ?_
        refine own_pre (F' := T0.setTop (mkF m 85 #[.val (.long q0), .second, .val (.int p1), .val (.int x3), .val (.int x4), .val (.long x5), .second, .unset, .unset, .unset] [(.long x5)])) (fun _ k => XS.lload X0.here hx rfl (hb hby at_83) rfl k) ?_
        refine own_pre (F' := T0.setTop (mkF m 86 #[.val (.long q0), .second, .val (.int p1), .val (.int x3), .val (.int x4), .val (.long x5), .second, .unset, .unset, .unset] [(.long (1 : Int64)), (.long x5)])) (fun _ k => XS.lconst X0.here hx rfl (hb hby at_85) k) ?_
        refine own_pre (F' := T0.setTop (mkF m 87 #[.val (.long q0), .second, .val (.int p1), .val (.int x3), .val (.int x4), .val (.long x5), .second, .unset, .unset, .unset] [(.long (x5 + (1 : Int64)))])) (fun _ k => XS.ladd X0.here hx rfl (hb hby at_86) rfl k) ?_
        refine own_pre (F' := T0.setTop (mkF m 89 #[.val (.long q0), .second, .val (.int p1), .val (.int x3), .val (.int x4), .val (.long x5), .second, .val (.long (x5 + (1 : Int64))), .second, .unset] [])) (fun _ k => XS.lstore X0.here hx rfl (hb hby at_87) rfl (l' := #[.val (.long q0), .second, .val (.int p1), .val (.int x3), .val (.int x4), .val (.long x5), .second, .val (.long (x5 + (1 : Int64))), .second, .unset]) rfl k) ?_
        refine own_pre (F' := T0.setTop (mkF m 162 #[.val (.long q0), .second, .val (.int p1), .val (.int x3), .val (.int x4), .val (.long x5), .second, .val (.long (x5 + (1 : Int64))), .second, .unset] [])) (fun _ k => XS.goto X0.here hx rfl (pc0 := 89) (pc' := 162) rfl (hb hby at_89) (by decide) (by decide) k) ?_
        exact g0_162 hw q0 p1 w_US_ASCII w_ISO_8859_1 w_UTF_8 Sw_US_ASCII Sw_ISO_8859_1 Sw_UTF_8 x3 x4 x5 (x5 + (1 : Int64)) Bd hml hZ T0 X0 e0
      · skip
        refine own_pre (F' := T0.setTop (mkF m 92 #[.val (.long q0), .second, .val (.int p1), .val (.int x3), .val (.int x4), .val (.long x5), .second, .unset, .unset, .unset] [])) (fun _ k => XS.icmpYes X0.here hx rfl (pc0 := 80) (pc' := 92) rfl (hb hby at_80) rfl (feq hc80).2 (by decide) (by decide) k) ?_
        refine own_pre (F' := T0.setTop (mkF m 93 #[.val (.long q0), .second, .val (.int p1), .val (.int x3), .val (.int x4), .val (.long x5), .second, .unset, .unset, .unset] [(.int x3)])) (fun _ k => XS.iloadN X0.here hx rfl (hb hby at_92) rfl k) ?_
        refine own_pre (F' := T0.setTop (mkF m 94 #[.val (.long q0), .second, .val (.int p1), .val (.int x3), .val (.int x4), .val (.long x5), .second, .unset, .unset, .unset] [(.int (3 : Int32)), (.int x3)])) (fun _ k => XS.iconst X0.here hx rfl (hb hby at_93) k) ?_
        refine own_iteI (fun hc94 => ?_) (fun hc94 => ?_)
        · skip
          refine own_pre (F' := T0.setTop (mkF m 97 #[.val (.long q0), .second, .val (.int p1), .val (.int x3), .val (.int x4), .val (.long x5), .second, .unset, .unset, .unset] [])) (fun _ k => XS.icmpNo X0.here hx rfl (hb hby at_94) rfl (teq hc94).2 k) ?_
          refine own_pre (F' := T0.setTop (mkF m 99 #[.val (.long q0), .second, .val (.int p1), .val (.int x3), .val (.int x4), .val (.long x5), .second, .unset, .unset, .unset] [(.long x5)])) (fun _ k => XS.lload X0.here hx rfl (hb hby at_97) rfl k) ?_
          refine own_pre (F' := T0.setTop (mkF m 100 #[.val (.long q0), .second, .val (.int p1), .val (.int x3), .val (.int x4), .val (.long x5), .second, .unset, .unset, .unset] [(.long (1 : Int64)), (.long x5)])) (fun _ k => XS.lconst X0.here hx rfl (hb hby at_99) k) ?_
          refine own_pre (F' := T0.setTop (mkF m 101 #[.val (.long q0), .second, .val (.int p1), .val (.int x3), .val (.int x4), .val (.long x5), .second, .unset, .unset, .unset] [(.long (x5 - (1 : Int64)))])) (fun _ k => XS.lsub X0.here hx rfl (hb hby at_100) rfl k) ?_
          refine own_pre (F' := T0.setTop (mkF m 103 #[.val (.long q0), .second, .val (.int p1), .val (.int x3), .val (.int x4), .val (.long x5), .second, .val (.long (x5 - (1 : Int64))), .second, .unset] [])) (fun _ k => XS.lstore X0.here hx rfl (hb hby at_101) rfl (l' := #[.val (.long q0), .second, .val (.int p1), .val (.int x3), .val (.int x4), .val (.long x5), .second, .val (.long (x5 - (1 : Int64))), .second, .unset]) rfl k) ?_
          refine own_pre (F' := T0.setTop (mkF m 162 #[.val (.long q0), .second, .val (.int p1), .val (.int x3), .val (.int x4), .val (.long x5), .second, .val (.long (x5 - (1 : Int64))), .second, .unset] [])) (fun _ k => XS.goto X0.here hx rfl (pc0 := 103) (pc' := 162) rfl (hb hby at_103) (by decide) (by decide) k) ?_
          exact g0_162 hw q0 p1 w_US_ASCII w_ISO_8859_1 w_UTF_8 Sw_US_ASCII Sw_ISO_8859_1 Sw_UTF_8 x3 x4 x5 (x5 - (1 : Int64)) Bd hml hZ T0 X0 e0
        · skip
          refine own_pre (F' := T0.setTop (mkF m 106 #[.val (.long q0), .second, .val (.int p1), .val (.int x3), .val (.int x4), .val (.long x5), .second, .unset, .unset, .unset] [])) (fun _ k => XS.icmpYes X0.here hx rfl (pc0 := 94) (pc' := 106) rfl (hb hby at_94) rfl (feq hc94).2 (by decide) (by decide) k) ?_
          refine own_pre (F' := T0.setTop (mkF m 107 #[.val (.long q0), .second, .val (.int p1), .val (.int x3), .val (.int x4), .val (.long x5), .second, .unset, .unset, .unset] [(.int x3)])) (fun _ k => XS.iloadN X0.here hx rfl (hb hby at_106) rfl k) ?_
          refine own_pre (F' := T0.setTop (mkF m 108 #[.val (.long q0), .second, .val (.int p1), .val (.int x3), .val (.int x4), .val (.long x5), .second, .unset, .unset, .unset] [(.int (4 : Int32)), (.int x3)])) (fun _ k => XS.iconst X0.here hx rfl (hb hby at_107) k) ?_
          refine own_iteI (fun hc108 => ?_) (fun hc108 => ?_)
          · skip
            refine own_pre (F' := T0.setTop (mkF m 111 #[.val (.long q0), .second, .val (.int p1), .val (.int x3), .val (.int x4), .val (.long x5), .second, .unset, .unset, .unset] [])) (fun _ k => XS.icmpNo X0.here hx rfl (hb hby at_108) rfl (teq hc108).2 k) ?_
            refine own_pre (F' := T0.setTop (mkF m 112 #[.val (.long q0), .second, .val (.int p1), .val (.int x3), .val (.int x4), .val (.long x5), .second, .unset, .unset, .unset] [(.long q0)])) (fun _ k => XS.lloadN X0.here hx rfl (hb hby at_111) rfl k) ?_
            refine own_pre (F' := T0.setTop (mkF m 115 #[.val (.long q0), .second, .val (.int p1), .val (.int x3), .val (.int x4), .val (.long x5), .second, .unset, .unset, .unset] [(.long (127 : Int64)), (.long q0)])) (fun _ k => X0.ldc2Long hx hown (mvT hZ (hw _ (List.mem_of_getElem? (i := 14) rfl))) (g := (mkF m 112 #[.val (.long q0), .second, .val (.int p1), .val (.int x3), .val (.int x4), .val (.long x5), .second, .unset, .unset, .unset] [(.long q0)])) rfl (hb hby at_112) _ k) ?_
            refine own_pre (F' := T0.setTop (mkF m 116 #[.val (.long q0), .second, .val (.int p1), .val (.int x3), .val (.int x4), .val (.long x5), .second, .unset, .unset, .unset] [(.long (q0 &&& (127 : Int64)))])) (fun _ k => XS.land X0.here hx rfl (hb hby at_115) rfl k) ?_
            refine own_pre (F' := T0.setTop (mkF m 118 #[.val (.long q0), .second, .val (.int p1), .val (.int x3), .val (.int x4), .val (.long x5), .second, .val (.long (q0 &&& (127 : Int64))), .second, .unset] [])) (fun _ k => XS.lstore X0.here hx rfl (hb hby at_116) rfl (l' := #[.val (.long q0), .second, .val (.int p1), .val (.int x3), .val (.int x4), .val (.long x5), .second, .val (.long (q0 &&& (127 : Int64))), .second, .unset]) rfl k) ?_
            refine own_pre (F' := T0.setTop (mkF m 162 #[.val (.long q0), .second, .val (.int p1), .val (.int x3), .val (.int x4), .val (.long x5), .second, .val (.long (q0 &&& (127 : Int64))), .second, .unset] [])) (fun _ k => XS.goto X0.here hx rfl (pc0 := 118) (pc' := 162) rfl (hb hby at_118) (by decide) (by decide) k) ?_
            exact g0_162 hw q0 p1 w_US_ASCII w_ISO_8859_1 w_UTF_8 Sw_US_ASCII Sw_ISO_8859_1 Sw_UTF_8 x3 x4 x5 (q0 &&& (127 : Int64)) Bd hml hZ T0 X0 e0
          · skip
            refine own_pre (F' := T0.setTop (mkF m 121 #[.val (.long q0), .second, .val (.int p1), .val (.int x3), .val (.int x4), .val (.long x5), .second, .unset, .unset, .unset] [])) (fun _ k => XS.icmpYes X0.here hx rfl (pc0 := 108) (pc' := 121) rfl (hb hby at_108) rfl (feq hc108).2 (by decide) (by decide) k) ?_
            refine own_pre (F' := T0.setTop (mkF m 122 #[.val (.long q0), .second, .val (.int p1), .val (.int x3), .val (.int x4), .val (.long x5), .second, .unset, .unset, .unset] [(.int x3)])) (fun _ k => XS.iloadN X0.here hx rfl (hb hby at_121) rfl k) ?_
            refine own_pre (F' := T0.setTop (mkF m 123 #[.val (.long q0), .second, .val (.int p1), .val (.int x3), .val (.int x4), .val (.long x5), .second, .unset, .unset, .unset] [(.int (5 : Int32)), (.int x3)])) (fun _ k => XS.iconst X0.here hx rfl (hb hby at_122) k) ?_
            refine own_iteI (fun hc123 => ?_) (fun hc123 => ?_)
            · skip
              refine own_pre (F' := T0.setTop (mkF m 126 #[.val (.long q0), .second, .val (.int p1), .val (.int x3), .val (.int x4), .val (.long x5), .second, .unset, .unset, .unset] [])) (fun _ k => XS.icmpNo X0.here hx rfl (hb hby at_123) rfl (teq hc123).2 k) ?_
              refine own_pre (F' := T0.setTop (mkF m 127 #[.val (.long q0), .second, .val (.int p1), .val (.int x3), .val (.int x4), .val (.long x5), .second, .unset, .unset, .unset] [(.long q0)])) (fun _ k => XS.lloadN X0.here hx rfl (hb hby at_126) rfl k) ?_
              refine own_pre (F' := T0.setTop (mkF m 130 #[.val (.long q0), .second, .val (.int p1), .val (.int x3), .val (.int x4), .val (.long x5), .second, .unset, .unset, .unset] [(.long (127 : Int64)), (.long q0)])) (fun _ k => X0.ldc2Long hx hown (mvT hZ (hw _ (List.mem_of_getElem? (i := 14) rfl))) (g := (mkF m 127 #[.val (.long q0), .second, .val (.int p1), .val (.int x3), .val (.int x4), .val (.long x5), .second, .unset, .unset, .unset] [(.long q0)])) rfl (hb hby at_127) _ k) ?_
              refine own_pre (F' := T0.setTop (mkF m 131 #[.val (.long q0), .second, .val (.int p1), .val (.int x3), .val (.int x4), .val (.long x5), .second, .unset, .unset, .unset] [(.long (q0 &&& (127 : Int64)))])) (fun _ k => XS.land X0.here hx rfl (hb hby at_130) rfl k) ?_
              refine own_pre (F' := T0.setTop (mkF m 132 #[.val (.long q0), .second, .val (.int p1), .val (.int x3), .val (.int x4), .val (.long x5), .second, .unset, .unset, .unset] [(.long (-(q0 &&& (127 : Int64))))])) (fun _ k => XS.lneg X0.here hx rfl (hb hby at_131) rfl k) ?_
              refine own_pre (F' := T0.setTop (mkF m 134 #[.val (.long q0), .second, .val (.int p1), .val (.int x3), .val (.int x4), .val (.long x5), .second, .val (.long (-(q0 &&& (127 : Int64)))), .second, .unset] [])) (fun _ k => XS.lstore X0.here hx rfl (hb hby at_132) rfl (l' := #[.val (.long q0), .second, .val (.int p1), .val (.int x3), .val (.int x4), .val (.long x5), .second, .val (.long (-(q0 &&& (127 : Int64)))), .second, .unset]) rfl k) ?_
              refine own_pre (F' := T0.setTop (mkF m 162 #[.val (.long q0), .second, .val (.int p1), .val (.int x3), .val (.int x4), .val (.long x5), .second, .val (.long (-(q0 &&& (127 : Int64)))), .second, .unset] [])) (fun _ k => XS.goto X0.here hx rfl (pc0 := 134) (pc' := 162) rfl (hb hby at_134) (by decide) (by decide) k) ?_
              exact g0_162 hw q0 p1 w_US_ASCII w_ISO_8859_1 w_UTF_8 Sw_US_ASCII Sw_ISO_8859_1 Sw_UTF_8 x3 x4 x5 (-(q0 &&& (127 : Int64))) Bd hml hZ T0 X0 e0
            · skip
              refine own_pre (F' := T0.setTop (mkF m 137 #[.val (.long q0), .second, .val (.int p1), .val (.int x3), .val (.int x4), .val (.long x5), .second, .unset, .unset, .unset] [])) (fun _ k => XS.icmpYes X0.here hx rfl (pc0 := 123) (pc' := 137) rfl (hb hby at_123) rfl (feq hc123).2 (by decide) (by decide) k) ?_
              refine own_pre (F' := T0.setTop (mkF m 138 #[.val (.long q0), .second, .val (.int p1), .val (.int x3), .val (.int x4), .val (.long x5), .second, .unset, .unset, .unset] [(.int x3)])) (fun _ k => XS.iloadN X0.here hx rfl (hb hby at_137) rfl k) ?_
              refine own_pre (F' := T0.setTop (mkF m 140 #[.val (.long q0), .second, .val (.int p1), .val (.int x3), .val (.int x4), .val (.long x5), .second, .unset, .unset, .unset] [(.int (6 : Int32)), (.int x3)])) (fun _ k => XS.bipush X0.here hx rfl (hb hby at_138) k) ?_
              refine own_iteI (fun hc140 => ?_) (fun hc140 => ?_)
              · skip
                refine own_pre (F' := T0.setTop (mkF m 143 #[.val (.long q0), .second, .val (.int p1), .val (.int x3), .val (.int x4), .val (.long x5), .second, .unset, .unset, .unset] [])) (fun _ k => XS.icmpNo X0.here hx rfl (hb hby at_140) rfl (teq hc140).2 k) ?_
                refine own_pre (F' := T0.setTop (mkF m 144 #[.val (.long q0), .second, .val (.int p1), .val (.int x3), .val (.int x4), .val (.long x5), .second, .unset, .unset, .unset] [(.long q0)])) (fun _ k => XS.lloadN X0.here hx rfl (hb hby at_143) rfl k) ?_
                refine own_pre (F' := T0.setTop (mkF m 146 #[.val (.long q0), .second, .val (.int p1), .val (.int x3), .val (.int x4), .val (.long x5), .second, .unset, .unset, .unset] [(.int (32 : Int32)), (.long q0)])) (fun _ k => XS.bipush X0.here hx rfl (hb hby at_144) k) ?_
                refine own_pre (F' := T0.setTop (mkF m 147 #[.val (.long q0), .second, .val (.int p1), .val (.int x3), .val (.int x4), .val (.long x5), .second, .unset, .unset, .unset] [(.long (q0 <<< ((32 : Int32) &&& 0x3f).toInt64))])) (fun _ k => XS.lshl X0.here hx rfl (hb hby at_146) rfl k) ?_
                refine own_pre (F' := T0.setTop (mkF m 149 #[.val (.long q0), .second, .val (.int p1), .val (.int x3), .val (.int x4), .val (.long x5), .second, .unset, .unset, .unset] [(.long x5), (.long (q0 <<< ((32 : Int32) &&& 0x3f).toInt64))])) (fun _ k => XS.lload X0.here hx rfl (hb hby at_147) rfl k) ?_
                refine own_pre (F' := T0.setTop (mkF m 150 #[.val (.long q0), .second, .val (.int p1), .val (.int x3), .val (.int x4), .val (.long x5), .second, .unset, .unset, .unset] [(.long ((q0 <<< ((32 : Int32) &&& 0x3f).toInt64) ||| x5))])) (fun _ k => XS.lor X0.here hx rfl (hb hby at_149) rfl k) ?_
                refine own_pre (F' := T0.setTop (mkF m 152 #[.val (.long q0), .second, .val (.int p1), .val (.int x3), .val (.int x4), .val (.long x5), .second, .val (.long ((q0 <<< ((32 : Int32) &&& 0x3f).toInt64) ||| x5)), .second, .unset] [])) (fun _ k => XS.lstore X0.here hx rfl (hb hby at_150) rfl (l' := #[.val (.long q0), .second, .val (.int p1), .val (.int x3), .val (.int x4), .val (.long x5), .second, .val (.long ((q0 <<< ((32 : Int32) &&& 0x3f).toInt64) ||| x5)), .second, .unset]) rfl k) ?_
                refine own_pre (F' := T0.setTop (mkF m 162 #[.val (.long q0), .second, .val (.int p1), .val (.int x3), .val (.int x4), .val (.long x5), .second, .val (.long ((q0 <<< ((32 : Int32) &&& 0x3f).toInt64) ||| x5)), .second, .unset] [])) (fun _ k => XS.goto X0.here hx rfl (pc0 := 152) (pc' := 162) rfl (hb hby at_152) (by decide) (by decide) k) ?_
                exact g0_162 hw q0 p1 w_US_ASCII w_ISO_8859_1 w_UTF_8 Sw_US_ASCII Sw_ISO_8859_1 Sw_UTF_8 x3 x4 x5 ((q0 <<< ((32 : Int32) &&& 0x3f).toInt64) ||| x5) Bd hml hZ T0 X0 e0
              · skip
                refine own_pre (F' := T0.setTop (mkF m 155 #[.val (.long q0), .second, .val (.int p1), .val (.int x3), .val (.int x4), .val (.long x5), .second, .unset, .unset, .unset] [])) (fun _ k => XS.icmpYes X0.here hx rfl (pc0 := 140) (pc' := 155) rfl (hb hby at_140) rfl (feq hc140).2 (by decide) (by decide) k) ?_
                refine own_pre (F' := T0.setTop (mkF m 156 #[.val (.long q0), .second, .val (.int p1), .val (.int x3), .val (.int x4), .val (.long x5), .second, .unset, .unset, .unset] [(.long q0)])) (fun _ k => XS.lloadN X0.here hx rfl (hb hby at_155) rfl k) ?_
                refine own_pre (F' := T0.setTop (mkF m 159 #[.val (.long q0), .second, .val (.int p1), .val (.int x3), .val (.int x4), .val (.long x5), .second, .unset, .unset, .unset] [(.long (-9223372036854775808 : Int64)), (.long q0)])) (fun _ k => X0.ldc2Long hx hown (mvT hZ (hw _ (List.mem_of_getElem? (i := 15) rfl))) (g := (mkF m 156 #[.val (.long q0), .second, .val (.int p1), .val (.int x3), .val (.int x4), .val (.long x5), .second, .unset, .unset, .unset] [(.long q0)])) rfl (hb hby at_156) _ k) ?_
                refine own_pre (F' := T0.setTop (mkF m 160 #[.val (.long q0), .second, .val (.int p1), .val (.int x3), .val (.int x4), .val (.long x5), .second, .unset, .unset, .unset] [(.long (q0 ||| (-9223372036854775808 : Int64)))])) (fun _ k => XS.lor X0.here hx rfl (hb hby at_159) rfl k) ?_
                refine own_pre (F' := T0.setTop (mkF m 162 #[.val (.long q0), .second, .val (.int p1), .val (.int x3), .val (.int x4), .val (.long x5), .second, .val (.long (q0 ||| (-9223372036854775808 : Int64))), .second, .unset] [])) (fun _ k => XS.lstore X0.here hx rfl (hb hby at_160) rfl (l' := #[.val (.long q0), .second, .val (.int p1), .val (.int x3), .val (.int x4), .val (.long x5), .second, .val (.long (q0 ||| (-9223372036854775808 : Int64))), .second, .unset]) rfl k) ?_
                exact g0_162 hw q0 p1 w_US_ASCII w_ISO_8859_1 w_UTF_8 Sw_US_ASCII Sw_ISO_8859_1 Sw_UTF_8 x3 x4 x5 (q0 ||| (-9223372036854775808 : Int64)) Bd hml hZ T0 X0 e0
def f0_0 (q0 : Int64) (p1 : Int32) (w_US_ASCII : Addr) (w_ISO_8859_1 : Addr) (w_UTF_8 : Addr) : Int32 := (if (((p1.toUInt32 >>> ((3 : Int32) &&& 31).toUInt32).toInt32) &&& (3 : Int32)) = (0 : Int32) then (f0_56 q0 p1 w_US_ASCII w_ISO_8859_1 w_UTF_8 (p1 &&& (7 : Int32)) (0 : Int64)) else (if (((p1.toUInt32 >>> ((3 : Int32) &&& 31).toUInt32).toInt32) &&& (3 : Int32)) = (1 : Int32) then (f0_56 q0 p1 w_US_ASCII w_ISO_8859_1 w_UTF_8 (p1 &&& (7 : Int32)) (3 : Int64)) else (if (((p1.toUInt32 >>> ((3 : Int32) &&& 31).toUInt32).toInt32) &&& (3 : Int32)) = (2 : Int32) then (f0_56 q0 p1 w_US_ASCII w_ISO_8859_1 w_UTF_8 (p1 &&& (7 : Int32)) (4 : Int64)) else (f0_56 q0 p1 w_US_ASCII w_ISO_8859_1 w_UTF_8 (p1 &&& (7 : Int32)) (106 : Int64)))))
set_option maxRecDepth 65536 in
set_option maxHeartbeats 40000000 in
theorem g0_0 {p : Program} {l : Launch} {e : Env} {s : State} {m : MethodId} {below : List Frame} {meth : Method} {c : Code} {s₁ : State} {ws : List Jvm.Cond} {Z : State} {aw : Array Value} (hw : ∀ d ∈ tables_1, d.before aw Z = true) {h0 : Heap} (q0 : Int64) (p1 : Int32) (w_US_ASCII : Addr) (w_ISO_8859_1 : Addr) (w_UTF_8 : Addr) (Sw_US_ASCII : Sta Z h0 "java/nio/charset/StandardCharsets" "US_ASCII" "Ljava/nio/charset/Charset;" (.ref w_US_ASCII)) (Sw_ISO_8859_1 : Sta Z h0 "java/nio/charset/StandardCharsets" "ISO_8859_1" "Ljava/nio/charset/Charset;" (.ref w_ISO_8859_1)) (Sw_UTF_8 : Sta Z h0 "java/nio/charset/StandardCharsets" "UTF_8" "Ljava/nio/charset/Charset;" (.ref w_UTF_8))
    (Bd : BodyLoose p l x (head1 (Jvm.Cond.code x code maxLocals ret :: ws) room_1) code maxLocals ret e s m #[(.long q0), (.int p1)] below meth c s₁) (hml : c.maxLocals = 10) (hZ : Z.Warmed39 s.vm) (T0 : State) (X0 : Stand p l e room_1 s m #[(.long q0), (.int p1)] below meth c T0 [] 0 0) (e0 : T0.heap = h0) :
    own_Go p e below s room_1.cells room_1.slots (some (.int (f0_0 q0 p1 w_US_ASCII w_ISO_8859_1 w_UTF_8))) (own_K0 h0) (T0.setTop (mkF m 0 #[.val (.long q0), .second, .val (.int p1), .unset, .unset, .unset, .unset, .unset, .unset, .unset] [])) := by
  have hx := Bd.exec
  have hby := Bd.bytes
  have hown : s.vm.findClass "com/example/tersemark/tersemark/codec/WbxmlFormatCharsetPinLaw" = some m.cls := findClass_of_methodNamed Bd.named
  unfold f0_0
  refine own_pre (F' := T0.setTop (mkF m 1 #[.val (.long q0), .second, .val (.int p1), .unset, .unset, .unset, .unset, .unset, .unset, .unset] [(.int p1)])) (fun _ k => XS.iloadN X0.here hx rfl (hb hby at_0) rfl k) ?_
  refine own_pre (F' := T0.setTop (mkF m 3 #[.val (.long q0), .second, .val (.int p1), .unset, .unset, .unset, .unset, .unset, .unset, .unset] [(.int (7 : Int32)), (.int p1)])) (fun _ k => XS.bipush X0.here hx rfl (hb hby at_1) k) ?_
  refine own_pre (F' := T0.setTop (mkF m 4 #[.val (.long q0), .second, .val (.int p1), .unset, .unset, .unset, .unset, .unset, .unset, .unset] [(.int (p1 &&& (7 : Int32)))])) (fun _ k => XS.iand X0.here hx rfl (hb hby at_3) rfl k) ?_
  refine own_pre (F' := T0.setTop (mkF m 5 #[.val (.long q0), .second, .val (.int p1), .val (.int (p1 &&& (7 : Int32))), .unset, .unset, .unset, .unset, .unset, .unset] [])) (fun _ k => XS.istoreN X0.here hx rfl (hb hby at_4) rfl (l' := #[.val (.long q0), .second, .val (.int p1), .val (.int (p1 &&& (7 : Int32))), .unset, .unset, .unset, .unset, .unset, .unset]) rfl k) ?_
  refine own_pre (F' := T0.setTop (mkF m 6 #[.val (.long q0), .second, .val (.int p1), .val (.int (p1 &&& (7 : Int32))), .unset, .unset, .unset, .unset, .unset, .unset] [(.int p1)])) (fun _ k => XS.iloadN X0.here hx rfl (hb hby at_5) rfl k) ?_
  refine own_pre (F' := T0.setTop (mkF m 7 #[.val (.long q0), .second, .val (.int p1), .val (.int (p1 &&& (7 : Int32))), .unset, .unset, .unset, .unset, .unset, .unset] [(.int (3 : Int32)), (.int p1)])) (fun _ k => XS.iconst X0.here hx rfl (hb hby at_6) k) ?_
  refine own_pre (F' := T0.setTop (mkF m 8 #[.val (.long q0), .second, .val (.int p1), .val (.int (p1 &&& (7 : Int32))), .unset, .unset, .unset, .unset, .unset, .unset] [(.int ((p1.toUInt32 >>> ((3 : Int32) &&& 31).toUInt32).toInt32))])) (fun _ k => XS.iushr X0.here hx rfl (hb hby at_7) rfl k) ?_
  refine own_pre (F' := T0.setTop (mkF m 9 #[.val (.long q0), .second, .val (.int p1), .val (.int (p1 &&& (7 : Int32))), .unset, .unset, .unset, .unset, .unset, .unset] [(.int (3 : Int32)), (.int ((p1.toUInt32 >>> ((3 : Int32) &&& 31).toUInt32).toInt32))])) (fun _ k => XS.iconst X0.here hx rfl (hb hby at_8) k) ?_
  refine own_pre (F' := T0.setTop (mkF m 10 #[.val (.long q0), .second, .val (.int p1), .val (.int (p1 &&& (7 : Int32))), .unset, .unset, .unset, .unset, .unset, .unset] [(.int (((p1.toUInt32 >>> ((3 : Int32) &&& 31).toUInt32).toInt32) &&& (3 : Int32)))])) (fun _ k => XS.iand X0.here hx rfl (hb hby at_9) rfl k) ?_
  refine own_pre (F' := T0.setTop (mkF m 12 #[.val (.long q0), .second, .val (.int p1), .val (.int (p1 &&& (7 : Int32))), .val (.int (((p1.toUInt32 >>> ((3 : Int32) &&& 31).toUInt32).toInt32) &&& (3 : Int32))), .unset, .unset, .unset, .unset, .unset] [])) (fun _ k => XS.istore X0.here hx rfl (hb hby at_10) rfl (l' := #[.val (.long q0), .second, .val (.int p1), .val (.int (p1 &&& (7 : Int32))), .val (.int (((p1.toUInt32 >>> ((3 : Int32) &&& 31).toUInt32).toInt32) &&& (3 : Int32))), .unset, .unset, .unset, .unset, .unset]) rfl k) ?_
  refine own_pre (F' := T0.setTop (mkF m 14 #[.val (.long q0), .second, .val (.int p1), .val (.int (p1 &&& (7 : Int32))), .val (.int (((p1.toUInt32 >>> ((3 : Int32) &&& 31).toUInt32).toInt32) &&& (3 : Int32))), .unset, .unset, .unset, .unset, .unset] [(.int (((p1.toUInt32 >>> ((3 : Int32) &&& 31).toUInt32).toInt32) &&& (3 : Int32)))])) (fun _ k => XS.iload X0.here hx rfl (hb hby at_12) rfl k) ?_
  refine own_iteI (fun hc14 => ?_) (fun hc14 => ?_)
  · skip
    refine own_pre (F' := T0.setTop (mkF m 17 #[.val (.long q0), .second, .val (.int p1), .val (.int (p1 &&& (7 : Int32))), .val (.int (((p1.toUInt32 >>> ((3 : Int32) &&& 31).toUInt32).toInt32) &&& (3 : Int32))), .unset, .unset, .unset, .unset, .unset] [])) (fun _ k => XS.ifNo X0.here hx rfl (hb hby at_14) rfl ((if0 _ _).trans (teq hc14).2) k) ?_
    refine own_pre (F' := T0.setTop (mkF m 18 #[.val (.long q0), .second, .val (.int p1), .val (.int (p1 &&& (7 : Int32))), .val (.int (((p1.toUInt32 >>> ((3 : Int32) &&& 31).toUInt32).toInt32) &&& (3 : Int32))), .unset, .unset, .unset, .unset, .unset] [(.long (0 : Int64))])) (fun _ k => XS.lconst X0.here hx rfl (hb hby at_17) k) ?_
    refine own_pre (F' := T0.setTop (mkF m 20 #[.val (.long q0), .second, .val (.int p1), .val (.int (p1 &&& (7 : Int32))), .val (.int (((p1.toUInt32 >>> ((3 : Int32) &&& 31).toUInt32).toInt32) &&& (3 : Int32))), .val (.long (0 : Int64)), .second, .unset, .unset, .unset] [])) (fun _ k => XS.lstore X0.here hx rfl (hb hby at_18) rfl (l' := #[.val (.long q0), .second, .val (.int p1), .val (.int (p1 &&& (7 : Int32))), .val (.int (((p1.toUInt32 >>> ((3 : Int32) &&& 31).toUInt32).toInt32) &&& (3 : Int32))), .val (.long (0 : Int64)), .second, .unset, .unset, .unset]) rfl k) ?_
    refine own_pre (F' := T0.setTop (mkF m 56 #[.val (.long q0), .second, .val (.int p1), .val (.int (p1 &&& (7 : Int32))), .val (.int (((p1.toUInt32 >>> ((3 : Int32) &&& 31).toUInt32).toInt32) &&& (3 : Int32))), .val (.long (0 : Int64)), .second, .unset, .unset, .unset] [])) (fun _ k => XS.goto X0.here hx rfl (pc0 := 20) (pc' := 56) rfl (hb hby at_20) (by decide) (by decide) k) ?_
    exact g0_56 hw q0 p1 w_US_ASCII w_ISO_8859_1 w_UTF_8 Sw_US_ASCII Sw_ISO_8859_1 Sw_UTF_8 (p1 &&& (7 : Int32)) (((p1.toUInt32 >>> ((3 : Int32) &&& 31).toUInt32).toInt32) &&& (3 : Int32)) (0 : Int64) Bd hml hZ T0 X0 e0
  · skip
    refine own_pre (F' := T0.setTop (mkF m 23 #[.val (.long q0), .second, .val (.int p1), .val (.int (p1 &&& (7 : Int32))), .val (.int (((p1.toUInt32 >>> ((3 : Int32) &&& 31).toUInt32).toInt32) &&& (3 : Int32))), .unset, .unset, .unset, .unset, .unset] [])) (fun _ k => XS.ifYes X0.here hx rfl (pc0 := 14) (pc' := 23) rfl (hb hby at_14) rfl ((if0 _ _).trans (feq hc14).2) (by decide) (by decide) k) ?_
    refine own_pre (F' := T0.setTop (mkF m 25 #[.val (.long q0), .second, .val (.int p1), .val (.int (p1 &&& (7 : Int32))), .val (.int (((p1.toUInt32 >>> ((3 : Int32) &&& 31).toUInt32).toInt32) &&& (3 : Int32))), .unset, .unset, .unset, .unset, .unset] [(.int (((p1.toUInt32 >>> ((3 : Int32) &&& 31).toUInt32).toInt32) &&& (3 : Int32)))])) (fun _ k => XS.iload X0.here hx rfl (hb hby at_23) rfl k) ?_
    refine own_pre (F' := T0.setTop (mkF m 26 #[.val (.long q0), .second, .val (.int p1), .val (.int (p1 &&& (7 : Int32))), .val (.int (((p1.toUInt32 >>> ((3 : Int32) &&& 31).toUInt32).toInt32) &&& (3 : Int32))), .unset, .unset, .unset, .unset, .unset] [(.int (1 : Int32)), (.int (((p1.toUInt32 >>> ((3 : Int32) &&& 31).toUInt32).toInt32) &&& (3 : Int32)))])) (fun _ k => XS.iconst X0.here hx rfl (hb hby at_25) k) ?_
    refine own_iteI (fun hc26 => ?_) (fun hc26 => ?_)
    · skip
      refine own_pre (F' := T0.setTop (mkF m 29 #[.val (.long q0), .second, .val (.int p1), .val (.int (p1 &&& (7 : Int32))), .val (.int (((p1.toUInt32 >>> ((3 : Int32) &&& 31).toUInt32).toInt32) &&& (3 : Int32))), .unset, .unset, .unset, .unset, .unset] [])) (fun _ k => XS.icmpNo X0.here hx rfl (hb hby at_26) rfl (teq hc26).2 k) ?_
      refine own_pre (F' := T0.setTop (mkF m 32 #[.val (.long q0), .second, .val (.int p1), .val (.int (p1 &&& (7 : Int32))), .val (.int (((p1.toUInt32 >>> ((3 : Int32) &&& 31).toUInt32).toInt32) &&& (3 : Int32))), .unset, .unset, .unset, .unset, .unset] [(.long (3 : Int64))])) (fun _ k => X0.ldc2Long hx hown (mvT hZ (hw _ (List.mem_of_getElem? (i := 12) rfl))) (g := (mkF m 29 #[.val (.long q0), .second, .val (.int p1), .val (.int (p1 &&& (7 : Int32))), .val (.int (((p1.toUInt32 >>> ((3 : Int32) &&& 31).toUInt32).toInt32) &&& (3 : Int32))), .unset, .unset, .unset, .unset, .unset] [])) rfl (hb hby at_29) _ k) ?_
      refine own_pre (F' := T0.setTop (mkF m 34 #[.val (.long q0), .second, .val (.int p1), .val (.int (p1 &&& (7 : Int32))), .val (.int (((p1.toUInt32 >>> ((3 : Int32) &&& 31).toUInt32).toInt32) &&& (3 : Int32))), .val (.long (3 : Int64)), .second, .unset, .unset, .unset] [])) (fun _ k => XS.lstore X0.here hx rfl (hb hby at_32) rfl (l' := #[.val (.long q0), .second, .val (.int p1), .val (.int (p1 &&& (7 : Int32))), .val (.int (((p1.toUInt32 >>> ((3 : Int32) &&& 31).toUInt32).toInt32) &&& (3 : Int32))), .val (.long (3 : Int64)), .second, .unset, .unset, .unset]) rfl k) ?_
      refine own_pre (F' := T0.setTop (mkF m 56 #[.val (.long q0), .second, .val (.int p1), .val (.int (p1 &&& (7 : Int32))), .val (.int (((p1.toUInt32 >>> ((3 : Int32) &&& 31).toUInt32).toInt32) &&& (3 : Int32))), .val (.long (3 : Int64)), .second, .unset, .unset, .unset] [])) (fun _ k => XS.goto X0.here hx rfl (pc0 := 34) (pc' := 56) rfl (hb hby at_34) (by decide) (by decide) k) ?_
      exact g0_56 hw q0 p1 w_US_ASCII w_ISO_8859_1 w_UTF_8 Sw_US_ASCII Sw_ISO_8859_1 Sw_UTF_8 (p1 &&& (7 : Int32)) (((p1.toUInt32 >>> ((3 : Int32) &&& 31).toUInt32).toInt32) &&& (3 : Int32)) (3 : Int64) Bd hml hZ T0 X0 e0
    · skip
      refine own_pre (F' := T0.setTop (mkF m 37 #[.val (.long q0), .second, .val (.int p1), .val (.int (p1 &&& (7 : Int32))), .val (.int (((p1.toUInt32 >>> ((3 : Int32) &&& 31).toUInt32).toInt32) &&& (3 : Int32))), .unset, .unset, .unset, .unset, .unset] [])) (fun _ k => XS.icmpYes X0.here hx rfl (pc0 := 26) (pc' := 37) rfl (hb hby at_26) rfl (feq hc26).2 (by decide) (by decide) k) ?_
      refine own_pre (F' := T0.setTop (mkF m 39 #[.val (.long q0), .second, .val (.int p1), .val (.int (p1 &&& (7 : Int32))), .val (.int (((p1.toUInt32 >>> ((3 : Int32) &&& 31).toUInt32).toInt32) &&& (3 : Int32))), .unset, .unset, .unset, .unset, .unset] [(.int (((p1.toUInt32 >>> ((3 : Int32) &&& 31).toUInt32).toInt32) &&& (3 : Int32)))])) (fun _ k => XS.iload X0.here hx rfl (hb hby at_37) rfl k) ?_
      refine own_pre (F' := T0.setTop (mkF m 40 #[.val (.long q0), .second, .val (.int p1), .val (.int (p1 &&& (7 : Int32))), .val (.int (((p1.toUInt32 >>> ((3 : Int32) &&& 31).toUInt32).toInt32) &&& (3 : Int32))), .unset, .unset, .unset, .unset, .unset] [(.int (2 : Int32)), (.int (((p1.toUInt32 >>> ((3 : Int32) &&& 31).toUInt32).toInt32) &&& (3 : Int32)))])) (fun _ k => XS.iconst X0.here hx rfl (hb hby at_39) k) ?_
      refine own_iteI (fun hc40 => ?_) (fun hc40 => ?_)
      · skip
        refine own_pre (F' := T0.setTop (mkF m 43 #[.val (.long q0), .second, .val (.int p1), .val (.int (p1 &&& (7 : Int32))), .val (.int (((p1.toUInt32 >>> ((3 : Int32) &&& 31).toUInt32).toInt32) &&& (3 : Int32))), .unset, .unset, .unset, .unset, .unset] [])) (fun _ k => XS.icmpNo X0.here hx rfl (hb hby at_40) rfl (teq hc40).2 k) ?_
        refine own_pre (F' := T0.setTop (mkF m 46 #[.val (.long q0), .second, .val (.int p1), .val (.int (p1 &&& (7 : Int32))), .val (.int (((p1.toUInt32 >>> ((3 : Int32) &&& 31).toUInt32).toInt32) &&& (3 : Int32))), .unset, .unset, .unset, .unset, .unset] [(.long (4 : Int64))])) (fun _ k => X0.ldc2Long hx hown (mvT hZ (hw _ (List.mem_of_getElem? (i := 13) rfl))) (g := (mkF m 43 #[.val (.long q0), .second, .val (.int p1), .val (.int (p1 &&& (7 : Int32))), .val (.int (((p1.toUInt32 >>> ((3 : Int32) &&& 31).toUInt32).toInt32) &&& (3 : Int32))), .unset, .unset, .unset, .unset, .unset] [])) rfl (hb hby at_43) _ k) ?_
        refine own_pre (F' := T0.setTop (mkF m 48 #[.val (.long q0), .second, .val (.int p1), .val (.int (p1 &&& (7 : Int32))), .val (.int (((p1.toUInt32 >>> ((3 : Int32) &&& 31).toUInt32).toInt32) &&& (3 : Int32))), .val (.long (4 : Int64)), .second, .unset, .unset, .unset] [])) (fun _ k => XS.lstore X0.here hx rfl (hb hby at_46) rfl (l' := #[.val (.long q0), .second, .val (.int p1), .val (.int (p1 &&& (7 : Int32))), .val (.int (((p1.toUInt32 >>> ((3 : Int32) &&& 31).toUInt32).toInt32) &&& (3 : Int32))), .val (.long (4 : Int64)), .second, .unset, .unset, .unset]) rfl k) ?_
        refine own_pre (F' := T0.setTop (mkF m 56 #[.val (.long q0), .second, .val (.int p1), .val (.int (p1 &&& (7 : Int32))), .val (.int (((p1.toUInt32 >>> ((3 : Int32) &&& 31).toUInt32).toInt32) &&& (3 : Int32))), .val (.long (4 : Int64)), .second, .unset, .unset, .unset] [])) (fun _ k => XS.goto X0.here hx rfl (pc0 := 48) (pc' := 56) rfl (hb hby at_48) (by decide) (by decide) k) ?_
        exact g0_56 hw q0 p1 w_US_ASCII w_ISO_8859_1 w_UTF_8 Sw_US_ASCII Sw_ISO_8859_1 Sw_UTF_8 (p1 &&& (7 : Int32)) (((p1.toUInt32 >>> ((3 : Int32) &&& 31).toUInt32).toInt32) &&& (3 : Int32)) (4 : Int64) Bd hml hZ T0 X0 e0
      · skip
        refine own_pre (F' := T0.setTop (mkF m 51 #[.val (.long q0), .second, .val (.int p1), .val (.int (p1 &&& (7 : Int32))), .val (.int (((p1.toUInt32 >>> ((3 : Int32) &&& 31).toUInt32).toInt32) &&& (3 : Int32))), .unset, .unset, .unset, .unset, .unset] [])) (fun _ k => XS.icmpYes X0.here hx rfl (pc0 := 40) (pc' := 51) rfl (hb hby at_40) rfl (feq hc40).2 (by decide) (by decide) k) ?_
        refine own_pre (F' := T0.setTop (mkF m 54 #[.val (.long q0), .second, .val (.int p1), .val (.int (p1 &&& (7 : Int32))), .val (.int (((p1.toUInt32 >>> ((3 : Int32) &&& 31).toUInt32).toInt32) &&& (3 : Int32))), .unset, .unset, .unset, .unset, .unset] [(.long (106 : Int64))])) (fun _ k => X0.ldc2Long hx hown (mvT hZ (hw _ (List.mem_of_getElem? (i := 11) rfl))) (g := (mkF m 51 #[.val (.long q0), .second, .val (.int p1), .val (.int (p1 &&& (7 : Int32))), .val (.int (((p1.toUInt32 >>> ((3 : Int32) &&& 31).toUInt32).toInt32) &&& (3 : Int32))), .unset, .unset, .unset, .unset, .unset] [])) rfl (hb hby at_51) _ k) ?_
        refine own_pre (F' := T0.setTop (mkF m 56 #[.val (.long q0), .second, .val (.int p1), .val (.int (p1 &&& (7 : Int32))), .val (.int (((p1.toUInt32 >>> ((3 : Int32) &&& 31).toUInt32).toInt32) &&& (3 : Int32))), .val (.long (106 : Int64)), .second, .unset, .unset, .unset] [])) (fun _ k => XS.lstore X0.here hx rfl (hb hby at_54) rfl (l' := #[.val (.long q0), .second, .val (.int p1), .val (.int (p1 &&& (7 : Int32))), .val (.int (((p1.toUInt32 >>> ((3 : Int32) &&& 31).toUInt32).toInt32) &&& (3 : Int32))), .val (.long (106 : Int64)), .second, .unset, .unset, .unset]) rfl k) ?_
        exact g0_56 hw q0 p1 w_US_ASCII w_ISO_8859_1 w_UTF_8 Sw_US_ASCII Sw_ISO_8859_1 Sw_UTF_8 (p1 &&& (7 : Int32)) (((p1.toUInt32 >>> ((3 : Int32) &&& 31).toUInt32).toInt32) &&& (3 : Int32)) (106 : Int64) Bd hml hZ T0 X0 e0
theorem ef_0 (m : MethodId) (q0 : Int64) (p1 : Int32) : entryFrame m #[(.long q0), (.int p1)] maxLocals = mkF m 0 #[.val (.long q0), .second, .val (.int p1), .unset, .unset, .unset, .unset, .unset, .unset, .unset] [] := by first | (simp [entryFrame, mkF, argsToLocals, Value.category, maxLocals]; done) | rfl
set_option maxRecDepth 65536 in
set_option maxHeartbeats 40000000 in
theorem rm0 (l : Launch) (Z : State) (aw : Array Value) (hw : ∀ d ∈ tables_1, d.before aw Z = true) (ws : List Jvm.Cond) (q0 : Int64) (p1 : Int32) (w_US_ASCII : Addr) (w_ISO_8859_1 : Addr) (w_UTF_8 : Addr) (h0 : Heap) (Sw_US_ASCII : Sta Z h0 "java/nio/charset/StandardCharsets" "US_ASCII" "Ljava/nio/charset/Charset;" (.ref w_US_ASCII)) (Sw_ISO_8859_1 : Sta Z h0 "java/nio/charset/StandardCharsets" "ISO_8859_1" "Ljava/nio/charset/Charset;" (.ref w_ISO_8859_1)) (Sw_UTF_8 : Sta Z h0 "java/nio/charset/StandardCharsets" "UTF_8" "Ljava/nio/charset/Charset;" (.ref w_UTF_8)) :
    MetFree l x (head1 (Jvm.Cond.code x code maxLocals ret :: ws) room_1) (fun a U => a = #[(.long q0), (.int p1)] ∧ Z.Warmed39 U.vm ∧ U.heap = h0) (fun _ _ _ _ _ => True) (fun _ U o U' => ∃ v L, o = .returned v ∧ own_Q (some (.int (f0_0 q0 p1 w_US_ASCII w_ISO_8859_1 w_UTF_8))) (own_K0 h0) v U'.heap L ∧ FrameEnd U o U' L room_1.cells room_1.slots) := by
  refine MetFree.of_bodySF (plainFor_of_name own_pn1) hisR ?_
  intro p e s m args below meth c s₁ Bd hml0 hP hK
  obtain ⟨rfl, hZ, hh⟩ := hP
  have hml : c.maxLocals = 10 := hml0
  have e0 : s₁.heap = h0 := by rw [← hh, Bd.state]; rfl
  exact own_pre (fun t k => castTop (ef_0 m q0 p1) k) (g0_0 hw q0 p1 w_US_ASCII w_ISO_8859_1 w_UTF_8 Sw_US_ASCII Sw_ISO_8859_1 Sw_UTF_8 Bd hml hZ s₁ (Stand.of_body Bd) e0)
theorem own_eq (m : Int64) (a b c : Addr) : f1_0 m a b c = f2_0 m c a b := by
  simp only [f1_0, f2_0, f1_38]
  by_cases h0 : m = 0
  · subst h0; rfl
  by_cases h1 : m = 106
  · subst h1; rfl
  by_cases h3 : m = 3
  · subst h3; rfl
  by_cases h4 : m = 4
  · subst h4; rfl
  simp [h0, h1, h3, h4]
theorem own_law (a : Int64) (b : Int32) (w_US_ASCII w_ISO_8859_1 w_UTF_8 : Addr) : f0_0 a b w_US_ASCII w_ISO_8859_1 w_UTF_8 = 1 := by
  have h : ∀ m, f0_162 a b w_US_ASCII w_ISO_8859_1 w_UTF_8 m = 1 := fun m => if_pos (own_eq m _ _ _)
  simp only [f0_0, f0_56, h]
  (repeat' split) <;> rfl
set_option maxRecDepth 65536 in
set_option maxHeartbeats 40000000 in
theorem comes_1 {Post : Tables → Env → Array Value → State → Outcome → State → Prop} (hpost : ∀ tb e args s v u, (limb_1_1.after args s (.returned v) u = true ∧ limb_1_2.after args s (.returned v) u = true ∧ True) → FrameEnd s (.returned v) u (Jvm.fieldLocs frame_1_writes args s ++ Jvm.arrayLocs frame_1_arrays args s ++ Jvm.staticLocs frame_1_statics s) 0 0 → Post tb e args s (.returned v) u) :
    ArmFor flags0 classFile x code maxLocals ret World_1 tables_1 room_1 Calls_1 rest_1 Pre_1 Post := by
  intro l hfl _ _ p e ha hc hk s m args below hf hA hF happ hP
  obtain ⟨hcalls, hrest, hpre⟩ := hP
  obtain ⟨-, -, -, hnamed, -, -, -, hat⟩ := (Spec.applies_iff hf).mp happ
  obtain ⟨hg, hn⟩ := and_e (Cond.before_iff.mp (show (Jvm.Cond.and given_1 narrow_1).before args s = true from hpre))
  obtain ⟨g1, g2⟩ := and_e hg
  obtain ⟨g3, g4⟩ := and_e g2
  obtain ⟨w0, w1, rfl⟩ : ∃ w0 w1 : Value, args = #[w0, w1] := by
    have hs : args.size = 2 := by simpa [Cond.value, given_1] using g1
    obtain ⟨L⟩ := args
    match L, hs with
    | [w0, w1], _ => exact ⟨w0, w1, rfl⟩
  have hw := fun d (hd : d ∈ tables_1) => atoms_spec (ws := Jvm.Cond.code x code maxLocals ret :: tables_1) hat d (List.mem_cons_of_mem _ hd)
  have hfit : Fit s := fun {y c} hc i hi => by
    obtain ⟨ha, rfl⟩ := Array.getElem?_eq_some_iff.mp hc
    have q := List.all_eq_true.mp ((Array.all_eq_true_iff_forall_mem.mp hF) _ (Array.getElem_mem ha)) i (List.mem_range.mpr hi)
    simpa [Array.getElem?_eq_getElem hi] using q
  obtain ⟨hsets, hown0⟩ := atoms_of _ (rest_1_c_eq ▸ (show rest_1_c.before _ s = true from hrest))
  obtain ⟨i0, ei0⟩ := isL_v g3
  obtain rfl : w0 = (.long i0) := Option.some.inj ei0
  obtain ⟨i1, ei1⟩ := is_v g4
  obtain rfl : w1 = (.int i1) := Option.some.inj ei1
  obtain ⟨w_UTF_8, ev_w_UTF_8⟩ := exa_v (Cond.before_iff.mp (hsets _ (List.mem_of_getElem? (i := 5) rfl)))
  have Ew_UTF_8 := Exa.start ev_w_UTF_8 (Cond.before_iff.mp (hsets _ (List.mem_of_getElem? (i := 5) rfl)))
  have Sw_UTF_8 := Sta.start ev_w_UTF_8 (Or.inl (hsets _ (List.mem_of_getElem? (i := 1) rfl)))
  obtain ⟨w_US_ASCII, ev_w_US_ASCII⟩ := exa_v (Cond.before_iff.mp (hsets _ (List.mem_of_getElem? (i := 11) rfl)))
  have Ew_US_ASCII := Exa.start ev_w_US_ASCII (Cond.before_iff.mp (hsets _ (List.mem_of_getElem? (i := 11) rfl)))
  have Sw_US_ASCII := Sta.start ev_w_US_ASCII (Or.inl (hsets _ (List.mem_of_getElem? (i := 7) rfl)))
  obtain ⟨w_ISO_8859_1, ev_w_ISO_8859_1⟩ := exa_v (Cond.before_iff.mp (hsets _ (List.mem_of_getElem? (i := 17) rfl)))
  have Ew_ISO_8859_1 := Exa.start ev_w_ISO_8859_1 (Cond.before_iff.mp (hsets _ (List.mem_of_getElem? (i := 17) rfl)))
  have Sw_ISO_8859_1 := Sta.start ev_w_ISO_8859_1 (Or.inl (hsets _ (List.mem_of_getElem? (i := 13) rfl)))
  obtain ⟨n, o, h1, h2, h3, v, L, rfl, ⟨hv, hK⟩, hq⟩ := rm0 l s _ hw tables_1 i0 i1 w_US_ASCII w_ISO_8859_1 w_UTF_8 s.heap Sw_US_ASCII Sw_ISO_8859_1 Sw_UTF_8 p e ha hc hk s m _ below hf ((Spec.applies_iff_loose hf).mp happ).1 ⟨rfl, State.Warmed39.refl s, rfl⟩ trivial
  rw [own_law] at hv
  subst hv
  refine ⟨n, _, h1, h2, h3, hpost _ _ _ _ _ _ ⟨Cond.after_iff.mpr rfl, Cond.after_iff.mpr (eq_i res_at (Term.int_eval (1)) rfl), trivial⟩ ⟨hq.1, hq.2.1, (hq.2.2.sift fun y hy => ?_).mono (by decide) (by decide)⟩⟩
  rw [hK.1] at hy
  cases hy
theorem main_1_1 : Claimed_1_1 := comes_1 fun _ _ _ _ _ _ h hF => ⟨h.1, hF⟩
theorem main_1_2 : Claimed_1_2 := comes_1 fun _ _ _ _ _ _ h hF => ⟨h.2.1, hF⟩
end Jvm.Pilot.@@N@@
namespace Jvm.Pilot.@@N@@
open Jvm Jvm.ClassFile Sem Op Lib Jvm.Free Jvm.Stand Jvm.Pilot.@@N@@.Jvm.D
/-! MADE BY PROGRAM (witnessworld.py) out of the Statement's table words and the real class files: 17 classes; the members and pool entries that the words name. The judged class is class 1, her method 1. -/
namespace start1
open Jvm.ClassFile
def u (s : String) : CpInfo := .utf8 (stringToUtf16 s)
/-- a pool by its gaps: so many unusable entries, then the entry; so many at the end -/
def gap : Nat → List CpInfo → List CpInfo
  | 0, r => r
  | n + 1, r => .unusable :: gap n r
def poolList (es : List (Nat × CpInfo)) (last : Nat) : List CpInfo := es.foldr (fun e r => gap e.1 (e.2 :: r)) (gap last [])
def pool (es : List (Nat × CpInfo)) (last : Nat) : Array CpInfo := ⟨poolList es last⟩
def fileOf (pool : Array CpInfo) (this : Nat) (attrs : Array Attribute := #[]) (ms : Array MethodInfo := #[]) (fl : Nat := 33) (sup : Nat := 0) (ifs : Array Nat := #[]) (fds : Array FieldInfo := #[]) : ClassFile where
  minorVersion := 0
  majorVersion := 65
  constantPool := pool
  accessFlags := fl
  thisClass := this
  superClass := sup
  interfaces := ifs
  fields := fds
  methods := ms
  attributes := attrs
def plain (name : String) (sup : Option ClassId) : Class where
  name := name
  kind := .ordinary
  loader := none
  accessFlags := 33
  super := sup
  interfaces := #[]
  cf := none
  fields := #[]
  methods := #[]
  instanceTypes := #[]
  staticTypes := #[]
  resolved := #[]
  callSites := []
  init := .initialized
  statics := none
  mirror := none

def pool0 : Array CpInfo := pool [(5, u "<init>"), (0, u "()V"), (1, .class_ 10), (1, u "java/lang/Object")] 113

def k0m0 : Method := { name := "<init>", desc := "()V", sig := { parameters := [], returnType := none }, accessFlags := 1, code := none }
/-- java/lang/Object -/
def k0 : Class := { plain "java/lang/Object" none with
  accessFlags := 33
  interfaces := #[]
  cf := some (fileOf pool0 8 #[] #[{ accessFlags := 1, nameIndex := 5, descriptorIndex := 6, attributes := #[] }] 33 0 #[] #[])
  fields := #[]
  methods := #[k0m0]
  instanceTypes := #[]
  staticTypes := #[]
  resolved := Array.replicate 124 none
  statics := none }

def pool1 : Array CpInfo := pool [(2, .class_ 4), (1, u "java/lang/Object"), (0, u "<init>"), (0, u "()V"), (0, .long 3), (1, .long 4), (1, .long 106), (1, .long 127), (3, .long 9223372036854775808), (1, .methodref 20 21), (0, .class_ 22), (0, .nameAndType 23 24), (0, u "com/example/tersemark/tersemark/codec/WbxmlFormat"), (0, u "charset"), (0, u "(J)Ljava/nio/charset/Charset;"), (0, .methodref 26 27), (0, .class_ 28), (0, .nameAndType 29 24), (0, u "com/example/tersemark/tersemark/codec/WbxmlFormatCharsetPinLaw"), (0, u "expected"), (0, .fieldref 31 32), (0, .class_ 33), (0, .nameAndType 34 35), (0, u "java/nio/charset/StandardCharsets"), (0, u "UTF_8"), (0, u "Ljava/nio/charset/Charset;"), (0, .fieldref 31 37), (0, .nameAndType 38 35), (0, u "US_ASCII"), (0, .fieldref 31 40), (0, .nameAndType 41 35), (0, u "ISO_8859_1"), (2, u "law"), (0, u "(JI)Z")] 5

def k1m0 : Method := { name := "<init>", desc := "()V", sig := { parameters := [], returnType := none }, accessFlags := 2, code := none }
def k1c1 : Code := { maxStack := 4, maxLocals := 10, code := code, exceptionTable := #[], attributes := #[] }
def k1m1 : Method := { name := "law", desc := "(JI)Z", sig := { parameters := [.long, .int], returnType := some .boolean }, accessFlags := 9, code := some k1c1 }
def k1c2 : Code := { maxStack := 4, maxLocals := 2, code := method_3_code, exceptionTable := #[], attributes := #[] }
def k1m2 : Method := { name := "expected", desc := "(J)Ljava/nio/charset/Charset;", sig := { parameters := [.long], returnType := some (.object "java/nio/charset/Charset") }, accessFlags := 10, code := some k1c2 }
/-- com/example/tersemark/tersemark/codec/WbxmlFormatCharsetPinLaw -/
def k1 : Class := { plain "com/example/tersemark/tersemark/codec/WbxmlFormatCharsetPinLaw" (some 0) with
  accessFlags := 49
  interfaces := #[]
  cf := some (fileOf pool1 26 #[] #[{ accessFlags := 2, nameIndex := 5, descriptorIndex := 6, attributes := #[] }, { accessFlags := 9, nameIndex := 44, descriptorIndex := 45, attributes := #[] }, { accessFlags := 10, nameIndex := 29, descriptorIndex := 24, attributes := #[] }] 49 2 #[] #[])
  fields := #[]
  methods := #[k1m0, k1m1, k1m2]
  instanceTypes := #[]
  staticTypes := #[]
  resolved := Array.replicate 51 none
  statics := none }

def pool2 : Array CpInfo := pool [(2, .class_ 4), (1, u "java/lang/Object"), (0, u "<init>"), (0, u "()V"), (4, .class_ 12), (0, u "com/example/tersemark/tersemark/codec/WbxmlFormat"), (0, .long 3), (1, .fieldref 16 17), (0, .class_ 18), (0, .nameAndType 19 20), (0, u "java/nio/charset/StandardCharsets"), (0, u "US_ASCII"), (0, u "Ljava/nio/charset/Charset;"), (0, .long 4), (1, .fieldref 16 24), (0, .nameAndType 25 20), (0, u "ISO_8859_1"), (0, .long 106), (1, .fieldref 16 29), (0, .nameAndType 30 20), (0, u "UTF_8"), (0, u "LOWEST_VERSION"), (0, u "I"), (2, u "HIGHEST_VERSION"), (1, u "CHARSET_UNKNOWN"), (1, u "CHARSET_US_ASCII"), (0, u "CHARSET_ISO_8859_1"), (1, u "CHARSET_UTF_8"), (1, u "PUBLIC_ID_IN_STRING_TABLE"), (0, u "SWITCH_PAGE"), (0, u "END"), (0, u "ENTITY"), (1, u "STR_I"), (0, u "LITERAL"), (0, u "STR_T"), (1, u "OPAQUE"), (1, u "PI"), (1, u "HAS_ATTRIBUTES"), (1, u "HAS_CONTENT"), (1, u "TAG_IDENTITY"), (1, u "LOWEST_PAGE_TOKEN"), (1, u "LOWEST_ATTRIBUTE_VALUE"), (4, u "charset"), (0, u "(J)Ljava/nio/charset/Charset;")] 21

def k2m0 : Method := { name := "<init>", desc := "()V", sig := { parameters := [], returnType := none }, accessFlags := 2, code := none }
def k2c1 : Code := { maxStack := 4, maxLocals := 2, code := prog_69_method_3_code, exceptionTable := #[], attributes := #[] }
def k2m1 : Method := { name := "charset", desc := "(J)Ljava/nio/charset/Charset;", sig := { parameters := [.long], returnType := some (.object "java/nio/charset/Charset") }, accessFlags := 8, code := some k2c1 }
/-- com/example/tersemark/tersemark/codec/WbxmlFormat -/
def k2 : Class := { plain "com/example/tersemark/tersemark/codec/WbxmlFormat" (some 0) with
  accessFlags := 48
  interfaces := #[]
  cf := some (fileOf pool2 11 #[] #[{ accessFlags := 2, nameIndex := 5, descriptorIndex := 6, attributes := #[] }, { accessFlags := 8, nameIndex := 70, descriptorIndex := 71, attributes := #[] }] 48 2 #[] #[{ accessFlags := 24, nameIndex := 31, descriptorIndex := 32, attributes := #[] }, { accessFlags := 24, nameIndex := 35, descriptorIndex := 32, attributes := #[] }, { accessFlags := 24, nameIndex := 37, descriptorIndex := 32, attributes := #[] }, { accessFlags := 24, nameIndex := 39, descriptorIndex := 32, attributes := #[] }, { accessFlags := 24, nameIndex := 40, descriptorIndex := 32, attributes := #[] }, { accessFlags := 24, nameIndex := 42, descriptorIndex := 32, attributes := #[] }, { accessFlags := 24, nameIndex := 44, descriptorIndex := 32, attributes := #[] }, { accessFlags := 24, nameIndex := 45, descriptorIndex := 32, attributes := #[] }, { accessFlags := 24, nameIndex := 46, descriptorIndex := 32, attributes := #[] }, { accessFlags := 24, nameIndex := 47, descriptorIndex := 32, attributes := #[] }, { accessFlags := 24, nameIndex := 49, descriptorIndex := 32, attributes := #[] }, { accessFlags := 24, nameIndex := 50, descriptorIndex := 32, attributes := #[] }, { accessFlags := 24, nameIndex := 51, descriptorIndex := 32, attributes := #[] }, { accessFlags := 24, nameIndex := 53, descriptorIndex := 32, attributes := #[] }, { accessFlags := 24, nameIndex := 55, descriptorIndex := 32, attributes := #[] }, { accessFlags := 24, nameIndex := 57, descriptorIndex := 32, attributes := #[] }, { accessFlags := 24, nameIndex := 59, descriptorIndex := 32, attributes := #[] }, { accessFlags := 24, nameIndex := 61, descriptorIndex := 32, attributes := #[] }, { accessFlags := 24, nameIndex := 63, descriptorIndex := 32, attributes := #[] }, { accessFlags := 24, nameIndex := 65, descriptorIndex := 32, attributes := #[] }])
  fields := #[{ name := "LOWEST_VERSION", type := .int, accessFlags := 24, slot := 0, constantValue := 0 }, { name := "HIGHEST_VERSION", type := .int, accessFlags := 24, slot := 1, constantValue := 0 }, { name := "CHARSET_UNKNOWN", type := .int, accessFlags := 24, slot := 2, constantValue := 0 }, { name := "CHARSET_US_ASCII", type := .int, accessFlags := 24, slot := 3, constantValue := 0 }, { name := "CHARSET_ISO_8859_1", type := .int, accessFlags := 24, slot := 4, constantValue := 0 }, { name := "CHARSET_UTF_8", type := .int, accessFlags := 24, slot := 5, constantValue := 0 }, { name := "PUBLIC_ID_IN_STRING_TABLE", type := .int, accessFlags := 24, slot := 6, constantValue := 0 }, { name := "SWITCH_PAGE", type := .int, accessFlags := 24, slot := 7, constantValue := 0 }, { name := "END", type := .int, accessFlags := 24, slot := 8, constantValue := 0 }, { name := "ENTITY", type := .int, accessFlags := 24, slot := 9, constantValue := 0 }, { name := "STR_I", type := .int, accessFlags := 24, slot := 10, constantValue := 0 }, { name := "LITERAL", type := .int, accessFlags := 24, slot := 11, constantValue := 0 }, { name := "STR_T", type := .int, accessFlags := 24, slot := 12, constantValue := 0 }, { name := "OPAQUE", type := .int, accessFlags := 24, slot := 13, constantValue := 0 }, { name := "PI", type := .int, accessFlags := 24, slot := 14, constantValue := 0 }, { name := "HAS_ATTRIBUTES", type := .int, accessFlags := 24, slot := 15, constantValue := 0 }, { name := "HAS_CONTENT", type := .int, accessFlags := 24, slot := 16, constantValue := 0 }, { name := "TAG_IDENTITY", type := .int, accessFlags := 24, slot := 17, constantValue := 0 }, { name := "LOWEST_PAGE_TOKEN", type := .int, accessFlags := 24, slot := 18, constantValue := 0 }, { name := "LOWEST_ATTRIBUTE_VALUE", type := .int, accessFlags := 24, slot := 19, constantValue := 0 }]
  methods := #[k2m0, k2m1]
  instanceTypes := #[]
  staticTypes := #[.int, .int, .int, .int, .int, .int, .int, .int, .int, .int, .int, .int, .int, .int, .int, .int, .int, .int, .int, .int]
  resolved := Array.replicate 93 none
  statics := none }

def pool3 : Array CpInfo := pool [(2, .class_ 4), (1, u "java/lang/Object"), (0, u "<init>"), (0, u "()V"), (14, .class_ 23), (1, u "java/nio/charset/StandardCharsets"), (0, u "US_ASCII"), (0, u "Ljava/nio/charset/Charset;"), (7, u "ISO_8859_1"), (7, u "UTF_8"), (5, u "UTF_16BE"), (5, u "UTF_16LE"), (5, u "UTF_16")] 8

def k3m0 : Method := { name := "<init>", desc := "()V", sig := { parameters := [], returnType := none }, accessFlags := 2, code := none }
/-- java/nio/charset/StandardCharsets -/
def k3 : Class := { plain "java/nio/charset/StandardCharsets" (some 0) with
  accessFlags := 49
  interfaces := #[]
  cf := some (fileOf pool3 21 #[] #[{ accessFlags := 2, nameIndex := 5, descriptorIndex := 6, attributes := #[] }] 49 2 #[] #[{ accessFlags := 25, nameIndex := 24, descriptorIndex := 25, attributes := #[] }, { accessFlags := 25, nameIndex := 33, descriptorIndex := 25, attributes := #[] }, { accessFlags := 25, nameIndex := 41, descriptorIndex := 25, attributes := #[] }, { accessFlags := 25, nameIndex := 47, descriptorIndex := 25, attributes := #[] }, { accessFlags := 25, nameIndex := 53, descriptorIndex := 25, attributes := #[] }, { accessFlags := 25, nameIndex := 59, descriptorIndex := 25, attributes := #[] }])
  fields := #[{ name := "US_ASCII", type := (.object "java/nio/charset/Charset"), accessFlags := 25, slot := 0, constantValue := 0 }, { name := "ISO_8859_1", type := (.object "java/nio/charset/Charset"), accessFlags := 25, slot := 1, constantValue := 0 }, { name := "UTF_8", type := (.object "java/nio/charset/Charset"), accessFlags := 25, slot := 2, constantValue := 0 }, { name := "UTF_16BE", type := (.object "java/nio/charset/Charset"), accessFlags := 25, slot := 3, constantValue := 0 }, { name := "UTF_16LE", type := (.object "java/nio/charset/Charset"), accessFlags := 25, slot := 4, constantValue := 0 }, { name := "UTF_16", type := (.object "java/nio/charset/Charset"), accessFlags := 25, slot := 5, constantValue := 0 }]
  methods := #[k3m0]
  instanceTypes := #[]
  staticTypes := #[(.object "java/nio/charset/Charset"), (.object "java/nio/charset/Charset"), (.object "java/nio/charset/Charset"), (.object "java/nio/charset/Charset"), (.object "java/nio/charset/Charset"), (.object "java/nio/charset/Charset")]
  resolved := Array.replicate 68 none
  statics := some 0 }

def pool4 : Array CpInfo := pool [(1, .class_ 2), (0, u "java/lang/Comparable"), (0, .class_ 4), (0, u "java/lang/Object")] 7

/-- java/lang/Comparable -/
def k4 : Class := { plain "java/lang/Comparable" (some 0) with
  accessFlags := 1537
  interfaces := #[]
  cf := some (fileOf pool4 1 #[] #[] 1537 3 #[] #[])
  fields := #[]
  methods := #[]
  instanceTypes := #[]
  staticTypes := #[]
  resolved := Array.replicate 12 none
  statics := none }

def pool5 : Array CpInfo := pool [(18, .class_ 20), (1, u "java/nio/charset/Charset"), (0, u "cache1"), (0, u "[Ljava/lang/Object;"), (2, u "cache2"), (0, .class_ 27), (0, u "java/lang/Object"), (0, .class_ 29), (0, u "java/nio/charset/Charset$1"), (4, .class_ 36), (1, u "java/nio/charset/Charset$ThreadTrackHolder"), (21, .class_ 59), (0, u "java/nio/charset/Charset$2"), (11, .class_ 73), (1, u "java/nio/charset/Charset$ExtendedProviderHolder"), (22, u "standardProvider"), (0, u "Ljava/nio/charset/spi/CharsetProvider;"), (29, u "name"), (7, .class_ 136), (0, u "java/nio/charset/Charset$3"), (5, u "defaultCharset"), (0, u "Ljava/nio/charset/Charset;"), (14, u "zeroAliases"), (0, u "[Ljava/lang/String;"), (29, u "Ljava/lang/String;"), (2, u "aliases"), (2, u "aliasSet"), (0, u "Ljava/util/Set;"), (82, .class_ 280), (0, u "java/lang/Comparable"), (84, .class_ 366), (0, u "java/nio/charset/Charset$ExtendedProviderHolder$1")] 3

/-- java/nio/charset/Charset -/
def k5 : Class := { plain "java/nio/charset/Charset" (some 0) with
  accessFlags := 1057
  interfaces := #[4]
  cf := some (fileOf pool5 18 #[.nestMembers #[71, 365, 34, 135, 58, 28]] #[] 1057 26 #[279] #[{ accessFlags := 26, nameIndex := 96, descriptorIndex := 97, attributes := #[] }, { accessFlags := 26, nameIndex := 158, descriptorIndex := 159, attributes := #[] }, { accessFlags := 74, nameIndex := 21, descriptorIndex := 22, attributes := #[] }, { accessFlags := 74, nameIndex := 25, descriptorIndex := 22, attributes := #[] }, { accessFlags := 10, nameIndex := 142, descriptorIndex := 143, attributes := #[] }, { accessFlags := 18, nameIndex := 127, descriptorIndex := 189, attributes := #[] }, { accessFlags := 18, nameIndex := 192, descriptorIndex := 159, attributes := #[] }, { accessFlags := 2, nameIndex := 195, descriptorIndex := 196, attributes := #[] }])
  fields := #[{ name := "standardProvider", type := (.object "java/nio/charset/spi/CharsetProvider"), accessFlags := 26, slot := 0, constantValue := 0 }, { name := "zeroAliases", type := (.array (.object "java/lang/String")), accessFlags := 26, slot := 1, constantValue := 0 }, { name := "cache1", type := (.array (.object "java/lang/Object")), accessFlags := 74, slot := 2, constantValue := 0 }, { name := "cache2", type := (.array (.object "java/lang/Object")), accessFlags := 74, slot := 3, constantValue := 0 }, { name := "defaultCharset", type := (.object "java/nio/charset/Charset"), accessFlags := 10, slot := 4, constantValue := 0 }, { name := "name", type := (.object "java/lang/String"), accessFlags := 18, slot := 0, constantValue := 0 }, { name := "aliases", type := (.array (.object "java/lang/String")), accessFlags := 18, slot := 1, constantValue := 0 }, { name := "aliasSet", type := (.object "java/util/Set"), accessFlags := 2, slot := 2, constantValue := 0 }]
  methods := #[]
  instanceTypes := #[(.object "java/lang/String"), (.array (.object "java/lang/String")), (.object "java/util/Set")]
  staticTypes := #[(.object "java/nio/charset/spi/CharsetProvider"), (.array (.object "java/lang/String")), (.array (.object "java/lang/Object")), (.array (.object "java/lang/Object")), (.object "java/nio/charset/Charset")]
  resolved := Array.replicate 370 none
  statics := none }

def pool6 : Array CpInfo := pool [(1, .class_ 2), (0, u "sun/nio/cs/HistoricallyNamedCharset"), (0, .class_ 4), (0, u "java/lang/Object")] 4

/-- sun/nio/cs/HistoricallyNamedCharset -/
def k6 : Class := { plain "sun/nio/cs/HistoricallyNamedCharset" (some 0) with
  accessFlags := 1537
  interfaces := #[]
  cf := some (fileOf pool6 1 #[] #[] 1537 3 #[] #[])
  fields := #[]
  methods := #[]
  instanceTypes := #[]
  staticTypes := #[]
  resolved := Array.replicate 9 none
  statics := none }

def pool7 : Array CpInfo := pool [(2, .class_ 4), (1, u "java/nio/charset/Charset"), (130, .class_ 136), (0, u "sun/nio/cs/Unicode"), (0, .class_ 138), (0, u "sun/nio/cs/HistoricallyNamedCharset")] 15

/-- sun/nio/cs/Unicode -/
def k7 : Class := { plain "sun/nio/cs/Unicode" (some 5) with
  accessFlags := 1056
  interfaces := #[6]
  cf := some (fileOf pool7 135 #[] #[] 1056 2 #[137] #[])
  fields := #[]
  methods := #[]
  instanceTypes := #[(.object "java/lang/String"), (.array (.object "java/lang/String")), (.object "java/util/Set")]
  staticTypes := #[]
  resolved := Array.replicate 154 none
  statics := none }

def pool8 : Array CpInfo := pool [(10, .class_ 12), (1, u "sun/nio/cs/Unicode"), (0, u "<init>"), (3, .class_ 18), (0, u "sun/nio/cs/UTF_8$Decoder"), (3, .class_ 23), (0, u "sun/nio/cs/UTF_8$Encoder"), (15, .class_ 40), (0, u "sun/nio/cs/UTF_8"), (2, u "()V"), (2, u "INSTANCE"), (0, u "Lsun/nio/cs/UTF_8;"), (8, u "JLA"), (0, u "Ljdk/internal/access/JavaLangAccess;")] 26

def k8m0 : Method := { name := "<init>", desc := "()V", sig := { parameters := [], returnType := none }, accessFlags := 1, code := none }
/-- sun/nio/cs/UTF_8 -/
def k8 : Class := { plain "sun/nio/cs/UTF_8" (some 7) with
  accessFlags := 49
  interfaces := #[]
  cf := some (fileOf pool8 39 #[.nestMembers #[22, 17]] #[{ accessFlags := 1, nameIndex := 13, descriptorIndex := 43, attributes := #[] }] 49 10 #[] #[{ accessFlags := 25, nameIndex := 46, descriptorIndex := 47, attributes := #[] }, { accessFlags := 26, nameIndex := 56, descriptorIndex := 57, attributes := #[] }])
  fields := #[{ name := "INSTANCE", type := (.object "sun/nio/cs/UTF_8"), accessFlags := 25, slot := 0, constantValue := 0 }, { name := "JLA", type := (.object "jdk/internal/access/JavaLangAccess"), accessFlags := 26, slot := 1, constantValue := 0 }]
  methods := #[k8m0]
  instanceTypes := #[(.object "java/lang/String"), (.array (.object "java/lang/String")), (.object "java/util/Set")]
  staticTypes := #[(.object "sun/nio/cs/UTF_8"), (.object "jdk/internal/access/JavaLangAccess")]
  resolved := Array.replicate 84 none
  statics := some 1 }

def pool9 : Array CpInfo := pool [(10, .class_ 12), (1, u "java/nio/charset/Charset"), (0, u "<init>"), (3, .class_ 18), (0, u "sun/nio/cs/US_ASCII"), (0, .class_ 20), (0, u "sun/nio/cs/US_ASCII$Decoder"), (3, .class_ 25), (0, u "sun/nio/cs/US_ASCII$Encoder"), (3, u "()V"), (2, u "INSTANCE"), (0, u "Lsun/nio/cs/US_ASCII;"), (8, u "JLA"), (0, u "Ljdk/internal/access/JavaLangAccess;"), (0, .class_ 45), (0, u "sun/nio/cs/HistoricallyNamedCharset")] 21

def k9m0 : Method := { name := "<init>", desc := "()V", sig := { parameters := [], returnType := none }, accessFlags := 1, code := none }
/-- sun/nio/cs/US_ASCII -/
def k9 : Class := { plain "sun/nio/cs/US_ASCII" (some 5) with
  accessFlags := 33
  interfaces := #[6]
  cf := some (fileOf pool9 17 #[.nestMembers #[24, 19]] #[{ accessFlags := 1, nameIndex := 13, descriptorIndex := 29, attributes := #[] }] 33 10 #[44] #[{ accessFlags := 25, nameIndex := 32, descriptorIndex := 33, attributes := #[] }, { accessFlags := 26, nameIndex := 42, descriptorIndex := 43, attributes := #[] }])
  fields := #[{ name := "INSTANCE", type := (.object "sun/nio/cs/US_ASCII"), accessFlags := 25, slot := 0, constantValue := 0 }, { name := "JLA", type := (.object "jdk/internal/access/JavaLangAccess"), accessFlags := 26, slot := 1, constantValue := 0 }]
  methods := #[k9m0]
  instanceTypes := #[(.object "java/lang/String"), (.array (.object "java/lang/String")), (.object "java/util/Set")]
  staticTypes := #[(.object "sun/nio/cs/US_ASCII"), (.object "jdk/internal/access/JavaLangAccess")]
  resolved := Array.replicate 67 none
  statics := some 2 }

def pool10 : Array CpInfo := pool [(10, .class_ 12), (1, u "java/nio/charset/Charset"), (0, u "<init>"), (5, .class_ 20), (0, u "sun/nio/cs/ISO_8859_1"), (0, .class_ 22), (0, u "sun/nio/cs/ISO_8859_1$Decoder"), (3, .class_ 27), (0, u "sun/nio/cs/ISO_8859_1$Encoder"), (3, u "()V"), (2, u "INSTANCE"), (0, u "Lsun/nio/cs/ISO_8859_1;"), (0, .class_ 37), (0, u "sun/nio/cs/HistoricallyNamedCharset")] 22

def k10m0 : Method := { name := "<init>", desc := "()V", sig := { parameters := [], returnType := none }, accessFlags := 1, code := none }
/-- sun/nio/cs/ISO_8859_1 -/
def k10 : Class := { plain "sun/nio/cs/ISO_8859_1" (some 5) with
  accessFlags := 33
  interfaces := #[6]
  cf := some (fileOf pool10 19 #[.nestMembers #[26, 21]] #[{ accessFlags := 1, nameIndex := 13, descriptorIndex := 31, attributes := #[] }] 33 10 #[36] #[{ accessFlags := 25, nameIndex := 34, descriptorIndex := 35, attributes := #[] }])
  fields := #[{ name := "INSTANCE", type := (.object "sun/nio/cs/ISO_8859_1"), accessFlags := 25, slot := 0, constantValue := 0 }]
  methods := #[k10m0]
  instanceTypes := #[(.object "java/lang/String"), (.array (.object "java/lang/String")), (.object "java/util/Set")]
  staticTypes := #[(.object "sun/nio/cs/ISO_8859_1")]
  resolved := Array.replicate 60 none
  statics := some 3 }

def pool11 : Array CpInfo := pool [(1, u "java/lang/Cloneable"), (0, .class_ 1), (0, u "java/lang/Object"), (0, .class_ 3)] 3

/-- java/lang/Cloneable -/
def k11 : Class := { plain "java/lang/Cloneable" (some 0) with
  accessFlags := 1537
  interfaces := #[]
  cf := some (fileOf pool11 2 #[] #[] 1537 4 #[] #[])
  fields := #[]
  methods := #[]
  instanceTypes := #[]
  staticTypes := #[]
  resolved := Array.replicate 8 none
  statics := none }

def pool12 : Array CpInfo := pool [(1, u "java/io/Serializable"), (0, .class_ 1), (0, u "java/lang/Object"), (0, .class_ 3)] 3

/-- java/io/Serializable -/
def k12 : Class := { plain "java/io/Serializable" (some 0) with
  accessFlags := 1537
  interfaces := #[]
  cf := some (fileOf pool12 2 #[] #[] 1537 4 #[] #[])
  fields := #[]
  methods := #[]
  instanceTypes := #[]
  staticTypes := #[]
  resolved := Array.replicate 8 none
  statics := none }

/-- the primitive byte -/
def k13 : Class := { plain "byte" none with kind := .primitive 'B', accessFlags := 0x411 }
/-- [B -/
def k14 : Class := { plain "[B" (some 0) with kind := .array 13 .byte, interfaces := #[11, 12], accessFlags := 1041 }

/-- the primitive int -/
def k15 : Class := { plain "int" none with kind := .primitive 'I', accessFlags := 0x411 }
/-- [I -/
def k16 : Class := { plain "[I" (some 0) with kind := .array 15 .int, interfaces := #[11, 12], accessFlags := 1041 }

def heap : Heap := #[{ cls := 3, slots := #[.ref 5, .ref 6, .ref 4, .null, .null, .null], vm := .statics 3 },
  { cls := 8, slots := #[.ref 4, .null], vm := .statics 8 },
  { cls := 9, slots := #[.ref 5, .null], vm := .statics 9 },
  { cls := 10, slots := #[.ref 6], vm := .statics 10 },
  { cls := 8, slots := #[.null, .null, .null], vm := .none },
  { cls := 9, slots := #[.null, .null, .null], vm := .none },
  { cls := 10, slots := #[.null, .null, .null], vm := .none }]
def classes : Array Class := #[k0, k1, k2, k3, k4, k5, k6, k7, k8, k9, k10, k11, k12, k13, k14, k15, k16]
def interned : List (Array UInt16 × Addr) := []
def slotsUsed : Nat := 20
def theMethod : MethodId := ⟨1, 1⟩
def args0 : Array Value := #[.long 5, .int 7]
def aboutOver (below : List Frame) : State where
  vm := { classes := classes, interned := interned.toArray }
  heap := heap
  slotsUsed := slotsUsed
  threads := #[{ frames := .invoking theMethod args0 :: below }]
def below0 : List Frame := [.native { method := ⟨0, 0⟩, args := #[] }]
def about1 : State := aboutOver below0
def p0 : Program := .bare "" "" ""
def e0 : Env := launch0.env 0 0 0
theorem w_frames : about1.frames = Frame.invoking theMethod args0 :: below0 := rfl
set_option maxRecDepth 65536 in
theorem w_args : argsFit about1.vm theMethod args0 = true := by decide +kernel
set_option maxRecDepth 65536 in
theorem w_heap : heapFits about1 = true := by decide +kernel
set_option maxRecDepth 65536 in
theorem w_runnable : about1.curStatus? = some .runnable := by decide +kernel
set_option maxRecDepth 65536 in
theorem w_alone : about1.alone = true := by decide +kernel
set_option maxRecDepth 65536 in
theorem w_named : about1.methodNamed? x = some theMethod := by decide +kernel
set_option maxRecDepth 65536 in
theorem w_hears : about1.hears theMethod below0 = true := by decide +kernel
set_option maxRecDepth 65536 in
theorem w_ripe : about1.ripe theMethod args0 below0 = true := by decide +kernel
theorem w_running : about1.status = .running := rfl
set_option maxRecDepth 65536 in
theorem w_room : about1.hasRoom e0.platform room_1 = true :=
  launch0.hasRoom_least _ room_1 (by decide +kernel) (by decide +kernel) (by decide +kernel) (by decide +kernel) (by decide +kernel) (by decide +kernel)
theorem allAtoms_all (ts : List Jvm.Cond) (a : Array Jvm.Value) (st : Jvm.State) : (allAtoms ts).before a st = ts.all (fun c => c.before a st) := by
  induction ts with
  | nil => rfl
  | cons c t ih =>
    show (Jvm.Cond.and c (allAtoms t)).before a st = _
    rw [Jvm.Cond.before_and, ih, List.all_cons]
def words1 : List Jvm.Cond := Jvm.Cond.code x code maxLocals ret :: tables_1
/-- a 'code' word, met by the world's own term for the bytes: nothing is compared byte by byte -/
theorem code_word {y : MethodName} {bytes : ByteArray} {mx : Nat} {rt : Option FieldType} {a : Array Value} {s : State} {m : MethodId} {meth : Method} {c : Code} (h1 : s.methodNamed? y = some m) (h2 : s.vm.method? m = some meth) (h3 : meth.code = some c) (h4 : c.code = bytes)
    (h5 : (c.maxLocals == mx && c.exceptionTable.isEmpty && decide (c.maxStack ≤ mostOperands) && decide (meth.sig.returnType = rt) && !meth.locks && decide (parseMethodDescriptor y.desc = some meth.sig)) = true) : (Jvm.Cond.code y bytes mx rt).before a s = true := by
  simp only [Bool.and_eq_true, beq_iff_eq, Bool.not_eq_true', decide_eq_true_eq] at h5
  obtain ⟨⟨⟨⟨⟨g1, g2⟩, g3⟩, g4⟩, g5⟩, g6⟩ := h5
  simp [Cond.before, Cond.holds, Cond.value, h1, h2, h3, h4, g1, g2, g3, g4, g5, g6]
def isCode : Jvm.Cond → Bool
  | .code _ _ _ _ => true
  | _ => false
theorem all_split {L : List Jvm.Cond} {P : Jvm.Cond → Bool} (h1 : L.all (fun c => isCode c || P c) = true) (h2 : ∀ c ∈ L.filter isCode, P c = true) : L.all P = true := by
  refine List.all_eq_true.mpr fun c hc => ?_
  have h := List.all_eq_true.mp h1 c hc
  rcases Bool.eq_false_or_eq_true (isCode c) with hi | hi
  · exact h2 c (List.mem_filter.mpr ⟨hc, hi⟩)
  · simpa [hi] using h
set_option maxRecDepth 65536 in
theorem w_c0 : (Jvm.Cond.code x code maxLocals ret).before args0 about1 = true := code_word (m := ⟨1, 1⟩) (meth := k1m1) (c := k1c1) (by decide +kernel) rfl rfl rfl (by decide +kernel)
set_option maxRecDepth 65536 in
theorem w_c1 : (Jvm.Cond.code ({ cls := "com/example/tersemark/tersemark/codec/WbxmlFormat", name := "charset", desc := "(J)Ljava/nio/charset/Charset;" } : Jvm.MethodName) prog_69_method_3_code (2 : Nat) (Option.some (Jvm.ClassFile.FieldType.object "java/nio/charset/Charset"))).before args0 about1 = true := code_word (m := ⟨2, 1⟩) (meth := k2m1) (c := k2c1) (by decide +kernel) rfl rfl rfl (by decide +kernel)
set_option maxRecDepth 65536 in
theorem w_c2 : (Jvm.Cond.code ({ cls := "com/example/tersemark/tersemark/codec/WbxmlFormatCharsetPinLaw", name := "expected", desc := "(J)Ljava/nio/charset/Charset;" } : Jvm.MethodName) method_3_code (2 : Nat) (Option.some (Jvm.ClassFile.FieldType.object "java/nio/charset/Charset"))).before args0 about1 = true := code_word (m := ⟨1, 2⟩) (meth := k1m2) (c := k1c2) (by decide +kernel) rfl rfl rfl (by decide +kernel)
def codes1 : List Jvm.Cond := [Jvm.Cond.code x code maxLocals ret, Jvm.Cond.code ({ cls := "com/example/tersemark/tersemark/codec/WbxmlFormat", name := "charset", desc := "(J)Ljava/nio/charset/Charset;" } : Jvm.MethodName) prog_69_method_3_code (2 : Nat) (Option.some (Jvm.ClassFile.FieldType.object "java/nio/charset/Charset")), Jvm.Cond.code ({ cls := "com/example/tersemark/tersemark/codec/WbxmlFormatCharsetPinLaw", name := "expected", desc := "(J)Ljava/nio/charset/Charset;" } : Jvm.MethodName) method_3_code (2 : Nat) (Option.some (Jvm.ClassFile.FieldType.object "java/nio/charset/Charset"))]
set_option maxRecDepth 65536 in
theorem codes_eq : words1.filter isCode = codes1 := rfl
theorem w_codes : ∀ c ∈ words1.filter isCode, c.before args0 about1 = true := by
  rw [codes_eq]
  intro c hc
  simp only [codes1, List.mem_cons, List.not_mem_nil, or_false] at hc
  rcases hc with rfl | rfl | rfl
  · exact w_c0
  · exact w_c1
  · exact w_c2
set_option maxRecDepth 65536 in
theorem w_t1 : words1.all (fun c => isCode c || c.before args0 about1) = true := by decide +kernel
theorem w_tables : (allAtoms (Jvm.Cond.code x code maxLocals ret :: tables_1)).before args0 about1 = true := by
  rw [allAtoms_all]
  show words1.all (fun c => c.before args0 about1) = true
  refine all_split ?_ w_codes
  rw [w_t1]
set_option maxRecDepth 65536 in
theorem w_rest : rest_1_c.before args0 about1 = true := by decide +kernel
set_option maxRecDepth 65536 in
theorem w_case : (Jvm.Cond.and given_1 narrow_1).before args0 about1 = true := by decide +kernel
theorem w_applies : (headSpec (Jvm.Cond.code x code maxLocals ret :: tables_1) room_1).applies x e0.platform about1 = true :=
  (Spec.applies_iff w_frames).mpr ⟨w_running, w_runnable, w_alone, w_named, w_hears, w_ripe, w_room, w_tables⟩
theorem atStart : AtStart classFile x code maxLocals ret World_1 tables_1 room_1 Calls_1 rest_1 Pre_1 launch0 p0 e0 about1 theMethod args0 below0 :=
  ⟨lists_1, trivial, launch0.admits_env _ _ _, launch0.least_env, fairChoices_fair.cas, fairChoices_fair.clock, w_frames, w_args, w_heap, w_applies, trivial, w_rest, w_case⟩
end start1
theorem witness_1 : WitnessClaimed_1 := ⟨start1.p0, start1.e0, start1.about1, start1.theMethod, start1.args0, start1.below0, start1.atStart⟩
end Jvm.Pilot.@@N@@
