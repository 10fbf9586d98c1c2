import JvmDerived
import JvmDerived.Pilot.@@N@@Statement
import JvmDerived.Pilot.@@N@@Code
set_option linter.unusedVariables false
set_option linter.unusedSimpArgs false
namespace Jvm.RoadKit
open Sem ClassFile Op Lib Jvm.Stand Jvm.Free Jvm.LawKit
section New
variable {p : Program} {l : Launch} {e : Env} {R : Room} {s : State} {m : MethodId} {args : Array Value} {below : List Frame} {meth : Method} {c : Code} {T : State} {locs : List Loc} {cells slots : Nat}
/-- what a body hands back: the value r, and K of the heap and the places at its end -/
def own_Q (r : Option Value) (K : Heap → List Loc → Prop) (v : Option Value) (h : Heap) (L : List Loc) : Prop := v = r ∧ K h L
/-- nothing is written, nothing is made -/
def own_K0 (h0 : Heap) (h : Heap) (L : List Loc) : Prop := L = [] ∧ h = h0
/-- from F on the run returns r with K -/
def own_Go (p : Program) (e : Env) (below : List Frame) (s : State) (C N : Nat) (r : Option Value) (K : Heap → List Loc → Prop) (F : State) : Prop :=
  ∃ s₂ o, Steps p.tables e below F s₂ ∧ s₂.status = .running ∧ Ended s₂ below o ∧ ∃ v L, o = .returned v ∧ own_Q r K v s₂.heap L ∧ FrameEnd s o s₂ L C N
theorem own_pre {C N : Nat} {r : Option Value} {K : Heap → List Loc → Prop} {F F' : State} (h : ∀ t, Steps p.tables e below F' t → Steps p.tables e below F t) (g : own_Go p e below s C N r K F') : own_Go p e below s C N r K F := by
  obtain ⟨t, o, a, b⟩ := g
  exact ⟨t, o, h t a, b⟩
theorem own_iteI {C N : Nat} {K : Heap → List Loc → Prop} {F : State} {P : Prop} [Decidable P] {a b : Int32} (h1 : P → own_Go p e below s C N (some (.int a)) K F) (h2 : ¬ P → own_Go p e below s C N (some (.int b)) K F) : own_Go p e below s C N (some (.int (if P then a else b))) K F := by
  by_cases q : P
  · rw [if_pos q]; exact h1 q
  · rw [if_neg q]; exact h2 q
theorem own_iteJ {C N : Nat} {K : Heap → List Loc → Prop} {F : State} {P : Prop} [Decidable P] {a b : Int64} (h1 : P → own_Go p e below s C N (some (.long a)) K F) (h2 : ¬ P → own_Go p e below s C N (some (.long b)) K F) : own_Go p e below s C N (some (.long (if P then a else b))) K F := by
  by_cases q : P
  · rw [if_pos q]; exact h1 q
  · rw [if_neg q]; exact h2 q
theorem own_iteR {C N : Nat} {K : Heap → List Loc → Prop} {F : State} {P : Prop} [Decidable P] {a b : Addr} (h1 : P → own_Go p e below s C N (some (.ref a)) K F) (h2 : ¬ P → own_Go p e below s C N (some (.ref b)) K F) : own_Go p e below s C N (some (.ref (if P then a else b))) K F := by
  by_cases q : P
  · rw [if_pos q]; exact h1 q
  · rw [if_neg q]; exact h2 q
theorem own_iteV {C N : Nat} {K : Heap → List Loc → Prop} {F : State} {P : Prop} [Decidable P] {a b : Value} (h1 : P → own_Go p e below s C N (some a) K F) (h2 : ¬ P → own_Go p e below s C N (some b) K F) : own_Go p e below s C N (some (if P then a else b)) K F := by
  by_cases q : P
  · rw [if_pos q]; exact h1 q
  · rw [if_neg q]; exact h2 q
theorem own_ret (X : Stand p l e R s m args below meth c T locs cells slots) (hx : p.tables.exec = Jvm.exec) (hlocks : meth.locks = false) {pc : Nat} {Ls : Array Slot} {w : Value} {t : FieldType} {i : Instr} {rest : List Value} {C N : Nat} {K : Heap → List Loc → Prop} (hret : meth.sig.returnType = some t) (hn : narrow t w = w)
    (hi : (i = .ireturn ∧ (t = .int ∨ t = .boolean ∨ t = .byte ∨ t = .char ∨ t = .short) ∧ ∃ z, w = .int z) ∨ (i = .lreturn ∧ t = .long ∧ ∃ z, w = .long z) ∨ (i = .areturn ∧ t.isReference = true ∧ w.isRef = true))
    (hd : decode c.code pc = .ok (i, 1)) (hK : K T.heap locs) (hC : cells ≤ C) (hN : slots ≤ N) : own_Go p e below s C N (some w) K (T.setTop (mkF m pc Ls (w :: rest))) := by
  obtain ⟨fs, hr, hrun, hended, hW, hsame⟩ := X.leave (v := some w) (fun h => by rw [hret] at h; cases h)
  refine ⟨_, _, retOut X hx hret hn ?_ hd hr, hrun, hended, _, _, rfl, ⟨rfl, hK⟩, ⟨_, rfl⟩, hW, hsame.mono hC hN⟩
  rcases hi with h | h | h
  · exact Or.inl h
  · exact Or.inr (Or.inl h)
  · exact Or.inr (Or.inr (Or.inr (Or.inr h)))
theorem own_retN (X : Stand p l e R s m args below meth c T locs cells slots) (hx : p.tables.exec = Jvm.exec) (hlocks : meth.locks = false) {pc : Nat} {Ls : Array Slot} {z : Int32} {t : FieldType} {rest : List Value} {C N : Nat} {K : Heap → List Loc → Prop} (hret : meth.sig.returnType = some t) (ht : t = .boolean ∨ t = .byte ∨ t = .char ∨ t = .short)
    (hd : decode c.code pc = .ok (.ireturn, 1)) (hK : K T.heap locs) (hC : cells ≤ C) (hN : slots ≤ N) : own_Go p e below s C N (some (.int (nar t z))) K (T.setTop (mkF m pc Ls (.int z :: rest))) := by
  obtain ⟨fs, hr, hrun, hended, hW, hsame⟩ := X.leave (v := some (.int (nar t z))) (fun h => by rw [hret] at h; cases h)
  exact ⟨_, _, retN X hx hret ht hd hr, hrun, hended, _, _, rfl, ⟨rfl, hK⟩, ⟨_, rfl⟩, hW, hsame.mono hC hN⟩
theorem own_retV (X : Stand p l e R s m args below meth c T locs cells slots) (hx : p.tables.exec = Jvm.exec) (hlocks : meth.locks = false) {pc : Nat} {Ls : Array Slot} {C N : Nat} {K : Heap → List Loc → Prop} (hret : meth.sig.returnType = none)
    (hd : decode c.code pc = .ok (.return_, 1)) (hK : K T.heap locs) (hC : cells ≤ C) (hN : slots ≤ N) : own_Go p e below s C N none K (T.setTop (mkF m pc Ls [])) := by
  obtain ⟨fs, hr, hrun, hended, hW, hsame⟩ := X.leave (v := none) (fun _ => rfl)
  exact ⟨_, _, X.returnOut hx hret hd hr, hrun, hended, _, _, rfl, ⟨rfl, hK⟩, ⟨_, rfl⟩, hW, hsame.mono hC hN⟩
theorem own_lremM {g : JFrame} {target : State} (X : Stand p l e R s m args below meth c T locs cells slots) (hx : p.tables.exec = Jvm.exec) (hg : g.method = m) {x y : Int64} {rest : List Value} (hd : decode c.code g.pc = .ok (.lrem, 1)) (hs : g.stack = .long y :: .long x :: rest) (hy : y ≠ 0)
    (hr : Steps p.tables e below (T.setTop { g with pc := g.pc + 1, stack := .long (x % y) :: rest }) target) : Steps p.tables e below (T.setTop g) target :=
  XS.lrem X.here hx hg hd hs hy (by rw [lrem_mod]; exact hr)
theorem own_nar (z : Int32) : nar .boolean z = z &&& 1 := rfl
end New
end Jvm.RoadKit
namespace Jvm.Pilot.@@N@@
open Jvm Jvm.ClassFile Sem Op Lib Jvm.Free Jvm.Stand Jvm.LawKit Jvm.RoadKit Bundle Jvm.Pilot.@@N@@.Jvm.D
theorem own_eqI {t : Term} {n : Int32} {args : Array Value} {s : State} (h : (Jvm.Cond.eq t (.int n)).value args s none s [] = some true) : t.eval args s none [] s = some (.int n) := by
  simp only [Cond.value] at h
  have hn : (Term.int n).eval args s none [] s = some (.int n) := rfl
  rw [hn] at h
  cases ht : t.eval args s none [] s with
  | none => simp [ht] at h
  | some v => cases v <;> simp [ht] at h ⊢; exact h
/-! body 1 -/
theorem d1_0 : decode prog_1_method_4_code 0 = .ok (.iload_n 0, 1) := by decide +kernel
theorem d1_1 : decode prog_1_method_4_code 1 = .ok (.ifCond .eq 17, 3) := by decide +kernel
theorem d1_4 : decode prog_1_method_4_code 4 = .ok (.iload_n 1, 1) := by decide +kernel
theorem d1_5 : decode prog_1_method_4_code 5 = .ok (.ifCond .eq 9, 3) := by decide +kernel
theorem d1_8 : decode prog_1_method_4_code 8 = .ok (.getstatic 13, 3) := by decide +kernel
theorem d1_11 : decode prog_1_method_4_code 11 = .ok (.goto 6, 3) := by decide +kernel
theorem d1_14 : decode prog_1_method_4_code 14 = .ok (.getstatic 7, 3) := by decide +kernel
theorem d1_17 : decode prog_1_method_4_code 17 = .ok (.areturn, 1) := by decide +kernel
theorem d1_18 : decode prog_1_method_4_code 18 = .ok (.iload_n 1, 1) := by decide +kernel
theorem d1_19 : decode prog_1_method_4_code 19 = .ok (.ifCond .eq 9, 3) := by decide +kernel
theorem d1_22 : decode prog_1_method_4_code 22 = .ok (.getstatic 10, 3) := by decide +kernel
theorem d1_25 : decode prog_1_method_4_code 25 = .ok (.goto 6, 3) := by decide +kernel
theorem d1_28 : decode prog_1_method_4_code 28 = .ok (.getstatic 3, 3) := by decide +kernel
theorem d1_31 : decode prog_1_method_4_code 31 = .ok (.areturn, 1) := by decide +kernel
theorem own_pn0 : plainName "com/example/tandemscroll/tandemscroll/Axes" = true := by first | (simp [plainName, overriddenIn]; done) | decide +kernel
def f1_0 (p0 : Int32) (p1 : Int32) (w_BOTH : Addr) (w_HORIZONTAL : Addr) (w_VERTICAL : Addr) (w_NONE : Addr) : Addr := (if p0 = (0 : Int32) then (if p1 = (0 : Int32) then w_NONE else w_VERTICAL) else (if p1 = (0 : Int32) then w_HORIZONTAL else w_BOTH))
set_option maxRecDepth 65536 in
set_option maxHeartbeats 40000000 in
theorem g1_0 {p : Program} {l : Launch} {e : Env} {s : State} {m : MethodId} {below : List Frame} {meth : Method} {c : Code} {s₁ : State} {ws : List Jvm.Cond} {Z : State} {aw : Array Value} (hw : ∀ d ∈ tables_1, d.before aw Z = true) {h0 : Heap} (p0 : Int32) (p1 : Int32) (w_BOTH : Addr) (w_HORIZONTAL : Addr) (w_VERTICAL : Addr) (w_NONE : Addr) (Sw_BOTH : Sta Z h0 "com/example/tandemscroll/tandemscroll/Axes" "BOTH" "Lcom/example/tandemscroll/tandemscroll/Axes;" (.ref w_BOTH)) (Sw_HORIZONTAL : Sta Z h0 "com/example/tandemscroll/tandemscroll/Axes" "HORIZONTAL" "Lcom/example/tandemscroll/tandemscroll/Axes;" (.ref w_HORIZONTAL)) (Sw_VERTICAL : Sta Z h0 "com/example/tandemscroll/tandemscroll/Axes" "VERTICAL" "Lcom/example/tandemscroll/tandemscroll/Axes;" (.ref w_VERTICAL)) (Sw_NONE : Sta Z h0 "com/example/tandemscroll/tandemscroll/Axes" "NONE" "Lcom/example/tandemscroll/tandemscroll/Axes;" (.ref w_NONE))
    (Bd : BodyLoose p l (⟨"com/example/tandemscroll/tandemscroll/Axes", "of", "(ZZ)Lcom/example/tandemscroll/tandemscroll/Axes;"⟩ : MethodName) (head1 (Jvm.Cond.code (⟨"com/example/tandemscroll/tandemscroll/Axes", "of", "(ZZ)Lcom/example/tandemscroll/tandemscroll/Axes;"⟩ : MethodName) prog_1_method_4_code 2 (some (.object "com/example/tandemscroll/tandemscroll/Axes")) :: ws) ({ frames := 0, cells := 0, slots := 0, locals := 0 } : Room)) prog_1_method_4_code 2 (some (.object "com/example/tandemscroll/tandemscroll/Axes")) e s m #[(.int p0), (.int p1)] below meth c s₁) (hml : c.maxLocals = 2) (hZ : Z.Warmed39 s.vm) (T0 : State) (X0 : Stand p l e ({ frames := 0, cells := 0, slots := 0, locals := 0 } : Room) s m #[(.int p0), (.int p1)] below meth c T0 [] 0 0) (e0 : T0.heap = h0) :
    own_Go p e below s ({ frames := 0, cells := 0, slots := 0, locals := 0 } : Room).cells ({ frames := 0, cells := 0, slots := 0, locals := 0 } : Room).slots (some (.ref (f1_0 p0 p1 w_BOTH w_HORIZONTAL w_VERTICAL w_NONE))) (own_K0 h0) (T0.setTop (mkF m 0 #[.val (.int p0), .val (.int p1)] [])) := by
  have hx := Bd.exec
  have hby := Bd.bytes
  have hown : s.vm.findClass "com/example/tandemscroll/tandemscroll/Axes" = some m.cls := findClass_of_methodNamed Bd.named
  unfold f1_0
  refine own_pre (F' := T0.setTop (mkF m 1 #[.val (.int p0), .val (.int p1)] [(.int p0)])) (fun _ k => XS.iloadN X0.here hx rfl (hb hby d1_0) rfl k) ?_
  refine own_iteR (fun hc1 => ?_) (fun hc1 => ?_)
  · skip
    refine own_pre (F' := T0.setTop (mkF m 18 #[.val (.int p0), .val (.int p1)] [])) (fun _ k => XS.ifYes X0.here hx rfl (pc0 := 1) (pc' := 18) rfl (hb hby d1_1) rfl ((if0 _ _).trans (teq hc1).1) (by decide) (by decide) k) ?_
    refine own_pre (F' := T0.setTop (mkF m 19 #[.val (.int p0), .val (.int p1)] [(.int p1)])) (fun _ k => XS.iloadN X0.here hx rfl (hb hby d1_18) rfl k) ?_
    refine own_iteR (fun hc19 => ?_) (fun hc19 => ?_)
    · skip
      refine own_pre (F' := T0.setTop (mkF m 28 #[.val (.int p0), .val (.int p1)] [])) (fun _ k => XS.ifYes X0.here hx rfl (pc0 := 19) (pc' := 28) rfl (hb hby d1_19) rfl ((if0 _ _).trans (teq hc19).1) (by decide) (by decide) k) ?_
      obtain ⟨T1, X1, e1, st'⟩ := getS2 X0 hx hZ hown (host := "") (Or.inl (hw _ (List.mem_of_getElem? (i := 16) rfl))) Via.refl e0 Sw_NONE (g := (mkF m 28 #[.val (.int p0), .val (.int p1)] [])) rfl (hb hby d1_28)
      refine own_pre (F' := T1.setTop (mkF m 31 #[.val (.int p0), .val (.int p1)] [(.ref w_NONE)])) (fun t k => st' t k) ?_
      exact own_ret X1 hx Bd.notSynchronized Bd.returns rfl (Or.inr (Or.inr ⟨rfl, rfl, rfl⟩)) (hb hby d1_31) ⟨rfl, e1⟩ (by decide) (by decide)
    · skip
      refine own_pre (F' := T0.setTop (mkF m 22 #[.val (.int p0), .val (.int p1)] [])) (fun _ k => XS.ifNo X0.here hx rfl (hb hby d1_19) rfl ((if0 _ _).trans (feq hc19).1) k) ?_
      obtain ⟨T2, X2, e2, st'⟩ := getS2 X0 hx hZ hown (host := "") (Or.inl (hw _ (List.mem_of_getElem? (i := 4) rfl))) Via.refl e0 Sw_VERTICAL (g := (mkF m 22 #[.val (.int p0), .val (.int p1)] [])) rfl (hb hby d1_22)
      refine own_pre (F' := T2.setTop (mkF m 25 #[.val (.int p0), .val (.int p1)] [(.ref w_VERTICAL)])) (fun t k => st' t k) ?_
      refine own_pre (F' := T2.setTop (mkF m 31 #[.val (.int p0), .val (.int p1)] [(.ref w_VERTICAL)])) (fun _ k => XS.goto X2.here hx rfl (pc0 := 25) (pc' := 31) rfl (hb hby d1_25) (by decide) (by decide) k) ?_
      exact own_ret X2 hx Bd.notSynchronized Bd.returns rfl (Or.inr (Or.inr ⟨rfl, rfl, rfl⟩)) (hb hby d1_31) ⟨rfl, e2⟩ (by decide) (by decide)
  · skip
    refine own_pre (F' := T0.setTop (mkF m 4 #[.val (.int p0), .val (.int p1)] [])) (fun _ k => XS.ifNo X0.here hx rfl (hb hby d1_1) rfl ((if0 _ _).trans (feq hc1).1) k) ?_
    refine own_pre (F' := T0.setTop (mkF m 5 #[.val (.int p0), .val (.int p1)] [(.int p1)])) (fun _ k => XS.iloadN X0.here hx rfl (hb hby d1_4) rfl k) ?_
    refine own_iteR (fun hc5 => ?_) (fun hc5 => ?_)
    · skip
      refine own_pre (F' := T0.setTop (mkF m 14 #[.val (.int p0), .val (.int p1)] [])) (fun _ k => XS.ifYes X0.here hx rfl (pc0 := 5) (pc' := 14) rfl (hb hby d1_5) rfl ((if0 _ _).trans (teq hc5).1) (by decide) (by decide) k) ?_
      obtain ⟨T3, X3, e3, st'⟩ := getS2 X0 hx hZ hown (host := "") (Or.inl (hw _ (List.mem_of_getElem? (i := 20) rfl))) Via.refl e0 Sw_HORIZONTAL (g := (mkF m 14 #[.val (.int p0), .val (.int p1)] [])) rfl (hb hby d1_14)
      refine own_pre (F' := T3.setTop (mkF m 17 #[.val (.int p0), .val (.int p1)] [(.ref w_HORIZONTAL)])) (fun t k => st' t k) ?_
      exact own_ret X3 hx Bd.notSynchronized Bd.returns rfl (Or.inr (Or.inr ⟨rfl, rfl, rfl⟩)) (hb hby d1_17) ⟨rfl, e3⟩ (by decide) (by decide)
    · skip
      refine own_pre (F' := T0.setTop (mkF m 8 #[.val (.int p0), .val (.int p1)] [])) (fun _ k => XS.ifNo X0.here hx rfl (hb hby d1_5) rfl ((if0 _ _).trans (feq hc5).1) k) ?_
      obtain ⟨T4, X4, e4, st'⟩ := getS2 X0 hx hZ hown (host := "") (Or.inl (hw _ (List.mem_of_getElem? (i := 18) rfl))) Via.refl e0 Sw_BOTH (g := (mkF m 8 #[.val (.int p0), .val (.int p1)] [])) rfl (hb hby d1_8)
      refine own_pre (F' := T4.setTop (mkF m 11 #[.val (.int p0), .val (.int p1)] [(.ref w_BOTH)])) (fun t k => st' t k) ?_
      refine own_pre (F' := T4.setTop (mkF m 17 #[.val (.int p0), .val (.int p1)] [(.ref w_BOTH)])) (fun _ k => XS.goto X4.here hx rfl (pc0 := 11) (pc' := 17) rfl (hb hby d1_11) (by decide) (by decide) k) ?_
      exact own_ret X4 hx Bd.notSynchronized Bd.returns rfl (Or.inr (Or.inr ⟨rfl, rfl, rfl⟩)) (hb hby d1_17) ⟨rfl, e4⟩ (by decide) (by decide)
theorem ef_1 (m : MethodId) (p0 : Int32) (p1 : Int32) : entryFrame m #[(.int p0), (.int p1)] 2 = mkF m 0 #[.val (.int p0), .val (.int p1)] [] := by first | (simp [entryFrame, mkF, argsToLocals, Value.category]; done) | rfl
set_option maxRecDepth 65536 in
set_option maxHeartbeats 40000000 in
theorem rm1 (l : Launch) (Z : State) (aw : Array Value) (hw : ∀ d ∈ tables_1, d.before aw Z = true) (ws : List Jvm.Cond) (p0 : Int32) (p1 : Int32) (w_BOTH : Addr) (w_HORIZONTAL : Addr) (w_VERTICAL : Addr) (w_NONE : Addr) (h0 : Heap) (Sw_BOTH : Sta Z h0 "com/example/tandemscroll/tandemscroll/Axes" "BOTH" "Lcom/example/tandemscroll/tandemscroll/Axes;" (.ref w_BOTH)) (Sw_HORIZONTAL : Sta Z h0 "com/example/tandemscroll/tandemscroll/Axes" "HORIZONTAL" "Lcom/example/tandemscroll/tandemscroll/Axes;" (.ref w_HORIZONTAL)) (Sw_VERTICAL : Sta Z h0 "com/example/tandemscroll/tandemscroll/Axes" "VERTICAL" "Lcom/example/tandemscroll/tandemscroll/Axes;" (.ref w_VERTICAL)) (Sw_NONE : Sta Z h0 "com/example/tandemscroll/tandemscroll/Axes" "NONE" "Lcom/example/tandemscroll/tandemscroll/Axes;" (.ref w_NONE)) :
    MetFree l (⟨"com/example/tandemscroll/tandemscroll/Axes", "of", "(ZZ)Lcom/example/tandemscroll/tandemscroll/Axes;"⟩ : MethodName) (head1 (Jvm.Cond.code (⟨"com/example/tandemscroll/tandemscroll/Axes", "of", "(ZZ)Lcom/example/tandemscroll/tandemscroll/Axes;"⟩ : MethodName) prog_1_method_4_code 2 (some (.object "com/example/tandemscroll/tandemscroll/Axes")) :: ws) ({ frames := 0, cells := 0, slots := 0, locals := 0 } : Room)) (fun a U => a = #[(.int p0), (.int p1)] ∧ Z.Warmed39 U.vm ∧ U.heap = h0) (fun _ _ _ _ _ => True) (fun _ U o U' => ∃ v L, o = .returned v ∧ own_Q (some (.ref (f1_0 p0 p1 w_BOTH w_HORIZONTAL w_VERTICAL w_NONE))) (own_K0 h0) v U'.heap L ∧ FrameEnd U o U' L ({ frames := 0, cells := 0, slots := 0, locals := 0 } : Room).cells ({ frames := 0, cells := 0, slots := 0, locals := 0 } : Room).slots) := by
  refine MetFree.of_bodySF (plainFor_of_name own_pn0) hisR ?_
  intro p e s m args below meth c s₁ Bd hml0 hP hK
  obtain ⟨rfl, hZ, hh⟩ := hP
  have hml : c.maxLocals = 2 := hml0
  have e0 : s₁.heap = h0 := by rw [← hh, Bd.state]; rfl
  exact own_pre (fun t k => castTop (ef_1 m p0 p1) k) (g1_0 hw p0 p1 w_BOTH w_HORIZONTAL w_VERTICAL w_NONE Sw_BOTH Sw_HORIZONTAL Sw_VERTICAL Sw_NONE Bd hml hZ s₁ (Stand.of_body Bd) e0)
/-! body 2 -/
theorem d2_0 : decode prog_1_method_7_code 0 = .ok (.aload_n 0, 1) := by decide +kernel
theorem d2_1 : decode prog_1_method_7_code 1 = .ok (.getfield 35, 3) := by decide +kernel
theorem d2_4 : decode prog_1_method_7_code 4 = .ok (.aload_n 1, 1) := by decide +kernel
theorem d2_5 : decode prog_1_method_7_code 5 = .ok (.getfield 35, 3) := by decide +kernel
theorem d2_8 : decode prog_1_method_7_code 8 = .ok (.iand, 1) := by decide +kernel
theorem d2_9 : decode prog_1_method_7_code 9 = .ok (.aload_n 1, 1) := by decide +kernel
theorem d2_10 : decode prog_1_method_7_code 10 = .ok (.getfield 35, 3) := by decide +kernel
theorem d2_13 : decode prog_1_method_7_code 13 = .ok (.if_icmp .ne 7, 3) := by decide +kernel
theorem d2_16 : decode prog_1_method_7_code 16 = .ok (.iconst 1, 1) := by decide +kernel
theorem d2_17 : decode prog_1_method_7_code 17 = .ok (.goto 4, 3) := by decide +kernel
theorem d2_20 : decode prog_1_method_7_code 20 = .ok (.iconst 0, 1) := by decide +kernel
theorem d2_21 : decode prog_1_method_7_code 21 = .ok (.ireturn, 1) := by decide +kernel
def f2_0 (a0 : Addr) (a1 : Addr) (u0 : Int32) (u1 : Int32) : Int32 := (if (u0 &&& u1) = u1 then (1 : Int32) else (0 : Int32))
set_option maxRecDepth 65536 in
set_option maxHeartbeats 40000000 in
theorem g2_0 {p : Program} {l : Launch} {e : Env} {s : State} {m : MethodId} {below : List Frame} {meth : Method} {c : Code} {s₁ : State} {ws : List Jvm.Cond} {Z : State} {aw : Array Value} (hw : ∀ d ∈ tables_1, d.before aw Z = true) {h0 : Heap} (a0 : Addr) (a1 : Addr) (u0 : Int32) (u1 : Int32) (F0 : Fld Z h0 a0 "com/example/tandemscroll/tandemscroll/Axes" "flags" "I" (.int u0)) (F1 : Fld Z h0 a1 "com/example/tandemscroll/tandemscroll/Axes" "flags" "I" (.int u1))
    (Bd : BodyLoose p l (⟨"com/example/tandemscroll/tandemscroll/Axes", "includes", "(Lcom/example/tandemscroll/tandemscroll/Axes;)Z"⟩ : MethodName) (head1 (Jvm.Cond.code (⟨"com/example/tandemscroll/tandemscroll/Axes", "includes", "(Lcom/example/tandemscroll/tandemscroll/Axes;)Z"⟩ : MethodName) prog_1_method_7_code 2 (some .boolean) :: ws) ({ frames := 0, cells := 0, slots := 0, locals := 0 } : Room)) prog_1_method_7_code 2 (some .boolean) e s m #[(.ref a0), (.ref a1)] below meth c s₁) (hml : c.maxLocals = 2) (hZ : Z.Warmed39 s.vm) (T0 : State) (X0 : Stand p l e ({ frames := 0, cells := 0, slots := 0, locals := 0 } : Room) s m #[(.ref a0), (.ref a1)] below meth c T0 [] 0 0) (e0 : T0.heap = h0) :
    own_Go p e below s ({ frames := 0, cells := 0, slots := 0, locals := 0 } : Room).cells ({ frames := 0, cells := 0, slots := 0, locals := 0 } : Room).slots (some (.int (f2_0 a0 a1 u0 u1))) (own_K0 h0) (T0.setTop (mkF m 0 #[.val (.ref a0), .val (.ref a1)] [])) := by
  have hx := Bd.exec
  have hby := Bd.bytes
  have hown : s.vm.findClass "com/example/tandemscroll/tandemscroll/Axes" = some m.cls := findClass_of_methodNamed Bd.named
  unfold f2_0
  refine own_pre (F' := T0.setTop (mkF m 1 #[.val (.ref a0), .val (.ref a1)] [(.ref a0)])) (fun _ k => XS.aloadN X0.here hx rfl (hb hby d2_0) rfl rfl k) ?_
  obtain ⟨T1, X1, e1, st'⟩ := getF X0 hx hZ hown (host := "") (Or.inl (hw _ (List.mem_of_getElem? (i := 13) rfl))) Via.refl e0 F0 (g := (mkF m 1 #[.val (.ref a0), .val (.ref a1)] [(.ref a0)])) rfl rfl (hb hby d2_1)
  refine own_pre (F' := T1.setTop (mkF m 4 #[.val (.ref a0), .val (.ref a1)] [(.int u0)])) (fun t k => st' t k) ?_
  refine own_pre (F' := T1.setTop (mkF m 5 #[.val (.ref a0), .val (.ref a1)] [(.ref a1), (.int u0)])) (fun _ k => XS.aloadN X1.here hx rfl (hb hby d2_4) rfl rfl k) ?_
  obtain ⟨T2, X2, e2, st'⟩ := getF X1 hx hZ hown (host := "") (Or.inl (hw _ (List.mem_of_getElem? (i := 13) rfl))) Via.refl e1 F1 (g := (mkF m 5 #[.val (.ref a0), .val (.ref a1)] [(.ref a1), (.int u0)])) rfl rfl (hb hby d2_5)
  refine own_pre (F' := T2.setTop (mkF m 8 #[.val (.ref a0), .val (.ref a1)] [(.int u1), (.int u0)])) (fun t k => st' t k) ?_
  refine own_pre (F' := T2.setTop (mkF m 9 #[.val (.ref a0), .val (.ref a1)] [(.int (u0 &&& u1))])) (fun _ k => XS.iand X2.here hx rfl (hb hby d2_8) rfl k) ?_
  refine own_pre (F' := T2.setTop (mkF m 10 #[.val (.ref a0), .val (.ref a1)] [(.ref a1), (.int (u0 &&& u1))])) (fun _ k => XS.aloadN X2.here hx rfl (hb hby d2_9) rfl rfl k) ?_
  obtain ⟨T3, X3, e3, st'⟩ := getF X2 hx hZ hown (host := "") (Or.inl (hw _ (List.mem_of_getElem? (i := 13) rfl))) Via.refl e2 F1 (g := (mkF m 10 #[.val (.ref a0), .val (.ref a1)] [(.ref a1), (.int (u0 &&& u1))])) rfl rfl (hb hby d2_10)
  refine own_pre (F' := T3.setTop (mkF m 13 #[.val (.ref a0), .val (.ref a1)] [(.int u1), (.int (u0 &&& u1))])) (fun t k => st' t k) ?_
  refine own_iteI (fun hc13 => ?_) (fun hc13 => ?_)
  · skip
    refine own_pre (F' := T3.setTop (mkF m 16 #[.val (.ref a0), .val (.ref a1)] [])) (fun _ k => XS.icmpNo X3.here hx rfl (hb hby d2_13) rfl (teq hc13).2 k) ?_
    refine own_pre (F' := T3.setTop (mkF m 17 #[.val (.ref a0), .val (.ref a1)] [(.int (1 : Int32))])) (fun _ k => XS.iconst X3.here hx rfl (hb hby d2_16) k) ?_
    refine own_pre (F' := T3.setTop (mkF m 21 #[.val (.ref a0), .val (.ref a1)] [(.int (1 : Int32))])) (fun _ k => XS.goto X3.here hx rfl (pc0 := 17) (pc' := 21) rfl (hb hby d2_17) (by decide) (by decide) k) ?_
    exact own_ret X3 hx Bd.notSynchronized Bd.returns rfl (Or.inl ⟨rfl, by simp, _, rfl⟩) (hb hby d2_21) ⟨rfl, e3⟩ (by decide) (by decide)
  · skip
    refine own_pre (F' := T3.setTop (mkF m 20 #[.val (.ref a0), .val (.ref a1)] [])) (fun _ k => XS.icmpYes X3.here hx rfl (pc0 := 13) (pc' := 20) rfl (hb hby d2_13) rfl (feq hc13).2 (by decide) (by decide) k) ?_
    refine own_pre (F' := T3.setTop (mkF m 21 #[.val (.ref a0), .val (.ref a1)] [(.int (0 : Int32))])) (fun _ k => XS.iconst X3.here hx rfl (hb hby d2_20) k) ?_
    exact own_ret X3 hx Bd.notSynchronized Bd.returns rfl (Or.inl ⟨rfl, by simp, _, rfl⟩) (hb hby d2_21) ⟨rfl, e3⟩ (by decide) (by decide)
theorem ef_2 (m : MethodId) (a0 : Addr) (a1 : Addr) : entryFrame m #[(.ref a0), (.ref a1)] 2 = mkF m 0 #[.val (.ref a0), .val (.ref a1)] [] := by first | (simp [entryFrame, mkF, argsToLocals, Value.category]; done) | rfl
set_option maxRecDepth 65536 in
set_option maxHeartbeats 40000000 in
theorem rm2 (l : Launch) (Z : State) (aw : Array Value) (hw : ∀ d ∈ tables_1, d.before aw Z = true) (ws : List Jvm.Cond) (a0 : Addr) (a1 : Addr) (u0 : Int32) (u1 : Int32) (h0 : Heap) (F0 : Fld Z h0 a0 "com/example/tandemscroll/tandemscroll/Axes" "flags" "I" (.int u0)) (F1 : Fld Z h0 a1 "com/example/tandemscroll/tandemscroll/Axes" "flags" "I" (.int u1)) :
    MetFree l (⟨"com/example/tandemscroll/tandemscroll/Axes", "includes", "(Lcom/example/tandemscroll/tandemscroll/Axes;)Z"⟩ : MethodName) (head1 (Jvm.Cond.code (⟨"com/example/tandemscroll/tandemscroll/Axes", "includes", "(Lcom/example/tandemscroll/tandemscroll/Axes;)Z"⟩ : MethodName) prog_1_method_7_code 2 (some .boolean) :: ws) ({ frames := 0, cells := 0, slots := 0, locals := 0 } : Room)) (fun a U => a = #[(.ref a0), (.ref a1)] ∧ Z.Warmed39 U.vm ∧ U.heap = h0) (fun _ _ _ _ _ => True) (fun _ U o U' => ∃ v L, o = .returned v ∧ own_Q (some (.int (f2_0 a0 a1 u0 u1))) (own_K0 h0) v U'.heap L ∧ FrameEnd U o U' L ({ frames := 0, cells := 0, slots := 0, locals := 0 } : Room).cells ({ frames := 0, cells := 0, slots := 0, locals := 0 } : Room).slots) := by
  refine MetFree.of_bodySF (plainFor_of_name own_pn0) hisR ?_
  intro p e s m args below meth c s₁ Bd hml0 hP hK
  obtain ⟨rfl, hZ, hh⟩ := hP
  have hml : c.maxLocals = 2 := hml0
  have e0 : s₁.heap = h0 := by rw [← hh, Bd.state]; rfl
  exact own_pre (fun t k => castTop (ef_2 m a0 a1) k) (g2_0 hw a0 a1 u0 u1 F0 F1 Bd hml hZ s₁ (Stand.of_body Bd) e0)
def own_flag (p0 p1 : Int32) : Int32 := (if p0 = (0 : Int32) then (if p1 = (0 : Int32) then 0 else 2) else (if p1 = (0 : Int32) then 1 else 3))
theorem own_exa {Z : State} {h0 : Heap} (p0 p1 : Int32) (w_BOTH : Addr) (w_HORIZONTAL : Addr) (w_VERTICAL : Addr) (w_NONE : Addr) (Ew_BOTH : Exa Z h0 w_BOTH "com/example/tandemscroll/tandemscroll/Axes") (Ew_HORIZONTAL : Exa Z h0 w_HORIZONTAL "com/example/tandemscroll/tandemscroll/Axes") (Ew_VERTICAL : Exa Z h0 w_VERTICAL "com/example/tandemscroll/tandemscroll/Axes") (Ew_NONE : Exa Z h0 w_NONE "com/example/tandemscroll/tandemscroll/Axes") : Exa Z h0 (f1_0 p0 p1 w_BOTH w_HORIZONTAL w_VERTICAL w_NONE) "com/example/tandemscroll/tandemscroll/Axes" := by
  unfold f1_0; split <;> split <;> assumption
theorem own_fld {Z : State} {h0 : Heap} (p0 p1 : Int32) (w_BOTH : Addr) (w_HORIZONTAL : Addr) (w_VERTICAL : Addr) (w_NONE : Addr) (Fw_BOTH : Fld Z h0 w_BOTH "com/example/tandemscroll/tandemscroll/Axes" "flags" "I" (.int (3 : Int32))) (Fw_HORIZONTAL : Fld Z h0 w_HORIZONTAL "com/example/tandemscroll/tandemscroll/Axes" "flags" "I" (.int (1 : Int32))) (Fw_VERTICAL : Fld Z h0 w_VERTICAL "com/example/tandemscroll/tandemscroll/Axes" "flags" "I" (.int (2 : Int32))) (Fw_NONE : Fld Z h0 w_NONE "com/example/tandemscroll/tandemscroll/Axes" "flags" "I" (.int (0 : Int32))) : Fld Z h0 (f1_0 p0 p1 w_BOTH w_HORIZONTAL w_VERTICAL w_NONE) "com/example/tandemscroll/tandemscroll/Axes" "flags" "I" (.int (own_flag p0 p1)) := by
  unfold f1_0 own_flag; split <;> split <;> assumption
theorem own_pd0 : parseMethodDescriptor "(ZZ)Lcom/example/tandemscroll/tandemscroll/Axes;" = some ⟨[.boolean, .boolean], some (.object "com/example/tandemscroll/tandemscroll/Axes")⟩ := by decide +kernel
theorem own_pd1 : parseMethodDescriptor "(Lcom/example/tandemscroll/tandemscroll/Axes;)Z" = some ⟨[(.object "com/example/tandemscroll/tandemscroll/Axes")], some .boolean⟩ := by decide +kernel
/-! body 0 -/
theorem own_pn1 : plainName "com/example/tandemscroll/tandemscroll/AxesOfPinLaw" = true := by first | (simp [plainName, overriddenIn]; done) | decide +kernel
def f0_67 (p0 : Int32) (p1 : Int32) (w_BOTH : Addr) (w_HORIZONTAL : Addr) (w_VERTICAL : Addr) (w_NONE : Addr) : Int32 := (0 : Int32)
set_option maxRecDepth 65536 in
set_option maxHeartbeats 40000000 in
theorem g0_67 {p : Program} {l : Launch} {e : Env} {s : State} {m : MethodId} {below : List Frame} {meth : Method} {c : Code} {s₁ : State} {ws : List Jvm.Cond} {Z : State} {aw : Array Value} (hw : ∀ d ∈ tables_1, d.before aw Z = true) {h0 : Heap} (p0 : Int32) (p1 : Int32) (w_BOTH : Addr) (w_HORIZONTAL : Addr) (w_VERTICAL : Addr) (w_NONE : Addr) (Sw_BOTH : Sta Z h0 "com/example/tandemscroll/tandemscroll/Axes" "BOTH" "Lcom/example/tandemscroll/tandemscroll/Axes;" (.ref w_BOTH)) (Sw_HORIZONTAL : Sta Z h0 "com/example/tandemscroll/tandemscroll/Axes" "HORIZONTAL" "Lcom/example/tandemscroll/tandemscroll/Axes;" (.ref w_HORIZONTAL)) (Sw_VERTICAL : Sta Z h0 "com/example/tandemscroll/tandemscroll/Axes" "VERTICAL" "Lcom/example/tandemscroll/tandemscroll/Axes;" (.ref w_VERTICAL)) (Sw_NONE : Sta Z h0 "com/example/tandemscroll/tandemscroll/Axes" "NONE" "Lcom/example/tandemscroll/tandemscroll/Axes;" (.ref w_NONE)) (Ew_BOTH : Exa Z h0 w_BOTH "com/example/tandemscroll/tandemscroll/Axes") (Ew_HORIZONTAL : Exa Z h0 w_HORIZONTAL "com/example/tandemscroll/tandemscroll/Axes") (Ew_VERTICAL : Exa Z h0 w_VERTICAL "com/example/tandemscroll/tandemscroll/Axes") (Ew_NONE : Exa Z h0 w_NONE "com/example/tandemscroll/tandemscroll/Axes") (Fw_BOTH_flags : Fld Z h0 w_BOTH "com/example/tandemscroll/tandemscroll/Axes" "flags" "I" (.int (3 : Int32))) (Fw_HORIZONTAL_flags : Fld Z h0 w_HORIZONTAL "com/example/tandemscroll/tandemscroll/Axes" "flags" "I" (.int (1 : Int32))) (Fw_VERTICAL_flags : Fld Z h0 w_VERTICAL "com/example/tandemscroll/tandemscroll/Axes" "flags" "I" (.int (2 : Int32))) (Fw_NONE_flags : Fld Z h0 w_NONE "com/example/tandemscroll/tandemscroll/Axes" "flags" "I" (.int (0 : Int32))) (x2 : Int32) (x3 : Int32) (x4 : Addr) (x5 : Int32) (x6 : Int32)
    (Bd : BodyLoose p l x (head1 (Jvm.Cond.code x code maxLocals ret :: ws) room_1) code maxLocals ret e s m #[(.int p0), (.int p1)] below meth c s₁) (hml : c.maxLocals = 7) (hZ : Z.Warmed39 s.vm) (T0 : State) (X0 : Stand p l e room_1 s m #[(.int p0), (.int p1)] below meth c T0 [] 0 0) (e0 : T0.heap = h0) :
    own_Go p e below s room_1.cells room_1.slots (some (.int (f0_67 p0 p1 w_BOTH w_HORIZONTAL w_VERTICAL w_NONE))) (own_K0 h0) (T0.setTop (mkF m 67 #[.val (.int p0), .val (.int p1), .val (.int x2), .val (.int x3), .val (.ref x4), .val (.int x5), .val (.int x6)] [])) := by
  have hx := Bd.exec
  have hby := Bd.bytes
  have hown : s.vm.findClass "com/example/tandemscroll/tandemscroll/AxesOfPinLaw" = some m.cls := findClass_of_methodNamed Bd.named
  unfold f0_67
  refine own_pre (F' := T0.setTop (mkF m 68 #[.val (.int p0), .val (.int p1), .val (.int x2), .val (.int x3), .val (.ref x4), .val (.int x5), .val (.int x6)] [(.int (0 : Int32))])) (fun _ k => XS.iconst X0.here hx rfl (hb hby at_67) k) ?_
  exact own_ret X0 hx Bd.notSynchronized Bd.returns rfl (Or.inl ⟨rfl, by simp, _, rfl⟩) (hb hby at_68) ⟨rfl, e0⟩ (by decide) (by decide)
def f0_24 (p0 : Int32) (p1 : Int32) (w_BOTH : Addr) (w_HORIZONTAL : Addr) (w_VERTICAL : Addr) (w_NONE : Addr) (x2 : Int32) (x3 : Int32) : Int32 := (if (f2_0 (f1_0 x2 x3 w_BOTH w_HORIZONTAL w_VERTICAL w_NONE) w_HORIZONTAL (own_flag x2 x3) (1 : Int32)) = x2 then (if (f2_0 (f1_0 x2 x3 w_BOTH w_HORIZONTAL w_VERTICAL w_NONE) w_VERTICAL (own_flag x2 x3) (2 : Int32)) = x3 then (1 : Int32) else (f0_67 p0 p1 w_BOTH w_HORIZONTAL w_VERTICAL w_NONE)) else (f0_67 p0 p1 w_BOTH w_HORIZONTAL w_VERTICAL w_NONE))
set_option maxRecDepth 65536 in
set_option maxHeartbeats 40000000 in
theorem g0_24 {p : Program} {l : Launch} {e : Env} {s : State} {m : MethodId} {below : List Frame} {meth : Method} {c : Code} {s₁ : State} {ws : List Jvm.Cond} {Z : State} {aw : Array Value} (hw : ∀ d ∈ tables_1, d.before aw Z = true) {h0 : Heap} (p0 : Int32) (p1 : Int32) (w_BOTH : Addr) (w_HORIZONTAL : Addr) (w_VERTICAL : Addr) (w_NONE : Addr) (Sw_BOTH : Sta Z h0 "com/example/tandemscroll/tandemscroll/Axes" "BOTH" "Lcom/example/tandemscroll/tandemscroll/Axes;" (.ref w_BOTH)) (Sw_HORIZONTAL : Sta Z h0 "com/example/tandemscroll/tandemscroll/Axes" "HORIZONTAL" "Lcom/example/tandemscroll/tandemscroll/Axes;" (.ref w_HORIZONTAL)) (Sw_VERTICAL : Sta Z h0 "com/example/tandemscroll/tandemscroll/Axes" "VERTICAL" "Lcom/example/tandemscroll/tandemscroll/Axes;" (.ref w_VERTICAL)) (Sw_NONE : Sta Z h0 "com/example/tandemscroll/tandemscroll/Axes" "NONE" "Lcom/example/tandemscroll/tandemscroll/Axes;" (.ref w_NONE)) (Ew_BOTH : Exa Z h0 w_BOTH "com/example/tandemscroll/tandemscroll/Axes") (Ew_HORIZONTAL : Exa Z h0 w_HORIZONTAL "com/example/tandemscroll/tandemscroll/Axes") (Ew_VERTICAL : Exa Z h0 w_VERTICAL "com/example/tandemscroll/tandemscroll/Axes") (Ew_NONE : Exa Z h0 w_NONE "com/example/tandemscroll/tandemscroll/Axes") (Fw_BOTH_flags : Fld Z h0 w_BOTH "com/example/tandemscroll/tandemscroll/Axes" "flags" "I" (.int (3 : Int32))) (Fw_HORIZONTAL_flags : Fld Z h0 w_HORIZONTAL "com/example/tandemscroll/tandemscroll/Axes" "flags" "I" (.int (1 : Int32))) (Fw_VERTICAL_flags : Fld Z h0 w_VERTICAL "com/example/tandemscroll/tandemscroll/Axes" "flags" "I" (.int (2 : Int32))) (Fw_NONE_flags : Fld Z h0 w_NONE "com/example/tandemscroll/tandemscroll/Axes" "flags" "I" (.int (0 : Int32))) (x2 : Int32) (x3 : Int32)
    (Bd : BodyLoose p l x (head1 (Jvm.Cond.code x code maxLocals ret :: ws) room_1) code maxLocals ret e s m #[(.int p0), (.int p1)] below meth c s₁) (hml : c.maxLocals = 7) (hZ : Z.Warmed39 s.vm) (T0 : State) (X0 : Stand p l e room_1 s m #[(.int p0), (.int p1)] below meth c T0 [] 0 0) (e0 : T0.heap = h0) :
    own_Go p e below s room_1.cells room_1.slots (some (.int (f0_24 p0 p1 w_BOTH w_HORIZONTAL w_VERTICAL w_NONE x2 x3))) (own_K0 h0) (T0.setTop (mkF m 24 #[.val (.int p0), .val (.int p1), .val (.int x2), .val (.int x3), .unset, .unset, .unset] [])) := by
  have hx := Bd.exec
  have hby := Bd.bytes
  have hown : s.vm.findClass "com/example/tandemscroll/tandemscroll/AxesOfPinLaw" = some m.cls := findClass_of_methodNamed Bd.named
  unfold f0_24
  refine own_pre (F' := T0.setTop (mkF m 25 #[.val (.int p0), .val (.int p1), .val (.int x2), .val (.int x3), .unset, .unset, .unset] [(.int x2)])) (fun _ k => XS.iloadN X0.here hx rfl (hb hby at_24) rfl k) ?_
  refine own_pre (F' := T0.setTop (mkF m 26 #[.val (.int p0), .val (.int p1), .val (.int x2), .val (.int x3), .unset, .unset, .unset] [(.int x3), (.int x2)])) (fun _ k => XS.iloadN X0.here hx rfl (hb hby at_25) rfl k) ?_
  obtain ⟨_, _, ⟨T1, L', k', n'⟩, -, X'', ⟨Lc', hQ', l', y', z'⟩, st'⟩ := Jvm.LawKit.callS X0 hx (y := (⟨"com/example/tandemscroll/tandemscroll/Axes", "of", "(ZZ)Lcom/example/tandemscroll/tandemscroll/Axes;"⟩ : MethodName)) hown (mvT hZ (hw _ (List.mem_of_getElem? (i := 0) rfl))) (mvT hZ (hw _ (List.mem_of_getElem? (i := 1) rfl))) (mvT hZ (hw _ (List.mem_of_getElem? (i := 2) rfl))) (mvT hZ (hw _ (List.mem_of_getElem? (i := 3) rfl))) (by decide) (backOf (W := 0) (rm1 l Z aw hw [] x2 x3 w_BOTH w_HORIZONTAL w_VERTICAL w_NONE h0 Sw_BOTH Sw_HORIZONTAL Sw_VERTICAL Sw_NONE) hZ (hw _ (List.mem_of_getElem? (i := 3) rfl)) (hw _ (List.mem_of_getElem? (i := 2) rfl)) (by decide) (by decide)) (g := (mkF m 26 #[.val (.int p0), .val (.int p1), .val (.int x2), .val (.int x3), .unset, .unset, .unset] [(.int x3), (.int x2)])) rfl (by rw [hml]; rfl) (argsL := [(.int x2), (.int x3)]) (rest := []) (lenOf own_pd0 rfl) rfl (by show 2 * 0 + _ ≤ _; exact Nat.le_of_eq rfl) (hb hby at_26) (fun _ _ => ⟨rfl, e0, (by decide : 0 + 0 ≤ _), (by decide : 0 + 0 ≤ _)⟩)
  dsimp only [Pt.U, Pt.locs, Pt.cells, Pt.slots] at X'' l' y' z' st' hQ'
  subst l' y' z'
  obtain ⟨rfl, rfl, e1⟩ := hQ'
  have X1 : Stand p l e room_1 s m #[(.int p0), (.int p1)] below meth c T1 [] 0 0 := X''
  refine own_pre (F' := T1.setTop (mkF m 29 #[.val (.int p0), .val (.int p1), .val (.int x2), .val (.int x3), .unset, .unset, .unset] [(.ref (f1_0 x2 x3 w_BOTH w_HORIZONTAL w_VERTICAL w_NONE))])) (fun t k => st' t k) ?_
  refine own_pre (F' := T1.setTop (mkF m 31 #[.val (.int p0), .val (.int p1), .val (.int x2), .val (.int x3), .val (.ref (f1_0 x2 x3 w_BOTH w_HORIZONTAL w_VERTICAL w_NONE)), .unset, .unset] [])) (fun _ k => XS.astore X1.here hx rfl (hb hby at_29) rfl rfl (l' := #[.val (.int p0), .val (.int p1), .val (.int x2), .val (.int x3), .val (.ref (f1_0 x2 x3 w_BOTH w_HORIZONTAL w_VERTICAL w_NONE)), .unset, .unset]) rfl k) ?_
  refine own_pre (F' := T1.setTop (mkF m 33 #[.val (.int p0), .val (.int p1), .val (.int x2), .val (.int x3), .val (.ref (f1_0 x2 x3 w_BOTH w_HORIZONTAL w_VERTICAL w_NONE)), .unset, .unset] [(.ref (f1_0 x2 x3 w_BOTH w_HORIZONTAL w_VERTICAL w_NONE))])) (fun _ k => XS.aload X1.here hx rfl (hb hby at_31) rfl rfl k) ?_
  obtain ⟨T2, X2, e2, st'⟩ := getS2 X1 hx hZ hown (host := "") (Or.inl (hw _ (List.mem_of_getElem? (i := 6) rfl))) Via.refl e1 Sw_HORIZONTAL (g := (mkF m 33 #[.val (.int p0), .val (.int p1), .val (.int x2), .val (.int x3), .val (.ref (f1_0 x2 x3 w_BOTH w_HORIZONTAL w_VERTICAL w_NONE)), .unset, .unset] [(.ref (f1_0 x2 x3 w_BOTH w_HORIZONTAL w_VERTICAL w_NONE))])) rfl (hb hby at_33)
  refine own_pre (F' := T2.setTop (mkF m 36 #[.val (.int p0), .val (.int p1), .val (.int x2), .val (.int x3), .val (.ref (f1_0 x2 x3 w_BOTH w_HORIZONTAL w_VERTICAL w_NONE)), .unset, .unset] [(.ref w_HORIZONTAL), (.ref (f1_0 x2 x3 w_BOTH w_HORIZONTAL w_VERTICAL w_NONE))])) (fun t k => st' t k) ?_
  obtain ⟨cq', kq', qa', qb', qc'⟩ := isOf hZ e2 (own_exa _ _ w_BOTH w_HORIZONTAL w_VERTICAL w_NONE Ew_BOTH Ew_HORIZONTAL Ew_VERTICAL Ew_NONE)
  obtain ⟨_, _, ⟨T3, L', k', n'⟩, -, X'', ⟨Lc', hQ', l', y', z'⟩, st'⟩ := X2.virtualBack hx (y := (⟨"com/example/tandemscroll/tandemscroll/Axes", "includes", "(Lcom/example/tandemscroll/tandemscroll/Axes;)Z"⟩ : MethodName)) (z := (⟨"com/example/tandemscroll/tandemscroll/Axes", "includes", "(Lcom/example/tandemscroll/tandemscroll/Axes;)Z"⟩ : MethodName)) hown (mvT hZ (hw _ (List.mem_of_getElem? (i := 8) rfl))) (mvT hZ (hw _ (List.mem_of_getElem? (i := 9) rfl))) (notFace_of_selects (args := #[]) (mvT hZ (hw _ (List.mem_of_getElem? (i := 11) rfl)))) (mvT hZ (hw _ (List.mem_of_getElem? (i := 11) rfl))) (mvT hZ (hw _ (List.mem_of_getElem? (i := 10) rfl))) (by decide) (backOf (W := 0) (rm2 l Z aw hw [] (f1_0 x2 x3 w_BOTH w_HORIZONTAL w_VERTICAL w_NONE) w_HORIZONTAL (own_flag x2 x3) (1 : Int32) h0 (own_fld _ _ w_BOTH w_HORIZONTAL w_VERTICAL w_NONE Fw_BOTH_flags Fw_HORIZONTAL_flags Fw_VERTICAL_flags Fw_NONE_flags) Fw_HORIZONTAL_flags) hZ (hw _ (List.mem_of_getElem? (i := 12) rfl)) (hw _ (List.mem_of_getElem? (i := 2) rfl)) (by decide) (by decide)) qa' qc' (g := (mkF m 36 #[.val (.int p0), .val (.int p1), .val (.int x2), .val (.int x3), .val (.ref (f1_0 x2 x3 w_BOTH w_HORIZONTAL w_VERTICAL w_NONE)), .unset, .unset] [(.ref w_HORIZONTAL), (.ref (f1_0 x2 x3 w_BOTH w_HORIZONTAL w_VERTICAL w_NONE))])) rfl (by rw [hml]; rfl) (Steps.refl _) (argsL := [(.ref w_HORIZONTAL)]) (rest := []) (lenOf own_pd1 rfl) rfl (by show 2 * 0 + _ ≤ _; exact Nat.le_of_eq rfl) (hb hby at_36) (fun _ _ => ⟨rfl, e2, (by decide : 0 + 0 ≤ _), (by decide : 0 + 0 ≤ _)⟩)
  dsimp only [Pt.U, Pt.locs, Pt.cells, Pt.slots] at X'' l' y' z' st' hQ'
  subst l' y' z'
  obtain ⟨rfl, rfl, e3⟩ := hQ'
  have X3 : Stand p l e room_1 s m #[(.int p0), (.int p1)] below meth c T3 [] 0 0 := X''
  refine own_pre (F' := T3.setTop (mkF m 39 #[.val (.int p0), .val (.int p1), .val (.int x2), .val (.int x3), .val (.ref (f1_0 x2 x3 w_BOTH w_HORIZONTAL w_VERTICAL w_NONE)), .unset, .unset] [(.int (f2_0 (f1_0 x2 x3 w_BOTH w_HORIZONTAL w_VERTICAL w_NONE) w_HORIZONTAL (own_flag x2 x3) (1 : Int32)))])) (fun t k => st'.trans k) ?_
  refine own_pre (F' := T3.setTop (mkF m 41 #[.val (.int p0), .val (.int p1), .val (.int x2), .val (.int x3), .val (.ref (f1_0 x2 x3 w_BOTH w_HORIZONTAL w_VERTICAL w_NONE)), .val (.int (f2_0 (f1_0 x2 x3 w_BOTH w_HORIZONTAL w_VERTICAL w_NONE) w_HORIZONTAL (own_flag x2 x3) (1 : Int32))), .unset] [])) (fun _ k => XS.istore X3.here hx rfl (hb hby at_39) rfl (l' := #[.val (.int p0), .val (.int p1), .val (.int x2), .val (.int x3), .val (.ref (f1_0 x2 x3 w_BOTH w_HORIZONTAL w_VERTICAL w_NONE)), .val (.int (f2_0 (f1_0 x2 x3 w_BOTH w_HORIZONTAL w_VERTICAL w_NONE) w_HORIZONTAL (own_flag x2 x3) (1 : Int32))), .unset]) rfl k) ?_
  refine own_pre (F' := T3.setTop (mkF m 43 #[.val (.int p0), .val (.int p1), .val (.int x2), .val (.int x3), .val (.ref (f1_0 x2 x3 w_BOTH w_HORIZONTAL w_VERTICAL w_NONE)), .val (.int (f2_0 (f1_0 x2 x3 w_BOTH w_HORIZONTAL w_VERTICAL w_NONE) w_HORIZONTAL (own_flag x2 x3) (1 : Int32))), .unset] [(.ref (f1_0 x2 x3 w_BOTH w_HORIZONTAL w_VERTICAL w_NONE))])) (fun _ k => XS.aload X3.here hx rfl (hb hby at_41) rfl rfl k) ?_
  obtain ⟨T4, X4, e4, st'⟩ := getS2 X3 hx hZ hown (host := "") (Or.inl (hw _ (List.mem_of_getElem? (i := 15) rfl))) Via.refl e3 Sw_VERTICAL (g := (mkF m 43 #[.val (.int p0), .val (.int p1), .val (.int x2), .val (.int x3), .val (.ref (f1_0 x2 x3 w_BOTH w_HORIZONTAL w_VERTICAL w_NONE)), .val (.int (f2_0 (f1_0 x2 x3 w_BOTH w_HORIZONTAL w_VERTICAL w_NONE) w_HORIZONTAL (own_flag x2 x3) (1 : Int32))), .unset] [(.ref (f1_0 x2 x3 w_BOTH w_HORIZONTAL w_VERTICAL w_NONE))])) rfl (hb hby at_43)
  refine own_pre (F' := T4.setTop (mkF m 46 #[.val (.int p0), .val (.int p1), .val (.int x2), .val (.int x3), .val (.ref (f1_0 x2 x3 w_BOTH w_HORIZONTAL w_VERTICAL w_NONE)), .val (.int (f2_0 (f1_0 x2 x3 w_BOTH w_HORIZONTAL w_VERTICAL w_NONE) w_HORIZONTAL (own_flag x2 x3) (1 : Int32))), .unset] [(.ref w_VERTICAL), (.ref (f1_0 x2 x3 w_BOTH w_HORIZONTAL w_VERTICAL w_NONE))])) (fun t k => st' t k) ?_
  obtain ⟨cq', kq', qa', qb', qc'⟩ := isOf hZ e4 (own_exa _ _ w_BOTH w_HORIZONTAL w_VERTICAL w_NONE Ew_BOTH Ew_HORIZONTAL Ew_VERTICAL Ew_NONE)
  obtain ⟨_, _, ⟨T5, L', k', n'⟩, -, X'', ⟨Lc', hQ', l', y', z'⟩, st'⟩ := X4.virtualBack hx (y := (⟨"com/example/tandemscroll/tandemscroll/Axes", "includes", "(Lcom/example/tandemscroll/tandemscroll/Axes;)Z"⟩ : MethodName)) (z := (⟨"com/example/tandemscroll/tandemscroll/Axes", "includes", "(Lcom/example/tandemscroll/tandemscroll/Axes;)Z"⟩ : MethodName)) hown (mvT hZ (hw _ (List.mem_of_getElem? (i := 8) rfl))) (mvT hZ (hw _ (List.mem_of_getElem? (i := 9) rfl))) (notFace_of_selects (args := #[]) (mvT hZ (hw _ (List.mem_of_getElem? (i := 11) rfl)))) (mvT hZ (hw _ (List.mem_of_getElem? (i := 11) rfl))) (mvT hZ (hw _ (List.mem_of_getElem? (i := 10) rfl))) (by decide) (backOf (W := 0) (rm2 l Z aw hw [] (f1_0 x2 x3 w_BOTH w_HORIZONTAL w_VERTICAL w_NONE) w_VERTICAL (own_flag x2 x3) (2 : Int32) h0 (own_fld _ _ w_BOTH w_HORIZONTAL w_VERTICAL w_NONE Fw_BOTH_flags Fw_HORIZONTAL_flags Fw_VERTICAL_flags Fw_NONE_flags) Fw_VERTICAL_flags) hZ (hw _ (List.mem_of_getElem? (i := 12) rfl)) (hw _ (List.mem_of_getElem? (i := 2) rfl)) (by decide) (by decide)) qa' qc' (g := (mkF m 46 #[.val (.int p0), .val (.int p1), .val (.int x2), .val (.int x3), .val (.ref (f1_0 x2 x3 w_BOTH w_HORIZONTAL w_VERTICAL w_NONE)), .val (.int (f2_0 (f1_0 x2 x3 w_BOTH w_HORIZONTAL w_VERTICAL w_NONE) w_HORIZONTAL (own_flag x2 x3) (1 : Int32))), .unset] [(.ref w_VERTICAL), (.ref (f1_0 x2 x3 w_BOTH w_HORIZONTAL w_VERTICAL w_NONE))])) rfl (by rw [hml]; rfl) (Steps.refl _) (argsL := [(.ref w_VERTICAL)]) (rest := []) (lenOf own_pd1 rfl) rfl (by show 2 * 0 + _ ≤ _; exact Nat.le_of_eq rfl) (hb hby at_46) (fun _ _ => ⟨rfl, e4, (by decide : 0 + 0 ≤ _), (by decide : 0 + 0 ≤ _)⟩)
  dsimp only [Pt.U, Pt.locs, Pt.cells, Pt.slots] at X'' l' y' z' st' hQ'
  subst l' y' z'
  obtain ⟨rfl, rfl, e5⟩ := hQ'
  have X5 : Stand p l e room_1 s m #[(.int p0), (.int p1)] below meth c T5 [] 0 0 := X''
  refine own_pre (F' := T5.setTop (mkF m 49 #[.val (.int p0), .val (.int p1), .val (.int x2), .val (.int x3), .val (.ref (f1_0 x2 x3 w_BOTH w_HORIZONTAL w_VERTICAL w_NONE)), .val (.int (f2_0 (f1_0 x2 x3 w_BOTH w_HORIZONTAL w_VERTICAL w_NONE) w_HORIZONTAL (own_flag x2 x3) (1 : Int32))), .unset] [(.int (f2_0 (f1_0 x2 x3 w_BOTH w_HORIZONTAL w_VERTICAL w_NONE) w_VERTICAL (own_flag x2 x3) (2 : Int32)))])) (fun t k => st'.trans k) ?_
  refine own_pre (F' := T5.setTop (mkF m 51 #[.val (.int p0), .val (.int p1), .val (.int x2), .val (.int x3), .val (.ref (f1_0 x2 x3 w_BOTH w_HORIZONTAL w_VERTICAL w_NONE)), .val (.int (f2_0 (f1_0 x2 x3 w_BOTH w_HORIZONTAL w_VERTICAL w_NONE) w_HORIZONTAL (own_flag x2 x3) (1 : Int32))), .val (.int (f2_0 (f1_0 x2 x3 w_BOTH w_HORIZONTAL w_VERTICAL w_NONE) w_VERTICAL (own_flag x2 x3) (2 : Int32)))] [])) (fun _ k => XS.istore X5.here hx rfl (hb hby at_49) rfl (l' := #[.val (.int p0), .val (.int p1), .val (.int x2), .val (.int x3), .val (.ref (f1_0 x2 x3 w_BOTH w_HORIZONTAL w_VERTICAL w_NONE)), .val (.int (f2_0 (f1_0 x2 x3 w_BOTH w_HORIZONTAL w_VERTICAL w_NONE) w_HORIZONTAL (own_flag x2 x3) (1 : Int32))), .val (.int (f2_0 (f1_0 x2 x3 w_BOTH w_HORIZONTAL w_VERTICAL w_NONE) w_VERTICAL (own_flag x2 x3) (2 : Int32)))]) rfl k) ?_
  refine own_pre (F' := T5.setTop (mkF m 53 #[.val (.int p0), .val (.int p1), .val (.int x2), .val (.int x3), .val (.ref (f1_0 x2 x3 w_BOTH w_HORIZONTAL w_VERTICAL w_NONE)), .val (.int (f2_0 (f1_0 x2 x3 w_BOTH w_HORIZONTAL w_VERTICAL w_NONE) w_HORIZONTAL (own_flag x2 x3) (1 : Int32))), .val (.int (f2_0 (f1_0 x2 x3 w_BOTH w_HORIZONTAL w_VERTICAL w_NONE) w_VERTICAL (own_flag x2 x3) (2 : Int32)))] [(.int (f2_0 (f1_0 x2 x3 w_BOTH w_HORIZONTAL w_VERTICAL w_NONE) w_HORIZONTAL (own_flag x2 x3) (1 : Int32)))])) (fun _ k => XS.iload X5.here hx rfl (hb hby at_51) rfl k) ?_
  refine own_pre (F' := T5.setTop (mkF m 54 #[.val (.int p0), .val (.int p1), .val (.int x2), .val (.int x3), .val (.ref (f1_0 x2 x3 w_BOTH w_HORIZONTAL w_VERTICAL w_NONE)), .val (.int (f2_0 (f1_0 x2 x3 w_BOTH w_HORIZONTAL w_VERTICAL w_NONE) w_HORIZONTAL (own_flag x2 x3) (1 : Int32))), .val (.int (f2_0 (f1_0 x2 x3 w_BOTH w_HORIZONTAL w_VERTICAL w_NONE) w_VERTICAL (own_flag x2 x3) (2 : Int32)))] [(.int x2), (.int (f2_0 (f1_0 x2 x3 w_BOTH w_HORIZONTAL w_VERTICAL w_NONE) w_HORIZONTAL (own_flag x2 x3) (1 : Int32)))])) (fun _ k => XS.iloadN X5.here hx rfl (hb hby at_53) rfl k) ?_
  refine own_iteI (fun hc54 => ?_) (fun hc54 => ?_)
  · skip
    refine own_pre (F' := T5.setTop (mkF m 57 #[.val (.int p0), .val (.int p1), .val (.int x2), .val (.int x3), .val (.ref (f1_0 x2 x3 w_BOTH w_HORIZONTAL w_VERTICAL w_NONE)), .val (.int (f2_0 (f1_0 x2 x3 w_BOTH w_HORIZONTAL w_VERTICAL w_NONE) w_HORIZONTAL (own_flag x2 x3) (1 : Int32))), .val (.int (f2_0 (f1_0 x2 x3 w_BOTH w_HORIZONTAL w_VERTICAL w_NONE) w_VERTICAL (own_flag x2 x3) (2 : Int32)))] [])) (fun _ k => XS.icmpNo X5.here hx rfl (hb hby at_54) rfl (teq hc54).2 k) ?_
    refine own_pre (F' := T5.setTop (mkF m 59 #[.val (.int p0), .val (.int p1), .val (.int x2), .val (.int x3), .val (.ref (f1_0 x2 x3 w_BOTH w_HORIZONTAL w_VERTICAL w_NONE)), .val (.int (f2_0 (f1_0 x2 x3 w_BOTH w_HORIZONTAL w_VERTICAL w_NONE) w_HORIZONTAL (own_flag x2 x3) (1 : Int32))), .val (.int (f2_0 (f1_0 x2 x3 w_BOTH w_HORIZONTAL w_VERTICAL w_NONE) w_VERTICAL (own_flag x2 x3) (2 : Int32)))] [(.int (f2_0 (f1_0 x2 x3 w_BOTH w_HORIZONTAL w_VERTICAL w_NONE) w_VERTICAL (own_flag x2 x3) (2 : Int32)))])) (fun _ k => XS.iload X5.here hx rfl (hb hby at_57) rfl k) ?_
    refine own_pre (F' := T5.setTop (mkF m 60 #[.val (.int p0), .val (.int p1), .val (.int x2), .val (.int x3), .val (.ref (f1_0 x2 x3 w_BOTH w_HORIZONTAL w_VERTICAL w_NONE)), .val (.int (f2_0 (f1_0 x2 x3 w_BOTH w_HORIZONTAL w_VERTICAL w_NONE) w_HORIZONTAL (own_flag x2 x3) (1 : Int32))), .val (.int (f2_0 (f1_0 x2 x3 w_BOTH w_HORIZONTAL w_VERTICAL w_NONE) w_VERTICAL (own_flag x2 x3) (2 : Int32)))] [(.int x3), (.int (f2_0 (f1_0 x2 x3 w_BOTH w_HORIZONTAL w_VERTICAL w_NONE) w_VERTICAL (own_flag x2 x3) (2 : Int32)))])) (fun _ k => XS.iloadN X5.here hx rfl (hb hby at_59) rfl k) ?_
    refine own_iteI (fun hc60 => ?_) (fun hc60 => ?_)
    · skip
      refine own_pre (F' := T5.setTop (mkF m 63 #[.val (.int p0), .val (.int p1), .val (.int x2), .val (.int x3), .val (.ref (f1_0 x2 x3 w_BOTH w_HORIZONTAL w_VERTICAL w_NONE)), .val (.int (f2_0 (f1_0 x2 x3 w_BOTH w_HORIZONTAL w_VERTICAL w_NONE) w_HORIZONTAL (own_flag x2 x3) (1 : Int32))), .val (.int (f2_0 (f1_0 x2 x3 w_BOTH w_HORIZONTAL w_VERTICAL w_NONE) w_VERTICAL (own_flag x2 x3) (2 : Int32)))] [])) (fun _ k => XS.icmpNo X5.here hx rfl (hb hby at_60) rfl (teq hc60).2 k) ?_
      refine own_pre (F' := T5.setTop (mkF m 64 #[.val (.int p0), .val (.int p1), .val (.int x2), .val (.int x3), .val (.ref (f1_0 x2 x3 w_BOTH w_HORIZONTAL w_VERTICAL w_NONE)), .val (.int (f2_0 (f1_0 x2 x3 w_BOTH w_HORIZONTAL w_VERTICAL w_NONE) w_HORIZONTAL (own_flag x2 x3) (1 : Int32))), .val (.int (f2_0 (f1_0 x2 x3 w_BOTH w_HORIZONTAL w_VERTICAL w_NONE) w_VERTICAL (own_flag x2 x3) (2 : Int32)))] [(.int (1 : Int32))])) (fun _ k => XS.iconst X5.here hx rfl (hb hby at_63) k) ?_
      refine own_pre (F' := T5.setTop (mkF m 68 #[.val (.int p0), .val (.int p1), .val (.int x2), .val (.int x3), .val (.ref (f1_0 x2 x3 w_BOTH w_HORIZONTAL w_VERTICAL w_NONE)), .val (.int (f2_0 (f1_0 x2 x3 w_BOTH w_HORIZONTAL w_VERTICAL w_NONE) w_HORIZONTAL (own_flag x2 x3) (1 : Int32))), .val (.int (f2_0 (f1_0 x2 x3 w_BOTH w_HORIZONTAL w_VERTICAL w_NONE) w_VERTICAL (own_flag x2 x3) (2 : Int32)))] [(.int (1 : Int32))])) (fun _ k => XS.goto X5.here hx rfl (pc0 := 64) (pc' := 68) rfl (hb hby at_64) (by decide) (by decide) k) ?_
      exact own_ret X5 hx Bd.notSynchronized Bd.returns rfl (Or.inl ⟨rfl, by simp, _, rfl⟩) (hb hby at_68) ⟨rfl, e5⟩ (by decide) (by decide)
    · skip
      refine own_pre (F' := T5.setTop (mkF m 67 #[.val (.int p0), .val (.int p1), .val (.int x2), .val (.int x3), .val (.ref (f1_0 x2 x3 w_BOTH w_HORIZONTAL w_VERTICAL w_NONE)), .val (.int (f2_0 (f1_0 x2 x3 w_BOTH w_HORIZONTAL w_VERTICAL w_NONE) w_HORIZONTAL (own_flag x2 x3) (1 : Int32))), .val (.int (f2_0 (f1_0 x2 x3 w_BOTH w_HORIZONTAL w_VERTICAL w_NONE) w_VERTICAL (own_flag x2 x3) (2 : Int32)))] [])) (fun _ k => XS.icmpYes X5.here hx rfl (pc0 := 60) (pc' := 67) rfl (hb hby at_60) rfl (feq hc60).2 (by decide) (by decide) k) ?_
      exact g0_67 hw p0 p1 w_BOTH w_HORIZONTAL w_VERTICAL w_NONE Sw_BOTH Sw_HORIZONTAL Sw_VERTICAL Sw_NONE Ew_BOTH Ew_HORIZONTAL Ew_VERTICAL Ew_NONE Fw_BOTH_flags Fw_HORIZONTAL_flags Fw_VERTICAL_flags Fw_NONE_flags x2 x3 (f1_0 x2 x3 w_BOTH w_HORIZONTAL w_VERTICAL w_NONE) (f2_0 (f1_0 x2 x3 w_BOTH w_HORIZONTAL w_VERTICAL w_NONE) w_HORIZONTAL (own_flag x2 x3) (1 : Int32)) (f2_0 (f1_0 x2 x3 w_BOTH w_HORIZONTAL w_VERTICAL w_NONE) w_VERTICAL (own_flag x2 x3) (2 : Int32)) Bd hml hZ T5 X5 e5
  · skip
    refine own_pre (F' := T5.setTop (mkF m 67 #[.val (.int p0), .val (.int p1), .val (.int x2), .val (.int x3), .val (.ref (f1_0 x2 x3 w_BOTH w_HORIZONTAL w_VERTICAL w_NONE)), .val (.int (f2_0 (f1_0 x2 x3 w_BOTH w_HORIZONTAL w_VERTICAL w_NONE) w_HORIZONTAL (own_flag x2 x3) (1 : Int32))), .val (.int (f2_0 (f1_0 x2 x3 w_BOTH w_HORIZONTAL w_VERTICAL w_NONE) w_VERTICAL (own_flag x2 x3) (2 : Int32)))] [])) (fun _ k => XS.icmpYes X5.here hx rfl (pc0 := 54) (pc' := 67) rfl (hb hby at_54) rfl (feq hc54).2 (by decide) (by decide) k) ?_
    exact g0_67 hw p0 p1 w_BOTH w_HORIZONTAL w_VERTICAL w_NONE Sw_BOTH Sw_HORIZONTAL Sw_VERTICAL Sw_NONE Ew_BOTH Ew_HORIZONTAL Ew_VERTICAL Ew_NONE Fw_BOTH_flags Fw_HORIZONTAL_flags Fw_VERTICAL_flags Fw_NONE_flags x2 x3 (f1_0 x2 x3 w_BOTH w_HORIZONTAL w_VERTICAL w_NONE) (f2_0 (f1_0 x2 x3 w_BOTH w_HORIZONTAL w_VERTICAL w_NONE) w_HORIZONTAL (own_flag x2 x3) (1 : Int32)) (f2_0 (f1_0 x2 x3 w_BOTH w_HORIZONTAL w_VERTICAL w_NONE) w_VERTICAL (own_flag x2 x3) (2 : Int32)) Bd hml hZ T5 X5 e5
def f0_23 (p0 : Int32) (p1 : Int32) (w_BOTH : Addr) (w_HORIZONTAL : Addr) (w_VERTICAL : Addr) (w_NONE : Addr) (x2 : Int32) (y0 : Int32) : Int32 := (f0_24 p0 p1 w_BOTH w_HORIZONTAL w_VERTICAL w_NONE x2 y0)
set_option maxRecDepth 65536 in
set_option maxHeartbeats 40000000 in
theorem g0_23 {p : Program} {l : Launch} {e : Env} {s : State} {m : MethodId} {below : List Frame} {meth : Method} {c : Code} {s₁ : State} {ws : List Jvm.Cond} {Z : State} {aw : Array Value} (hw : ∀ d ∈ tables_1, d.before aw Z = true) {h0 : Heap} (p0 : Int32) (p1 : Int32) (w_BOTH : Addr) (w_HORIZONTAL : Addr) (w_VERTICAL : Addr) (w_NONE : Addr) (Sw_BOTH : Sta Z h0 "com/example/tandemscroll/tandemscroll/Axes" "BOTH" "Lcom/example/tandemscroll/tandemscroll/Axes;" (.ref w_BOTH)) (Sw_HORIZONTAL : Sta Z h0 "com/example/tandemscroll/tandemscroll/Axes" "HORIZONTAL" "Lcom/example/tandemscroll/tandemscroll/Axes;" (.ref w_HORIZONTAL)) (Sw_VERTICAL : Sta Z h0 "com/example/tandemscroll/tandemscroll/Axes" "VERTICAL" "Lcom/example/tandemscroll/tandemscroll/Axes;" (.ref w_VERTICAL)) (Sw_NONE : Sta Z h0 "com/example/tandemscroll/tandemscroll/Axes" "NONE" "Lcom/example/tandemscroll/tandemscroll/Axes;" (.ref w_NONE)) (Ew_BOTH : Exa Z h0 w_BOTH "com/example/tandemscroll/tandemscroll/Axes") (Ew_HORIZONTAL : Exa Z h0 w_HORIZONTAL "com/example/tandemscroll/tandemscroll/Axes") (Ew_VERTICAL : Exa Z h0 w_VERTICAL "com/example/tandemscroll/tandemscroll/Axes") (Ew_NONE : Exa Z h0 w_NONE "com/example/tandemscroll/tandemscroll/Axes") (Fw_BOTH_flags : Fld Z h0 w_BOTH "com/example/tandemscroll/tandemscroll/Axes" "flags" "I" (.int (3 : Int32))) (Fw_HORIZONTAL_flags : Fld Z h0 w_HORIZONTAL "com/example/tandemscroll/tandemscroll/Axes" "flags" "I" (.int (1 : Int32))) (Fw_VERTICAL_flags : Fld Z h0 w_VERTICAL "com/example/tandemscroll/tandemscroll/Axes" "flags" "I" (.int (2 : Int32))) (Fw_NONE_flags : Fld Z h0 w_NONE "com/example/tandemscroll/tandemscroll/Axes" "flags" "I" (.int (0 : Int32))) (x2 : Int32) (y0 : Int32)
    (Bd : BodyLoose p l x (head1 (Jvm.Cond.code x code maxLocals ret :: ws) room_1) code maxLocals ret e s m #[(.int p0), (.int p1)] below meth c s₁) (hml : c.maxLocals = 7) (hZ : Z.Warmed39 s.vm) (T0 : State) (X0 : Stand p l e room_1 s m #[(.int p0), (.int p1)] below meth c T0 [] 0 0) (e0 : T0.heap = h0) :
    own_Go p e below s room_1.cells room_1.slots (some (.int (f0_23 p0 p1 w_BOTH w_HORIZONTAL w_VERTICAL w_NONE x2 y0))) (own_K0 h0) (T0.setTop (mkF m 23 #[.val (.int p0), .val (.int p1), .val (.int x2), .unset, .unset, .unset, .unset] [(.int y0)])) := by
  have hx := Bd.exec
  have hby := Bd.bytes
  have hown : s.vm.findClass "com/example/tandemscroll/tandemscroll/AxesOfPinLaw" = some m.cls := findClass_of_methodNamed Bd.named
  unfold f0_23
  refine own_pre (F' := T0.setTop (mkF m 24 #[.val (.int p0), .val (.int p1), .val (.int x2), .val (.int y0), .unset, .unset, .unset] [])) (fun _ k => XS.istoreN X0.here hx rfl (hb hby at_23) rfl (l' := #[.val (.int p0), .val (.int p1), .val (.int x2), .val (.int y0), .unset, .unset, .unset]) rfl k) ?_
  exact g0_24 hw p0 p1 w_BOTH w_HORIZONTAL w_VERTICAL w_NONE Sw_BOTH Sw_HORIZONTAL Sw_VERTICAL Sw_NONE Ew_BOTH Ew_HORIZONTAL Ew_VERTICAL Ew_NONE Fw_BOTH_flags Fw_HORIZONTAL_flags Fw_VERTICAL_flags Fw_NONE_flags x2 y0 Bd hml hZ T0 X0 e0
def f0_11 (p0 : Int32) (p1 : Int32) (w_BOTH : Addr) (w_HORIZONTAL : Addr) (w_VERTICAL : Addr) (w_NONE : Addr) (y0 : Int32) : Int32 := (if (p1 &&& (1 : Int32)) = (0 : Int32) then (f0_23 p0 p1 w_BOTH w_HORIZONTAL w_VERTICAL w_NONE y0 (0 : Int32)) else (f0_23 p0 p1 w_BOTH w_HORIZONTAL w_VERTICAL w_NONE y0 (1 : Int32)))
set_option maxRecDepth 65536 in
set_option maxHeartbeats 40000000 in
theorem g0_11 {p : Program} {l : Launch} {e : Env} {s : State} {m : MethodId} {below : List Frame} {meth : Method} {c : Code} {s₁ : State} {ws : List Jvm.Cond} {Z : State} {aw : Array Value} (hw : ∀ d ∈ tables_1, d.before aw Z = true) {h0 : Heap} (p0 : Int32) (p1 : Int32) (w_BOTH : Addr) (w_HORIZONTAL : Addr) (w_VERTICAL : Addr) (w_NONE : Addr) (Sw_BOTH : Sta Z h0 "com/example/tandemscroll/tandemscroll/Axes" "BOTH" "Lcom/example/tandemscroll/tandemscroll/Axes;" (.ref w_BOTH)) (Sw_HORIZONTAL : Sta Z h0 "com/example/tandemscroll/tandemscroll/Axes" "HORIZONTAL" "Lcom/example/tandemscroll/tandemscroll/Axes;" (.ref w_HORIZONTAL)) (Sw_VERTICAL : Sta Z h0 "com/example/tandemscroll/tandemscroll/Axes" "VERTICAL" "Lcom/example/tandemscroll/tandemscroll/Axes;" (.ref w_VERTICAL)) (Sw_NONE : Sta Z h0 "com/example/tandemscroll/tandemscroll/Axes" "NONE" "Lcom/example/tandemscroll/tandemscroll/Axes;" (.ref w_NONE)) (Ew_BOTH : Exa Z h0 w_BOTH "com/example/tandemscroll/tandemscroll/Axes") (Ew_HORIZONTAL : Exa Z h0 w_HORIZONTAL "com/example/tandemscroll/tandemscroll/Axes") (Ew_VERTICAL : Exa Z h0 w_VERTICAL "com/example/tandemscroll/tandemscroll/Axes") (Ew_NONE : Exa Z h0 w_NONE "com/example/tandemscroll/tandemscroll/Axes") (Fw_BOTH_flags : Fld Z h0 w_BOTH "com/example/tandemscroll/tandemscroll/Axes" "flags" "I" (.int (3 : Int32))) (Fw_HORIZONTAL_flags : Fld Z h0 w_HORIZONTAL "com/example/tandemscroll/tandemscroll/Axes" "flags" "I" (.int (1 : Int32))) (Fw_VERTICAL_flags : Fld Z h0 w_VERTICAL "com/example/tandemscroll/tandemscroll/Axes" "flags" "I" (.int (2 : Int32))) (Fw_NONE_flags : Fld Z h0 w_NONE "com/example/tandemscroll/tandemscroll/Axes" "flags" "I" (.int (0 : Int32))) (y0 : Int32)
    (Bd : BodyLoose p l x (head1 (Jvm.Cond.code x code maxLocals ret :: ws) room_1) code maxLocals ret e s m #[(.int p0), (.int p1)] below meth c s₁) (hml : c.maxLocals = 7) (hZ : Z.Warmed39 s.vm) (T0 : State) (X0 : Stand p l e room_1 s m #[(.int p0), (.int p1)] below meth c T0 [] 0 0) (e0 : T0.heap = h0) :
    own_Go p e below s room_1.cells room_1.slots (some (.int (f0_11 p0 p1 w_BOTH w_HORIZONTAL w_VERTICAL w_NONE y0))) (own_K0 h0) (T0.setTop (mkF m 11 #[.val (.int p0), .val (.int p1), .unset, .unset, .unset, .unset, .unset] [(.int y0)])) := by
  have hx := Bd.exec
  have hby := Bd.bytes
  have hown : s.vm.findClass "com/example/tandemscroll/tandemscroll/AxesOfPinLaw" = some m.cls := findClass_of_methodNamed Bd.named
  unfold f0_11
  refine own_pre (F' := T0.setTop (mkF m 12 #[.val (.int p0), .val (.int p1), .val (.int y0), .unset, .unset, .unset, .unset] [])) (fun _ k => XS.istoreN X0.here hx rfl (hb hby at_11) rfl (l' := #[.val (.int p0), .val (.int p1), .val (.int y0), .unset, .unset, .unset, .unset]) rfl k) ?_
  refine own_pre (F' := T0.setTop (mkF m 13 #[.val (.int p0), .val (.int p1), .val (.int y0), .unset, .unset, .unset, .unset] [(.int p1)])) (fun _ k => XS.iloadN X0.here hx rfl (hb hby at_12) rfl k) ?_
  refine own_pre (F' := T0.setTop (mkF m 14 #[.val (.int p0), .val (.int p1), .val (.int y0), .unset, .unset, .unset, .unset] [(.int (1 : Int32)), (.int p1)])) (fun _ k => XS.iconst X0.here hx rfl (hb hby at_13) k) ?_
  refine own_pre (F' := T0.setTop (mkF m 15 #[.val (.int p0), .val (.int p1), .val (.int y0), .unset, .unset, .unset, .unset] [(.int (p1 &&& (1 : Int32)))])) (fun _ k => XS.iand X0.here hx rfl (hb hby at_14) rfl k) ?_
  refine own_iteI (fun hc15 => ?_) (fun hc15 => ?_)
  · skip
    refine own_pre (F' := T0.setTop (mkF m 22 #[.val (.int p0), .val (.int p1), .val (.int y0), .unset, .unset, .unset, .unset] [])) (fun _ k => XS.ifYes X0.here hx rfl (pc0 := 15) (pc' := 22) rfl (hb hby at_15) rfl ((if0 _ _).trans (teq hc15).1) (by decide) (by decide) k) ?_
    refine own_pre (F' := T0.setTop (mkF m 23 #[.val (.int p0), .val (.int p1), .val (.int y0), .unset, .unset, .unset, .unset] [(.int (0 : Int32))])) (fun _ k => XS.iconst X0.here hx rfl (hb hby at_22) k) ?_
    exact g0_23 hw p0 p1 w_BOTH w_HORIZONTAL w_VERTICAL w_NONE Sw_BOTH Sw_HORIZONTAL Sw_VERTICAL Sw_NONE Ew_BOTH Ew_HORIZONTAL Ew_VERTICAL Ew_NONE Fw_BOTH_flags Fw_HORIZONTAL_flags Fw_VERTICAL_flags Fw_NONE_flags y0 (0 : Int32) Bd hml hZ T0 X0 e0
  · skip
    refine own_pre (F' := T0.setTop (mkF m 18 #[.val (.int p0), .val (.int p1), .val (.int y0), .unset, .unset, .unset, .unset] [])) (fun _ k => XS.ifNo X0.here hx rfl (hb hby at_15) rfl ((if0 _ _).trans (feq hc15).1) k) ?_
    refine own_pre (F' := T0.setTop (mkF m 19 #[.val (.int p0), .val (.int p1), .val (.int y0), .unset, .unset, .unset, .unset] [(.int (1 : Int32))])) (fun _ k => XS.iconst X0.here hx rfl (hb hby at_18) k) ?_
    refine own_pre (F' := T0.setTop (mkF m 23 #[.val (.int p0), .val (.int p1), .val (.int y0), .unset, .unset, .unset, .unset] [(.int (1 : Int32))])) (fun _ k => XS.goto X0.here hx rfl (pc0 := 19) (pc' := 23) rfl (hb hby at_19) (by decide) (by decide) k) ?_
    exact g0_23 hw p0 p1 w_BOTH w_HORIZONTAL w_VERTICAL w_NONE Sw_BOTH Sw_HORIZONTAL Sw_VERTICAL Sw_NONE Ew_BOTH Ew_HORIZONTAL Ew_VERTICAL Ew_NONE Fw_BOTH_flags Fw_HORIZONTAL_flags Fw_VERTICAL_flags Fw_NONE_flags y0 (1 : Int32) Bd hml hZ T0 X0 e0
def f0_0 (p0 : Int32) (p1 : Int32) (w_BOTH : Addr) (w_HORIZONTAL : Addr) (w_VERTICAL : Addr) (w_NONE : Addr) : Int32 := (if (p0 &&& (1 : Int32)) = (0 : Int32) then (f0_11 p0 p1 w_BOTH w_HORIZONTAL w_VERTICAL w_NONE (0 : Int32)) else (f0_11 p0 p1 w_BOTH w_HORIZONTAL w_VERTICAL w_NONE (1 : Int32)))
set_option maxRecDepth 65536 in
set_option maxHeartbeats 40000000 in
theorem g0_0 {p : Program} {l : Launch} {e : Env} {s : State} {m : MethodId} {below : List Frame} {meth : Method} {c : Code} {s₁ : State} {ws : List Jvm.Cond} {Z : State} {aw : Array Value} (hw : ∀ d ∈ tables_1, d.before aw Z = true) {h0 : Heap} (p0 : Int32) (p1 : Int32) (w_BOTH : Addr) (w_HORIZONTAL : Addr) (w_VERTICAL : Addr) (w_NONE : Addr) (Sw_BOTH : Sta Z h0 "com/example/tandemscroll/tandemscroll/Axes" "BOTH" "Lcom/example/tandemscroll/tandemscroll/Axes;" (.ref w_BOTH)) (Sw_HORIZONTAL : Sta Z h0 "com/example/tandemscroll/tandemscroll/Axes" "HORIZONTAL" "Lcom/example/tandemscroll/tandemscroll/Axes;" (.ref w_HORIZONTAL)) (Sw_VERTICAL : Sta Z h0 "com/example/tandemscroll/tandemscroll/Axes" "VERTICAL" "Lcom/example/tandemscroll/tandemscroll/Axes;" (.ref w_VERTICAL)) (Sw_NONE : Sta Z h0 "com/example/tandemscroll/tandemscroll/Axes" "NONE" "Lcom/example/tandemscroll/tandemscroll/Axes;" (.ref w_NONE)) (Ew_BOTH : Exa Z h0 w_BOTH "com/example/tandemscroll/tandemscroll/Axes") (Ew_HORIZONTAL : Exa Z h0 w_HORIZONTAL "com/example/tandemscroll/tandemscroll/Axes") (Ew_VERTICAL : Exa Z h0 w_VERTICAL "com/example/tandemscroll/tandemscroll/Axes") (Ew_NONE : Exa Z h0 w_NONE "com/example/tandemscroll/tandemscroll/Axes") (Fw_BOTH_flags : Fld Z h0 w_BOTH "com/example/tandemscroll/tandemscroll/Axes" "flags" "I" (.int (3 : Int32))) (Fw_HORIZONTAL_flags : Fld Z h0 w_HORIZONTAL "com/example/tandemscroll/tandemscroll/Axes" "flags" "I" (.int (1 : Int32))) (Fw_VERTICAL_flags : Fld Z h0 w_VERTICAL "com/example/tandemscroll/tandemscroll/Axes" "flags" "I" (.int (2 : Int32))) (Fw_NONE_flags : Fld Z h0 w_NONE "com/example/tandemscroll/tandemscroll/Axes" "flags" "I" (.int (0 : Int32)))
    (Bd : BodyLoose p l x (head1 (Jvm.Cond.code x code maxLocals ret :: ws) room_1) code maxLocals ret e s m #[(.int p0), (.int p1)] below meth c s₁) (hml : c.maxLocals = 7) (hZ : Z.Warmed39 s.vm) (T0 : State) (X0 : Stand p l e room_1 s m #[(.int p0), (.int p1)] below meth c T0 [] 0 0) (e0 : T0.heap = h0) :
    own_Go p e below s room_1.cells room_1.slots (some (.int (f0_0 p0 p1 w_BOTH w_HORIZONTAL w_VERTICAL w_NONE))) (own_K0 h0) (T0.setTop (mkF m 0 #[.val (.int p0), .val (.int p1), .unset, .unset, .unset, .unset, .unset] [])) := by
  have hx := Bd.exec
  have hby := Bd.bytes
  have hown : s.vm.findClass "com/example/tandemscroll/tandemscroll/AxesOfPinLaw" = some m.cls := findClass_of_methodNamed Bd.named
  unfold f0_0
  refine own_pre (F' := T0.setTop (mkF m 1 #[.val (.int p0), .val (.int p1), .unset, .unset, .unset, .unset, .unset] [(.int p0)])) (fun _ k => XS.iloadN X0.here hx rfl (hb hby at_0) rfl k) ?_
  refine own_pre (F' := T0.setTop (mkF m 2 #[.val (.int p0), .val (.int p1), .unset, .unset, .unset, .unset, .unset] [(.int (1 : Int32)), (.int p0)])) (fun _ k => XS.iconst X0.here hx rfl (hb hby at_1) k) ?_
  refine own_pre (F' := T0.setTop (mkF m 3 #[.val (.int p0), .val (.int p1), .unset, .unset, .unset, .unset, .unset] [(.int (p0 &&& (1 : Int32)))])) (fun _ k => XS.iand X0.here hx rfl (hb hby at_2) rfl k) ?_
  refine own_iteI (fun hc3 => ?_) (fun hc3 => ?_)
  · skip
    refine own_pre (F' := T0.setTop (mkF m 10 #[.val (.int p0), .val (.int p1), .unset, .unset, .unset, .unset, .unset] [])) (fun _ k => XS.ifYes X0.here hx rfl (pc0 := 3) (pc' := 10) rfl (hb hby at_3) rfl ((if0 _ _).trans (teq hc3).1) (by decide) (by decide) k) ?_
    refine own_pre (F' := T0.setTop (mkF m 11 #[.val (.int p0), .val (.int p1), .unset, .unset, .unset, .unset, .unset] [(.int (0 : Int32))])) (fun _ k => XS.iconst X0.here hx rfl (hb hby at_10) k) ?_
    exact g0_11 hw p0 p1 w_BOTH w_HORIZONTAL w_VERTICAL w_NONE Sw_BOTH Sw_HORIZONTAL Sw_VERTICAL Sw_NONE Ew_BOTH Ew_HORIZONTAL Ew_VERTICAL Ew_NONE Fw_BOTH_flags Fw_HORIZONTAL_flags Fw_VERTICAL_flags Fw_NONE_flags (0 : Int32) Bd hml hZ T0 X0 e0
  · skip
    refine own_pre (F' := T0.setTop (mkF m 6 #[.val (.int p0), .val (.int p1), .unset, .unset, .unset, .unset, .unset] [])) (fun _ k => XS.ifNo X0.here hx rfl (hb hby at_3) rfl ((if0 _ _).trans (feq hc3).1) k) ?_
    refine own_pre (F' := T0.setTop (mkF m 7 #[.val (.int p0), .val (.int p1), .unset, .unset, .unset, .unset, .unset] [(.int (1 : Int32))])) (fun _ k => XS.iconst X0.here hx rfl (hb hby at_6) k) ?_
    refine own_pre (F' := T0.setTop (mkF m 11 #[.val (.int p0), .val (.int p1), .unset, .unset, .unset, .unset, .unset] [(.int (1 : Int32))])) (fun _ k => XS.goto X0.here hx rfl (pc0 := 7) (pc' := 11) rfl (hb hby at_7) (by decide) (by decide) k) ?_
    exact g0_11 hw p0 p1 w_BOTH w_HORIZONTAL w_VERTICAL w_NONE Sw_BOTH Sw_HORIZONTAL Sw_VERTICAL Sw_NONE Ew_BOTH Ew_HORIZONTAL Ew_VERTICAL Ew_NONE Fw_BOTH_flags Fw_HORIZONTAL_flags Fw_VERTICAL_flags Fw_NONE_flags (1 : Int32) Bd hml hZ T0 X0 e0
theorem ef_0 (m : MethodId) (p0 : Int32) (p1 : Int32) : entryFrame m #[(.int p0), (.int p1)] maxLocals = mkF m 0 #[.val (.int p0), .val (.int p1), .unset, .unset, .unset, .unset, .unset] [] := by first | (simp [entryFrame, mkF, argsToLocals, Value.category, maxLocals]; done) | rfl
set_option maxRecDepth 65536 in
set_option maxHeartbeats 40000000 in
theorem rm0 (l : Launch) (Z : State) (aw : Array Value) (hw : ∀ d ∈ tables_1, d.before aw Z = true) (ws : List Jvm.Cond) (p0 : Int32) (p1 : Int32) (w_BOTH : Addr) (w_HORIZONTAL : Addr) (w_VERTICAL : Addr) (w_NONE : Addr) (h0 : Heap) (Sw_BOTH : Sta Z h0 "com/example/tandemscroll/tandemscroll/Axes" "BOTH" "Lcom/example/tandemscroll/tandemscroll/Axes;" (.ref w_BOTH)) (Sw_HORIZONTAL : Sta Z h0 "com/example/tandemscroll/tandemscroll/Axes" "HORIZONTAL" "Lcom/example/tandemscroll/tandemscroll/Axes;" (.ref w_HORIZONTAL)) (Sw_VERTICAL : Sta Z h0 "com/example/tandemscroll/tandemscroll/Axes" "VERTICAL" "Lcom/example/tandemscroll/tandemscroll/Axes;" (.ref w_VERTICAL)) (Sw_NONE : Sta Z h0 "com/example/tandemscroll/tandemscroll/Axes" "NONE" "Lcom/example/tandemscroll/tandemscroll/Axes;" (.ref w_NONE)) (Ew_BOTH : Exa Z h0 w_BOTH "com/example/tandemscroll/tandemscroll/Axes") (Ew_HORIZONTAL : Exa Z h0 w_HORIZONTAL "com/example/tandemscroll/tandemscroll/Axes") (Ew_VERTICAL : Exa Z h0 w_VERTICAL "com/example/tandemscroll/tandemscroll/Axes") (Ew_NONE : Exa Z h0 w_NONE "com/example/tandemscroll/tandemscroll/Axes") (Fw_BOTH_flags : Fld Z h0 w_BOTH "com/example/tandemscroll/tandemscroll/Axes" "flags" "I" (.int (3 : Int32))) (Fw_HORIZONTAL_flags : Fld Z h0 w_HORIZONTAL "com/example/tandemscroll/tandemscroll/Axes" "flags" "I" (.int (1 : Int32))) (Fw_VERTICAL_flags : Fld Z h0 w_VERTICAL "com/example/tandemscroll/tandemscroll/Axes" "flags" "I" (.int (2 : Int32))) (Fw_NONE_flags : Fld Z h0 w_NONE "com/example/tandemscroll/tandemscroll/Axes" "flags" "I" (.int (0 : Int32))) :
    MetFree l x (head1 (Jvm.Cond.code x code maxLocals ret :: ws) room_1) (fun a U => a = #[(.int p0), (.int p1)] ∧ Z.Warmed39 U.vm ∧ U.heap = h0) (fun _ _ _ _ _ => True) (fun _ U o U' => ∃ v L, o = .returned v ∧ own_Q (some (.int (f0_0 p0 p1 w_BOTH w_HORIZONTAL w_VERTICAL w_NONE))) (own_K0 h0) v U'.heap L ∧ FrameEnd U o U' L room_1.cells room_1.slots) := by
  refine MetFree.of_bodySF (plainFor_of_name own_pn1) hisR ?_
  intro p e s m args below meth c s₁ Bd hml0 hP hK
  obtain ⟨rfl, hZ, hh⟩ := hP
  have hml : c.maxLocals = 7 := hml0
  have e0 : s₁.heap = h0 := by rw [← hh, Bd.state]; rfl
  exact own_pre (fun t k => castTop (ef_0 m p0 p1) k) (g0_0 hw p0 p1 w_BOTH w_HORIZONTAL w_VERTICAL w_NONE Sw_BOTH Sw_HORIZONTAL Sw_VERTICAL Sw_NONE Ew_BOTH Ew_HORIZONTAL Ew_VERTICAL Ew_NONE Fw_BOTH_flags Fw_HORIZONTAL_flags Fw_VERTICAL_flags Fw_NONE_flags Bd hml hZ s₁ (Stand.of_body Bd) e0)
theorem own_law (a b : Int32) (w_BOTH : Addr) (w_HORIZONTAL : Addr) (w_VERTICAL : Addr) (w_NONE : Addr) : f0_0 a b w_BOTH w_HORIZONTAL w_VERTICAL w_NONE = 1 := by
  have h : ∀ x y : Int32, (x = 0 ∨ x = 1) → (y = 0 ∨ y = 1) → f0_24 a b w_BOTH w_HORIZONTAL w_VERTICAL w_NONE x y = 1 := by
    intro x y hx hy
    rcases hx with rfl | rfl <;> rcases hy with rfl | rfl <;> rfl
  simp only [f0_0, f0_11, f0_23]
  split <;> split <;> exact h _ _ (by decide) (by decide)
set_option maxRecDepth 65536 in
set_option maxHeartbeats 40000000 in
theorem comes_1 {Post : Tables → Env → Array Value → State → Outcome → State → Prop} (hpost : ∀ tb e args s v u, (limb_1_1.after args s (.returned v) u = true ∧ limb_1_2.after args s (.returned v) u = true ∧ True) → FrameEnd s (.returned v) u (Jvm.fieldLocs frame_1_writes args s ++ Jvm.arrayLocs frame_1_arrays args s ++ Jvm.staticLocs frame_1_statics s) 0 0 → Post tb e args s (.returned v) u) :
    ArmFor flags0 classFile x code maxLocals ret World_1 tables_1 room_1 Calls_1 rest_1 Pre_1 Post := by
  intro l hfl _ _ p e ha hc hk s m args below hf hA hF happ hP
  obtain ⟨hcalls, hrest, hpre⟩ := hP
  obtain ⟨-, -, -, hnamed, -, -, -, hat⟩ := (Spec.applies_iff hf).mp happ
  obtain ⟨hg, hn⟩ := and_e (Cond.before_iff.mp (show (Jvm.Cond.and given_1 narrow_1).before args s = true from hpre))
  obtain ⟨g1, g2⟩ := and_e hg
  obtain ⟨g3, g4⟩ := and_e g2
  obtain ⟨w0, w1, rfl⟩ : ∃ w0 w1 : Value, args = #[w0, w1] := by
    have hs : args.size = 2 := by simpa [Cond.value, given_1] using g1
    obtain ⟨L⟩ := args
    match L, hs with
    | [w0, w1], _ => exact ⟨w0, w1, rfl⟩
  have hw := fun d (hd : d ∈ tables_1) => atoms_spec (ws := Jvm.Cond.code x code maxLocals ret :: tables_1) hat d (List.mem_cons_of_mem _ hd)
  have hfit : Fit s := fun {y c} hc i hi => by
    obtain ⟨ha, rfl⟩ := Array.getElem?_eq_some_iff.mp hc
    have q := List.all_eq_true.mp ((Array.all_eq_true_iff_forall_mem.mp hF) _ (Array.getElem_mem ha)) i (List.mem_range.mpr hi)
    simpa [Array.getElem?_eq_getElem hi] using q
  obtain ⟨i0, ei0⟩ := is_v g3
  obtain rfl : w0 = (.int i0) := Option.some.inj ei0
  obtain ⟨i1, ei1⟩ := is_v g4
  obtain rfl : w1 = (.int i1) := Option.some.inj ei1
  obtain ⟨n2, n3⟩ := and_e hn
  obtain ⟨w_VERTICAL, ev_w_VERTICAL⟩ := exa_v n2
  have Ew_VERTICAL := Exa.start ev_w_VERTICAL n2
  have Sw_VERTICAL := Sta.start ev_w_VERTICAL (Or.inr ⟨(hw _ (List.mem_of_getElem? (i := 2) rfl)), (hw _ (List.mem_of_getElem? (i := 5) rfl))⟩)
  obtain ⟨n4, n5⟩ := and_e n3
  obtain ⟨w_HORIZONTAL, ev_w_HORIZONTAL⟩ := exa_v n4
  have Ew_HORIZONTAL := Exa.start ev_w_HORIZONTAL n4
  have Sw_HORIZONTAL := Sta.start ev_w_HORIZONTAL (Or.inr ⟨(hw _ (List.mem_of_getElem? (i := 2) rfl)), (hw _ (List.mem_of_getElem? (i := 7) rfl))⟩)
  obtain ⟨n6, n7⟩ := and_e n5
  have Fw_VERTICAL_flags := Fld.start ((fld_at ev_w_VERTICAL).symm.trans (own_eqI n6))
  obtain ⟨n8, n9⟩ := and_e n7
  have Fw_HORIZONTAL_flags := Fld.start ((fld_at ev_w_HORIZONTAL).symm.trans (own_eqI n8))
  obtain ⟨n10, n11⟩ := and_e n9
  obtain ⟨w_NONE, ev_w_NONE⟩ := exa_v n10
  have Ew_NONE := Exa.start ev_w_NONE n10
  have Sw_NONE := Sta.start ev_w_NONE (Or.inr ⟨(hw _ (List.mem_of_getElem? (i := 2) rfl)), (hw _ (List.mem_of_getElem? (i := 17) rfl))⟩)
  obtain ⟨n12, n13⟩ := and_e n11
  have Fw_NONE_flags := Fld.start ((fld_at ev_w_NONE).symm.trans (own_eqI n12))
  obtain ⟨n14, n15⟩ := and_e n13
  obtain ⟨w_BOTH, ev_w_BOTH⟩ := exa_v n14
  have Ew_BOTH := Exa.start ev_w_BOTH n14
  have Sw_BOTH := Sta.start ev_w_BOTH (Or.inr ⟨(hw _ (List.mem_of_getElem? (i := 2) rfl)), (hw _ (List.mem_of_getElem? (i := 19) rfl))⟩)
  have Fw_BOTH_flags := Fld.start ((fld_at ev_w_BOTH).symm.trans (own_eqI n15))
  obtain ⟨n, o, h1, h2, h3, v, L, rfl, ⟨hv, hK⟩, hq⟩ := rm0 l s _ hw tables_1 i0 i1 w_BOTH w_HORIZONTAL w_VERTICAL w_NONE s.heap Sw_BOTH Sw_HORIZONTAL Sw_VERTICAL Sw_NONE Ew_BOTH Ew_HORIZONTAL Ew_VERTICAL Ew_NONE Fw_BOTH_flags Fw_HORIZONTAL_flags Fw_VERTICAL_flags Fw_NONE_flags p e ha hc hk s m _ below hf ((Spec.applies_iff_loose hf).mp happ).1 ⟨rfl, State.Warmed39.refl s, rfl⟩ trivial
  rw [own_law] at hv
  subst hv
  refine ⟨n, _, h1, h2, h3, hpost _ _ _ _ _ _ ⟨Cond.after_iff.mpr rfl, Cond.after_iff.mpr (eq_i res_at (Term.int_eval (1)) rfl), trivial⟩ ⟨hq.1, hq.2.1, (hq.2.2.sift fun y hy => ?_).mono (by decide) (by decide)⟩⟩
  rw [hK.1] at hy
  cases hy
theorem main_1_1 : Claimed_1_1 := comes_1 fun _ _ _ _ _ _ h hF => ⟨h.1, hF⟩
theorem main_1_2 : Claimed_1_2 := comes_1 fun _ _ _ _ _ _ h hF => ⟨h.2.1, hF⟩
end Jvm.Pilot.@@N@@
namespace Jvm.Pilot.@@N@@
open Jvm Jvm.ClassFile Sem Op Lib Jvm.Free Jvm.Stand Jvm.Pilot.@@N@@.Jvm.D
/-! MADE BY PROGRAM (witnessworld.py) out of the Statement's table words and the real class files: 12 classes; the members and pool entries that the words name. The judged class is class 1, her method 1. -/
namespace start1
open Jvm.ClassFile
def u (s : String) : CpInfo := .utf8 (stringToUtf16 s)
/-- a pool by its gaps: so many unusable entries, then the entry; so many at the end -/
def gap : Nat → List CpInfo → List CpInfo
  | 0, r => r
  | n + 1, r => .unusable :: gap n r
def poolList (es : List (Nat × CpInfo)) (last : Nat) : List CpInfo := es.foldr (fun e r => gap e.1 (e.2 :: r)) (gap last [])
def pool (es : List (Nat × CpInfo)) (last : Nat) : Array CpInfo := ⟨poolList es last⟩
def fileOf (pool : Array CpInfo) (this : Nat) (attrs : Array Attribute := #[]) (ms : Array MethodInfo := #[]) (fl : Nat := 33) (sup : Nat := 0) (ifs : Array Nat := #[]) (fds : Array FieldInfo := #[]) : ClassFile where
  minorVersion := 0
  majorVersion := 65
  constantPool := pool
  accessFlags := fl
  thisClass := this
  superClass := sup
  interfaces := ifs
  fields := fds
  methods := ms
  attributes := attrs
def plain (name : String) (sup : Option ClassId) : Class where
  name := name
  kind := .ordinary
  loader := none
  accessFlags := 33
  super := sup
  interfaces := #[]
  cf := none
  fields := #[]
  methods := #[]
  instanceTypes := #[]
  staticTypes := #[]
  resolved := #[]
  callSites := []
  init := .initialized
  statics := none
  mirror := none

def pool0 : Array CpInfo := pool [(5, u "<init>"), (0, u "()V"), (1, .class_ 10), (1, u "java/lang/Object")] 113

def k0m0 : Method := { name := "<init>", desc := "()V", sig := { parameters := [], returnType := none }, accessFlags := 1, code := none }
/-- java/lang/Object -/
def k0 : Class := { plain "java/lang/Object" none with
  accessFlags := 33
  interfaces := #[]
  cf := some (fileOf pool0 8 #[] #[{ accessFlags := 1, nameIndex := 5, descriptorIndex := 6, attributes := #[] }] 33 0 #[] #[])
  fields := #[]
  methods := #[k0m0]
  instanceTypes := #[]
  staticTypes := #[]
  resolved := Array.replicate 124 none
  statics := none }

def pool1 : Array CpInfo := pool [(2, .class_ 4), (1, u "java/lang/Object"), (0, u "<init>"), (0, u "()V"), (0, .methodref 8 9), (0, .class_ 10), (0, .nameAndType 11 12), (0, u "com/example/tandemscroll/tandemscroll/Axes"), (0, u "of"), (0, u "(ZZ)Lcom/example/tandemscroll/tandemscroll/Axes;"), (0, .fieldref 8 14), (0, .nameAndType 15 16), (0, u "HORIZONTAL"), (0, u "Lcom/example/tandemscroll/tandemscroll/Axes;"), (0, .methodref 8 18), (0, .nameAndType 19 20), (0, u "includes"), (0, u "(Lcom/example/tandemscroll/tandemscroll/Axes;)Z"), (0, .fieldref 8 22), (0, .nameAndType 23 16), (0, u "VERTICAL"), (0, .class_ 25), (0, u "com/example/tandemscroll/tandemscroll/AxesOfPinLaw"), (2, u "law"), (0, u "(II)Z")] 3

def k1m0 : Method := { name := "<init>", desc := "()V", sig := { parameters := [], returnType := none }, accessFlags := 1, code := none }
def k1c1 : Code := { maxStack := 2, maxLocals := 7, code := code, exceptionTable := #[], attributes := #[] }
def k1m1 : Method := { name := "law", desc := "(II)Z", sig := { parameters := [.int, .int], returnType := some .boolean }, accessFlags := 9, code := some k1c1 }
/-- com/example/tandemscroll/tandemscroll/AxesOfPinLaw -/
def k1 : Class := { plain "com/example/tandemscroll/tandemscroll/AxesOfPinLaw" (some 0) with
  accessFlags := 49
  interfaces := #[]
  cf := some (fileOf pool1 24 #[] #[{ accessFlags := 1, nameIndex := 5, descriptorIndex := 6, attributes := #[] }, { accessFlags := 9, nameIndex := 28, descriptorIndex := 29, attributes := #[] }] 49 2 #[] #[])
  fields := #[]
  methods := #[k1m0, k1m1]
  instanceTypes := #[]
  staticTypes := #[]
  resolved := Array.replicate 33 none
  statics := none }

def pool2 : Array CpInfo := pool [(1, .class_ 2), (0, u "java/lang/constant/Constable"), (0, .class_ 4), (0, u "java/lang/Object")] 6

/-- java/lang/constant/Constable -/
def k2 : Class := { plain "java/lang/constant/Constable" (some 0) with
  accessFlags := 1537
  interfaces := #[]
  cf := some (fileOf pool2 1 #[] #[] 1537 3 #[] #[])
  fields := #[]
  methods := #[]
  instanceTypes := #[]
  staticTypes := #[]
  resolved := Array.replicate 11 none
  statics := none }

def pool3 : Array CpInfo := pool [(1, .class_ 2), (0, u "java/lang/Comparable"), (0, .class_ 4), (0, u "java/lang/Object")] 7

/-- java/lang/Comparable -/
def k3 : Class := { plain "java/lang/Comparable" (some 0) with
  accessFlags := 1537
  interfaces := #[]
  cf := some (fileOf pool3 1 #[] #[] 1537 3 #[] #[])
  fields := #[]
  methods := #[]
  instanceTypes := #[]
  staticTypes := #[]
  resolved := Array.replicate 12 none
  statics := none }

def pool4 : Array CpInfo := pool [(1, .class_ 2), (0, u "java/io/Serializable"), (0, .class_ 4), (0, u "java/lang/Object")] 2

/-- java/io/Serializable -/
def k4 : Class := { plain "java/io/Serializable" (some 0) with
  accessFlags := 1537
  interfaces := #[]
  cf := some (fileOf pool4 1 #[] #[] 1537 3 #[] #[])
  fields := #[]
  methods := #[]
  instanceTypes := #[]
  staticTypes := #[]
  resolved := Array.replicate 7 none
  statics := none }

def pool5 : Array CpInfo := pool [(2, .class_ 4), (1, u "java/lang/Enum"), (0, u "name"), (0, u "Ljava/lang/String;"), (2, u "ordinal"), (0, u "I"), (1, .class_ 14), (1, u "java/lang/Object"), (4, u "hash"), (86, .class_ 108), (1, u "java/lang/Enum$EnumDesc"), (2, .class_ 112), (0, u "java/lang/constant/Constable"), (0, .class_ 114), (0, u "java/lang/Comparable"), (0, .class_ 116), (0, u "java/io/Serializable")] 87

/-- java/lang/Enum -/
def k5 : Class := { plain "java/lang/Enum" (some 0) with
  accessFlags := 1057
  interfaces := #[2, 3, 4]
  cf := some (fileOf pool5 2 #[.nestMembers #[106]] #[] 1057 12 #[111, 113, 115] #[{ accessFlags := 18, nameIndex := 5, descriptorIndex := 6, attributes := #[] }, { accessFlags := 18, nameIndex := 9, descriptorIndex := 10, attributes := #[] }, { accessFlags := 2, nameIndex := 19, descriptorIndex := 10, attributes := #[] }])
  fields := #[{ name := "name", type := (.object "java/lang/String"), accessFlags := 18, slot := 0, constantValue := 0 }, { name := "ordinal", type := .int, accessFlags := 18, slot := 1, constantValue := 0 }, { name := "hash", type := .int, accessFlags := 2, slot := 2, constantValue := 0 }]
  methods := #[]
  instanceTypes := #[(.object "java/lang/String"), .int, .int]
  staticTypes := #[]
  resolved := Array.replicate 204 none
  statics := none }

def pool6 : Array CpInfo := pool [(1, .class_ 2), (0, u "com/example/tandemscroll/tandemscroll/Axes"), (0, .fieldref 1 4), (0, .nameAndType 5 6), (0, u "NONE"), (0, u "Lcom/example/tandemscroll/tandemscroll/Axes;"), (0, .fieldref 1 8), (0, .nameAndType 9 6), (0, u "HORIZONTAL"), (0, .fieldref 1 11), (0, .nameAndType 12 6), (0, u "VERTICAL"), (0, .fieldref 1 14), (0, .nameAndType 15 6), (0, u "BOTH"), (2, u "$VALUES"), (0, u "[Lcom/example/tandemscroll/tandemscroll/Axes;"), (6, .class_ 28), (1, u "java/lang/Enum"), (6, .fieldref 1 36), (0, .nameAndType 37 38), (0, u "flags"), (0, u "I"), (2, u "BY_FLAGS"), (18, u "of"), (0, u "(ZZ)Lcom/example/tandemscroll/tandemscroll/Axes;"), (4, u "includes"), (0, u "(Lcom/example/tandemscroll/tandemscroll/Axes;)Z")] 5

def k6c0 : Code := { maxStack := 1, maxLocals := 2, code := prog_1_method_4_code, exceptionTable := #[], attributes := #[] }
def k6m0 : Method := { name := "of", desc := "(ZZ)Lcom/example/tandemscroll/tandemscroll/Axes;", sig := { parameters := [.boolean, .boolean], returnType := some (.object "com/example/tandemscroll/tandemscroll/Axes") }, accessFlags := 9, code := some k6c0 }
def k6c1 : Code := { maxStack := 2, maxLocals := 2, code := prog_1_method_7_code, exceptionTable := #[], attributes := #[] }
def k6m1 : Method := { name := "includes", desc := "(Lcom/example/tandemscroll/tandemscroll/Axes;)Z", sig := { parameters := [(.object "com/example/tandemscroll/tandemscroll/Axes")], returnType := some .boolean }, accessFlags := 1, code := some k6c1 }
/-- com/example/tandemscroll/tandemscroll/Axes -/
def k6 : Class := { plain "com/example/tandemscroll/tandemscroll/Axes" (some 5) with
  accessFlags := 16433
  interfaces := #[]
  cf := some (fileOf pool6 1 #[] #[{ accessFlags := 9, nameIndex := 60, descriptorIndex := 61, attributes := #[] }, { accessFlags := 1, nameIndex := 66, descriptorIndex := 67, attributes := #[] }] 16433 26 #[] #[{ accessFlags := 16409, nameIndex := 5, descriptorIndex := 6, attributes := #[] }, { accessFlags := 16409, nameIndex := 9, descriptorIndex := 6, attributes := #[] }, { accessFlags := 16409, nameIndex := 12, descriptorIndex := 6, attributes := #[] }, { accessFlags := 16409, nameIndex := 15, descriptorIndex := 6, attributes := #[] }, { accessFlags := 26, nameIndex := 41, descriptorIndex := 19, attributes := #[] }, { accessFlags := 18, nameIndex := 37, descriptorIndex := 38, attributes := #[] }, { accessFlags := 4122, nameIndex := 18, descriptorIndex := 19, attributes := #[] }])
  fields := #[{ name := "NONE", type := (.object "com/example/tandemscroll/tandemscroll/Axes"), accessFlags := 16409, slot := 0, constantValue := 0 }, { name := "HORIZONTAL", type := (.object "com/example/tandemscroll/tandemscroll/Axes"), accessFlags := 16409, slot := 1, constantValue := 0 }, { name := "VERTICAL", type := (.object "com/example/tandemscroll/tandemscroll/Axes"), accessFlags := 16409, slot := 2, constantValue := 0 }, { name := "BOTH", type := (.object "com/example/tandemscroll/tandemscroll/Axes"), accessFlags := 16409, slot := 3, constantValue := 0 }, { name := "BY_FLAGS", type := (.array (.object "com/example/tandemscroll/tandemscroll/Axes")), accessFlags := 26, slot := 4, constantValue := 0 }, { name := "flags", type := .int, accessFlags := 18, slot := 3, constantValue := 0 }, { name := "$VALUES", type := (.array (.object "com/example/tandemscroll/tandemscroll/Axes")), accessFlags := 4122, slot := 5, constantValue := 0 }]
  methods := #[k6m0, k6m1]
  instanceTypes := #[(.object "java/lang/String"), .int, .int, .int]
  staticTypes := #[(.object "com/example/tandemscroll/tandemscroll/Axes"), (.object "com/example/tandemscroll/tandemscroll/Axes"), (.object "com/example/tandemscroll/tandemscroll/Axes"), (.object "com/example/tandemscroll/tandemscroll/Axes"), (.array (.object "com/example/tandemscroll/tandemscroll/Axes")), (.array (.object "com/example/tandemscroll/tandemscroll/Axes"))]
  resolved := Array.replicate 73 none
  statics := some 0 }

def pool7 : Array CpInfo := pool [(1, u "java/lang/Cloneable"), (0, .class_ 1), (0, u "java/lang/Object"), (0, .class_ 3)] 3

/-- java/lang/Cloneable -/
def k7 : Class := { plain "java/lang/Cloneable" (some 0) with
  accessFlags := 1537
  interfaces := #[]
  cf := some (fileOf pool7 2 #[] #[] 1537 4 #[] #[])
  fields := #[]
  methods := #[]
  instanceTypes := #[]
  staticTypes := #[]
  resolved := Array.replicate 8 none
  statics := none }

/-- the primitive byte -/
def k8 : Class := { plain "byte" none with kind := .primitive 'B', accessFlags := 0x411 }
/-- [B -/
def k9 : Class := { plain "[B" (some 0) with kind := .array 8 .byte, interfaces := #[7, 4], accessFlags := 1041 }

/-- the primitive int -/
def k10 : Class := { plain "int" none with kind := .primitive 'I', accessFlags := 0x411 }
/-- [I -/
def k11 : Class := { plain "[I" (some 0) with kind := .array 10 .int, interfaces := #[7, 4], accessFlags := 1041 }

def heap : Heap := #[{ cls := 6, slots := #[.ref 1, .ref 2, .ref 3, .ref 4, .null, .null], vm := .statics 6 },
  { cls := 6, slots := #[.null, .int 0, .int 0, .int 0], vm := .none },
  { cls := 6, slots := #[.null, .int 1, .int 0, .int 1], vm := .none },
  { cls := 6, slots := #[.null, .int 2, .int 0, .int 2], vm := .none },
  { cls := 6, slots := #[.null, .int 3, .int 0, .int 3], vm := .none }]
def classes : Array Class := #[k0, k1, k2, k3, k4, k5, k6, k7, k8, k9, k10, k11]
def interned : List (Array UInt16 × Addr) := []
def slotsUsed : Nat := 22
def theMethod : MethodId := ⟨1, 1⟩
def args0 : Array Value := #[.int 5, .int 7]
def aboutOver (below : List Frame) : State where
  vm := { classes := classes, interned := interned.toArray }
  heap := heap
  slotsUsed := slotsUsed
  threads := #[{ frames := .invoking theMethod args0 :: below }]
def below0 : List Frame := [.native { method := ⟨0, 0⟩, args := #[] }]
def about1 : State := aboutOver below0
def p0 : Program := .bare "" "" ""
def e0 : Env := launch0.env 0 0 0
theorem w_frames : about1.frames = Frame.invoking theMethod args0 :: below0 := rfl
set_option maxRecDepth 65536 in
theorem w_args : argsFit about1.vm theMethod args0 = true := by decide +kernel
set_option maxRecDepth 65536 in
theorem w_heap : heapFits about1 = true := by decide +kernel
set_option maxRecDepth 65536 in
theorem w_runnable : about1.curStatus? = some .runnable := by decide +kernel
set_option maxRecDepth 65536 in
theorem w_alone : about1.alone = true := by decide +kernel
set_option maxRecDepth 65536 in
theorem w_named : about1.methodNamed? x = some theMethod := by decide +kernel
set_option maxRecDepth 65536 in
theorem w_hears : about1.hears theMethod below0 = true := by decide +kernel
set_option maxRecDepth 65536 in
theorem w_ripe : about1.ripe theMethod args0 below0 = true := by decide +kernel
theorem w_running : about1.status = .running := rfl
set_option maxRecDepth 65536 in
theorem w_room : about1.hasRoom e0.platform room_1 = true :=
  launch0.hasRoom_least _ room_1 (by decide +kernel) (by decide +kernel) (by decide +kernel) (by decide +kernel) (by decide +kernel) (by decide +kernel)
theorem allAtoms_all (ts : List Jvm.Cond) (a : Array Jvm.Value) (st : Jvm.State) : (allAtoms ts).before a st = ts.all (fun c => c.before a st) := by
  induction ts with
  | nil => rfl
  | cons c t ih =>
    show (Jvm.Cond.and c (allAtoms t)).before a st = _
    rw [Jvm.Cond.before_and, ih, List.all_cons]
def words1 : List Jvm.Cond := Jvm.Cond.code x code maxLocals ret :: tables_1
/-- a 'code' word, met by the world's own term for the bytes: nothing is compared byte by byte -/
theorem code_word {y : MethodName} {bytes : ByteArray} {mx : Nat} {rt : Option FieldType} {a : Array Value} {s : State} {m : MethodId} {meth : Method} {c : Code} (h1 : s.methodNamed? y = some m) (h2 : s.vm.method? m = some meth) (h3 : meth.code = some c) (h4 : c.code = bytes)
    (h5 : (c.maxLocals == mx && c.exceptionTable.isEmpty && decide (c.maxStack ≤ mostOperands) && decide (meth.sig.returnType = rt) && !meth.locks && decide (parseMethodDescriptor y.desc = some meth.sig)) = true) : (Jvm.Cond.code y bytes mx rt).before a s = true := by
  simp only [Bool.and_eq_true, beq_iff_eq, Bool.not_eq_true', decide_eq_true_eq] at h5
  obtain ⟨⟨⟨⟨⟨g1, g2⟩, g3⟩, g4⟩, g5⟩, g6⟩ := h5
  simp [Cond.before, Cond.holds, Cond.value, h1, h2, h3, h4, g1, g2, g3, g4, g5, g6]
def isCode : Jvm.Cond → Bool
  | .code _ _ _ _ => true
  | _ => false
theorem all_split {L : List Jvm.Cond} {P : Jvm.Cond → Bool} (h1 : L.all (fun c => isCode c || P c) = true) (h2 : ∀ c ∈ L.filter isCode, P c = true) : L.all P = true := by
  refine List.all_eq_true.mpr fun c hc => ?_
  have h := List.all_eq_true.mp h1 c hc
  rcases Bool.eq_false_or_eq_true (isCode c) with hi | hi
  · exact h2 c (List.mem_filter.mpr ⟨hc, hi⟩)
  · simpa [hi] using h
set_option maxRecDepth 65536 in
theorem w_c0 : (Jvm.Cond.code x code maxLocals ret).before args0 about1 = true := code_word (m := ⟨1, 1⟩) (meth := k1m1) (c := k1c1) (by decide +kernel) rfl rfl rfl (by decide +kernel)
set_option maxRecDepth 65536 in
theorem w_c1 : (Jvm.Cond.code ({ cls := "com/example/tandemscroll/tandemscroll/Axes", name := "of", desc := "(ZZ)Lcom/example/tandemscroll/tandemscroll/Axes;" } : Jvm.MethodName) prog_1_method_4_code (2 : Nat) (Option.some (Jvm.ClassFile.FieldType.object "com/example/tandemscroll/tandemscroll/Axes"))).before args0 about1 = true := code_word (m := ⟨6, 0⟩) (meth := k6m0) (c := k6c0) (by decide +kernel) rfl rfl rfl (by decide +kernel)
set_option maxRecDepth 65536 in
theorem w_c2 : (Jvm.Cond.code ({ cls := "com/example/tandemscroll/tandemscroll/Axes", name := "includes", desc := "(Lcom/example/tandemscroll/tandemscroll/Axes;)Z" } : Jvm.MethodName) prog_1_method_7_code (2 : Nat) (Option.some Jvm.ClassFile.FieldType.boolean)).before args0 about1 = true := code_word (m := ⟨6, 1⟩) (meth := k6m1) (c := k6c1) (by decide +kernel) rfl rfl rfl (by decide +kernel)
def codes1 : List Jvm.Cond := [Jvm.Cond.code x code maxLocals ret, Jvm.Cond.code ({ cls := "com/example/tandemscroll/tandemscroll/Axes", name := "of", desc := "(ZZ)Lcom/example/tandemscroll/tandemscroll/Axes;" } : Jvm.MethodName) prog_1_method_4_code (2 : Nat) (Option.some (Jvm.ClassFile.FieldType.object "com/example/tandemscroll/tandemscroll/Axes")), Jvm.Cond.code ({ cls := "com/example/tandemscroll/tandemscroll/Axes", name := "includes", desc := "(Lcom/example/tandemscroll/tandemscroll/Axes;)Z" } : Jvm.MethodName) prog_1_method_7_code (2 : Nat) (Option.some Jvm.ClassFile.FieldType.boolean)]
set_option maxRecDepth 65536 in
theorem codes_eq : words1.filter isCode = codes1 := rfl
theorem w_codes : ∀ c ∈ words1.filter isCode, c.before args0 about1 = true := by
  rw [codes_eq]
  intro c hc
  simp only [codes1, List.mem_cons, List.not_mem_nil, or_false] at hc
  rcases hc with rfl | rfl | rfl
  · exact w_c0
  · exact w_c1
  · exact w_c2
set_option maxRecDepth 65536 in
theorem w_t1 : words1.all (fun c => isCode c || c.before args0 about1) = true := by decide +kernel
theorem w_tables : (allAtoms (Jvm.Cond.code x code maxLocals ret :: tables_1)).before args0 about1 = true := by
  rw [allAtoms_all]
  show words1.all (fun c => c.before args0 about1) = true
  refine all_split ?_ w_codes
  rw [w_t1]
set_option maxRecDepth 65536 in
theorem w_case : (Jvm.Cond.and given_1 narrow_1).before args0 about1 = true := by decide +kernel
theorem w_applies : (headSpec (Jvm.Cond.code x code maxLocals ret :: tables_1) room_1).applies x e0.platform about1 = true :=
  (Spec.applies_iff w_frames).mpr ⟨w_running, w_runnable, w_alone, w_named, w_hears, w_ripe, w_room, w_tables⟩
theorem atStart : AtStart classFile x code maxLocals ret World_1 tables_1 room_1 Calls_1 rest_1 Pre_1 launch0 p0 e0 about1 theMethod args0 below0 :=
  ⟨lists_1, trivial, launch0.admits_env _ _ _, launch0.least_env, fairChoices_fair.cas, fairChoices_fair.clock, w_frames, w_args, w_heap, w_applies, trivial, trivial, w_case⟩
end start1
theorem witness_1 : WitnessClaimed_1 := ⟨start1.p0, start1.e0, start1.about1, start1.theMethod, start1.args0, start1.below0, start1.atStart⟩
end Jvm.Pilot.@@N@@
