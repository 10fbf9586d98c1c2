import JvmDerived
import JvmDerived.Pilot.@@N@@Statement
import JvmDerived.Pilot.@@N@@Code
set_option linter.unusedVariables false
set_option linter.unusedSimpArgs false
namespace Jvm.RoadKit
open Sem ClassFile Op Lib Jvm.Stand Jvm.Free Jvm.LawKit
section New
variable {p : Program} {l : Launch} {e : Env} {R : Room} {s : State} {m : MethodId} {args : Array Value} {below : List Frame} {meth : Method} {c : Code} {T : State} {locs : List Loc} {cells slots : Nat}
/-- what a body hands back: the value r, and K of the heap and the places at its end -/
def own_Q (r : Option Value) (K : Heap → List Loc → Prop) (v : Option Value) (h : Heap) (L : List Loc) : Prop := v = r ∧ K h L
/-- nothing is written, nothing is made -/
def own_K0 (h0 : Heap) (h : Heap) (L : List Loc) : Prop := L = [] ∧ h = h0
/-- from F on the run returns r with K -/
def own_Go (p : Program) (e : Env) (below : List Frame) (s : State) (C N : Nat) (r : Option Value) (K : Heap → List Loc → Prop) (F : State) : Prop :=
  ∃ s₂ o, Steps p.tables e below F s₂ ∧ s₂.status = .running ∧ Ended s₂ below o ∧ ∃ v L, o = .returned v ∧ own_Q r K v s₂.heap L ∧ FrameEnd s o s₂ L C N
theorem own_pre {C N : Nat} {r : Option Value} {K : Heap → List Loc → Prop} {F F' : State} (h : ∀ t, Steps p.tables e below F' t → Steps p.tables e below F t) (g : own_Go p e below s C N r K F') : own_Go p e below s C N r K F := by
  obtain ⟨t, o, a, b⟩ := g
  exact ⟨t, o, h t a, b⟩
theorem own_iteI {C N : Nat} {K : Heap → List Loc → Prop} {F : State} {P : Prop} [Decidable P] {a b : Int32} (h1 : P → own_Go p e below s C N (some (.int a)) K F) (h2 : ¬ P → own_Go p e below s C N (some (.int b)) K F) : own_Go p e below s C N (some (.int (if P then a else b))) K F := by
  by_cases q : P
  · rw [if_pos q]; exact h1 q
  · rw [if_neg q]; exact h2 q
theorem own_iteJ {C N : Nat} {K : Heap → List Loc → Prop} {F : State} {P : Prop} [Decidable P] {a b : Int64} (h1 : P → own_Go p e below s C N (some (.long a)) K F) (h2 : ¬ P → own_Go p e below s C N (some (.long b)) K F) : own_Go p e below s C N (some (.long (if P then a else b))) K F := by
  by_cases q : P
  · rw [if_pos q]; exact h1 q
  · rw [if_neg q]; exact h2 q
theorem own_iteR {C N : Nat} {K : Heap → List Loc → Prop} {F : State} {P : Prop} [Decidable P] {a b : Addr} (h1 : P → own_Go p e below s C N (some (.ref a)) K F) (h2 : ¬ P → own_Go p e below s C N (some (.ref b)) K F) : own_Go p e below s C N (some (.ref (if P then a else b))) K F := by
  by_cases q : P
  · rw [if_pos q]; exact h1 q
  · rw [if_neg q]; exact h2 q
theorem own_iteV {C N : Nat} {K : Heap → List Loc → Prop} {F : State} {P : Prop} [Decidable P] {a b : Value} (h1 : P → own_Go p e below s C N (some a) K F) (h2 : ¬ P → own_Go p e below s C N (some b) K F) : own_Go p e below s C N (some (if P then a else b)) K F := by
  by_cases q : P
  · rw [if_pos q]; exact h1 q
  · rw [if_neg q]; exact h2 q
theorem own_ret (X : Stand p l e R s m args below meth c T locs cells slots) (hx : p.tables.exec = Jvm.exec) (hlocks : meth.locks = false) {pc : Nat} {Ls : Array Slot} {w : Value} {t : FieldType} {i : Instr} {rest : List Value} {C N : Nat} {K : Heap → List Loc → Prop} (hret : meth.sig.returnType = some t) (hn : narrow t w = w)
    (hi : (i = .ireturn ∧ (t = .int ∨ t = .boolean ∨ t = .byte ∨ t = .char ∨ t = .short) ∧ ∃ z, w = .int z) ∨ (i = .lreturn ∧ t = .long ∧ ∃ z, w = .long z) ∨ (i = .areturn ∧ t.isReference = true ∧ w.isRef = true))
    (hd : decode c.code pc = .ok (i, 1)) (hK : K T.heap locs) (hC : cells ≤ C) (hN : slots ≤ N) : own_Go p e below s C N (some w) K (T.setTop (mkF m pc Ls (w :: rest))) := by
  obtain ⟨fs, hr, hrun, hended, hW, hsame⟩ := X.leave (v := some w) (fun h => by rw [hret] at h; cases h)
  refine ⟨_, _, retOut X hx hret hn ?_ hd hr, hrun, hended, _, _, rfl, ⟨rfl, hK⟩, ⟨_, rfl⟩, hW, hsame.mono hC hN⟩
  rcases hi with h | h | h
  · exact Or.inl h
  · exact Or.inr (Or.inl h)
  · exact Or.inr (Or.inr (Or.inr (Or.inr h)))
theorem own_retN (X : Stand p l e R s m args below meth c T locs cells slots) (hx : p.tables.exec = Jvm.exec) (hlocks : meth.locks = false) {pc : Nat} {Ls : Array Slot} {z : Int32} {t : FieldType} {rest : List Value} {C N : Nat} {K : Heap → List Loc → Prop} (hret : meth.sig.returnType = some t) (ht : t = .boolean ∨ t = .byte ∨ t = .char ∨ t = .short)
    (hd : decode c.code pc = .ok (.ireturn, 1)) (hK : K T.heap locs) (hC : cells ≤ C) (hN : slots ≤ N) : own_Go p e below s C N (some (.int (nar t z))) K (T.setTop (mkF m pc Ls (.int z :: rest))) := by
  obtain ⟨fs, hr, hrun, hended, hW, hsame⟩ := X.leave (v := some (.int (nar t z))) (fun h => by rw [hret] at h; cases h)
  exact ⟨_, _, retN X hx hret ht hd hr, hrun, hended, _, _, rfl, ⟨rfl, hK⟩, ⟨_, rfl⟩, hW, hsame.mono hC hN⟩
theorem own_retV (X : Stand p l e R s m args below meth c T locs cells slots) (hx : p.tables.exec = Jvm.exec) (hlocks : meth.locks = false) {pc : Nat} {Ls : Array Slot} {C N : Nat} {K : Heap → List Loc → Prop} (hret : meth.sig.returnType = none)
    (hd : decode c.code pc = .ok (.return_, 1)) (hK : K T.heap locs) (hC : cells ≤ C) (hN : slots ≤ N) : own_Go p e below s C N none K (T.setTop (mkF m pc Ls [])) := by
  obtain ⟨fs, hr, hrun, hended, hW, hsame⟩ := X.leave (v := none) (fun _ => rfl)
  exact ⟨_, _, X.returnOut hx hret hd hr, hrun, hended, _, _, rfl, ⟨rfl, hK⟩, ⟨_, rfl⟩, hW, hsame.mono hC hN⟩
theorem own_lremM {g : JFrame} {target : State} (X : Stand p l e R s m args below meth c T locs cells slots) (hx : p.tables.exec = Jvm.exec) (hg : g.method = m) {x y : Int64} {rest : List Value} (hd : decode c.code g.pc = .ok (.lrem, 1)) (hs : g.stack = .long y :: .long x :: rest) (hy : y ≠ 0)
    (hr : Steps p.tables e below (T.setTop { g with pc := g.pc + 1, stack := .long (x % y) :: rest }) target) : Steps p.tables e below (T.setTop g) target :=
  XS.lrem X.here hx hg hd hs hy (by rw [lrem_mod]; exact hr)
theorem own_cat {v : Value} (h : v.isRef = true) : v.category = 1 := by rcases ref_cases h with rfl | ⟨a, rfl⟩ <;> rfl
theorem own_nar (z : Int32) : nar .boolean z = z &&& 1 := rfl
end New
end Jvm.RoadKit
namespace Jvm.RoadKit
open Sem ClassFile Op Lib Jvm.Stand Jvm.Free Jvm.LawKit
section New2
variable {p : Program} {l : Launch} {e : Env} {R : Room} {s : State} {m : MethodId} {args : Array Value} {below : List Frame} {meth : Method} {c : Code} {T : State} {locs : List Loc} {cells slots : Nat}
theorem own_iteT {α : Type} {C N : Nat} (R : α → Option Value) (K : α → Heap → List Loc → Prop) {F : State} {P : Prop} [Decidable P] {a b : α} (h1 : P → own_Go p e below s C N (R a) (K a) F) (h2 : ¬ P → own_Go p e below s C N (R b) (K b) F) : own_Go p e below s C N (R (if P then a else b)) (K (if P then a else b)) F := by
  by_cases q : P
  · rw [if_pos q]; exact h1 q
  · rw [if_neg q]; exact h2 q
theorem own_staKeep {Z : State} {h h' : Heap} {C n d : String} {w : Value} {ws : List Addr} (F : Sta Z h C n d w) (K : Keep h h' ws) (q : ∀ x ∈ ws, ∀ c : Cell, h[x]? = some c → c.vm.isStatics = false) : Sta Z h' C n d w := by
  obtain ⟨cf, i, k, f, st, cell, h1, h2, h3, h4, h5, h6, h7⟩ := F
  exact ⟨cf, i, k, f, st, cell, h1, h2, h3, h4, K.2.1 _ _ h5 (fun hm => by have := q st hm cell h5; rw [h6] at this; cases this), h6, h7⟩
theorem own_nost1 {Z : State} {h : Heap} {a : Addr} {C : String} (E : Exa Z h a C) : ∀ x ∈ [a], ∀ c : Cell, h[x]? = some c → c.vm.isStatics = false := fun x hx c hc => by
  cases List.mem_singleton.mp hx; exact E.nostat c hc
theorem own_KF {n0 : Nat} {h : Heap} {L : List Loc} (N : Fr n0 L) : (fun (_ : Heap) (L : List Loc) => Fr n0 L) h L := N
end New2
end Jvm.RoadKit
namespace Jvm.Pilot.@@N@@
open Jvm Jvm.ClassFile Sem Op Lib Jvm.Free Jvm.Stand Jvm.LawKit Jvm.RoadKit Bundle Jvm.Pilot.@@N@@.Jvm.D
theorem own_eqI {t : Term} {n : Int32} {args : Array Value} {s : State} (h : (Jvm.Cond.eq t (.int n)).value args s none s [] = some true) : t.eval args s none [] s = some (.int n) := by
  simp only [Cond.value] at h
  have hn : (Term.int n).eval args s none [] s = some (.int n) := rfl
  rw [hn] at h
  cases ht : t.eval args s none [] s with
  | none => simp [ht] at h
  | some v => cases v <;> simp [ht] at h ⊢; exact h
/-! body 1 -/
theorem d1_0 : decode method_2_code 0 = .ok (.iload_n 0, 1) := by decide +kernel
theorem d1_1 : decode method_2_code 1 = .ok (.ifCond .ne 7, 3) := by decide +kernel
theorem d1_4 : decode method_2_code 4 = .ok (.getstatic 7, 3) := by decide +kernel
theorem d1_7 : decode method_2_code 7 = .ok (.areturn, 1) := by decide +kernel
theorem d1_8 : decode method_2_code 8 = .ok (.iload_n 0, 1) := by decide +kernel
theorem d1_9 : decode method_2_code 9 = .ok (.iconst 1, 1) := by decide +kernel
theorem d1_10 : decode method_2_code 10 = .ok (.if_icmp .ne 7, 3) := by decide +kernel
theorem d1_13 : decode method_2_code 13 = .ok (.getstatic 13, 3) := by decide +kernel
theorem d1_16 : decode method_2_code 16 = .ok (.areturn, 1) := by decide +kernel
theorem d1_17 : decode method_2_code 17 = .ok (.iload_n 0, 1) := by decide +kernel
theorem d1_18 : decode method_2_code 18 = .ok (.iconst 2, 1) := by decide +kernel
theorem d1_19 : decode method_2_code 19 = .ok (.if_icmp .ne 7, 3) := by decide +kernel
theorem d1_22 : decode method_2_code 22 = .ok (.getstatic 16, 3) := by decide +kernel
theorem d1_25 : decode method_2_code 25 = .ok (.areturn, 1) := by decide +kernel
theorem d1_26 : decode method_2_code 26 = .ok (.iload_n 0, 1) := by decide +kernel
theorem d1_27 : decode method_2_code 27 = .ok (.iconst 3, 1) := by decide +kernel
theorem d1_28 : decode method_2_code 28 = .ok (.if_icmp .ne 7, 3) := by decide +kernel
theorem d1_31 : decode method_2_code 31 = .ok (.getstatic 19, 3) := by decide +kernel
theorem d1_34 : decode method_2_code 34 = .ok (.areturn, 1) := by decide +kernel
theorem d1_35 : decode method_2_code 35 = .ok (.getstatic 22, 3) := by decide +kernel
theorem d1_38 : decode method_2_code 38 = .ok (.areturn, 1) := by decide +kernel
theorem own_pn0 : plainName "com/example/recital/recital/NumberingFollowsPinLaw" = true := by first | (simp [plainName, overriddenIn]; done) | decide +kernel
def f1_0 (p0 : Int32) (w_SMALL_LETTERS : Addr) (w_CAPITAL_LETTERS : Addr) (w_SMALL_ROMAN : Addr) (w_CAPITAL_ROMAN : Addr) (w_ARABIC : Addr) : Addr := (if p0 = (0 : Int32) then w_SMALL_LETTERS else (if p0 = (1 : Int32) then w_CAPITAL_LETTERS else (if p0 = (2 : Int32) then w_SMALL_ROMAN else (if p0 = (3 : Int32) then w_CAPITAL_ROMAN else w_ARABIC))))
set_option maxRecDepth 65536 in
set_option maxHeartbeats 40000000 in
theorem g1_0 {p : Program} {l : Launch} {e : Env} {s : State} {m : MethodId} {below : List Frame} {meth : Method} {c : Code} {s₁ : State} {ws : List Jvm.Cond} {Z : State} {aw : Array Value} (hw : ∀ d ∈ tables_1, d.before aw Z = true) {h0 : Heap} (p0 : Int32) (w_SMALL_LETTERS : Addr) (w_CAPITAL_LETTERS : Addr) (w_SMALL_ROMAN : Addr) (w_CAPITAL_ROMAN : Addr) (w_ARABIC : Addr) (Sw_SMALL_LETTERS : Sta Z h0 "com/example/recital/recital/Numbering$Style" "SMALL_LETTERS" "Lcom/example/recital/recital/Numbering$Style;" (.ref w_SMALL_LETTERS)) (Sw_CAPITAL_LETTERS : Sta Z h0 "com/example/recital/recital/Numbering$Style" "CAPITAL_LETTERS" "Lcom/example/recital/recital/Numbering$Style;" (.ref w_CAPITAL_LETTERS)) (Sw_SMALL_ROMAN : Sta Z h0 "com/example/recital/recital/Numbering$Style" "SMALL_ROMAN" "Lcom/example/recital/recital/Numbering$Style;" (.ref w_SMALL_ROMAN)) (Sw_CAPITAL_ROMAN : Sta Z h0 "com/example/recital/recital/Numbering$Style" "CAPITAL_ROMAN" "Lcom/example/recital/recital/Numbering$Style;" (.ref w_CAPITAL_ROMAN)) (Sw_ARABIC : Sta Z h0 "com/example/recital/recital/Numbering$Style" "ARABIC" "Lcom/example/recital/recital/Numbering$Style;" (.ref w_ARABIC))
    (Bd : BodyLoose p l (⟨"com/example/recital/recital/NumberingFollowsPinLaw", "style", "(I)Lcom/example/recital/recital/Numbering$Style;"⟩ : MethodName) (head1 (Jvm.Cond.code (⟨"com/example/recital/recital/NumberingFollowsPinLaw", "style", "(I)Lcom/example/recital/recital/Numbering$Style;"⟩ : MethodName) method_2_code 1 (some (.object "com/example/recital/recital/Numbering$Style")) :: ws) ({ frames := 0, cells := 0, slots := 0, locals := 0 } : Room)) method_2_code 1 (some (.object "com/example/recital/recital/Numbering$Style")) e s m #[(.int p0)] below meth c s₁) (hml : c.maxLocals = 1) (hZ : Z.Warmed39 s.vm) (T0 : State) (X0 : Stand p l e ({ frames := 0, cells := 0, slots := 0, locals := 0 } : Room) s m #[(.int p0)] below meth c T0 [] 0 0) (e0 : T0.heap = h0) :
    own_Go p e below s ({ frames := 0, cells := 0, slots := 0, locals := 0 } : Room).cells ({ frames := 0, cells := 0, slots := 0, locals := 0 } : Room).slots (some (.ref (f1_0 p0 w_SMALL_LETTERS w_CAPITAL_LETTERS w_SMALL_ROMAN w_CAPITAL_ROMAN w_ARABIC))) (own_K0 h0) (T0.setTop (mkF m 0 #[.val (.int p0)] [])) := by
  have hx := Bd.exec
  have hby := Bd.bytes
  have hown : s.vm.findClass "com/example/recital/recital/NumberingFollowsPinLaw" = some m.cls := findClass_of_methodNamed Bd.named
  unfold f1_0
  refine own_pre (F' := T0.setTop (mkF m 1 #[.val (.int p0)] [(.int p0)])) (fun _ k => XS.iloadN X0.here hx rfl (hb hby d1_0) rfl k) ?_
  refine own_iteR (fun hc1 => ?_) (fun hc1 => ?_)
  · skip
    refine own_pre (F' := T0.setTop (mkF m 4 #[.val (.int p0)] [])) (fun _ k => XS.ifNo X0.here hx rfl (hb hby d1_1) rfl ((if0 _ _).trans (teq hc1).2) k) ?_
    obtain ⟨T1, X1, e1, st'⟩ := getS2 X0 hx hZ hown (host := "") (Or.inl (hw _ (List.mem_of_getElem? (i := 26) rfl))) Via.refl e0 Sw_SMALL_LETTERS (g := (mkF m 4 #[.val (.int p0)] [])) rfl (hb hby d1_4)
    refine own_pre (F' := T1.setTop (mkF m 7 #[.val (.int p0)] [(.ref w_SMALL_LETTERS)])) (fun t k => st' t k) ?_
    exact own_ret X1 hx Bd.notSynchronized Bd.returns rfl (Or.inr (Or.inr ⟨rfl, rfl, rfl⟩)) (hb hby d1_7) ⟨rfl, e1⟩ (by decide) (by decide)
  · skip
    refine own_pre (F' := T0.setTop (mkF m 8 #[.val (.int p0)] [])) (fun _ k => XS.ifYes X0.here hx rfl (pc0 := 1) (pc' := 8) rfl (hb hby d1_1) rfl ((if0 _ _).trans (feq hc1).2) (by decide) (by decide) k) ?_
    refine own_pre (F' := T0.setTop (mkF m 9 #[.val (.int p0)] [(.int p0)])) (fun _ k => XS.iloadN X0.here hx rfl (hb hby d1_8) rfl k) ?_
    refine own_pre (F' := T0.setTop (mkF m 10 #[.val (.int p0)] [(.int (1 : Int32)), (.int p0)])) (fun _ k => XS.iconst X0.here hx rfl (hb hby d1_9) k) ?_
    refine own_iteR (fun hc10 => ?_) (fun hc10 => ?_)
    · skip
      refine own_pre (F' := T0.setTop (mkF m 13 #[.val (.int p0)] [])) (fun _ k => XS.icmpNo X0.here hx rfl (hb hby d1_10) rfl (teq hc10).2 k) ?_
      obtain ⟨T2, X2, e2, st'⟩ := getS2 X0 hx hZ hown (host := "") (Or.inl (hw _ (List.mem_of_getElem? (i := 33) rfl))) Via.refl e0 Sw_CAPITAL_LETTERS (g := (mkF m 13 #[.val (.int p0)] [])) rfl (hb hby d1_13)
      refine own_pre (F' := T2.setTop (mkF m 16 #[.val (.int p0)] [(.ref w_CAPITAL_LETTERS)])) (fun t k => st' t k) ?_
      exact own_ret X2 hx Bd.notSynchronized Bd.returns rfl (Or.inr (Or.inr ⟨rfl, rfl, rfl⟩)) (hb hby d1_16) ⟨rfl, e2⟩ (by decide) (by decide)
    · skip
      refine own_pre (F' := T0.setTop (mkF m 17 #[.val (.int p0)] [])) (fun _ k => XS.icmpYes X0.here hx rfl (pc0 := 10) (pc' := 17) rfl (hb hby d1_10) rfl (feq hc10).2 (by decide) (by decide) k) ?_
      refine own_pre (F' := T0.setTop (mkF m 18 #[.val (.int p0)] [(.int p0)])) (fun _ k => XS.iloadN X0.here hx rfl (hb hby d1_17) rfl k) ?_
      refine own_pre (F' := T0.setTop (mkF m 19 #[.val (.int p0)] [(.int (2 : Int32)), (.int p0)])) (fun _ k => XS.iconst X0.here hx rfl (hb hby d1_18) k) ?_
      refine own_iteR (fun hc19 => ?_) (fun hc19 => ?_)
      · skip
        refine own_pre (F' := T0.setTop (mkF m 22 #[.val (.int p0)] [])) (fun _ k => XS.icmpNo X0.here hx rfl (hb hby d1_19) rfl (teq hc19).2 k) ?_
        obtain ⟨T3, X3, e3, st'⟩ := getS2 X0 hx hZ hown (host := "") (Or.inl (hw _ (List.mem_of_getElem? (i := 35) rfl))) Via.refl e0 Sw_SMALL_ROMAN (g := (mkF m 22 #[.val (.int p0)] [])) rfl (hb hby d1_22)
        refine own_pre (F' := T3.setTop (mkF m 25 #[.val (.int p0)] [(.ref w_SMALL_ROMAN)])) (fun t k => st' t k) ?_
        exact own_ret X3 hx Bd.notSynchronized Bd.returns rfl (Or.inr (Or.inr ⟨rfl, rfl, rfl⟩)) (hb hby d1_25) ⟨rfl, e3⟩ (by decide) (by decide)
      · skip
        refine own_pre (F' := T0.setTop (mkF m 26 #[.val (.int p0)] [])) (fun _ k => XS.icmpYes X0.here hx rfl (pc0 := 19) (pc' := 26) rfl (hb hby d1_19) rfl (feq hc19).2 (by decide) (by decide) k) ?_
        refine own_pre (F' := T0.setTop (mkF m 27 #[.val (.int p0)] [(.int p0)])) (fun _ k => XS.iloadN X0.here hx rfl (hb hby d1_26) rfl k) ?_
        refine own_pre (F' := T0.setTop (mkF m 28 #[.val (.int p0)] [(.int (3 : Int32)), (.int p0)])) (fun _ k => XS.iconst X0.here hx rfl (hb hby d1_27) k) ?_
        refine own_iteR (fun hc28 => ?_) (fun hc28 => ?_)
        · skip
          refine own_pre (F' := T0.setTop (mkF m 31 #[.val (.int p0)] [])) (fun _ k => XS.icmpNo X0.here hx rfl (hb hby d1_28) rfl (teq hc28).2 k) ?_
          obtain ⟨T4, X4, e4, st'⟩ := getS2 X0 hx hZ hown (host := "") (Or.inl (hw _ (List.mem_of_getElem? (i := 8) rfl))) Via.refl e0 Sw_CAPITAL_ROMAN (g := (mkF m 31 #[.val (.int p0)] [])) rfl (hb hby d1_31)
          refine own_pre (F' := T4.setTop (mkF m 34 #[.val (.int p0)] [(.ref w_CAPITAL_ROMAN)])) (fun t k => st' t k) ?_
          exact own_ret X4 hx Bd.notSynchronized Bd.returns rfl (Or.inr (Or.inr ⟨rfl, rfl, rfl⟩)) (hb hby d1_34) ⟨rfl, e4⟩ (by decide) (by decide)
        · skip
          refine own_pre (F' := T0.setTop (mkF m 35 #[.val (.int p0)] [])) (fun _ k => XS.icmpYes X0.here hx rfl (pc0 := 28) (pc' := 35) rfl (hb hby d1_28) rfl (feq hc28).2 (by decide) (by decide) k) ?_
          obtain ⟨T5, X5, e5, st'⟩ := getS2 X0 hx hZ hown (host := "") (Or.inl (hw _ (List.mem_of_getElem? (i := 37) rfl))) Via.refl e0 Sw_ARABIC (g := (mkF m 35 #[.val (.int p0)] [])) rfl (hb hby d1_35)
          refine own_pre (F' := T5.setTop (mkF m 38 #[.val (.int p0)] [(.ref w_ARABIC)])) (fun t k => st' t k) ?_
          exact own_ret X5 hx Bd.notSynchronized Bd.returns rfl (Or.inr (Or.inr ⟨rfl, rfl, rfl⟩)) (hb hby d1_38) ⟨rfl, e5⟩ (by decide) (by decide)
theorem ef_1 (m : MethodId) (p0 : Int32) : entryFrame m #[(.int p0)] 1 = mkF m 0 #[.val (.int p0)] [] := by first | (simp [entryFrame, mkF, argsToLocals, Value.category]; done) | rfl
set_option maxRecDepth 65536 in
set_option maxHeartbeats 40000000 in
theorem rm1 (l : Launch) (Z : State) (aw : Array Value) (hw : ∀ d ∈ tables_1, d.before aw Z = true) (ws : List Jvm.Cond) (p0 : Int32) (w_SMALL_LETTERS : Addr) (w_CAPITAL_LETTERS : Addr) (w_SMALL_ROMAN : Addr) (w_CAPITAL_ROMAN : Addr) (w_ARABIC : Addr) (h0 : Heap) (Sw_SMALL_LETTERS : Sta Z h0 "com/example/recital/recital/Numbering$Style" "SMALL_LETTERS" "Lcom/example/recital/recital/Numbering$Style;" (.ref w_SMALL_LETTERS)) (Sw_CAPITAL_LETTERS : Sta Z h0 "com/example/recital/recital/Numbering$Style" "CAPITAL_LETTERS" "Lcom/example/recital/recital/Numbering$Style;" (.ref w_CAPITAL_LETTERS)) (Sw_SMALL_ROMAN : Sta Z h0 "com/example/recital/recital/Numbering$Style" "SMALL_ROMAN" "Lcom/example/recital/recital/Numbering$Style;" (.ref w_SMALL_ROMAN)) (Sw_CAPITAL_ROMAN : Sta Z h0 "com/example/recital/recital/Numbering$Style" "CAPITAL_ROMAN" "Lcom/example/recital/recital/Numbering$Style;" (.ref w_CAPITAL_ROMAN)) (Sw_ARABIC : Sta Z h0 "com/example/recital/recital/Numbering$Style" "ARABIC" "Lcom/example/recital/recital/Numbering$Style;" (.ref w_ARABIC)) :
    MetFree l (⟨"com/example/recital/recital/NumberingFollowsPinLaw", "style", "(I)Lcom/example/recital/recital/Numbering$Style;"⟩ : MethodName) (head1 (Jvm.Cond.code (⟨"com/example/recital/recital/NumberingFollowsPinLaw", "style", "(I)Lcom/example/recital/recital/Numbering$Style;"⟩ : MethodName) method_2_code 1 (some (.object "com/example/recital/recital/Numbering$Style")) :: ws) ({ frames := 0, cells := 0, slots := 0, locals := 0 } : Room)) (fun a U => a = #[(.int p0)] ∧ Z.Warmed39 U.vm ∧ U.heap = h0) (fun _ _ _ _ _ => True) (fun _ U o U' => ∃ v L, o = .returned v ∧ own_Q (some (.ref (f1_0 p0 w_SMALL_LETTERS w_CAPITAL_LETTERS w_SMALL_ROMAN w_CAPITAL_ROMAN w_ARABIC))) (own_K0 h0) v U'.heap L ∧ FrameEnd U o U' L ({ frames := 0, cells := 0, slots := 0, locals := 0 } : Room).cells ({ frames := 0, cells := 0, slots := 0, locals := 0 } : Room).slots) := by
  refine MetFree.of_bodySF (plainFor_of_name own_pn0) hisR ?_
  intro p e s m args below meth c s₁ Bd hml0 hP hK
  obtain ⟨rfl, hZ, hh⟩ := hP
  have hml : c.maxLocals = 1 := hml0
  have e0 : s₁.heap = h0 := by rw [← hh, Bd.state]; rfl
  exact own_pre (fun t k => castTop (ef_1 m p0) k) (g1_0 hw p0 w_SMALL_LETTERS w_CAPITAL_LETTERS w_SMALL_ROMAN w_CAPITAL_ROMAN w_ARABIC Sw_SMALL_LETTERS Sw_CAPITAL_LETTERS Sw_SMALL_ROMAN Sw_CAPITAL_ROMAN Sw_ARABIC Bd hml hZ s₁ (Stand.of_body Bd) e0)
/-! body 3 -/
theorem d3_0 : decode jdk_30_method_1_code 0 = .ok (.aload_n 0, 1) := by decide +kernel
theorem d3_1 : decode jdk_30_method_1_code 1 = .ok (.invokespecial 1, 3) := by decide +kernel
theorem d3_4 : decode jdk_30_method_1_code 4 = .ok (.return_, 1) := by decide +kernel
theorem own_pn1 : plainName "java/lang/Record" = true := by first | (simp [plainName, overriddenIn]; done) | decide +kernel
def R3 (t : Unit) : Option Value := none
def K3 (Z : State) (a0 : Addr) (h0 : Heap) (n0 : Nat) (t : Unit) (h : Heap) (L : List Loc) : Prop := Fr n0 L ∧ Keep h0 h []
def f3_0  : Unit := ()
set_option maxRecDepth 65536 in
set_option maxHeartbeats 40000000 in
theorem g3_0 {p : Program} {l : Launch} {e : Env} {s : State} {m : MethodId} {below : List Frame} {meth : Method} {c : Code} {s₁ : State} {ws : List Jvm.Cond} {Z : State} {aw : Array Value} (hw : ∀ d ∈ tables_1, d.before aw Z = true) {h0 : Heap} {n0 : Nat}  (a0 : Addr)
    (Bd : BodyLoose p l (⟨"java/lang/Record", "<init>", "()V"⟩ : MethodName) (head1 (Jvm.Cond.code (⟨"java/lang/Record", "<init>", "()V"⟩ : MethodName) jdk_30_method_1_code 1 none :: ws) ({ frames := 1, cells := 0, slots := 0, locals := 20 } : Room)) jdk_30_method_1_code 1 none e s m #[(.ref a0)] below meth c s₁) (hml : c.maxLocals = 1) (hZ : Z.Warmed39 s.vm) (T0 : State) {locs : List Loc} (X0 : Stand p l e ({ frames := 1, cells := 0, slots := 0, locals := 20 } : Room) s m #[(.ref a0)] below meth c T0 locs 0 0) (e0 : T0.heap = h0) (SZ0 : n0 ≤ h0.size) (NF0 : Fr n0 locs) (KP0 : Keep h0 h0 []) :
    own_Go p e below s ({ frames := 1, cells := 0, slots := 0, locals := 20 } : Room).cells ({ frames := 1, cells := 0, slots := 0, locals := 20 } : Room).slots (R3 (f3_0 )) (K3 Z a0 h0 n0 (f3_0 )) (T0.setTop (mkF m 0 #[.val (.ref a0)] [])) := by
  have hx := Bd.exec
  have hby := Bd.bytes
  have hown : s.vm.findClass "java/lang/Record" = some m.cls := findClass_of_methodNamed Bd.named
  have hnm := (name_of_methodNamed Bd.named Bd.method).1
  unfold f3_0
  refine own_pre (F' := T0.setTop (mkF m 1 #[.val (.ref a0)] [(.ref a0)])) (fun _ k => XS.aloadN X0.here hx rfl (hb hby d3_0) rfl rfl k) ?_
  obtain ⟨T1, X1, e1, st'⟩ := initO X0 hx hZ hown (hw _ (List.mem_of_getElem? (i := 19) rfl)) (hw _ (List.mem_of_getElem? (i := 20) rfl)) (hw _ (List.mem_of_getElem? (i := 21) rfl)) e0 (g := (mkF m 1 #[.val (.ref a0)] [(.ref a0)])) rfl (by rw [hml]; rfl) rfl (hb hby d3_1) (by decide) (W := 0) (by show 2 * 0 + _ ≤ _; exact Nat.le_of_eq rfl) (by decide)
  refine own_pre (F' := T1.setTop (mkF m 4 #[.val (.ref a0)] [])) (fun t k => st' t k) ?_
  exact own_retV X1 hx Bd.notSynchronized Bd.returns (hb hby d3_4) (by rw [e1]; exact ⟨NF0, KP0⟩) (by decide) (by decide)
theorem ef_3 (m : MethodId) (a0 : Addr) : entryFrame m #[(.ref a0)] 1 = mkF m 0 #[.val (.ref a0)] [] := by first | (simp [entryFrame, mkF, argsToLocals, Value.category]; done) | rfl
set_option maxRecDepth 65536 in
set_option maxHeartbeats 40000000 in
theorem rm3 (l : Launch) (Z : State) (aw : Array Value) (hw : ∀ d ∈ tables_1, d.before aw Z = true) (ws : List Jvm.Cond)  (a0 : Addr) (h0 : Heap) (n0 : Nat) (SZ0 : n0 ≤ h0.size) :
    MetFree l (⟨"java/lang/Record", "<init>", "()V"⟩ : MethodName) (head1 (Jvm.Cond.code (⟨"java/lang/Record", "<init>", "()V"⟩ : MethodName) jdk_30_method_1_code 1 none :: ws) ({ frames := 1, cells := 0, slots := 0, locals := 20 } : Room)) (fun a U => a = #[(.ref a0)] ∧ Z.Warmed39 U.vm ∧ U.heap = h0) (fun _ _ _ _ _ => True) (fun _ U o U' => ∃ v L, o = .returned v ∧ own_Q (R3 (f3_0 )) (K3 Z a0 h0 n0 (f3_0 )) v U'.heap L ∧ FrameEnd U o U' L ({ frames := 1, cells := 0, slots := 0, locals := 20 } : Room).cells ({ frames := 1, cells := 0, slots := 0, locals := 20 } : Room).slots) := by
  refine MetFree.of_bodySF (plainFor_of_name own_pn1) hisR ?_
  intro p e s m args below meth c s₁ Bd hml0 hP hK
  obtain ⟨rfl, hZ, hh⟩ := hP
  have hml : c.maxLocals = 1 := hml0
  have e0 : s₁.heap = h0 := by rw [← hh, Bd.state]; rfl
  exact own_pre (fun t k => castTop (ef_3 m a0) k) (g3_0 hw  a0 Bd hml hZ s₁ (Stand.of_body Bd) e0 SZ0 (Fr.nil n0) (Keep.refl _ _))
theorem own_pd0 : parseMethodDescriptor "()V" = some ⟨[], none⟩ := by decide +kernel
/-! body 2 -/
theorem d2_0 : decode prog_86_method_1_code 0 = .ok (.aload_n 0, 1) := by decide +kernel
theorem d2_1 : decode prog_86_method_1_code 1 = .ok (.invokespecial 1, 3) := by decide +kernel
theorem d2_4 : decode prog_86_method_1_code 4 = .ok (.aload_n 0, 1) := by decide +kernel
theorem d2_5 : decode prog_86_method_1_code 5 = .ok (.aload_n 1, 1) := by decide +kernel
theorem d2_6 : decode prog_86_method_1_code 6 = .ok (.putfield 7, 3) := by decide +kernel
theorem d2_9 : decode prog_86_method_1_code 9 = .ok (.aload_n 0, 1) := by decide +kernel
theorem d2_10 : decode prog_86_method_1_code 10 = .ok (.iload_n 2, 1) := by decide +kernel
theorem d2_11 : decode prog_86_method_1_code 11 = .ok (.putfield 13, 3) := by decide +kernel
theorem d2_14 : decode prog_86_method_1_code 14 = .ok (.return_, 1) := by decide +kernel
theorem own_pn2 : plainName "com/example/recital/recital/Numbering" = true := by first | (simp [plainName, overriddenIn]; done) | decide +kernel
def R2 (t : Addr × Int32) : Option Value := none
def K2 (Z : State) (a0 : Addr) (h0 : Heap) (n0 : Nat) (t : Addr × Int32) (h : Heap) (L : List Loc) : Prop := Fr n0 L ∧ Keep h0 h [a0] ∧ Exa Z h a0 "com/example/recital/recital/Numbering" ∧ Fld Z h a0 "com/example/recital/recital/Numbering" "style" "Lcom/example/recital/recital/Numbering$Style;" (.ref t.1) ∧ Fld Z h a0 "com/example/recital/recital/Numbering" "value" "I" (.int t.2)
def f2_0 (a1 : Addr) (p2 : Int32) (u0_style : Value) (u0_value : Int32) : Addr × Int32 := (a1, p2)
set_option maxRecDepth 65536 in
set_option maxHeartbeats 40000000 in
theorem g2_0 {p : Program} {l : Launch} {e : Env} {s : State} {m : MethodId} {below : List Frame} {meth : Method} {c : Code} {s₁ : State} {ws : List Jvm.Cond} {Z : State} {aw : Array Value} (hw : ∀ d ∈ tables_1, d.before aw Z = true) {h0 : Heap} {n0 : Nat} (a1 : Addr) (p2 : Int32) (u0_style : Value) (u0_value : Int32) (a0 : Addr)
    (Bd : BodyLoose p l (⟨"com/example/recital/recital/Numbering", "<init>", "(Lcom/example/recital/recital/Numbering$Style;I)V"⟩ : MethodName) (head1 (Jvm.Cond.code (⟨"com/example/recital/recital/Numbering", "<init>", "(Lcom/example/recital/recital/Numbering$Style;I)V"⟩ : MethodName) prog_86_method_1_code 3 none :: ws) ({ frames := 2, cells := 0, slots := 0, locals := 40 } : Room)) prog_86_method_1_code 3 none e s m #[(.ref a0), (.ref a1), (.int p2)] below meth c s₁) (hml : c.maxLocals = 3) (hZ : Z.Warmed39 s.vm) (g_a0 : n0 ≤ a0) (T0 : State) {locs : List Loc} (X0 : Stand p l e ({ frames := 2, cells := 0, slots := 0, locals := 40 } : Room) s m #[(.ref a0), (.ref a1), (.int p2)] below meth c T0 locs 0 0) (e0 : T0.heap = h0) (SZ0 : n0 ≤ h0.size) (NF0 : Fr n0 locs) (KP0 : Keep h0 h0 [a0]) (E_a0 : Exa Z h0 a0 "com/example/recital/recital/Numbering") (F_a0_style : Fld Z h0 a0 "com/example/recital/recital/Numbering" "style" "Lcom/example/recital/recital/Numbering$Style;" u0_style) (F_a0_value : Fld Z h0 a0 "com/example/recital/recital/Numbering" "value" "I" (.int u0_value)) :
    own_Go p e below s ({ frames := 2, cells := 0, slots := 0, locals := 40 } : Room).cells ({ frames := 2, cells := 0, slots := 0, locals := 40 } : Room).slots (R2 (f2_0 a1 p2 u0_style u0_value)) (K2 Z a0 h0 n0 (f2_0 a1 p2 u0_style u0_value)) (T0.setTop (mkF m 0 #[.val (.ref a0), .val (.ref a1), .val (.int p2)] [])) := by
  have hx := Bd.exec
  have hby := Bd.bytes
  have hown : s.vm.findClass "com/example/recital/recital/Numbering" = some m.cls := findClass_of_methodNamed Bd.named
  have hnm := (name_of_methodNamed Bd.named Bd.method).1
  unfold f2_0
  refine own_pre (F' := T0.setTop (mkF m 1 #[.val (.ref a0), .val (.ref a1), .val (.int p2)] [(.ref a0)])) (fun _ k => XS.aloadN X0.here hx rfl (hb hby d2_0) rfl rfl k) ?_
  obtain ⟨_, _, ⟨T1, L1, k1, n1⟩, -, X1', ⟨Lc1, hQ1, l1, y1, z1⟩, st'⟩ := X0.specialBack hx (y := (⟨"java/lang/Record", "<init>", "()V"⟩ : MethodName)) rfl hown (mvT hZ (hw _ (List.mem_of_getElem? (i := 14) rfl))) (mvT hZ (hw _ (List.mem_of_getElem? (i := 15) rfl))) (mvT hZ (hw _ (List.mem_of_getElem? (i := 18) rfl))) (by decide) (backOf (W := 0) (rm3 l Z aw hw []  a0 h0 n0 SZ0 ) hZ (hw _ (List.mem_of_getElem? (i := 18) rfl)) (hw _ (List.mem_of_getElem? (i := 17) rfl)) (by decide) (by decide)) (g := (mkF m 1 #[.val (.ref a0), .val (.ref a1), .val (.int p2)] [(.ref a0)])) rfl (by rw [hml]; rfl) (Steps.refl _) (a := a0) (argsL := []) (rest := []) (lenOf own_pd0 rfl) rfl (by show 2 * 0 + _ ≤ _; exact Nat.le_of_eq rfl) (hb hby d2_1) (fun _ _ => ⟨rfl, e0, (by decide : 0 + 0 ≤ _), (by decide : 0 + 0 ≤ _)⟩)
  dsimp only [Pt.U, Pt.locs, Pt.cells, Pt.slots] at X1' l1 y1 z1 st' hQ1
  subst l1 y1 z1
  obtain ⟨rfl, NFq1, KPq1⟩ := hQ1
  have X1 : Stand p l e ({ frames := 2, cells := 0, slots := 0, locals := 40 } : Room) s m #[(.ref a0), (.ref a1), (.int p2)] below meth c T1 _ 0 0 := X1'
  have NF1 := Fr.app NF0 NFq1
  have SZ1 : n0 ≤ T1.heap.size := Nat.le_trans SZ0 KPq1.1
  have KP1 : Keep h0 T1.heap [a0] := KP0.trans KPq1 all0
  have f2 := E_a0.keep KPq1
  have f3 := F_a0_style.keep KPq1 nin0
  have f4 := F_a0_value.keep KPq1 nin0
  refine own_pre (F' := T1.setTop (mkF m 4 #[.val (.ref a0), .val (.ref a1), .val (.int p2)] [])) (fun t k => st'.trans k) ?_
  refine own_pre (F' := T1.setTop (mkF m 5 #[.val (.ref a0), .val (.ref a1), .val (.int p2)] [(.ref a0)])) (fun _ k => XS.aloadN X1.here hx rfl (hb hby d2_4) rfl rfl k) ?_
  refine own_pre (F' := T1.setTop (mkF m 6 #[.val (.ref a0), .val (.ref a1), .val (.int p2)] [(.ref a1), (.ref a0)])) (fun _ k => XS.aloadN X1.here hx rfl (hb hby d2_5) rfl rfl k) ?_
  obtain ⟨T5, h5, X5, e5, W5, st'⟩ := putF X1 hx hZ hown (host := "") (Or.inl (hw _ (List.mem_of_getElem? (i := 22) rfl))) Via.refl (rfl : T1.heap = T1.heap) f3 f2 (Or.inr ⟨(hw _ (List.mem_of_getElem? (i := 23) rfl)), rfl, hnm⟩) (hw _ (List.mem_of_getElem? (i := 2) rfl)) (ty := (.object "com/example/recital/recital/Numbering$Style")) (by decide) rfl rfl (g := (mkF m 6 #[.val (.ref a0), .val (.ref a1), .val (.int p2)] [(.ref a1), (.ref a0)])) rfl rfl (hb hby d2_6)
  have f6 := f3.same W5
  have f7 := f2.wr W5
  have f8 := f4.other W5 (Or.inr (slot_ne (Or.inr (hw _ (List.mem_of_getElem? (i := 25) rfl))) (Or.inr (hw _ (List.mem_of_getElem? (i := 23) rfl))) (by decide) (t := .int) (t' := (.object "com/example/recital/recital/Numbering$Style")) (by decide) (by decide)))
  have NF5 := Fr.snoc X5 NF1 g_a0
  have SZ5 : n0 ≤ h5.size := (Nat.le_trans SZ1 (Keep.of_wr W5).1)
  have KP5 : Keep h0 h5 [a0] := KP1.wr W5 (Or.inl (List.mem_of_getElem? (i := 0) rfl))
  refine own_pre (F' := T5.setTop (mkF m 9 #[.val (.ref a0), .val (.ref a1), .val (.int p2)] [])) (fun t k => st' t k) ?_
  refine own_pre (F' := T5.setTop (mkF m 10 #[.val (.ref a0), .val (.ref a1), .val (.int p2)] [(.ref a0)])) (fun _ k => XS.aloadN X5.here hx rfl (hb hby d2_9) rfl rfl k) ?_
  refine own_pre (F' := T5.setTop (mkF m 11 #[.val (.ref a0), .val (.ref a1), .val (.int p2)] [(.int p2), (.ref a0)])) (fun _ k => XS.iloadN X5.here hx rfl (hb hby d2_10) rfl k) ?_
  obtain ⟨T9, h9, X9, e9, W9, st'⟩ := putF X5 hx hZ hown (host := "") (Or.inl (hw _ (List.mem_of_getElem? (i := 24) rfl))) Via.refl e5 f8 f7 (Or.inr ⟨(hw _ (List.mem_of_getElem? (i := 25) rfl)), rfl, hnm⟩) (hw _ (List.mem_of_getElem? (i := 2) rfl)) (ty := .int) (by decide) rfl rfl (g := (mkF m 11 #[.val (.ref a0), .val (.ref a1), .val (.int p2)] [(.int p2), (.ref a0)])) rfl rfl (hb hby d2_11)
  have f10 := f8.same W9
  have f11 := f7.wr W9
  have f12 := f6.other W9 (Or.inr (slot_ne (Or.inr (hw _ (List.mem_of_getElem? (i := 23) rfl))) (Or.inr (hw _ (List.mem_of_getElem? (i := 25) rfl))) (by decide) (t := (.object "com/example/recital/recital/Numbering$Style")) (t' := .int) (by decide) (by decide)))
  have NF9 := Fr.snoc X9 NF5 g_a0
  have SZ9 : n0 ≤ h9.size := (Nat.le_trans SZ5 (Keep.of_wr W9).1)
  have KP9 : Keep h0 h9 [a0] := KP5.wr W9 (Or.inl (List.mem_of_getElem? (i := 0) rfl))
  refine own_pre (F' := T9.setTop (mkF m 14 #[.val (.ref a0), .val (.ref a1), .val (.int p2)] [])) (fun t k => st' t k) ?_
  exact own_retV X9 hx Bd.notSynchronized Bd.returns (hb hby d2_14) (by rw [e9]; exact ⟨NF9, KP9, f11, f12, f10⟩) (by decide) (by decide)
theorem ef_2 (m : MethodId) (a0 : Addr) (a1 : Addr) (p2 : Int32) : entryFrame m #[(.ref a0), (.ref a1), (.int p2)] 3 = mkF m 0 #[.val (.ref a0), .val (.ref a1), .val (.int p2)] [] := by first | (simp [entryFrame, mkF, argsToLocals, Value.category]; done) | rfl
set_option maxRecDepth 65536 in
set_option maxHeartbeats 40000000 in
theorem rm2 (l : Launch) (Z : State) (aw : Array Value) (hw : ∀ d ∈ tables_1, d.before aw Z = true) (ws : List Jvm.Cond) (a1 : Addr) (p2 : Int32) (u0_style : Value) (u0_value : Int32) (a0 : Addr) (h0 : Heap) (n0 : Nat) (SZ0 : n0 ≤ h0.size) (E_a0 : Exa Z h0 a0 "com/example/recital/recital/Numbering") (F_a0_style : Fld Z h0 a0 "com/example/recital/recital/Numbering" "style" "Lcom/example/recital/recital/Numbering$Style;" u0_style) (F_a0_value : Fld Z h0 a0 "com/example/recital/recital/Numbering" "value" "I" (.int u0_value)) (g_a0 : n0 ≤ a0) :
    MetFree l (⟨"com/example/recital/recital/Numbering", "<init>", "(Lcom/example/recital/recital/Numbering$Style;I)V"⟩ : MethodName) (head1 (Jvm.Cond.code (⟨"com/example/recital/recital/Numbering", "<init>", "(Lcom/example/recital/recital/Numbering$Style;I)V"⟩ : MethodName) prog_86_method_1_code 3 none :: ws) ({ frames := 2, cells := 0, slots := 0, locals := 40 } : Room)) (fun a U => a = #[(.ref a0), (.ref a1), (.int p2)] ∧ Z.Warmed39 U.vm ∧ U.heap = h0) (fun _ _ _ _ _ => True) (fun _ U o U' => ∃ v L, o = .returned v ∧ own_Q (R2 (f2_0 a1 p2 u0_style u0_value)) (K2 Z a0 h0 n0 (f2_0 a1 p2 u0_style u0_value)) v U'.heap L ∧ FrameEnd U o U' L ({ frames := 2, cells := 0, slots := 0, locals := 40 } : Room).cells ({ frames := 2, cells := 0, slots := 0, locals := 40 } : Room).slots) := by
  refine MetFree.of_bodySF (plainFor_of_name own_pn2) hisR ?_
  intro p e s m args below meth c s₁ Bd hml0 hP hK
  obtain ⟨rfl, hZ, hh⟩ := hP
  have hml : c.maxLocals = 3 := hml0
  have e0 : s₁.heap = h0 := by rw [← hh, Bd.state]; rfl
  exact own_pre (fun t k => castTop (ef_2 m a0 a1 p2) k) (g2_0 hw a1 p2 u0_style u0_value a0 Bd hml hZ g_a0 s₁ (Stand.of_body Bd) e0 SZ0 (Fr.nil n0) (Keep.refl _ _) E_a0 F_a0_style F_a0_value)
/-! body 5 -/
theorem d5_0 : decode prog_86_method_6_code 0 = .ok (.aload_n 0, 1) := by decide +kernel
theorem d5_1 : decode prog_86_method_6_code 1 = .ok (.getfield 7, 3) := by decide +kernel
theorem d5_4 : decode prog_86_method_6_code 4 = .ok (.aload_n 1, 1) := by decide +kernel
theorem d5_5 : decode prog_86_method_6_code 5 = .ok (.getfield 7, 3) := by decide +kernel
theorem d5_8 : decode prog_86_method_6_code 8 = .ok (.if_acmp .ne 20, 3) := by decide +kernel
theorem d5_11 : decode prog_86_method_6_code 11 = .ok (.aload_n 0, 1) := by decide +kernel
theorem d5_12 : decode prog_86_method_6_code 12 = .ok (.getfield 13, 3) := by decide +kernel
theorem d5_15 : decode prog_86_method_6_code 15 = .ok (.aload_n 1, 1) := by decide +kernel
theorem d5_16 : decode prog_86_method_6_code 16 = .ok (.getfield 13, 3) := by decide +kernel
theorem d5_19 : decode prog_86_method_6_code 19 = .ok (.iconst 1, 1) := by decide +kernel
theorem d5_20 : decode prog_86_method_6_code 20 = .ok (.iadd, 1) := by decide +kernel
theorem d5_21 : decode prog_86_method_6_code 21 = .ok (.if_icmp .ne 7, 3) := by decide +kernel
theorem d5_24 : decode prog_86_method_6_code 24 = .ok (.iconst 1, 1) := by decide +kernel
theorem d5_25 : decode prog_86_method_6_code 25 = .ok (.goto 4, 3) := by decide +kernel
theorem d5_28 : decode prog_86_method_6_code 28 = .ok (.iconst 0, 1) := by decide +kernel
theorem d5_29 : decode prog_86_method_6_code 29 = .ok (.ireturn, 1) := by decide +kernel
def R5 (t : Int32) : Option Value := some (.int t)
def K5 (Z : State) (a0 : Addr) (a1 : Addr) (h0 : Heap) (n0 : Nat) (t : Int32) (h : Heap) (L : List Loc) : Prop := Fr n0 L ∧ Keep h0 h []
def f5_28 (u0_style : Addr) (u0_value : Int32) (u1_style : Addr) (u1_value : Int32) : Int32 := (0 : Int32)
set_option maxRecDepth 65536 in
set_option maxHeartbeats 40000000 in
theorem g5_28 {p : Program} {l : Launch} {e : Env} {s : State} {m : MethodId} {below : List Frame} {meth : Method} {c : Code} {s₁ : State} {ws : List Jvm.Cond} {Z : State} {aw : Array Value} (hw : ∀ d ∈ tables_1, d.before aw Z = true) {h0 : Heap} {n0 : Nat} (u0_style : Addr) (u0_value : Int32) (u1_style : Addr) (u1_value : Int32) (a0 : Addr) (a1 : Addr)
    (Bd : BodyLoose p l (⟨"com/example/recital/recital/Numbering", "follows", "(Lcom/example/recital/recital/Numbering;)Z"⟩ : MethodName) (head1 (Jvm.Cond.code (⟨"com/example/recital/recital/Numbering", "follows", "(Lcom/example/recital/recital/Numbering;)Z"⟩ : MethodName) prog_86_method_6_code 2 (some .boolean) :: ws) ({ frames := 0, cells := 0, slots := 0, locals := 0 } : Room)) prog_86_method_6_code 2 (some .boolean) e s m #[(.ref a0), (.ref a1)] below meth c s₁) (hml : c.maxLocals = 2) (hZ : Z.Warmed39 s.vm) (T0 : State) {locs : List Loc} (X0 : Stand p l e ({ frames := 0, cells := 0, slots := 0, locals := 0 } : Room) s m #[(.ref a0), (.ref a1)] below meth c T0 locs 0 0) {h : Heap} (e0 : T0.heap = h) (SZ0 : n0 ≤ h.size) (NF0 : Fr n0 locs) (KP0 : Keep h0 h []) (E_a0 : Exa Z h a0 "com/example/recital/recital/Numbering") (F_a0_style : Fld Z h a0 "com/example/recital/recital/Numbering" "style" "Lcom/example/recital/recital/Numbering$Style;" (.ref u0_style)) (F_a0_value : Fld Z h a0 "com/example/recital/recital/Numbering" "value" "I" (.int u0_value)) (E_a1 : Exa Z h a1 "com/example/recital/recital/Numbering") (F_a1_style : Fld Z h a1 "com/example/recital/recital/Numbering" "style" "Lcom/example/recital/recital/Numbering$Style;" (.ref u1_style)) (F_a1_value : Fld Z h a1 "com/example/recital/recital/Numbering" "value" "I" (.int u1_value)) :
    own_Go p e below s ({ frames := 0, cells := 0, slots := 0, locals := 0 } : Room).cells ({ frames := 0, cells := 0, slots := 0, locals := 0 } : Room).slots (R5 (f5_28 u0_style u0_value u1_style u1_value)) (K5 Z a0 a1 h0 n0 (f5_28 u0_style u0_value u1_style u1_value)) (T0.setTop (mkF m 28 #[.val (.ref a0), .val (.ref a1)] [])) := by
  have hx := Bd.exec
  have hby := Bd.bytes
  have hown : s.vm.findClass "com/example/recital/recital/Numbering" = some m.cls := findClass_of_methodNamed Bd.named
  have hnm := (name_of_methodNamed Bd.named Bd.method).1
  unfold f5_28
  refine own_pre (F' := T0.setTop (mkF m 29 #[.val (.ref a0), .val (.ref a1)] [(.int (0 : Int32))])) (fun _ k => XS.iconst X0.here hx rfl (hb hby d5_28) k) ?_
  exact own_ret X0 hx Bd.notSynchronized Bd.returns rfl (Or.inl ⟨rfl, by simp, _, rfl⟩) (hb hby d5_29) (by rw [e0]; exact ⟨NF0, KP0⟩) (by decide) (by decide)
def f5_0 (u0_style : Addr) (u0_value : Int32) (u1_style : Addr) (u1_value : Int32) : Int32 := (if u0_style = u1_style then (if u0_value = (u1_value + (1 : Int32)) then (1 : Int32) else (f5_28 u0_style u0_value u1_style u1_value)) else (f5_28 u0_style u0_value u1_style u1_value))
set_option maxRecDepth 65536 in
set_option maxHeartbeats 40000000 in
theorem g5_0 {p : Program} {l : Launch} {e : Env} {s : State} {m : MethodId} {below : List Frame} {meth : Method} {c : Code} {s₁ : State} {ws : List Jvm.Cond} {Z : State} {aw : Array Value} (hw : ∀ d ∈ tables_1, d.before aw Z = true) {h0 : Heap} {n0 : Nat} (u0_style : Addr) (u0_value : Int32) (u1_style : Addr) (u1_value : Int32) (a0 : Addr) (a1 : Addr)
    (Bd : BodyLoose p l (⟨"com/example/recital/recital/Numbering", "follows", "(Lcom/example/recital/recital/Numbering;)Z"⟩ : MethodName) (head1 (Jvm.Cond.code (⟨"com/example/recital/recital/Numbering", "follows", "(Lcom/example/recital/recital/Numbering;)Z"⟩ : MethodName) prog_86_method_6_code 2 (some .boolean) :: ws) ({ frames := 0, cells := 0, slots := 0, locals := 0 } : Room)) prog_86_method_6_code 2 (some .boolean) e s m #[(.ref a0), (.ref a1)] below meth c s₁) (hml : c.maxLocals = 2) (hZ : Z.Warmed39 s.vm) (T0 : State) {locs : List Loc} (X0 : Stand p l e ({ frames := 0, cells := 0, slots := 0, locals := 0 } : Room) s m #[(.ref a0), (.ref a1)] below meth c T0 locs 0 0) (e0 : T0.heap = h0) (SZ0 : n0 ≤ h0.size) (NF0 : Fr n0 locs) (KP0 : Keep h0 h0 []) (E_a0 : Exa Z h0 a0 "com/example/recital/recital/Numbering") (F_a0_style : Fld Z h0 a0 "com/example/recital/recital/Numbering" "style" "Lcom/example/recital/recital/Numbering$Style;" (.ref u0_style)) (F_a0_value : Fld Z h0 a0 "com/example/recital/recital/Numbering" "value" "I" (.int u0_value)) (E_a1 : Exa Z h0 a1 "com/example/recital/recital/Numbering") (F_a1_style : Fld Z h0 a1 "com/example/recital/recital/Numbering" "style" "Lcom/example/recital/recital/Numbering$Style;" (.ref u1_style)) (F_a1_value : Fld Z h0 a1 "com/example/recital/recital/Numbering" "value" "I" (.int u1_value)) :
    own_Go p e below s ({ frames := 0, cells := 0, slots := 0, locals := 0 } : Room).cells ({ frames := 0, cells := 0, slots := 0, locals := 0 } : Room).slots (R5 (f5_0 u0_style u0_value u1_style u1_value)) (K5 Z a0 a1 h0 n0 (f5_0 u0_style u0_value u1_style u1_value)) (T0.setTop (mkF m 0 #[.val (.ref a0), .val (.ref a1)] [])) := by
  have hx := Bd.exec
  have hby := Bd.bytes
  have hown : s.vm.findClass "com/example/recital/recital/Numbering" = some m.cls := findClass_of_methodNamed Bd.named
  have hnm := (name_of_methodNamed Bd.named Bd.method).1
  unfold f5_0
  refine own_pre (F' := T0.setTop (mkF m 1 #[.val (.ref a0), .val (.ref a1)] [(.ref a0)])) (fun _ k => XS.aloadN X0.here hx rfl (hb hby d5_0) rfl rfl k) ?_
  obtain ⟨T1, X1, e1, st'⟩ := getF X0 hx hZ hown (host := "") (Or.inl (hw _ (List.mem_of_getElem? (i := 22) rfl))) Via.refl e0 F_a0_style (g := (mkF m 1 #[.val (.ref a0), .val (.ref a1)] [(.ref a0)])) rfl rfl (hb hby d5_1)
  refine own_pre (F' := T1.setTop (mkF m 4 #[.val (.ref a0), .val (.ref a1)] [(.ref u0_style)])) (fun t k => st' t k) ?_
  refine own_pre (F' := T1.setTop (mkF m 5 #[.val (.ref a0), .val (.ref a1)] [(.ref a1), (.ref u0_style)])) (fun _ k => XS.aloadN X1.here hx rfl (hb hby d5_4) rfl rfl k) ?_
  obtain ⟨T2, X2, e2, st'⟩ := getF X1 hx hZ hown (host := "") (Or.inl (hw _ (List.mem_of_getElem? (i := 22) rfl))) Via.refl e1 F_a1_style (g := (mkF m 5 #[.val (.ref a0), .val (.ref a1)] [(.ref a1), (.ref u0_style)])) rfl rfl (hb hby d5_5)
  refine own_pre (F' := T2.setTop (mkF m 8 #[.val (.ref a0), .val (.ref a1)] [(.ref u1_style), (.ref u0_style)])) (fun t k => st' t k) ?_
  refine own_iteT R5 (K5 Z a0 a1 h0 n0) (fun ha8 => ?_) (fun ha8 => ?_)
  · skip
    refine own_pre (F' := T2.setTop (mkF m 11 #[.val (.ref a0), .val (.ref a1)] [])) (fun _ k => Jvm.RoadKit.acmp (g := (mkF m 8 #[.val (.ref a0), .val (.ref a1)] [(.ref u1_style), (.ref u0_style)])) X2 hx rfl rfl rfl (pc0 := 8) (pc' := 11) (same := true) rfl (hb hby d5_8) rfl (decide_eq_true (congrArg Value.ref ha8)) (by decide) (by decide) k) ?_
    refine own_pre (F' := T2.setTop (mkF m 12 #[.val (.ref a0), .val (.ref a1)] [(.ref a0)])) (fun _ k => XS.aloadN X2.here hx rfl (hb hby d5_11) rfl rfl k) ?_
    obtain ⟨T3, X3, e3, st'⟩ := getF X2 hx hZ hown (host := "") (Or.inl (hw _ (List.mem_of_getElem? (i := 24) rfl))) Via.refl e2 F_a0_value (g := (mkF m 12 #[.val (.ref a0), .val (.ref a1)] [(.ref a0)])) rfl rfl (hb hby d5_12)
    refine own_pre (F' := T3.setTop (mkF m 15 #[.val (.ref a0), .val (.ref a1)] [(.int u0_value)])) (fun t k => st' t k) ?_
    refine own_pre (F' := T3.setTop (mkF m 16 #[.val (.ref a0), .val (.ref a1)] [(.ref a1), (.int u0_value)])) (fun _ k => XS.aloadN X3.here hx rfl (hb hby d5_15) rfl rfl k) ?_
    obtain ⟨T4, X4, e4, st'⟩ := getF X3 hx hZ hown (host := "") (Or.inl (hw _ (List.mem_of_getElem? (i := 24) rfl))) Via.refl e3 F_a1_value (g := (mkF m 16 #[.val (.ref a0), .val (.ref a1)] [(.ref a1), (.int u0_value)])) rfl rfl (hb hby d5_16)
    refine own_pre (F' := T4.setTop (mkF m 19 #[.val (.ref a0), .val (.ref a1)] [(.int u1_value), (.int u0_value)])) (fun t k => st' t k) ?_
    refine own_pre (F' := T4.setTop (mkF m 20 #[.val (.ref a0), .val (.ref a1)] [(.int (1 : Int32)), (.int u1_value), (.int u0_value)])) (fun _ k => XS.iconst X4.here hx rfl (hb hby d5_19) k) ?_
    refine own_pre (F' := T4.setTop (mkF m 21 #[.val (.ref a0), .val (.ref a1)] [(.int (u1_value + (1 : Int32))), (.int u0_value)])) (fun _ k => XS.iadd X4.here hx rfl (hb hby d5_20) rfl k) ?_
    refine own_iteT R5 (K5 Z a0 a1 h0 n0) (fun hc21 => ?_) (fun hc21 => ?_)
    · skip
      refine own_pre (F' := T4.setTop (mkF m 24 #[.val (.ref a0), .val (.ref a1)] [])) (fun _ k => XS.icmpNo X4.here hx rfl (hb hby d5_21) rfl (teq hc21).2 k) ?_
      refine own_pre (F' := T4.setTop (mkF m 25 #[.val (.ref a0), .val (.ref a1)] [(.int (1 : Int32))])) (fun _ k => XS.iconst X4.here hx rfl (hb hby d5_24) k) ?_
      refine own_pre (F' := T4.setTop (mkF m 29 #[.val (.ref a0), .val (.ref a1)] [(.int (1 : Int32))])) (fun _ k => XS.goto X4.here hx rfl (pc0 := 25) (pc' := 29) rfl (hb hby d5_25) (by decide) (by decide) k) ?_
      exact own_ret X4 hx Bd.notSynchronized Bd.returns rfl (Or.inl ⟨rfl, by simp, _, rfl⟩) (hb hby d5_29) (by rw [e4]; exact ⟨NF0, KP0⟩) (by decide) (by decide)
    · skip
      refine own_pre (F' := T4.setTop (mkF m 28 #[.val (.ref a0), .val (.ref a1)] [])) (fun _ k => XS.icmpYes X4.here hx rfl (pc0 := 21) (pc' := 28) rfl (hb hby d5_21) rfl (feq hc21).2 (by decide) (by decide) k) ?_
      exact g5_28 hw u0_style u0_value u1_style u1_value a0 a1 Bd hml hZ T4 X4 e4 SZ0 NF0 KP0 E_a0 F_a0_style F_a0_value E_a1 F_a1_style F_a1_value
  · skip
    refine own_pre (F' := T2.setTop (mkF m 28 #[.val (.ref a0), .val (.ref a1)] [])) (fun _ k => Jvm.RoadKit.acmp (g := (mkF m 8 #[.val (.ref a0), .val (.ref a1)] [(.ref u1_style), (.ref u0_style)])) X2 hx rfl rfl rfl (pc0 := 8) (pc' := 28) (same := false) rfl (hb hby d5_8) rfl (decide_eq_false fun q => ha8 (Value.ref.inj q)) (by decide) (by decide) k) ?_
    exact g5_28 hw u0_style u0_value u1_style u1_value a0 a1 Bd hml hZ T2 X2 e2 SZ0 NF0 KP0 E_a0 F_a0_style F_a0_value E_a1 F_a1_style F_a1_value
theorem ef_5 (m : MethodId) (a0 : Addr) (a1 : Addr) : entryFrame m #[(.ref a0), (.ref a1)] 2 = mkF m 0 #[.val (.ref a0), .val (.ref a1)] [] := by first | (simp [entryFrame, mkF, argsToLocals, Value.category]; done) | rfl
set_option maxRecDepth 65536 in
set_option maxHeartbeats 40000000 in
theorem rm5 (l : Launch) (Z : State) (aw : Array Value) (hw : ∀ d ∈ tables_1, d.before aw Z = true) (ws : List Jvm.Cond) (u0_style : Addr) (u0_value : Int32) (u1_style : Addr) (u1_value : Int32) (a0 : Addr) (a1 : Addr) (h0 : Heap) (n0 : Nat) (SZ0 : n0 ≤ h0.size) (E_a0 : Exa Z h0 a0 "com/example/recital/recital/Numbering") (F_a0_style : Fld Z h0 a0 "com/example/recital/recital/Numbering" "style" "Lcom/example/recital/recital/Numbering$Style;" (.ref u0_style)) (F_a0_value : Fld Z h0 a0 "com/example/recital/recital/Numbering" "value" "I" (.int u0_value)) (E_a1 : Exa Z h0 a1 "com/example/recital/recital/Numbering") (F_a1_style : Fld Z h0 a1 "com/example/recital/recital/Numbering" "style" "Lcom/example/recital/recital/Numbering$Style;" (.ref u1_style)) (F_a1_value : Fld Z h0 a1 "com/example/recital/recital/Numbering" "value" "I" (.int u1_value)) :
    MetFree l (⟨"com/example/recital/recital/Numbering", "follows", "(Lcom/example/recital/recital/Numbering;)Z"⟩ : MethodName) (head1 (Jvm.Cond.code (⟨"com/example/recital/recital/Numbering", "follows", "(Lcom/example/recital/recital/Numbering;)Z"⟩ : MethodName) prog_86_method_6_code 2 (some .boolean) :: ws) ({ frames := 0, cells := 0, slots := 0, locals := 0 } : Room)) (fun a U => a = #[(.ref a0), (.ref a1)] ∧ Z.Warmed39 U.vm ∧ U.heap = h0) (fun _ _ _ _ _ => True) (fun _ U o U' => ∃ v L, o = .returned v ∧ own_Q (R5 (f5_0 u0_style u0_value u1_style u1_value)) (K5 Z a0 a1 h0 n0 (f5_0 u0_style u0_value u1_style u1_value)) v U'.heap L ∧ FrameEnd U o U' L ({ frames := 0, cells := 0, slots := 0, locals := 0 } : Room).cells ({ frames := 0, cells := 0, slots := 0, locals := 0 } : Room).slots) := by
  refine MetFree.of_bodySF (plainFor_of_name own_pn2) hisR ?_
  intro p e s m args below meth c s₁ Bd hml0 hP hK
  obtain ⟨rfl, hZ, hh⟩ := hP
  have hml : c.maxLocals = 2 := hml0
  have e0 : s₁.heap = h0 := by rw [← hh, Bd.state]; rfl
  exact own_pre (fun t k => castTop (ef_5 m a0 a1) k) (g5_0 hw u0_style u0_value u1_style u1_value a0 a1 Bd hml hZ s₁ (Stand.of_body Bd) e0 SZ0 (Fr.nil n0) (Keep.refl _ _) E_a0 F_a0_style F_a0_value E_a1 F_a1_style F_a1_value)
theorem own_pd1 : parseMethodDescriptor "(I)Lcom/example/recital/recital/Numbering$Style;" = some ⟨[.int], some (.object "com/example/recital/recital/Numbering$Style")⟩ := by decide +kernel
theorem own_pd2 : parseMethodDescriptor "(Lcom/example/recital/recital/Numbering$Style;I)V" = some ⟨[(.object "com/example/recital/recital/Numbering$Style"), .int], none⟩ := by decide +kernel
theorem own_pd3 : parseMethodDescriptor "(Lcom/example/recital/recital/Numbering;)Z" = some ⟨[(.object "com/example/recital/recital/Numbering")], some .boolean⟩ := by decide +kernel
/-! body 0 -/
def R0 (t : Int32) : Option Value := some (.int t)
def K0 (Z : State)  (h0 : Heap) (n0 : Nat) (t : Int32) (h : Heap) (L : List Loc) : Prop := Fr n0 L
def f0_200 (p0 : Int32) (p1 : Int32) (p2 : Int32) (p3 : Int32) (p4 : Int32) (w_SMALL_LETTERS : Addr) (w_CAPITAL_LETTERS : Addr) (w_SMALL_ROMAN : Addr) (w_CAPITAL_ROMAN : Addr) (w_ARABIC : Addr) : Int32 := (0 : Int32)
set_option maxRecDepth 65536 in
set_option maxHeartbeats 40000000 in
theorem g0_200 {p : Program} {l : Launch} {e : Env} {s : State} {m : MethodId} {below : List Frame} {meth : Method} {c : Code} {s₁ : State} {ws : List Jvm.Cond} {Z : State} {aw : Array Value} (hw : ∀ d ∈ tables_1, d.before aw Z = true) {h0 : Heap} {n0 : Nat} (p0 : Int32) (p1 : Int32) (p2 : Int32) (p3 : Int32) (p4 : Int32) (w_SMALL_LETTERS : Addr) (w_CAPITAL_LETTERS : Addr) (w_SMALL_ROMAN : Addr) (w_CAPITAL_ROMAN : Addr) (w_ARABIC : Addr)  (x5 : Int32) (x6 : Int32) (x7 : Int32) (x8 : Int32) (x9 : Int32) (x10 : Addr) (x11 : Addr) (x12 : Int32) (x13 : Int32)
    (Bd : BodyLoose p l x (head1 (Jvm.Cond.code x code maxLocals ret :: ws) room_1) code maxLocals ret e s m #[(.int p0), (.int p1), (.int p2), (.int p3), (.int p4)] below meth c s₁) (hml : c.maxLocals = 14) (hZ : Z.Warmed39 s.vm) (T0 : State) {locs : List Loc} (X0 : Stand p l e room_1 s m #[(.int p0), (.int p1), (.int p2), (.int p3), (.int p4)] below meth c T0 locs 2 4) {h : Heap} (e0 : T0.heap = h) (SZ0 : n0 ≤ h.size) (NF0 : Fr n0 locs) (Sw_SMALL_LETTERS : Sta Z h "com/example/recital/recital/Numbering$Style" "SMALL_LETTERS" "Lcom/example/recital/recital/Numbering$Style;" (.ref w_SMALL_LETTERS)) (Sw_CAPITAL_LETTERS : Sta Z h "com/example/recital/recital/Numbering$Style" "CAPITAL_LETTERS" "Lcom/example/recital/recital/Numbering$Style;" (.ref w_CAPITAL_LETTERS)) (Sw_SMALL_ROMAN : Sta Z h "com/example/recital/recital/Numbering$Style" "SMALL_ROMAN" "Lcom/example/recital/recital/Numbering$Style;" (.ref w_SMALL_ROMAN)) (Sw_CAPITAL_ROMAN : Sta Z h "com/example/recital/recital/Numbering$Style" "CAPITAL_ROMAN" "Lcom/example/recital/recital/Numbering$Style;" (.ref w_CAPITAL_ROMAN)) (Sw_ARABIC : Sta Z h "com/example/recital/recital/Numbering$Style" "ARABIC" "Lcom/example/recital/recital/Numbering$Style;" (.ref w_ARABIC)) :
    own_Go p e below s room_1.cells room_1.slots (R0 (f0_200 p0 p1 p2 p3 p4 w_SMALL_LETTERS w_CAPITAL_LETTERS w_SMALL_ROMAN w_CAPITAL_ROMAN w_ARABIC)) (K0 Z  h0 n0 (f0_200 p0 p1 p2 p3 p4 w_SMALL_LETTERS w_CAPITAL_LETTERS w_SMALL_ROMAN w_CAPITAL_ROMAN w_ARABIC)) (T0.setTop (mkF m 200 #[.val (.int p0), .val (.int p1), .val (.int p2), .val (.int p3), .val (.int p4), .val (.int x5), .val (.int x6), .val (.int x7), .val (.int x8), .val (.int x9), .val (.ref x10), .val (.ref x11), .val (.int x12), .val (.int x13)] [])) := by
  have hx := Bd.exec
  have hby := Bd.bytes
  have hown : s.vm.findClass "com/example/recital/recital/NumberingFollowsPinLaw" = some m.cls := findClass_of_methodNamed Bd.named
  have hnm := (name_of_methodNamed Bd.named Bd.method).1
  unfold f0_200
  refine own_pre (F' := T0.setTop (mkF m 201 #[.val (.int p0), .val (.int p1), .val (.int p2), .val (.int p3), .val (.int p4), .val (.int x5), .val (.int x6), .val (.int x7), .val (.int x8), .val (.int x9), .val (.ref x10), .val (.ref x11), .val (.int x12), .val (.int x13)] [(.int (0 : Int32))])) (fun _ k => XS.iconst X0.here hx rfl (hb hby at_200) k) ?_
  exact own_ret X0 hx Bd.notSynchronized Bd.returns rfl (Or.inl ⟨rfl, by simp, _, rfl⟩) (hb hby at_201) (by rw [e0]; exact NF0) (by decide) (by decide)
def f0_170 (p0 : Int32) (p1 : Int32) (p2 : Int32) (p3 : Int32) (p4 : Int32) (w_SMALL_LETTERS : Addr) (w_CAPITAL_LETTERS : Addr) (w_SMALL_ROMAN : Addr) (w_CAPITAL_ROMAN : Addr) (w_ARABIC : Addr) (x12 : Int32) (y0 : Int32) (u_x10_style : Addr) (u_x10_value : Int32) (u_x11_style : Addr) (u_x11_value : Int32) : Int32 := (if (f5_0 u_x11_style u_x11_value u_x10_style u_x10_value) = x12 then (if (f5_0 u_x10_style u_x10_value u_x11_style u_x11_value) = y0 then (1 : Int32) else (f0_200 p0 p1 p2 p3 p4 w_SMALL_LETTERS w_CAPITAL_LETTERS w_SMALL_ROMAN w_CAPITAL_ROMAN w_ARABIC)) else (f0_200 p0 p1 p2 p3 p4 w_SMALL_LETTERS w_CAPITAL_LETTERS w_SMALL_ROMAN w_CAPITAL_ROMAN w_ARABIC))
set_option maxRecDepth 65536 in
set_option maxHeartbeats 40000000 in
theorem g0_170 {p : Program} {l : Launch} {e : Env} {s : State} {m : MethodId} {below : List Frame} {meth : Method} {c : Code} {s₁ : State} {ws : List Jvm.Cond} {Z : State} {aw : Array Value} (hw : ∀ d ∈ tables_1, d.before aw Z = true) {h0 : Heap} {n0 : Nat} (p0 : Int32) (p1 : Int32) (p2 : Int32) (p3 : Int32) (p4 : Int32) (w_SMALL_LETTERS : Addr) (w_CAPITAL_LETTERS : Addr) (w_SMALL_ROMAN : Addr) (w_CAPITAL_ROMAN : Addr) (w_ARABIC : Addr)  (x5 : Int32) (x6 : Int32) (x7 : Int32) (x8 : Int32) (x9 : Int32) (x10 : Addr) (x11 : Addr) (x12 : Int32) (y0 : Int32) (u_x10_style : Addr) (u_x10_value : Int32) (u_x11_style : Addr) (u_x11_value : Int32)
    (Bd : BodyLoose p l x (head1 (Jvm.Cond.code x code maxLocals ret :: ws) room_1) code maxLocals ret e s m #[(.int p0), (.int p1), (.int p2), (.int p3), (.int p4)] below meth c s₁) (hml : c.maxLocals = 14) (hZ : Z.Warmed39 s.vm) (T0 : State) {locs : List Loc} (X0 : Stand p l e room_1 s m #[(.int p0), (.int p1), (.int p2), (.int p3), (.int p4)] below meth c T0 locs 2 4) {h : Heap} (e0 : T0.heap = h) (SZ0 : n0 ≤ h.size) (NF0 : Fr n0 locs) (Sw_SMALL_LETTERS : Sta Z h "com/example/recital/recital/Numbering$Style" "SMALL_LETTERS" "Lcom/example/recital/recital/Numbering$Style;" (.ref w_SMALL_LETTERS)) (Sw_CAPITAL_LETTERS : Sta Z h "com/example/recital/recital/Numbering$Style" "CAPITAL_LETTERS" "Lcom/example/recital/recital/Numbering$Style;" (.ref w_CAPITAL_LETTERS)) (Sw_SMALL_ROMAN : Sta Z h "com/example/recital/recital/Numbering$Style" "SMALL_ROMAN" "Lcom/example/recital/recital/Numbering$Style;" (.ref w_SMALL_ROMAN)) (Sw_CAPITAL_ROMAN : Sta Z h "com/example/recital/recital/Numbering$Style" "CAPITAL_ROMAN" "Lcom/example/recital/recital/Numbering$Style;" (.ref w_CAPITAL_ROMAN)) (Sw_ARABIC : Sta Z h "com/example/recital/recital/Numbering$Style" "ARABIC" "Lcom/example/recital/recital/Numbering$Style;" (.ref w_ARABIC)) (E_x10 : Exa Z h x10 "com/example/recital/recital/Numbering") (F_x10_style : Fld Z h x10 "com/example/recital/recital/Numbering" "style" "Lcom/example/recital/recital/Numbering$Style;" (.ref u_x10_style)) (F_x10_value : Fld Z h x10 "com/example/recital/recital/Numbering" "value" "I" (.int u_x10_value)) (E_x11 : Exa Z h x11 "com/example/recital/recital/Numbering") (F_x11_style : Fld Z h x11 "com/example/recital/recital/Numbering" "style" "Lcom/example/recital/recital/Numbering$Style;" (.ref u_x11_style)) (F_x11_value : Fld Z h x11 "com/example/recital/recital/Numbering" "value" "I" (.int u_x11_value)) (g_x10 : n0 ≤ x10) (g_x11 : n0 ≤ x11) (ne_x10_x11 : x10 ≠ x11) :
    own_Go p e below s room_1.cells room_1.slots (R0 (f0_170 p0 p1 p2 p3 p4 w_SMALL_LETTERS w_CAPITAL_LETTERS w_SMALL_ROMAN w_CAPITAL_ROMAN w_ARABIC x12 y0 u_x10_style u_x10_value u_x11_style u_x11_value)) (K0 Z  h0 n0 (f0_170 p0 p1 p2 p3 p4 w_SMALL_LETTERS w_CAPITAL_LETTERS w_SMALL_ROMAN w_CAPITAL_ROMAN w_ARABIC x12 y0 u_x10_style u_x10_value u_x11_style u_x11_value)) (T0.setTop (mkF m 170 #[.val (.int p0), .val (.int p1), .val (.int p2), .val (.int p3), .val (.int p4), .val (.int x5), .val (.int x6), .val (.int x7), .val (.int x8), .val (.int x9), .val (.ref x10), .val (.ref x11), .val (.int x12), .unset] [(.int y0)])) := by
  have hx := Bd.exec
  have hby := Bd.bytes
  have hown : s.vm.findClass "com/example/recital/recital/NumberingFollowsPinLaw" = some m.cls := findClass_of_methodNamed Bd.named
  have hnm := (name_of_methodNamed Bd.named Bd.method).1
  unfold f0_170
  refine own_pre (F' := T0.setTop (mkF m 172 #[.val (.int p0), .val (.int p1), .val (.int p2), .val (.int p3), .val (.int p4), .val (.int x5), .val (.int x6), .val (.int x7), .val (.int x8), .val (.int x9), .val (.ref x10), .val (.ref x11), .val (.int x12), .val (.int y0)] [])) (fun _ k => XS.istore X0.here hx rfl (hb hby at_170) rfl (l' := #[.val (.int p0), .val (.int p1), .val (.int p2), .val (.int p3), .val (.int p4), .val (.int x5), .val (.int x6), .val (.int x7), .val (.int x8), .val (.int x9), .val (.ref x10), .val (.ref x11), .val (.int x12), .val (.int y0)]) rfl k) ?_
  refine own_pre (F' := T0.setTop (mkF m 174 #[.val (.int p0), .val (.int p1), .val (.int p2), .val (.int p3), .val (.int p4), .val (.int x5), .val (.int x6), .val (.int x7), .val (.int x8), .val (.int x9), .val (.ref x10), .val (.ref x11), .val (.int x12), .val (.int y0)] [(.ref x11)])) (fun _ k => XS.aload X0.here hx rfl (hb hby at_172) rfl rfl k) ?_
  refine own_pre (F' := T0.setTop (mkF m 176 #[.val (.int p0), .val (.int p1), .val (.int p2), .val (.int p3), .val (.int p4), .val (.int x5), .val (.int x6), .val (.int x7), .val (.int x8), .val (.int x9), .val (.ref x10), .val (.ref x11), .val (.int x12), .val (.int y0)] [(.ref x10), (.ref x11)])) (fun _ k => XS.aload X0.here hx rfl (hb hby at_174) rfl rfl k) ?_
  obtain ⟨cq1, kq1, qa1, qb1, qc1⟩ := isOf hZ e0 E_x11
  obtain ⟨_, _, ⟨T1, L1, k1, n1⟩, -, X1', ⟨Lc1, hQ1, l1, y1, z1⟩, st'⟩ := X0.virtualBack hx (y := (⟨"com/example/recital/recital/Numbering", "follows", "(Lcom/example/recital/recital/Numbering;)Z"⟩ : MethodName)) (z := (⟨"com/example/recital/recital/Numbering", "follows", "(Lcom/example/recital/recital/Numbering;)Z"⟩ : MethodName)) hown (mvT hZ (hw _ (List.mem_of_getElem? (i := 28) rfl))) (mvT hZ (hw _ (List.mem_of_getElem? (i := 29) rfl))) (notFace_of_selects (args := #[]) (mvT hZ (hw _ (List.mem_of_getElem? (i := 31) rfl)))) (mvT hZ (hw _ (List.mem_of_getElem? (i := 31) rfl))) (mvT hZ (hw _ (List.mem_of_getElem? (i := 30) rfl))) (by decide) (backOf (W := 0) (rm5 l Z aw hw [] u_x11_style u_x11_value u_x10_style u_x10_value x11 x10 h n0 SZ0 E_x11 F_x11_style F_x11_value E_x10 F_x10_style F_x10_value) hZ (hw _ (List.mem_of_getElem? (i := 32) rfl)) (hw _ (List.mem_of_getElem? (i := 3) rfl)) (by decide) (by decide)) qa1 qc1 (g := (mkF m 176 #[.val (.int p0), .val (.int p1), .val (.int p2), .val (.int p3), .val (.int p4), .val (.int x5), .val (.int x6), .val (.int x7), .val (.int x8), .val (.int x9), .val (.ref x10), .val (.ref x11), .val (.int x12), .val (.int y0)] [(.ref x10), (.ref x11)])) rfl (by rw [hml]; rfl) (Steps.refl _) (argsL := [(.ref x10)]) (rest := []) (lenOf own_pd3 rfl) rfl (by show 2 * 0 + _ ≤ _; exact Nat.le_of_eq rfl) (hb hby at_176) (fun _ _ => ⟨rfl, e0, (by decide : 2 + 0 ≤ _), (by decide : 4 + 0 ≤ _)⟩)
  dsimp only [Pt.U, Pt.locs, Pt.cells, Pt.slots] at X1' l1 y1 z1 st' hQ1
  subst l1 y1 z1
  obtain ⟨rfl, NFq1, KPq1⟩ := hQ1
  have X1 : Stand p l e room_1 s m #[(.int p0), (.int p1), (.int p2), (.int p3), (.int p4)] below meth c T1 _ 2 4 := X1'
  have NF1 := Fr.app NF0 NFq1
  have SZ1 : n0 ≤ T1.heap.size := Nat.le_trans SZ0 KPq1.1
  have f2 := own_staKeep Sw_SMALL_LETTERS KPq1 (by simp)
  have f3 := own_staKeep Sw_CAPITAL_LETTERS KPq1 (by simp)
  have f4 := own_staKeep Sw_SMALL_ROMAN KPq1 (by simp)
  have f5 := own_staKeep Sw_CAPITAL_ROMAN KPq1 (by simp)
  have f6 := own_staKeep Sw_ARABIC KPq1 (by simp)
  have f7 := E_x10.keep KPq1
  have f8 := F_x10_style.keep KPq1 nin0
  have f9 := F_x10_value.keep KPq1 nin0
  have f10 := E_x11.keep KPq1
  have f11 := F_x11_style.keep KPq1 nin0
  have f12 := F_x11_value.keep KPq1 nin0
  refine own_pre (F' := T1.setTop (mkF m 179 #[.val (.int p0), .val (.int p1), .val (.int p2), .val (.int p3), .val (.int p4), .val (.int x5), .val (.int x6), .val (.int x7), .val (.int x8), .val (.int x9), .val (.ref x10), .val (.ref x11), .val (.int x12), .val (.int y0)] [(.int (f5_0 u_x11_style u_x11_value u_x10_style u_x10_value))])) (fun t k => st'.trans k) ?_
  refine own_pre (F' := T1.setTop (mkF m 181 #[.val (.int p0), .val (.int p1), .val (.int p2), .val (.int p3), .val (.int p4), .val (.int x5), .val (.int x6), .val (.int x7), .val (.int x8), .val (.int x9), .val (.ref x10), .val (.ref x11), .val (.int x12), .val (.int y0)] [(.int x12), (.int (f5_0 u_x11_style u_x11_value u_x10_style u_x10_value))])) (fun _ k => XS.iload X1.here hx rfl (hb hby at_179) rfl k) ?_
  refine own_iteT R0 (K0 Z  h0 n0) (fun hc181 => ?_) (fun hc181 => ?_)
  · skip
    refine own_pre (F' := T1.setTop (mkF m 184 #[.val (.int p0), .val (.int p1), .val (.int p2), .val (.int p3), .val (.int p4), .val (.int x5), .val (.int x6), .val (.int x7), .val (.int x8), .val (.int x9), .val (.ref x10), .val (.ref x11), .val (.int x12), .val (.int y0)] [])) (fun _ k => XS.icmpNo X1.here hx rfl (hb hby at_181) rfl (teq hc181).2 k) ?_
    refine own_pre (F' := T1.setTop (mkF m 186 #[.val (.int p0), .val (.int p1), .val (.int p2), .val (.int p3), .val (.int p4), .val (.int x5), .val (.int x6), .val (.int x7), .val (.int x8), .val (.int x9), .val (.ref x10), .val (.ref x11), .val (.int x12), .val (.int y0)] [(.ref x10)])) (fun _ k => XS.aload X1.here hx rfl (hb hby at_184) rfl rfl k) ?_
    refine own_pre (F' := T1.setTop (mkF m 188 #[.val (.int p0), .val (.int p1), .val (.int p2), .val (.int p3), .val (.int p4), .val (.int x5), .val (.int x6), .val (.int x7), .val (.int x8), .val (.int x9), .val (.ref x10), .val (.ref x11), .val (.int x12), .val (.int y0)] [(.ref x11), (.ref x10)])) (fun _ k => XS.aload X1.here hx rfl (hb hby at_186) rfl rfl k) ?_
    obtain ⟨cq13, kq13, qa13, qb13, qc13⟩ := isOf hZ (rfl : T1.heap = T1.heap) f7
    obtain ⟨_, _, ⟨T13, L13, k13, n13⟩, -, X13', ⟨Lc13, hQ13, l13, y13, z13⟩, st'⟩ := X1.virtualBack hx (y := (⟨"com/example/recital/recital/Numbering", "follows", "(Lcom/example/recital/recital/Numbering;)Z"⟩ : MethodName)) (z := (⟨"com/example/recital/recital/Numbering", "follows", "(Lcom/example/recital/recital/Numbering;)Z"⟩ : MethodName)) hown (mvT hZ (hw _ (List.mem_of_getElem? (i := 28) rfl))) (mvT hZ (hw _ (List.mem_of_getElem? (i := 29) rfl))) (notFace_of_selects (args := #[]) (mvT hZ (hw _ (List.mem_of_getElem? (i := 31) rfl)))) (mvT hZ (hw _ (List.mem_of_getElem? (i := 31) rfl))) (mvT hZ (hw _ (List.mem_of_getElem? (i := 30) rfl))) (by decide) (backOf (W := 0) (rm5 l Z aw hw [] u_x10_style u_x10_value u_x11_style u_x11_value x10 x11 T1.heap n0 SZ1 f7 f8 f9 f10 f11 f12) hZ (hw _ (List.mem_of_getElem? (i := 32) rfl)) (hw _ (List.mem_of_getElem? (i := 3) rfl)) (by decide) (by decide)) qa13 qc13 (g := (mkF m 188 #[.val (.int p0), .val (.int p1), .val (.int p2), .val (.int p3), .val (.int p4), .val (.int x5), .val (.int x6), .val (.int x7), .val (.int x8), .val (.int x9), .val (.ref x10), .val (.ref x11), .val (.int x12), .val (.int y0)] [(.ref x11), (.ref x10)])) rfl (by rw [hml]; rfl) (Steps.refl _) (argsL := [(.ref x11)]) (rest := []) (lenOf own_pd3 rfl) rfl (by show 2 * 0 + _ ≤ _; exact Nat.le_of_eq rfl) (hb hby at_188) (fun _ _ => ⟨rfl, (rfl : T1.heap = T1.heap), (by decide : 2 + 0 ≤ _), (by decide : 4 + 0 ≤ _)⟩)
    dsimp only [Pt.U, Pt.locs, Pt.cells, Pt.slots] at X13' l13 y13 z13 st' hQ13
    subst l13 y13 z13
    obtain ⟨rfl, NFq13, KPq13⟩ := hQ13
    have X13 : Stand p l e room_1 s m #[(.int p0), (.int p1), (.int p2), (.int p3), (.int p4)] below meth c T13 _ 2 4 := X13'
    have NF13 := Fr.app NF1 NFq13
    have SZ13 : n0 ≤ T13.heap.size := Nat.le_trans SZ1 KPq13.1
    have f14 := own_staKeep f2 KPq13 (by simp)
    have f15 := own_staKeep f3 KPq13 (by simp)
    have f16 := own_staKeep f4 KPq13 (by simp)
    have f17 := own_staKeep f5 KPq13 (by simp)
    have f18 := own_staKeep f6 KPq13 (by simp)
    have f19 := f7.keep KPq13
    have f20 := f8.keep KPq13 nin0
    have f21 := f9.keep KPq13 nin0
    have f22 := f10.keep KPq13
    have f23 := f11.keep KPq13 nin0
    have f24 := f12.keep KPq13 nin0
    refine own_pre (F' := T13.setTop (mkF m 191 #[.val (.int p0), .val (.int p1), .val (.int p2), .val (.int p3), .val (.int p4), .val (.int x5), .val (.int x6), .val (.int x7), .val (.int x8), .val (.int x9), .val (.ref x10), .val (.ref x11), .val (.int x12), .val (.int y0)] [(.int (f5_0 u_x10_style u_x10_value u_x11_style u_x11_value))])) (fun t k => st'.trans k) ?_
    refine own_pre (F' := T13.setTop (mkF m 193 #[.val (.int p0), .val (.int p1), .val (.int p2), .val (.int p3), .val (.int p4), .val (.int x5), .val (.int x6), .val (.int x7), .val (.int x8), .val (.int x9), .val (.ref x10), .val (.ref x11), .val (.int x12), .val (.int y0)] [(.int y0), (.int (f5_0 u_x10_style u_x10_value u_x11_style u_x11_value))])) (fun _ k => XS.iload X13.here hx rfl (hb hby at_191) rfl k) ?_
    refine own_iteT R0 (K0 Z  h0 n0) (fun hc193 => ?_) (fun hc193 => ?_)
    · skip
      refine own_pre (F' := T13.setTop (mkF m 196 #[.val (.int p0), .val (.int p1), .val (.int p2), .val (.int p3), .val (.int p4), .val (.int x5), .val (.int x6), .val (.int x7), .val (.int x8), .val (.int x9), .val (.ref x10), .val (.ref x11), .val (.int x12), .val (.int y0)] [])) (fun _ k => XS.icmpNo X13.here hx rfl (hb hby at_193) rfl (teq hc193).2 k) ?_
      refine own_pre (F' := T13.setTop (mkF m 197 #[.val (.int p0), .val (.int p1), .val (.int p2), .val (.int p3), .val (.int p4), .val (.int x5), .val (.int x6), .val (.int x7), .val (.int x8), .val (.int x9), .val (.ref x10), .val (.ref x11), .val (.int x12), .val (.int y0)] [(.int (1 : Int32))])) (fun _ k => XS.iconst X13.here hx rfl (hb hby at_196) k) ?_
      refine own_pre (F' := T13.setTop (mkF m 201 #[.val (.int p0), .val (.int p1), .val (.int p2), .val (.int p3), .val (.int p4), .val (.int x5), .val (.int x6), .val (.int x7), .val (.int x8), .val (.int x9), .val (.ref x10), .val (.ref x11), .val (.int x12), .val (.int y0)] [(.int (1 : Int32))])) (fun _ k => XS.goto X13.here hx rfl (pc0 := 197) (pc' := 201) rfl (hb hby at_197) (by decide) (by decide) k) ?_
      exact own_ret X13 hx Bd.notSynchronized Bd.returns rfl (Or.inl ⟨rfl, by simp, _, rfl⟩) (hb hby at_201) NF13 (by decide) (by decide)
    · skip
      refine own_pre (F' := T13.setTop (mkF m 200 #[.val (.int p0), .val (.int p1), .val (.int p2), .val (.int p3), .val (.int p4), .val (.int x5), .val (.int x6), .val (.int x7), .val (.int x8), .val (.int x9), .val (.ref x10), .val (.ref x11), .val (.int x12), .val (.int y0)] [])) (fun _ k => XS.icmpYes X13.here hx rfl (pc0 := 193) (pc' := 200) rfl (hb hby at_193) rfl (feq hc193).2 (by decide) (by decide) k) ?_
      exact g0_200 hw p0 p1 p2 p3 p4 w_SMALL_LETTERS w_CAPITAL_LETTERS w_SMALL_ROMAN w_CAPITAL_ROMAN w_ARABIC  x5 x6 x7 x8 x9 x10 x11 x12 y0 Bd hml hZ T13 X13 (rfl : T13.heap = T13.heap) SZ13 NF13 f14 f15 f16 f17 f18
  · skip
    refine own_pre (F' := T1.setTop (mkF m 200 #[.val (.int p0), .val (.int p1), .val (.int p2), .val (.int p3), .val (.int p4), .val (.int x5), .val (.int x6), .val (.int x7), .val (.int x8), .val (.int x9), .val (.ref x10), .val (.ref x11), .val (.int x12), .val (.int y0)] [])) (fun _ k => XS.icmpYes X1.here hx rfl (pc0 := 181) (pc' := 200) rfl (hb hby at_181) rfl (feq hc181).2 (by decide) (by decide) k) ?_
    exact g0_200 hw p0 p1 p2 p3 p4 w_SMALL_LETTERS w_CAPITAL_LETTERS w_SMALL_ROMAN w_CAPITAL_ROMAN w_ARABIC  x5 x6 x7 x8 x9 x10 x11 x12 y0 Bd hml hZ T1 X1 (rfl : T1.heap = T1.heap) SZ1 NF1 f2 f3 f4 f5 f6
def f0_169 (p0 : Int32) (p1 : Int32) (p2 : Int32) (p3 : Int32) (p4 : Int32) (w_SMALL_LETTERS : Addr) (w_CAPITAL_LETTERS : Addr) (w_SMALL_ROMAN : Addr) (w_CAPITAL_ROMAN : Addr) (w_ARABIC : Addr) (x12 : Int32) (u_x10_style : Addr) (u_x10_value : Int32) (u_x11_style : Addr) (u_x11_value : Int32) : Int32 := (f0_170 p0 p1 p2 p3 p4 w_SMALL_LETTERS w_CAPITAL_LETTERS w_SMALL_ROMAN w_CAPITAL_ROMAN w_ARABIC x12 (0 : Int32) u_x10_style u_x10_value u_x11_style u_x11_value)
set_option maxRecDepth 65536 in
set_option maxHeartbeats 40000000 in
theorem g0_169 {p : Program} {l : Launch} {e : Env} {s : State} {m : MethodId} {below : List Frame} {meth : Method} {c : Code} {s₁ : State} {ws : List Jvm.Cond} {Z : State} {aw : Array Value} (hw : ∀ d ∈ tables_1, d.before aw Z = true) {h0 : Heap} {n0 : Nat} (p0 : Int32) (p1 : Int32) (p2 : Int32) (p3 : Int32) (p4 : Int32) (w_SMALL_LETTERS : Addr) (w_CAPITAL_LETTERS : Addr) (w_SMALL_ROMAN : Addr) (w_CAPITAL_ROMAN : Addr) (w_ARABIC : Addr)  (x5 : Int32) (x6 : Int32) (x7 : Int32) (x8 : Int32) (x9 : Int32) (x10 : Addr) (x11 : Addr) (x12 : Int32) (u_x10_style : Addr) (u_x10_value : Int32) (u_x11_style : Addr) (u_x11_value : Int32)
    (Bd : BodyLoose p l x (head1 (Jvm.Cond.code x code maxLocals ret :: ws) room_1) code maxLocals ret e s m #[(.int p0), (.int p1), (.int p2), (.int p3), (.int p4)] below meth c s₁) (hml : c.maxLocals = 14) (hZ : Z.Warmed39 s.vm) (T0 : State) {locs : List Loc} (X0 : Stand p l e room_1 s m #[(.int p0), (.int p1), (.int p2), (.int p3), (.int p4)] below meth c T0 locs 2 4) {h : Heap} (e0 : T0.heap = h) (SZ0 : n0 ≤ h.size) (NF0 : Fr n0 locs) (Sw_SMALL_LETTERS : Sta Z h "com/example/recital/recital/Numbering$Style" "SMALL_LETTERS" "Lcom/example/recital/recital/Numbering$Style;" (.ref w_SMALL_LETTERS)) (Sw_CAPITAL_LETTERS : Sta Z h "com/example/recital/recital/Numbering$Style" "CAPITAL_LETTERS" "Lcom/example/recital/recital/Numbering$Style;" (.ref w_CAPITAL_LETTERS)) (Sw_SMALL_ROMAN : Sta Z h "com/example/recital/recital/Numbering$Style" "SMALL_ROMAN" "Lcom/example/recital/recital/Numbering$Style;" (.ref w_SMALL_ROMAN)) (Sw_CAPITAL_ROMAN : Sta Z h "com/example/recital/recital/Numbering$Style" "CAPITAL_ROMAN" "Lcom/example/recital/recital/Numbering$Style;" (.ref w_CAPITAL_ROMAN)) (Sw_ARABIC : Sta Z h "com/example/recital/recital/Numbering$Style" "ARABIC" "Lcom/example/recital/recital/Numbering$Style;" (.ref w_ARABIC)) (E_x10 : Exa Z h x10 "com/example/recital/recital/Numbering") (F_x10_style : Fld Z h x10 "com/example/recital/recital/Numbering" "style" "Lcom/example/recital/recital/Numbering$Style;" (.ref u_x10_style)) (F_x10_value : Fld Z h x10 "com/example/recital/recital/Numbering" "value" "I" (.int u_x10_value)) (E_x11 : Exa Z h x11 "com/example/recital/recital/Numbering") (F_x11_style : Fld Z h x11 "com/example/recital/recital/Numbering" "style" "Lcom/example/recital/recital/Numbering$Style;" (.ref u_x11_style)) (F_x11_value : Fld Z h x11 "com/example/recital/recital/Numbering" "value" "I" (.int u_x11_value)) (g_x10 : n0 ≤ x10) (g_x11 : n0 ≤ x11) (ne_x10_x11 : x10 ≠ x11) :
    own_Go p e below s room_1.cells room_1.slots (R0 (f0_169 p0 p1 p2 p3 p4 w_SMALL_LETTERS w_CAPITAL_LETTERS w_SMALL_ROMAN w_CAPITAL_ROMAN w_ARABIC x12 u_x10_style u_x10_value u_x11_style u_x11_value)) (K0 Z  h0 n0 (f0_169 p0 p1 p2 p3 p4 w_SMALL_LETTERS w_CAPITAL_LETTERS w_SMALL_ROMAN w_CAPITAL_ROMAN w_ARABIC x12 u_x10_style u_x10_value u_x11_style u_x11_value)) (T0.setTop (mkF m 169 #[.val (.int p0), .val (.int p1), .val (.int p2), .val (.int p3), .val (.int p4), .val (.int x5), .val (.int x6), .val (.int x7), .val (.int x8), .val (.int x9), .val (.ref x10), .val (.ref x11), .val (.int x12), .unset] [])) := by
  have hx := Bd.exec
  have hby := Bd.bytes
  have hown : s.vm.findClass "com/example/recital/recital/NumberingFollowsPinLaw" = some m.cls := findClass_of_methodNamed Bd.named
  have hnm := (name_of_methodNamed Bd.named Bd.method).1
  unfold f0_169
  refine own_pre (F' := T0.setTop (mkF m 170 #[.val (.int p0), .val (.int p1), .val (.int p2), .val (.int p3), .val (.int p4), .val (.int x5), .val (.int x6), .val (.int x7), .val (.int x8), .val (.int x9), .val (.ref x10), .val (.ref x11), .val (.int x12), .unset] [(.int (0 : Int32))])) (fun _ k => XS.iconst X0.here hx rfl (hb hby at_169) k) ?_
  exact g0_170 hw p0 p1 p2 p3 p4 w_SMALL_LETTERS w_CAPITAL_LETTERS w_SMALL_ROMAN w_CAPITAL_ROMAN w_ARABIC  x5 x6 x7 x8 x9 x10 x11 x12 (0 : Int32) u_x10_style u_x10_value u_x11_style u_x11_value Bd hml hZ T0 X0 e0 SZ0 NF0 Sw_SMALL_LETTERS Sw_CAPITAL_LETTERS Sw_SMALL_ROMAN Sw_CAPITAL_ROMAN Sw_ARABIC E_x10 F_x10_style F_x10_value E_x11 F_x11_style F_x11_value g_x10 g_x11 ne_x10_x11
def f0_144 (p0 : Int32) (p1 : Int32) (p2 : Int32) (p3 : Int32) (p4 : Int32) (w_SMALL_LETTERS : Addr) (w_CAPITAL_LETTERS : Addr) (w_SMALL_ROMAN : Addr) (w_CAPITAL_ROMAN : Addr) (w_ARABIC : Addr) (x5 : Int32) (x6 : Int32) (x7 : Int32) (x9 : Int32) (y0 : Int32) (u_x10_style : Addr) (u_x10_value : Int32) (u_x11_style : Addr) (u_x11_value : Int32) : Int32 := (if x5 = x6 then (if (x7.toInt64) = ((x9.toInt64) + (1 : Int64)) then (f0_170 p0 p1 p2 p3 p4 w_SMALL_LETTERS w_CAPITAL_LETTERS w_SMALL_ROMAN w_CAPITAL_ROMAN w_ARABIC y0 (1 : Int32) u_x10_style u_x10_value u_x11_style u_x11_value) else (f0_169 p0 p1 p2 p3 p4 w_SMALL_LETTERS w_CAPITAL_LETTERS w_SMALL_ROMAN w_CAPITAL_ROMAN w_ARABIC y0 u_x10_style u_x10_value u_x11_style u_x11_value)) else (f0_169 p0 p1 p2 p3 p4 w_SMALL_LETTERS w_CAPITAL_LETTERS w_SMALL_ROMAN w_CAPITAL_ROMAN w_ARABIC y0 u_x10_style u_x10_value u_x11_style u_x11_value))
set_option maxRecDepth 65536 in
set_option maxHeartbeats 40000000 in
theorem g0_144 {p : Program} {l : Launch} {e : Env} {s : State} {m : MethodId} {below : List Frame} {meth : Method} {c : Code} {s₁ : State} {ws : List Jvm.Cond} {Z : State} {aw : Array Value} (hw : ∀ d ∈ tables_1, d.before aw Z = true) {h0 : Heap} {n0 : Nat} (p0 : Int32) (p1 : Int32) (p2 : Int32) (p3 : Int32) (p4 : Int32) (w_SMALL_LETTERS : Addr) (w_CAPITAL_LETTERS : Addr) (w_SMALL_ROMAN : Addr) (w_CAPITAL_ROMAN : Addr) (w_ARABIC : Addr)  (x5 : Int32) (x6 : Int32) (x7 : Int32) (x8 : Int32) (x9 : Int32) (x10 : Addr) (x11 : Addr) (y0 : Int32) (u_x10_style : Addr) (u_x10_value : Int32) (u_x11_style : Addr) (u_x11_value : Int32)
    (Bd : BodyLoose p l x (head1 (Jvm.Cond.code x code maxLocals ret :: ws) room_1) code maxLocals ret e s m #[(.int p0), (.int p1), (.int p2), (.int p3), (.int p4)] below meth c s₁) (hml : c.maxLocals = 14) (hZ : Z.Warmed39 s.vm) (T0 : State) {locs : List Loc} (X0 : Stand p l e room_1 s m #[(.int p0), (.int p1), (.int p2), (.int p3), (.int p4)] below meth c T0 locs 2 4) {h : Heap} (e0 : T0.heap = h) (SZ0 : n0 ≤ h.size) (NF0 : Fr n0 locs) (Sw_SMALL_LETTERS : Sta Z h "com/example/recital/recital/Numbering$Style" "SMALL_LETTERS" "Lcom/example/recital/recital/Numbering$Style;" (.ref w_SMALL_LETTERS)) (Sw_CAPITAL_LETTERS : Sta Z h "com/example/recital/recital/Numbering$Style" "CAPITAL_LETTERS" "Lcom/example/recital/recital/Numbering$Style;" (.ref w_CAPITAL_LETTERS)) (Sw_SMALL_ROMAN : Sta Z h "com/example/recital/recital/Numbering$Style" "SMALL_ROMAN" "Lcom/example/recital/recital/Numbering$Style;" (.ref w_SMALL_ROMAN)) (Sw_CAPITAL_ROMAN : Sta Z h "com/example/recital/recital/Numbering$Style" "CAPITAL_ROMAN" "Lcom/example/recital/recital/Numbering$Style;" (.ref w_CAPITAL_ROMAN)) (Sw_ARABIC : Sta Z h "com/example/recital/recital/Numbering$Style" "ARABIC" "Lcom/example/recital/recital/Numbering$Style;" (.ref w_ARABIC)) (E_x10 : Exa Z h x10 "com/example/recital/recital/Numbering") (F_x10_style : Fld Z h x10 "com/example/recital/recital/Numbering" "style" "Lcom/example/recital/recital/Numbering$Style;" (.ref u_x10_style)) (F_x10_value : Fld Z h x10 "com/example/recital/recital/Numbering" "value" "I" (.int u_x10_value)) (E_x11 : Exa Z h x11 "com/example/recital/recital/Numbering") (F_x11_style : Fld Z h x11 "com/example/recital/recital/Numbering" "style" "Lcom/example/recital/recital/Numbering$Style;" (.ref u_x11_style)) (F_x11_value : Fld Z h x11 "com/example/recital/recital/Numbering" "value" "I" (.int u_x11_value)) (g_x10 : n0 ≤ x10) (g_x11 : n0 ≤ x11) (ne_x10_x11 : x10 ≠ x11) :
    own_Go p e below s room_1.cells room_1.slots (R0 (f0_144 p0 p1 p2 p3 p4 w_SMALL_LETTERS w_CAPITAL_LETTERS w_SMALL_ROMAN w_CAPITAL_ROMAN w_ARABIC x5 x6 x7 x9 y0 u_x10_style u_x10_value u_x11_style u_x11_value)) (K0 Z  h0 n0 (f0_144 p0 p1 p2 p3 p4 w_SMALL_LETTERS w_CAPITAL_LETTERS w_SMALL_ROMAN w_CAPITAL_ROMAN w_ARABIC x5 x6 x7 x9 y0 u_x10_style u_x10_value u_x11_style u_x11_value)) (T0.setTop (mkF m 144 #[.val (.int p0), .val (.int p1), .val (.int p2), .val (.int p3), .val (.int p4), .val (.int x5), .val (.int x6), .val (.int x7), .val (.int x8), .val (.int x9), .val (.ref x10), .val (.ref x11), .unset, .unset] [(.int y0)])) := by
  have hx := Bd.exec
  have hby := Bd.bytes
  have hown : s.vm.findClass "com/example/recital/recital/NumberingFollowsPinLaw" = some m.cls := findClass_of_methodNamed Bd.named
  have hnm := (name_of_methodNamed Bd.named Bd.method).1
  unfold f0_144
  refine own_pre (F' := T0.setTop (mkF m 146 #[.val (.int p0), .val (.int p1), .val (.int p2), .val (.int p3), .val (.int p4), .val (.int x5), .val (.int x6), .val (.int x7), .val (.int x8), .val (.int x9), .val (.ref x10), .val (.ref x11), .val (.int y0), .unset] [])) (fun _ k => XS.istore X0.here hx rfl (hb hby at_144) rfl (l' := #[.val (.int p0), .val (.int p1), .val (.int p2), .val (.int p3), .val (.int p4), .val (.int x5), .val (.int x6), .val (.int x7), .val (.int x8), .val (.int x9), .val (.ref x10), .val (.ref x11), .val (.int y0), .unset]) rfl k) ?_
  refine own_pre (F' := T0.setTop (mkF m 148 #[.val (.int p0), .val (.int p1), .val (.int p2), .val (.int p3), .val (.int p4), .val (.int x5), .val (.int x6), .val (.int x7), .val (.int x8), .val (.int x9), .val (.ref x10), .val (.ref x11), .val (.int y0), .unset] [(.int x5)])) (fun _ k => XS.iload X0.here hx rfl (hb hby at_146) rfl k) ?_
  refine own_pre (F' := T0.setTop (mkF m 150 #[.val (.int p0), .val (.int p1), .val (.int p2), .val (.int p3), .val (.int p4), .val (.int x5), .val (.int x6), .val (.int x7), .val (.int x8), .val (.int x9), .val (.ref x10), .val (.ref x11), .val (.int y0), .unset] [(.int x6), (.int x5)])) (fun _ k => XS.iload X0.here hx rfl (hb hby at_148) rfl k) ?_
  refine own_iteT R0 (K0 Z  h0 n0) (fun hc150 => ?_) (fun hc150 => ?_)
  · skip
    refine own_pre (F' := T0.setTop (mkF m 153 #[.val (.int p0), .val (.int p1), .val (.int p2), .val (.int p3), .val (.int p4), .val (.int x5), .val (.int x6), .val (.int x7), .val (.int x8), .val (.int x9), .val (.ref x10), .val (.ref x11), .val (.int y0), .unset] [])) (fun _ k => XS.icmpNo X0.here hx rfl (hb hby at_150) rfl (teq hc150).2 k) ?_
    refine own_pre (F' := T0.setTop (mkF m 155 #[.val (.int p0), .val (.int p1), .val (.int p2), .val (.int p3), .val (.int p4), .val (.int x5), .val (.int x6), .val (.int x7), .val (.int x8), .val (.int x9), .val (.ref x10), .val (.ref x11), .val (.int y0), .unset] [(.int x7)])) (fun _ k => XS.iload X0.here hx rfl (hb hby at_153) rfl k) ?_
    refine own_pre (F' := T0.setTop (mkF m 156 #[.val (.int p0), .val (.int p1), .val (.int p2), .val (.int p3), .val (.int p4), .val (.int x5), .val (.int x6), .val (.int x7), .val (.int x8), .val (.int x9), .val (.ref x10), .val (.ref x11), .val (.int y0), .unset] [(.long (x7.toInt64))])) (fun _ k => XS.i2l X0.here hx rfl (hb hby at_155) rfl k) ?_
    refine own_pre (F' := T0.setTop (mkF m 158 #[.val (.int p0), .val (.int p1), .val (.int p2), .val (.int p3), .val (.int p4), .val (.int x5), .val (.int x6), .val (.int x7), .val (.int x8), .val (.int x9), .val (.ref x10), .val (.ref x11), .val (.int y0), .unset] [(.int x9), (.long (x7.toInt64))])) (fun _ k => XS.iload X0.here hx rfl (hb hby at_156) rfl k) ?_
    refine own_pre (F' := T0.setTop (mkF m 159 #[.val (.int p0), .val (.int p1), .val (.int p2), .val (.int p3), .val (.int p4), .val (.int x5), .val (.int x6), .val (.int x7), .val (.int x8), .val (.int x9), .val (.ref x10), .val (.ref x11), .val (.int y0), .unset] [(.long (x9.toInt64)), (.long (x7.toInt64))])) (fun _ k => XS.i2l X0.here hx rfl (hb hby at_158) rfl k) ?_
    refine own_pre (F' := T0.setTop (mkF m 160 #[.val (.int p0), .val (.int p1), .val (.int p2), .val (.int p3), .val (.int p4), .val (.int x5), .val (.int x6), .val (.int x7), .val (.int x8), .val (.int x9), .val (.ref x10), .val (.ref x11), .val (.int y0), .unset] [(.long (1 : Int64)), (.long (x9.toInt64)), (.long (x7.toInt64))])) (fun _ k => XS.lconst X0.here hx rfl (hb hby at_159) k) ?_
    refine own_pre (F' := T0.setTop (mkF m 161 #[.val (.int p0), .val (.int p1), .val (.int p2), .val (.int p3), .val (.int p4), .val (.int x5), .val (.int x6), .val (.int x7), .val (.int x8), .val (.int x9), .val (.ref x10), .val (.ref x11), .val (.int y0), .unset] [(.long ((x9.toInt64) + (1 : Int64))), (.long (x7.toInt64))])) (fun _ k => XS.ladd X0.here hx rfl (hb hby at_160) rfl k) ?_
    refine own_pre (F' := T0.setTop (mkF m 162 #[.val (.int p0), .val (.int p1), .val (.int p2), .val (.int p3), .val (.int p4), .val (.int x5), .val (.int x6), .val (.int x7), .val (.int x8), .val (.int x9), .val (.ref x10), .val (.ref x11), .val (.int y0), .unset] [(.int (lcmpW (x7.toInt64) ((x9.toInt64) + (1 : Int64))))])) (fun _ k => XS.lcmp X0.here hx rfl (hb hby at_161) rfl k) ?_
    refine own_iteT R0 (K0 Z  h0 n0) (fun hc162 => ?_) (fun hc162 => ?_)
    · skip
      refine own_pre (F' := T0.setTop (mkF m 165 #[.val (.int p0), .val (.int p1), .val (.int p2), .val (.int p3), .val (.int p4), .val (.int x5), .val (.int x6), .val (.int x7), .val (.int x8), .val (.int x9), .val (.ref x10), .val (.ref x11), .val (.int y0), .unset] [])) (fun _ k => XS.ifNo X0.here hx rfl (hb hby at_162) rfl ((if0 _ _).trans (teq ((lw_eq _ _).mpr hc162)).2) k) ?_
      refine own_pre (F' := T0.setTop (mkF m 166 #[.val (.int p0), .val (.int p1), .val (.int p2), .val (.int p3), .val (.int p4), .val (.int x5), .val (.int x6), .val (.int x7), .val (.int x8), .val (.int x9), .val (.ref x10), .val (.ref x11), .val (.int y0), .unset] [(.int (1 : Int32))])) (fun _ k => XS.iconst X0.here hx rfl (hb hby at_165) k) ?_
      refine own_pre (F' := T0.setTop (mkF m 170 #[.val (.int p0), .val (.int p1), .val (.int p2), .val (.int p3), .val (.int p4), .val (.int x5), .val (.int x6), .val (.int x7), .val (.int x8), .val (.int x9), .val (.ref x10), .val (.ref x11), .val (.int y0), .unset] [(.int (1 : Int32))])) (fun _ k => XS.goto X0.here hx rfl (pc0 := 166) (pc' := 170) rfl (hb hby at_166) (by decide) (by decide) k) ?_
      exact g0_170 hw p0 p1 p2 p3 p4 w_SMALL_LETTERS w_CAPITAL_LETTERS w_SMALL_ROMAN w_CAPITAL_ROMAN w_ARABIC  x5 x6 x7 x8 x9 x10 x11 y0 (1 : Int32) u_x10_style u_x10_value u_x11_style u_x11_value Bd hml hZ T0 X0 e0 SZ0 NF0 Sw_SMALL_LETTERS Sw_CAPITAL_LETTERS Sw_SMALL_ROMAN Sw_CAPITAL_ROMAN Sw_ARABIC E_x10 F_x10_style F_x10_value E_x11 F_x11_style F_x11_value g_x10 g_x11 ne_x10_x11
    · skip
      refine own_pre (F' := T0.setTop (mkF m 169 #[.val (.int p0), .val (.int p1), .val (.int p2), .val (.int p3), .val (.int p4), .val (.int x5), .val (.int x6), .val (.int x7), .val (.int x8), .val (.int x9), .val (.ref x10), .val (.ref x11), .val (.int y0), .unset] [])) (fun _ k => XS.ifYes X0.here hx rfl (pc0 := 162) (pc' := 169) rfl (hb hby at_162) rfl ((if0 _ _).trans (feq (fun q => hc162 ((lw_eq _ _).mp q))).2) (by decide) (by decide) k) ?_
      exact g0_169 hw p0 p1 p2 p3 p4 w_SMALL_LETTERS w_CAPITAL_LETTERS w_SMALL_ROMAN w_CAPITAL_ROMAN w_ARABIC  x5 x6 x7 x8 x9 x10 x11 y0 u_x10_style u_x10_value u_x11_style u_x11_value Bd hml hZ T0 X0 e0 SZ0 NF0 Sw_SMALL_LETTERS Sw_CAPITAL_LETTERS Sw_SMALL_ROMAN Sw_CAPITAL_ROMAN Sw_ARABIC E_x10 F_x10_style F_x10_value E_x11 F_x11_style F_x11_value g_x10 g_x11 ne_x10_x11
  · skip
    refine own_pre (F' := T0.setTop (mkF m 169 #[.val (.int p0), .val (.int p1), .val (.int p2), .val (.int p3), .val (.int p4), .val (.int x5), .val (.int x6), .val (.int x7), .val (.int x8), .val (.int x9), .val (.ref x10), .val (.ref x11), .val (.int y0), .unset] [])) (fun _ k => XS.icmpYes X0.here hx rfl (pc0 := 150) (pc' := 169) rfl (hb hby at_150) rfl (feq hc150).2 (by decide) (by decide) k) ?_
    exact g0_169 hw p0 p1 p2 p3 p4 w_SMALL_LETTERS w_CAPITAL_LETTERS w_SMALL_ROMAN w_CAPITAL_ROMAN w_ARABIC  x5 x6 x7 x8 x9 x10 x11 y0 u_x10_style u_x10_value u_x11_style u_x11_value Bd hml hZ T0 X0 e0 SZ0 NF0 Sw_SMALL_LETTERS Sw_CAPITAL_LETTERS Sw_SMALL_ROMAN Sw_CAPITAL_ROMAN Sw_ARABIC E_x10 F_x10_style F_x10_value E_x11 F_x11_style F_x11_value g_x10 g_x11 ne_x10_x11
def f0_143 (p0 : Int32) (p1 : Int32) (p2 : Int32) (p3 : Int32) (p4 : Int32) (w_SMALL_LETTERS : Addr) (w_CAPITAL_LETTERS : Addr) (w_SMALL_ROMAN : Addr) (w_CAPITAL_ROMAN : Addr) (w_ARABIC : Addr) (x5 : Int32) (x6 : Int32) (x7 : Int32) (x9 : Int32) (u_x10_style : Addr) (u_x10_value : Int32) (u_x11_style : Addr) (u_x11_value : Int32) : Int32 := (f0_144 p0 p1 p2 p3 p4 w_SMALL_LETTERS w_CAPITAL_LETTERS w_SMALL_ROMAN w_CAPITAL_ROMAN w_ARABIC x5 x6 x7 x9 (0 : Int32) u_x10_style u_x10_value u_x11_style u_x11_value)
set_option maxRecDepth 65536 in
set_option maxHeartbeats 40000000 in
theorem g0_143 {p : Program} {l : Launch} {e : Env} {s : State} {m : MethodId} {below : List Frame} {meth : Method} {c : Code} {s₁ : State} {ws : List Jvm.Cond} {Z : State} {aw : Array Value} (hw : ∀ d ∈ tables_1, d.before aw Z = true) {h0 : Heap} {n0 : Nat} (p0 : Int32) (p1 : Int32) (p2 : Int32) (p3 : Int32) (p4 : Int32) (w_SMALL_LETTERS : Addr) (w_CAPITAL_LETTERS : Addr) (w_SMALL_ROMAN : Addr) (w_CAPITAL_ROMAN : Addr) (w_ARABIC : Addr)  (x5 : Int32) (x6 : Int32) (x7 : Int32) (x8 : Int32) (x9 : Int32) (x10 : Addr) (x11 : Addr) (u_x10_style : Addr) (u_x10_value : Int32) (u_x11_style : Addr) (u_x11_value : Int32)
    (Bd : BodyLoose p l x (head1 (Jvm.Cond.code x code maxLocals ret :: ws) room_1) code maxLocals ret e s m #[(.int p0), (.int p1), (.int p2), (.int p3), (.int p4)] below meth c s₁) (hml : c.maxLocals = 14) (hZ : Z.Warmed39 s.vm) (T0 : State) {locs : List Loc} (X0 : Stand p l e room_1 s m #[(.int p0), (.int p1), (.int p2), (.int p3), (.int p4)] below meth c T0 locs 2 4) {h : Heap} (e0 : T0.heap = h) (SZ0 : n0 ≤ h.size) (NF0 : Fr n0 locs) (Sw_SMALL_LETTERS : Sta Z h "com/example/recital/recital/Numbering$Style" "SMALL_LETTERS" "Lcom/example/recital/recital/Numbering$Style;" (.ref w_SMALL_LETTERS)) (Sw_CAPITAL_LETTERS : Sta Z h "com/example/recital/recital/Numbering$Style" "CAPITAL_LETTERS" "Lcom/example/recital/recital/Numbering$Style;" (.ref w_CAPITAL_LETTERS)) (Sw_SMALL_ROMAN : Sta Z h "com/example/recital/recital/Numbering$Style" "SMALL_ROMAN" "Lcom/example/recital/recital/Numbering$Style;" (.ref w_SMALL_ROMAN)) (Sw_CAPITAL_ROMAN : Sta Z h "com/example/recital/recital/Numbering$Style" "CAPITAL_ROMAN" "Lcom/example/recital/recital/Numbering$Style;" (.ref w_CAPITAL_ROMAN)) (Sw_ARABIC : Sta Z h "com/example/recital/recital/Numbering$Style" "ARABIC" "Lcom/example/recital/recital/Numbering$Style;" (.ref w_ARABIC)) (E_x10 : Exa Z h x10 "com/example/recital/recital/Numbering") (F_x10_style : Fld Z h x10 "com/example/recital/recital/Numbering" "style" "Lcom/example/recital/recital/Numbering$Style;" (.ref u_x10_style)) (F_x10_value : Fld Z h x10 "com/example/recital/recital/Numbering" "value" "I" (.int u_x10_value)) (E_x11 : Exa Z h x11 "com/example/recital/recital/Numbering") (F_x11_style : Fld Z h x11 "com/example/recital/recital/Numbering" "style" "Lcom/example/recital/recital/Numbering$Style;" (.ref u_x11_style)) (F_x11_value : Fld Z h x11 "com/example/recital/recital/Numbering" "value" "I" (.int u_x11_value)) (g_x10 : n0 ≤ x10) (g_x11 : n0 ≤ x11) (ne_x10_x11 : x10 ≠ x11) :
    own_Go p e below s room_1.cells room_1.slots (R0 (f0_143 p0 p1 p2 p3 p4 w_SMALL_LETTERS w_CAPITAL_LETTERS w_SMALL_ROMAN w_CAPITAL_ROMAN w_ARABIC x5 x6 x7 x9 u_x10_style u_x10_value u_x11_style u_x11_value)) (K0 Z  h0 n0 (f0_143 p0 p1 p2 p3 p4 w_SMALL_LETTERS w_CAPITAL_LETTERS w_SMALL_ROMAN w_CAPITAL_ROMAN w_ARABIC x5 x6 x7 x9 u_x10_style u_x10_value u_x11_style u_x11_value)) (T0.setTop (mkF m 143 #[.val (.int p0), .val (.int p1), .val (.int p2), .val (.int p3), .val (.int p4), .val (.int x5), .val (.int x6), .val (.int x7), .val (.int x8), .val (.int x9), .val (.ref x10), .val (.ref x11), .unset, .unset] [])) := by
  have hx := Bd.exec
  have hby := Bd.bytes
  have hown : s.vm.findClass "com/example/recital/recital/NumberingFollowsPinLaw" = some m.cls := findClass_of_methodNamed Bd.named
  have hnm := (name_of_methodNamed Bd.named Bd.method).1
  unfold f0_143
  refine own_pre (F' := T0.setTop (mkF m 144 #[.val (.int p0), .val (.int p1), .val (.int p2), .val (.int p3), .val (.int p4), .val (.int x5), .val (.int x6), .val (.int x7), .val (.int x8), .val (.int x9), .val (.ref x10), .val (.ref x11), .unset, .unset] [(.int (0 : Int32))])) (fun _ k => XS.iconst X0.here hx rfl (hb hby at_143) k) ?_
  exact g0_144 hw p0 p1 p2 p3 p4 w_SMALL_LETTERS w_CAPITAL_LETTERS w_SMALL_ROMAN w_CAPITAL_ROMAN w_ARABIC  x5 x6 x7 x8 x9 x10 x11 (0 : Int32) u_x10_style u_x10_value u_x11_style u_x11_value Bd hml hZ T0 X0 e0 SZ0 NF0 Sw_SMALL_LETTERS Sw_CAPITAL_LETTERS Sw_SMALL_ROMAN Sw_CAPITAL_ROMAN Sw_ARABIC E_x10 F_x10_style F_x10_value E_x11 F_x11_style F_x11_value g_x10 g_x11 ne_x10_x11
def f0_120 (p0 : Int32) (p1 : Int32) (p2 : Int32) (p3 : Int32) (p4 : Int32) (w_SMALL_LETTERS : Addr) (w_CAPITAL_LETTERS : Addr) (w_SMALL_ROMAN : Addr) (w_CAPITAL_ROMAN : Addr) (w_ARABIC : Addr) (x5 : Int32) (x6 : Int32) (x7 : Int32) (x9 : Int32) (u_x10_style : Addr) (u_x10_value : Int32) (u_x11_style : Addr) (u_x11_value : Int32) : Int32 := (if x5 = x6 then (if (x9.toInt64) = ((x7.toInt64) + (1 : Int64)) then (f0_144 p0 p1 p2 p3 p4 w_SMALL_LETTERS w_CAPITAL_LETTERS w_SMALL_ROMAN w_CAPITAL_ROMAN w_ARABIC x5 x6 x7 x9 (1 : Int32) u_x10_style u_x10_value u_x11_style u_x11_value) else (f0_143 p0 p1 p2 p3 p4 w_SMALL_LETTERS w_CAPITAL_LETTERS w_SMALL_ROMAN w_CAPITAL_ROMAN w_ARABIC x5 x6 x7 x9 u_x10_style u_x10_value u_x11_style u_x11_value)) else (f0_143 p0 p1 p2 p3 p4 w_SMALL_LETTERS w_CAPITAL_LETTERS w_SMALL_ROMAN w_CAPITAL_ROMAN w_ARABIC x5 x6 x7 x9 u_x10_style u_x10_value u_x11_style u_x11_value))
set_option maxRecDepth 65536 in
set_option maxHeartbeats 40000000 in
theorem g0_120 {p : Program} {l : Launch} {e : Env} {s : State} {m : MethodId} {below : List Frame} {meth : Method} {c : Code} {s₁ : State} {ws : List Jvm.Cond} {Z : State} {aw : Array Value} (hw : ∀ d ∈ tables_1, d.before aw Z = true) {h0 : Heap} {n0 : Nat} (p0 : Int32) (p1 : Int32) (p2 : Int32) (p3 : Int32) (p4 : Int32) (w_SMALL_LETTERS : Addr) (w_CAPITAL_LETTERS : Addr) (w_SMALL_ROMAN : Addr) (w_CAPITAL_ROMAN : Addr) (w_ARABIC : Addr)  (x5 : Int32) (x6 : Int32) (x7 : Int32) (x8 : Int32) (x9 : Int32) (x10 : Addr) (x11 : Addr) (u_x10_style : Addr) (u_x10_value : Int32) (u_x11_style : Addr) (u_x11_value : Int32)
    (Bd : BodyLoose p l x (head1 (Jvm.Cond.code x code maxLocals ret :: ws) room_1) code maxLocals ret e s m #[(.int p0), (.int p1), (.int p2), (.int p3), (.int p4)] below meth c s₁) (hml : c.maxLocals = 14) (hZ : Z.Warmed39 s.vm) (T0 : State) {locs : List Loc} (X0 : Stand p l e room_1 s m #[(.int p0), (.int p1), (.int p2), (.int p3), (.int p4)] below meth c T0 locs 2 4) {h : Heap} (e0 : T0.heap = h) (SZ0 : n0 ≤ h.size) (NF0 : Fr n0 locs) (Sw_SMALL_LETTERS : Sta Z h "com/example/recital/recital/Numbering$Style" "SMALL_LETTERS" "Lcom/example/recital/recital/Numbering$Style;" (.ref w_SMALL_LETTERS)) (Sw_CAPITAL_LETTERS : Sta Z h "com/example/recital/recital/Numbering$Style" "CAPITAL_LETTERS" "Lcom/example/recital/recital/Numbering$Style;" (.ref w_CAPITAL_LETTERS)) (Sw_SMALL_ROMAN : Sta Z h "com/example/recital/recital/Numbering$Style" "SMALL_ROMAN" "Lcom/example/recital/recital/Numbering$Style;" (.ref w_SMALL_ROMAN)) (Sw_CAPITAL_ROMAN : Sta Z h "com/example/recital/recital/Numbering$Style" "CAPITAL_ROMAN" "Lcom/example/recital/recital/Numbering$Style;" (.ref w_CAPITAL_ROMAN)) (Sw_ARABIC : Sta Z h "com/example/recital/recital/Numbering$Style" "ARABIC" "Lcom/example/recital/recital/Numbering$Style;" (.ref w_ARABIC)) (E_x10 : Exa Z h x10 "com/example/recital/recital/Numbering") (F_x10_style : Fld Z h x10 "com/example/recital/recital/Numbering" "style" "Lcom/example/recital/recital/Numbering$Style;" (.ref u_x10_style)) (F_x10_value : Fld Z h x10 "com/example/recital/recital/Numbering" "value" "I" (.int u_x10_value)) (E_x11 : Exa Z h x11 "com/example/recital/recital/Numbering") (F_x11_style : Fld Z h x11 "com/example/recital/recital/Numbering" "style" "Lcom/example/recital/recital/Numbering$Style;" (.ref u_x11_style)) (F_x11_value : Fld Z h x11 "com/example/recital/recital/Numbering" "value" "I" (.int u_x11_value)) (g_x10 : n0 ≤ x10) (g_x11 : n0 ≤ x11) (ne_x10_x11 : x10 ≠ x11) :
    own_Go p e below s room_1.cells room_1.slots (R0 (f0_120 p0 p1 p2 p3 p4 w_SMALL_LETTERS w_CAPITAL_LETTERS w_SMALL_ROMAN w_CAPITAL_ROMAN w_ARABIC x5 x6 x7 x9 u_x10_style u_x10_value u_x11_style u_x11_value)) (K0 Z  h0 n0 (f0_120 p0 p1 p2 p3 p4 w_SMALL_LETTERS w_CAPITAL_LETTERS w_SMALL_ROMAN w_CAPITAL_ROMAN w_ARABIC x5 x6 x7 x9 u_x10_style u_x10_value u_x11_style u_x11_value)) (T0.setTop (mkF m 120 #[.val (.int p0), .val (.int p1), .val (.int p2), .val (.int p3), .val (.int p4), .val (.int x5), .val (.int x6), .val (.int x7), .val (.int x8), .val (.int x9), .val (.ref x10), .val (.ref x11), .unset, .unset] [])) := by
  have hx := Bd.exec
  have hby := Bd.bytes
  have hown : s.vm.findClass "com/example/recital/recital/NumberingFollowsPinLaw" = some m.cls := findClass_of_methodNamed Bd.named
  have hnm := (name_of_methodNamed Bd.named Bd.method).1
  unfold f0_120
  refine own_pre (F' := T0.setTop (mkF m 122 #[.val (.int p0), .val (.int p1), .val (.int p2), .val (.int p3), .val (.int p4), .val (.int x5), .val (.int x6), .val (.int x7), .val (.int x8), .val (.int x9), .val (.ref x10), .val (.ref x11), .unset, .unset] [(.int x5)])) (fun _ k => XS.iload X0.here hx rfl (hb hby at_120) rfl k) ?_
  refine own_pre (F' := T0.setTop (mkF m 124 #[.val (.int p0), .val (.int p1), .val (.int p2), .val (.int p3), .val (.int p4), .val (.int x5), .val (.int x6), .val (.int x7), .val (.int x8), .val (.int x9), .val (.ref x10), .val (.ref x11), .unset, .unset] [(.int x6), (.int x5)])) (fun _ k => XS.iload X0.here hx rfl (hb hby at_122) rfl k) ?_
  refine own_iteT R0 (K0 Z  h0 n0) (fun hc124 => ?_) (fun hc124 => ?_)
  · skip
    refine own_pre (F' := T0.setTop (mkF m 127 #[.val (.int p0), .val (.int p1), .val (.int p2), .val (.int p3), .val (.int p4), .val (.int x5), .val (.int x6), .val (.int x7), .val (.int x8), .val (.int x9), .val (.ref x10), .val (.ref x11), .unset, .unset] [])) (fun _ k => XS.icmpNo X0.here hx rfl (hb hby at_124) rfl (teq hc124).2 k) ?_
    refine own_pre (F' := T0.setTop (mkF m 129 #[.val (.int p0), .val (.int p1), .val (.int p2), .val (.int p3), .val (.int p4), .val (.int x5), .val (.int x6), .val (.int x7), .val (.int x8), .val (.int x9), .val (.ref x10), .val (.ref x11), .unset, .unset] [(.int x9)])) (fun _ k => XS.iload X0.here hx rfl (hb hby at_127) rfl k) ?_
    refine own_pre (F' := T0.setTop (mkF m 130 #[.val (.int p0), .val (.int p1), .val (.int p2), .val (.int p3), .val (.int p4), .val (.int x5), .val (.int x6), .val (.int x7), .val (.int x8), .val (.int x9), .val (.ref x10), .val (.ref x11), .unset, .unset] [(.long (x9.toInt64))])) (fun _ k => XS.i2l X0.here hx rfl (hb hby at_129) rfl k) ?_
    refine own_pre (F' := T0.setTop (mkF m 132 #[.val (.int p0), .val (.int p1), .val (.int p2), .val (.int p3), .val (.int p4), .val (.int x5), .val (.int x6), .val (.int x7), .val (.int x8), .val (.int x9), .val (.ref x10), .val (.ref x11), .unset, .unset] [(.int x7), (.long (x9.toInt64))])) (fun _ k => XS.iload X0.here hx rfl (hb hby at_130) rfl k) ?_
    refine own_pre (F' := T0.setTop (mkF m 133 #[.val (.int p0), .val (.int p1), .val (.int p2), .val (.int p3), .val (.int p4), .val (.int x5), .val (.int x6), .val (.int x7), .val (.int x8), .val (.int x9), .val (.ref x10), .val (.ref x11), .unset, .unset] [(.long (x7.toInt64)), (.long (x9.toInt64))])) (fun _ k => XS.i2l X0.here hx rfl (hb hby at_132) rfl k) ?_
    refine own_pre (F' := T0.setTop (mkF m 134 #[.val (.int p0), .val (.int p1), .val (.int p2), .val (.int p3), .val (.int p4), .val (.int x5), .val (.int x6), .val (.int x7), .val (.int x8), .val (.int x9), .val (.ref x10), .val (.ref x11), .unset, .unset] [(.long (1 : Int64)), (.long (x7.toInt64)), (.long (x9.toInt64))])) (fun _ k => XS.lconst X0.here hx rfl (hb hby at_133) k) ?_
    refine own_pre (F' := T0.setTop (mkF m 135 #[.val (.int p0), .val (.int p1), .val (.int p2), .val (.int p3), .val (.int p4), .val (.int x5), .val (.int x6), .val (.int x7), .val (.int x8), .val (.int x9), .val (.ref x10), .val (.ref x11), .unset, .unset] [(.long ((x7.toInt64) + (1 : Int64))), (.long (x9.toInt64))])) (fun _ k => XS.ladd X0.here hx rfl (hb hby at_134) rfl k) ?_
    refine own_pre (F' := T0.setTop (mkF m 136 #[.val (.int p0), .val (.int p1), .val (.int p2), .val (.int p3), .val (.int p4), .val (.int x5), .val (.int x6), .val (.int x7), .val (.int x8), .val (.int x9), .val (.ref x10), .val (.ref x11), .unset, .unset] [(.int (lcmpW (x9.toInt64) ((x7.toInt64) + (1 : Int64))))])) (fun _ k => XS.lcmp X0.here hx rfl (hb hby at_135) rfl k) ?_
    refine own_iteT R0 (K0 Z  h0 n0) (fun hc136 => ?_) (fun hc136 => ?_)
    · skip
      refine own_pre (F' := T0.setTop (mkF m 139 #[.val (.int p0), .val (.int p1), .val (.int p2), .val (.int p3), .val (.int p4), .val (.int x5), .val (.int x6), .val (.int x7), .val (.int x8), .val (.int x9), .val (.ref x10), .val (.ref x11), .unset, .unset] [])) (fun _ k => XS.ifNo X0.here hx rfl (hb hby at_136) rfl ((if0 _ _).trans (teq ((lw_eq _ _).mpr hc136)).2) k) ?_
      refine own_pre (F' := T0.setTop (mkF m 140 #[.val (.int p0), .val (.int p1), .val (.int p2), .val (.int p3), .val (.int p4), .val (.int x5), .val (.int x6), .val (.int x7), .val (.int x8), .val (.int x9), .val (.ref x10), .val (.ref x11), .unset, .unset] [(.int (1 : Int32))])) (fun _ k => XS.iconst X0.here hx rfl (hb hby at_139) k) ?_
      refine own_pre (F' := T0.setTop (mkF m 144 #[.val (.int p0), .val (.int p1), .val (.int p2), .val (.int p3), .val (.int p4), .val (.int x5), .val (.int x6), .val (.int x7), .val (.int x8), .val (.int x9), .val (.ref x10), .val (.ref x11), .unset, .unset] [(.int (1 : Int32))])) (fun _ k => XS.goto X0.here hx rfl (pc0 := 140) (pc' := 144) rfl (hb hby at_140) (by decide) (by decide) k) ?_
      exact g0_144 hw p0 p1 p2 p3 p4 w_SMALL_LETTERS w_CAPITAL_LETTERS w_SMALL_ROMAN w_CAPITAL_ROMAN w_ARABIC  x5 x6 x7 x8 x9 x10 x11 (1 : Int32) u_x10_style u_x10_value u_x11_style u_x11_value Bd hml hZ T0 X0 e0 SZ0 NF0 Sw_SMALL_LETTERS Sw_CAPITAL_LETTERS Sw_SMALL_ROMAN Sw_CAPITAL_ROMAN Sw_ARABIC E_x10 F_x10_style F_x10_value E_x11 F_x11_style F_x11_value g_x10 g_x11 ne_x10_x11
    · skip
      refine own_pre (F' := T0.setTop (mkF m 143 #[.val (.int p0), .val (.int p1), .val (.int p2), .val (.int p3), .val (.int p4), .val (.int x5), .val (.int x6), .val (.int x7), .val (.int x8), .val (.int x9), .val (.ref x10), .val (.ref x11), .unset, .unset] [])) (fun _ k => XS.ifYes X0.here hx rfl (pc0 := 136) (pc' := 143) rfl (hb hby at_136) rfl ((if0 _ _).trans (feq (fun q => hc136 ((lw_eq _ _).mp q))).2) (by decide) (by decide) k) ?_
      exact g0_143 hw p0 p1 p2 p3 p4 w_SMALL_LETTERS w_CAPITAL_LETTERS w_SMALL_ROMAN w_CAPITAL_ROMAN w_ARABIC  x5 x6 x7 x8 x9 x10 x11 u_x10_style u_x10_value u_x11_style u_x11_value Bd hml hZ T0 X0 e0 SZ0 NF0 Sw_SMALL_LETTERS Sw_CAPITAL_LETTERS Sw_SMALL_ROMAN Sw_CAPITAL_ROMAN Sw_ARABIC E_x10 F_x10_style F_x10_value E_x11 F_x11_style F_x11_value g_x10 g_x11 ne_x10_x11
  · skip
    refine own_pre (F' := T0.setTop (mkF m 143 #[.val (.int p0), .val (.int p1), .val (.int p2), .val (.int p3), .val (.int p4), .val (.int x5), .val (.int x6), .val (.int x7), .val (.int x8), .val (.int x9), .val (.ref x10), .val (.ref x11), .unset, .unset] [])) (fun _ k => XS.icmpYes X0.here hx rfl (pc0 := 124) (pc' := 143) rfl (hb hby at_124) rfl (feq hc124).2 (by decide) (by decide) k) ?_
    exact g0_143 hw p0 p1 p2 p3 p4 w_SMALL_LETTERS w_CAPITAL_LETTERS w_SMALL_ROMAN w_CAPITAL_ROMAN w_ARABIC  x5 x6 x7 x8 x9 x10 x11 u_x10_style u_x10_value u_x11_style u_x11_value Bd hml hZ T0 X0 e0 SZ0 NF0 Sw_SMALL_LETTERS Sw_CAPITAL_LETTERS Sw_SMALL_ROMAN Sw_CAPITAL_ROMAN Sw_ARABIC E_x10 F_x10_style F_x10_value E_x11 F_x11_style F_x11_value g_x10 g_x11 ne_x10_x11
def f0_88 (p0 : Int32) (p1 : Int32) (p2 : Int32) (p3 : Int32) (p4 : Int32) (w_SMALL_LETTERS : Addr) (w_CAPITAL_LETTERS : Addr) (w_SMALL_ROMAN : Addr) (w_CAPITAL_ROMAN : Addr) (w_ARABIC : Addr) (x5 : Int32) (x6 : Int32) (x7 : Int32) (x9 : Int32) : Int32 := (f0_120 p0 p1 p2 p3 p4 w_SMALL_LETTERS w_CAPITAL_LETTERS w_SMALL_ROMAN w_CAPITAL_ROMAN w_ARABIC x5 x6 x7 x9 (f2_0 (f1_0 x6 w_SMALL_LETTERS w_CAPITAL_LETTERS w_SMALL_ROMAN w_CAPITAL_ROMAN w_ARABIC) x7 (.null : Value) (0 : Int32)).1 (f2_0 (f1_0 x6 w_SMALL_LETTERS w_CAPITAL_LETTERS w_SMALL_ROMAN w_CAPITAL_ROMAN w_ARABIC) x7 (.null : Value) (0 : Int32)).2 (f2_0 (f1_0 x5 w_SMALL_LETTERS w_CAPITAL_LETTERS w_SMALL_ROMAN w_CAPITAL_ROMAN w_ARABIC) x9 (.null : Value) (0 : Int32)).1 (f2_0 (f1_0 x5 w_SMALL_LETTERS w_CAPITAL_LETTERS w_SMALL_ROMAN w_CAPITAL_ROMAN w_ARABIC) x9 (.null : Value) (0 : Int32)).2)
set_option maxRecDepth 65536 in
set_option maxHeartbeats 40000000 in
theorem g0_88 {p : Program} {l : Launch} {e : Env} {s : State} {m : MethodId} {below : List Frame} {meth : Method} {c : Code} {s₁ : State} {ws : List Jvm.Cond} {Z : State} {aw : Array Value} (hw : ∀ d ∈ tables_1, d.before aw Z = true) {h0 : Heap} {n0 : Nat} (p0 : Int32) (p1 : Int32) (p2 : Int32) (p3 : Int32) (p4 : Int32) (w_SMALL_LETTERS : Addr) (w_CAPITAL_LETTERS : Addr) (w_SMALL_ROMAN : Addr) (w_CAPITAL_ROMAN : Addr) (w_ARABIC : Addr)  (x5 : Int32) (x6 : Int32) (x7 : Int32) (x8 : Int32) (x9 : Int32)
    (Bd : BodyLoose p l x (head1 (Jvm.Cond.code x code maxLocals ret :: ws) room_1) code maxLocals ret e s m #[(.int p0), (.int p1), (.int p2), (.int p3), (.int p4)] below meth c s₁) (hml : c.maxLocals = 14) (hZ : Z.Warmed39 s.vm) (T0 : State) {locs : List Loc} (X0 : Stand p l e room_1 s m #[(.int p0), (.int p1), (.int p2), (.int p3), (.int p4)] below meth c T0 locs 0 0) {h : Heap} (e0 : T0.heap = h) (SZ0 : n0 ≤ h.size) (NF0 : Fr n0 locs) (Sw_SMALL_LETTERS : Sta Z h "com/example/recital/recital/Numbering$Style" "SMALL_LETTERS" "Lcom/example/recital/recital/Numbering$Style;" (.ref w_SMALL_LETTERS)) (Sw_CAPITAL_LETTERS : Sta Z h "com/example/recital/recital/Numbering$Style" "CAPITAL_LETTERS" "Lcom/example/recital/recital/Numbering$Style;" (.ref w_CAPITAL_LETTERS)) (Sw_SMALL_ROMAN : Sta Z h "com/example/recital/recital/Numbering$Style" "SMALL_ROMAN" "Lcom/example/recital/recital/Numbering$Style;" (.ref w_SMALL_ROMAN)) (Sw_CAPITAL_ROMAN : Sta Z h "com/example/recital/recital/Numbering$Style" "CAPITAL_ROMAN" "Lcom/example/recital/recital/Numbering$Style;" (.ref w_CAPITAL_ROMAN)) (Sw_ARABIC : Sta Z h "com/example/recital/recital/Numbering$Style" "ARABIC" "Lcom/example/recital/recital/Numbering$Style;" (.ref w_ARABIC)) :
    own_Go p e below s room_1.cells room_1.slots (R0 (f0_88 p0 p1 p2 p3 p4 w_SMALL_LETTERS w_CAPITAL_LETTERS w_SMALL_ROMAN w_CAPITAL_ROMAN w_ARABIC x5 x6 x7 x9)) (K0 Z  h0 n0 (f0_88 p0 p1 p2 p3 p4 w_SMALL_LETTERS w_CAPITAL_LETTERS w_SMALL_ROMAN w_CAPITAL_ROMAN w_ARABIC x5 x6 x7 x9)) (T0.setTop (mkF m 88 #[.val (.int p0), .val (.int p1), .val (.int p2), .val (.int p3), .val (.int p4), .val (.int x5), .val (.int x6), .val (.int x7), .val (.int x8), .val (.int x9), .unset, .unset, .unset, .unset] [])) := by
  have hx := Bd.exec
  have hby := Bd.bytes
  have hown : s.vm.findClass "com/example/recital/recital/NumberingFollowsPinLaw" = some m.cls := findClass_of_methodNamed Bd.named
  have hnm := (name_of_methodNamed Bd.named Bd.method).1
  unfold f0_88
  obtain ⟨T1, h1, X1, e1, E1, A1, D1, -, st'⟩ := newO X0 hx hZ hown (hw _ (List.mem_of_getElem? (i := 1) rfl)) (hw _ (List.mem_of_getElem? (i := 2) rfl)) (hw _ (List.mem_of_getElem? (i := 3) rfl)) e0 (g := (mkF m 88 #[.val (.int p0), .val (.int p1), .val (.int p2), .val (.int p3), .val (.int p4), .val (.int x5), .val (.int x6), .val (.int x7), .val (.int x8), .val (.int x9), .unset, .unset, .unset, .unset] [])) rfl (hb hby at_88) (by decide) (by decide)
  obtain ⟨b1, g1⟩ : ∃ z, z = h.size := ⟨_, rfl⟩
  rw [← g1] at A1 D1 st'
  have g_b1 : n0 ≤ b1 := Nat.le_trans SZ0 (Nat.le_of_eq g1.symm)
  have SZ1 : n0 ≤ h1.size := Nat.le_trans SZ0 E1.1
  have f2 := Sw_SMALL_LETTERS.ext E1
  have f3 := Sw_CAPITAL_LETTERS.ext E1
  have f4 := Sw_SMALL_ROMAN.ext E1
  have f5 := Sw_CAPITAL_ROMAN.ext E1
  have f6 := Sw_ARABIC.ext E1
  have f7 : Fld Z h1 b1 "com/example/recital/recital/Numbering" "style" "Lcom/example/recital/recital/Numbering$Style;" .null := D1 (Or.inr (hw _ (List.mem_of_getElem? (i := 23) rfl))) (ty := (.object "com/example/recital/recital/Numbering$Style")) (by decide)
  have f8 : Fld Z h1 b1 "com/example/recital/recital/Numbering" "value" "I" (.int (0 : Int32)) := D1 (Or.inr (hw _ (List.mem_of_getElem? (i := 25) rfl))) (ty := .int) (by decide)
  refine own_pre (F' := T1.setTop (mkF m 91 #[.val (.int p0), .val (.int p1), .val (.int p2), .val (.int p3), .val (.int p4), .val (.int x5), .val (.int x6), .val (.int x7), .val (.int x8), .val (.int x9), .unset, .unset, .unset, .unset] [(.ref b1)])) (fun t k => st' t k) ?_
  refine own_pre (F' := T1.setTop (mkF m 92 #[.val (.int p0), .val (.int p1), .val (.int p2), .val (.int p3), .val (.int p4), .val (.int x5), .val (.int x6), .val (.int x7), .val (.int x8), .val (.int x9), .unset, .unset, .unset, .unset] [(.ref b1), (.ref b1)])) (fun _ k => XS.dup X1.here hx rfl (hb hby at_91) rfl rfl k) ?_
  refine own_pre (F' := T1.setTop (mkF m 94 #[.val (.int p0), .val (.int p1), .val (.int p2), .val (.int p3), .val (.int p4), .val (.int x5), .val (.int x6), .val (.int x7), .val (.int x8), .val (.int x9), .unset, .unset, .unset, .unset] [(.int x6), (.ref b1), (.ref b1)])) (fun _ k => XS.iload X1.here hx rfl (hb hby at_92) rfl k) ?_
  obtain ⟨_, _, ⟨T9, L9, k9, n9⟩, -, X9', ⟨Lc9, hQ9, l9, y9, z9⟩, st'⟩ := Jvm.LawKit.callS X1 hx (y := (⟨"com/example/recital/recital/NumberingFollowsPinLaw", "style", "(I)Lcom/example/recital/recital/Numbering$Style;"⟩ : MethodName)) hown (mvT hZ (hw _ (List.mem_of_getElem? (i := 4) rfl))) (mvT hZ (hw _ (List.mem_of_getElem? (i := 5) rfl))) (mvT hZ (hw _ (List.mem_of_getElem? (i := 6) rfl))) (mvT hZ (hw _ (List.mem_of_getElem? (i := 7) rfl))) (by decide) (backOf (W := 2) (rm1 l Z aw hw [] x6 w_SMALL_LETTERS w_CAPITAL_LETTERS w_SMALL_ROMAN w_CAPITAL_ROMAN w_ARABIC h1 f2 f3 f4 f5 f6) hZ (hw _ (List.mem_of_getElem? (i := 7) rfl)) (hw _ (List.mem_of_getElem? (i := 6) rfl)) (by decide) (by decide)) (g := (mkF m 94 #[.val (.int p0), .val (.int p1), .val (.int p2), .val (.int p3), .val (.int p4), .val (.int x5), .val (.int x6), .val (.int x7), .val (.int x8), .val (.int x9), .unset, .unset, .unset, .unset] [(.int x6), (.ref b1), (.ref b1)])) rfl (by rw [hml]; rfl) (argsL := [(.int x6)]) (rest := [(.ref b1), (.ref b1)]) (lenOf own_pd1 rfl) rfl (by show 2 * 0 + _ ≤ _; exact Nat.le_of_eq rfl) (hb hby at_94) (fun _ _ => ⟨rfl, e1, (by decide : 1 + 0 ≤ _), (by decide : 2 + 0 ≤ _)⟩)
  dsimp only [Pt.U, Pt.locs, Pt.cells, Pt.slots] at X9' l9 y9 z9 st' hQ9
  subst l9 y9 z9
  obtain ⟨rfl, rfl, e9⟩ := hQ9
  have X9 : Stand p l e room_1 s m #[(.int p0), (.int p1), (.int p2), (.int p3), (.int p4)] below meth c T9 _ 1 2 := (List.append_nil _) ▸ X9'
  refine own_pre (F' := T9.setTop (mkF m 97 #[.val (.int p0), .val (.int p1), .val (.int p2), .val (.int p3), .val (.int p4), .val (.int x5), .val (.int x6), .val (.int x7), .val (.int x8), .val (.int x9), .unset, .unset, .unset, .unset] [(.ref (f1_0 x6 w_SMALL_LETTERS w_CAPITAL_LETTERS w_SMALL_ROMAN w_CAPITAL_ROMAN w_ARABIC)), (.ref b1), (.ref b1)])) (fun t k => st' t k) ?_
  refine own_pre (F' := T9.setTop (mkF m 99 #[.val (.int p0), .val (.int p1), .val (.int p2), .val (.int p3), .val (.int p4), .val (.int x5), .val (.int x6), .val (.int x7), .val (.int x8), .val (.int x9), .unset, .unset, .unset, .unset] [(.int x7), (.ref (f1_0 x6 w_SMALL_LETTERS w_CAPITAL_LETTERS w_SMALL_ROMAN w_CAPITAL_ROMAN w_ARABIC)), (.ref b1), (.ref b1)])) (fun _ k => XS.iload X9.here hx rfl (hb hby at_97) rfl k) ?_
  obtain ⟨_, _, ⟨T10, L10, k10, n10⟩, -, X10', ⟨Lc10, hQ10, l10, y10, z10⟩, st'⟩ := X9.specialBack hx (y := (⟨"com/example/recital/recital/Numbering", "<init>", "(Lcom/example/recital/recital/Numbering$Style;I)V"⟩ : MethodName)) rfl hown (mvT hZ (hw _ (List.mem_of_getElem? (i := 11) rfl))) (mvT hZ (hw _ (List.mem_of_getElem? (i := 12) rfl))) (mvT hZ (hw _ (List.mem_of_getElem? (i := 13) rfl))) (by decide) (backOf (W := 1) (rm2 l Z aw hw [] (f1_0 x6 w_SMALL_LETTERS w_CAPITAL_LETTERS w_SMALL_ROMAN w_CAPITAL_ROMAN w_ARABIC) x7 (.null : Value) (0 : Int32) b1 h1 n0 SZ1 A1 f7 f8 g_b1) hZ (hw _ (List.mem_of_getElem? (i := 13) rfl)) (hw _ (List.mem_of_getElem? (i := 3) rfl)) (by decide) (by decide)) (g := (mkF m 99 #[.val (.int p0), .val (.int p1), .val (.int p2), .val (.int p3), .val (.int p4), .val (.int x5), .val (.int x6), .val (.int x7), .val (.int x8), .val (.int x9), .unset, .unset, .unset, .unset] [(.int x7), (.ref (f1_0 x6 w_SMALL_LETTERS w_CAPITAL_LETTERS w_SMALL_ROMAN w_CAPITAL_ROMAN w_ARABIC)), (.ref b1), (.ref b1)])) rfl (by rw [hml]; rfl) (Steps.refl _) (a := b1) (argsL := [(.ref (f1_0 x6 w_SMALL_LETTERS w_CAPITAL_LETTERS w_SMALL_ROMAN w_CAPITAL_ROMAN w_ARABIC)), (.int x7)]) (rest := [(.ref b1)]) (lenOf own_pd2 rfl) rfl (by show 2 * 0 + _ ≤ _; exact Nat.le_of_eq rfl) (hb hby at_99) (fun _ _ => ⟨rfl, e9, (by decide : 1 + 0 ≤ _), (by decide : 2 + 0 ≤ _)⟩)
  dsimp only [Pt.U, Pt.locs, Pt.cells, Pt.slots] at X10' l10 y10 z10 st' hQ10
  subst l10 y10 z10
  obtain ⟨rfl, NFq10, KPq10, fe10_0, ff10_0_style, ff10_0_value⟩ := hQ10
  have X10 : Stand p l e room_1 s m #[(.int p0), (.int p1), (.int p2), (.int p3), (.int p4)] below meth c T10 _ 1 2 := X10'
  have NF10 := Fr.app NF0 NFq10
  have SZ10 : n0 ≤ T10.heap.size := Nat.le_trans SZ1 KPq10.1
  have f11 := own_staKeep f2 KPq10 (own_nost1 A1)
  have f12 := own_staKeep f3 KPq10 (own_nost1 A1)
  have f13 := own_staKeep f4 KPq10 (own_nost1 A1)
  have f14 := own_staKeep f5 KPq10 (own_nost1 A1)
  have f15 := own_staKeep f6 KPq10 (own_nost1 A1)
  have f16 := A1.keep KPq10
  refine own_pre (F' := T10.setTop (mkF m 102 #[.val (.int p0), .val (.int p1), .val (.int p2), .val (.int p3), .val (.int p4), .val (.int x5), .val (.int x6), .val (.int x7), .val (.int x8), .val (.int x9), .unset, .unset, .unset, .unset] [(.ref b1)])) (fun t k => st'.trans k) ?_
  refine own_pre (F' := T10.setTop (mkF m 104 #[.val (.int p0), .val (.int p1), .val (.int p2), .val (.int p3), .val (.int p4), .val (.int x5), .val (.int x6), .val (.int x7), .val (.int x8), .val (.int x9), .val (.ref b1), .unset, .unset, .unset] [])) (fun _ k => XS.astore X10.here hx rfl (hb hby at_102) rfl rfl (l' := #[.val (.int p0), .val (.int p1), .val (.int p2), .val (.int p3), .val (.int p4), .val (.int x5), .val (.int x6), .val (.int x7), .val (.int x8), .val (.int x9), .val (.ref b1), .unset, .unset, .unset]) rfl k) ?_
  obtain ⟨T17, h17, X17, e17, E17, A17, D17, -, st'⟩ := newO X10 hx hZ hown (hw _ (List.mem_of_getElem? (i := 1) rfl)) (hw _ (List.mem_of_getElem? (i := 2) rfl)) (hw _ (List.mem_of_getElem? (i := 3) rfl)) (rfl : T10.heap = T10.heap) (g := (mkF m 104 #[.val (.int p0), .val (.int p1), .val (.int p2), .val (.int p3), .val (.int p4), .val (.int x5), .val (.int x6), .val (.int x7), .val (.int x8), .val (.int x9), .val (.ref b1), .unset, .unset, .unset] [])) rfl (hb hby at_104) (by decide) (by decide)
  obtain ⟨b17, g17⟩ : ∃ z, z = T10.heap.size := ⟨_, rfl⟩
  rw [← g17] at A17 D17 st'
  have g_b17 : n0 ≤ b17 := Nat.le_trans SZ10 (Nat.le_of_eq g17.symm)
  have ne_b1_b17 : b1 ≠ b17 := Nat.ne_of_lt (Nat.lt_of_lt_of_le fe10_0.lt (Nat.le_of_eq g17.symm))
  have SZ17 : n0 ≤ h17.size := Nat.le_trans SZ10 E17.1
  have f18 := f11.ext E17
  have f19 := f12.ext E17
  have f20 := f13.ext E17
  have f21 := f14.ext E17
  have f22 := f15.ext E17
  have f23 := fe10_0.ext E17
  have f24 := ff10_0_style.ext E17
  have f25 := ff10_0_value.ext E17
  have f26 : Fld Z h17 b17 "com/example/recital/recital/Numbering" "style" "Lcom/example/recital/recital/Numbering$Style;" .null := D17 (Or.inr (hw _ (List.mem_of_getElem? (i := 23) rfl))) (ty := (.object "com/example/recital/recital/Numbering$Style")) (by decide)
  have f27 : Fld Z h17 b17 "com/example/recital/recital/Numbering" "value" "I" (.int (0 : Int32)) := D17 (Or.inr (hw _ (List.mem_of_getElem? (i := 25) rfl))) (ty := .int) (by decide)
  refine own_pre (F' := T17.setTop (mkF m 107 #[.val (.int p0), .val (.int p1), .val (.int p2), .val (.int p3), .val (.int p4), .val (.int x5), .val (.int x6), .val (.int x7), .val (.int x8), .val (.int x9), .val (.ref b1), .unset, .unset, .unset] [(.ref b17)])) (fun t k => st' t k) ?_
  refine own_pre (F' := T17.setTop (mkF m 108 #[.val (.int p0), .val (.int p1), .val (.int p2), .val (.int p3), .val (.int p4), .val (.int x5), .val (.int x6), .val (.int x7), .val (.int x8), .val (.int x9), .val (.ref b1), .unset, .unset, .unset] [(.ref b17), (.ref b17)])) (fun _ k => XS.dup X17.here hx rfl (hb hby at_107) rfl rfl k) ?_
  refine own_pre (F' := T17.setTop (mkF m 110 #[.val (.int p0), .val (.int p1), .val (.int p2), .val (.int p3), .val (.int p4), .val (.int x5), .val (.int x6), .val (.int x7), .val (.int x8), .val (.int x9), .val (.ref b1), .unset, .unset, .unset] [(.int x5), (.ref b17), (.ref b17)])) (fun _ k => XS.iload X17.here hx rfl (hb hby at_108) rfl k) ?_
  obtain ⟨_, _, ⟨T28, L28, k28, n28⟩, -, X28', ⟨Lc28, hQ28, l28, y28, z28⟩, st'⟩ := Jvm.LawKit.callS X17 hx (y := (⟨"com/example/recital/recital/NumberingFollowsPinLaw", "style", "(I)Lcom/example/recital/recital/Numbering$Style;"⟩ : MethodName)) hown (mvT hZ (hw _ (List.mem_of_getElem? (i := 4) rfl))) (mvT hZ (hw _ (List.mem_of_getElem? (i := 5) rfl))) (mvT hZ (hw _ (List.mem_of_getElem? (i := 6) rfl))) (mvT hZ (hw _ (List.mem_of_getElem? (i := 7) rfl))) (by decide) (backOf (W := 2) (rm1 l Z aw hw [] x5 w_SMALL_LETTERS w_CAPITAL_LETTERS w_SMALL_ROMAN w_CAPITAL_ROMAN w_ARABIC h17 f18 f19 f20 f21 f22) hZ (hw _ (List.mem_of_getElem? (i := 7) rfl)) (hw _ (List.mem_of_getElem? (i := 6) rfl)) (by decide) (by decide)) (g := (mkF m 110 #[.val (.int p0), .val (.int p1), .val (.int p2), .val (.int p3), .val (.int p4), .val (.int x5), .val (.int x6), .val (.int x7), .val (.int x8), .val (.int x9), .val (.ref b1), .unset, .unset, .unset] [(.int x5), (.ref b17), (.ref b17)])) rfl (by rw [hml]; rfl) (argsL := [(.int x5)]) (rest := [(.ref b17), (.ref b17)]) (lenOf own_pd1 rfl) rfl (by show 2 * 0 + _ ≤ _; exact Nat.le_of_eq rfl) (hb hby at_110) (fun _ _ => ⟨rfl, e17, (by decide : 2 + 0 ≤ _), (by decide : 4 + 0 ≤ _)⟩)
  dsimp only [Pt.U, Pt.locs, Pt.cells, Pt.slots] at X28' l28 y28 z28 st' hQ28
  subst l28 y28 z28
  obtain ⟨rfl, rfl, e28⟩ := hQ28
  have X28 : Stand p l e room_1 s m #[(.int p0), (.int p1), (.int p2), (.int p3), (.int p4)] below meth c T28 _ 2 4 := (List.append_nil _) ▸ X28'
  refine own_pre (F' := T28.setTop (mkF m 113 #[.val (.int p0), .val (.int p1), .val (.int p2), .val (.int p3), .val (.int p4), .val (.int x5), .val (.int x6), .val (.int x7), .val (.int x8), .val (.int x9), .val (.ref b1), .unset, .unset, .unset] [(.ref (f1_0 x5 w_SMALL_LETTERS w_CAPITAL_LETTERS w_SMALL_ROMAN w_CAPITAL_ROMAN w_ARABIC)), (.ref b17), (.ref b17)])) (fun t k => st' t k) ?_
  refine own_pre (F' := T28.setTop (mkF m 115 #[.val (.int p0), .val (.int p1), .val (.int p2), .val (.int p3), .val (.int p4), .val (.int x5), .val (.int x6), .val (.int x7), .val (.int x8), .val (.int x9), .val (.ref b1), .unset, .unset, .unset] [(.int x9), (.ref (f1_0 x5 w_SMALL_LETTERS w_CAPITAL_LETTERS w_SMALL_ROMAN w_CAPITAL_ROMAN w_ARABIC)), (.ref b17), (.ref b17)])) (fun _ k => XS.iload X28.here hx rfl (hb hby at_113) rfl k) ?_
  obtain ⟨_, _, ⟨T29, L29, k29, n29⟩, -, X29', ⟨Lc29, hQ29, l29, y29, z29⟩, st'⟩ := X28.specialBack hx (y := (⟨"com/example/recital/recital/Numbering", "<init>", "(Lcom/example/recital/recital/Numbering$Style;I)V"⟩ : MethodName)) rfl hown (mvT hZ (hw _ (List.mem_of_getElem? (i := 11) rfl))) (mvT hZ (hw _ (List.mem_of_getElem? (i := 12) rfl))) (mvT hZ (hw _ (List.mem_of_getElem? (i := 13) rfl))) (by decide) (backOf (W := 1) (rm2 l Z aw hw [] (f1_0 x5 w_SMALL_LETTERS w_CAPITAL_LETTERS w_SMALL_ROMAN w_CAPITAL_ROMAN w_ARABIC) x9 (.null : Value) (0 : Int32) b17 h17 n0 SZ17 A17 f26 f27 g_b17) hZ (hw _ (List.mem_of_getElem? (i := 13) rfl)) (hw _ (List.mem_of_getElem? (i := 3) rfl)) (by decide) (by decide)) (g := (mkF m 115 #[.val (.int p0), .val (.int p1), .val (.int p2), .val (.int p3), .val (.int p4), .val (.int x5), .val (.int x6), .val (.int x7), .val (.int x8), .val (.int x9), .val (.ref b1), .unset, .unset, .unset] [(.int x9), (.ref (f1_0 x5 w_SMALL_LETTERS w_CAPITAL_LETTERS w_SMALL_ROMAN w_CAPITAL_ROMAN w_ARABIC)), (.ref b17), (.ref b17)])) rfl (by rw [hml]; rfl) (Steps.refl _) (a := b17) (argsL := [(.ref (f1_0 x5 w_SMALL_LETTERS w_CAPITAL_LETTERS w_SMALL_ROMAN w_CAPITAL_ROMAN w_ARABIC)), (.int x9)]) (rest := [(.ref b17)]) (lenOf own_pd2 rfl) rfl (by show 2 * 0 + _ ≤ _; exact Nat.le_of_eq rfl) (hb hby at_115) (fun _ _ => ⟨rfl, e28, (by decide : 2 + 0 ≤ _), (by decide : 4 + 0 ≤ _)⟩)
  dsimp only [Pt.U, Pt.locs, Pt.cells, Pt.slots] at X29' l29 y29 z29 st' hQ29
  subst l29 y29 z29
  obtain ⟨rfl, NFq29, KPq29, fe29_0, ff29_0_style, ff29_0_value⟩ := hQ29
  have X29 : Stand p l e room_1 s m #[(.int p0), (.int p1), (.int p2), (.int p3), (.int p4)] below meth c T29 _ 2 4 := X29'
  have NF29 := Fr.app NF10 NFq29
  have SZ29 : n0 ≤ T29.heap.size := Nat.le_trans SZ17 KPq29.1
  have f30 := own_staKeep f18 KPq29 (own_nost1 A17)
  have f31 := own_staKeep f19 KPq29 (own_nost1 A17)
  have f32 := own_staKeep f20 KPq29 (own_nost1 A17)
  have f33 := own_staKeep f21 KPq29 (own_nost1 A17)
  have f34 := own_staKeep f22 KPq29 (own_nost1 A17)
  have f35 := f23.keep KPq29
  have f36 := f24.keep KPq29 (ninS ne_b1_b17 nin0)
  have f37 := f25.keep KPq29 (ninS ne_b1_b17 nin0)
  have f38 := A17.keep KPq29
  refine own_pre (F' := T29.setTop (mkF m 118 #[.val (.int p0), .val (.int p1), .val (.int p2), .val (.int p3), .val (.int p4), .val (.int x5), .val (.int x6), .val (.int x7), .val (.int x8), .val (.int x9), .val (.ref b1), .unset, .unset, .unset] [(.ref b17)])) (fun t k => st'.trans k) ?_
  refine own_pre (F' := T29.setTop (mkF m 120 #[.val (.int p0), .val (.int p1), .val (.int p2), .val (.int p3), .val (.int p4), .val (.int x5), .val (.int x6), .val (.int x7), .val (.int x8), .val (.int x9), .val (.ref b1), .val (.ref b17), .unset, .unset] [])) (fun _ k => XS.astore X29.here hx rfl (hb hby at_118) rfl rfl (l' := #[.val (.int p0), .val (.int p1), .val (.int p2), .val (.int p3), .val (.int p4), .val (.int x5), .val (.int x6), .val (.int x7), .val (.int x8), .val (.int x9), .val (.ref b1), .val (.ref b17), .unset, .unset]) rfl k) ?_
  exact g0_120 hw p0 p1 p2 p3 p4 w_SMALL_LETTERS w_CAPITAL_LETTERS w_SMALL_ROMAN w_CAPITAL_ROMAN w_ARABIC  x5 x6 x7 x8 x9 b1 b17 (f2_0 (f1_0 x6 w_SMALL_LETTERS w_CAPITAL_LETTERS w_SMALL_ROMAN w_CAPITAL_ROMAN w_ARABIC) x7 (.null : Value) (0 : Int32)).1 (f2_0 (f1_0 x6 w_SMALL_LETTERS w_CAPITAL_LETTERS w_SMALL_ROMAN w_CAPITAL_ROMAN w_ARABIC) x7 (.null : Value) (0 : Int32)).2 (f2_0 (f1_0 x5 w_SMALL_LETTERS w_CAPITAL_LETTERS w_SMALL_ROMAN w_CAPITAL_ROMAN w_ARABIC) x9 (.null : Value) (0 : Int32)).1 (f2_0 (f1_0 x5 w_SMALL_LETTERS w_CAPITAL_LETTERS w_SMALL_ROMAN w_CAPITAL_ROMAN w_ARABIC) x9 (.null : Value) (0 : Int32)).2 Bd hml hZ T29 X29 (rfl : T29.heap = T29.heap) SZ29 NF29 f30 f31 f32 f33 f34 f35 f36 f37 fe29_0 ff29_0_style ff29_0_value g_b1 g_b17 ne_b1_b17
def f0_37 (p0 : Int32) (p1 : Int32) (p2 : Int32) (p3 : Int32) (p4 : Int32) (w_SMALL_LETTERS : Addr) (w_CAPITAL_LETTERS : Addr) (w_SMALL_ROMAN : Addr) (w_CAPITAL_ROMAN : Addr) (w_ARABIC : Addr) (x5 : Int32) (x6 : Int32) (x7 : Int32) : Int32 := (if (p4 &&& (3 : Int32)) = (0 : Int32) then (f0_88 p0 p1 p2 p3 p4 w_SMALL_LETTERS w_CAPITAL_LETTERS w_SMALL_ROMAN w_CAPITAL_ROMAN w_ARABIC x5 x6 x7 p3) else (if (p4 &&& (3 : Int32)) = (1 : Int32) then (f0_88 p0 p1 p2 p3 p4 w_SMALL_LETTERS w_CAPITAL_LETTERS w_SMALL_ROMAN w_CAPITAL_ROMAN w_ARABIC x5 x6 x7 (x7 + (1 : Int32))) else (if (p4 &&& (3 : Int32)) = (2 : Int32) then (f0_88 p0 p1 p2 p3 p4 w_SMALL_LETTERS w_CAPITAL_LETTERS w_SMALL_ROMAN w_CAPITAL_ROMAN w_ARABIC x5 x6 x7 x7) else (f0_88 p0 p1 p2 p3 p4 w_SMALL_LETTERS w_CAPITAL_LETTERS w_SMALL_ROMAN w_CAPITAL_ROMAN w_ARABIC x5 x6 x7 (x7 + (2 : Int32))))))
set_option maxRecDepth 65536 in
set_option maxHeartbeats 40000000 in
theorem g0_37 {p : Program} {l : Launch} {e : Env} {s : State} {m : MethodId} {below : List Frame} {meth : Method} {c : Code} {s₁ : State} {ws : List Jvm.Cond} {Z : State} {aw : Array Value} (hw : ∀ d ∈ tables_1, d.before aw Z = true) {h0 : Heap} {n0 : Nat} (p0 : Int32) (p1 : Int32) (p2 : Int32) (p3 : Int32) (p4 : Int32) (w_SMALL_LETTERS : Addr) (w_CAPITAL_LETTERS : Addr) (w_SMALL_ROMAN : Addr) (w_CAPITAL_ROMAN : Addr) (w_ARABIC : Addr)  (x5 : Int32) (x6 : Int32) (x7 : Int32)
    (Bd : BodyLoose p l x (head1 (Jvm.Cond.code x code maxLocals ret :: ws) room_1) code maxLocals ret e s m #[(.int p0), (.int p1), (.int p2), (.int p3), (.int p4)] below meth c s₁) (hml : c.maxLocals = 14) (hZ : Z.Warmed39 s.vm) (T0 : State) {locs : List Loc} (X0 : Stand p l e room_1 s m #[(.int p0), (.int p1), (.int p2), (.int p3), (.int p4)] below meth c T0 locs 0 0) {h : Heap} (e0 : T0.heap = h) (SZ0 : n0 ≤ h.size) (NF0 : Fr n0 locs) (Sw_SMALL_LETTERS : Sta Z h "com/example/recital/recital/Numbering$Style" "SMALL_LETTERS" "Lcom/example/recital/recital/Numbering$Style;" (.ref w_SMALL_LETTERS)) (Sw_CAPITAL_LETTERS : Sta Z h "com/example/recital/recital/Numbering$Style" "CAPITAL_LETTERS" "Lcom/example/recital/recital/Numbering$Style;" (.ref w_CAPITAL_LETTERS)) (Sw_SMALL_ROMAN : Sta Z h "com/example/recital/recital/Numbering$Style" "SMALL_ROMAN" "Lcom/example/recital/recital/Numbering$Style;" (.ref w_SMALL_ROMAN)) (Sw_CAPITAL_ROMAN : Sta Z h "com/example/recital/recital/Numbering$Style" "CAPITAL_ROMAN" "Lcom/example/recital/recital/Numbering$Style;" (.ref w_CAPITAL_ROMAN)) (Sw_ARABIC : Sta Z h "com/example/recital/recital/Numbering$Style" "ARABIC" "Lcom/example/recital/recital/Numbering$Style;" (.ref w_ARABIC)) :
    own_Go p e below s room_1.cells room_1.slots (R0 (f0_37 p0 p1 p2 p3 p4 w_SMALL_LETTERS w_CAPITAL_LETTERS w_SMALL_ROMAN w_CAPITAL_ROMAN w_ARABIC x5 x6 x7)) (K0 Z  h0 n0 (f0_37 p0 p1 p2 p3 p4 w_SMALL_LETTERS w_CAPITAL_LETTERS w_SMALL_ROMAN w_CAPITAL_ROMAN w_ARABIC x5 x6 x7)) (T0.setTop (mkF m 37 #[.val (.int p0), .val (.int p1), .val (.int p2), .val (.int p3), .val (.int p4), .val (.int x5), .val (.int x6), .val (.int x7), .unset, .unset, .unset, .unset, .unset, .unset] [])) := by
  have hx := Bd.exec
  have hby := Bd.bytes
  have hown : s.vm.findClass "com/example/recital/recital/NumberingFollowsPinLaw" = some m.cls := findClass_of_methodNamed Bd.named
  have hnm := (name_of_methodNamed Bd.named Bd.method).1
  unfold f0_37
  refine own_pre (F' := T0.setTop (mkF m 39 #[.val (.int p0), .val (.int p1), .val (.int p2), .val (.int p3), .val (.int p4), .val (.int x5), .val (.int x6), .val (.int x7), .unset, .unset, .unset, .unset, .unset, .unset] [(.int p4)])) (fun _ k => XS.iload X0.here hx rfl (hb hby at_37) rfl k) ?_
  refine own_pre (F' := T0.setTop (mkF m 40 #[.val (.int p0), .val (.int p1), .val (.int p2), .val (.int p3), .val (.int p4), .val (.int x5), .val (.int x6), .val (.int x7), .unset, .unset, .unset, .unset, .unset, .unset] [(.int (3 : Int32)), (.int p4)])) (fun _ k => XS.iconst X0.here hx rfl (hb hby at_39) k) ?_
  refine own_pre (F' := T0.setTop (mkF m 41 #[.val (.int p0), .val (.int p1), .val (.int p2), .val (.int p3), .val (.int p4), .val (.int x5), .val (.int x6), .val (.int x7), .unset, .unset, .unset, .unset, .unset, .unset] [(.int (p4 &&& (3 : Int32)))])) (fun _ k => XS.iand X0.here hx rfl (hb hby at_40) rfl k) ?_
  refine own_pre (F' := T0.setTop (mkF m 43 #[.val (.int p0), .val (.int p1), .val (.int p2), .val (.int p3), .val (.int p4), .val (.int x5), .val (.int x6), .val (.int x7), .val (.int (p4 &&& (3 : Int32))), .unset, .unset, .unset, .unset, .unset] [])) (fun _ k => XS.istore X0.here hx rfl (hb hby at_41) rfl (l' := #[.val (.int p0), .val (.int p1), .val (.int p2), .val (.int p3), .val (.int p4), .val (.int x5), .val (.int x6), .val (.int x7), .val (.int (p4 &&& (3 : Int32))), .unset, .unset, .unset, .unset, .unset]) rfl k) ?_
  refine own_pre (F' := T0.setTop (mkF m 45 #[.val (.int p0), .val (.int p1), .val (.int p2), .val (.int p3), .val (.int p4), .val (.int x5), .val (.int x6), .val (.int x7), .val (.int (p4 &&& (3 : Int32))), .unset, .unset, .unset, .unset, .unset] [(.int (p4 &&& (3 : Int32)))])) (fun _ k => XS.iload X0.here hx rfl (hb hby at_43) rfl k) ?_
  refine own_iteT R0 (K0 Z  h0 n0) (fun hc45 => ?_) (fun hc45 => ?_)
  · skip
    refine own_pre (F' := T0.setTop (mkF m 48 #[.val (.int p0), .val (.int p1), .val (.int p2), .val (.int p3), .val (.int p4), .val (.int x5), .val (.int x6), .val (.int x7), .val (.int (p4 &&& (3 : Int32))), .unset, .unset, .unset, .unset, .unset] [])) (fun _ k => XS.ifNo X0.here hx rfl (hb hby at_45) rfl ((if0 _ _).trans (teq hc45).2) k) ?_
    refine own_pre (F' := T0.setTop (mkF m 49 #[.val (.int p0), .val (.int p1), .val (.int p2), .val (.int p3), .val (.int p4), .val (.int x5), .val (.int x6), .val (.int x7), .val (.int (p4 &&& (3 : Int32))), .unset, .unset, .unset, .unset, .unset] [(.int p3)])) (fun _ k => XS.iloadN X0.here hx rfl (hb hby at_48) rfl k) ?_
    refine own_pre (F' := T0.setTop (mkF m 51 #[.val (.int p0), .val (.int p1), .val (.int p2), .val (.int p3), .val (.int p4), .val (.int x5), .val (.int x6), .val (.int x7), .val (.int (p4 &&& (3 : Int32))), .val (.int p3), .unset, .unset, .unset, .unset] [])) (fun _ k => XS.istore X0.here hx rfl (hb hby at_49) rfl (l' := #[.val (.int p0), .val (.int p1), .val (.int p2), .val (.int p3), .val (.int p4), .val (.int x5), .val (.int x6), .val (.int x7), .val (.int (p4 &&& (3 : Int32))), .val (.int p3), .unset, .unset, .unset, .unset]) rfl k) ?_
    refine own_pre (F' := T0.setTop (mkF m 88 #[.val (.int p0), .val (.int p1), .val (.int p2), .val (.int p3), .val (.int p4), .val (.int x5), .val (.int x6), .val (.int x7), .val (.int (p4 &&& (3 : Int32))), .val (.int p3), .unset, .unset, .unset, .unset] [])) (fun _ k => XS.goto X0.here hx rfl (pc0 := 51) (pc' := 88) rfl (hb hby at_51) (by decide) (by decide) k) ?_
    exact g0_88 hw p0 p1 p2 p3 p4 w_SMALL_LETTERS w_CAPITAL_LETTERS w_SMALL_ROMAN w_CAPITAL_ROMAN w_ARABIC  x5 x6 x7 (p4 &&& (3 : Int32)) p3 Bd hml hZ T0 X0 e0 SZ0 NF0 Sw_SMALL_LETTERS Sw_CAPITAL_LETTERS Sw_SMALL_ROMAN Sw_CAPITAL_ROMAN Sw_ARABIC
  · skip
    refine own_pre (F' := T0.setTop (mkF m 54 #[.val (.int p0), .val (.int p1), .val (.int p2), .val (.int p3), .val (.int p4), .val (.int x5), .val (.int x6), .val (.int x7), .val (.int (p4 &&& (3 : Int32))), .unset, .unset, .unset, .unset, .unset] [])) (fun _ k => XS.ifYes X0.here hx rfl (pc0 := 45) (pc' := 54) rfl (hb hby at_45) rfl ((if0 _ _).trans (feq hc45).2) (by decide) (by decide) k) ?_
    refine own_pre (F' := T0.setTop (mkF m 56 #[.val (.int p0), .val (.int p1), .val (.int p2), .val (.int p3), .val (.int p4), .val (.int x5), .val (.int x6), .val (.int x7), .val (.int (p4 &&& (3 : Int32))), .unset, .unset, .unset, .unset, .unset] [(.int (p4 &&& (3 : Int32)))])) (fun _ k => XS.iload X0.here hx rfl (hb hby at_54) rfl k) ?_
    refine own_pre (F' := T0.setTop (mkF m 57 #[.val (.int p0), .val (.int p1), .val (.int p2), .val (.int p3), .val (.int p4), .val (.int x5), .val (.int x6), .val (.int x7), .val (.int (p4 &&& (3 : Int32))), .unset, .unset, .unset, .unset, .unset] [(.int (1 : Int32)), (.int (p4 &&& (3 : Int32)))])) (fun _ k => XS.iconst X0.here hx rfl (hb hby at_56) k) ?_
    refine own_iteT R0 (K0 Z  h0 n0) (fun hc57 => ?_) (fun hc57 => ?_)
    · skip
      refine own_pre (F' := T0.setTop (mkF m 60 #[.val (.int p0), .val (.int p1), .val (.int p2), .val (.int p3), .val (.int p4), .val (.int x5), .val (.int x6), .val (.int x7), .val (.int (p4 &&& (3 : Int32))), .unset, .unset, .unset, .unset, .unset] [])) (fun _ k => XS.icmpNo X0.here hx rfl (hb hby at_57) rfl (teq hc57).2 k) ?_
      refine own_pre (F' := T0.setTop (mkF m 62 #[.val (.int p0), .val (.int p1), .val (.int p2), .val (.int p3), .val (.int p4), .val (.int x5), .val (.int x6), .val (.int x7), .val (.int (p4 &&& (3 : Int32))), .unset, .unset, .unset, .unset, .unset] [(.int x7)])) (fun _ k => XS.iload X0.here hx rfl (hb hby at_60) rfl k) ?_
      refine own_pre (F' := T0.setTop (mkF m 63 #[.val (.int p0), .val (.int p1), .val (.int p2), .val (.int p3), .val (.int p4), .val (.int x5), .val (.int x6), .val (.int x7), .val (.int (p4 &&& (3 : Int32))), .unset, .unset, .unset, .unset, .unset] [(.int (1 : Int32)), (.int x7)])) (fun _ k => XS.iconst X0.here hx rfl (hb hby at_62) k) ?_
      refine own_pre (F' := T0.setTop (mkF m 64 #[.val (.int p0), .val (.int p1), .val (.int p2), .val (.int p3), .val (.int p4), .val (.int x5), .val (.int x6), .val (.int x7), .val (.int (p4 &&& (3 : Int32))), .unset, .unset, .unset, .unset, .unset] [(.int (x7 + (1 : Int32)))])) (fun _ k => XS.iadd X0.here hx rfl (hb hby at_63) rfl k) ?_
      refine own_pre (F' := T0.setTop (mkF m 66 #[.val (.int p0), .val (.int p1), .val (.int p2), .val (.int p3), .val (.int p4), .val (.int x5), .val (.int x6), .val (.int x7), .val (.int (p4 &&& (3 : Int32))), .val (.int (x7 + (1 : Int32))), .unset, .unset, .unset, .unset] [])) (fun _ k => XS.istore X0.here hx rfl (hb hby at_64) rfl (l' := #[.val (.int p0), .val (.int p1), .val (.int p2), .val (.int p3), .val (.int p4), .val (.int x5), .val (.int x6), .val (.int x7), .val (.int (p4 &&& (3 : Int32))), .val (.int (x7 + (1 : Int32))), .unset, .unset, .unset, .unset]) rfl k) ?_
      refine own_pre (F' := T0.setTop (mkF m 88 #[.val (.int p0), .val (.int p1), .val (.int p2), .val (.int p3), .val (.int p4), .val (.int x5), .val (.int x6), .val (.int x7), .val (.int (p4 &&& (3 : Int32))), .val (.int (x7 + (1 : Int32))), .unset, .unset, .unset, .unset] [])) (fun _ k => XS.goto X0.here hx rfl (pc0 := 66) (pc' := 88) rfl (hb hby at_66) (by decide) (by decide) k) ?_
      exact g0_88 hw p0 p1 p2 p3 p4 w_SMALL_LETTERS w_CAPITAL_LETTERS w_SMALL_ROMAN w_CAPITAL_ROMAN w_ARABIC  x5 x6 x7 (p4 &&& (3 : Int32)) (x7 + (1 : Int32)) Bd hml hZ T0 X0 e0 SZ0 NF0 Sw_SMALL_LETTERS Sw_CAPITAL_LETTERS Sw_SMALL_ROMAN Sw_CAPITAL_ROMAN Sw_ARABIC
    · skip
      refine own_pre (F' := T0.setTop (mkF m 69 #[.val (.int p0), .val (.int p1), .val (.int p2), .val (.int p3), .val (.int p4), .val (.int x5), .val (.int x6), .val (.int x7), .val (.int (p4 &&& (3 : Int32))), .unset, .unset, .unset, .unset, .unset] [])) (fun _ k => XS.icmpYes X0.here hx rfl (pc0 := 57) (pc' := 69) rfl (hb hby at_57) rfl (feq hc57).2 (by decide) (by decide) k) ?_
      refine own_pre (F' := T0.setTop (mkF m 71 #[.val (.int p0), .val (.int p1), .val (.int p2), .val (.int p3), .val (.int p4), .val (.int x5), .val (.int x6), .val (.int x7), .val (.int (p4 &&& (3 : Int32))), .unset, .unset, .unset, .unset, .unset] [(.int (p4 &&& (3 : Int32)))])) (fun _ k => XS.iload X0.here hx rfl (hb hby at_69) rfl k) ?_
      refine own_pre (F' := T0.setTop (mkF m 72 #[.val (.int p0), .val (.int p1), .val (.int p2), .val (.int p3), .val (.int p4), .val (.int x5), .val (.int x6), .val (.int x7), .val (.int (p4 &&& (3 : Int32))), .unset, .unset, .unset, .unset, .unset] [(.int (2 : Int32)), (.int (p4 &&& (3 : Int32)))])) (fun _ k => XS.iconst X0.here hx rfl (hb hby at_71) k) ?_
      refine own_iteT R0 (K0 Z  h0 n0) (fun hc72 => ?_) (fun hc72 => ?_)
      · skip
        refine own_pre (F' := T0.setTop (mkF m 75 #[.val (.int p0), .val (.int p1), .val (.int p2), .val (.int p3), .val (.int p4), .val (.int x5), .val (.int x6), .val (.int x7), .val (.int (p4 &&& (3 : Int32))), .unset, .unset, .unset, .unset, .unset] [])) (fun _ k => XS.icmpNo X0.here hx rfl (hb hby at_72) rfl (teq hc72).2 k) ?_
        refine own_pre (F' := T0.setTop (mkF m 77 #[.val (.int p0), .val (.int p1), .val (.int p2), .val (.int p3), .val (.int p4), .val (.int x5), .val (.int x6), .val (.int x7), .val (.int (p4 &&& (3 : Int32))), .unset, .unset, .unset, .unset, .unset] [(.int x7)])) (fun _ k => XS.iload X0.here hx rfl (hb hby at_75) rfl k) ?_
        refine own_pre (F' := T0.setTop (mkF m 79 #[.val (.int p0), .val (.int p1), .val (.int p2), .val (.int p3), .val (.int p4), .val (.int x5), .val (.int x6), .val (.int x7), .val (.int (p4 &&& (3 : Int32))), .val (.int x7), .unset, .unset, .unset, .unset] [])) (fun _ k => XS.istore X0.here hx rfl (hb hby at_77) rfl (l' := #[.val (.int p0), .val (.int p1), .val (.int p2), .val (.int p3), .val (.int p4), .val (.int x5), .val (.int x6), .val (.int x7), .val (.int (p4 &&& (3 : Int32))), .val (.int x7), .unset, .unset, .unset, .unset]) rfl k) ?_
        refine own_pre (F' := T0.setTop (mkF m 88 #[.val (.int p0), .val (.int p1), .val (.int p2), .val (.int p3), .val (.int p4), .val (.int x5), .val (.int x6), .val (.int x7), .val (.int (p4 &&& (3 : Int32))), .val (.int x7), .unset, .unset, .unset, .unset] [])) (fun _ k => XS.goto X0.here hx rfl (pc0 := 79) (pc' := 88) rfl (hb hby at_79) (by decide) (by decide) k) ?_
        exact g0_88 hw p0 p1 p2 p3 p4 w_SMALL_LETTERS w_CAPITAL_LETTERS w_SMALL_ROMAN w_CAPITAL_ROMAN w_ARABIC  x5 x6 x7 (p4 &&& (3 : Int32)) x7 Bd hml hZ T0 X0 e0 SZ0 NF0 Sw_SMALL_LETTERS Sw_CAPITAL_LETTERS Sw_SMALL_ROMAN Sw_CAPITAL_ROMAN Sw_ARABIC
      · skip
        refine own_pre (F' := T0.setTop (mkF m 82 #[.val (.int p0), .val (.int p1), .val (.int p2), .val (.int p3), .val (.int p4), .val (.int x5), .val (.int x6), .val (.int x7), .val (.int (p4 &&& (3 : Int32))), .unset, .unset, .unset, .unset, .unset] [])) (fun _ k => XS.icmpYes X0.here hx rfl (pc0 := 72) (pc' := 82) rfl (hb hby at_72) rfl (feq hc72).2 (by decide) (by decide) k) ?_
        refine own_pre (F' := T0.setTop (mkF m 84 #[.val (.int p0), .val (.int p1), .val (.int p2), .val (.int p3), .val (.int p4), .val (.int x5), .val (.int x6), .val (.int x7), .val (.int (p4 &&& (3 : Int32))), .unset, .unset, .unset, .unset, .unset] [(.int x7)])) (fun _ k => XS.iload X0.here hx rfl (hb hby at_82) rfl k) ?_
        refine own_pre (F' := T0.setTop (mkF m 85 #[.val (.int p0), .val (.int p1), .val (.int p2), .val (.int p3), .val (.int p4), .val (.int x5), .val (.int x6), .val (.int x7), .val (.int (p4 &&& (3 : Int32))), .unset, .unset, .unset, .unset, .unset] [(.int (2 : Int32)), (.int x7)])) (fun _ k => XS.iconst X0.here hx rfl (hb hby at_84) k) ?_
        refine own_pre (F' := T0.setTop (mkF m 86 #[.val (.int p0), .val (.int p1), .val (.int p2), .val (.int p3), .val (.int p4), .val (.int x5), .val (.int x6), .val (.int x7), .val (.int (p4 &&& (3 : Int32))), .unset, .unset, .unset, .unset, .unset] [(.int (x7 + (2 : Int32)))])) (fun _ k => XS.iadd X0.here hx rfl (hb hby at_85) rfl k) ?_
        refine own_pre (F' := T0.setTop (mkF m 88 #[.val (.int p0), .val (.int p1), .val (.int p2), .val (.int p3), .val (.int p4), .val (.int x5), .val (.int x6), .val (.int x7), .val (.int (p4 &&& (3 : Int32))), .val (.int (x7 + (2 : Int32))), .unset, .unset, .unset, .unset] [])) (fun _ k => XS.istore X0.here hx rfl (hb hby at_86) rfl (l' := #[.val (.int p0), .val (.int p1), .val (.int p2), .val (.int p3), .val (.int p4), .val (.int x5), .val (.int x6), .val (.int x7), .val (.int (p4 &&& (3 : Int32))), .val (.int (x7 + (2 : Int32))), .unset, .unset, .unset, .unset]) rfl k) ?_
        exact g0_88 hw p0 p1 p2 p3 p4 w_SMALL_LETTERS w_CAPITAL_LETTERS w_SMALL_ROMAN w_CAPITAL_ROMAN w_ARABIC  x5 x6 x7 (p4 &&& (3 : Int32)) (x7 + (2 : Int32)) Bd hml hZ T0 X0 e0 SZ0 NF0 Sw_SMALL_LETTERS Sw_CAPITAL_LETTERS Sw_SMALL_ROMAN Sw_CAPITAL_ROMAN Sw_ARABIC
def f0_26 (p0 : Int32) (p1 : Int32) (p2 : Int32) (p3 : Int32) (p4 : Int32) (w_SMALL_LETTERS : Addr) (w_CAPITAL_LETTERS : Addr) (w_SMALL_ROMAN : Addr) (w_CAPITAL_ROMAN : Addr) (w_ARABIC : Addr) (x5 : Int32) (y0 : Int32) : Int32 := (f0_37 p0 p1 p2 p3 p4 w_SMALL_LETTERS w_CAPITAL_LETTERS w_SMALL_ROMAN w_CAPITAL_ROMAN w_ARABIC x5 y0 ((p2 &&& (2147483647 : Int32)) % (2147483647 : Int32)))
set_option maxRecDepth 65536 in
set_option maxHeartbeats 40000000 in
theorem g0_26 {p : Program} {l : Launch} {e : Env} {s : State} {m : MethodId} {below : List Frame} {meth : Method} {c : Code} {s₁ : State} {ws : List Jvm.Cond} {Z : State} {aw : Array Value} (hw : ∀ d ∈ tables_1, d.before aw Z = true) {h0 : Heap} {n0 : Nat} (p0 : Int32) (p1 : Int32) (p2 : Int32) (p3 : Int32) (p4 : Int32) (w_SMALL_LETTERS : Addr) (w_CAPITAL_LETTERS : Addr) (w_SMALL_ROMAN : Addr) (w_CAPITAL_ROMAN : Addr) (w_ARABIC : Addr)  (x5 : Int32) (y0 : Int32)
    (Bd : BodyLoose p l x (head1 (Jvm.Cond.code x code maxLocals ret :: ws) room_1) code maxLocals ret e s m #[(.int p0), (.int p1), (.int p2), (.int p3), (.int p4)] below meth c s₁) (hml : c.maxLocals = 14) (hZ : Z.Warmed39 s.vm) (T0 : State) {locs : List Loc} (X0 : Stand p l e room_1 s m #[(.int p0), (.int p1), (.int p2), (.int p3), (.int p4)] below meth c T0 locs 0 0) {h : Heap} (e0 : T0.heap = h) (SZ0 : n0 ≤ h.size) (NF0 : Fr n0 locs) (Sw_SMALL_LETTERS : Sta Z h "com/example/recital/recital/Numbering$Style" "SMALL_LETTERS" "Lcom/example/recital/recital/Numbering$Style;" (.ref w_SMALL_LETTERS)) (Sw_CAPITAL_LETTERS : Sta Z h "com/example/recital/recital/Numbering$Style" "CAPITAL_LETTERS" "Lcom/example/recital/recital/Numbering$Style;" (.ref w_CAPITAL_LETTERS)) (Sw_SMALL_ROMAN : Sta Z h "com/example/recital/recital/Numbering$Style" "SMALL_ROMAN" "Lcom/example/recital/recital/Numbering$Style;" (.ref w_SMALL_ROMAN)) (Sw_CAPITAL_ROMAN : Sta Z h "com/example/recital/recital/Numbering$Style" "CAPITAL_ROMAN" "Lcom/example/recital/recital/Numbering$Style;" (.ref w_CAPITAL_ROMAN)) (Sw_ARABIC : Sta Z h "com/example/recital/recital/Numbering$Style" "ARABIC" "Lcom/example/recital/recital/Numbering$Style;" (.ref w_ARABIC)) :
    own_Go p e below s room_1.cells room_1.slots (R0 (f0_26 p0 p1 p2 p3 p4 w_SMALL_LETTERS w_CAPITAL_LETTERS w_SMALL_ROMAN w_CAPITAL_ROMAN w_ARABIC x5 y0)) (K0 Z  h0 n0 (f0_26 p0 p1 p2 p3 p4 w_SMALL_LETTERS w_CAPITAL_LETTERS w_SMALL_ROMAN w_CAPITAL_ROMAN w_ARABIC x5 y0)) (T0.setTop (mkF m 26 #[.val (.int p0), .val (.int p1), .val (.int p2), .val (.int p3), .val (.int p4), .val (.int x5), .unset, .unset, .unset, .unset, .unset, .unset, .unset, .unset] [(.int y0)])) := by
  have hx := Bd.exec
  have hby := Bd.bytes
  have hown : s.vm.findClass "com/example/recital/recital/NumberingFollowsPinLaw" = some m.cls := findClass_of_methodNamed Bd.named
  have hnm := (name_of_methodNamed Bd.named Bd.method).1
  unfold f0_26
  refine own_pre (F' := T0.setTop (mkF m 28 #[.val (.int p0), .val (.int p1), .val (.int p2), .val (.int p3), .val (.int p4), .val (.int x5), .val (.int y0), .unset, .unset, .unset, .unset, .unset, .unset, .unset] [])) (fun _ k => XS.istore X0.here hx rfl (hb hby at_26) rfl (l' := #[.val (.int p0), .val (.int p1), .val (.int p2), .val (.int p3), .val (.int p4), .val (.int x5), .val (.int y0), .unset, .unset, .unset, .unset, .unset, .unset, .unset]) rfl k) ?_
  refine own_pre (F' := T0.setTop (mkF m 29 #[.val (.int p0), .val (.int p1), .val (.int p2), .val (.int p3), .val (.int p4), .val (.int x5), .val (.int y0), .unset, .unset, .unset, .unset, .unset, .unset, .unset] [(.int p2)])) (fun _ k => XS.iloadN X0.here hx rfl (hb hby at_28) rfl k) ?_
  refine own_pre (F' := T0.setTop (mkF m 31 #[.val (.int p0), .val (.int p1), .val (.int p2), .val (.int p3), .val (.int p4), .val (.int x5), .val (.int y0), .unset, .unset, .unset, .unset, .unset, .unset, .unset] [(.int (2147483647 : Int32)), (.int p2)])) (fun _ k => X0.ldcInt hx hown (mvT hZ (hw _ (List.mem_of_getElem? (i := 0) rfl))) (g := (mkF m 29 #[.val (.int p0), .val (.int p1), .val (.int p2), .val (.int p3), .val (.int p4), .val (.int x5), .val (.int y0), .unset, .unset, .unset, .unset, .unset, .unset, .unset] [(.int p2)])) rfl (hb hby at_29) _ k) ?_
  refine own_pre (F' := T0.setTop (mkF m 32 #[.val (.int p0), .val (.int p1), .val (.int p2), .val (.int p3), .val (.int p4), .val (.int x5), .val (.int y0), .unset, .unset, .unset, .unset, .unset, .unset, .unset] [(.int (p2 &&& (2147483647 : Int32)))])) (fun _ k => XS.iand X0.here hx rfl (hb hby at_31) rfl k) ?_
  refine own_pre (F' := T0.setTop (mkF m 34 #[.val (.int p0), .val (.int p1), .val (.int p2), .val (.int p3), .val (.int p4), .val (.int x5), .val (.int y0), .unset, .unset, .unset, .unset, .unset, .unset, .unset] [(.int (2147483647 : Int32)), (.int (p2 &&& (2147483647 : Int32)))])) (fun _ k => X0.ldcInt hx hown (mvT hZ (hw _ (List.mem_of_getElem? (i := 0) rfl))) (g := (mkF m 32 #[.val (.int p0), .val (.int p1), .val (.int p2), .val (.int p3), .val (.int p4), .val (.int x5), .val (.int y0), .unset, .unset, .unset, .unset, .unset, .unset, .unset] [(.int (p2 &&& (2147483647 : Int32)))])) rfl (hb hby at_32) _ k) ?_
  refine own_pre (F' := T0.setTop (mkF m 35 #[.val (.int p0), .val (.int p1), .val (.int p2), .val (.int p3), .val (.int p4), .val (.int x5), .val (.int y0), .unset, .unset, .unset, .unset, .unset, .unset, .unset] [(.int ((p2 &&& (2147483647 : Int32)) % (2147483647 : Int32)))])) (fun _ k => iremM X0 hx rfl (hb hby at_34) rfl (by decide) k) ?_
  refine own_pre (F' := T0.setTop (mkF m 37 #[.val (.int p0), .val (.int p1), .val (.int p2), .val (.int p3), .val (.int p4), .val (.int x5), .val (.int y0), .val (.int ((p2 &&& (2147483647 : Int32)) % (2147483647 : Int32))), .unset, .unset, .unset, .unset, .unset, .unset] [])) (fun _ k => XS.istore X0.here hx rfl (hb hby at_35) rfl (l' := #[.val (.int p0), .val (.int p1), .val (.int p2), .val (.int p3), .val (.int p4), .val (.int x5), .val (.int y0), .val (.int ((p2 &&& (2147483647 : Int32)) % (2147483647 : Int32))), .unset, .unset, .unset, .unset, .unset, .unset]) rfl k) ?_
  exact g0_37 hw p0 p1 p2 p3 p4 w_SMALL_LETTERS w_CAPITAL_LETTERS w_SMALL_ROMAN w_CAPITAL_ROMAN w_ARABIC  x5 y0 ((p2 &&& (2147483647 : Int32)) % (2147483647 : Int32)) Bd hml hZ T0 X0 e0 SZ0 NF0 Sw_SMALL_LETTERS Sw_CAPITAL_LETTERS Sw_SMALL_ROMAN Sw_CAPITAL_ROMAN Sw_ARABIC
def f0_8 (p0 : Int32) (p1 : Int32) (p2 : Int32) (p3 : Int32) (p4 : Int32) (w_SMALL_LETTERS : Addr) (w_CAPITAL_LETTERS : Addr) (w_SMALL_ROMAN : Addr) (w_CAPITAL_ROMAN : Addr) (w_ARABIC : Addr) (x5 : Int32) : Int32 := (if (p4 &&& (4 : Int32)) = (0 : Int32) then (f0_26 p0 p1 p2 p3 p4 w_SMALL_LETTERS w_CAPITAL_LETTERS w_SMALL_ROMAN w_CAPITAL_ROMAN w_ARABIC x5 ((p1 &&& (2147483647 : Int32)) % (5 : Int32))) else (f0_26 p0 p1 p2 p3 p4 w_SMALL_LETTERS w_CAPITAL_LETTERS w_SMALL_ROMAN w_CAPITAL_ROMAN w_ARABIC x5 x5))
set_option maxRecDepth 65536 in
set_option maxHeartbeats 40000000 in
theorem g0_8 {p : Program} {l : Launch} {e : Env} {s : State} {m : MethodId} {below : List Frame} {meth : Method} {c : Code} {s₁ : State} {ws : List Jvm.Cond} {Z : State} {aw : Array Value} (hw : ∀ d ∈ tables_1, d.before aw Z = true) {h0 : Heap} {n0 : Nat} (p0 : Int32) (p1 : Int32) (p2 : Int32) (p3 : Int32) (p4 : Int32) (w_SMALL_LETTERS : Addr) (w_CAPITAL_LETTERS : Addr) (w_SMALL_ROMAN : Addr) (w_CAPITAL_ROMAN : Addr) (w_ARABIC : Addr)  (x5 : Int32)
    (Bd : BodyLoose p l x (head1 (Jvm.Cond.code x code maxLocals ret :: ws) room_1) code maxLocals ret e s m #[(.int p0), (.int p1), (.int p2), (.int p3), (.int p4)] below meth c s₁) (hml : c.maxLocals = 14) (hZ : Z.Warmed39 s.vm) (T0 : State) {locs : List Loc} (X0 : Stand p l e room_1 s m #[(.int p0), (.int p1), (.int p2), (.int p3), (.int p4)] below meth c T0 locs 0 0) {h : Heap} (e0 : T0.heap = h) (SZ0 : n0 ≤ h.size) (NF0 : Fr n0 locs) (Sw_SMALL_LETTERS : Sta Z h "com/example/recital/recital/Numbering$Style" "SMALL_LETTERS" "Lcom/example/recital/recital/Numbering$Style;" (.ref w_SMALL_LETTERS)) (Sw_CAPITAL_LETTERS : Sta Z h "com/example/recital/recital/Numbering$Style" "CAPITAL_LETTERS" "Lcom/example/recital/recital/Numbering$Style;" (.ref w_CAPITAL_LETTERS)) (Sw_SMALL_ROMAN : Sta Z h "com/example/recital/recital/Numbering$Style" "SMALL_ROMAN" "Lcom/example/recital/recital/Numbering$Style;" (.ref w_SMALL_ROMAN)) (Sw_CAPITAL_ROMAN : Sta Z h "com/example/recital/recital/Numbering$Style" "CAPITAL_ROMAN" "Lcom/example/recital/recital/Numbering$Style;" (.ref w_CAPITAL_ROMAN)) (Sw_ARABIC : Sta Z h "com/example/recital/recital/Numbering$Style" "ARABIC" "Lcom/example/recital/recital/Numbering$Style;" (.ref w_ARABIC)) :
    own_Go p e below s room_1.cells room_1.slots (R0 (f0_8 p0 p1 p2 p3 p4 w_SMALL_LETTERS w_CAPITAL_LETTERS w_SMALL_ROMAN w_CAPITAL_ROMAN w_ARABIC x5)) (K0 Z  h0 n0 (f0_8 p0 p1 p2 p3 p4 w_SMALL_LETTERS w_CAPITAL_LETTERS w_SMALL_ROMAN w_CAPITAL_ROMAN w_ARABIC x5)) (T0.setTop (mkF m 8 #[.val (.int p0), .val (.int p1), .val (.int p2), .val (.int p3), .val (.int p4), .val (.int x5), .unset, .unset, .unset, .unset, .unset, .unset, .unset, .unset] [])) := by
  have hx := Bd.exec
  have hby := Bd.bytes
  have hown : s.vm.findClass "com/example/recital/recital/NumberingFollowsPinLaw" = some m.cls := findClass_of_methodNamed Bd.named
  have hnm := (name_of_methodNamed Bd.named Bd.method).1
  unfold f0_8
  refine own_pre (F' := T0.setTop (mkF m 10 #[.val (.int p0), .val (.int p1), .val (.int p2), .val (.int p3), .val (.int p4), .val (.int x5), .unset, .unset, .unset, .unset, .unset, .unset, .unset, .unset] [(.int p4)])) (fun _ k => XS.iload X0.here hx rfl (hb hby at_8) rfl k) ?_
  refine own_pre (F' := T0.setTop (mkF m 11 #[.val (.int p0), .val (.int p1), .val (.int p2), .val (.int p3), .val (.int p4), .val (.int x5), .unset, .unset, .unset, .unset, .unset, .unset, .unset, .unset] [(.int (4 : Int32)), (.int p4)])) (fun _ k => XS.iconst X0.here hx rfl (hb hby at_10) k) ?_
  refine own_pre (F' := T0.setTop (mkF m 12 #[.val (.int p0), .val (.int p1), .val (.int p2), .val (.int p3), .val (.int p4), .val (.int x5), .unset, .unset, .unset, .unset, .unset, .unset, .unset, .unset] [(.int (p4 &&& (4 : Int32)))])) (fun _ k => XS.iand X0.here hx rfl (hb hby at_11) rfl k) ?_
  refine own_iteT R0 (K0 Z  h0 n0) (fun hc12 => ?_) (fun hc12 => ?_)
  · skip
    refine own_pre (F' := T0.setTop (mkF m 20 #[.val (.int p0), .val (.int p1), .val (.int p2), .val (.int p3), .val (.int p4), .val (.int x5), .unset, .unset, .unset, .unset, .unset, .unset, .unset, .unset] [])) (fun _ k => XS.ifYes X0.here hx rfl (pc0 := 12) (pc' := 20) rfl (hb hby at_12) rfl ((if0 _ _).trans (teq hc12).1) (by decide) (by decide) k) ?_
    refine own_pre (F' := T0.setTop (mkF m 21 #[.val (.int p0), .val (.int p1), .val (.int p2), .val (.int p3), .val (.int p4), .val (.int x5), .unset, .unset, .unset, .unset, .unset, .unset, .unset, .unset] [(.int p1)])) (fun _ k => XS.iloadN X0.here hx rfl (hb hby at_20) rfl k) ?_
    refine own_pre (F' := T0.setTop (mkF m 23 #[.val (.int p0), .val (.int p1), .val (.int p2), .val (.int p3), .val (.int p4), .val (.int x5), .unset, .unset, .unset, .unset, .unset, .unset, .unset, .unset] [(.int (2147483647 : Int32)), (.int p1)])) (fun _ k => X0.ldcInt hx hown (mvT hZ (hw _ (List.mem_of_getElem? (i := 0) rfl))) (g := (mkF m 21 #[.val (.int p0), .val (.int p1), .val (.int p2), .val (.int p3), .val (.int p4), .val (.int x5), .unset, .unset, .unset, .unset, .unset, .unset, .unset, .unset] [(.int p1)])) rfl (hb hby at_21) _ k) ?_
    refine own_pre (F' := T0.setTop (mkF m 24 #[.val (.int p0), .val (.int p1), .val (.int p2), .val (.int p3), .val (.int p4), .val (.int x5), .unset, .unset, .unset, .unset, .unset, .unset, .unset, .unset] [(.int (p1 &&& (2147483647 : Int32)))])) (fun _ k => XS.iand X0.here hx rfl (hb hby at_23) rfl k) ?_
    refine own_pre (F' := T0.setTop (mkF m 25 #[.val (.int p0), .val (.int p1), .val (.int p2), .val (.int p3), .val (.int p4), .val (.int x5), .unset, .unset, .unset, .unset, .unset, .unset, .unset, .unset] [(.int (5 : Int32)), (.int (p1 &&& (2147483647 : Int32)))])) (fun _ k => XS.iconst X0.here hx rfl (hb hby at_24) k) ?_
    refine own_pre (F' := T0.setTop (mkF m 26 #[.val (.int p0), .val (.int p1), .val (.int p2), .val (.int p3), .val (.int p4), .val (.int x5), .unset, .unset, .unset, .unset, .unset, .unset, .unset, .unset] [(.int ((p1 &&& (2147483647 : Int32)) % (5 : Int32)))])) (fun _ k => iremM X0 hx rfl (hb hby at_25) rfl (by decide) k) ?_
    exact g0_26 hw p0 p1 p2 p3 p4 w_SMALL_LETTERS w_CAPITAL_LETTERS w_SMALL_ROMAN w_CAPITAL_ROMAN w_ARABIC  x5 ((p1 &&& (2147483647 : Int32)) % (5 : Int32)) Bd hml hZ T0 X0 e0 SZ0 NF0 Sw_SMALL_LETTERS Sw_CAPITAL_LETTERS Sw_SMALL_ROMAN Sw_CAPITAL_ROMAN Sw_ARABIC
  · skip
    refine own_pre (F' := T0.setTop (mkF m 15 #[.val (.int p0), .val (.int p1), .val (.int p2), .val (.int p3), .val (.int p4), .val (.int x5), .unset, .unset, .unset, .unset, .unset, .unset, .unset, .unset] [])) (fun _ k => XS.ifNo X0.here hx rfl (hb hby at_12) rfl ((if0 _ _).trans (feq hc12).1) k) ?_
    refine own_pre (F' := T0.setTop (mkF m 17 #[.val (.int p0), .val (.int p1), .val (.int p2), .val (.int p3), .val (.int p4), .val (.int x5), .unset, .unset, .unset, .unset, .unset, .unset, .unset, .unset] [(.int x5)])) (fun _ k => XS.iload X0.here hx rfl (hb hby at_15) rfl k) ?_
    refine own_pre (F' := T0.setTop (mkF m 26 #[.val (.int p0), .val (.int p1), .val (.int p2), .val (.int p3), .val (.int p4), .val (.int x5), .unset, .unset, .unset, .unset, .unset, .unset, .unset, .unset] [(.int x5)])) (fun _ k => XS.goto X0.here hx rfl (pc0 := 17) (pc' := 26) rfl (hb hby at_17) (by decide) (by decide) k) ?_
    exact g0_26 hw p0 p1 p2 p3 p4 w_SMALL_LETTERS w_CAPITAL_LETTERS w_SMALL_ROMAN w_CAPITAL_ROMAN w_ARABIC  x5 x5 Bd hml hZ T0 X0 e0 SZ0 NF0 Sw_SMALL_LETTERS Sw_CAPITAL_LETTERS Sw_SMALL_ROMAN Sw_CAPITAL_ROMAN Sw_ARABIC
def f0_0 (p0 : Int32) (p1 : Int32) (p2 : Int32) (p3 : Int32) (p4 : Int32) (w_SMALL_LETTERS : Addr) (w_CAPITAL_LETTERS : Addr) (w_SMALL_ROMAN : Addr) (w_CAPITAL_ROMAN : Addr) (w_ARABIC : Addr) : Int32 := (f0_8 p0 p1 p2 p3 p4 w_SMALL_LETTERS w_CAPITAL_LETTERS w_SMALL_ROMAN w_CAPITAL_ROMAN w_ARABIC ((p0 &&& (2147483647 : Int32)) % (5 : Int32)))
set_option maxRecDepth 65536 in
set_option maxHeartbeats 40000000 in
theorem g0_0 {p : Program} {l : Launch} {e : Env} {s : State} {m : MethodId} {below : List Frame} {meth : Method} {c : Code} {s₁ : State} {ws : List Jvm.Cond} {Z : State} {aw : Array Value} (hw : ∀ d ∈ tables_1, d.before aw Z = true) {h0 : Heap} {n0 : Nat} (p0 : Int32) (p1 : Int32) (p2 : Int32) (p3 : Int32) (p4 : Int32) (w_SMALL_LETTERS : Addr) (w_CAPITAL_LETTERS : Addr) (w_SMALL_ROMAN : Addr) (w_CAPITAL_ROMAN : Addr) (w_ARABIC : Addr) 
    (Bd : BodyLoose p l x (head1 (Jvm.Cond.code x code maxLocals ret :: ws) room_1) code maxLocals ret e s m #[(.int p0), (.int p1), (.int p2), (.int p3), (.int p4)] below meth c s₁) (hml : c.maxLocals = 14) (hZ : Z.Warmed39 s.vm) (T0 : State) {locs : List Loc} (X0 : Stand p l e room_1 s m #[(.int p0), (.int p1), (.int p2), (.int p3), (.int p4)] below meth c T0 locs 0 0) (e0 : T0.heap = h0) (SZ0 : n0 ≤ h0.size) (NF0 : Fr n0 locs) (Sw_SMALL_LETTERS : Sta Z h0 "com/example/recital/recital/Numbering$Style" "SMALL_LETTERS" "Lcom/example/recital/recital/Numbering$Style;" (.ref w_SMALL_LETTERS)) (Sw_CAPITAL_LETTERS : Sta Z h0 "com/example/recital/recital/Numbering$Style" "CAPITAL_LETTERS" "Lcom/example/recital/recital/Numbering$Style;" (.ref w_CAPITAL_LETTERS)) (Sw_SMALL_ROMAN : Sta Z h0 "com/example/recital/recital/Numbering$Style" "SMALL_ROMAN" "Lcom/example/recital/recital/Numbering$Style;" (.ref w_SMALL_ROMAN)) (Sw_CAPITAL_ROMAN : Sta Z h0 "com/example/recital/recital/Numbering$Style" "CAPITAL_ROMAN" "Lcom/example/recital/recital/Numbering$Style;" (.ref w_CAPITAL_ROMAN)) (Sw_ARABIC : Sta Z h0 "com/example/recital/recital/Numbering$Style" "ARABIC" "Lcom/example/recital/recital/Numbering$Style;" (.ref w_ARABIC)) :
    own_Go p e below s room_1.cells room_1.slots (R0 (f0_0 p0 p1 p2 p3 p4 w_SMALL_LETTERS w_CAPITAL_LETTERS w_SMALL_ROMAN w_CAPITAL_ROMAN w_ARABIC)) (K0 Z  h0 n0 (f0_0 p0 p1 p2 p3 p4 w_SMALL_LETTERS w_CAPITAL_LETTERS w_SMALL_ROMAN w_CAPITAL_ROMAN w_ARABIC)) (T0.setTop (mkF m 0 #[.val (.int p0), .val (.int p1), .val (.int p2), .val (.int p3), .val (.int p4), .unset, .unset, .unset, .unset, .unset, .unset, .unset, .unset, .unset] [])) := by
  have hx := Bd.exec
  have hby := Bd.bytes
  have hown : s.vm.findClass "com/example/recital/recital/NumberingFollowsPinLaw" = some m.cls := findClass_of_methodNamed Bd.named
  have hnm := (name_of_methodNamed Bd.named Bd.method).1
  unfold f0_0
  refine own_pre (F' := T0.setTop (mkF m 1 #[.val (.int p0), .val (.int p1), .val (.int p2), .val (.int p3), .val (.int p4), .unset, .unset, .unset, .unset, .unset, .unset, .unset, .unset, .unset] [(.int p0)])) (fun _ k => XS.iloadN X0.here hx rfl (hb hby at_0) rfl k) ?_
  refine own_pre (F' := T0.setTop (mkF m 3 #[.val (.int p0), .val (.int p1), .val (.int p2), .val (.int p3), .val (.int p4), .unset, .unset, .unset, .unset, .unset, .unset, .unset, .unset, .unset] [(.int (2147483647 : Int32)), (.int p0)])) (fun _ k => X0.ldcInt hx hown (mvT hZ (hw _ (List.mem_of_getElem? (i := 0) rfl))) (g := (mkF m 1 #[.val (.int p0), .val (.int p1), .val (.int p2), .val (.int p3), .val (.int p4), .unset, .unset, .unset, .unset, .unset, .unset, .unset, .unset, .unset] [(.int p0)])) rfl (hb hby at_1) _ k) ?_
  refine own_pre (F' := T0.setTop (mkF m 4 #[.val (.int p0), .val (.int p1), .val (.int p2), .val (.int p3), .val (.int p4), .unset, .unset, .unset, .unset, .unset, .unset, .unset, .unset, .unset] [(.int (p0 &&& (2147483647 : Int32)))])) (fun _ k => XS.iand X0.here hx rfl (hb hby at_3) rfl k) ?_
  refine own_pre (F' := T0.setTop (mkF m 5 #[.val (.int p0), .val (.int p1), .val (.int p2), .val (.int p3), .val (.int p4), .unset, .unset, .unset, .unset, .unset, .unset, .unset, .unset, .unset] [(.int (5 : Int32)), (.int (p0 &&& (2147483647 : Int32)))])) (fun _ k => XS.iconst X0.here hx rfl (hb hby at_4) k) ?_
  refine own_pre (F' := T0.setTop (mkF m 6 #[.val (.int p0), .val (.int p1), .val (.int p2), .val (.int p3), .val (.int p4), .unset, .unset, .unset, .unset, .unset, .unset, .unset, .unset, .unset] [(.int ((p0 &&& (2147483647 : Int32)) % (5 : Int32)))])) (fun _ k => iremM X0 hx rfl (hb hby at_5) rfl (by decide) k) ?_
  refine own_pre (F' := T0.setTop (mkF m 8 #[.val (.int p0), .val (.int p1), .val (.int p2), .val (.int p3), .val (.int p4), .val (.int ((p0 &&& (2147483647 : Int32)) % (5 : Int32))), .unset, .unset, .unset, .unset, .unset, .unset, .unset, .unset] [])) (fun _ k => XS.istore X0.here hx rfl (hb hby at_6) rfl (l' := #[.val (.int p0), .val (.int p1), .val (.int p2), .val (.int p3), .val (.int p4), .val (.int ((p0 &&& (2147483647 : Int32)) % (5 : Int32))), .unset, .unset, .unset, .unset, .unset, .unset, .unset, .unset]) rfl k) ?_
  exact g0_8 hw p0 p1 p2 p3 p4 w_SMALL_LETTERS w_CAPITAL_LETTERS w_SMALL_ROMAN w_CAPITAL_ROMAN w_ARABIC  ((p0 &&& (2147483647 : Int32)) % (5 : Int32)) Bd hml hZ T0 X0 e0 SZ0 NF0 Sw_SMALL_LETTERS Sw_CAPITAL_LETTERS Sw_SMALL_ROMAN Sw_CAPITAL_ROMAN Sw_ARABIC
theorem ef_0 (m : MethodId) (p0 : Int32) (p1 : Int32) (p2 : Int32) (p3 : Int32) (p4 : Int32) : entryFrame m #[(.int p0), (.int p1), (.int p2), (.int p3), (.int p4)] maxLocals = mkF m 0 #[.val (.int p0), .val (.int p1), .val (.int p2), .val (.int p3), .val (.int p4), .unset, .unset, .unset, .unset, .unset, .unset, .unset, .unset, .unset] [] := by first | (simp [entryFrame, mkF, argsToLocals, Value.category, maxLocals]; done) | rfl
set_option maxRecDepth 65536 in
set_option maxHeartbeats 40000000 in
theorem rm0 (l : Launch) (Z : State) (aw : Array Value) (hw : ∀ d ∈ tables_1, d.before aw Z = true) (ws : List Jvm.Cond) (p0 : Int32) (p1 : Int32) (p2 : Int32) (p3 : Int32) (p4 : Int32) (w_SMALL_LETTERS : Addr) (w_CAPITAL_LETTERS : Addr) (w_SMALL_ROMAN : Addr) (w_CAPITAL_ROMAN : Addr) (w_ARABIC : Addr)  (h0 : Heap) (n0 : Nat) (SZ0 : n0 ≤ h0.size) (Sw_SMALL_LETTERS : Sta Z h0 "com/example/recital/recital/Numbering$Style" "SMALL_LETTERS" "Lcom/example/recital/recital/Numbering$Style;" (.ref w_SMALL_LETTERS)) (Sw_CAPITAL_LETTERS : Sta Z h0 "com/example/recital/recital/Numbering$Style" "CAPITAL_LETTERS" "Lcom/example/recital/recital/Numbering$Style;" (.ref w_CAPITAL_LETTERS)) (Sw_SMALL_ROMAN : Sta Z h0 "com/example/recital/recital/Numbering$Style" "SMALL_ROMAN" "Lcom/example/recital/recital/Numbering$Style;" (.ref w_SMALL_ROMAN)) (Sw_CAPITAL_ROMAN : Sta Z h0 "com/example/recital/recital/Numbering$Style" "CAPITAL_ROMAN" "Lcom/example/recital/recital/Numbering$Style;" (.ref w_CAPITAL_ROMAN)) (Sw_ARABIC : Sta Z h0 "com/example/recital/recital/Numbering$Style" "ARABIC" "Lcom/example/recital/recital/Numbering$Style;" (.ref w_ARABIC)) :
    MetFree l x (head1 (Jvm.Cond.code x code maxLocals ret :: ws) room_1) (fun a U => a = #[(.int p0), (.int p1), (.int p2), (.int p3), (.int p4)] ∧ Z.Warmed39 U.vm ∧ U.heap = h0) (fun _ _ _ _ _ => True) (fun _ U o U' => ∃ v L, o = .returned v ∧ own_Q (R0 (f0_0 p0 p1 p2 p3 p4 w_SMALL_LETTERS w_CAPITAL_LETTERS w_SMALL_ROMAN w_CAPITAL_ROMAN w_ARABIC)) (K0 Z  h0 n0 (f0_0 p0 p1 p2 p3 p4 w_SMALL_LETTERS w_CAPITAL_LETTERS w_SMALL_ROMAN w_CAPITAL_ROMAN w_ARABIC)) v U'.heap L ∧ FrameEnd U o U' L room_1.cells room_1.slots) := by
  refine MetFree.of_bodySF (plainFor_of_name own_pn0) hisR ?_
  intro p e s m args below meth c s₁ Bd hml0 hP hK
  obtain ⟨rfl, hZ, hh⟩ := hP
  have hml : c.maxLocals = 14 := hml0
  have e0 : s₁.heap = h0 := by rw [← hh, Bd.state]; rfl
  exact own_pre (fun t k => castTop (ef_0 m p0 p1 p2 p3 p4) k) (g0_0 hw p0 p1 p2 p3 p4 w_SMALL_LETTERS w_CAPITAL_LETTERS w_SMALL_ROMAN w_CAPITAL_ROMAN w_ARABIC  Bd hml hZ s₁ (Stand.of_body Bd) e0 SZ0 (Fr.nil n0) Sw_SMALL_LETTERS Sw_CAPITAL_LETTERS Sw_SMALL_ROMAN Sw_CAPITAL_ROMAN Sw_ARABIC)
theorem own_k (p : Int32) : ((p &&& (2147483647 : Int32)) % (5 : Int32)) = 0 ∨ ((p &&& (2147483647 : Int32)) % (5 : Int32)) = 1 ∨ ((p &&& (2147483647 : Int32)) % (5 : Int32)) = 2 ∨ ((p &&& (2147483647 : Int32)) % (5 : Int32)) = 3 ∨ ((p &&& (2147483647 : Int32)) % (5 : Int32)) = 4 := by
  have hm := c_mask p 2147483647 31 (by decide) (by decide)
  have hr := (c_irem (p &&& 2147483647) 5 5 (by decide)).1 (by omega)
  simp only [← Int32.toInt_inj, show (0 : Int32).toInt = 0 from rfl, show (1 : Int32).toInt = 1 from rfl, show (2 : Int32).toInt = 2 from rfl, show (3 : Int32).toInt = 3 from rfl, show (4 : Int32).toInt = 4 from rfl]
  omega
theorem own_inj (n m : Int32) (w0 w1 w2 w3 w4 : Addr) (h01 : w0 ≠ w1) (h02 : w0 ≠ w2) (h03 : w0 ≠ w3) (h04 : w0 ≠ w4) (h12 : w1 ≠ w2) (h13 : w1 ≠ w3) (h14 : w1 ≠ w4) (h23 : w2 ≠ w3) (h24 : w2 ≠ w4) (h34 : w3 ≠ w4)
    (hn : n = 0 ∨ n = 1 ∨ n = 2 ∨ n = 3 ∨ n = 4) (hm : m = 0 ∨ m = 1 ∨ m = 2 ∨ m = 3 ∨ m = 4) : (f1_0 n w0 w1 w2 w3 w4 = f1_0 m w0 w1 w2 w3 w4) ↔ n = m := by
  rcases hn with rfl | rfl | rfl | rfl | rfl <;> rcases hm with rfl | rfl | rfl | rfl | rfl <;> simp [f1_0, h01, h02, h03, h04, h12, h13, h14, h23, h24, h34, h01.symm, h02.symm, h03.symm, h04.symm, h12.symm, h13.symm, h14.symm, h23.symm, h24.symm, h34.symm]
theorem own_up (r v : Int32) (hv : 0 ≤ v.toInt) (hv2 : v.toInt < 2147483647) : (r.toInt64 = v.toInt64 + 1) ↔ r = v + 1 := by
  rw [← Int64.toInt_inj, ← Int32.toInt_inj]
  have a1 := c_ladd v.toInt64 1
  have a2 := c_iadd v 1
  rw [c_i2l, show (1 : Int64).toInt = 1 from rfl] at a1
  rw [show (1 : Int32).toInt = 1 from rfl] at a2
  rw [c_i2l]
  have r1 := rng64 (v.toInt64 + 1)
  have r2 := rng32 (v + 1)
  omega
theorem own_down (r v : Int32) (hv : 0 ≤ v.toInt) : (v.toInt64 = r.toInt64 + 1) ↔ v = r + 1 := by
  rw [← Int64.toInt_inj, ← Int32.toInt_inj]
  have a1 := c_ladd r.toInt64 1
  have a2 := c_iadd r 1
  rw [c_i2l, show (1 : Int64).toInt = 1 from rfl] at a1
  rw [show (1 : Int32).toInt = 1 from rfl] at a2
  rw [c_i2l]
  have r0 := rng32 r
  have r3 := rng32 v
  have r1 := rng64 (r.toInt64 + 1)
  have r2 := rng32 (r + 1)
  omega
theorem own_v (p : Int32) : 0 ≤ ((p &&& (2147483647 : Int32)) % (2147483647 : Int32)).toInt ∧ ((p &&& (2147483647 : Int32)) % (2147483647 : Int32)).toInt < 2147483647 := by
  have hm := c_mask p 2147483647 31 (by decide) (by decide)
  have hr := (c_irem (p &&& 2147483647) 2147483647 2147483647 (by decide)).1 (by omega)
  omega
theorem own_mid (a b c d e n m v r : Int32) (w0 w1 w2 w3 w4 : Addr) (h01 : w0 ≠ w1) (h02 : w0 ≠ w2) (h03 : w0 ≠ w3) (h04 : w0 ≠ w4) (h12 : w1 ≠ w2) (h13 : w1 ≠ w3) (h14 : w1 ≠ w4) (h23 : w2 ≠ w3) (h24 : w2 ≠ w4) (h34 : w3 ≠ w4)
    (hn : n = 0 ∨ n = 1 ∨ n = 2 ∨ n = 3 ∨ n = 4) (hm : m = 0 ∨ m = 1 ∨ m = 2 ∨ m = 3 ∨ m = 4) (hv : 0 ≤ v.toInt) (hv2 : v.toInt < 2147483647) : f0_88 a b c d e w0 w1 w2 w3 w4 n m v r = 1 := by
  have i1 := own_inj n m w0 w1 w2 w3 w4 h01 h02 h03 h04 h12 h13 h14 h23 h24 h34 hn hm
  have i2 := own_inj m n w0 w1 w2 w3 w4 h01 h02 h03 h04 h12 h13 h14 h23 h24 h34 hm hn
  simp only [f0_88, f0_120, f0_143, f0_144, f0_169, f0_170, f0_200, f5_0, f5_28, f2_0, i1, i2, own_up r v hv hv2, own_down r v hv]
  by_cases q1 : n = m
  · subst q1
    by_cases q2 : r = v + 1
    · have t2 := eq_true q2
      by_cases q3 : v = r + 1
      · have t3 := eq_true q3; simp only [t2, t3]; rfl
      · have t3 := eq_false q3; simp only [t2, t3]; rfl
    · have t2 := eq_false q2
      by_cases q3 : v = r + 1
      · have t3 := eq_true q3; simp only [t2, t3]; rfl
      · have t3 := eq_false q3; simp only [t2, t3]; rfl
  · have q1' : ¬ m = n := fun q => q1 q.symm
    simp [q1, q1']
theorem own_law (a b c d e : Int32) (w0 w1 w2 w3 w4 : Addr) (h01 : w0 ≠ w1) (h02 : w0 ≠ w2) (h03 : w0 ≠ w3) (h04 : w0 ≠ w4) (h12 : w1 ≠ w2) (h13 : w1 ≠ w3) (h14 : w1 ≠ w4) (h23 : w2 ≠ w3) (h24 : w2 ≠ w4) (h34 : w3 ≠ w4) : f0_0 a b c d e w0 w1 w2 w3 w4 = 1 := by
  have k := fun n m v r hn hm hv hv2 => own_mid a b c d e n m v r w0 w1 w2 w3 w4 h01 h02 h03 h04 h12 h13 h14 h23 h24 h34 hn hm hv hv2
  have k2 : ∀ n m, (n = 0 ∨ n = 1 ∨ n = 2 ∨ n = 3 ∨ n = 4) → (m = 0 ∨ m = 1 ∨ m = 2 ∨ m = 3 ∨ m = 4) → f0_26 a b c d e w0 w1 w2 w3 w4 n m = 1 := by
    intro n m hn hm
    have hv := own_v c
    unfold f0_26 f0_37
    (repeat' split) <;> exact k _ _ _ _ hn hm hv.1 hv.2
  unfold f0_0 f0_8
  split
  · exact k2 _ _ (own_k a) (own_k b)
  · exact k2 _ _ (own_k a) (own_k a)
set_option maxRecDepth 65536 in
set_option maxHeartbeats 40000000 in
theorem comes_1 {Post : Tables → Env → Array Value → State → Outcome → State → Prop} (hpost : ∀ tb e args s v u, (limb_1_1.after args s (.returned v) u = true ∧ limb_1_2.after args s (.returned v) u = true ∧ True) → FrameEnd s (.returned v) u (Jvm.fieldLocs frame_1_writes args s ++ Jvm.arrayLocs frame_1_arrays args s ++ Jvm.staticLocs frame_1_statics s) 16 128 → Post tb e args s (.returned v) u) :
    ArmFor flags0 classFile x code maxLocals ret World_1 tables_1 room_1 Calls_1 rest_1 Pre_1 Post := by
  intro l hfl _ _ p e ha hc hk s m args below hf hA hF happ hP
  obtain ⟨hcalls, hrest, hpre⟩ := hP
  obtain ⟨-, -, -, hnamed, -, -, -, hat⟩ := (Spec.applies_iff hf).mp happ
  obtain ⟨hg, hn⟩ := and_e (Cond.before_iff.mp (show (Jvm.Cond.and given_1 narrow_1).before args s = true from hpre))
  obtain ⟨g1, g2⟩ := and_e hg
  obtain ⟨g3, g4⟩ := and_e g2
  obtain ⟨g5, g6⟩ := and_e g4
  obtain ⟨g7, g8⟩ := and_e g6
  obtain ⟨g9, g10⟩ := and_e g8
  obtain ⟨w0, w1, w2, w3, w4, rfl⟩ : ∃ w0 w1 w2 w3 w4 : Value, args = #[w0, w1, w2, w3, w4] := by
    have hs : args.size = 5 := by simpa [Cond.value, given_1] using g1
    obtain ⟨L⟩ := args
    match L, hs with
    | [w0, w1, w2, w3, w4], _ => exact ⟨w0, w1, w2, w3, w4, rfl⟩
  have hw := fun d (hd : d ∈ tables_1) => atoms_spec (ws := Jvm.Cond.code x code maxLocals ret :: tables_1) hat d (List.mem_cons_of_mem _ hd)
  have hfit : Fit s := fun {y c} hc i hi => by
    obtain ⟨ha, rfl⟩ := Array.getElem?_eq_some_iff.mp hc
    have q := List.all_eq_true.mp ((Array.all_eq_true_iff_forall_mem.mp hF) _ (Array.getElem_mem ha)) i (List.mem_range.mpr hi)
    simpa [Array.getElem?_eq_getElem hi] using q
  obtain ⟨i0, ei0⟩ := is_v g3
  obtain rfl : w0 = (.int i0) := Option.some.inj ei0
  obtain ⟨i1, ei1⟩ := is_v g5
  obtain rfl : w1 = (.int i1) := Option.some.inj ei1
  obtain ⟨i2, ei2⟩ := is_v g7
  obtain rfl : w2 = (.int i2) := Option.some.inj ei2
  obtain ⟨i3, ei3⟩ := is_v g9
  obtain rfl : w3 = (.int i3) := Option.some.inj ei3
  obtain ⟨i4, ei4⟩ := is_v g10
  obtain rfl : w4 = (.int i4) := Option.some.inj ei4
  obtain ⟨n2, n3⟩ := and_e hn
  obtain ⟨w_CAPITAL_ROMAN, ev_w_CAPITAL_ROMAN⟩ := exa_v n2
  have Ew_CAPITAL_ROMAN := Exa.start ev_w_CAPITAL_ROMAN n2
  have Sw_CAPITAL_ROMAN := Sta.start ev_w_CAPITAL_ROMAN (Or.inr ⟨(hw _ (List.mem_of_getElem? (i := 9) rfl)), (hw _ (List.mem_of_getElem? (i := 10) rfl))⟩)
  obtain ⟨n4, n5⟩ := and_e n3
  obtain ⟨w_SMALL_LETTERS, ev_w_SMALL_LETTERS⟩ := exa_v n4
  have Ew_SMALL_LETTERS := Exa.start ev_w_SMALL_LETTERS n4
  have Sw_SMALL_LETTERS := Sta.start ev_w_SMALL_LETTERS (Or.inr ⟨(hw _ (List.mem_of_getElem? (i := 9) rfl)), (hw _ (List.mem_of_getElem? (i := 27) rfl))⟩)
  obtain ⟨n6, n7⟩ := and_e n5
  have Fw_SMALL_LETTERS_ordinal := Fld.start ((fld_at ev_w_SMALL_LETTERS).symm.trans (own_eqI n6))
  obtain ⟨n8, n9⟩ := and_e n7
  have Fw_CAPITAL_ROMAN_ordinal := Fld.start ((fld_at ev_w_CAPITAL_ROMAN).symm.trans (own_eqI n8))
  obtain ⟨n10, n11⟩ := and_e n9
  obtain ⟨w_CAPITAL_LETTERS, ev_w_CAPITAL_LETTERS⟩ := exa_v n10
  have Ew_CAPITAL_LETTERS := Exa.start ev_w_CAPITAL_LETTERS n10
  have Sw_CAPITAL_LETTERS := Sta.start ev_w_CAPITAL_LETTERS (Or.inr ⟨(hw _ (List.mem_of_getElem? (i := 9) rfl)), (hw _ (List.mem_of_getElem? (i := 34) rfl))⟩)
  obtain ⟨n12, n13⟩ := and_e n11
  obtain ⟨w_SMALL_ROMAN, ev_w_SMALL_ROMAN⟩ := exa_v n12
  have Ew_SMALL_ROMAN := Exa.start ev_w_SMALL_ROMAN n12
  have Sw_SMALL_ROMAN := Sta.start ev_w_SMALL_ROMAN (Or.inr ⟨(hw _ (List.mem_of_getElem? (i := 9) rfl)), (hw _ (List.mem_of_getElem? (i := 36) rfl))⟩)
  obtain ⟨n14, n15⟩ := and_e n13
  have Fw_SMALL_ROMAN_ordinal := Fld.start ((fld_at ev_w_SMALL_ROMAN).symm.trans (own_eqI n14))
  obtain ⟨n16, n17⟩ := and_e n15
  have Fw_CAPITAL_LETTERS_ordinal := Fld.start ((fld_at ev_w_CAPITAL_LETTERS).symm.trans (own_eqI n16))
  obtain ⟨n18, n19⟩ := and_e n17
  obtain ⟨w_ARABIC, ev_w_ARABIC⟩ := exa_v n18
  have Ew_ARABIC := Exa.start ev_w_ARABIC n18
  have Sw_ARABIC := Sta.start ev_w_ARABIC (Or.inr ⟨(hw _ (List.mem_of_getElem? (i := 9) rfl)), (hw _ (List.mem_of_getElem? (i := 38) rfl))⟩)
  have Fw_ARABIC_ordinal := Fld.start ((fld_at ev_w_ARABIC).symm.trans (own_eqI n19))
  obtain ⟨n, o, h1, h2, h3, v, L, rfl, ⟨hv, hK⟩, hq⟩ := rm0 l s _ hw tables_1 i0 i1 i2 i3 i4 w_SMALL_LETTERS w_CAPITAL_LETTERS w_SMALL_ROMAN w_CAPITAL_ROMAN w_ARABIC s.heap s.heap.size (Nat.le_refl _) Sw_SMALL_LETTERS Sw_CAPITAL_LETTERS Sw_SMALL_ROMAN Sw_CAPITAL_ROMAN Sw_ARABIC p e ha hc hk s m _ below hf ((Spec.applies_iff_loose hf).mp happ).1 ⟨rfl, State.Warmed39.refl s, rfl⟩ trivial
  rw [R0, own_law _ _ _ _ _ _ _ _ _ _ (Fw_SMALL_LETTERS_ordinal.ne Fw_CAPITAL_LETTERS_ordinal (by decide)) (Fw_SMALL_LETTERS_ordinal.ne Fw_SMALL_ROMAN_ordinal (by decide)) (Fw_SMALL_LETTERS_ordinal.ne Fw_CAPITAL_ROMAN_ordinal (by decide)) (Fw_SMALL_LETTERS_ordinal.ne Fw_ARABIC_ordinal (by decide)) (Fw_CAPITAL_LETTERS_ordinal.ne Fw_SMALL_ROMAN_ordinal (by decide)) (Fw_CAPITAL_LETTERS_ordinal.ne Fw_CAPITAL_ROMAN_ordinal (by decide)) (Fw_CAPITAL_LETTERS_ordinal.ne Fw_ARABIC_ordinal (by decide)) (Fw_SMALL_ROMAN_ordinal.ne Fw_CAPITAL_ROMAN_ordinal (by decide)) (Fw_SMALL_ROMAN_ordinal.ne Fw_ARABIC_ordinal (by decide)) (Fw_CAPITAL_ROMAN_ordinal.ne Fw_ARABIC_ordinal (by decide))] at hv
  subst hv
  refine ⟨n, _, h1, h2, h3, hpost _ _ _ _ _ _ ⟨Cond.after_iff.mpr rfl, Cond.after_iff.mpr (eq_i res_at (Term.int_eval (1)) rfl), trivial⟩ ⟨hq.1, hq.2.1, (hq.2.2.sift fun y hy => ?_).mono (by decide) (by decide)⟩⟩
  exact Or.inr (hK y hy)
theorem main_1_1 : Claimed_1_1 := comes_1 fun _ _ _ _ _ _ h hF => ⟨h.1, hF⟩
theorem main_1_2 : Claimed_1_2 := comes_1 fun _ _ _ _ _ _ h hF => ⟨h.2.1, hF⟩
end Jvm.Pilot.@@N@@
namespace Jvm.Pilot.@@N@@
open Jvm Jvm.ClassFile Sem Op Lib Jvm.Free Jvm.Stand Jvm.Pilot.@@N@@.Jvm.D
/-! MADE BY PROGRAM (witnessworld.py) out of the Statement's table words and the real class files: 14 classes; the members and pool entries that the words name. The judged class is class 1, her method 2. -/
namespace start1
open Jvm.ClassFile
def u (s : String) : CpInfo := .utf8 (stringToUtf16 s)
/-- a pool by its gaps: so many unusable entries, then the entry; so many at the end -/
def gap : Nat → List CpInfo → List CpInfo
  | 0, r => r
  | n + 1, r => .unusable :: gap n r
def poolList (es : List (Nat × CpInfo)) (last : Nat) : List CpInfo := es.foldr (fun e r => gap e.1 (e.2 :: r)) (gap last [])
def pool (es : List (Nat × CpInfo)) (last : Nat) : Array CpInfo := ⟨poolList es last⟩
def fileOf (pool : Array CpInfo) (this : Nat) (attrs : Array Attribute := #[]) (ms : Array MethodInfo := #[]) (fl : Nat := 33) (sup : Nat := 0) (ifs : Array Nat := #[]) (fds : Array FieldInfo := #[]) : ClassFile where
  minorVersion := 0
  majorVersion := 65
  constantPool := pool
  accessFlags := fl
  thisClass := this
  superClass := sup
  interfaces := ifs
  fields := fds
  methods := ms
  attributes := attrs
def plain (name : String) (sup : Option ClassId) : Class where
  name := name
  kind := .ordinary
  loader := none
  accessFlags := 33
  super := sup
  interfaces := #[]
  cf := none
  fields := #[]
  methods := #[]
  instanceTypes := #[]
  staticTypes := #[]
  resolved := #[]
  callSites := []
  init := .initialized
  statics := none
  mirror := none

def pool0 : Array CpInfo := pool [(5, u "<init>"), (0, u "()V"), (1, .class_ 10), (1, u "java/lang/Object")] 113

def k0c0 : Code := { maxStack := 0, maxLocals := 1, code := object_method_1_code, exceptionTable := #[], attributes := #[] }
def k0m0 : Method := { name := "<init>", desc := "()V", sig := { parameters := [], returnType := none }, accessFlags := 1, code := some k0c0 }
/-- java/lang/Object -/
def k0 : Class := { plain "java/lang/Object" none with
  accessFlags := 33
  interfaces := #[]
  cf := some (fileOf pool0 8 #[] #[{ accessFlags := 1, nameIndex := 5, descriptorIndex := 6, attributes := #[] }] 33 0 #[] #[])
  fields := #[]
  methods := #[k0m0]
  instanceTypes := #[]
  staticTypes := #[]
  resolved := Array.replicate 124 none
  statics := none }

def pool1 : Array CpInfo := pool [(2, .class_ 4), (1, u "java/lang/Object"), (0, u "<init>"), (0, u "()V"), (0, .fieldref 8 9), (0, .class_ 10), (0, .nameAndType 11 12), (0, u "com/example/recital/recital/Numbering$Style"), (0, u "SMALL_LETTERS"), (0, u "Lcom/example/recital/recital/Numbering$Style;"), (0, .fieldref 8 14), (0, .nameAndType 15 12), (0, u "CAPITAL_LETTERS"), (0, .fieldref 8 17), (0, .nameAndType 18 12), (0, u "SMALL_ROMAN"), (0, .fieldref 8 20), (0, .nameAndType 21 12), (0, u "CAPITAL_ROMAN"), (0, .fieldref 8 23), (0, .nameAndType 24 12), (0, u "ARABIC"), (0, .integer 2147483647), (0, .class_ 27), (0, u "com/example/recital/recital/Numbering"), (0, .methodref 29 30), (0, .class_ 31), (0, .nameAndType 32 33), (0, u "com/example/recital/recital/NumberingFollowsPinLaw"), (0, u "style"), (0, u "(I)Lcom/example/recital/recital/Numbering$Style;"), (0, .methodref 26 35), (0, .nameAndType 5 36), (0, u "(Lcom/example/recital/recital/Numbering$Style;I)V"), (0, .methodref 26 38), (0, .nameAndType 39 40), (0, u "follows"), (0, u "(Lcom/example/recital/recital/Numbering;)Z"), (3, u "law"), (0, u "(IIIII)Z")] 4

def k1m0 : Method := { name := "<init>", desc := "()V", sig := { parameters := [], returnType := none }, accessFlags := 1, code := none }
def k1c1 : Code := { maxStack := 2, maxLocals := 1, code := method_2_code, exceptionTable := #[], attributes := #[] }
def k1m1 : Method := { name := "style", desc := "(I)Lcom/example/recital/recital/Numbering$Style;", sig := { parameters := [.int], returnType := some (.object "com/example/recital/recital/Numbering$Style") }, accessFlags := 10, code := some k1c1 }
def k1c2 : Code := { maxStack := 6, maxLocals := 14, code := code, exceptionTable := #[], attributes := #[] }
def k1m2 : Method := { name := "law", desc := "(IIIII)Z", sig := { parameters := [.int, .int, .int, .int, .int], returnType := some .boolean }, accessFlags := 9, code := some k1c2 }
/-- com/example/recital/recital/NumberingFollowsPinLaw -/
def k1 : Class := { plain "com/example/recital/recital/NumberingFollowsPinLaw" (some 0) with
  accessFlags := 49
  interfaces := #[]
  cf := some (fileOf pool1 29 #[] #[{ accessFlags := 1, nameIndex := 5, descriptorIndex := 6, attributes := #[] }, { accessFlags := 10, nameIndex := 32, descriptorIndex := 33, attributes := #[] }, { accessFlags := 9, nameIndex := 44, descriptorIndex := 45, attributes := #[] }] 49 2 #[] #[])
  fields := #[]
  methods := #[k1m0, k1m1, k1m2]
  instanceTypes := #[]
  staticTypes := #[]
  resolved := Array.replicate 50 none
  statics := none }

def pool2 : Array CpInfo := pool [(1, .methodref 2 3), (0, .class_ 4), (0, .nameAndType 5 6), (0, u "java/lang/Object"), (0, u "<init>"), (0, u "()V"), (0, .class_ 8), (0, u "java/lang/Record")] 13

def k2c0 : Code := { maxStack := 1, maxLocals := 1, code := jdk_30_method_1_code, exceptionTable := #[], attributes := #[] }
def k2m0 : Method := { name := "<init>", desc := "()V", sig := { parameters := [], returnType := none }, accessFlags := 4, code := some k2c0 }
/-- java/lang/Record -/
def k2 : Class := { plain "java/lang/Record" (some 0) with
  accessFlags := 1057
  interfaces := #[]
  cf := some (fileOf pool2 7 #[] #[{ accessFlags := 4, nameIndex := 5, descriptorIndex := 6, attributes := #[] }] 1057 2 #[] #[])
  fields := #[]
  methods := #[k2m0]
  instanceTypes := #[]
  staticTypes := #[]
  resolved := Array.replicate 22 none
  statics := none }

def pool3 : Array CpInfo := pool [(1, .methodref 2 3), (0, .class_ 4), (0, .nameAndType 5 6), (0, u "java/lang/Record"), (0, u "<init>"), (0, u "()V"), (0, .fieldref 8 9), (0, .class_ 10), (0, .nameAndType 11 12), (0, u "com/example/recital/recital/Numbering"), (0, u "style"), (0, u "Lcom/example/recital/recital/Numbering$Style;"), (0, .fieldref 8 14), (0, .nameAndType 15 16), (0, u "value"), (0, u "I"), (35, .class_ 54), (1, u "com/example/recital/recital/Numbering$Style"), (9, u "(Lcom/example/recital/recital/Numbering$Style;I)V"), (38, u "ROMAN_NUMERAL"), (0, u "Ljava/util/regex/Pattern;"), (45, u "follows"), (0, u "(Lcom/example/recital/recital/Numbering;)Z"), (2, u "ITEMS_APART"), (0, u "Lcom/example/recital/recital/Numbering;")] 70

def k3c0 : Code := { maxStack := 2, maxLocals := 3, code := prog_86_method_1_code, exceptionTable := #[], attributes := #[] }
def k3m0 : Method := { name := "<init>", desc := "(Lcom/example/recital/recital/Numbering$Style;I)V", sig := { parameters := [(.object "com/example/recital/recital/Numbering$Style"), .int], returnType := none }, accessFlags := 0, code := some k3c0 }
def k3c1 : Code := { maxStack := 3, maxLocals := 2, code := prog_86_method_6_code, exceptionTable := #[], attributes := #[] }
def k3m1 : Method := { name := "follows", desc := "(Lcom/example/recital/recital/Numbering;)Z", sig := { parameters := [(.object "com/example/recital/recital/Numbering")], returnType := some .boolean }, accessFlags := 0, code := some k3c1 }
/-- com/example/recital/recital/Numbering -/
def k3 : Class := { plain "com/example/recital/recital/Numbering" (some 2) with
  accessFlags := 48
  interfaces := #[]
  cf := some (fileOf pool3 8 #[.nestMembers #[52]] #[{ accessFlags := 0, nameIndex := 5, descriptorIndex := 64, attributes := #[] }, { accessFlags := 0, nameIndex := 150, descriptorIndex := 151, attributes := #[] }] 48 2 #[] #[{ accessFlags := 18, nameIndex := 11, descriptorIndex := 12, attributes := #[] }, { accessFlags := 18, nameIndex := 15, descriptorIndex := 16, attributes := #[] }, { accessFlags := 26, nameIndex := 103, descriptorIndex := 104, attributes := #[] }, { accessFlags := 26, nameIndex := 154, descriptorIndex := 155, attributes := #[] }])
  fields := #[{ name := "style", type := (.object "com/example/recital/recital/Numbering$Style"), accessFlags := 18, slot := 0, constantValue := 0 }, { name := "value", type := .int, accessFlags := 18, slot := 1, constantValue := 0 }, { name := "ROMAN_NUMERAL", type := (.object "java/util/regex/Pattern"), accessFlags := 26, slot := 0, constantValue := 0 }, { name := "ITEMS_APART", type := (.object "com/example/recital/recital/Numbering"), accessFlags := 26, slot := 1, constantValue := 0 }]
  methods := #[k3m0, k3m1]
  instanceTypes := #[(.object "com/example/recital/recital/Numbering$Style"), .int]
  staticTypes := #[(.object "java/util/regex/Pattern"), (.object "com/example/recital/recital/Numbering")]
  resolved := Array.replicate 226 none
  statics := none }

def pool4 : Array CpInfo := pool [(1, .class_ 2), (0, u "java/lang/constant/Constable"), (0, .class_ 4), (0, u "java/lang/Object")] 6

/-- java/lang/constant/Constable -/
def k4 : Class := { plain "java/lang/constant/Constable" (some 0) with
  accessFlags := 1537
  interfaces := #[]
  cf := some (fileOf pool4 1 #[] #[] 1537 3 #[] #[])
  fields := #[]
  methods := #[]
  instanceTypes := #[]
  staticTypes := #[]
  resolved := Array.replicate 11 none
  statics := none }

def pool5 : Array CpInfo := pool [(1, .class_ 2), (0, u "java/lang/Comparable"), (0, .class_ 4), (0, u "java/lang/Object")] 7

/-- java/lang/Comparable -/
def k5 : Class := { plain "java/lang/Comparable" (some 0) with
  accessFlags := 1537
  interfaces := #[]
  cf := some (fileOf pool5 1 #[] #[] 1537 3 #[] #[])
  fields := #[]
  methods := #[]
  instanceTypes := #[]
  staticTypes := #[]
  resolved := Array.replicate 12 none
  statics := none }

def pool6 : Array CpInfo := pool [(1, .class_ 2), (0, u "java/io/Serializable"), (0, .class_ 4), (0, u "java/lang/Object")] 2

/-- java/io/Serializable -/
def k6 : Class := { plain "java/io/Serializable" (some 0) with
  accessFlags := 1537
  interfaces := #[]
  cf := some (fileOf pool6 1 #[] #[] 1537 3 #[] #[])
  fields := #[]
  methods := #[]
  instanceTypes := #[]
  staticTypes := #[]
  resolved := Array.replicate 7 none
  statics := none }

def pool7 : Array CpInfo := pool [(2, .class_ 4), (1, u "java/lang/Enum"), (0, u "name"), (0, u "Ljava/lang/String;"), (2, u "ordinal"), (0, u "I"), (1, .class_ 14), (1, u "java/lang/Object"), (4, u "hash"), (86, .class_ 108), (1, u "java/lang/Enum$EnumDesc"), (2, .class_ 112), (0, u "java/lang/constant/Constable"), (0, .class_ 114), (0, u "java/lang/Comparable"), (0, .class_ 116), (0, u "java/io/Serializable")] 87

/-- java/lang/Enum -/
def k7 : Class := { plain "java/lang/Enum" (some 0) with
  accessFlags := 1057
  interfaces := #[4, 5, 6]
  cf := some (fileOf pool7 2 #[.nestMembers #[106]] #[] 1057 12 #[111, 113, 115] #[{ accessFlags := 18, nameIndex := 5, descriptorIndex := 6, attributes := #[] }, { accessFlags := 18, nameIndex := 9, descriptorIndex := 10, attributes := #[] }, { accessFlags := 2, nameIndex := 19, descriptorIndex := 10, attributes := #[] }])
  fields := #[{ name := "name", type := (.object "java/lang/String"), accessFlags := 18, slot := 0, constantValue := 0 }, { name := "ordinal", type := .int, accessFlags := 18, slot := 1, constantValue := 0 }, { name := "hash", type := .int, accessFlags := 2, slot := 2, constantValue := 0 }]
  methods := #[]
  instanceTypes := #[(.object "java/lang/String"), .int, .int]
  staticTypes := #[]
  resolved := Array.replicate 204 none
  statics := none }

def pool8 : Array CpInfo := pool [(1, .class_ 2), (0, u "com/example/recital/recital/Numbering$Style"), (2, u "SMALL_LETTERS"), (0, u "Lcom/example/recital/recital/Numbering$Style;"), (2, u "CAPITAL_LETTERS"), (2, u "SMALL_ROMAN"), (2, u "CAPITAL_ROMAN"), (2, u "ARABIC"), (2, u "$VALUES"), (0, u "[Lcom/example/recital/recital/Numbering$Style;"), (6, .class_ 31), (1, u "java/lang/Enum"), (28, .class_ 61), (0, u "com/example/recital/recital/Numbering")] 2

/-- com/example/recital/recital/Numbering$Style -/
def k8 : Class := { plain "com/example/recital/recital/Numbering$Style" (some 7) with
  accessFlags := 16432
  interfaces := #[]
  cf := some (fileOf pool8 1 #[.nestHost 60] #[] 16432 29 #[] #[{ accessFlags := 16409, nameIndex := 5, descriptorIndex := 6, attributes := #[] }, { accessFlags := 16409, nameIndex := 9, descriptorIndex := 6, attributes := #[] }, { accessFlags := 16409, nameIndex := 12, descriptorIndex := 6, attributes := #[] }, { accessFlags := 16409, nameIndex := 15, descriptorIndex := 6, attributes := #[] }, { accessFlags := 16409, nameIndex := 18, descriptorIndex := 6, attributes := #[] }, { accessFlags := 4122, nameIndex := 21, descriptorIndex := 22, attributes := #[] }])
  fields := #[{ name := "SMALL_LETTERS", type := (.object "com/example/recital/recital/Numbering$Style"), accessFlags := 16409, slot := 0, constantValue := 0 }, { name := "CAPITAL_LETTERS", type := (.object "com/example/recital/recital/Numbering$Style"), accessFlags := 16409, slot := 1, constantValue := 0 }, { name := "SMALL_ROMAN", type := (.object "com/example/recital/recital/Numbering$Style"), accessFlags := 16409, slot := 2, constantValue := 0 }, { name := "CAPITAL_ROMAN", type := (.object "com/example/recital/recital/Numbering$Style"), accessFlags := 16409, slot := 3, constantValue := 0 }, { name := "ARABIC", type := (.object "com/example/recital/recital/Numbering$Style"), accessFlags := 16409, slot := 4, constantValue := 0 }, { name := "$VALUES", type := (.array (.object "com/example/recital/recital/Numbering$Style")), accessFlags := 4122, slot := 5, constantValue := 0 }]
  methods := #[]
  instanceTypes := #[(.object "java/lang/String"), .int, .int]
  staticTypes := #[(.object "com/example/recital/recital/Numbering$Style"), (.object "com/example/recital/recital/Numbering$Style"), (.object "com/example/recital/recital/Numbering$Style"), (.object "com/example/recital/recital/Numbering$Style"), (.object "com/example/recital/recital/Numbering$Style"), (.array (.object "com/example/recital/recital/Numbering$Style"))]
  resolved := Array.replicate 64 none
  statics := some 0 }

def pool9 : Array CpInfo := pool [(1, u "java/lang/Cloneable"), (0, .class_ 1), (0, u "java/lang/Object"), (0, .class_ 3)] 3

/-- java/lang/Cloneable -/
def k9 : Class := { plain "java/lang/Cloneable" (some 0) with
  accessFlags := 1537
  interfaces := #[]
  cf := some (fileOf pool9 2 #[] #[] 1537 4 #[] #[])
  fields := #[]
  methods := #[]
  instanceTypes := #[]
  staticTypes := #[]
  resolved := Array.replicate 8 none
  statics := none }

/-- the primitive byte -/
def k10 : Class := { plain "byte" none with kind := .primitive 'B', accessFlags := 0x411 }
/-- [B -/
def k11 : Class := { plain "[B" (some 0) with kind := .array 10 .byte, interfaces := #[9, 6], accessFlags := 1041 }

/-- the primitive int -/
def k12 : Class := { plain "int" none with kind := .primitive 'I', accessFlags := 0x411 }
/-- [I -/
def k13 : Class := { plain "[I" (some 0) with kind := .array 12 .int, interfaces := #[9, 6], accessFlags := 1041 }

def heap : Heap := #[{ cls := 8, slots := #[.ref 1, .ref 2, .ref 3, .ref 4, .ref 5, .null], vm := .statics 8 },
  { cls := 8, slots := #[.null, .int 0, .int 0], vm := .none },
  { cls := 8, slots := #[.null, .int 1, .int 0], vm := .none },
  { cls := 8, slots := #[.null, .int 2, .int 0], vm := .none },
  { cls := 8, slots := #[.null, .int 3, .int 0], vm := .none },
  { cls := 8, slots := #[.null, .int 4, .int 0], vm := .none }]
def classes : Array Class := #[k0, k1, k2, k3, k4, k5, k6, k7, k8, k9, k10, k11, k12, k13]
def interned : List (Array UInt16 × Addr) := []
def slotsUsed : Nat := 21
def theMethod : MethodId := ⟨1, 2⟩
def args0 : Array Value := #[.int 5, .int 7, .int 5, .int 7, .int 1]
def aboutOver (below : List Frame) : State where
  vm := { classes := classes, interned := interned.toArray }
  heap := heap
  slotsUsed := slotsUsed
  threads := #[{ frames := .invoking theMethod args0 :: below }]
def below0 : List Frame := [.native { method := ⟨0, 0⟩, args := #[] }]
def about1 : State := aboutOver below0
def p0 : Program := .bare "" "" ""
def e0 : Env := launch0.env 0 0 0
theorem w_frames : about1.frames = Frame.invoking theMethod args0 :: below0 := rfl
set_option maxRecDepth 65536 in
theorem w_args : argsFit about1.vm theMethod args0 = true := by decide +kernel
set_option maxRecDepth 65536 in
theorem w_heap : heapFits about1 = true := by decide +kernel
set_option maxRecDepth 65536 in
theorem w_runnable : about1.curStatus? = some .runnable := by decide +kernel
set_option maxRecDepth 65536 in
theorem w_alone : about1.alone = true := by decide +kernel
set_option maxRecDepth 65536 in
theorem w_named : about1.methodNamed? x = some theMethod := by decide +kernel
set_option maxRecDepth 65536 in
theorem w_hears : about1.hears theMethod below0 = true := by decide +kernel
set_option maxRecDepth 65536 in
theorem w_ripe : about1.ripe theMethod args0 below0 = true := by decide +kernel
theorem w_running : about1.status = .running := rfl
set_option maxRecDepth 65536 in
theorem w_room : about1.hasRoom e0.platform room_1 = true :=
  launch0.hasRoom_least _ room_1 (by decide +kernel) (by decide +kernel) (by decide +kernel) (by decide +kernel) (by decide +kernel) (by decide +kernel)
theorem allAtoms_all (ts : List Jvm.Cond) (a : Array Jvm.Value) (st : Jvm.State) : (allAtoms ts).before a st = ts.all (fun c => c.before a st) := by
  induction ts with
  | nil => rfl
  | cons c t ih =>
    show (Jvm.Cond.and c (allAtoms t)).before a st = _
    rw [Jvm.Cond.before_and, ih, List.all_cons]
def words1 : List Jvm.Cond := Jvm.Cond.code x code maxLocals ret :: tables_1
/-- a 'code' word, met by the world's own term for the bytes: nothing is compared byte by byte -/
theorem code_word {y : MethodName} {bytes : ByteArray} {mx : Nat} {rt : Option FieldType} {a : Array Value} {s : State} {m : MethodId} {meth : Method} {c : Code} (h1 : s.methodNamed? y = some m) (h2 : s.vm.method? m = some meth) (h3 : meth.code = some c) (h4 : c.code = bytes)
    (h5 : (c.maxLocals == mx && c.exceptionTable.isEmpty && decide (c.maxStack ≤ mostOperands) && decide (meth.sig.returnType = rt) && !meth.locks && decide (parseMethodDescriptor y.desc = some meth.sig)) = true) : (Jvm.Cond.code y bytes mx rt).before a s = true := by
  simp only [Bool.and_eq_true, beq_iff_eq, Bool.not_eq_true', decide_eq_true_eq] at h5
  obtain ⟨⟨⟨⟨⟨g1, g2⟩, g3⟩, g4⟩, g5⟩, g6⟩ := h5
  simp [Cond.before, Cond.holds, Cond.value, h1, h2, h3, h4, g1, g2, g3, g4, g5, g6]
def isCode : Jvm.Cond → Bool
  | .code _ _ _ _ => true
  | _ => false
theorem all_split {L : List Jvm.Cond} {P : Jvm.Cond → Bool} (h1 : L.all (fun c => isCode c || P c) = true) (h2 : ∀ c ∈ L.filter isCode, P c = true) : L.all P = true := by
  refine List.all_eq_true.mpr fun c hc => ?_
  have h := List.all_eq_true.mp h1 c hc
  rcases Bool.eq_false_or_eq_true (isCode c) with hi | hi
  · exact h2 c (List.mem_filter.mpr ⟨hc, hi⟩)
  · simpa [hi] using h
set_option maxRecDepth 65536 in
theorem w_c0 : (Jvm.Cond.code x code maxLocals ret).before args0 about1 = true := code_word (m := ⟨1, 2⟩) (meth := k1m2) (c := k1c2) (by decide +kernel) rfl rfl rfl (by decide +kernel)
set_option maxRecDepth 65536 in
theorem w_c1 : (Jvm.Cond.code ({ cls := "com/example/recital/recital/NumberingFollowsPinLaw", name := "style", desc := "(I)Lcom/example/recital/recital/Numbering$Style;" } : Jvm.MethodName) method_2_code (1 : Nat) (Option.some (Jvm.ClassFile.FieldType.object "com/example/recital/recital/Numbering$Style"))).before args0 about1 = true := code_word (m := ⟨1, 1⟩) (meth := k1m1) (c := k1c1) (by decide +kernel) rfl rfl rfl (by decide +kernel)
set_option maxRecDepth 65536 in
theorem w_c2 : (Jvm.Cond.code ({ cls := "com/example/recital/recital/Numbering", name := "<init>", desc := "(Lcom/example/recital/recital/Numbering$Style;I)V" } : Jvm.MethodName) prog_86_method_1_code (3 : Nat) (Option.none : Option Jvm.ClassFile.FieldType)).before args0 about1 = true := code_word (m := ⟨3, 0⟩) (meth := k3m0) (c := k3c0) (by decide +kernel) rfl rfl rfl (by decide +kernel)
set_option maxRecDepth 65536 in
theorem w_c3 : (Jvm.Cond.code ({ cls := "java/lang/Record", name := "<init>", desc := "()V" } : Jvm.MethodName) jdk_30_method_1_code (1 : Nat) (Option.none : Option Jvm.ClassFile.FieldType)).before args0 about1 = true := code_word (m := ⟨2, 0⟩) (meth := k2m0) (c := k2c0) (by decide +kernel) rfl rfl rfl (by decide +kernel)
set_option maxRecDepth 65536 in
theorem w_c4 : (Jvm.Cond.code ({ cls := "java/lang/Object", name := "<init>", desc := "()V" } : Jvm.MethodName) object_method_1_code (1 : Nat) (Option.none : Option Jvm.ClassFile.FieldType)).before args0 about1 = true := code_word (m := ⟨0, 0⟩) (meth := k0m0) (c := k0c0) (by decide +kernel) rfl rfl rfl (by decide +kernel)
set_option maxRecDepth 65536 in
theorem w_c5 : (Jvm.Cond.code ({ cls := "com/example/recital/recital/Numbering", name := "follows", desc := "(Lcom/example/recital/recital/Numbering;)Z" } : Jvm.MethodName) prog_86_method_6_code (2 : Nat) (Option.some Jvm.ClassFile.FieldType.boolean)).before args0 about1 = true := code_word (m := ⟨3, 1⟩) (meth := k3m1) (c := k3c1) (by decide +kernel) rfl rfl rfl (by decide +kernel)
def codes1 : List Jvm.Cond := [Jvm.Cond.code x code maxLocals ret, Jvm.Cond.code ({ cls := "com/example/recital/recital/NumberingFollowsPinLaw", name := "style", desc := "(I)Lcom/example/recital/recital/Numbering$Style;" } : Jvm.MethodName) method_2_code (1 : Nat) (Option.some (Jvm.ClassFile.FieldType.object "com/example/recital/recital/Numbering$Style")), Jvm.Cond.code ({ cls := "com/example/recital/recital/Numbering", name := "<init>", desc := "(Lcom/example/recital/recital/Numbering$Style;I)V" } : Jvm.MethodName) prog_86_method_1_code (3 : Nat) (Option.none : Option Jvm.ClassFile.FieldType), Jvm.Cond.code ({ cls := "java/lang/Record", name := "<init>", desc := "()V" } : Jvm.MethodName) jdk_30_method_1_code (1 : Nat) (Option.none : Option Jvm.ClassFile.FieldType), Jvm.Cond.code ({ cls := "java/lang/Object", name := "<init>", desc := "()V" } : Jvm.MethodName) object_method_1_code (1 : Nat) (Option.none : Option Jvm.ClassFile.FieldType), Jvm.Cond.code ({ cls := "com/example/recital/recital/Numbering", name := "follows", desc := "(Lcom/example/recital/recital/Numbering;)Z" } : Jvm.MethodName) prog_86_method_6_code (2 : Nat) (Option.some Jvm.ClassFile.FieldType.boolean)]
set_option maxRecDepth 65536 in
theorem codes_eq : words1.filter isCode = codes1 := rfl
theorem w_codes : ∀ c ∈ words1.filter isCode, c.before args0 about1 = true := by
  rw [codes_eq]
  intro c hc
  simp only [codes1, List.mem_cons, List.not_mem_nil, or_false] at hc
  rcases hc with rfl | rfl | rfl | rfl | rfl | rfl
  · exact w_c0
  · exact w_c1
  · exact w_c2
  · exact w_c3
  · exact w_c4
  · exact w_c5
set_option maxRecDepth 65536 in
theorem w_t1 : (words1.take 24).all (fun c => isCode c || c.before args0 about1) = true := by decide +kernel
set_option maxRecDepth 65536 in
theorem w_t2 : (words1.drop 24).all (fun c => isCode c || c.before args0 about1) = true := by decide +kernel
theorem w_tables : (allAtoms (Jvm.Cond.code x code maxLocals ret :: tables_1)).before args0 about1 = true := by
  rw [allAtoms_all]
  show words1.all (fun c => c.before args0 about1) = true
  refine all_split ?_ w_codes
  rw [← List.take_append_drop 24 words1, List.all_append, w_t1, w_t2]
  rfl
set_option maxRecDepth 65536 in
theorem w_case : (Jvm.Cond.and given_1 narrow_1).before args0 about1 = true := by decide +kernel
theorem w_applies : (headSpec (Jvm.Cond.code x code maxLocals ret :: tables_1) room_1).applies x e0.platform about1 = true :=
  (Spec.applies_iff w_frames).mpr ⟨w_running, w_runnable, w_alone, w_named, w_hears, w_ripe, w_room, w_tables⟩
theorem atStart : AtStart classFile x code maxLocals ret World_1 tables_1 room_1 Calls_1 rest_1 Pre_1 launch0 p0 e0 about1 theMethod args0 below0 :=
  ⟨lists_1, trivial, launch0.admits_env _ _ _, launch0.least_env, fairChoices_fair.cas, fairChoices_fair.clock, w_frames, w_args, w_heap, w_applies, trivial, trivial, w_case⟩
end start1
theorem witness_1 : WitnessClaimed_1 := ⟨start1.p0, start1.e0, start1.about1, start1.theMethod, start1.args0, start1.below0, start1.atStart⟩
end Jvm.Pilot.@@N@@
