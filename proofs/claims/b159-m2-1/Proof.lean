import JvmDerived
import JvmDerived.Pilot.@@N@@Statement
import JvmDerived.Pilot.@@N@@Code
set_option linter.unusedVariables false
set_option linter.unusedSimpArgs false
namespace Jvm.RoadKit
open Sem ClassFile Op Lib Jvm.Stand Jvm.Free Jvm.LawKit
section New
variable {p : Program} {l : Launch} {e : Env} {R : Room} {s : State} {m : MethodId} {args : Array Value} {below : List Frame} {meth : Method} {c : Code} {T : State} {locs : List Loc} {cells slots : Nat}
/-- what a body hands back: the value r, and K of the heap and the places at its end -/
def own_Q (r : Option Value) (K : Heap → List Loc → Prop) (v : Option Value) (h : Heap) (L : List Loc) : Prop := v = r ∧ K h L
/-- nothing is written, nothing is made -/
def own_K0 (h0 : Heap) (h : Heap) (L : List Loc) : Prop := L = [] ∧ h = h0
/-- from F on the run returns r with K -/
def own_Go (p : Program) (e : Env) (below : List Frame) (s : State) (C N : Nat) (r : Option Value) (K : Heap → List Loc → Prop) (F : State) : Prop :=
  ∃ s₂ o, Steps p.tables e below F s₂ ∧ s₂.status = .running ∧ Ended s₂ below o ∧ ∃ v L, o = .returned v ∧ own_Q r K v s₂.heap L ∧ FrameEnd s o s₂ L C N
theorem own_pre {C N : Nat} {r : Option Value} {K : Heap → List Loc → Prop} {F F' : State} (h : ∀ t, Steps p.tables e below F' t → Steps p.tables e below F t) (g : own_Go p e below s C N r K F') : own_Go p e below s C N r K F := by
  obtain ⟨t, o, a, b⟩ := g
  exact ⟨t, o, h t a, b⟩
theorem own_iteI {C N : Nat} {K : Heap → List Loc → Prop} {F : State} {P : Prop} [Decidable P] {a b : Int32} (h1 : P → own_Go p e below s C N (some (.int a)) K F) (h2 : ¬ P → own_Go p e below s C N (some (.int b)) K F) : own_Go p e below s C N (some (.int (if P then a else b))) K F := by
  by_cases q : P
  · rw [if_pos q]; exact h1 q
  · rw [if_neg q]; exact h2 q
theorem own_iteJ {C N : Nat} {K : Heap → List Loc → Prop} {F : State} {P : Prop} [Decidable P] {a b : Int64} (h1 : P → own_Go p e below s C N (some (.long a)) K F) (h2 : ¬ P → own_Go p e below s C N (some (.long b)) K F) : own_Go p e below s C N (some (.long (if P then a else b))) K F := by
  by_cases q : P
  · rw [if_pos q]; exact h1 q
  · rw [if_neg q]; exact h2 q
theorem own_iteR {C N : Nat} {K : Heap → List Loc → Prop} {F : State} {P : Prop} [Decidable P] {a b : Addr} (h1 : P → own_Go p e below s C N (some (.ref a)) K F) (h2 : ¬ P → own_Go p e below s C N (some (.ref b)) K F) : own_Go p e below s C N (some (.ref (if P then a else b))) K F := by
  by_cases q : P
  · rw [if_pos q]; exact h1 q
  · rw [if_neg q]; exact h2 q
theorem own_iteV {C N : Nat} {K : Heap → List Loc → Prop} {F : State} {P : Prop} [Decidable P] {a b : Value} (h1 : P → own_Go p e below s C N (some a) K F) (h2 : ¬ P → own_Go p e below s C N (some b) K F) : own_Go p e below s C N (some (if P then a else b)) K F := by
  by_cases q : P
  · rw [if_pos q]; exact h1 q
  · rw [if_neg q]; exact h2 q
theorem own_ret (X : Stand p l e R s m args below meth c T locs cells slots) (hx : p.tables.exec = Jvm.exec) (hlocks : meth.locks = false) {pc : Nat} {Ls : Array Slot} {w : Value} {t : FieldType} {i : Instr} {rest : List Value} {C N : Nat} {K : Heap → List Loc → Prop} (hret : meth.sig.returnType = some t) (hn : narrow t w = w)
    (hi : (i = .ireturn ∧ (t = .int ∨ t = .boolean ∨ t = .byte ∨ t = .char ∨ t = .short) ∧ ∃ z, w = .int z) ∨ (i = .lreturn ∧ t = .long ∧ ∃ z, w = .long z) ∨ (i = .areturn ∧ t.isReference = true ∧ w.isRef = true))
    (hd : decode c.code pc = .ok (i, 1)) (hK : K T.heap locs) (hC : cells ≤ C) (hN : slots ≤ N) : own_Go p e below s C N (some w) K (T.setTop (mkF m pc Ls (w :: rest))) := by
  obtain ⟨fs, hr, hrun, hended, hW, hsame⟩ := X.leave (v := some w) (fun h => by rw [hret] at h; cases h)
  refine ⟨_, _, retOut X hx hret hn ?_ hd hr, hrun, hended, _, _, rfl, ⟨rfl, hK⟩, ⟨_, rfl⟩, hW, hsame.mono hC hN⟩
  rcases hi with h | h | h
  · exact Or.inl h
  · exact Or.inr (Or.inl h)
  · exact Or.inr (Or.inr (Or.inr (Or.inr h)))
theorem own_retN (X : Stand p l e R s m args below meth c T locs cells slots) (hx : p.tables.exec = Jvm.exec) (hlocks : meth.locks = false) {pc : Nat} {Ls : Array Slot} {z : Int32} {t : FieldType} {rest : List Value} {C N : Nat} {K : Heap → List Loc → Prop} (hret : meth.sig.returnType = some t) (ht : t = .boolean ∨ t = .byte ∨ t = .char ∨ t = .short)
    (hd : decode c.code pc = .ok (.ireturn, 1)) (hK : K T.heap locs) (hC : cells ≤ C) (hN : slots ≤ N) : own_Go p e below s C N (some (.int (nar t z))) K (T.setTop (mkF m pc Ls (.int z :: rest))) := by
  obtain ⟨fs, hr, hrun, hended, hW, hsame⟩ := X.leave (v := some (.int (nar t z))) (fun h => by rw [hret] at h; cases h)
  exact ⟨_, _, retN X hx hret ht hd hr, hrun, hended, _, _, rfl, ⟨rfl, hK⟩, ⟨_, rfl⟩, hW, hsame.mono hC hN⟩
theorem own_retV (X : Stand p l e R s m args below meth c T locs cells slots) (hx : p.tables.exec = Jvm.exec) (hlocks : meth.locks = false) {pc : Nat} {Ls : Array Slot} {C N : Nat} {K : Heap → List Loc → Prop} (hret : meth.sig.returnType = none)
    (hd : decode c.code pc = .ok (.return_, 1)) (hK : K T.heap locs) (hC : cells ≤ C) (hN : slots ≤ N) : own_Go p e below s C N none K (T.setTop (mkF m pc Ls [])) := by
  obtain ⟨fs, hr, hrun, hended, hW, hsame⟩ := X.leave (v := none) (fun _ => rfl)
  exact ⟨_, _, X.returnOut hx hret hd hr, hrun, hended, _, _, rfl, ⟨rfl, hK⟩, ⟨_, rfl⟩, hW, hsame.mono hC hN⟩
theorem own_lremM {g : JFrame} {target : State} (X : Stand p l e R s m args below meth c T locs cells slots) (hx : p.tables.exec = Jvm.exec) (hg : g.method = m) {x y : Int64} {rest : List Value} (hd : decode c.code g.pc = .ok (.lrem, 1)) (hs : g.stack = .long y :: .long x :: rest) (hy : y ≠ 0)
    (hr : Steps p.tables e below (T.setTop { g with pc := g.pc + 1, stack := .long (x % y) :: rest }) target) : Steps p.tables e below (T.setTop g) target :=
  XS.lrem X.here hx hg hd hs hy (by rw [lrem_mod]; exact hr)
theorem own_cat {v : Value} (h : v.isRef = true) : v.category = 1 := by rcases ref_cases h with rfl | ⟨a, rfl⟩ <;> rfl
theorem own_nar (z : Int32) : nar .boolean z = z &&& 1 := rfl
end New
end Jvm.RoadKit
namespace Jvm.RoadKit
open Sem ClassFile Op Lib Jvm.Stand Jvm.Free Jvm.LawKit
section New2
variable {p : Program} {l : Launch} {e : Env} {R : Room} {s : State} {m : MethodId} {args : Array Value} {below : List Frame} {meth : Method} {c : Code} {T : State} {locs : List Loc} {cells slots : Nat}
theorem own_iteT {α : Type} {C N : Nat} (R : α → Option Value) (K : α → Heap → List Loc → Prop) {F : State} {P : Prop} [Decidable P] {a b : α} (h1 : P → own_Go p e below s C N (R a) (K a) F) (h2 : ¬ P → own_Go p e below s C N (R b) (K b) F) : own_Go p e below s C N (R (if P then a else b)) (K (if P then a else b)) F := by
  by_cases q : P
  · rw [if_pos q]; exact h1 q
  · rw [if_neg q]; exact h2 q
theorem own_staKeep {Z : State} {h h' : Heap} {C n d : String} {w : Value} {ws : List Addr} (F : Sta Z h C n d w) (K : Keep h h' ws) (q : ∀ x ∈ ws, ∀ c : Cell, h[x]? = some c → c.vm.isStatics = false) : Sta Z h' C n d w := by
  obtain ⟨cf, i, k, f, st, cell, h1, h2, h3, h4, h5, h6, h7⟩ := F
  exact ⟨cf, i, k, f, st, cell, h1, h2, h3, h4, K.2.1 _ _ h5 (fun hm => by have := q st hm cell h5; rw [h6] at this; cases this), h6, h7⟩
theorem own_nost1 {Z : State} {h : Heap} {a : Addr} {C : String} (E : Exa Z h a C) : ∀ x ∈ [a], ∀ c : Cell, h[x]? = some c → c.vm.isStatics = false := fun x hx c hc => by
  cases List.mem_singleton.mp hx; exact E.nostat c hc
theorem own_KF {n0 : Nat} {h : Heap} {L : List Loc} (N : Fr n0 L) : (fun (_ : Heap) (L : List Loc) => Fr n0 L) h L := N
end New2
end Jvm.RoadKit
namespace Jvm.Pilot.@@N@@
open Jvm Jvm.ClassFile Sem Op Lib Jvm.Free Jvm.Stand Jvm.LawKit Jvm.RoadKit Bundle Jvm.Pilot.@@N@@.Jvm.D
/-! body 1 -/
theorem d1_0 : decode prog_75_method_2_code 0 = .ok (.lload_n 0, 1) := by decide +kernel
theorem d1_1 : decode prog_75_method_2_code 1 = .ok (.ldc2_w 7, 3) := by decide +kernel
theorem d1_4 : decode prog_75_method_2_code 4 = .ok (.lcmp, 1) := by decide +kernel
theorem d1_5 : decode prog_75_method_2_code 5 = .ok (.ifCond .eq 67, 3) := by decide +kernel
theorem d1_8 : decode prog_75_method_2_code 8 = .ok (.lload_n 0, 1) := by decide +kernel
theorem d1_9 : decode prog_75_method_2_code 9 = .ok (.ldc2_w 9, 3) := by decide +kernel
theorem d1_12 : decode prog_75_method_2_code 12 = .ok (.lcmp, 1) := by decide +kernel
theorem d1_13 : decode prog_75_method_2_code 13 = .ok (.ifCond .eq 59, 3) := by decide +kernel
theorem d1_16 : decode prog_75_method_2_code 16 = .ok (.lload_n 0, 1) := by decide +kernel
theorem d1_17 : decode prog_75_method_2_code 17 = .ok (.ldc2_w 11, 3) := by decide +kernel
theorem d1_20 : decode prog_75_method_2_code 20 = .ok (.lcmp, 1) := by decide +kernel
theorem d1_21 : decode prog_75_method_2_code 21 = .ok (.ifCond .eq 51, 3) := by decide +kernel
theorem d1_24 : decode prog_75_method_2_code 24 = .ok (.lload_n 0, 1) := by decide +kernel
theorem d1_25 : decode prog_75_method_2_code 25 = .ok (.ldc2_w 13, 3) := by decide +kernel
theorem d1_28 : decode prog_75_method_2_code 28 = .ok (.lcmp, 1) := by decide +kernel
theorem d1_29 : decode prog_75_method_2_code 29 = .ok (.ifCond .lt 11, 3) := by decide +kernel
theorem d1_32 : decode prog_75_method_2_code 32 = .ok (.lload_n 0, 1) := by decide +kernel
theorem d1_33 : decode prog_75_method_2_code 33 = .ok (.ldc2_w 15, 3) := by decide +kernel
theorem d1_36 : decode prog_75_method_2_code 36 = .ok (.lcmp, 1) := by decide +kernel
theorem d1_37 : decode prog_75_method_2_code 37 = .ok (.ifCond .le 35, 3) := by decide +kernel
theorem d1_40 : decode prog_75_method_2_code 40 = .ok (.lload_n 0, 1) := by decide +kernel
theorem d1_41 : decode prog_75_method_2_code 41 = .ok (.ldc2_w 17, 3) := by decide +kernel
theorem d1_44 : decode prog_75_method_2_code 44 = .ok (.lcmp, 1) := by decide +kernel
theorem d1_45 : decode prog_75_method_2_code 45 = .ok (.ifCond .lt 11, 3) := by decide +kernel
theorem d1_48 : decode prog_75_method_2_code 48 = .ok (.lload_n 0, 1) := by decide +kernel
theorem d1_49 : decode prog_75_method_2_code 49 = .ok (.ldc2_w 19, 3) := by decide +kernel
theorem d1_52 : decode prog_75_method_2_code 52 = .ok (.lcmp, 1) := by decide +kernel
theorem d1_53 : decode prog_75_method_2_code 53 = .ok (.ifCond .le 19, 3) := by decide +kernel
theorem d1_56 : decode prog_75_method_2_code 56 = .ok (.lload_n 0, 1) := by decide +kernel
theorem d1_57 : decode prog_75_method_2_code 57 = .ok (.ldc2_w 21, 3) := by decide +kernel
theorem d1_60 : decode prog_75_method_2_code 60 = .ok (.lcmp, 1) := by decide +kernel
theorem d1_61 : decode prog_75_method_2_code 61 = .ok (.ifCond .lt 15, 3) := by decide +kernel
theorem d1_64 : decode prog_75_method_2_code 64 = .ok (.lload_n 0, 1) := by decide +kernel
theorem d1_65 : decode prog_75_method_2_code 65 = .ok (.ldc2_w 23, 3) := by decide +kernel
theorem d1_68 : decode prog_75_method_2_code 68 = .ok (.lcmp, 1) := by decide +kernel
theorem d1_69 : decode prog_75_method_2_code 69 = .ok (.ifCond .gt 7, 3) := by decide +kernel
theorem d1_72 : decode prog_75_method_2_code 72 = .ok (.iconst 1, 1) := by decide +kernel
theorem d1_73 : decode prog_75_method_2_code 73 = .ok (.goto 4, 3) := by decide +kernel
theorem d1_76 : decode prog_75_method_2_code 76 = .ok (.iconst 0, 1) := by decide +kernel
theorem d1_77 : decode prog_75_method_2_code 77 = .ok (.ireturn, 1) := by decide +kernel
theorem own_pn0 : plainName "com/example/tersemark/tersemark/codec/XmlGrammar" = true := by first | (simp [plainName, overriddenIn]; done) | decide +kernel
def f1_76 (q0 : Int64) : Int32 := (0 : Int32)
set_option maxRecDepth 65536 in
set_option maxHeartbeats 40000000 in
theorem g1_76 {p : Program} {l : Launch} {e : Env} {s : State} {m : MethodId} {below : List Frame} {meth : Method} {c : Code} {s₁ : State} {ws : List Jvm.Cond} {Z : State} {aw : Array Value} (hw : ∀ d ∈ tables_1, d.before aw Z = true) {h0 : Heap} (q0 : Int64)
    (Bd : BodyLoose p l (⟨"com/example/tersemark/tersemark/codec/XmlGrammar", "isCharacter", "(J)Z"⟩ : MethodName) (head1 (Jvm.Cond.code (⟨"com/example/tersemark/tersemark/codec/XmlGrammar", "isCharacter", "(J)Z"⟩ : MethodName) prog_75_method_2_code 2 (some .boolean) :: ws) ({ frames := 0, cells := 0, slots := 0, locals := 0 } : Room)) prog_75_method_2_code 2 (some .boolean) e s m #[(.long q0)] below meth c s₁) (hml : c.maxLocals = 2) (hZ : Z.Warmed39 s.vm) (T0 : State) (X0 : Stand p l e ({ frames := 0, cells := 0, slots := 0, locals := 0 } : Room) s m #[(.long q0)] below meth c T0 [] 0 0) (e0 : T0.heap = h0) :
    own_Go p e below s ({ frames := 0, cells := 0, slots := 0, locals := 0 } : Room).cells ({ frames := 0, cells := 0, slots := 0, locals := 0 } : Room).slots (some (.int (f1_76 q0))) (own_K0 h0) (T0.setTop (mkF m 76 #[.val (.long q0), .second] [])) := by
  have hx := Bd.exec
  have hby := Bd.bytes
  have hown : s.vm.findClass "com/example/tersemark/tersemark/codec/XmlGrammar" = some m.cls := findClass_of_methodNamed Bd.named
  unfold f1_76
  refine own_pre (F' := T0.setTop (mkF m 77 #[.val (.long q0), .second] [(.int (0 : Int32))])) (fun _ k => XS.iconst X0.here hx rfl (hb hby d1_76) k) ?_
  exact own_ret X0 hx Bd.notSynchronized Bd.returns rfl (Or.inl ⟨rfl, by simp, _, rfl⟩) (hb hby d1_77) ⟨rfl, e0⟩ (by decide) (by decide)
def f1_72 (q0 : Int64) : Int32 := (1 : Int32)
set_option maxRecDepth 65536 in
set_option maxHeartbeats 40000000 in
theorem g1_72 {p : Program} {l : Launch} {e : Env} {s : State} {m : MethodId} {below : List Frame} {meth : Method} {c : Code} {s₁ : State} {ws : List Jvm.Cond} {Z : State} {aw : Array Value} (hw : ∀ d ∈ tables_1, d.before aw Z = true) {h0 : Heap} (q0 : Int64)
    (Bd : BodyLoose p l (⟨"com/example/tersemark/tersemark/codec/XmlGrammar", "isCharacter", "(J)Z"⟩ : MethodName) (head1 (Jvm.Cond.code (⟨"com/example/tersemark/tersemark/codec/XmlGrammar", "isCharacter", "(J)Z"⟩ : MethodName) prog_75_method_2_code 2 (some .boolean) :: ws) ({ frames := 0, cells := 0, slots := 0, locals := 0 } : Room)) prog_75_method_2_code 2 (some .boolean) e s m #[(.long q0)] below meth c s₁) (hml : c.maxLocals = 2) (hZ : Z.Warmed39 s.vm) (T0 : State) (X0 : Stand p l e ({ frames := 0, cells := 0, slots := 0, locals := 0 } : Room) s m #[(.long q0)] below meth c T0 [] 0 0) (e0 : T0.heap = h0) :
    own_Go p e below s ({ frames := 0, cells := 0, slots := 0, locals := 0 } : Room).cells ({ frames := 0, cells := 0, slots := 0, locals := 0 } : Room).slots (some (.int (f1_72 q0))) (own_K0 h0) (T0.setTop (mkF m 72 #[.val (.long q0), .second] [])) := by
  have hx := Bd.exec
  have hby := Bd.bytes
  have hown : s.vm.findClass "com/example/tersemark/tersemark/codec/XmlGrammar" = some m.cls := findClass_of_methodNamed Bd.named
  unfold f1_72
  refine own_pre (F' := T0.setTop (mkF m 73 #[.val (.long q0), .second] [(.int (1 : Int32))])) (fun _ k => XS.iconst X0.here hx rfl (hb hby d1_72) k) ?_
  refine own_pre (F' := T0.setTop (mkF m 77 #[.val (.long q0), .second] [(.int (1 : Int32))])) (fun _ k => XS.goto X0.here hx rfl (pc0 := 73) (pc' := 77) rfl (hb hby d1_73) (by decide) (by decide) k) ?_
  exact own_ret X0 hx Bd.notSynchronized Bd.returns rfl (Or.inl ⟨rfl, by simp, _, rfl⟩) (hb hby d1_77) ⟨rfl, e0⟩ (by decide) (by decide)
def f1_56 (q0 : Int64) : Int32 := (if q0 < (65536 : Int64) then (f1_76 q0) else (if (1114111 : Int64) < q0 then (f1_76 q0) else (f1_72 q0)))
set_option maxRecDepth 65536 in
set_option maxHeartbeats 40000000 in
theorem g1_56 {p : Program} {l : Launch} {e : Env} {s : State} {m : MethodId} {below : List Frame} {meth : Method} {c : Code} {s₁ : State} {ws : List Jvm.Cond} {Z : State} {aw : Array Value} (hw : ∀ d ∈ tables_1, d.before aw Z = true) {h0 : Heap} (q0 : Int64)
    (Bd : BodyLoose p l (⟨"com/example/tersemark/tersemark/codec/XmlGrammar", "isCharacter", "(J)Z"⟩ : MethodName) (head1 (Jvm.Cond.code (⟨"com/example/tersemark/tersemark/codec/XmlGrammar", "isCharacter", "(J)Z"⟩ : MethodName) prog_75_method_2_code 2 (some .boolean) :: ws) ({ frames := 0, cells := 0, slots := 0, locals := 0 } : Room)) prog_75_method_2_code 2 (some .boolean) e s m #[(.long q0)] below meth c s₁) (hml : c.maxLocals = 2) (hZ : Z.Warmed39 s.vm) (T0 : State) (X0 : Stand p l e ({ frames := 0, cells := 0, slots := 0, locals := 0 } : Room) s m #[(.long q0)] below meth c T0 [] 0 0) (e0 : T0.heap = h0) :
    own_Go p e below s ({ frames := 0, cells := 0, slots := 0, locals := 0 } : Room).cells ({ frames := 0, cells := 0, slots := 0, locals := 0 } : Room).slots (some (.int (f1_56 q0))) (own_K0 h0) (T0.setTop (mkF m 56 #[.val (.long q0), .second] [])) := by
  have hx := Bd.exec
  have hby := Bd.bytes
  have hown : s.vm.findClass "com/example/tersemark/tersemark/codec/XmlGrammar" = some m.cls := findClass_of_methodNamed Bd.named
  unfold f1_56
  refine own_pre (F' := T0.setTop (mkF m 57 #[.val (.long q0), .second] [(.long q0)])) (fun _ k => XS.lloadN X0.here hx rfl (hb hby d1_56) rfl k) ?_
  refine own_pre (F' := T0.setTop (mkF m 60 #[.val (.long q0), .second] [(.long (65536 : Int64)), (.long q0)])) (fun _ k => X0.ldc2Long hx hown (mvT hZ (hw _ (List.mem_of_getElem? (i := 25) rfl))) (g := (mkF m 57 #[.val (.long q0), .second] [(.long q0)])) rfl (hb hby d1_57) _ k) ?_
  refine own_pre (F' := T0.setTop (mkF m 61 #[.val (.long q0), .second] [(.int (lcmpW q0 (65536 : Int64)))])) (fun _ k => XS.lcmp X0.here hx rfl (hb hby d1_60) rfl k) ?_
  refine own_iteI (fun hc61 => ?_) (fun hc61 => ?_)
  · skip
    refine own_pre (F' := T0.setTop (mkF m 76 #[.val (.long q0), .second] [])) (fun _ k => XS.ifYes X0.here hx rfl (pc0 := 61) (pc' := 76) rfl (hb hby d1_61) rfl ((if0 _ _).trans (tlt ((lw_lt _ _).mpr hc61)).1) (by decide) (by decide) k) ?_
    exact g1_76 hw q0 Bd hml hZ T0 X0 e0
  · skip
    refine own_pre (F' := T0.setTop (mkF m 64 #[.val (.long q0), .second] [])) (fun _ k => XS.ifNo X0.here hx rfl (hb hby d1_61) rfl ((if0 _ _).trans (flt (fun q => hc61 ((lw_lt _ _).mp q))).1) k) ?_
    refine own_pre (F' := T0.setTop (mkF m 65 #[.val (.long q0), .second] [(.long q0)])) (fun _ k => XS.lloadN X0.here hx rfl (hb hby d1_64) rfl k) ?_
    refine own_pre (F' := T0.setTop (mkF m 68 #[.val (.long q0), .second] [(.long (1114111 : Int64)), (.long q0)])) (fun _ k => X0.ldc2Long hx hown (mvT hZ (hw _ (List.mem_of_getElem? (i := 33) rfl))) (g := (mkF m 65 #[.val (.long q0), .second] [(.long q0)])) rfl (hb hby d1_65) _ k) ?_
    refine own_pre (F' := T0.setTop (mkF m 69 #[.val (.long q0), .second] [(.int (lcmpW q0 (1114111 : Int64)))])) (fun _ k => XS.lcmp X0.here hx rfl (hb hby d1_68) rfl k) ?_
    refine own_iteI (fun hc69 => ?_) (fun hc69 => ?_)
    · skip
      refine own_pre (F' := T0.setTop (mkF m 76 #[.val (.long q0), .second] [])) (fun _ k => XS.ifYes X0.here hx rfl (pc0 := 69) (pc' := 76) rfl (hb hby d1_69) rfl ((if0 _ _).trans (tlt ((lw_gt _ _).mpr hc69)).2.2.1) (by decide) (by decide) k) ?_
      exact g1_76 hw q0 Bd hml hZ T0 X0 e0
    · skip
      refine own_pre (F' := T0.setTop (mkF m 72 #[.val (.long q0), .second] [])) (fun _ k => XS.ifNo X0.here hx rfl (hb hby d1_69) rfl ((if0 _ _).trans (flt (fun q => hc69 ((lw_gt _ _).mp q))).2.2.1) k) ?_
      exact g1_72 hw q0 Bd hml hZ T0 X0 e0
def f1_40 (q0 : Int64) : Int32 := (if q0 < (57344 : Int64) then (f1_56 q0) else (if (65533 : Int64) < q0 then (f1_56 q0) else (f1_72 q0)))
set_option maxRecDepth 65536 in
set_option maxHeartbeats 40000000 in
theorem g1_40 {p : Program} {l : Launch} {e : Env} {s : State} {m : MethodId} {below : List Frame} {meth : Method} {c : Code} {s₁ : State} {ws : List Jvm.Cond} {Z : State} {aw : Array Value} (hw : ∀ d ∈ tables_1, d.before aw Z = true) {h0 : Heap} (q0 : Int64)
    (Bd : BodyLoose p l (⟨"com/example/tersemark/tersemark/codec/XmlGrammar", "isCharacter", "(J)Z"⟩ : MethodName) (head1 (Jvm.Cond.code (⟨"com/example/tersemark/tersemark/codec/XmlGrammar", "isCharacter", "(J)Z"⟩ : MethodName) prog_75_method_2_code 2 (some .boolean) :: ws) ({ frames := 0, cells := 0, slots := 0, locals := 0 } : Room)) prog_75_method_2_code 2 (some .boolean) e s m #[(.long q0)] below meth c s₁) (hml : c.maxLocals = 2) (hZ : Z.Warmed39 s.vm) (T0 : State) (X0 : Stand p l e ({ frames := 0, cells := 0, slots := 0, locals := 0 } : Room) s m #[(.long q0)] below meth c T0 [] 0 0) (e0 : T0.heap = h0) :
    own_Go p e below s ({ frames := 0, cells := 0, slots := 0, locals := 0 } : Room).cells ({ frames := 0, cells := 0, slots := 0, locals := 0 } : Room).slots (some (.int (f1_40 q0))) (own_K0 h0) (T0.setTop (mkF m 40 #[.val (.long q0), .second] [])) := by
  have hx := Bd.exec
  have hby := Bd.bytes
  have hown : s.vm.findClass "com/example/tersemark/tersemark/codec/XmlGrammar" = some m.cls := findClass_of_methodNamed Bd.named
  unfold f1_40
  refine own_pre (F' := T0.setTop (mkF m 41 #[.val (.long q0), .second] [(.long q0)])) (fun _ k => XS.lloadN X0.here hx rfl (hb hby d1_40) rfl k) ?_
  refine own_pre (F' := T0.setTop (mkF m 44 #[.val (.long q0), .second] [(.long (57344 : Int64)), (.long q0)])) (fun _ k => X0.ldc2Long hx hown (mvT hZ (hw _ (List.mem_of_getElem? (i := 24) rfl))) (g := (mkF m 41 #[.val (.long q0), .second] [(.long q0)])) rfl (hb hby d1_41) _ k) ?_
  refine own_pre (F' := T0.setTop (mkF m 45 #[.val (.long q0), .second] [(.int (lcmpW q0 (57344 : Int64)))])) (fun _ k => XS.lcmp X0.here hx rfl (hb hby d1_44) rfl k) ?_
  refine own_iteI (fun hc45 => ?_) (fun hc45 => ?_)
  · skip
    refine own_pre (F' := T0.setTop (mkF m 56 #[.val (.long q0), .second] [])) (fun _ k => XS.ifYes X0.here hx rfl (pc0 := 45) (pc' := 56) rfl (hb hby d1_45) rfl ((if0 _ _).trans (tlt ((lw_lt _ _).mpr hc45)).1) (by decide) (by decide) k) ?_
    exact g1_56 hw q0 Bd hml hZ T0 X0 e0
  · skip
    refine own_pre (F' := T0.setTop (mkF m 48 #[.val (.long q0), .second] [])) (fun _ k => XS.ifNo X0.here hx rfl (hb hby d1_45) rfl ((if0 _ _).trans (flt (fun q => hc45 ((lw_lt _ _).mp q))).1) k) ?_
    refine own_pre (F' := T0.setTop (mkF m 49 #[.val (.long q0), .second] [(.long q0)])) (fun _ k => XS.lloadN X0.here hx rfl (hb hby d1_48) rfl k) ?_
    refine own_pre (F' := T0.setTop (mkF m 52 #[.val (.long q0), .second] [(.long (65533 : Int64)), (.long q0)])) (fun _ k => X0.ldc2Long hx hown (mvT hZ (hw _ (List.mem_of_getElem? (i := 31) rfl))) (g := (mkF m 49 #[.val (.long q0), .second] [(.long q0)])) rfl (hb hby d1_49) _ k) ?_
    refine own_pre (F' := T0.setTop (mkF m 53 #[.val (.long q0), .second] [(.int (lcmpW q0 (65533 : Int64)))])) (fun _ k => XS.lcmp X0.here hx rfl (hb hby d1_52) rfl k) ?_
    refine own_iteI (fun hc53 => ?_) (fun hc53 => ?_)
    · skip
      refine own_pre (F' := T0.setTop (mkF m 56 #[.val (.long q0), .second] [])) (fun _ k => XS.ifNo X0.here hx rfl (hb hby d1_53) rfl ((if0 _ _).trans (tlt ((lw_gt _ _).mpr hc53)).2.2.2) k) ?_
      exact g1_56 hw q0 Bd hml hZ T0 X0 e0
    · skip
      refine own_pre (F' := T0.setTop (mkF m 72 #[.val (.long q0), .second] [])) (fun _ k => XS.ifYes X0.here hx rfl (pc0 := 53) (pc' := 72) rfl (hb hby d1_53) rfl ((if0 _ _).trans (flt (fun q => hc53 ((lw_gt _ _).mp q))).2.2.2) (by decide) (by decide) k) ?_
      exact g1_72 hw q0 Bd hml hZ T0 X0 e0
def f1_0 (q0 : Int64) : Int32 := (if q0 = (9 : Int64) then (f1_72 q0) else (if q0 = (10 : Int64) then (f1_72 q0) else (if q0 = (13 : Int64) then (f1_72 q0) else (if q0 < (32 : Int64) then (f1_40 q0) else (if (55295 : Int64) < q0 then (f1_40 q0) else (f1_72 q0))))))
set_option maxRecDepth 65536 in
set_option maxHeartbeats 40000000 in
theorem g1_0 {p : Program} {l : Launch} {e : Env} {s : State} {m : MethodId} {below : List Frame} {meth : Method} {c : Code} {s₁ : State} {ws : List Jvm.Cond} {Z : State} {aw : Array Value} (hw : ∀ d ∈ tables_1, d.before aw Z = true) {h0 : Heap} (q0 : Int64)
    (Bd : BodyLoose p l (⟨"com/example/tersemark/tersemark/codec/XmlGrammar", "isCharacter", "(J)Z"⟩ : MethodName) (head1 (Jvm.Cond.code (⟨"com/example/tersemark/tersemark/codec/XmlGrammar", "isCharacter", "(J)Z"⟩ : MethodName) prog_75_method_2_code 2 (some .boolean) :: ws) ({ frames := 0, cells := 0, slots := 0, locals := 0 } : Room)) prog_75_method_2_code 2 (some .boolean) e s m #[(.long q0)] below meth c s₁) (hml : c.maxLocals = 2) (hZ : Z.Warmed39 s.vm) (T0 : State) (X0 : Stand p l e ({ frames := 0, cells := 0, slots := 0, locals := 0 } : Room) s m #[(.long q0)] below meth c T0 [] 0 0) (e0 : T0.heap = h0) :
    own_Go p e below s ({ frames := 0, cells := 0, slots := 0, locals := 0 } : Room).cells ({ frames := 0, cells := 0, slots := 0, locals := 0 } : Room).slots (some (.int (f1_0 q0))) (own_K0 h0) (T0.setTop (mkF m 0 #[.val (.long q0), .second] [])) := by
  have hx := Bd.exec
  have hby := Bd.bytes
  have hown : s.vm.findClass "com/example/tersemark/tersemark/codec/XmlGrammar" = some m.cls := findClass_of_methodNamed Bd.named
  unfold f1_0
  refine own_pre (F' := T0.setTop (mkF m 1 #[.val (.long q0), .second] [(.long q0)])) (fun _ k => XS.lloadN X0.here hx rfl (hb hby d1_0) rfl k) ?_
  refine own_pre (F' := T0.setTop (mkF m 4 #[.val (.long q0), .second] [(.long (9 : Int64)), (.long q0)])) (fun _ k => X0.ldc2Long hx hown (mvT hZ (hw _ (List.mem_of_getElem? (i := 20) rfl))) (g := (mkF m 1 #[.val (.long q0), .second] [(.long q0)])) rfl (hb hby d1_1) _ k) ?_
  refine own_pre (F' := T0.setTop (mkF m 5 #[.val (.long q0), .second] [(.int (lcmpW q0 (9 : Int64)))])) (fun _ k => XS.lcmp X0.here hx rfl (hb hby d1_4) rfl k) ?_
  refine own_iteI (fun hc5 => ?_) (fun hc5 => ?_)
  · skip
    refine own_pre (F' := T0.setTop (mkF m 72 #[.val (.long q0), .second] [])) (fun _ k => XS.ifYes X0.here hx rfl (pc0 := 5) (pc' := 72) rfl (hb hby d1_5) rfl ((if0 _ _).trans (teq ((lw_eq _ _).mpr hc5)).1) (by decide) (by decide) k) ?_
    exact g1_72 hw q0 Bd hml hZ T0 X0 e0
  · skip
    refine own_pre (F' := T0.setTop (mkF m 8 #[.val (.long q0), .second] [])) (fun _ k => XS.ifNo X0.here hx rfl (hb hby d1_5) rfl ((if0 _ _).trans (feq (fun q => hc5 ((lw_eq _ _).mp q))).1) k) ?_
    refine own_pre (F' := T0.setTop (mkF m 9 #[.val (.long q0), .second] [(.long q0)])) (fun _ k => XS.lloadN X0.here hx rfl (hb hby d1_8) rfl k) ?_
    refine own_pre (F' := T0.setTop (mkF m 12 #[.val (.long q0), .second] [(.long (10 : Int64)), (.long q0)])) (fun _ k => X0.ldc2Long hx hown (mvT hZ (hw _ (List.mem_of_getElem? (i := 21) rfl))) (g := (mkF m 9 #[.val (.long q0), .second] [(.long q0)])) rfl (hb hby d1_9) _ k) ?_
    refine own_pre (F' := T0.setTop (mkF m 13 #[.val (.long q0), .second] [(.int (lcmpW q0 (10 : Int64)))])) (fun _ k => XS.lcmp X0.here hx rfl (hb hby d1_12) rfl k) ?_
    refine own_iteI (fun hc13 => ?_) (fun hc13 => ?_)
    · skip
      refine own_pre (F' := T0.setTop (mkF m 72 #[.val (.long q0), .second] [])) (fun _ k => XS.ifYes X0.here hx rfl (pc0 := 13) (pc' := 72) rfl (hb hby d1_13) rfl ((if0 _ _).trans (teq ((lw_eq _ _).mpr hc13)).1) (by decide) (by decide) k) ?_
      exact g1_72 hw q0 Bd hml hZ T0 X0 e0
    · skip
      refine own_pre (F' := T0.setTop (mkF m 16 #[.val (.long q0), .second] [])) (fun _ k => XS.ifNo X0.here hx rfl (hb hby d1_13) rfl ((if0 _ _).trans (feq (fun q => hc13 ((lw_eq _ _).mp q))).1) k) ?_
      refine own_pre (F' := T0.setTop (mkF m 17 #[.val (.long q0), .second] [(.long q0)])) (fun _ k => XS.lloadN X0.here hx rfl (hb hby d1_16) rfl k) ?_
      refine own_pre (F' := T0.setTop (mkF m 20 #[.val (.long q0), .second] [(.long (13 : Int64)), (.long q0)])) (fun _ k => X0.ldc2Long hx hown (mvT hZ (hw _ (List.mem_of_getElem? (i := 22) rfl))) (g := (mkF m 17 #[.val (.long q0), .second] [(.long q0)])) rfl (hb hby d1_17) _ k) ?_
      refine own_pre (F' := T0.setTop (mkF m 21 #[.val (.long q0), .second] [(.int (lcmpW q0 (13 : Int64)))])) (fun _ k => XS.lcmp X0.here hx rfl (hb hby d1_20) rfl k) ?_
      refine own_iteI (fun hc21 => ?_) (fun hc21 => ?_)
      · skip
        refine own_pre (F' := T0.setTop (mkF m 72 #[.val (.long q0), .second] [])) (fun _ k => XS.ifYes X0.here hx rfl (pc0 := 21) (pc' := 72) rfl (hb hby d1_21) rfl ((if0 _ _).trans (teq ((lw_eq _ _).mpr hc21)).1) (by decide) (by decide) k) ?_
        exact g1_72 hw q0 Bd hml hZ T0 X0 e0
      · skip
        refine own_pre (F' := T0.setTop (mkF m 24 #[.val (.long q0), .second] [])) (fun _ k => XS.ifNo X0.here hx rfl (hb hby d1_21) rfl ((if0 _ _).trans (feq (fun q => hc21 ((lw_eq _ _).mp q))).1) k) ?_
        refine own_pre (F' := T0.setTop (mkF m 25 #[.val (.long q0), .second] [(.long q0)])) (fun _ k => XS.lloadN X0.here hx rfl (hb hby d1_24) rfl k) ?_
        refine own_pre (F' := T0.setTop (mkF m 28 #[.val (.long q0), .second] [(.long (32 : Int64)), (.long q0)])) (fun _ k => X0.ldc2Long hx hown (mvT hZ (hw _ (List.mem_of_getElem? (i := 23) rfl))) (g := (mkF m 25 #[.val (.long q0), .second] [(.long q0)])) rfl (hb hby d1_25) _ k) ?_
        refine own_pre (F' := T0.setTop (mkF m 29 #[.val (.long q0), .second] [(.int (lcmpW q0 (32 : Int64)))])) (fun _ k => XS.lcmp X0.here hx rfl (hb hby d1_28) rfl k) ?_
        refine own_iteI (fun hc29 => ?_) (fun hc29 => ?_)
        · skip
          refine own_pre (F' := T0.setTop (mkF m 40 #[.val (.long q0), .second] [])) (fun _ k => XS.ifYes X0.here hx rfl (pc0 := 29) (pc' := 40) rfl (hb hby d1_29) rfl ((if0 _ _).trans (tlt ((lw_lt _ _).mpr hc29)).1) (by decide) (by decide) k) ?_
          exact g1_40 hw q0 Bd hml hZ T0 X0 e0
        · skip
          refine own_pre (F' := T0.setTop (mkF m 32 #[.val (.long q0), .second] [])) (fun _ k => XS.ifNo X0.here hx rfl (hb hby d1_29) rfl ((if0 _ _).trans (flt (fun q => hc29 ((lw_lt _ _).mp q))).1) k) ?_
          refine own_pre (F' := T0.setTop (mkF m 33 #[.val (.long q0), .second] [(.long q0)])) (fun _ k => XS.lloadN X0.here hx rfl (hb hby d1_32) rfl k) ?_
          refine own_pre (F' := T0.setTop (mkF m 36 #[.val (.long q0), .second] [(.long (55295 : Int64)), (.long q0)])) (fun _ k => X0.ldc2Long hx hown (mvT hZ (hw _ (List.mem_of_getElem? (i := 30) rfl))) (g := (mkF m 33 #[.val (.long q0), .second] [(.long q0)])) rfl (hb hby d1_33) _ k) ?_
          refine own_pre (F' := T0.setTop (mkF m 37 #[.val (.long q0), .second] [(.int (lcmpW q0 (55295 : Int64)))])) (fun _ k => XS.lcmp X0.here hx rfl (hb hby d1_36) rfl k) ?_
          refine own_iteI (fun hc37 => ?_) (fun hc37 => ?_)
          · skip
            refine own_pre (F' := T0.setTop (mkF m 40 #[.val (.long q0), .second] [])) (fun _ k => XS.ifNo X0.here hx rfl (hb hby d1_37) rfl ((if0 _ _).trans (tlt ((lw_gt _ _).mpr hc37)).2.2.2) k) ?_
            exact g1_40 hw q0 Bd hml hZ T0 X0 e0
          · skip
            refine own_pre (F' := T0.setTop (mkF m 72 #[.val (.long q0), .second] [])) (fun _ k => XS.ifYes X0.here hx rfl (pc0 := 37) (pc' := 72) rfl (hb hby d1_37) rfl ((if0 _ _).trans (flt (fun q => hc37 ((lw_gt _ _).mp q))).2.2.2) (by decide) (by decide) k) ?_
            exact g1_72 hw q0 Bd hml hZ T0 X0 e0
theorem ef_1 (m : MethodId) (q0 : Int64) : entryFrame m #[(.long q0)] 2 = mkF m 0 #[.val (.long q0), .second] [] := by first | (simp [entryFrame, mkF, argsToLocals, Value.category]; done) | rfl
set_option maxRecDepth 65536 in
set_option maxHeartbeats 40000000 in
theorem rm1 (l : Launch) (Z : State) (aw : Array Value) (hw : ∀ d ∈ tables_1, d.before aw Z = true) (ws : List Jvm.Cond) (q0 : Int64) (h0 : Heap) :
    MetFree l (⟨"com/example/tersemark/tersemark/codec/XmlGrammar", "isCharacter", "(J)Z"⟩ : MethodName) (head1 (Jvm.Cond.code (⟨"com/example/tersemark/tersemark/codec/XmlGrammar", "isCharacter", "(J)Z"⟩ : MethodName) prog_75_method_2_code 2 (some .boolean) :: ws) ({ frames := 0, cells := 0, slots := 0, locals := 0 } : Room)) (fun a U => a = #[(.long q0)] ∧ Z.Warmed39 U.vm ∧ U.heap = h0) (fun _ _ _ _ _ => True) (fun _ U o U' => ∃ v L, o = .returned v ∧ own_Q (some (.int (f1_0 q0))) (own_K0 h0) v U'.heap L ∧ FrameEnd U o U' L ({ frames := 0, cells := 0, slots := 0, locals := 0 } : Room).cells ({ frames := 0, cells := 0, slots := 0, locals := 0 } : Room).slots) := by
  refine MetFree.of_bodySF (plainFor_of_name own_pn0) hisR ?_
  intro p e s m args below meth c s₁ Bd hml0 hP hK
  obtain ⟨rfl, hZ, hh⟩ := hP
  have hml : c.maxLocals = 2 := hml0
  have e0 : s₁.heap = h0 := by rw [← hh, Bd.state]; rfl
  exact own_pre (fun t k => castTop (ef_1 m q0) k) (g1_0 hw q0 Bd hml hZ s₁ (Stand.of_body Bd) e0)
/-! body 2 -/
theorem d2_0 : decode method_3_code 0 = .ok (.lload_n 0, 1) := by decide +kernel
theorem d2_1 : decode method_3_code 1 = .ok (.lconst 0, 1) := by decide +kernel
theorem d2_2 : decode method_3_code 2 = .ok (.lcmp, 1) := by decide +kernel
theorem d2_3 : decode method_3_code 3 = .ok (.ifCond .ge 5, 3) := by decide +kernel
theorem d2_6 : decode method_3_code 6 = .ok (.iconst 1, 1) := by decide +kernel
theorem d2_7 : decode method_3_code 7 = .ok (.ireturn, 1) := by decide +kernel
theorem d2_8 : decode method_3_code 8 = .ok (.lload_n 0, 1) := by decide +kernel
theorem d2_9 : decode method_3_code 9 = .ok (.ldc2_w 29, 3) := by decide +kernel
theorem d2_12 : decode method_3_code 12 = .ok (.lcmp, 1) := by decide +kernel
theorem d2_13 : decode method_3_code 13 = .ok (.ifCond .le 5, 3) := by decide +kernel
theorem d2_16 : decode method_3_code 16 = .ok (.iconst 1, 1) := by decide +kernel
theorem d2_17 : decode method_3_code 17 = .ok (.ireturn, 1) := by decide +kernel
theorem d2_18 : decode method_3_code 18 = .ok (.lload_n 0, 1) := by decide +kernel
theorem d2_19 : decode method_3_code 19 = .ok (.ldc2_w 13, 3) := by decide +kernel
theorem d2_22 : decode method_3_code 22 = .ok (.lcmp, 1) := by decide +kernel
theorem d2_23 : decode method_3_code 23 = .ok (.ifCond .ge 33, 3) := by decide +kernel
theorem d2_26 : decode method_3_code 26 = .ok (.lload_n 0, 1) := by decide +kernel
theorem d2_27 : decode method_3_code 27 = .ok (.ldc2_w 7, 3) := by decide +kernel
theorem d2_30 : decode method_3_code 30 = .ok (.lcmp, 1) := by decide +kernel
theorem d2_31 : decode method_3_code 31 = .ok (.ifCond .eq 23, 3) := by decide +kernel
theorem d2_34 : decode method_3_code 34 = .ok (.lload_n 0, 1) := by decide +kernel
theorem d2_35 : decode method_3_code 35 = .ok (.ldc2_w 9, 3) := by decide +kernel
theorem d2_38 : decode method_3_code 38 = .ok (.lcmp, 1) := by decide +kernel
theorem d2_39 : decode method_3_code 39 = .ok (.ifCond .eq 15, 3) := by decide +kernel
theorem d2_42 : decode method_3_code 42 = .ok (.lload_n 0, 1) := by decide +kernel
theorem d2_43 : decode method_3_code 43 = .ok (.ldc2_w 11, 3) := by decide +kernel
theorem d2_46 : decode method_3_code 46 = .ok (.lcmp, 1) := by decide +kernel
theorem d2_47 : decode method_3_code 47 = .ok (.ifCond .eq 7, 3) := by decide +kernel
theorem d2_50 : decode method_3_code 50 = .ok (.iconst 1, 1) := by decide +kernel
theorem d2_51 : decode method_3_code 51 = .ok (.goto 4, 3) := by decide +kernel
theorem d2_54 : decode method_3_code 54 = .ok (.iconst 0, 1) := by decide +kernel
theorem d2_55 : decode method_3_code 55 = .ok (.ireturn, 1) := by decide +kernel
theorem d2_56 : decode method_3_code 56 = .ok (.lload_n 0, 1) := by decide +kernel
theorem d2_57 : decode method_3_code 57 = .ok (.ldc2_w 17, 3) := by decide +kernel
theorem d2_60 : decode method_3_code 60 = .ok (.lcmp, 1) := by decide +kernel
theorem d2_61 : decode method_3_code 61 = .ok (.ifCond .lt 13, 3) := by decide +kernel
theorem d2_64 : decode method_3_code 64 = .ok (.lload_n 0, 1) := by decide +kernel
theorem d2_65 : decode method_3_code 65 = .ok (.ldc2_w 19, 3) := by decide +kernel
theorem d2_68 : decode method_3_code 68 = .ok (.lcmp, 1) := by decide +kernel
theorem d2_69 : decode method_3_code 69 = .ok (.ifCond .gt 5, 3) := by decide +kernel
theorem d2_72 : decode method_3_code 72 = .ok (.iconst 1, 1) := by decide +kernel
theorem d2_73 : decode method_3_code 73 = .ok (.ireturn, 1) := by decide +kernel
theorem d2_74 : decode method_3_code 74 = .ok (.lload_n 0, 1) := by decide +kernel
theorem d2_75 : decode method_3_code 75 = .ok (.ldc2_w 52, 3) := by decide +kernel
theorem d2_78 : decode method_3_code 78 = .ok (.lcmp, 1) := by decide +kernel
theorem d2_79 : decode method_3_code 79 = .ok (.ifCond .eq 11, 3) := by decide +kernel
theorem d2_82 : decode method_3_code 82 = .ok (.lload_n 0, 1) := by decide +kernel
theorem d2_83 : decode method_3_code 83 = .ok (.ldc2_w 25, 3) := by decide +kernel
theorem d2_86 : decode method_3_code 86 = .ok (.lcmp, 1) := by decide +kernel
theorem d2_87 : decode method_3_code 87 = .ok (.ifCond .ne 5, 3) := by decide +kernel
theorem d2_90 : decode method_3_code 90 = .ok (.iconst 1, 1) := by decide +kernel
theorem d2_91 : decode method_3_code 91 = .ok (.ireturn, 1) := by decide +kernel
theorem d2_92 : decode method_3_code 92 = .ok (.iconst 0, 1) := by decide +kernel
theorem d2_93 : decode method_3_code 93 = .ok (.ireturn, 1) := by decide +kernel
theorem own_pn1 : plainName "com/example/tersemark/tersemark/codec/XmlGrammarIsCharacterPinLaw" = true := by first | (simp [plainName, overriddenIn]; done) | decide +kernel
def f2_90 (q0 : Int64) : Int32 := (1 : Int32)
set_option maxRecDepth 65536 in
set_option maxHeartbeats 40000000 in
theorem g2_90 {p : Program} {l : Launch} {e : Env} {s : State} {m : MethodId} {below : List Frame} {meth : Method} {c : Code} {s₁ : State} {ws : List Jvm.Cond} {Z : State} {aw : Array Value} (hw : ∀ d ∈ tables_1, d.before aw Z = true) {h0 : Heap} (q0 : Int64)
    (Bd : BodyLoose p l (⟨"com/example/tersemark/tersemark/codec/XmlGrammarIsCharacterPinLaw", "excluded", "(J)Z"⟩ : MethodName) (head1 (Jvm.Cond.code (⟨"com/example/tersemark/tersemark/codec/XmlGrammarIsCharacterPinLaw", "excluded", "(J)Z"⟩ : MethodName) method_3_code 2 (some .boolean) :: ws) ({ frames := 0, cells := 0, slots := 0, locals := 0 } : Room)) method_3_code 2 (some .boolean) e s m #[(.long q0)] below meth c s₁) (hml : c.maxLocals = 2) (hZ : Z.Warmed39 s.vm) (T0 : State) (X0 : Stand p l e ({ frames := 0, cells := 0, slots := 0, locals := 0 } : Room) s m #[(.long q0)] below meth c T0 [] 0 0) (e0 : T0.heap = h0) :
    own_Go p e below s ({ frames := 0, cells := 0, slots := 0, locals := 0 } : Room).cells ({ frames := 0, cells := 0, slots := 0, locals := 0 } : Room).slots (some (.int (f2_90 q0))) (own_K0 h0) (T0.setTop (mkF m 90 #[.val (.long q0), .second] [])) := by
  have hx := Bd.exec
  have hby := Bd.bytes
  have hown : s.vm.findClass "com/example/tersemark/tersemark/codec/XmlGrammarIsCharacterPinLaw" = some m.cls := findClass_of_methodNamed Bd.named
  unfold f2_90
  refine own_pre (F' := T0.setTop (mkF m 91 #[.val (.long q0), .second] [(.int (1 : Int32))])) (fun _ k => XS.iconst X0.here hx rfl (hb hby d2_90) k) ?_
  exact own_ret X0 hx Bd.notSynchronized Bd.returns rfl (Or.inl ⟨rfl, by simp, _, rfl⟩) (hb hby d2_91) ⟨rfl, e0⟩ (by decide) (by decide)
def f2_74 (q0 : Int64) : Int32 := (if q0 = (65534 : Int64) then (f2_90 q0) else (if q0 = (65535 : Int64) then (f2_90 q0) else (0 : Int32)))
set_option maxRecDepth 65536 in
set_option maxHeartbeats 40000000 in
theorem g2_74 {p : Program} {l : Launch} {e : Env} {s : State} {m : MethodId} {below : List Frame} {meth : Method} {c : Code} {s₁ : State} {ws : List Jvm.Cond} {Z : State} {aw : Array Value} (hw : ∀ d ∈ tables_1, d.before aw Z = true) {h0 : Heap} (q0 : Int64)
    (Bd : BodyLoose p l (⟨"com/example/tersemark/tersemark/codec/XmlGrammarIsCharacterPinLaw", "excluded", "(J)Z"⟩ : MethodName) (head1 (Jvm.Cond.code (⟨"com/example/tersemark/tersemark/codec/XmlGrammarIsCharacterPinLaw", "excluded", "(J)Z"⟩ : MethodName) method_3_code 2 (some .boolean) :: ws) ({ frames := 0, cells := 0, slots := 0, locals := 0 } : Room)) method_3_code 2 (some .boolean) e s m #[(.long q0)] below meth c s₁) (hml : c.maxLocals = 2) (hZ : Z.Warmed39 s.vm) (T0 : State) (X0 : Stand p l e ({ frames := 0, cells := 0, slots := 0, locals := 0 } : Room) s m #[(.long q0)] below meth c T0 [] 0 0) (e0 : T0.heap = h0) :
    own_Go p e below s ({ frames := 0, cells := 0, slots := 0, locals := 0 } : Room).cells ({ frames := 0, cells := 0, slots := 0, locals := 0 } : Room).slots (some (.int (f2_74 q0))) (own_K0 h0) (T0.setTop (mkF m 74 #[.val (.long q0), .second] [])) := by
  have hx := Bd.exec
  have hby := Bd.bytes
  have hown : s.vm.findClass "com/example/tersemark/tersemark/codec/XmlGrammarIsCharacterPinLaw" = some m.cls := findClass_of_methodNamed Bd.named
  unfold f2_74
  refine own_pre (F' := T0.setTop (mkF m 75 #[.val (.long q0), .second] [(.long q0)])) (fun _ k => XS.lloadN X0.here hx rfl (hb hby d2_74) rfl k) ?_
  refine own_pre (F' := T0.setTop (mkF m 78 #[.val (.long q0), .second] [(.long (65534 : Int64)), (.long q0)])) (fun _ k => X0.ldc2Long hx hown (mvT hZ (hw _ (List.mem_of_getElem? (i := 32) rfl))) (g := (mkF m 75 #[.val (.long q0), .second] [(.long q0)])) rfl (hb hby d2_75) _ k) ?_
  refine own_pre (F' := T0.setTop (mkF m 79 #[.val (.long q0), .second] [(.int (lcmpW q0 (65534 : Int64)))])) (fun _ k => XS.lcmp X0.here hx rfl (hb hby d2_78) rfl k) ?_
  refine own_iteI (fun hc79 => ?_) (fun hc79 => ?_)
  · skip
    refine own_pre (F' := T0.setTop (mkF m 90 #[.val (.long q0), .second] [])) (fun _ k => XS.ifYes X0.here hx rfl (pc0 := 79) (pc' := 90) rfl (hb hby d2_79) rfl ((if0 _ _).trans (teq ((lw_eq _ _).mpr hc79)).1) (by decide) (by decide) k) ?_
    exact g2_90 hw q0 Bd hml hZ T0 X0 e0
  · skip
    refine own_pre (F' := T0.setTop (mkF m 82 #[.val (.long q0), .second] [])) (fun _ k => XS.ifNo X0.here hx rfl (hb hby d2_79) rfl ((if0 _ _).trans (feq (fun q => hc79 ((lw_eq _ _).mp q))).1) k) ?_
    refine own_pre (F' := T0.setTop (mkF m 83 #[.val (.long q0), .second] [(.long q0)])) (fun _ k => XS.lloadN X0.here hx rfl (hb hby d2_82) rfl k) ?_
    refine own_pre (F' := T0.setTop (mkF m 86 #[.val (.long q0), .second] [(.long (65535 : Int64)), (.long q0)])) (fun _ k => X0.ldc2Long hx hown (mvT hZ (hw _ (List.mem_of_getElem? (i := 10) rfl))) (g := (mkF m 83 #[.val (.long q0), .second] [(.long q0)])) rfl (hb hby d2_83) _ k) ?_
    refine own_pre (F' := T0.setTop (mkF m 87 #[.val (.long q0), .second] [(.int (lcmpW q0 (65535 : Int64)))])) (fun _ k => XS.lcmp X0.here hx rfl (hb hby d2_86) rfl k) ?_
    refine own_iteI (fun hc87 => ?_) (fun hc87 => ?_)
    · skip
      refine own_pre (F' := T0.setTop (mkF m 90 #[.val (.long q0), .second] [])) (fun _ k => XS.ifNo X0.here hx rfl (hb hby d2_87) rfl ((if0 _ _).trans (teq ((lw_eq _ _).mpr hc87)).2) k) ?_
      exact g2_90 hw q0 Bd hml hZ T0 X0 e0
    · skip
      refine own_pre (F' := T0.setTop (mkF m 92 #[.val (.long q0), .second] [])) (fun _ k => XS.ifYes X0.here hx rfl (pc0 := 87) (pc' := 92) rfl (hb hby d2_87) rfl ((if0 _ _).trans (feq (fun q => hc87 ((lw_eq _ _).mp q))).2) (by decide) (by decide) k) ?_
      refine own_pre (F' := T0.setTop (mkF m 93 #[.val (.long q0), .second] [(.int (0 : Int32))])) (fun _ k => XS.iconst X0.here hx rfl (hb hby d2_92) k) ?_
      exact own_ret X0 hx Bd.notSynchronized Bd.returns rfl (Or.inl ⟨rfl, by simp, _, rfl⟩) (hb hby d2_93) ⟨rfl, e0⟩ (by decide) (by decide)
def f2_54 (q0 : Int64) : Int32 := (0 : Int32)
set_option maxRecDepth 65536 in
set_option maxHeartbeats 40000000 in
theorem g2_54 {p : Program} {l : Launch} {e : Env} {s : State} {m : MethodId} {below : List Frame} {meth : Method} {c : Code} {s₁ : State} {ws : List Jvm.Cond} {Z : State} {aw : Array Value} (hw : ∀ d ∈ tables_1, d.before aw Z = true) {h0 : Heap} (q0 : Int64)
    (Bd : BodyLoose p l (⟨"com/example/tersemark/tersemark/codec/XmlGrammarIsCharacterPinLaw", "excluded", "(J)Z"⟩ : MethodName) (head1 (Jvm.Cond.code (⟨"com/example/tersemark/tersemark/codec/XmlGrammarIsCharacterPinLaw", "excluded", "(J)Z"⟩ : MethodName) method_3_code 2 (some .boolean) :: ws) ({ frames := 0, cells := 0, slots := 0, locals := 0 } : Room)) method_3_code 2 (some .boolean) e s m #[(.long q0)] below meth c s₁) (hml : c.maxLocals = 2) (hZ : Z.Warmed39 s.vm) (T0 : State) (X0 : Stand p l e ({ frames := 0, cells := 0, slots := 0, locals := 0 } : Room) s m #[(.long q0)] below meth c T0 [] 0 0) (e0 : T0.heap = h0) :
    own_Go p e below s ({ frames := 0, cells := 0, slots := 0, locals := 0 } : Room).cells ({ frames := 0, cells := 0, slots := 0, locals := 0 } : Room).slots (some (.int (f2_54 q0))) (own_K0 h0) (T0.setTop (mkF m 54 #[.val (.long q0), .second] [])) := by
  have hx := Bd.exec
  have hby := Bd.bytes
  have hown : s.vm.findClass "com/example/tersemark/tersemark/codec/XmlGrammarIsCharacterPinLaw" = some m.cls := findClass_of_methodNamed Bd.named
  unfold f2_54
  refine own_pre (F' := T0.setTop (mkF m 55 #[.val (.long q0), .second] [(.int (0 : Int32))])) (fun _ k => XS.iconst X0.here hx rfl (hb hby d2_54) k) ?_
  exact own_ret X0 hx Bd.notSynchronized Bd.returns rfl (Or.inl ⟨rfl, by simp, _, rfl⟩) (hb hby d2_55) ⟨rfl, e0⟩ (by decide) (by decide)
def f2_0 (q0 : Int64) : Int32 := (if q0 < (0 : Int64) then (1 : Int32) else (if (1114111 : Int64) < q0 then (1 : Int32) else (if q0 < (32 : Int64) then (if q0 = (9 : Int64) then (f2_54 q0) else (if q0 = (10 : Int64) then (f2_54 q0) else (if q0 = (13 : Int64) then (f2_54 q0) else (1 : Int32)))) else (if q0 < (55296 : Int64) then (f2_74 q0) else (if (57343 : Int64) < q0 then (f2_74 q0) else (1 : Int32))))))
set_option maxRecDepth 65536 in
set_option maxHeartbeats 40000000 in
theorem g2_0 {p : Program} {l : Launch} {e : Env} {s : State} {m : MethodId} {below : List Frame} {meth : Method} {c : Code} {s₁ : State} {ws : List Jvm.Cond} {Z : State} {aw : Array Value} (hw : ∀ d ∈ tables_1, d.before aw Z = true) {h0 : Heap} (q0 : Int64)
    (Bd : BodyLoose p l (⟨"com/example/tersemark/tersemark/codec/XmlGrammarIsCharacterPinLaw", "excluded", "(J)Z"⟩ : MethodName) (head1 (Jvm.Cond.code (⟨"com/example/tersemark/tersemark/codec/XmlGrammarIsCharacterPinLaw", "excluded", "(J)Z"⟩ : MethodName) method_3_code 2 (some .boolean) :: ws) ({ frames := 0, cells := 0, slots := 0, locals := 0 } : Room)) method_3_code 2 (some .boolean) e s m #[(.long q0)] below meth c s₁) (hml : c.maxLocals = 2) (hZ : Z.Warmed39 s.vm) (T0 : State) (X0 : Stand p l e ({ frames := 0, cells := 0, slots := 0, locals := 0 } : Room) s m #[(.long q0)] below meth c T0 [] 0 0) (e0 : T0.heap = h0) :
    own_Go p e below s ({ frames := 0, cells := 0, slots := 0, locals := 0 } : Room).cells ({ frames := 0, cells := 0, slots := 0, locals := 0 } : Room).slots (some (.int (f2_0 q0))) (own_K0 h0) (T0.setTop (mkF m 0 #[.val (.long q0), .second] [])) := by
  have hx := Bd.exec
  have hby := Bd.bytes
  have hown : s.vm.findClass "com/example/tersemark/tersemark/codec/XmlGrammarIsCharacterPinLaw" = some m.cls := findClass_of_methodNamed Bd.named
  unfold f2_0
  refine own_pre (F' := T0.setTop (mkF m 1 #[.val (.long q0), .second] [(.long q0)])) (fun _ k => XS.lloadN X0.here hx rfl (hb hby d2_0) rfl k) ?_
  refine own_pre (F' := T0.setTop (mkF m 2 #[.val (.long q0), .second] [(.long (0 : Int64)), (.long q0)])) (fun _ k => XS.lconst X0.here hx rfl (hb hby d2_1) k) ?_
  refine own_pre (F' := T0.setTop (mkF m 3 #[.val (.long q0), .second] [(.int (lcmpW q0 (0 : Int64)))])) (fun _ k => XS.lcmp X0.here hx rfl (hb hby d2_2) rfl k) ?_
  refine own_iteI (fun hc3 => ?_) (fun hc3 => ?_)
  · skip
    refine own_pre (F' := T0.setTop (mkF m 6 #[.val (.long q0), .second] [])) (fun _ k => XS.ifNo X0.here hx rfl (hb hby d2_3) rfl ((if0 _ _).trans (tlt ((lw_lt _ _).mpr hc3)).2.1) k) ?_
    refine own_pre (F' := T0.setTop (mkF m 7 #[.val (.long q0), .second] [(.int (1 : Int32))])) (fun _ k => XS.iconst X0.here hx rfl (hb hby d2_6) k) ?_
    exact own_ret X0 hx Bd.notSynchronized Bd.returns rfl (Or.inl ⟨rfl, by simp, _, rfl⟩) (hb hby d2_7) ⟨rfl, e0⟩ (by decide) (by decide)
  · skip
    refine own_pre (F' := T0.setTop (mkF m 8 #[.val (.long q0), .second] [])) (fun _ k => XS.ifYes X0.here hx rfl (pc0 := 3) (pc' := 8) rfl (hb hby d2_3) rfl ((if0 _ _).trans (flt (fun q => hc3 ((lw_lt _ _).mp q))).2.1) (by decide) (by decide) k) ?_
    refine own_pre (F' := T0.setTop (mkF m 9 #[.val (.long q0), .second] [(.long q0)])) (fun _ k => XS.lloadN X0.here hx rfl (hb hby d2_8) rfl k) ?_
    refine own_pre (F' := T0.setTop (mkF m 12 #[.val (.long q0), .second] [(.long (1114111 : Int64)), (.long q0)])) (fun _ k => X0.ldc2Long hx hown (mvT hZ (hw _ (List.mem_of_getElem? (i := 12) rfl))) (g := (mkF m 9 #[.val (.long q0), .second] [(.long q0)])) rfl (hb hby d2_9) _ k) ?_
    refine own_pre (F' := T0.setTop (mkF m 13 #[.val (.long q0), .second] [(.int (lcmpW q0 (1114111 : Int64)))])) (fun _ k => XS.lcmp X0.here hx rfl (hb hby d2_12) rfl k) ?_
    refine own_iteI (fun hc13 => ?_) (fun hc13 => ?_)
    · skip
      refine own_pre (F' := T0.setTop (mkF m 16 #[.val (.long q0), .second] [])) (fun _ k => XS.ifNo X0.here hx rfl (hb hby d2_13) rfl ((if0 _ _).trans (tlt ((lw_gt _ _).mpr hc13)).2.2.2) k) ?_
      refine own_pre (F' := T0.setTop (mkF m 17 #[.val (.long q0), .second] [(.int (1 : Int32))])) (fun _ k => XS.iconst X0.here hx rfl (hb hby d2_16) k) ?_
      exact own_ret X0 hx Bd.notSynchronized Bd.returns rfl (Or.inl ⟨rfl, by simp, _, rfl⟩) (hb hby d2_17) ⟨rfl, e0⟩ (by decide) (by decide)
    · skip
      refine own_pre (F' := T0.setTop (mkF m 18 #[.val (.long q0), .second] [])) (fun _ k => XS.ifYes X0.here hx rfl (pc0 := 13) (pc' := 18) rfl (hb hby d2_13) rfl ((if0 _ _).trans (flt (fun q => hc13 ((lw_gt _ _).mp q))).2.2.2) (by decide) (by decide) k) ?_
      refine own_pre (F' := T0.setTop (mkF m 19 #[.val (.long q0), .second] [(.long q0)])) (fun _ k => XS.lloadN X0.here hx rfl (hb hby d2_18) rfl k) ?_
      refine own_pre (F' := T0.setTop (mkF m 22 #[.val (.long q0), .second] [(.long (32 : Int64)), (.long q0)])) (fun _ k => X0.ldc2Long hx hown (mvT hZ (hw _ (List.mem_of_getElem? (i := 4) rfl))) (g := (mkF m 19 #[.val (.long q0), .second] [(.long q0)])) rfl (hb hby d2_19) _ k) ?_
      refine own_pre (F' := T0.setTop (mkF m 23 #[.val (.long q0), .second] [(.int (lcmpW q0 (32 : Int64)))])) (fun _ k => XS.lcmp X0.here hx rfl (hb hby d2_22) rfl k) ?_
      refine own_iteI (fun hc23 => ?_) (fun hc23 => ?_)
      · skip
        refine own_pre (F' := T0.setTop (mkF m 26 #[.val (.long q0), .second] [])) (fun _ k => XS.ifNo X0.here hx rfl (hb hby d2_23) rfl ((if0 _ _).trans (tlt ((lw_lt _ _).mpr hc23)).2.1) k) ?_
        refine own_pre (F' := T0.setTop (mkF m 27 #[.val (.long q0), .second] [(.long q0)])) (fun _ k => XS.lloadN X0.here hx rfl (hb hby d2_26) rfl k) ?_
        refine own_pre (F' := T0.setTop (mkF m 30 #[.val (.long q0), .second] [(.long (9 : Int64)), (.long q0)])) (fun _ k => X0.ldc2Long hx hown (mvT hZ (hw _ (List.mem_of_getElem? (i := 1) rfl))) (g := (mkF m 27 #[.val (.long q0), .second] [(.long q0)])) rfl (hb hby d2_27) _ k) ?_
        refine own_pre (F' := T0.setTop (mkF m 31 #[.val (.long q0), .second] [(.int (lcmpW q0 (9 : Int64)))])) (fun _ k => XS.lcmp X0.here hx rfl (hb hby d2_30) rfl k) ?_
        refine own_iteI (fun hc31 => ?_) (fun hc31 => ?_)
        · skip
          refine own_pre (F' := T0.setTop (mkF m 54 #[.val (.long q0), .second] [])) (fun _ k => XS.ifYes X0.here hx rfl (pc0 := 31) (pc' := 54) rfl (hb hby d2_31) rfl ((if0 _ _).trans (teq ((lw_eq _ _).mpr hc31)).1) (by decide) (by decide) k) ?_
          exact g2_54 hw q0 Bd hml hZ T0 X0 e0
        · skip
          refine own_pre (F' := T0.setTop (mkF m 34 #[.val (.long q0), .second] [])) (fun _ k => XS.ifNo X0.here hx rfl (hb hby d2_31) rfl ((if0 _ _).trans (feq (fun q => hc31 ((lw_eq _ _).mp q))).1) k) ?_
          refine own_pre (F' := T0.setTop (mkF m 35 #[.val (.long q0), .second] [(.long q0)])) (fun _ k => XS.lloadN X0.here hx rfl (hb hby d2_34) rfl k) ?_
          refine own_pre (F' := T0.setTop (mkF m 38 #[.val (.long q0), .second] [(.long (10 : Int64)), (.long q0)])) (fun _ k => X0.ldc2Long hx hown (mvT hZ (hw _ (List.mem_of_getElem? (i := 2) rfl))) (g := (mkF m 35 #[.val (.long q0), .second] [(.long q0)])) rfl (hb hby d2_35) _ k) ?_
          refine own_pre (F' := T0.setTop (mkF m 39 #[.val (.long q0), .second] [(.int (lcmpW q0 (10 : Int64)))])) (fun _ k => XS.lcmp X0.here hx rfl (hb hby d2_38) rfl k) ?_
          refine own_iteI (fun hc39 => ?_) (fun hc39 => ?_)
          · skip
            refine own_pre (F' := T0.setTop (mkF m 54 #[.val (.long q0), .second] [])) (fun _ k => XS.ifYes X0.here hx rfl (pc0 := 39) (pc' := 54) rfl (hb hby d2_39) rfl ((if0 _ _).trans (teq ((lw_eq _ _).mpr hc39)).1) (by decide) (by decide) k) ?_
            exact g2_54 hw q0 Bd hml hZ T0 X0 e0
          · skip
            refine own_pre (F' := T0.setTop (mkF m 42 #[.val (.long q0), .second] [])) (fun _ k => XS.ifNo X0.here hx rfl (hb hby d2_39) rfl ((if0 _ _).trans (feq (fun q => hc39 ((lw_eq _ _).mp q))).1) k) ?_
            refine own_pre (F' := T0.setTop (mkF m 43 #[.val (.long q0), .second] [(.long q0)])) (fun _ k => XS.lloadN X0.here hx rfl (hb hby d2_42) rfl k) ?_
            refine own_pre (F' := T0.setTop (mkF m 46 #[.val (.long q0), .second] [(.long (13 : Int64)), (.long q0)])) (fun _ k => X0.ldc2Long hx hown (mvT hZ (hw _ (List.mem_of_getElem? (i := 3) rfl))) (g := (mkF m 43 #[.val (.long q0), .second] [(.long q0)])) rfl (hb hby d2_43) _ k) ?_
            refine own_pre (F' := T0.setTop (mkF m 47 #[.val (.long q0), .second] [(.int (lcmpW q0 (13 : Int64)))])) (fun _ k => XS.lcmp X0.here hx rfl (hb hby d2_46) rfl k) ?_
            refine own_iteI (fun hc47 => ?_) (fun hc47 => ?_)
            · skip
              refine own_pre (F' := T0.setTop (mkF m 54 #[.val (.long q0), .second] [])) (fun _ k => XS.ifYes X0.here hx rfl (pc0 := 47) (pc' := 54) rfl (hb hby d2_47) rfl ((if0 _ _).trans (teq ((lw_eq _ _).mpr hc47)).1) (by decide) (by decide) k) ?_
              exact g2_54 hw q0 Bd hml hZ T0 X0 e0
            · skip
              refine own_pre (F' := T0.setTop (mkF m 50 #[.val (.long q0), .second] [])) (fun _ k => XS.ifNo X0.here hx rfl (hb hby d2_47) rfl ((if0 _ _).trans (feq (fun q => hc47 ((lw_eq _ _).mp q))).1) k) ?_
              refine own_pre (F' := T0.setTop (mkF m 51 #[.val (.long q0), .second] [(.int (1 : Int32))])) (fun _ k => XS.iconst X0.here hx rfl (hb hby d2_50) k) ?_
              refine own_pre (F' := T0.setTop (mkF m 55 #[.val (.long q0), .second] [(.int (1 : Int32))])) (fun _ k => XS.goto X0.here hx rfl (pc0 := 51) (pc' := 55) rfl (hb hby d2_51) (by decide) (by decide) k) ?_
              exact own_ret X0 hx Bd.notSynchronized Bd.returns rfl (Or.inl ⟨rfl, by simp, _, rfl⟩) (hb hby d2_55) ⟨rfl, e0⟩ (by decide) (by decide)
      · skip
        refine own_pre (F' := T0.setTop (mkF m 56 #[.val (.long q0), .second] [])) (fun _ k => XS.ifYes X0.here hx rfl (pc0 := 23) (pc' := 56) rfl (hb hby d2_23) rfl ((if0 _ _).trans (flt (fun q => hc23 ((lw_lt _ _).mp q))).2.1) (by decide) (by decide) k) ?_
        refine own_pre (F' := T0.setTop (mkF m 57 #[.val (.long q0), .second] [(.long q0)])) (fun _ k => XS.lloadN X0.here hx rfl (hb hby d2_56) rfl k) ?_
        refine own_pre (F' := T0.setTop (mkF m 60 #[.val (.long q0), .second] [(.long (55296 : Int64)), (.long q0)])) (fun _ k => X0.ldc2Long hx hown (mvT hZ (hw _ (List.mem_of_getElem? (i := 6) rfl))) (g := (mkF m 57 #[.val (.long q0), .second] [(.long q0)])) rfl (hb hby d2_57) _ k) ?_
        refine own_pre (F' := T0.setTop (mkF m 61 #[.val (.long q0), .second] [(.int (lcmpW q0 (55296 : Int64)))])) (fun _ k => XS.lcmp X0.here hx rfl (hb hby d2_60) rfl k) ?_
        refine own_iteI (fun hc61 => ?_) (fun hc61 => ?_)
        · skip
          refine own_pre (F' := T0.setTop (mkF m 74 #[.val (.long q0), .second] [])) (fun _ k => XS.ifYes X0.here hx rfl (pc0 := 61) (pc' := 74) rfl (hb hby d2_61) rfl ((if0 _ _).trans (tlt ((lw_lt _ _).mpr hc61)).1) (by decide) (by decide) k) ?_
          exact g2_74 hw q0 Bd hml hZ T0 X0 e0
        · skip
          refine own_pre (F' := T0.setTop (mkF m 64 #[.val (.long q0), .second] [])) (fun _ k => XS.ifNo X0.here hx rfl (hb hby d2_61) rfl ((if0 _ _).trans (flt (fun q => hc61 ((lw_lt _ _).mp q))).1) k) ?_
          refine own_pre (F' := T0.setTop (mkF m 65 #[.val (.long q0), .second] [(.long q0)])) (fun _ k => XS.lloadN X0.here hx rfl (hb hby d2_64) rfl k) ?_
          refine own_pre (F' := T0.setTop (mkF m 68 #[.val (.long q0), .second] [(.long (57343 : Int64)), (.long q0)])) (fun _ k => X0.ldc2Long hx hown (mvT hZ (hw _ (List.mem_of_getElem? (i := 7) rfl))) (g := (mkF m 65 #[.val (.long q0), .second] [(.long q0)])) rfl (hb hby d2_65) _ k) ?_
          refine own_pre (F' := T0.setTop (mkF m 69 #[.val (.long q0), .second] [(.int (lcmpW q0 (57343 : Int64)))])) (fun _ k => XS.lcmp X0.here hx rfl (hb hby d2_68) rfl k) ?_
          refine own_iteI (fun hc69 => ?_) (fun hc69 => ?_)
          · skip
            refine own_pre (F' := T0.setTop (mkF m 74 #[.val (.long q0), .second] [])) (fun _ k => XS.ifYes X0.here hx rfl (pc0 := 69) (pc' := 74) rfl (hb hby d2_69) rfl ((if0 _ _).trans (tlt ((lw_gt _ _).mpr hc69)).2.2.1) (by decide) (by decide) k) ?_
            exact g2_74 hw q0 Bd hml hZ T0 X0 e0
          · skip
            refine own_pre (F' := T0.setTop (mkF m 72 #[.val (.long q0), .second] [])) (fun _ k => XS.ifNo X0.here hx rfl (hb hby d2_69) rfl ((if0 _ _).trans (flt (fun q => hc69 ((lw_gt _ _).mp q))).2.2.1) k) ?_
            refine own_pre (F' := T0.setTop (mkF m 73 #[.val (.long q0), .second] [(.int (1 : Int32))])) (fun _ k => XS.iconst X0.here hx rfl (hb hby d2_72) k) ?_
            exact own_ret X0 hx Bd.notSynchronized Bd.returns rfl (Or.inl ⟨rfl, by simp, _, rfl⟩) (hb hby d2_73) ⟨rfl, e0⟩ (by decide) (by decide)
theorem ef_2 (m : MethodId) (q0 : Int64) : entryFrame m #[(.long q0)] 2 = mkF m 0 #[.val (.long q0), .second] [] := by first | (simp [entryFrame, mkF, argsToLocals, Value.category]; done) | rfl
set_option maxRecDepth 65536 in
set_option maxHeartbeats 40000000 in
theorem rm2 (l : Launch) (Z : State) (aw : Array Value) (hw : ∀ d ∈ tables_1, d.before aw Z = true) (ws : List Jvm.Cond) (q0 : Int64) (h0 : Heap) :
    MetFree l (⟨"com/example/tersemark/tersemark/codec/XmlGrammarIsCharacterPinLaw", "excluded", "(J)Z"⟩ : MethodName) (head1 (Jvm.Cond.code (⟨"com/example/tersemark/tersemark/codec/XmlGrammarIsCharacterPinLaw", "excluded", "(J)Z"⟩ : MethodName) method_3_code 2 (some .boolean) :: ws) ({ frames := 0, cells := 0, slots := 0, locals := 0 } : Room)) (fun a U => a = #[(.long q0)] ∧ Z.Warmed39 U.vm ∧ U.heap = h0) (fun _ _ _ _ _ => True) (fun _ U o U' => ∃ v L, o = .returned v ∧ own_Q (some (.int (f2_0 q0))) (own_K0 h0) v U'.heap L ∧ FrameEnd U o U' L ({ frames := 0, cells := 0, slots := 0, locals := 0 } : Room).cells ({ frames := 0, cells := 0, slots := 0, locals := 0 } : Room).slots) := by
  refine MetFree.of_bodySF (plainFor_of_name own_pn1) hisR ?_
  intro p e s m args below meth c s₁ Bd hml0 hP hK
  obtain ⟨rfl, hZ, hh⟩ := hP
  have hml : c.maxLocals = 2 := hml0
  have e0 : s₁.heap = h0 := by rw [← hh, Bd.state]; rfl
  exact own_pre (fun t k => castTop (ef_2 m q0) k) (g2_0 hw q0 Bd hml hZ s₁ (Stand.of_body Bd) e0)
def own_edges : List Int64 := [9, 10, 13, 32, 55295, 55296, 57343, 57344, 65533, 65535, 65536, 1114111, 1114112, 0, -9223372036854775808, 9223372036854775807]
def own_edge (j : Int32) : Int64 := own_edges.getD j.toNatClampNeg 0
theorem own_at (j : Int32) : ([(.long (9 : Int64)), (.long (10 : Int64)), (.long (13 : Int64)), (.long (32 : Int64)), (.long (55295 : Int64)), (.long (55296 : Int64)), (.long (57343 : Int64)), (.long (57344 : Int64)), (.long (65533 : Int64)), (.long (65535 : Int64)), (.long (65536 : Int64)), (.long (1114111 : Int64)), (.long (1114112 : Int64)), (.long (0 : Int64)), (.long (-9223372036854775808 : Int64)), (.long (9223372036854775807 : Int64))] : List Value).getD j.toNatClampNeg (.long (0 : Int64)) = .long (own_edge j) := by
  show (own_edges.map Value.long).getD j.toNatClampNeg (Value.long 0) = _
  unfold own_edge
  simp only [List.getD_eq_getElem?_getD, List.getElem?_map]
  cases own_edges[j.toNatClampNeg]? <;> rfl
theorem own_in (x : Int32) : ¬ (x &&& (15 : Int32)) < 0 ∧ (x &&& (15 : Int32)) < 16 := by
  have hm := c_mask x 15 4 (by decide) (by decide)
  rw [Int32.lt_iff_toInt_lt, Int32.lt_iff_toInt_lt, show (0 : Int32).toInt = 0 from rfl, show (16 : Int32).toInt = 16 from rfl]
  omega
theorem own_pd0 : parseMethodDescriptor "(J)Z" = some ⟨[.long], some .boolean⟩ := by decide +kernel
/-! body 0 -/
def R0 (t : Int32) : Option Value := some (.int t)
def K0 (Z : State)  (h0 : Heap) (n0 : Nat) (t : Int32) (h : Heap) (L : List Loc) : Prop := Fr n0 L
def f0_179 (q0 : Int64) (p1 : Int32) (p2 : Int32) (y0 : Int32) (y1 : Int32) : Int32 := (if y1 = y0 then (1 : Int32) else (0 : Int32))
set_option maxRecDepth 65536 in
set_option maxHeartbeats 40000000 in
theorem g0_179 {p : Program} {l : Launch} {e : Env} {s : State} {m : MethodId} {below : List Frame} {meth : Method} {c : Code} {s₁ : State} {ws : List Jvm.Cond} {Z : State} {aw : Array Value} (hw : ∀ d ∈ tables_1, d.before aw Z = true) {h0 : Heap} {n0 : Nat} (q0 : Int64) (p1 : Int32) (p2 : Int32)  (x4 : Addr) (x5 : Int32) (x6 : Int64) (y0 : Int32) (y1 : Int32)
    (Bd : BodyLoose p l x (head1 (Jvm.Cond.code x code maxLocals ret :: ws) room_1) code maxLocals ret e s m #[(.long q0), (.int p1), (.int p2)] below meth c s₁) (hml : c.maxLocals = 8) (hZ : Z.Warmed39 s.vm) (T0 : State) {locs : List Loc} (X0 : Stand p l e room_1 s m #[(.long q0), (.int p1), (.int p2)] below meth c T0 locs 1 16) {h : Heap} (e0 : T0.heap = h) (SZ0 : n0 ≤ h.size) (NF0 : Fr n0 locs) :
    own_Go p e below s room_1.cells room_1.slots (R0 (f0_179 q0 p1 p2 y0 y1)) (K0 Z  h0 n0 (f0_179 q0 p1 p2 y0 y1)) (T0.setTop (mkF m 179 #[.val (.long q0), .second, .val (.int p1), .val (.int p2), .val (.ref x4), .val (.int x5), .val (.long x6), .second] [(.int y0), (.int y1)])) := by
  have hx := Bd.exec
  have hby := Bd.bytes
  have hown : s.vm.findClass "com/example/tersemark/tersemark/codec/XmlGrammarIsCharacterPinLaw" = some m.cls := findClass_of_methodNamed Bd.named
  have hnm := (name_of_methodNamed Bd.named Bd.method).1
  unfold f0_179
  refine own_iteT R0 (K0 Z  h0 n0) (fun hc179 => ?_) (fun hc179 => ?_)
  · skip
    refine own_pre (F' := T0.setTop (mkF m 182 #[.val (.long q0), .second, .val (.int p1), .val (.int p2), .val (.ref x4), .val (.int x5), .val (.long x6), .second] [])) (fun _ k => XS.icmpNo X0.here hx rfl (hb hby at_179) rfl (teq hc179).2 k) ?_
    refine own_pre (F' := T0.setTop (mkF m 183 #[.val (.long q0), .second, .val (.int p1), .val (.int p2), .val (.ref x4), .val (.int x5), .val (.long x6), .second] [(.int (1 : Int32))])) (fun _ k => XS.iconst X0.here hx rfl (hb hby at_182) k) ?_
    refine own_pre (F' := T0.setTop (mkF m 187 #[.val (.long q0), .second, .val (.int p1), .val (.int p2), .val (.ref x4), .val (.int x5), .val (.long x6), .second] [(.int (1 : Int32))])) (fun _ k => XS.goto X0.here hx rfl (pc0 := 183) (pc' := 187) rfl (hb hby at_183) (by decide) (by decide) k) ?_
    exact own_ret X0 hx Bd.notSynchronized Bd.returns rfl (Or.inl ⟨rfl, by simp, _, rfl⟩) (hb hby at_187) (by rw [e0]; exact NF0) (by decide) (by decide)
  · skip
    refine own_pre (F' := T0.setTop (mkF m 186 #[.val (.long q0), .second, .val (.int p1), .val (.int p2), .val (.ref x4), .val (.int x5), .val (.long x6), .second] [])) (fun _ k => XS.icmpYes X0.here hx rfl (pc0 := 179) (pc' := 186) rfl (hb hby at_179) rfl (feq hc179).2 (by decide) (by decide) k) ?_
    refine own_pre (F' := T0.setTop (mkF m 187 #[.val (.long q0), .second, .val (.int p1), .val (.int p2), .val (.ref x4), .val (.int x5), .val (.long x6), .second] [(.int (0 : Int32))])) (fun _ k => XS.iconst X0.here hx rfl (hb hby at_186) k) ?_
    exact own_ret X0 hx Bd.notSynchronized Bd.returns rfl (Or.inl ⟨rfl, by simp, _, rfl⟩) (hb hby at_187) (by rw [e0]; exact NF0) (by decide) (by decide)
def f0_161 (q0 : Int64) (p1 : Int32) (p2 : Int32) (x6 : Int64) : Int32 := (if (f2_0 x6) = (0 : Int32) then (f0_179 q0 p1 p2 (1 : Int32) (f1_0 x6)) else (f0_179 q0 p1 p2 (0 : Int32) (f1_0 x6)))
set_option maxRecDepth 65536 in
set_option maxHeartbeats 40000000 in
theorem g0_161 {p : Program} {l : Launch} {e : Env} {s : State} {m : MethodId} {below : List Frame} {meth : Method} {c : Code} {s₁ : State} {ws : List Jvm.Cond} {Z : State} {aw : Array Value} (hw : ∀ d ∈ tables_1, d.before aw Z = true) {h0 : Heap} {n0 : Nat} (q0 : Int64) (p1 : Int32) (p2 : Int32)  (x4 : Addr) (x5 : Int32) (x6 : Int64)
    (Bd : BodyLoose p l x (head1 (Jvm.Cond.code x code maxLocals ret :: ws) room_1) code maxLocals ret e s m #[(.long q0), (.int p1), (.int p2)] below meth c s₁) (hml : c.maxLocals = 8) (hZ : Z.Warmed39 s.vm) (T0 : State) {locs : List Loc} (X0 : Stand p l e room_1 s m #[(.long q0), (.int p1), (.int p2)] below meth c T0 locs 1 16) {h : Heap} (e0 : T0.heap = h) (SZ0 : n0 ≤ h.size) (NF0 : Fr n0 locs) :
    own_Go p e below s room_1.cells room_1.slots (R0 (f0_161 q0 p1 p2 x6)) (K0 Z  h0 n0 (f0_161 q0 p1 p2 x6)) (T0.setTop (mkF m 161 #[.val (.long q0), .second, .val (.int p1), .val (.int p2), .val (.ref x4), .val (.int x5), .val (.long x6), .second] [])) := by
  have hx := Bd.exec
  have hby := Bd.bytes
  have hown : s.vm.findClass "com/example/tersemark/tersemark/codec/XmlGrammarIsCharacterPinLaw" = some m.cls := findClass_of_methodNamed Bd.named
  have hnm := (name_of_methodNamed Bd.named Bd.method).1
  unfold f0_161
  refine own_pre (F' := T0.setTop (mkF m 163 #[.val (.long q0), .second, .val (.int p1), .val (.int p2), .val (.ref x4), .val (.int x5), .val (.long x6), .second] [(.long x6)])) (fun _ k => XS.lload X0.here hx rfl (hb hby at_161) rfl k) ?_
  obtain ⟨_, _, ⟨T1, L1, k1, n1⟩, -, X1', ⟨Lc1, hQ1, l1, y1, z1⟩, st'⟩ := Jvm.LawKit.callS X0 hx (y := (⟨"com/example/tersemark/tersemark/codec/XmlGrammar", "isCharacter", "(J)Z"⟩ : MethodName)) hown (mvT hZ (hw _ (List.mem_of_getElem? (i := 16) rfl))) (mvT hZ (hw _ (List.mem_of_getElem? (i := 17) rfl))) (mvT hZ (hw _ (List.mem_of_getElem? (i := 18) rfl))) (mvT hZ (hw _ (List.mem_of_getElem? (i := 19) rfl))) (by decide) (backOf (W := 0) (rm1 l Z aw hw [] x6 h) hZ (hw _ (List.mem_of_getElem? (i := 19) rfl)) (hw _ (List.mem_of_getElem? (i := 18) rfl)) (by decide) (by decide)) (g := (mkF m 163 #[.val (.long q0), .second, .val (.int p1), .val (.int p2), .val (.ref x4), .val (.int x5), .val (.long x6), .second] [(.long x6)])) rfl (by rw [hml]; rfl) (argsL := [(.long x6)]) (rest := []) (lenOf own_pd0 rfl) rfl (by show 2 * 0 + _ ≤ _; exact Nat.le_of_eq rfl) (hb hby at_163) (fun _ _ => ⟨rfl, e0, (by decide : 1 + 0 ≤ _), (by decide : 16 + 0 ≤ _)⟩)
  dsimp only [Pt.U, Pt.locs, Pt.cells, Pt.slots] at X1' l1 y1 z1 st' hQ1
  subst l1 y1 z1
  obtain ⟨rfl, rfl, e1⟩ := hQ1
  have X1 : Stand p l e room_1 s m #[(.long q0), (.int p1), (.int p2)] below meth c T1 _ 1 16 := (List.append_nil _) ▸ X1'
  refine own_pre (F' := T1.setTop (mkF m 166 #[.val (.long q0), .second, .val (.int p1), .val (.int p2), .val (.ref x4), .val (.int x5), .val (.long x6), .second] [(.int (f1_0 x6))])) (fun t k => st' t k) ?_
  refine own_pre (F' := T1.setTop (mkF m 168 #[.val (.long q0), .second, .val (.int p1), .val (.int p2), .val (.ref x4), .val (.int x5), .val (.long x6), .second] [(.long x6), (.int (f1_0 x6))])) (fun _ k => XS.lload X1.here hx rfl (hb hby at_166) rfl k) ?_
  obtain ⟨_, _, ⟨T2, L2, k2, n2⟩, -, X2', ⟨Lc2, hQ2, l2, y2, z2⟩, st'⟩ := Jvm.LawKit.callS X1 hx (y := (⟨"com/example/tersemark/tersemark/codec/XmlGrammarIsCharacterPinLaw", "excluded", "(J)Z"⟩ : MethodName)) hown (mvT hZ (hw _ (List.mem_of_getElem? (i := 26) rfl))) (mvT hZ (hw _ (List.mem_of_getElem? (i := 27) rfl))) (mvT hZ (hw _ (List.mem_of_getElem? (i := 28) rfl))) (mvT hZ (hw _ (List.mem_of_getElem? (i := 29) rfl))) (by decide) (backOf (W := 1) (rm2 l Z aw hw [] x6 h) hZ (hw _ (List.mem_of_getElem? (i := 29) rfl)) (hw _ (List.mem_of_getElem? (i := 28) rfl)) (by decide) (by decide)) (g := (mkF m 168 #[.val (.long q0), .second, .val (.int p1), .val (.int p2), .val (.ref x4), .val (.int x5), .val (.long x6), .second] [(.long x6), (.int (f1_0 x6))])) rfl (by rw [hml]; rfl) (argsL := [(.long x6)]) (rest := [(.int (f1_0 x6))]) (lenOf own_pd0 rfl) rfl (by show 2 * 0 + _ ≤ _; exact Nat.le_of_eq rfl) (hb hby at_168) (fun _ _ => ⟨rfl, e1, (by decide : 1 + 0 ≤ _), (by decide : 16 + 0 ≤ _)⟩)
  dsimp only [Pt.U, Pt.locs, Pt.cells, Pt.slots] at X2' l2 y2 z2 st' hQ2
  subst l2 y2 z2
  obtain ⟨rfl, rfl, e2⟩ := hQ2
  have X2 : Stand p l e room_1 s m #[(.long q0), (.int p1), (.int p2)] below meth c T2 _ 1 16 := (List.append_nil _) ▸ X2'
  refine own_pre (F' := T2.setTop (mkF m 171 #[.val (.long q0), .second, .val (.int p1), .val (.int p2), .val (.ref x4), .val (.int x5), .val (.long x6), .second] [(.int (f2_0 x6)), (.int (f1_0 x6))])) (fun t k => st' t k) ?_
  refine own_iteT R0 (K0 Z  h0 n0) (fun hc171 => ?_) (fun hc171 => ?_)
  · skip
    refine own_pre (F' := T2.setTop (mkF m 174 #[.val (.long q0), .second, .val (.int p1), .val (.int p2), .val (.ref x4), .val (.int x5), .val (.long x6), .second] [(.int (f1_0 x6))])) (fun _ k => XS.ifNo X2.here hx rfl (hb hby at_171) rfl ((if0 _ _).trans (teq hc171).2) k) ?_
    refine own_pre (F' := T2.setTop (mkF m 175 #[.val (.long q0), .second, .val (.int p1), .val (.int p2), .val (.ref x4), .val (.int x5), .val (.long x6), .second] [(.int (1 : Int32)), (.int (f1_0 x6))])) (fun _ k => XS.iconst X2.here hx rfl (hb hby at_174) k) ?_
    refine own_pre (F' := T2.setTop (mkF m 179 #[.val (.long q0), .second, .val (.int p1), .val (.int p2), .val (.ref x4), .val (.int x5), .val (.long x6), .second] [(.int (1 : Int32)), (.int (f1_0 x6))])) (fun _ k => XS.goto X2.here hx rfl (pc0 := 175) (pc' := 179) rfl (hb hby at_175) (by decide) (by decide) k) ?_
    exact g0_179 hw q0 p1 p2  x4 x5 x6 (1 : Int32) (f1_0 x6) Bd hml hZ T2 X2 e2 SZ0 NF0
  · skip
    refine own_pre (F' := T2.setTop (mkF m 178 #[.val (.long q0), .second, .val (.int p1), .val (.int p2), .val (.ref x4), .val (.int x5), .val (.long x6), .second] [(.int (f1_0 x6))])) (fun _ k => XS.ifYes X2.here hx rfl (pc0 := 171) (pc' := 178) rfl (hb hby at_171) rfl ((if0 _ _).trans (feq hc171).2) (by decide) (by decide) k) ?_
    refine own_pre (F' := T2.setTop (mkF m 179 #[.val (.long q0), .second, .val (.int p1), .val (.int p2), .val (.ref x4), .val (.int x5), .val (.long x6), .second] [(.int (0 : Int32)), (.int (f1_0 x6))])) (fun _ k => XS.iconst X2.here hx rfl (hb hby at_178) k) ?_
    exact g0_179 hw q0 p1 p2  x4 x5 x6 (0 : Int32) (f1_0 x6) Bd hml hZ T2 X2 e2 SZ0 NF0
def f0_0 (q0 : Int64) (p1 : Int32) (p2 : Int32) : Int32 := (if (p1 &&& (3 : Int32)) = (0 : Int32) then (f0_161 q0 p1 p2 q0) else (if (p1 &&& (3 : Int32)) = (1 : Int32) then (f0_161 q0 p1 p2 (q0 &&& (2097151 : Int64))) else (f0_161 q0 p1 p2 ((own_edge (((p1.toUInt32 >>> ((2 : Int32) &&& 31).toUInt32).toInt32) &&& (15 : Int32))) + (((p2 &&& (7 : Int32)) - (3 : Int32)).toInt64)))))
set_option maxRecDepth 65536 in
set_option maxHeartbeats 40000000 in
theorem g0_0 {p : Program} {l : Launch} {e : Env} {s : State} {m : MethodId} {below : List Frame} {meth : Method} {c : Code} {s₁ : State} {ws : List Jvm.Cond} {Z : State} {aw : Array Value} (hw : ∀ d ∈ tables_1, d.before aw Z = true) {h0 : Heap} {n0 : Nat} (q0 : Int64) (p1 : Int32) (p2 : Int32) 
    (Bd : BodyLoose p l x (head1 (Jvm.Cond.code x code maxLocals ret :: ws) room_1) code maxLocals ret e s m #[(.long q0), (.int p1), (.int p2)] below meth c s₁) (hml : c.maxLocals = 8) (hZ : Z.Warmed39 s.vm) (T0 : State) {locs : List Loc} (X0 : Stand p l e room_1 s m #[(.long q0), (.int p1), (.int p2)] below meth c T0 locs 0 0) (e0 : T0.heap = h0) (SZ0 : n0 ≤ h0.size) (NF0 : Fr n0 locs) :
    own_Go p e below s room_1.cells room_1.slots (R0 (f0_0 q0 p1 p2)) (K0 Z  h0 n0 (f0_0 q0 p1 p2)) (T0.setTop (mkF m 0 #[.val (.long q0), .second, .val (.int p1), .val (.int p2), .unset, .unset, .unset, .unset] [])) := by
  have hx := Bd.exec
  have hby := Bd.bytes
  have hown : s.vm.findClass "com/example/tersemark/tersemark/codec/XmlGrammarIsCharacterPinLaw" = some m.cls := findClass_of_methodNamed Bd.named
  have hnm := (name_of_methodNamed Bd.named Bd.method).1
  unfold f0_0
  refine own_pre (F' := T0.setTop (mkF m 2 #[.val (.long q0), .second, .val (.int p1), .val (.int p2), .unset, .unset, .unset, .unset] [(.int (16 : Int32))])) (fun _ k => XS.bipush X0.here hx rfl (hb hby at_0) k) ?_
  obtain ⟨T1, h1, k1, X1, e1, E1, A1, st'⟩ := newP X0 hx hZ (hw _ (List.mem_of_getElem? (i := 0) rfl)) e0 (g := (mkF m 2 #[.val (.long q0), .second, .val (.int p1), .val (.int p2), .unset, .unset, .unset, .unset] [(.int (16 : Int32))])) rfl (hb hby at_2) rfl (by decide) (cap := 16) (by decide) (by decide) (by decide) (by decide)
  obtain ⟨b1, g1⟩ : ∃ z, z = h0.size := ⟨_, rfl⟩
  rw [← g1] at A1 st'
  have g_b1 : n0 ≤ b1 := Nat.le_trans SZ0 (Nat.le_of_eq g1.symm)
  have SZ1 : n0 ≤ h1.size := Nat.le_trans SZ0 E1.1
  have f2 : Arv Z h1 b1 k1 .long (16 : Int32) [(.long (0 : Int64)), (.long (0 : Int64)), (.long (0 : Int64)), (.long (0 : Int64)), (.long (0 : Int64)), (.long (0 : Int64)), (.long (0 : Int64)), (.long (0 : Int64)), (.long (0 : Int64)), (.long (0 : Int64)), (.long (0 : Int64)), (.long (0 : Int64)), (.long (0 : Int64)), (.long (0 : Int64)), (.long (0 : Int64)), (.long (0 : Int64))] (.long (0 : Int64)) := (Arv.new A1 (by decide)).pad (pad_rep [] (.long (0 : Int64)) 16)
  refine own_pre (F' := T1.setTop (mkF m 4 #[.val (.long q0), .second, .val (.int p1), .val (.int p2), .unset, .unset, .unset, .unset] [(.ref b1)])) (fun t k => st' t k) ?_
  refine own_pre (F' := T1.setTop (mkF m 5 #[.val (.long q0), .second, .val (.int p1), .val (.int p2), .unset, .unset, .unset, .unset] [(.ref b1), (.ref b1)])) (fun _ k => XS.dup X1.here hx rfl (hb hby at_4) rfl rfl k) ?_
  refine own_pre (F' := T1.setTop (mkF m 6 #[.val (.long q0), .second, .val (.int p1), .val (.int p2), .unset, .unset, .unset, .unset] [(.int (0 : Int32)), (.ref b1), (.ref b1)])) (fun _ k => XS.iconst X1.here hx rfl (hb hby at_5) k) ?_
  refine own_pre (F' := T1.setTop (mkF m 9 #[.val (.long q0), .second, .val (.int p1), .val (.int p2), .unset, .unset, .unset, .unset] [(.long (9 : Int64)), (.int (0 : Int32)), (.ref b1), (.ref b1)])) (fun _ k => X1.ldc2Long hx hown (mvT hZ (hw _ (List.mem_of_getElem? (i := 1) rfl))) (g := (mkF m 6 #[.val (.long q0), .second, .val (.int p1), .val (.int p2), .unset, .unset, .unset, .unset] [(.int (0 : Int32)), (.ref b1), (.ref b1)])) rfl (hb hby at_6) _ k) ?_
  obtain ⟨cl3, Ar3, q3, S3, N3, H3, G3⟩ := f2
  have hin3 : ¬ ((0 : Int32) < 0 ∨ cl3.slots.size ≤ ((0 : Int32)).toNatClampNeg) := inb_of S3 ⟨by decide, by decide⟩
  obtain ⟨T3, h3, X3, e3, W3, st'⟩ := stJ X1 hx hZ e1 Ar3 (j := (0 : Int32)) hin3 (g := (mkF m 9 #[.val (.long q0), .second, .val (.int p1), .val (.int p2), .unset, .unset, .unset, .unset] [(.long (9 : Int64)), (.int (0 : Int32)), (.ref b1), (.ref b1)])) rfl rfl (hb hby at_9)
  have f4 : Arv Z h3 b1 k1 .long (16 : Int32) [(.long (9 : Int64)), (.long (0 : Int64)), (.long (0 : Int64)), (.long (0 : Int64)), (.long (0 : Int64)), (.long (0 : Int64)), (.long (0 : Int64)), (.long (0 : Int64)), (.long (0 : Int64)), (.long (0 : Int64)), (.long (0 : Int64)), (.long (0 : Int64)), (.long (0 : Int64)), (.long (0 : Int64)), (.long (0 : Int64)), (.long (0 : Int64))] (.long (0 : Int64)) := Arv.set Ar3 q3 S3 N3 H3 G3 rfl W3 0 rfl (Nat.le_of_ble_eq_true rfl)
  have NF3 := Fr.snoc X3 NF0 g_b1
  have SZ3 : n0 ≤ h3.size := (Nat.le_trans SZ1 (Keep.of_wr W3).1)
  refine own_pre (F' := T3.setTop (mkF m 10 #[.val (.long q0), .second, .val (.int p1), .val (.int p2), .unset, .unset, .unset, .unset] [(.ref b1)])) (fun t k => st' t k) ?_
  refine own_pre (F' := T3.setTop (mkF m 11 #[.val (.long q0), .second, .val (.int p1), .val (.int p2), .unset, .unset, .unset, .unset] [(.ref b1), (.ref b1)])) (fun _ k => XS.dup X3.here hx rfl (hb hby at_10) rfl rfl k) ?_
  refine own_pre (F' := T3.setTop (mkF m 12 #[.val (.long q0), .second, .val (.int p1), .val (.int p2), .unset, .unset, .unset, .unset] [(.int (1 : Int32)), (.ref b1), (.ref b1)])) (fun _ k => XS.iconst X3.here hx rfl (hb hby at_11) k) ?_
  refine own_pre (F' := T3.setTop (mkF m 15 #[.val (.long q0), .second, .val (.int p1), .val (.int p2), .unset, .unset, .unset, .unset] [(.long (10 : Int64)), (.int (1 : Int32)), (.ref b1), (.ref b1)])) (fun _ k => X3.ldc2Long hx hown (mvT hZ (hw _ (List.mem_of_getElem? (i := 2) rfl))) (g := (mkF m 12 #[.val (.long q0), .second, .val (.int p1), .val (.int p2), .unset, .unset, .unset, .unset] [(.int (1 : Int32)), (.ref b1), (.ref b1)])) rfl (hb hby at_12) _ k) ?_
  obtain ⟨cl5, Ar5, q5, S5, N5, H5, G5⟩ := f4
  have hin5 : ¬ ((1 : Int32) < 0 ∨ cl5.slots.size ≤ ((1 : Int32)).toNatClampNeg) := inb_of S5 ⟨by decide, by decide⟩
  obtain ⟨T5, h5, X5, e5, W5, st'⟩ := stJ X3 hx hZ e3 Ar5 (j := (1 : Int32)) hin5 (g := (mkF m 15 #[.val (.long q0), .second, .val (.int p1), .val (.int p2), .unset, .unset, .unset, .unset] [(.long (10 : Int64)), (.int (1 : Int32)), (.ref b1), (.ref b1)])) rfl rfl (hb hby at_15)
  have f6 : Arv Z h5 b1 k1 .long (16 : Int32) [(.long (9 : Int64)), (.long (10 : Int64)), (.long (0 : Int64)), (.long (0 : Int64)), (.long (0 : Int64)), (.long (0 : Int64)), (.long (0 : Int64)), (.long (0 : Int64)), (.long (0 : Int64)), (.long (0 : Int64)), (.long (0 : Int64)), (.long (0 : Int64)), (.long (0 : Int64)), (.long (0 : Int64)), (.long (0 : Int64)), (.long (0 : Int64))] (.long (0 : Int64)) := Arv.set Ar5 q5 S5 N5 H5 G5 rfl W5 1 rfl (Nat.le_of_ble_eq_true rfl)
  have NF5 := Fr.snoc X5 NF3 g_b1
  have SZ5 : n0 ≤ h5.size := (Nat.le_trans SZ3 (Keep.of_wr W5).1)
  refine own_pre (F' := T5.setTop (mkF m 16 #[.val (.long q0), .second, .val (.int p1), .val (.int p2), .unset, .unset, .unset, .unset] [(.ref b1)])) (fun t k => st' t k) ?_
  refine own_pre (F' := T5.setTop (mkF m 17 #[.val (.long q0), .second, .val (.int p1), .val (.int p2), .unset, .unset, .unset, .unset] [(.ref b1), (.ref b1)])) (fun _ k => XS.dup X5.here hx rfl (hb hby at_16) rfl rfl k) ?_
  refine own_pre (F' := T5.setTop (mkF m 18 #[.val (.long q0), .second, .val (.int p1), .val (.int p2), .unset, .unset, .unset, .unset] [(.int (2 : Int32)), (.ref b1), (.ref b1)])) (fun _ k => XS.iconst X5.here hx rfl (hb hby at_17) k) ?_
  refine own_pre (F' := T5.setTop (mkF m 21 #[.val (.long q0), .second, .val (.int p1), .val (.int p2), .unset, .unset, .unset, .unset] [(.long (13 : Int64)), (.int (2 : Int32)), (.ref b1), (.ref b1)])) (fun _ k => X5.ldc2Long hx hown (mvT hZ (hw _ (List.mem_of_getElem? (i := 3) rfl))) (g := (mkF m 18 #[.val (.long q0), .second, .val (.int p1), .val (.int p2), .unset, .unset, .unset, .unset] [(.int (2 : Int32)), (.ref b1), (.ref b1)])) rfl (hb hby at_18) _ k) ?_
  obtain ⟨cl7, Ar7, q7, S7, N7, H7, G7⟩ := f6
  have hin7 : ¬ ((2 : Int32) < 0 ∨ cl7.slots.size ≤ ((2 : Int32)).toNatClampNeg) := inb_of S7 ⟨by decide, by decide⟩
  obtain ⟨T7, h7, X7, e7, W7, st'⟩ := stJ X5 hx hZ e5 Ar7 (j := (2 : Int32)) hin7 (g := (mkF m 21 #[.val (.long q0), .second, .val (.int p1), .val (.int p2), .unset, .unset, .unset, .unset] [(.long (13 : Int64)), (.int (2 : Int32)), (.ref b1), (.ref b1)])) rfl rfl (hb hby at_21)
  have f8 : Arv Z h7 b1 k1 .long (16 : Int32) [(.long (9 : Int64)), (.long (10 : Int64)), (.long (13 : Int64)), (.long (0 : Int64)), (.long (0 : Int64)), (.long (0 : Int64)), (.long (0 : Int64)), (.long (0 : Int64)), (.long (0 : Int64)), (.long (0 : Int64)), (.long (0 : Int64)), (.long (0 : Int64)), (.long (0 : Int64)), (.long (0 : Int64)), (.long (0 : Int64)), (.long (0 : Int64))] (.long (0 : Int64)) := Arv.set Ar7 q7 S7 N7 H7 G7 rfl W7 2 rfl (Nat.le_of_ble_eq_true rfl)
  have NF7 := Fr.snoc X7 NF5 g_b1
  have SZ7 : n0 ≤ h7.size := (Nat.le_trans SZ5 (Keep.of_wr W7).1)
  refine own_pre (F' := T7.setTop (mkF m 22 #[.val (.long q0), .second, .val (.int p1), .val (.int p2), .unset, .unset, .unset, .unset] [(.ref b1)])) (fun t k => st' t k) ?_
  refine own_pre (F' := T7.setTop (mkF m 23 #[.val (.long q0), .second, .val (.int p1), .val (.int p2), .unset, .unset, .unset, .unset] [(.ref b1), (.ref b1)])) (fun _ k => XS.dup X7.here hx rfl (hb hby at_22) rfl rfl k) ?_
  refine own_pre (F' := T7.setTop (mkF m 24 #[.val (.long q0), .second, .val (.int p1), .val (.int p2), .unset, .unset, .unset, .unset] [(.int (3 : Int32)), (.ref b1), (.ref b1)])) (fun _ k => XS.iconst X7.here hx rfl (hb hby at_23) k) ?_
  refine own_pre (F' := T7.setTop (mkF m 27 #[.val (.long q0), .second, .val (.int p1), .val (.int p2), .unset, .unset, .unset, .unset] [(.long (32 : Int64)), (.int (3 : Int32)), (.ref b1), (.ref b1)])) (fun _ k => X7.ldc2Long hx hown (mvT hZ (hw _ (List.mem_of_getElem? (i := 4) rfl))) (g := (mkF m 24 #[.val (.long q0), .second, .val (.int p1), .val (.int p2), .unset, .unset, .unset, .unset] [(.int (3 : Int32)), (.ref b1), (.ref b1)])) rfl (hb hby at_24) _ k) ?_
  obtain ⟨cl9, Ar9, q9, S9, N9, H9, G9⟩ := f8
  have hin9 : ¬ ((3 : Int32) < 0 ∨ cl9.slots.size ≤ ((3 : Int32)).toNatClampNeg) := inb_of S9 ⟨by decide, by decide⟩
  obtain ⟨T9, h9, X9, e9, W9, st'⟩ := stJ X7 hx hZ e7 Ar9 (j := (3 : Int32)) hin9 (g := (mkF m 27 #[.val (.long q0), .second, .val (.int p1), .val (.int p2), .unset, .unset, .unset, .unset] [(.long (32 : Int64)), (.int (3 : Int32)), (.ref b1), (.ref b1)])) rfl rfl (hb hby at_27)
  have f10 : Arv Z h9 b1 k1 .long (16 : Int32) [(.long (9 : Int64)), (.long (10 : Int64)), (.long (13 : Int64)), (.long (32 : Int64)), (.long (0 : Int64)), (.long (0 : Int64)), (.long (0 : Int64)), (.long (0 : Int64)), (.long (0 : Int64)), (.long (0 : Int64)), (.long (0 : Int64)), (.long (0 : Int64)), (.long (0 : Int64)), (.long (0 : Int64)), (.long (0 : Int64)), (.long (0 : Int64))] (.long (0 : Int64)) := Arv.set Ar9 q9 S9 N9 H9 G9 rfl W9 3 rfl (Nat.le_of_ble_eq_true rfl)
  have NF9 := Fr.snoc X9 NF7 g_b1
  have SZ9 : n0 ≤ h9.size := (Nat.le_trans SZ7 (Keep.of_wr W9).1)
  refine own_pre (F' := T9.setTop (mkF m 28 #[.val (.long q0), .second, .val (.int p1), .val (.int p2), .unset, .unset, .unset, .unset] [(.ref b1)])) (fun t k => st' t k) ?_
  refine own_pre (F' := T9.setTop (mkF m 29 #[.val (.long q0), .second, .val (.int p1), .val (.int p2), .unset, .unset, .unset, .unset] [(.ref b1), (.ref b1)])) (fun _ k => XS.dup X9.here hx rfl (hb hby at_28) rfl rfl k) ?_
  refine own_pre (F' := T9.setTop (mkF m 30 #[.val (.long q0), .second, .val (.int p1), .val (.int p2), .unset, .unset, .unset, .unset] [(.int (4 : Int32)), (.ref b1), (.ref b1)])) (fun _ k => XS.iconst X9.here hx rfl (hb hby at_29) k) ?_
  refine own_pre (F' := T9.setTop (mkF m 33 #[.val (.long q0), .second, .val (.int p1), .val (.int p2), .unset, .unset, .unset, .unset] [(.long (55295 : Int64)), (.int (4 : Int32)), (.ref b1), (.ref b1)])) (fun _ k => X9.ldc2Long hx hown (mvT hZ (hw _ (List.mem_of_getElem? (i := 5) rfl))) (g := (mkF m 30 #[.val (.long q0), .second, .val (.int p1), .val (.int p2), .unset, .unset, .unset, .unset] [(.int (4 : Int32)), (.ref b1), (.ref b1)])) rfl (hb hby at_30) _ k) ?_
  obtain ⟨cl11, Ar11, q11, S11, N11, H11, G11⟩ := f10
  have hin11 : ¬ ((4 : Int32) < 0 ∨ cl11.slots.size ≤ ((4 : Int32)).toNatClampNeg) := inb_of S11 ⟨by decide, by decide⟩
  obtain ⟨T11, h11, X11, e11, W11, st'⟩ := stJ X9 hx hZ e9 Ar11 (j := (4 : Int32)) hin11 (g := (mkF m 33 #[.val (.long q0), .second, .val (.int p1), .val (.int p2), .unset, .unset, .unset, .unset] [(.long (55295 : Int64)), (.int (4 : Int32)), (.ref b1), (.ref b1)])) rfl rfl (hb hby at_33)
  have f12 : Arv Z h11 b1 k1 .long (16 : Int32) [(.long (9 : Int64)), (.long (10 : Int64)), (.long (13 : Int64)), (.long (32 : Int64)), (.long (55295 : Int64)), (.long (0 : Int64)), (.long (0 : Int64)), (.long (0 : Int64)), (.long (0 : Int64)), (.long (0 : Int64)), (.long (0 : Int64)), (.long (0 : Int64)), (.long (0 : Int64)), (.long (0 : Int64)), (.long (0 : Int64)), (.long (0 : Int64))] (.long (0 : Int64)) := Arv.set Ar11 q11 S11 N11 H11 G11 rfl W11 4 rfl (Nat.le_of_ble_eq_true rfl)
  have NF11 := Fr.snoc X11 NF9 g_b1
  have SZ11 : n0 ≤ h11.size := (Nat.le_trans SZ9 (Keep.of_wr W11).1)
  refine own_pre (F' := T11.setTop (mkF m 34 #[.val (.long q0), .second, .val (.int p1), .val (.int p2), .unset, .unset, .unset, .unset] [(.ref b1)])) (fun t k => st' t k) ?_
  refine own_pre (F' := T11.setTop (mkF m 35 #[.val (.long q0), .second, .val (.int p1), .val (.int p2), .unset, .unset, .unset, .unset] [(.ref b1), (.ref b1)])) (fun _ k => XS.dup X11.here hx rfl (hb hby at_34) rfl rfl k) ?_
  refine own_pre (F' := T11.setTop (mkF m 36 #[.val (.long q0), .second, .val (.int p1), .val (.int p2), .unset, .unset, .unset, .unset] [(.int (5 : Int32)), (.ref b1), (.ref b1)])) (fun _ k => XS.iconst X11.here hx rfl (hb hby at_35) k) ?_
  refine own_pre (F' := T11.setTop (mkF m 39 #[.val (.long q0), .second, .val (.int p1), .val (.int p2), .unset, .unset, .unset, .unset] [(.long (55296 : Int64)), (.int (5 : Int32)), (.ref b1), (.ref b1)])) (fun _ k => X11.ldc2Long hx hown (mvT hZ (hw _ (List.mem_of_getElem? (i := 6) rfl))) (g := (mkF m 36 #[.val (.long q0), .second, .val (.int p1), .val (.int p2), .unset, .unset, .unset, .unset] [(.int (5 : Int32)), (.ref b1), (.ref b1)])) rfl (hb hby at_36) _ k) ?_
  obtain ⟨cl13, Ar13, q13, S13, N13, H13, G13⟩ := f12
  have hin13 : ¬ ((5 : Int32) < 0 ∨ cl13.slots.size ≤ ((5 : Int32)).toNatClampNeg) := inb_of S13 ⟨by decide, by decide⟩
  obtain ⟨T13, h13, X13, e13, W13, st'⟩ := stJ X11 hx hZ e11 Ar13 (j := (5 : Int32)) hin13 (g := (mkF m 39 #[.val (.long q0), .second, .val (.int p1), .val (.int p2), .unset, .unset, .unset, .unset] [(.long (55296 : Int64)), (.int (5 : Int32)), (.ref b1), (.ref b1)])) rfl rfl (hb hby at_39)
  have f14 : Arv Z h13 b1 k1 .long (16 : Int32) [(.long (9 : Int64)), (.long (10 : Int64)), (.long (13 : Int64)), (.long (32 : Int64)), (.long (55295 : Int64)), (.long (55296 : Int64)), (.long (0 : Int64)), (.long (0 : Int64)), (.long (0 : Int64)), (.long (0 : Int64)), (.long (0 : Int64)), (.long (0 : Int64)), (.long (0 : Int64)), (.long (0 : Int64)), (.long (0 : Int64)), (.long (0 : Int64))] (.long (0 : Int64)) := Arv.set Ar13 q13 S13 N13 H13 G13 rfl W13 5 rfl (Nat.le_of_ble_eq_true rfl)
  have NF13 := Fr.snoc X13 NF11 g_b1
  have SZ13 : n0 ≤ h13.size := (Nat.le_trans SZ11 (Keep.of_wr W13).1)
  refine own_pre (F' := T13.setTop (mkF m 40 #[.val (.long q0), .second, .val (.int p1), .val (.int p2), .unset, .unset, .unset, .unset] [(.ref b1)])) (fun t k => st' t k) ?_
  refine own_pre (F' := T13.setTop (mkF m 41 #[.val (.long q0), .second, .val (.int p1), .val (.int p2), .unset, .unset, .unset, .unset] [(.ref b1), (.ref b1)])) (fun _ k => XS.dup X13.here hx rfl (hb hby at_40) rfl rfl k) ?_
  refine own_pre (F' := T13.setTop (mkF m 43 #[.val (.long q0), .second, .val (.int p1), .val (.int p2), .unset, .unset, .unset, .unset] [(.int (6 : Int32)), (.ref b1), (.ref b1)])) (fun _ k => XS.bipush X13.here hx rfl (hb hby at_41) k) ?_
  refine own_pre (F' := T13.setTop (mkF m 46 #[.val (.long q0), .second, .val (.int p1), .val (.int p2), .unset, .unset, .unset, .unset] [(.long (57343 : Int64)), (.int (6 : Int32)), (.ref b1), (.ref b1)])) (fun _ k => X13.ldc2Long hx hown (mvT hZ (hw _ (List.mem_of_getElem? (i := 7) rfl))) (g := (mkF m 43 #[.val (.long q0), .second, .val (.int p1), .val (.int p2), .unset, .unset, .unset, .unset] [(.int (6 : Int32)), (.ref b1), (.ref b1)])) rfl (hb hby at_43) _ k) ?_
  obtain ⟨cl15, Ar15, q15, S15, N15, H15, G15⟩ := f14
  have hin15 : ¬ ((6 : Int32) < 0 ∨ cl15.slots.size ≤ ((6 : Int32)).toNatClampNeg) := inb_of S15 ⟨by decide, by decide⟩
  obtain ⟨T15, h15, X15, e15, W15, st'⟩ := stJ X13 hx hZ e13 Ar15 (j := (6 : Int32)) hin15 (g := (mkF m 46 #[.val (.long q0), .second, .val (.int p1), .val (.int p2), .unset, .unset, .unset, .unset] [(.long (57343 : Int64)), (.int (6 : Int32)), (.ref b1), (.ref b1)])) rfl rfl (hb hby at_46)
  have f16 : Arv Z h15 b1 k1 .long (16 : Int32) [(.long (9 : Int64)), (.long (10 : Int64)), (.long (13 : Int64)), (.long (32 : Int64)), (.long (55295 : Int64)), (.long (55296 : Int64)), (.long (57343 : Int64)), (.long (0 : Int64)), (.long (0 : Int64)), (.long (0 : Int64)), (.long (0 : Int64)), (.long (0 : Int64)), (.long (0 : Int64)), (.long (0 : Int64)), (.long (0 : Int64)), (.long (0 : Int64))] (.long (0 : Int64)) := Arv.set Ar15 q15 S15 N15 H15 G15 rfl W15 6 rfl (Nat.le_of_ble_eq_true rfl)
  have NF15 := Fr.snoc X15 NF13 g_b1
  have SZ15 : n0 ≤ h15.size := (Nat.le_trans SZ13 (Keep.of_wr W15).1)
  refine own_pre (F' := T15.setTop (mkF m 47 #[.val (.long q0), .second, .val (.int p1), .val (.int p2), .unset, .unset, .unset, .unset] [(.ref b1)])) (fun t k => st' t k) ?_
  refine own_pre (F' := T15.setTop (mkF m 48 #[.val (.long q0), .second, .val (.int p1), .val (.int p2), .unset, .unset, .unset, .unset] [(.ref b1), (.ref b1)])) (fun _ k => XS.dup X15.here hx rfl (hb hby at_47) rfl rfl k) ?_
  refine own_pre (F' := T15.setTop (mkF m 50 #[.val (.long q0), .second, .val (.int p1), .val (.int p2), .unset, .unset, .unset, .unset] [(.int (7 : Int32)), (.ref b1), (.ref b1)])) (fun _ k => XS.bipush X15.here hx rfl (hb hby at_48) k) ?_
  refine own_pre (F' := T15.setTop (mkF m 53 #[.val (.long q0), .second, .val (.int p1), .val (.int p2), .unset, .unset, .unset, .unset] [(.long (57344 : Int64)), (.int (7 : Int32)), (.ref b1), (.ref b1)])) (fun _ k => X15.ldc2Long hx hown (mvT hZ (hw _ (List.mem_of_getElem? (i := 8) rfl))) (g := (mkF m 50 #[.val (.long q0), .second, .val (.int p1), .val (.int p2), .unset, .unset, .unset, .unset] [(.int (7 : Int32)), (.ref b1), (.ref b1)])) rfl (hb hby at_50) _ k) ?_
  obtain ⟨cl17, Ar17, q17, S17, N17, H17, G17⟩ := f16
  have hin17 : ¬ ((7 : Int32) < 0 ∨ cl17.slots.size ≤ ((7 : Int32)).toNatClampNeg) := inb_of S17 ⟨by decide, by decide⟩
  obtain ⟨T17, h17, X17, e17, W17, st'⟩ := stJ X15 hx hZ e15 Ar17 (j := (7 : Int32)) hin17 (g := (mkF m 53 #[.val (.long q0), .second, .val (.int p1), .val (.int p2), .unset, .unset, .unset, .unset] [(.long (57344 : Int64)), (.int (7 : Int32)), (.ref b1), (.ref b1)])) rfl rfl (hb hby at_53)
  have f18 : Arv Z h17 b1 k1 .long (16 : Int32) [(.long (9 : Int64)), (.long (10 : Int64)), (.long (13 : Int64)), (.long (32 : Int64)), (.long (55295 : Int64)), (.long (55296 : Int64)), (.long (57343 : Int64)), (.long (57344 : Int64)), (.long (0 : Int64)), (.long (0 : Int64)), (.long (0 : Int64)), (.long (0 : Int64)), (.long (0 : Int64)), (.long (0 : Int64)), (.long (0 : Int64)), (.long (0 : Int64))] (.long (0 : Int64)) := Arv.set Ar17 q17 S17 N17 H17 G17 rfl W17 7 rfl (Nat.le_of_ble_eq_true rfl)
  have NF17 := Fr.snoc X17 NF15 g_b1
  have SZ17 : n0 ≤ h17.size := (Nat.le_trans SZ15 (Keep.of_wr W17).1)
  refine own_pre (F' := T17.setTop (mkF m 54 #[.val (.long q0), .second, .val (.int p1), .val (.int p2), .unset, .unset, .unset, .unset] [(.ref b1)])) (fun t k => st' t k) ?_
  refine own_pre (F' := T17.setTop (mkF m 55 #[.val (.long q0), .second, .val (.int p1), .val (.int p2), .unset, .unset, .unset, .unset] [(.ref b1), (.ref b1)])) (fun _ k => XS.dup X17.here hx rfl (hb hby at_54) rfl rfl k) ?_
  refine own_pre (F' := T17.setTop (mkF m 57 #[.val (.long q0), .second, .val (.int p1), .val (.int p2), .unset, .unset, .unset, .unset] [(.int (8 : Int32)), (.ref b1), (.ref b1)])) (fun _ k => XS.bipush X17.here hx rfl (hb hby at_55) k) ?_
  refine own_pre (F' := T17.setTop (mkF m 60 #[.val (.long q0), .second, .val (.int p1), .val (.int p2), .unset, .unset, .unset, .unset] [(.long (65533 : Int64)), (.int (8 : Int32)), (.ref b1), (.ref b1)])) (fun _ k => X17.ldc2Long hx hown (mvT hZ (hw _ (List.mem_of_getElem? (i := 9) rfl))) (g := (mkF m 57 #[.val (.long q0), .second, .val (.int p1), .val (.int p2), .unset, .unset, .unset, .unset] [(.int (8 : Int32)), (.ref b1), (.ref b1)])) rfl (hb hby at_57) _ k) ?_
  obtain ⟨cl19, Ar19, q19, S19, N19, H19, G19⟩ := f18
  have hin19 : ¬ ((8 : Int32) < 0 ∨ cl19.slots.size ≤ ((8 : Int32)).toNatClampNeg) := inb_of S19 ⟨by decide, by decide⟩
  obtain ⟨T19, h19, X19, e19, W19, st'⟩ := stJ X17 hx hZ e17 Ar19 (j := (8 : Int32)) hin19 (g := (mkF m 60 #[.val (.long q0), .second, .val (.int p1), .val (.int p2), .unset, .unset, .unset, .unset] [(.long (65533 : Int64)), (.int (8 : Int32)), (.ref b1), (.ref b1)])) rfl rfl (hb hby at_60)
  have f20 : Arv Z h19 b1 k1 .long (16 : Int32) [(.long (9 : Int64)), (.long (10 : Int64)), (.long (13 : Int64)), (.long (32 : Int64)), (.long (55295 : Int64)), (.long (55296 : Int64)), (.long (57343 : Int64)), (.long (57344 : Int64)), (.long (65533 : Int64)), (.long (0 : Int64)), (.long (0 : Int64)), (.long (0 : Int64)), (.long (0 : Int64)), (.long (0 : Int64)), (.long (0 : Int64)), (.long (0 : Int64))] (.long (0 : Int64)) := Arv.set Ar19 q19 S19 N19 H19 G19 rfl W19 8 rfl (Nat.le_of_ble_eq_true rfl)
  have NF19 := Fr.snoc X19 NF17 g_b1
  have SZ19 : n0 ≤ h19.size := (Nat.le_trans SZ17 (Keep.of_wr W19).1)
  refine own_pre (F' := T19.setTop (mkF m 61 #[.val (.long q0), .second, .val (.int p1), .val (.int p2), .unset, .unset, .unset, .unset] [(.ref b1)])) (fun t k => st' t k) ?_
  refine own_pre (F' := T19.setTop (mkF m 62 #[.val (.long q0), .second, .val (.int p1), .val (.int p2), .unset, .unset, .unset, .unset] [(.ref b1), (.ref b1)])) (fun _ k => XS.dup X19.here hx rfl (hb hby at_61) rfl rfl k) ?_
  refine own_pre (F' := T19.setTop (mkF m 64 #[.val (.long q0), .second, .val (.int p1), .val (.int p2), .unset, .unset, .unset, .unset] [(.int (9 : Int32)), (.ref b1), (.ref b1)])) (fun _ k => XS.bipush X19.here hx rfl (hb hby at_62) k) ?_
  refine own_pre (F' := T19.setTop (mkF m 67 #[.val (.long q0), .second, .val (.int p1), .val (.int p2), .unset, .unset, .unset, .unset] [(.long (65535 : Int64)), (.int (9 : Int32)), (.ref b1), (.ref b1)])) (fun _ k => X19.ldc2Long hx hown (mvT hZ (hw _ (List.mem_of_getElem? (i := 10) rfl))) (g := (mkF m 64 #[.val (.long q0), .second, .val (.int p1), .val (.int p2), .unset, .unset, .unset, .unset] [(.int (9 : Int32)), (.ref b1), (.ref b1)])) rfl (hb hby at_64) _ k) ?_
  obtain ⟨cl21, Ar21, q21, S21, N21, H21, G21⟩ := f20
  have hin21 : ¬ ((9 : Int32) < 0 ∨ cl21.slots.size ≤ ((9 : Int32)).toNatClampNeg) := inb_of S21 ⟨by decide, by decide⟩
  obtain ⟨T21, h21, X21, e21, W21, st'⟩ := stJ X19 hx hZ e19 Ar21 (j := (9 : Int32)) hin21 (g := (mkF m 67 #[.val (.long q0), .second, .val (.int p1), .val (.int p2), .unset, .unset, .unset, .unset] [(.long (65535 : Int64)), (.int (9 : Int32)), (.ref b1), (.ref b1)])) rfl rfl (hb hby at_67)
  have f22 : Arv Z h21 b1 k1 .long (16 : Int32) [(.long (9 : Int64)), (.long (10 : Int64)), (.long (13 : Int64)), (.long (32 : Int64)), (.long (55295 : Int64)), (.long (55296 : Int64)), (.long (57343 : Int64)), (.long (57344 : Int64)), (.long (65533 : Int64)), (.long (65535 : Int64)), (.long (0 : Int64)), (.long (0 : Int64)), (.long (0 : Int64)), (.long (0 : Int64)), (.long (0 : Int64)), (.long (0 : Int64))] (.long (0 : Int64)) := Arv.set Ar21 q21 S21 N21 H21 G21 rfl W21 9 rfl (Nat.le_of_ble_eq_true rfl)
  have NF21 := Fr.snoc X21 NF19 g_b1
  have SZ21 : n0 ≤ h21.size := (Nat.le_trans SZ19 (Keep.of_wr W21).1)
  refine own_pre (F' := T21.setTop (mkF m 68 #[.val (.long q0), .second, .val (.int p1), .val (.int p2), .unset, .unset, .unset, .unset] [(.ref b1)])) (fun t k => st' t k) ?_
  refine own_pre (F' := T21.setTop (mkF m 69 #[.val (.long q0), .second, .val (.int p1), .val (.int p2), .unset, .unset, .unset, .unset] [(.ref b1), (.ref b1)])) (fun _ k => XS.dup X21.here hx rfl (hb hby at_68) rfl rfl k) ?_
  refine own_pre (F' := T21.setTop (mkF m 71 #[.val (.long q0), .second, .val (.int p1), .val (.int p2), .unset, .unset, .unset, .unset] [(.int (10 : Int32)), (.ref b1), (.ref b1)])) (fun _ k => XS.bipush X21.here hx rfl (hb hby at_69) k) ?_
  refine own_pre (F' := T21.setTop (mkF m 74 #[.val (.long q0), .second, .val (.int p1), .val (.int p2), .unset, .unset, .unset, .unset] [(.long (65536 : Int64)), (.int (10 : Int32)), (.ref b1), (.ref b1)])) (fun _ k => X21.ldc2Long hx hown (mvT hZ (hw _ (List.mem_of_getElem? (i := 11) rfl))) (g := (mkF m 71 #[.val (.long q0), .second, .val (.int p1), .val (.int p2), .unset, .unset, .unset, .unset] [(.int (10 : Int32)), (.ref b1), (.ref b1)])) rfl (hb hby at_71) _ k) ?_
  obtain ⟨cl23, Ar23, q23, S23, N23, H23, G23⟩ := f22
  have hin23 : ¬ ((10 : Int32) < 0 ∨ cl23.slots.size ≤ ((10 : Int32)).toNatClampNeg) := inb_of S23 ⟨by decide, by decide⟩
  obtain ⟨T23, h23, X23, e23, W23, st'⟩ := stJ X21 hx hZ e21 Ar23 (j := (10 : Int32)) hin23 (g := (mkF m 74 #[.val (.long q0), .second, .val (.int p1), .val (.int p2), .unset, .unset, .unset, .unset] [(.long (65536 : Int64)), (.int (10 : Int32)), (.ref b1), (.ref b1)])) rfl rfl (hb hby at_74)
  have f24 : Arv Z h23 b1 k1 .long (16 : Int32) [(.long (9 : Int64)), (.long (10 : Int64)), (.long (13 : Int64)), (.long (32 : Int64)), (.long (55295 : Int64)), (.long (55296 : Int64)), (.long (57343 : Int64)), (.long (57344 : Int64)), (.long (65533 : Int64)), (.long (65535 : Int64)), (.long (65536 : Int64)), (.long (0 : Int64)), (.long (0 : Int64)), (.long (0 : Int64)), (.long (0 : Int64)), (.long (0 : Int64))] (.long (0 : Int64)) := Arv.set Ar23 q23 S23 N23 H23 G23 rfl W23 10 rfl (Nat.le_of_ble_eq_true rfl)
  have NF23 := Fr.snoc X23 NF21 g_b1
  have SZ23 : n0 ≤ h23.size := (Nat.le_trans SZ21 (Keep.of_wr W23).1)
  refine own_pre (F' := T23.setTop (mkF m 75 #[.val (.long q0), .second, .val (.int p1), .val (.int p2), .unset, .unset, .unset, .unset] [(.ref b1)])) (fun t k => st' t k) ?_
  refine own_pre (F' := T23.setTop (mkF m 76 #[.val (.long q0), .second, .val (.int p1), .val (.int p2), .unset, .unset, .unset, .unset] [(.ref b1), (.ref b1)])) (fun _ k => XS.dup X23.here hx rfl (hb hby at_75) rfl rfl k) ?_
  refine own_pre (F' := T23.setTop (mkF m 78 #[.val (.long q0), .second, .val (.int p1), .val (.int p2), .unset, .unset, .unset, .unset] [(.int (11 : Int32)), (.ref b1), (.ref b1)])) (fun _ k => XS.bipush X23.here hx rfl (hb hby at_76) k) ?_
  refine own_pre (F' := T23.setTop (mkF m 81 #[.val (.long q0), .second, .val (.int p1), .val (.int p2), .unset, .unset, .unset, .unset] [(.long (1114111 : Int64)), (.int (11 : Int32)), (.ref b1), (.ref b1)])) (fun _ k => X23.ldc2Long hx hown (mvT hZ (hw _ (List.mem_of_getElem? (i := 12) rfl))) (g := (mkF m 78 #[.val (.long q0), .second, .val (.int p1), .val (.int p2), .unset, .unset, .unset, .unset] [(.int (11 : Int32)), (.ref b1), (.ref b1)])) rfl (hb hby at_78) _ k) ?_
  obtain ⟨cl25, Ar25, q25, S25, N25, H25, G25⟩ := f24
  have hin25 : ¬ ((11 : Int32) < 0 ∨ cl25.slots.size ≤ ((11 : Int32)).toNatClampNeg) := inb_of S25 ⟨by decide, by decide⟩
  obtain ⟨T25, h25, X25, e25, W25, st'⟩ := stJ X23 hx hZ e23 Ar25 (j := (11 : Int32)) hin25 (g := (mkF m 81 #[.val (.long q0), .second, .val (.int p1), .val (.int p2), .unset, .unset, .unset, .unset] [(.long (1114111 : Int64)), (.int (11 : Int32)), (.ref b1), (.ref b1)])) rfl rfl (hb hby at_81)
  have f26 : Arv Z h25 b1 k1 .long (16 : Int32) [(.long (9 : Int64)), (.long (10 : Int64)), (.long (13 : Int64)), (.long (32 : Int64)), (.long (55295 : Int64)), (.long (55296 : Int64)), (.long (57343 : Int64)), (.long (57344 : Int64)), (.long (65533 : Int64)), (.long (65535 : Int64)), (.long (65536 : Int64)), (.long (1114111 : Int64)), (.long (0 : Int64)), (.long (0 : Int64)), (.long (0 : Int64)), (.long (0 : Int64))] (.long (0 : Int64)) := Arv.set Ar25 q25 S25 N25 H25 G25 rfl W25 11 rfl (Nat.le_of_ble_eq_true rfl)
  have NF25 := Fr.snoc X25 NF23 g_b1
  have SZ25 : n0 ≤ h25.size := (Nat.le_trans SZ23 (Keep.of_wr W25).1)
  refine own_pre (F' := T25.setTop (mkF m 82 #[.val (.long q0), .second, .val (.int p1), .val (.int p2), .unset, .unset, .unset, .unset] [(.ref b1)])) (fun t k => st' t k) ?_
  refine own_pre (F' := T25.setTop (mkF m 83 #[.val (.long q0), .second, .val (.int p1), .val (.int p2), .unset, .unset, .unset, .unset] [(.ref b1), (.ref b1)])) (fun _ k => XS.dup X25.here hx rfl (hb hby at_82) rfl rfl k) ?_
  refine own_pre (F' := T25.setTop (mkF m 85 #[.val (.long q0), .second, .val (.int p1), .val (.int p2), .unset, .unset, .unset, .unset] [(.int (12 : Int32)), (.ref b1), (.ref b1)])) (fun _ k => XS.bipush X25.here hx rfl (hb hby at_83) k) ?_
  refine own_pre (F' := T25.setTop (mkF m 88 #[.val (.long q0), .second, .val (.int p1), .val (.int p2), .unset, .unset, .unset, .unset] [(.long (1114112 : Int64)), (.int (12 : Int32)), (.ref b1), (.ref b1)])) (fun _ k => X25.ldc2Long hx hown (mvT hZ (hw _ (List.mem_of_getElem? (i := 13) rfl))) (g := (mkF m 85 #[.val (.long q0), .second, .val (.int p1), .val (.int p2), .unset, .unset, .unset, .unset] [(.int (12 : Int32)), (.ref b1), (.ref b1)])) rfl (hb hby at_85) _ k) ?_
  obtain ⟨cl27, Ar27, q27, S27, N27, H27, G27⟩ := f26
  have hin27 : ¬ ((12 : Int32) < 0 ∨ cl27.slots.size ≤ ((12 : Int32)).toNatClampNeg) := inb_of S27 ⟨by decide, by decide⟩
  obtain ⟨T27, h27, X27, e27, W27, st'⟩ := stJ X25 hx hZ e25 Ar27 (j := (12 : Int32)) hin27 (g := (mkF m 88 #[.val (.long q0), .second, .val (.int p1), .val (.int p2), .unset, .unset, .unset, .unset] [(.long (1114112 : Int64)), (.int (12 : Int32)), (.ref b1), (.ref b1)])) rfl rfl (hb hby at_88)
  have f28 : Arv Z h27 b1 k1 .long (16 : Int32) [(.long (9 : Int64)), (.long (10 : Int64)), (.long (13 : Int64)), (.long (32 : Int64)), (.long (55295 : Int64)), (.long (55296 : Int64)), (.long (57343 : Int64)), (.long (57344 : Int64)), (.long (65533 : Int64)), (.long (65535 : Int64)), (.long (65536 : Int64)), (.long (1114111 : Int64)), (.long (1114112 : Int64)), (.long (0 : Int64)), (.long (0 : Int64)), (.long (0 : Int64))] (.long (0 : Int64)) := Arv.set Ar27 q27 S27 N27 H27 G27 rfl W27 12 rfl (Nat.le_of_ble_eq_true rfl)
  have NF27 := Fr.snoc X27 NF25 g_b1
  have SZ27 : n0 ≤ h27.size := (Nat.le_trans SZ25 (Keep.of_wr W27).1)
  refine own_pre (F' := T27.setTop (mkF m 89 #[.val (.long q0), .second, .val (.int p1), .val (.int p2), .unset, .unset, .unset, .unset] [(.ref b1)])) (fun t k => st' t k) ?_
  refine own_pre (F' := T27.setTop (mkF m 90 #[.val (.long q0), .second, .val (.int p1), .val (.int p2), .unset, .unset, .unset, .unset] [(.ref b1), (.ref b1)])) (fun _ k => XS.dup X27.here hx rfl (hb hby at_89) rfl rfl k) ?_
  refine own_pre (F' := T27.setTop (mkF m 92 #[.val (.long q0), .second, .val (.int p1), .val (.int p2), .unset, .unset, .unset, .unset] [(.int (13 : Int32)), (.ref b1), (.ref b1)])) (fun _ k => XS.bipush X27.here hx rfl (hb hby at_90) k) ?_
  refine own_pre (F' := T27.setTop (mkF m 93 #[.val (.long q0), .second, .val (.int p1), .val (.int p2), .unset, .unset, .unset, .unset] [(.long (0 : Int64)), (.int (13 : Int32)), (.ref b1), (.ref b1)])) (fun _ k => XS.lconst X27.here hx rfl (hb hby at_92) k) ?_
  obtain ⟨cl29, Ar29, q29, S29, N29, H29, G29⟩ := f28
  have hin29 : ¬ ((13 : Int32) < 0 ∨ cl29.slots.size ≤ ((13 : Int32)).toNatClampNeg) := inb_of S29 ⟨by decide, by decide⟩
  obtain ⟨T29, h29, X29, e29, W29, st'⟩ := stJ X27 hx hZ e27 Ar29 (j := (13 : Int32)) hin29 (g := (mkF m 93 #[.val (.long q0), .second, .val (.int p1), .val (.int p2), .unset, .unset, .unset, .unset] [(.long (0 : Int64)), (.int (13 : Int32)), (.ref b1), (.ref b1)])) rfl rfl (hb hby at_93)
  have f30 : Arv Z h29 b1 k1 .long (16 : Int32) [(.long (9 : Int64)), (.long (10 : Int64)), (.long (13 : Int64)), (.long (32 : Int64)), (.long (55295 : Int64)), (.long (55296 : Int64)), (.long (57343 : Int64)), (.long (57344 : Int64)), (.long (65533 : Int64)), (.long (65535 : Int64)), (.long (65536 : Int64)), (.long (1114111 : Int64)), (.long (1114112 : Int64)), (.long (0 : Int64)), (.long (0 : Int64)), (.long (0 : Int64))] (.long (0 : Int64)) := Arv.set Ar29 q29 S29 N29 H29 G29 rfl W29 13 rfl (Nat.le_of_ble_eq_true rfl)
  have NF29 := Fr.snoc X29 NF27 g_b1
  have SZ29 : n0 ≤ h29.size := (Nat.le_trans SZ27 (Keep.of_wr W29).1)
  refine own_pre (F' := T29.setTop (mkF m 94 #[.val (.long q0), .second, .val (.int p1), .val (.int p2), .unset, .unset, .unset, .unset] [(.ref b1)])) (fun t k => st' t k) ?_
  refine own_pre (F' := T29.setTop (mkF m 95 #[.val (.long q0), .second, .val (.int p1), .val (.int p2), .unset, .unset, .unset, .unset] [(.ref b1), (.ref b1)])) (fun _ k => XS.dup X29.here hx rfl (hb hby at_94) rfl rfl k) ?_
  refine own_pre (F' := T29.setTop (mkF m 97 #[.val (.long q0), .second, .val (.int p1), .val (.int p2), .unset, .unset, .unset, .unset] [(.int (14 : Int32)), (.ref b1), (.ref b1)])) (fun _ k => XS.bipush X29.here hx rfl (hb hby at_95) k) ?_
  refine own_pre (F' := T29.setTop (mkF m 100 #[.val (.long q0), .second, .val (.int p1), .val (.int p2), .unset, .unset, .unset, .unset] [(.long (-9223372036854775808 : Int64)), (.int (14 : Int32)), (.ref b1), (.ref b1)])) (fun _ k => X29.ldc2Long hx hown (mvT hZ (hw _ (List.mem_of_getElem? (i := 14) rfl))) (g := (mkF m 97 #[.val (.long q0), .second, .val (.int p1), .val (.int p2), .unset, .unset, .unset, .unset] [(.int (14 : Int32)), (.ref b1), (.ref b1)])) rfl (hb hby at_97) _ k) ?_
  obtain ⟨cl31, Ar31, q31, S31, N31, H31, G31⟩ := f30
  have hin31 : ¬ ((14 : Int32) < 0 ∨ cl31.slots.size ≤ ((14 : Int32)).toNatClampNeg) := inb_of S31 ⟨by decide, by decide⟩
  obtain ⟨T31, h31, X31, e31, W31, st'⟩ := stJ X29 hx hZ e29 Ar31 (j := (14 : Int32)) hin31 (g := (mkF m 100 #[.val (.long q0), .second, .val (.int p1), .val (.int p2), .unset, .unset, .unset, .unset] [(.long (-9223372036854775808 : Int64)), (.int (14 : Int32)), (.ref b1), (.ref b1)])) rfl rfl (hb hby at_100)
  have f32 : Arv Z h31 b1 k1 .long (16 : Int32) [(.long (9 : Int64)), (.long (10 : Int64)), (.long (13 : Int64)), (.long (32 : Int64)), (.long (55295 : Int64)), (.long (55296 : Int64)), (.long (57343 : Int64)), (.long (57344 : Int64)), (.long (65533 : Int64)), (.long (65535 : Int64)), (.long (65536 : Int64)), (.long (1114111 : Int64)), (.long (1114112 : Int64)), (.long (0 : Int64)), (.long (-9223372036854775808 : Int64)), (.long (0 : Int64))] (.long (0 : Int64)) := Arv.set Ar31 q31 S31 N31 H31 G31 rfl W31 14 rfl (Nat.le_of_ble_eq_true rfl)
  have NF31 := Fr.snoc X31 NF29 g_b1
  have SZ31 : n0 ≤ h31.size := (Nat.le_trans SZ29 (Keep.of_wr W31).1)
  refine own_pre (F' := T31.setTop (mkF m 101 #[.val (.long q0), .second, .val (.int p1), .val (.int p2), .unset, .unset, .unset, .unset] [(.ref b1)])) (fun t k => st' t k) ?_
  refine own_pre (F' := T31.setTop (mkF m 102 #[.val (.long q0), .second, .val (.int p1), .val (.int p2), .unset, .unset, .unset, .unset] [(.ref b1), (.ref b1)])) (fun _ k => XS.dup X31.here hx rfl (hb hby at_101) rfl rfl k) ?_
  refine own_pre (F' := T31.setTop (mkF m 104 #[.val (.long q0), .second, .val (.int p1), .val (.int p2), .unset, .unset, .unset, .unset] [(.int (15 : Int32)), (.ref b1), (.ref b1)])) (fun _ k => XS.bipush X31.here hx rfl (hb hby at_102) k) ?_
  refine own_pre (F' := T31.setTop (mkF m 107 #[.val (.long q0), .second, .val (.int p1), .val (.int p2), .unset, .unset, .unset, .unset] [(.long (9223372036854775807 : Int64)), (.int (15 : Int32)), (.ref b1), (.ref b1)])) (fun _ k => X31.ldc2Long hx hown (mvT hZ (hw _ (List.mem_of_getElem? (i := 15) rfl))) (g := (mkF m 104 #[.val (.long q0), .second, .val (.int p1), .val (.int p2), .unset, .unset, .unset, .unset] [(.int (15 : Int32)), (.ref b1), (.ref b1)])) rfl (hb hby at_104) _ k) ?_
  obtain ⟨cl33, Ar33, q33, S33, N33, H33, G33⟩ := f32
  have hin33 : ¬ ((15 : Int32) < 0 ∨ cl33.slots.size ≤ ((15 : Int32)).toNatClampNeg) := inb_of S33 ⟨by decide, by decide⟩
  obtain ⟨T33, h33, X33, e33, W33, st'⟩ := stJ X31 hx hZ e31 Ar33 (j := (15 : Int32)) hin33 (g := (mkF m 107 #[.val (.long q0), .second, .val (.int p1), .val (.int p2), .unset, .unset, .unset, .unset] [(.long (9223372036854775807 : Int64)), (.int (15 : Int32)), (.ref b1), (.ref b1)])) rfl rfl (hb hby at_107)
  have f34 : Arv Z h33 b1 k1 .long (16 : Int32) [(.long (9 : Int64)), (.long (10 : Int64)), (.long (13 : Int64)), (.long (32 : Int64)), (.long (55295 : Int64)), (.long (55296 : Int64)), (.long (57343 : Int64)), (.long (57344 : Int64)), (.long (65533 : Int64)), (.long (65535 : Int64)), (.long (65536 : Int64)), (.long (1114111 : Int64)), (.long (1114112 : Int64)), (.long (0 : Int64)), (.long (-9223372036854775808 : Int64)), (.long (9223372036854775807 : Int64))] (.long (0 : Int64)) := Arv.set Ar33 q33 S33 N33 H33 G33 rfl W33 15 rfl (Nat.le_of_ble_eq_true rfl)
  have NF33 := Fr.snoc X33 NF31 g_b1
  have SZ33 : n0 ≤ h33.size := (Nat.le_trans SZ31 (Keep.of_wr W33).1)
  refine own_pre (F' := T33.setTop (mkF m 108 #[.val (.long q0), .second, .val (.int p1), .val (.int p2), .unset, .unset, .unset, .unset] [(.ref b1)])) (fun t k => st' t k) ?_
  refine own_pre (F' := T33.setTop (mkF m 110 #[.val (.long q0), .second, .val (.int p1), .val (.int p2), .val (.ref b1), .unset, .unset, .unset] [])) (fun _ k => XS.astore X33.here hx rfl (hb hby at_108) rfl rfl (l' := #[.val (.long q0), .second, .val (.int p1), .val (.int p2), .val (.ref b1), .unset, .unset, .unset]) rfl k) ?_
  refine own_pre (F' := T33.setTop (mkF m 111 #[.val (.long q0), .second, .val (.int p1), .val (.int p2), .val (.ref b1), .unset, .unset, .unset] [(.int p1)])) (fun _ k => XS.iloadN X33.here hx rfl (hb hby at_110) rfl k) ?_
  refine own_pre (F' := T33.setTop (mkF m 112 #[.val (.long q0), .second, .val (.int p1), .val (.int p2), .val (.ref b1), .unset, .unset, .unset] [(.int (3 : Int32)), (.int p1)])) (fun _ k => XS.iconst X33.here hx rfl (hb hby at_111) k) ?_
  refine own_pre (F' := T33.setTop (mkF m 113 #[.val (.long q0), .second, .val (.int p1), .val (.int p2), .val (.ref b1), .unset, .unset, .unset] [(.int (p1 &&& (3 : Int32)))])) (fun _ k => XS.iand X33.here hx rfl (hb hby at_112) rfl k) ?_
  refine own_pre (F' := T33.setTop (mkF m 115 #[.val (.long q0), .second, .val (.int p1), .val (.int p2), .val (.ref b1), .val (.int (p1 &&& (3 : Int32))), .unset, .unset] [])) (fun _ k => XS.istore X33.here hx rfl (hb hby at_113) rfl (l' := #[.val (.long q0), .second, .val (.int p1), .val (.int p2), .val (.ref b1), .val (.int (p1 &&& (3 : Int32))), .unset, .unset]) rfl k) ?_
  refine own_pre (F' := T33.setTop (mkF m 117 #[.val (.long q0), .second, .val (.int p1), .val (.int p2), .val (.ref b1), .val (.int (p1 &&& (3 : Int32))), .unset, .unset] [(.int (p1 &&& (3 : Int32)))])) (fun _ k => XS.iload X33.here hx rfl (hb hby at_115) rfl k) ?_
  refine own_iteT R0 (K0 Z  h0 n0) (fun hc117 => ?_) (fun hc117 => ?_)
  · skip
    refine own_pre (F' := T33.setTop (mkF m 120 #[.val (.long q0), .second, .val (.int p1), .val (.int p2), .val (.ref b1), .val (.int (p1 &&& (3 : Int32))), .unset, .unset] [])) (fun _ k => XS.ifNo X33.here hx rfl (hb hby at_117) rfl ((if0 _ _).trans (teq hc117).2) k) ?_
    refine own_pre (F' := T33.setTop (mkF m 121 #[.val (.long q0), .second, .val (.int p1), .val (.int p2), .val (.ref b1), .val (.int (p1 &&& (3 : Int32))), .unset, .unset] [(.long q0)])) (fun _ k => XS.lloadN X33.here hx rfl (hb hby at_120) rfl k) ?_
    refine own_pre (F' := T33.setTop (mkF m 123 #[.val (.long q0), .second, .val (.int p1), .val (.int p2), .val (.ref b1), .val (.int (p1 &&& (3 : Int32))), .val (.long q0), .second] [])) (fun _ k => XS.lstore X33.here hx rfl (hb hby at_121) rfl (l' := #[.val (.long q0), .second, .val (.int p1), .val (.int p2), .val (.ref b1), .val (.int (p1 &&& (3 : Int32))), .val (.long q0), .second]) rfl k) ?_
    refine own_pre (F' := T33.setTop (mkF m 161 #[.val (.long q0), .second, .val (.int p1), .val (.int p2), .val (.ref b1), .val (.int (p1 &&& (3 : Int32))), .val (.long q0), .second] [])) (fun _ k => XS.goto X33.here hx rfl (pc0 := 123) (pc' := 161) rfl (hb hby at_123) (by decide) (by decide) k) ?_
    exact g0_161 hw q0 p1 p2  b1 (p1 &&& (3 : Int32)) q0 Bd hml hZ T33 X33 e33 SZ33 NF33
  · skip
    refine own_pre (F' := T33.setTop (mkF m 126 #[.val (.long q0), .second, .val (.int p1), .val (.int p2), .val (.ref b1), .val (.int (p1 &&& (3 : Int32))), .unset, .unset] [])) (fun _ k => XS.ifYes X33.here hx rfl (pc0 := 117) (pc' := 126) rfl (hb hby at_117) rfl ((if0 _ _).trans (feq hc117).2) (by decide) (by decide) k) ?_
    refine own_pre (F' := T33.setTop (mkF m 128 #[.val (.long q0), .second, .val (.int p1), .val (.int p2), .val (.ref b1), .val (.int (p1 &&& (3 : Int32))), .unset, .unset] [(.int (p1 &&& (3 : Int32)))])) (fun _ k => XS.iload X33.here hx rfl (hb hby at_126) rfl k) ?_
    refine own_pre (F' := T33.setTop (mkF m 129 #[.val (.long q0), .second, .val (.int p1), .val (.int p2), .val (.ref b1), .val (.int (p1 &&& (3 : Int32))), .unset, .unset] [(.int (1 : Int32)), (.int (p1 &&& (3 : Int32)))])) (fun _ k => XS.iconst X33.here hx rfl (hb hby at_128) k) ?_
    refine own_iteT R0 (K0 Z  h0 n0) (fun hc129 => ?_) (fun hc129 => ?_)
    · skip
      refine own_pre (F' := T33.setTop (mkF m 132 #[.val (.long q0), .second, .val (.int p1), .val (.int p2), .val (.ref b1), .val (.int (p1 &&& (3 : Int32))), .unset, .unset] [])) (fun _ k => XS.icmpNo X33.here hx rfl (hb hby at_129) rfl (teq hc129).2 k) ?_
      refine own_pre (F' := T33.setTop (mkF m 133 #[.val (.long q0), .second, .val (.int p1), .val (.int p2), .val (.ref b1), .val (.int (p1 &&& (3 : Int32))), .unset, .unset] [(.long q0)])) (fun _ k => XS.lloadN X33.here hx rfl (hb hby at_132) rfl k) ?_
      refine own_pre (F' := T33.setTop (mkF m 136 #[.val (.long q0), .second, .val (.int p1), .val (.int p2), .val (.ref b1), .val (.int (p1 &&& (3 : Int32))), .unset, .unset] [(.long (2097151 : Int64)), (.long q0)])) (fun _ k => X33.ldc2Long hx hown (mvT hZ (hw _ (List.mem_of_getElem? (i := 34) rfl))) (g := (mkF m 133 #[.val (.long q0), .second, .val (.int p1), .val (.int p2), .val (.ref b1), .val (.int (p1 &&& (3 : Int32))), .unset, .unset] [(.long q0)])) rfl (hb hby at_133) _ k) ?_
      refine own_pre (F' := T33.setTop (mkF m 137 #[.val (.long q0), .second, .val (.int p1), .val (.int p2), .val (.ref b1), .val (.int (p1 &&& (3 : Int32))), .unset, .unset] [(.long (q0 &&& (2097151 : Int64)))])) (fun _ k => XS.land X33.here hx rfl (hb hby at_136) rfl k) ?_
      refine own_pre (F' := T33.setTop (mkF m 139 #[.val (.long q0), .second, .val (.int p1), .val (.int p2), .val (.ref b1), .val (.int (p1 &&& (3 : Int32))), .val (.long (q0 &&& (2097151 : Int64))), .second] [])) (fun _ k => XS.lstore X33.here hx rfl (hb hby at_137) rfl (l' := #[.val (.long q0), .second, .val (.int p1), .val (.int p2), .val (.ref b1), .val (.int (p1 &&& (3 : Int32))), .val (.long (q0 &&& (2097151 : Int64))), .second]) rfl k) ?_
      refine own_pre (F' := T33.setTop (mkF m 161 #[.val (.long q0), .second, .val (.int p1), .val (.int p2), .val (.ref b1), .val (.int (p1 &&& (3 : Int32))), .val (.long (q0 &&& (2097151 : Int64))), .second] [])) (fun _ k => XS.goto X33.here hx rfl (pc0 := 139) (pc' := 161) rfl (hb hby at_139) (by decide) (by decide) k) ?_
      exact g0_161 hw q0 p1 p2  b1 (p1 &&& (3 : Int32)) (q0 &&& (2097151 : Int64)) Bd hml hZ T33 X33 e33 SZ33 NF33
    · skip
      refine own_pre (F' := T33.setTop (mkF m 142 #[.val (.long q0), .second, .val (.int p1), .val (.int p2), .val (.ref b1), .val (.int (p1 &&& (3 : Int32))), .unset, .unset] [])) (fun _ k => XS.icmpYes X33.here hx rfl (pc0 := 129) (pc' := 142) rfl (hb hby at_129) rfl (feq hc129).2 (by decide) (by decide) k) ?_
      refine own_pre (F' := T33.setTop (mkF m 144 #[.val (.long q0), .second, .val (.int p1), .val (.int p2), .val (.ref b1), .val (.int (p1 &&& (3 : Int32))), .unset, .unset] [(.ref b1)])) (fun _ k => XS.aload X33.here hx rfl (hb hby at_142) rfl rfl k) ?_
      refine own_pre (F' := T33.setTop (mkF m 145 #[.val (.long q0), .second, .val (.int p1), .val (.int p2), .val (.ref b1), .val (.int (p1 &&& (3 : Int32))), .unset, .unset] [(.int p1), (.ref b1)])) (fun _ k => XS.iloadN X33.here hx rfl (hb hby at_144) rfl k) ?_
      refine own_pre (F' := T33.setTop (mkF m 146 #[.val (.long q0), .second, .val (.int p1), .val (.int p2), .val (.ref b1), .val (.int (p1 &&& (3 : Int32))), .unset, .unset] [(.int (2 : Int32)), (.int p1), (.ref b1)])) (fun _ k => XS.iconst X33.here hx rfl (hb hby at_145) k) ?_
      refine own_pre (F' := T33.setTop (mkF m 147 #[.val (.long q0), .second, .val (.int p1), .val (.int p2), .val (.ref b1), .val (.int (p1 &&& (3 : Int32))), .unset, .unset] [(.int ((p1.toUInt32 >>> ((2 : Int32) &&& 31).toUInt32).toInt32)), (.ref b1)])) (fun _ k => XS.iushr X33.here hx rfl (hb hby at_146) rfl k) ?_
      refine own_pre (F' := T33.setTop (mkF m 149 #[.val (.long q0), .second, .val (.int p1), .val (.int p2), .val (.ref b1), .val (.int (p1 &&& (3 : Int32))), .unset, .unset] [(.int (15 : Int32)), (.int ((p1.toUInt32 >>> ((2 : Int32) &&& 31).toUInt32).toInt32)), (.ref b1)])) (fun _ k => XS.bipush X33.here hx rfl (hb hby at_147) k) ?_
      refine own_pre (F' := T33.setTop (mkF m 150 #[.val (.long q0), .second, .val (.int p1), .val (.int p2), .val (.ref b1), .val (.int (p1 &&& (3 : Int32))), .unset, .unset] [(.int (((p1.toUInt32 >>> ((2 : Int32) &&& 31).toUInt32).toInt32) &&& (15 : Int32))), (.ref b1)])) (fun _ k => XS.iand X33.here hx rfl (hb hby at_149) rfl k) ?_
      obtain ⟨cl35, Ar35, q35, S35, N35, H35, G35⟩ := f34
      have hin35 : ¬ ((((p1.toUInt32 >>> ((2 : Int32) &&& 31).toUInt32).toInt32) &&& (15 : Int32)) < 0 ∨ cl35.slots.size ≤ ((((p1.toUInt32 >>> ((2 : Int32) &&& 31).toUInt32).toInt32) &&& (15 : Int32))).toNatClampNeg) := inb_of S35 (own_in _)
      refine own_pre (F' := T33.setTop (mkF m 151 #[.val (.long q0), .second, .val (.int p1), .val (.int p2), .val (.ref b1), .val (.int (p1 &&& (3 : Int32))), .unset, .unset] [(.long (own_edge (((p1.toUInt32 >>> ((2 : Int32) &&& 31).toUInt32).toInt32) &&& (15 : Int32))))])) (fun t k => X33.laload hx (j := (((p1.toUInt32 >>> ((2 : Int32) &&& 31).toUInt32).toInt32) &&& (15 : Int32))) (v := (.long (own_edge (((p1.toUInt32 >>> ((2 : Int32) &&& 31).toUInt32).toInt32) &&& (15 : Int32))))) (by rw [e33]; exact Ar35.1) (State.isArrayOf_alike hZ.alike Ar35.2.1) Ar35.2.2 hin35 (H35.at hin35 (own_at _)) (g := (mkF m 150 #[.val (.long q0), .second, .val (.int p1), .val (.int p2), .val (.ref b1), .val (.int (p1 &&& (3 : Int32))), .unset, .unset] [(.int (((p1.toUInt32 >>> ((2 : Int32) &&& 31).toUInt32).toInt32) &&& (15 : Int32))), (.ref b1)])) rfl rfl (hb hby at_150) t k) ?_
      refine own_pre (F' := T33.setTop (mkF m 152 #[.val (.long q0), .second, .val (.int p1), .val (.int p2), .val (.ref b1), .val (.int (p1 &&& (3 : Int32))), .unset, .unset] [(.int p2), (.long (own_edge (((p1.toUInt32 >>> ((2 : Int32) &&& 31).toUInt32).toInt32) &&& (15 : Int32))))])) (fun _ k => XS.iloadN X33.here hx rfl (hb hby at_151) rfl k) ?_
      refine own_pre (F' := T33.setTop (mkF m 154 #[.val (.long q0), .second, .val (.int p1), .val (.int p2), .val (.ref b1), .val (.int (p1 &&& (3 : Int32))), .unset, .unset] [(.int (7 : Int32)), (.int p2), (.long (own_edge (((p1.toUInt32 >>> ((2 : Int32) &&& 31).toUInt32).toInt32) &&& (15 : Int32))))])) (fun _ k => XS.bipush X33.here hx rfl (hb hby at_152) k) ?_
      refine own_pre (F' := T33.setTop (mkF m 155 #[.val (.long q0), .second, .val (.int p1), .val (.int p2), .val (.ref b1), .val (.int (p1 &&& (3 : Int32))), .unset, .unset] [(.int (p2 &&& (7 : Int32))), (.long (own_edge (((p1.toUInt32 >>> ((2 : Int32) &&& 31).toUInt32).toInt32) &&& (15 : Int32))))])) (fun _ k => XS.iand X33.here hx rfl (hb hby at_154) rfl k) ?_
      refine own_pre (F' := T33.setTop (mkF m 156 #[.val (.long q0), .second, .val (.int p1), .val (.int p2), .val (.ref b1), .val (.int (p1 &&& (3 : Int32))), .unset, .unset] [(.int (3 : Int32)), (.int (p2 &&& (7 : Int32))), (.long (own_edge (((p1.toUInt32 >>> ((2 : Int32) &&& 31).toUInt32).toInt32) &&& (15 : Int32))))])) (fun _ k => XS.iconst X33.here hx rfl (hb hby at_155) k) ?_
      refine own_pre (F' := T33.setTop (mkF m 157 #[.val (.long q0), .second, .val (.int p1), .val (.int p2), .val (.ref b1), .val (.int (p1 &&& (3 : Int32))), .unset, .unset] [(.int ((p2 &&& (7 : Int32)) - (3 : Int32))), (.long (own_edge (((p1.toUInt32 >>> ((2 : Int32) &&& 31).toUInt32).toInt32) &&& (15 : Int32))))])) (fun _ k => XS.isub X33.here hx rfl (hb hby at_156) rfl k) ?_
      refine own_pre (F' := T33.setTop (mkF m 158 #[.val (.long q0), .second, .val (.int p1), .val (.int p2), .val (.ref b1), .val (.int (p1 &&& (3 : Int32))), .unset, .unset] [(.long (((p2 &&& (7 : Int32)) - (3 : Int32)).toInt64)), (.long (own_edge (((p1.toUInt32 >>> ((2 : Int32) &&& 31).toUInt32).toInt32) &&& (15 : Int32))))])) (fun _ k => XS.i2l X33.here hx rfl (hb hby at_157) rfl k) ?_
      refine own_pre (F' := T33.setTop (mkF m 159 #[.val (.long q0), .second, .val (.int p1), .val (.int p2), .val (.ref b1), .val (.int (p1 &&& (3 : Int32))), .unset, .unset] [(.long ((own_edge (((p1.toUInt32 >>> ((2 : Int32) &&& 31).toUInt32).toInt32) &&& (15 : Int32))) + (((p2 &&& (7 : Int32)) - (3 : Int32)).toInt64)))])) (fun _ k => XS.ladd X33.here hx rfl (hb hby at_158) rfl k) ?_
      refine own_pre (F' := T33.setTop (mkF m 161 #[.val (.long q0), .second, .val (.int p1), .val (.int p2), .val (.ref b1), .val (.int (p1 &&& (3 : Int32))), .val (.long ((own_edge (((p1.toUInt32 >>> ((2 : Int32) &&& 31).toUInt32).toInt32) &&& (15 : Int32))) + (((p2 &&& (7 : Int32)) - (3 : Int32)).toInt64))), .second] [])) (fun _ k => XS.lstore X33.here hx rfl (hb hby at_159) rfl (l' := #[.val (.long q0), .second, .val (.int p1), .val (.int p2), .val (.ref b1), .val (.int (p1 &&& (3 : Int32))), .val (.long ((own_edge (((p1.toUInt32 >>> ((2 : Int32) &&& 31).toUInt32).toInt32) &&& (15 : Int32))) + (((p2 &&& (7 : Int32)) - (3 : Int32)).toInt64))), .second]) rfl k) ?_
      exact g0_161 hw q0 p1 p2  b1 (p1 &&& (3 : Int32)) ((own_edge (((p1.toUInt32 >>> ((2 : Int32) &&& 31).toUInt32).toInt32) &&& (15 : Int32))) + (((p2 &&& (7 : Int32)) - (3 : Int32)).toInt64)) Bd hml hZ T33 X33 e33 SZ33 NF33
theorem ef_0 (m : MethodId) (q0 : Int64) (p1 : Int32) (p2 : Int32) : entryFrame m #[(.long q0), (.int p1), (.int p2)] maxLocals = mkF m 0 #[.val (.long q0), .second, .val (.int p1), .val (.int p2), .unset, .unset, .unset, .unset] [] := by first | (simp [entryFrame, mkF, argsToLocals, Value.category, maxLocals]; done) | rfl
set_option maxRecDepth 65536 in
set_option maxHeartbeats 40000000 in
theorem rm0 (l : Launch) (Z : State) (aw : Array Value) (hw : ∀ d ∈ tables_1, d.before aw Z = true) (ws : List Jvm.Cond) (q0 : Int64) (p1 : Int32) (p2 : Int32)  (h0 : Heap) (n0 : Nat) (SZ0 : n0 ≤ h0.size) :
    MetFree l x (head1 (Jvm.Cond.code x code maxLocals ret :: ws) room_1) (fun a U => a = #[(.long q0), (.int p1), (.int p2)] ∧ Z.Warmed39 U.vm ∧ U.heap = h0) (fun _ _ _ _ _ => True) (fun _ U o U' => ∃ v L, o = .returned v ∧ own_Q (R0 (f0_0 q0 p1 p2)) (K0 Z  h0 n0 (f0_0 q0 p1 p2)) v U'.heap L ∧ FrameEnd U o U' L room_1.cells room_1.slots) := by
  refine MetFree.of_bodySF (plainFor_of_name own_pn1) hisR ?_
  intro p e s m args below meth c s₁ Bd hml0 hP hK
  obtain ⟨rfl, hZ, hh⟩ := hP
  have hml : c.maxLocals = 8 := hml0
  have e0 : s₁.heap = h0 := by rw [← hh, Bd.state]; rfl
  exact own_pre (fun t k => castTop (ef_0 m q0 p1 p2) k) (g0_0 hw q0 p1 p2  Bd hml hZ s₁ (Stand.of_body Bd) e0 SZ0 (Fr.nil n0))
theorem own_sp {P : Prop} [Decidable P] {a b v : Int32} (h1 : P → a = v) (h2 : ¬ P → b = v) : (if P then a else b) = v := by
  by_cases q : P
  · rw [if_pos q]; exact h1 q
  · rw [if_neg q]; exact h2 q
theorem own_isP (c : Int64) : f1_0 c = if c.toInt = 9 ∨ c.toInt = 10 ∨ c.toInt = 13 ∨ (32 ≤ c.toInt ∧ c.toInt ≤ 55295) ∨ (57344 ≤ c.toInt ∧ c.toInt ≤ 65533) ∨ (65536 ≤ c.toInt ∧ c.toInt ≤ 1114111) then 1 else 0 := by
  unfold f1_0 f1_40 f1_56 f1_72 f1_76
  have e9 : (c = (9 : Int64)) = (c.toInt = 9) := propext Int64.toInt_inj.symm
  have e10 : (c = (10 : Int64)) = (c.toInt = 10) := propext Int64.toInt_inj.symm
  have e13 : (c = (13 : Int64)) = (c.toInt = 13) := propext Int64.toInt_inj.symm
  have e65534 : (c = (65534 : Int64)) = (c.toInt = 65534) := propext Int64.toInt_inj.symm
  have e65535 : (c = (65535 : Int64)) = (c.toInt = 65535) := propext Int64.toInt_inj.symm
  simp only [Int64.lt_iff_toInt_lt, e9, e10, e13, e65534, e65535, show (0 : Int64).toInt = 0 from rfl, show (9 : Int64).toInt = 9 from rfl, show (10 : Int64).toInt = 10 from rfl, show (13 : Int64).toInt = 13 from rfl, show (32 : Int64).toInt = 32 from rfl, show (55295 : Int64).toInt = 55295 from rfl, show (55296 : Int64).toInt = 55296 from rfl, show (57343 : Int64).toInt = 57343 from rfl, show (57344 : Int64).toInt = 57344 from rfl, show (65533 : Int64).toInt = 65533 from rfl, show (65534 : Int64).toInt = 65534 from rfl, show (65535 : Int64).toInt = 65535 from rfl, show (65536 : Int64).toInt = 65536 from rfl, show (1114111 : Int64).toInt = 1114111 from rfl, show (2097151 : Int64).toInt = 2097151 from rfl]
  by_cases hP : c.toInt = 9 ∨ c.toInt = 10 ∨ c.toInt = 13 ∨ (32 ≤ c.toInt ∧ c.toInt ≤ 55295) ∨ (57344 ≤ c.toInt ∧ c.toInt ≤ 65533) ∨ (65536 ≤ c.toInt ∧ c.toInt ≤ 1114111)
  · rw [if_pos hP]; (repeat' (refine own_sp (fun _ => ?_) (fun _ => ?_))) <;> first | rfl | (exfalso; omega)
  · rw [if_neg hP]; (repeat' (refine own_sp (fun _ => ?_) (fun _ => ?_))) <;> first | rfl | (exfalso; omega)
theorem own_exP (c : Int64) : f2_0 c = if c.toInt = 9 ∨ c.toInt = 10 ∨ c.toInt = 13 ∨ (32 ≤ c.toInt ∧ c.toInt ≤ 55295) ∨ (57344 ≤ c.toInt ∧ c.toInt ≤ 65533) ∨ (65536 ≤ c.toInt ∧ c.toInt ≤ 1114111) then 0 else 1 := by
  unfold f2_0 f2_74 f2_90 f2_54
  have e9 : (c = (9 : Int64)) = (c.toInt = 9) := propext Int64.toInt_inj.symm
  have e10 : (c = (10 : Int64)) = (c.toInt = 10) := propext Int64.toInt_inj.symm
  have e13 : (c = (13 : Int64)) = (c.toInt = 13) := propext Int64.toInt_inj.symm
  have e65534 : (c = (65534 : Int64)) = (c.toInt = 65534) := propext Int64.toInt_inj.symm
  have e65535 : (c = (65535 : Int64)) = (c.toInt = 65535) := propext Int64.toInt_inj.symm
  simp only [Int64.lt_iff_toInt_lt, e9, e10, e13, e65534, e65535, show (0 : Int64).toInt = 0 from rfl, show (9 : Int64).toInt = 9 from rfl, show (10 : Int64).toInt = 10 from rfl, show (13 : Int64).toInt = 13 from rfl, show (32 : Int64).toInt = 32 from rfl, show (55295 : Int64).toInt = 55295 from rfl, show (55296 : Int64).toInt = 55296 from rfl, show (57343 : Int64).toInt = 57343 from rfl, show (57344 : Int64).toInt = 57344 from rfl, show (65533 : Int64).toInt = 65533 from rfl, show (65534 : Int64).toInt = 65534 from rfl, show (65535 : Int64).toInt = 65535 from rfl, show (65536 : Int64).toInt = 65536 from rfl, show (1114111 : Int64).toInt = 1114111 from rfl, show (2097151 : Int64).toInt = 2097151 from rfl]
  by_cases hP : c.toInt = 9 ∨ c.toInt = 10 ∨ c.toInt = 13 ∨ (32 ≤ c.toInt ∧ c.toInt ≤ 55295) ∨ (57344 ≤ c.toInt ∧ c.toInt ≤ 65533) ∨ (65536 ≤ c.toInt ∧ c.toInt ≤ 1114111)
  · rw [if_pos hP]; (repeat' (refine own_sp (fun _ => ?_) (fun _ => ?_))) <;> first | rfl | (exfalso; omega)
  · rw [if_neg hP]; (repeat' (refine own_sp (fun _ => ?_) (fun _ => ?_))) <;> first | rfl | (exfalso; omega)
theorem own_mid (a : Int64) (b c : Int32) (n : Int64) : f0_161 a b c n = 1 := by
  unfold f0_161 f0_179
  rw [own_isP, own_exP]
  by_cases hP : n.toInt = 9 ∨ n.toInt = 10 ∨ n.toInt = 13 ∨ (32 ≤ n.toInt ∧ n.toInt ≤ 55295) ∨ (57344 ≤ n.toInt ∧ n.toInt ≤ 65533) ∨ (65536 ≤ n.toInt ∧ n.toInt ≤ 1114111)
  · rw [if_pos hP, if_pos hP]; rfl
  · rw [if_neg hP, if_neg hP]; rfl
theorem own_law (a : Int64) (b c : Int32) : f0_0 a b c = 1 := by
  unfold f0_0
  exact own_sp (fun _ => own_mid _ _ _ _) (fun _ => own_sp (fun _ => own_mid _ _ _ _) (fun _ => own_mid _ _ _ _))
set_option maxRecDepth 65536 in
set_option maxHeartbeats 40000000 in
theorem comes_1 {Post : Tables → Env → Array Value → State → Outcome → State → Prop} (hpost : ∀ tb e args s v u, (limb_1_1.after args s (.returned v) u = true ∧ limb_1_2.after args s (.returned v) u = true ∧ True) → FrameEnd s (.returned v) u (Jvm.fieldLocs frame_1_writes args s ++ Jvm.arrayLocs frame_1_arrays args s ++ Jvm.staticLocs frame_1_statics s) 16 128 → Post tb e args s (.returned v) u) :
    ArmFor flags0 classFile x code maxLocals ret World_1 tables_1 room_1 Calls_1 rest_1 Pre_1 Post := by
  intro l hfl _ _ p e ha hc hk s m args below hf hA hF happ hP
  obtain ⟨hcalls, hrest, hpre⟩ := hP
  obtain ⟨-, -, -, hnamed, -, -, -, hat⟩ := (Spec.applies_iff hf).mp happ
  obtain ⟨hg, hn⟩ := and_e (Cond.before_iff.mp (show (Jvm.Cond.and given_1 narrow_1).before args s = true from hpre))
  obtain ⟨g1, g2⟩ := and_e hg
  obtain ⟨g3, g4⟩ := and_e g2
  obtain ⟨g5, g6⟩ := and_e g4
  obtain ⟨w0, w1, w2, rfl⟩ : ∃ w0 w1 w2 : Value, args = #[w0, w1, w2] := by
    have hs : args.size = 3 := by simpa [Cond.value, given_1] using g1
    obtain ⟨L⟩ := args
    match L, hs with
    | [w0, w1, w2], _ => exact ⟨w0, w1, w2, rfl⟩
  have hw := fun d (hd : d ∈ tables_1) => atoms_spec (ws := Jvm.Cond.code x code maxLocals ret :: tables_1) hat d (List.mem_cons_of_mem _ hd)
  have hfit : Fit s := fun {y c} hc i hi => by
    obtain ⟨ha, rfl⟩ := Array.getElem?_eq_some_iff.mp hc
    have q := List.all_eq_true.mp ((Array.all_eq_true_iff_forall_mem.mp hF) _ (Array.getElem_mem ha)) i (List.mem_range.mpr hi)
    simpa [Array.getElem?_eq_getElem hi] using q
  obtain ⟨i0, ei0⟩ := isL_v g3
  obtain rfl : w0 = (.long i0) := Option.some.inj ei0
  obtain ⟨i1, ei1⟩ := is_v g5
  obtain rfl : w1 = (.int i1) := Option.some.inj ei1
  obtain ⟨i2, ei2⟩ := is_v g6
  obtain rfl : w2 = (.int i2) := Option.some.inj ei2
  obtain ⟨n, o, h1, h2, h3, v, L, rfl, ⟨hv, hK⟩, hq⟩ := rm0 l s _ hw tables_1 i0 i1 i2 s.heap s.heap.size (Nat.le_refl _) p e ha hc hk s m _ below hf ((Spec.applies_iff_loose hf).mp happ).1 ⟨rfl, State.Warmed39.refl s, rfl⟩ trivial
  rw [R0, own_law] at hv
  subst hv
  refine ⟨n, _, h1, h2, h3, hpost _ _ _ _ _ _ ⟨Cond.after_iff.mpr rfl, Cond.after_iff.mpr (eq_i res_at (Term.int_eval (1)) rfl), trivial⟩ ⟨hq.1, hq.2.1, (hq.2.2.sift fun y hy => ?_).mono (by decide) (by decide)⟩⟩
  exact Or.inr (hK y hy)
theorem main_1_1 : Claimed_1_1 := comes_1 fun _ _ _ _ _ _ h hF => ⟨h.1, hF⟩
theorem main_1_2 : Claimed_1_2 := comes_1 fun _ _ _ _ _ _ h hF => ⟨h.2.1, hF⟩
end Jvm.Pilot.@@N@@
namespace Jvm.Pilot.@@N@@
open Jvm Jvm.ClassFile Sem Op Lib Jvm.Free Jvm.Stand Jvm.Pilot.@@N@@.Jvm.D
/-! MADE BY PROGRAM (witnessworld.py) out of the Statement's table words and the real class files: 11 classes; the members and pool entries that the words name. The judged class is class 1, her method 1. -/
namespace start1
open Jvm.ClassFile
def u (s : String) : CpInfo := .utf8 (stringToUtf16 s)
/-- a pool by its gaps: so many unusable entries, then the entry; so many at the end -/
def gap : Nat → List CpInfo → List CpInfo
  | 0, r => r
  | n + 1, r => .unusable :: gap n r
def poolList (es : List (Nat × CpInfo)) (last : Nat) : List CpInfo := es.foldr (fun e r => gap e.1 (e.2 :: r)) (gap last [])
def pool (es : List (Nat × CpInfo)) (last : Nat) : Array CpInfo := ⟨poolList es last⟩
def fileOf (pool : Array CpInfo) (this : Nat) (attrs : Array Attribute := #[]) (ms : Array MethodInfo := #[]) (fl : Nat := 33) (sup : Nat := 0) (ifs : Array Nat := #[]) (fds : Array FieldInfo := #[]) : ClassFile where
  minorVersion := 0
  majorVersion := 65
  constantPool := pool
  accessFlags := fl
  thisClass := this
  superClass := sup
  interfaces := ifs
  fields := fds
  methods := ms
  attributes := attrs
def plain (name : String) (sup : Option ClassId) : Class where
  name := name
  kind := .ordinary
  loader := none
  accessFlags := 33
  super := sup
  interfaces := #[]
  cf := none
  fields := #[]
  methods := #[]
  instanceTypes := #[]
  staticTypes := #[]
  resolved := #[]
  callSites := []
  init := .initialized
  statics := none
  mirror := none

def pool0 : Array CpInfo := pool [(5, u "<init>"), (0, u "()V"), (1, .class_ 10), (1, u "java/lang/Object")] 113

def k0m0 : Method := { name := "<init>", desc := "()V", sig := { parameters := [], returnType := none }, accessFlags := 1, code := none }
/-- java/lang/Object -/
def k0 : Class := { plain "java/lang/Object" none with
  accessFlags := 33
  interfaces := #[]
  cf := some (fileOf pool0 8 #[] #[{ accessFlags := 1, nameIndex := 5, descriptorIndex := 6, attributes := #[] }] 33 0 #[] #[])
  fields := #[]
  methods := #[k0m0]
  instanceTypes := #[]
  staticTypes := #[]
  resolved := Array.replicate 124 none
  statics := none }

def pool1 : Array CpInfo := pool [(2, .class_ 4), (1, u "java/lang/Object"), (0, u "<init>"), (0, u "()V"), (0, .long 9), (1, .long 10), (1, .long 13), (1, .long 32), (1, .long 55295), (1, .long 55296), (1, .long 57343), (1, .long 57344), (1, .long 65533), (1, .long 65535), (1, .long 65536), (1, .long 1114111), (1, .long 1114112), (3, .long 9223372036854775808), (1, .long 9223372036854775807), (1, .long 2097151), (1, .methodref 42 43), (0, .class_ 44), (0, .nameAndType 45 46), (0, u "com/example/tersemark/tersemark/codec/XmlGrammar"), (0, u "isCharacter"), (0, u "(J)Z"), (0, .methodref 48 49), (0, .class_ 50), (0, .nameAndType 51 46), (0, u "com/example/tersemark/tersemark/codec/XmlGrammarIsCharacterPinLaw"), (0, u "excluded"), (0, .long 65534), (3, u "law"), (0, u "(JII)Z")] 5

def k1m0 : Method := { name := "<init>", desc := "()V", sig := { parameters := [], returnType := none }, accessFlags := 2, code := none }
def k1c1 : Code := { maxStack := 5, maxLocals := 8, code := code, exceptionTable := #[], attributes := #[] }
def k1m1 : Method := { name := "law", desc := "(JII)Z", sig := { parameters := [.long, .int, .int], returnType := some .boolean }, accessFlags := 9, code := some k1c1 }
def k1c2 : Code := { maxStack := 4, maxLocals := 2, code := method_3_code, exceptionTable := #[], attributes := #[] }
def k1m2 : Method := { name := "excluded", desc := "(J)Z", sig := { parameters := [.long], returnType := some .boolean }, accessFlags := 10, code := some k1c2 }
/-- com/example/tersemark/tersemark/codec/XmlGrammarIsCharacterPinLaw -/
def k1 : Class := { plain "com/example/tersemark/tersemark/codec/XmlGrammarIsCharacterPinLaw" (some 0) with
  accessFlags := 49
  interfaces := #[]
  cf := some (fileOf pool1 48 #[] #[{ accessFlags := 2, nameIndex := 5, descriptorIndex := 6, attributes := #[] }, { accessFlags := 9, nameIndex := 56, descriptorIndex := 57, attributes := #[] }, { accessFlags := 10, nameIndex := 51, descriptorIndex := 46, attributes := #[] }] 49 2 #[] #[])
  fields := #[]
  methods := #[k1m0, k1m1, k1m2]
  instanceTypes := #[]
  staticTypes := #[]
  resolved := Array.replicate 63 none
  statics := none }

def pool2 : Array CpInfo := pool [(2, .class_ 4), (1, u "java/lang/Object"), (0, u "<init>"), (0, u "()V"), (0, .long 9), (1, .long 10), (1, .long 13), (1, .long 32), (1, .long 55295), (1, .long 57344), (1, .long 65533), (1, .long 65536), (1, .long 1114111), (12, .class_ 38), (1, u "com/example/tersemark/tersemark/codec/XmlGrammar"), (0, u "isCharacter"), (0, u "(J)Z")] 118

def k2m0 : Method := { name := "<init>", desc := "()V", sig := { parameters := [], returnType := none }, accessFlags := 2, code := none }
def k2c1 : Code := { maxStack := 4, maxLocals := 2, code := prog_75_method_2_code, exceptionTable := #[], attributes := #[] }
def k2m1 : Method := { name := "isCharacter", desc := "(J)Z", sig := { parameters := [.long], returnType := some .boolean }, accessFlags := 8, code := some k2c1 }
/-- com/example/tersemark/tersemark/codec/XmlGrammar -/
def k2 : Class := { plain "com/example/tersemark/tersemark/codec/XmlGrammar" (some 0) with
  accessFlags := 48
  interfaces := #[]
  cf := some (fileOf pool2 36 #[] #[{ accessFlags := 2, nameIndex := 5, descriptorIndex := 6, attributes := #[] }, { accessFlags := 8, nameIndex := 39, descriptorIndex := 40, attributes := #[] }] 48 2 #[] #[])
  fields := #[]
  methods := #[k2m0, k2m1]
  instanceTypes := #[]
  staticTypes := #[]
  resolved := Array.replicate 159 none
  statics := none }

def pool3 : Array CpInfo := pool [(1, u "java/lang/Cloneable"), (0, .class_ 1), (0, u "java/lang/Object"), (0, .class_ 3)] 3

/-- java/lang/Cloneable -/
def k3 : Class := { plain "java/lang/Cloneable" (some 0) with
  accessFlags := 1537
  interfaces := #[]
  cf := some (fileOf pool3 2 #[] #[] 1537 4 #[] #[])
  fields := #[]
  methods := #[]
  instanceTypes := #[]
  staticTypes := #[]
  resolved := Array.replicate 8 none
  statics := none }

def pool4 : Array CpInfo := pool [(1, u "java/io/Serializable"), (0, .class_ 1), (0, u "java/lang/Object"), (0, .class_ 3)] 3

/-- java/io/Serializable -/
def k4 : Class := { plain "java/io/Serializable" (some 0) with
  accessFlags := 1537
  interfaces := #[]
  cf := some (fileOf pool4 2 #[] #[] 1537 4 #[] #[])
  fields := #[]
  methods := #[]
  instanceTypes := #[]
  staticTypes := #[]
  resolved := Array.replicate 8 none
  statics := none }

/-- the primitive byte -/
def k5 : Class := { plain "byte" none with kind := .primitive 'B', accessFlags := 0x411 }
/-- [B -/
def k6 : Class := { plain "[B" (some 0) with kind := .array 5 .byte, interfaces := #[3, 4], accessFlags := 1041 }

/-- the primitive int -/
def k7 : Class := { plain "int" none with kind := .primitive 'I', accessFlags := 0x411 }
/-- [I -/
def k8 : Class := { plain "[I" (some 0) with kind := .array 7 .int, interfaces := #[3, 4], accessFlags := 1041 }

/-- the primitive long -/
def k9 : Class := { plain "long" none with kind := .primitive 'J', accessFlags := 0x411 }
/-- [J -/
def k10 : Class := { plain "[J" (some 0) with kind := .array 9 .long, interfaces := #[3, 4], accessFlags := 1041 }

def heap : Heap := #[]
def classes : Array Class := #[k0, k1, k2, k3, k4, k5, k6, k7, k8, k9, k10]
def interned : List (Array UInt16 × Addr) := []
def slotsUsed : Nat := 0
def theMethod : MethodId := ⟨1, 1⟩
def args0 : Array Value := #[.long 5, .int 7, .int 5]
def aboutOver (below : List Frame) : State where
  vm := { classes := classes, interned := interned.toArray }
  heap := heap
  slotsUsed := slotsUsed
  threads := #[{ frames := .invoking theMethod args0 :: below }]
def below0 : List Frame := [.native { method := ⟨0, 0⟩, args := #[] }]
def about1 : State := aboutOver below0
def p0 : Program := .bare "" "" ""
def e0 : Env := launch0.env 0 0 0
theorem w_frames : about1.frames = Frame.invoking theMethod args0 :: below0 := rfl
set_option maxRecDepth 65536 in
theorem w_args : argsFit about1.vm theMethod args0 = true := by decide +kernel
set_option maxRecDepth 65536 in
theorem w_heap : heapFits about1 = true := by decide +kernel
set_option maxRecDepth 65536 in
theorem w_runnable : about1.curStatus? = some .runnable := by decide +kernel
set_option maxRecDepth 65536 in
theorem w_alone : about1.alone = true := by decide +kernel
set_option maxRecDepth 65536 in
theorem w_named : about1.methodNamed? x = some theMethod := by decide +kernel
set_option maxRecDepth 65536 in
theorem w_hears : about1.hears theMethod below0 = true := by decide +kernel
set_option maxRecDepth 65536 in
theorem w_ripe : about1.ripe theMethod args0 below0 = true := by decide +kernel
theorem w_running : about1.status = .running := rfl
set_option maxRecDepth 65536 in
theorem w_room : about1.hasRoom e0.platform room_1 = true :=
  launch0.hasRoom_least _ room_1 (by decide +kernel) (by decide +kernel) (by decide +kernel) (by decide +kernel) (by decide +kernel) (by decide +kernel)
theorem allAtoms_all (ts : List Jvm.Cond) (a : Array Jvm.Value) (st : Jvm.State) : (allAtoms ts).before a st = ts.all (fun c => c.before a st) := by
  induction ts with
  | nil => rfl
  | cons c t ih =>
    show (Jvm.Cond.and c (allAtoms t)).before a st = _
    rw [Jvm.Cond.before_and, ih, List.all_cons]
def words1 : List Jvm.Cond := Jvm.Cond.code x code maxLocals ret :: tables_1
/-- a 'code' word, met by the world's own term for the bytes: nothing is compared byte by byte -/
theorem code_word {y : MethodName} {bytes : ByteArray} {mx : Nat} {rt : Option FieldType} {a : Array Value} {s : State} {m : MethodId} {meth : Method} {c : Code} (h1 : s.methodNamed? y = some m) (h2 : s.vm.method? m = some meth) (h3 : meth.code = some c) (h4 : c.code = bytes)
    (h5 : (c.maxLocals == mx && c.exceptionTable.isEmpty && decide (c.maxStack ≤ mostOperands) && decide (meth.sig.returnType = rt) && !meth.locks && decide (parseMethodDescriptor y.desc = some meth.sig)) = true) : (Jvm.Cond.code y bytes mx rt).before a s = true := by
  simp only [Bool.and_eq_true, beq_iff_eq, Bool.not_eq_true', decide_eq_true_eq] at h5
  obtain ⟨⟨⟨⟨⟨g1, g2⟩, g3⟩, g4⟩, g5⟩, g6⟩ := h5
  simp [Cond.before, Cond.holds, Cond.value, h1, h2, h3, h4, g1, g2, g3, g4, g5, g6]
def isCode : Jvm.Cond → Bool
  | .code _ _ _ _ => true
  | _ => false
theorem all_split {L : List Jvm.Cond} {P : Jvm.Cond → Bool} (h1 : L.all (fun c => isCode c || P c) = true) (h2 : ∀ c ∈ L.filter isCode, P c = true) : L.all P = true := by
  refine List.all_eq_true.mpr fun c hc => ?_
  have h := List.all_eq_true.mp h1 c hc
  rcases Bool.eq_false_or_eq_true (isCode c) with hi | hi
  · exact h2 c (List.mem_filter.mpr ⟨hc, hi⟩)
  · simpa [hi] using h
set_option maxRecDepth 65536 in
theorem w_c0 : (Jvm.Cond.code x code maxLocals ret).before args0 about1 = true := code_word (m := ⟨1, 1⟩) (meth := k1m1) (c := k1c1) (by decide +kernel) rfl rfl rfl (by decide +kernel)
set_option maxRecDepth 65536 in
theorem w_c1 : (Jvm.Cond.code ({ cls := "com/example/tersemark/tersemark/codec/XmlGrammar", name := "isCharacter", desc := "(J)Z" } : Jvm.MethodName) prog_75_method_2_code (2 : Nat) (Option.some Jvm.ClassFile.FieldType.boolean)).before args0 about1 = true := code_word (m := ⟨2, 1⟩) (meth := k2m1) (c := k2c1) (by decide +kernel) rfl rfl rfl (by decide +kernel)
set_option maxRecDepth 65536 in
theorem w_c2 : (Jvm.Cond.code ({ cls := "com/example/tersemark/tersemark/codec/XmlGrammarIsCharacterPinLaw", name := "excluded", desc := "(J)Z" } : Jvm.MethodName) method_3_code (2 : Nat) (Option.some Jvm.ClassFile.FieldType.boolean)).before args0 about1 = true := code_word (m := ⟨1, 2⟩) (meth := k1m2) (c := k1c2) (by decide +kernel) rfl rfl rfl (by decide +kernel)
def codes1 : List Jvm.Cond := [Jvm.Cond.code x code maxLocals ret, Jvm.Cond.code ({ cls := "com/example/tersemark/tersemark/codec/XmlGrammar", name := "isCharacter", desc := "(J)Z" } : Jvm.MethodName) prog_75_method_2_code (2 : Nat) (Option.some Jvm.ClassFile.FieldType.boolean), Jvm.Cond.code ({ cls := "com/example/tersemark/tersemark/codec/XmlGrammarIsCharacterPinLaw", name := "excluded", desc := "(J)Z" } : Jvm.MethodName) method_3_code (2 : Nat) (Option.some Jvm.ClassFile.FieldType.boolean)]
set_option maxRecDepth 65536 in
theorem codes_eq : words1.filter isCode = codes1 := rfl
theorem w_codes : ∀ c ∈ words1.filter isCode, c.before args0 about1 = true := by
  rw [codes_eq]
  intro c hc
  simp only [codes1, List.mem_cons, List.not_mem_nil, or_false] at hc
  rcases hc with rfl | rfl | rfl
  · exact w_c0
  · exact w_c1
  · exact w_c2
set_option maxRecDepth 65536 in
theorem w_t1 : (words1.take 24).all (fun c => isCode c || c.before args0 about1) = true := by decide +kernel
set_option maxRecDepth 65536 in
theorem w_t2 : (words1.drop 24).all (fun c => isCode c || c.before args0 about1) = true := by decide +kernel
theorem w_tables : (allAtoms (Jvm.Cond.code x code maxLocals ret :: tables_1)).before args0 about1 = true := by
  rw [allAtoms_all]
  show words1.all (fun c => c.before args0 about1) = true
  refine all_split ?_ w_codes
  rw [← List.take_append_drop 24 words1, List.all_append, w_t1, w_t2]
  rfl
set_option maxRecDepth 65536 in
theorem w_case : (Jvm.Cond.and given_1 narrow_1).before args0 about1 = true := by decide +kernel
theorem w_applies : (headSpec (Jvm.Cond.code x code maxLocals ret :: tables_1) room_1).applies x e0.platform about1 = true :=
  (Spec.applies_iff w_frames).mpr ⟨w_running, w_runnable, w_alone, w_named, w_hears, w_ripe, w_room, w_tables⟩
theorem atStart : AtStart classFile x code maxLocals ret World_1 tables_1 room_1 Calls_1 rest_1 Pre_1 launch0 p0 e0 about1 theMethod args0 below0 :=
  ⟨lists_1, trivial, launch0.admits_env _ _ _, launch0.least_env, fairChoices_fair.cas, fairChoices_fair.clock, w_frames, w_args, w_heap, w_applies, trivial, trivial, w_case⟩
end start1
theorem witness_1 : WitnessClaimed_1 := ⟨start1.p0, start1.e0, start1.about1, start1.theMethod, start1.args0, start1.below0, start1.atStart⟩
end Jvm.Pilot.@@N@@
